import JvmDerived
import JvmDerived.Pilot.@@N@@Statement
import JvmDerived.Pilot.@@N@@Code
set_option linter.unusedVariables false
set_option linter.unusedSimpArgs false
namespace Jvm.Pilot.@@N@@
open Jvm Jvm.ClassFile Sem Op Lib Jvm.Free Jvm.Stand Jvm.LawKit Jvm.RoadKit Bundle Jvm.Pilot.@@N@@.Jvm.D

/-! own layer: a run that ends well, step by step (every lemma here is of this text) -/
section Own
variable {p : Program} {l : Launch} {e : Env} {R : Room} {s : State} {m : MethodId} {args : Array Value} {below : List Frame} {meth : Method} {c : Code} {T : State} {locs : List Loc} {cells slots : Nat} {P : State → Outcome → Prop} {pc pc' pc1 : Nat} {L L' : Array Slot} {S : List Value} {Z : State} {a0 : Array Value} {h : Heap}
/-- from this frame the run ends, and P holds of the end -/
def Ends (p : Program) (e : Env) (below : List Frame) (P : State → Outcome → Prop) (T : State) (m : MethodId) (pc : Nat) (L : Array Slot) (S : List Value) : Prop :=
  ∃ t o, Steps p.tables e below (T.setTop (mkF m pc L S)) t ∧ t.status = .running ∧ Ended t below o ∧ P t o
theorem Ends.of {T' : State} {S' : List Value} (k : Ends p e below P T' m pc' L' S') (h : ∀ target, Steps p.tables e below (T'.setTop (mkF m pc' L' S')) target → Steps p.tables e below (T.setTop (mkF m pc L S)) target) : Ends p e below P T m pc L S := by
  obtain ⟨t, o, h1, h2⟩ := k; exact ⟨t, o, h _ h1, h2⟩
theorem eILoadN (X : Stand p l e R s m args below meth c T locs cells slots) (hx : p.tables.exec = Jvm.exec) {k : Fin 4} {v : Int32} (hd : decode c.code pc = .ok (.iload_n k, 1)) (hl : L[k.val]? = some (.val (.int v))) (hp : pc + 1 = pc') (kk : Ends p e below P T m pc' L (.int v :: S)) : Ends p e below P T m pc L S := by
  subst hp; exact kk.of fun t h => XS.iloadN X.here hx rfl hd hl h
theorem eILoad (X : Stand p l e R s m args below meth c T locs cells slots) (hx : p.tables.exec = Jvm.exec) {k : Nat} {v : Int32} (hd : decode c.code pc = .ok (.iload k, 2)) (hl : L[k]? = some (.val (.int v))) (hp : pc + 2 = pc') (kk : Ends p e below P T m pc' L (.int v :: S)) : Ends p e below P T m pc L S := by
  subst hp; exact kk.of fun t h => XS.iload X.here hx rfl hd hl h
theorem eLLoadN (X : Stand p l e R s m args below meth c T locs cells slots) (hx : p.tables.exec = Jvm.exec) {k : Fin 4} {v : Int64} (hd : decode c.code pc = .ok (.lload_n k, 1)) (hl : L[k.val]? = some (.val (.long v))) (hp : pc + 1 = pc') (kk : Ends p e below P T m pc' L (.long v :: S)) : Ends p e below P T m pc L S := by
  subst hp; exact kk.of fun t h => XT.lloadN X.here hx rfl hd hl h
theorem eLLoad (X : Stand p l e R s m args below meth c T locs cells slots) (hx : p.tables.exec = Jvm.exec) {k : Nat} {v : Int64} (hd : decode c.code pc = .ok (.lload k, 2)) (hl : L[k]? = some (.val (.long v))) (hp : pc + 2 = pc') (kk : Ends p e below P T m pc' L (.long v :: S)) : Ends p e below P T m pc L S := by
  subst hp; exact kk.of fun t h => XT.lload X.here hx rfl hd hl h
theorem eALoadN (X : Stand p l e R s m args below meth c T locs cells slots) (hx : p.tables.exec = Jvm.exec) {k : Fin 4} {v : Value} (hd : decode c.code pc = .ok (.aload_n k, 1)) (hl : L[k.val]? = some (.val v)) (hv : v.isRef = true) (hp : pc + 1 = pc') (kk : Ends p e below P T m pc' L (v :: S)) : Ends p e below P T m pc L S := by
  subst hp; exact kk.of fun t h => XS.aloadN X.here hx rfl hd hl hv h
theorem eALoad (X : Stand p l e R s m args below meth c T locs cells slots) (hx : p.tables.exec = Jvm.exec) {k : Nat} {v : Value} (hd : decode c.code pc = .ok (.aload k, 2)) (hl : L[k]? = some (.val v)) (hv : v.isRef = true) (hp : pc + 2 = pc') (kk : Ends p e below P T m pc' L (v :: S)) : Ends p e below P T m pc L S := by
  subst hp; exact kk.of fun t h => XS.aload X.here hx rfl hd hl hv h
theorem eIStoreN (X : Stand p l e R s m args below meth c T locs cells slots) (hx : p.tables.exec = Jvm.exec) {k : Fin 4} {v : Int32} (hd : decode c.code pc = .ok (.istore_n k, 1)) (hl : storeLocals L k.val (.int v) = some L') (hp : pc + 1 = pc') (kk : Ends p e below P T m pc' L' S) : Ends p e below P T m pc L (.int v :: S) := by
  subst hp; exact kk.of fun t h => XS.istoreN X.here hx rfl hd rfl hl h
theorem eIStore (X : Stand p l e R s m args below meth c T locs cells slots) (hx : p.tables.exec = Jvm.exec) {k : Nat} {v : Int32} (hd : decode c.code pc = .ok (.istore k, 2)) (hl : storeLocals L k (.int v) = some L') (hp : pc + 2 = pc') (kk : Ends p e below P T m pc' L' S) : Ends p e below P T m pc L (.int v :: S) := by
  subst hp; exact kk.of fun t h => XS.istore X.here hx rfl hd rfl hl h
theorem eLStoreN (X : Stand p l e R s m args below meth c T locs cells slots) (hx : p.tables.exec = Jvm.exec) {k : Fin 4} {v : Int64} (hd : decode c.code pc = .ok (.lstore_n k, 1)) (hl : storeLocals L k.val (.long v) = some L') (hp : pc + 1 = pc') (kk : Ends p e below P T m pc' L' S) : Ends p e below P T m pc L (.long v :: S) := by
  subst hp; exact kk.of fun t h => XT.lstoreN X.here hx rfl hd rfl hl h
theorem eLStore (X : Stand p l e R s m args below meth c T locs cells slots) (hx : p.tables.exec = Jvm.exec) {k : Nat} {v : Int64} (hd : decode c.code pc = .ok (.lstore k, 2)) (hl : storeLocals L k (.long v) = some L') (hp : pc + 2 = pc') (kk : Ends p e below P T m pc' L' S) : Ends p e below P T m pc L (.long v :: S) := by
  subst hp; exact kk.of fun t h => XT.lstore X.here hx rfl hd rfl hl h
theorem eAStoreN (X : Stand p l e R s m args below meth c T locs cells slots) (hx : p.tables.exec = Jvm.exec) {k : Fin 4} {v : Value} (hd : decode c.code pc = .ok (.astore_n k, 1)) (hv : v.isRef = true) (hl : storeLocals L k.val v = some L') (hp : pc + 1 = pc') (kk : Ends p e below P T m pc' L' S) : Ends p e below P T m pc L (v :: S) := by
  subst hp; exact kk.of fun t h => XS.astoreN X.here hx rfl hd rfl hv hl h
theorem eAStore (X : Stand p l e R s m args below meth c T locs cells slots) (hx : p.tables.exec = Jvm.exec) {k : Nat} {v : Value} (hd : decode c.code pc = .ok (.astore k, 2)) (hv : v.isRef = true) (hl : storeLocals L k v = some L') (hp : pc + 2 = pc') (kk : Ends p e below P T m pc' L' S) : Ends p e below P T m pc L (v :: S) := by
  subst hp; exact kk.of fun t h => XS.astore X.here hx rfl hd rfl hv hl h
theorem eIConst (X : Stand p l e R s m args below meth c T locs cells slots) (hx : p.tables.exec = Jvm.exec) {i : Int} (v : Int32) (hd : decode c.code pc = .ok (.iconst i, 1)) (hv : Int32.ofInt i = v) (hp : pc + 1 = pc') (kk : Ends p e below P T m pc' L (.int v :: S)) : Ends p e below P T m pc L S := by
  subst hp hv; exact kk.of fun t h => XS.iconst X.here hx rfl hd h
theorem eBipush (X : Stand p l e R s m args below meth c T locs cells slots) (hx : p.tables.exec = Jvm.exec) {i : Int} (v : Int32) (hd : decode c.code pc = .ok (.bipush i, 2)) (hv : (Int8.ofInt i).toInt32 = v) (hp : pc + 2 = pc') (kk : Ends p e below P T m pc' L (.int v :: S)) : Ends p e below P T m pc L S := by
  subst hp hv; exact kk.of fun t h => XS.bipush X.here hx rfl hd h
theorem eSipush (X : Stand p l e R s m args below meth c T locs cells slots) (hx : p.tables.exec = Jvm.exec) {i : Int} (v : Int32) (hd : decode c.code pc = .ok (.sipush i, 3)) (hv : (Int16.ofInt i).toInt32 = v) (hp : pc + 3 = pc') (kk : Ends p e below P T m pc' L (.int v :: S)) : Ends p e below P T m pc L S := by
  subst hp hv; exact kk.of fun t h => XS.sipush X.here hx rfl hd h
theorem eLConst (X : Stand p l e R s m args below meth c T locs cells slots) (hx : p.tables.exec = Jvm.exec) {k : Fin 2} (v : Int64) (hd : decode c.code pc = .ok (.lconst k, 1)) (hv : Int64.ofNat k = v) (hp : pc + 1 = pc') (kk : Ends p e below P T m pc' L (.long v :: S)) : Ends p e below P T m pc L S := by
  subst hp; exact kk.of fun t h => XT.lconstV X.here hx rfl v hd hv h
theorem eNull (X : Stand p l e R s m args below meth c T locs cells slots) (hx : p.tables.exec = Jvm.exec) (hd : decode c.code pc = .ok (.aconst_null, 1)) (hp : pc + 1 = pc') (kk : Ends p e below P T m pc' L (.null :: S)) : Ends p e below P T m pc L S := by
  subst hp; exact kk.of fun t h => XS.aconstNull X.here hx rfl hd h
theorem eLdcI (X : Stand p l e R s m args below meth c T locs cells slots) (hx : p.tables.exec = Jvm.exec) (hZ : Z.Warmed39 s.vm) {own : String} {index : Nat} {v : Int32} (hown : s.vm.findClass own = some m.cls) (w : (Cond.constant own index v).before a0 Z = true) (hd : decode c.code pc = .ok (.ldc index, 2)) (hp : pc + 2 = pc') (kk : Ends p e below P T m pc' L (.int v :: S)) : Ends p e below P T m pc L S := by
  subst hp; exact kk.of fun t h => X.ldcI hx hown (mvT hZ w) rfl hd h
theorem eLdcWI (X : Stand p l e R s m args below meth c T locs cells slots) (hx : p.tables.exec = Jvm.exec) (hZ : Z.Warmed39 s.vm) {own : String} {index : Nat} {v : Int32} (hown : s.vm.findClass own = some m.cls) (w : (Cond.constant own index v).before a0 Z = true) (hd : decode c.code pc = .ok (.ldc_w index, 3)) (hp : pc + 3 = pc') (kk : Ends p e below P T m pc' L (.int v :: S)) : Ends p e below P T m pc L S := by
  subst hp; exact kk.of fun t h => X.ldcWI hx hown (mvT hZ w) rfl hd h
theorem eLdc2J (X : Stand p l e R s m args below meth c T locs cells slots) (hx : p.tables.exec = Jvm.exec) (hZ : Z.Warmed39 s.vm) {own : String} {index : Nat} {v : Int64} (hown : s.vm.findClass own = some m.cls) (w : (Cond.constantLong own index v).before a0 Z = true) (hd : decode c.code pc = .ok (.ldc2_w index, 3)) (hp : pc + 3 = pc') (kk : Ends p e below P T m pc' L (.long v :: S)) : Ends p e below P T m pc L S := by
  subst hp; exact kk.of fun t h => X.ldc2J hx hown (mvT hZ w) rfl hd h
theorem eIAdd (X : Stand p l e R s m args below meth c T locs cells slots) (hx : p.tables.exec = Jvm.exec) {x y : Int32} (hd : decode c.code pc = .ok (.iadd, 1)) (hp : pc + 1 = pc') (kk : Ends p e below P T m pc' L (.int (x + y) :: S)) : Ends p e below P T m pc L (.int y :: .int x :: S) := by
  subst hp; exact kk.of fun t h => XS.iadd X.here hx rfl hd rfl h
theorem eISub (X : Stand p l e R s m args below meth c T locs cells slots) (hx : p.tables.exec = Jvm.exec) {x y : Int32} (hd : decode c.code pc = .ok (.isub, 1)) (hp : pc + 1 = pc') (kk : Ends p e below P T m pc' L (.int (x - y) :: S)) : Ends p e below P T m pc L (.int y :: .int x :: S) := by
  subst hp; exact kk.of fun t h => XS.isub X.here hx rfl hd rfl h
theorem eIMul (X : Stand p l e R s m args below meth c T locs cells slots) (hx : p.tables.exec = Jvm.exec) {x y : Int32} (hd : decode c.code pc = .ok (.imul, 1)) (hp : pc + 1 = pc') (kk : Ends p e below P T m pc' L (.int (x * y) :: S)) : Ends p e below P T m pc L (.int y :: .int x :: S) := by
  subst hp; exact kk.of fun t h => XS.imul X.here hx rfl hd rfl h
theorem eIAnd (X : Stand p l e R s m args below meth c T locs cells slots) (hx : p.tables.exec = Jvm.exec) {x y : Int32} (hd : decode c.code pc = .ok (.iand, 1)) (hp : pc + 1 = pc') (kk : Ends p e below P T m pc' L (.int (x &&& y) :: S)) : Ends p e below P T m pc L (.int y :: .int x :: S) := by
  subst hp; exact kk.of fun t h => XS.iand X.here hx rfl hd rfl h
theorem eIDiv (X : Stand p l e R s m args below meth c T locs cells slots) (hx : p.tables.exec = Jvm.exec) {x y : Int32} (hd : decode c.code pc = .ok (.idiv, 1)) (hy : y ≠ 0) (hp : pc + 1 = pc') (kk : Ends p e below P T m pc' L (.int (x / y) :: S)) : Ends p e below P T m pc L (.int y :: .int x :: S) := by
  subst hp; exact kk.of fun t h => XS.idiv X.here hx rfl hd rfl hy h
theorem eIRem (X : Stand p l e R s m args below meth c T locs cells slots) (hx : p.tables.exec = Jvm.exec) {x y : Int32} (hd : decode c.code pc = .ok (.irem, 1)) (hy : y ≠ 0) (hp : pc + 1 = pc') (kk : Ends p e below P T m pc' L (.int (x % y) :: S)) : Ends p e below P T m pc L (.int y :: .int x :: S) := by
  subst hp; exact kk.of fun t h => iremM X hx rfl hd rfl hy h
theorem eIShr (X : Stand p l e R s m args below meth c T locs cells slots) (hx : p.tables.exec = Jvm.exec) {x y : Int32} (hd : decode c.code pc = .ok (.ishr, 1)) (hp : pc + 1 = pc') (kk : Ends p e below P T m pc' L (.int (x >>> (y &&& 31)) :: S)) : Ends p e below P T m pc L (.int y :: .int x :: S) := by
  subst hp; exact kk.of fun t h => XS.ishr X.here hx rfl hd rfl h
theorem eIUshr (X : Stand p l e R s m args below meth c T locs cells slots) (hx : p.tables.exec = Jvm.exec) {x y : Int32} (hd : decode c.code pc = .ok (.iushr, 1)) (hp : pc + 1 = pc') (kk : Ends p e below P T m pc' L (.int ((x.toUInt32 >>> (y &&& 31).toUInt32).toInt32) :: S)) : Ends p e below P T m pc L (.int y :: .int x :: S) := by
  subst hp; exact kk.of fun t h => XS.iushr X.here hx rfl hd rfl h
theorem eI2C (X : Stand p l e R s m args below meth c T locs cells slots) (hx : p.tables.exec = Jvm.exec) {x : Int32} (hd : decode c.code pc = .ok (.i2c, 1)) (hp : pc + 1 = pc') (kk : Ends p e below P T m pc' L (.int (x.toUInt32.toUInt16.toUInt32.toInt32) :: S)) : Ends p e below P T m pc L (.int x :: S) := by
  subst hp; exact kk.of fun t h => XS.i2c X.here hx rfl hd rfl h
theorem eI2B (X : Stand p l e R s m args below meth c T locs cells slots) (hx : p.tables.exec = Jvm.exec) {x : Int32} (hd : decode c.code pc = .ok (.i2b, 1)) (hp : pc + 1 = pc') (kk : Ends p e below P T m pc' L (.int (x.toInt8.toInt32) :: S)) : Ends p e below P T m pc L (.int x :: S) := by
  subst hp; exact kk.of fun t h => XS.i2b X.here hx rfl hd rfl h
theorem eI2L (X : Stand p l e R s m args below meth c T locs cells slots) (hx : p.tables.exec = Jvm.exec) {x : Int32} (hd : decode c.code pc = .ok (.i2l, 1)) (hp : pc + 1 = pc') (kk : Ends p e below P T m pc' L (.long (x.toInt64) :: S)) : Ends p e below P T m pc L (.int x :: S) := by
  subst hp; exact kk.of fun t h => XS.i2l X.here hx rfl hd rfl h
theorem eLAdd (X : Stand p l e R s m args below meth c T locs cells slots) (hx : p.tables.exec = Jvm.exec) {x y : Int64} (hd : decode c.code pc = .ok (.ladd, 1)) (hp : pc + 1 = pc') (kk : Ends p e below P T m pc' L (.long (x + y) :: S)) : Ends p e below P T m pc L (.long y :: .long x :: S) := by
  subst hp; exact kk.of fun t h => XS.ladd X.here hx rfl hd rfl h
theorem eLSub (X : Stand p l e R s m args below meth c T locs cells slots) (hx : p.tables.exec = Jvm.exec) {x y : Int64} (hd : decode c.code pc = .ok (.lsub, 1)) (hp : pc + 1 = pc') (kk : Ends p e below P T m pc' L (.long (x - y) :: S)) : Ends p e below P T m pc L (.long y :: .long x :: S) := by
  subst hp; exact kk.of fun t h => XS.lsub X.here hx rfl hd rfl h
theorem eLAnd (X : Stand p l e R s m args below meth c T locs cells slots) (hx : p.tables.exec = Jvm.exec) {x y : Int64} (hd : decode c.code pc = .ok (.land, 1)) (hp : pc + 1 = pc') (kk : Ends p e below P T m pc' L (.long (x &&& y) :: S)) : Ends p e below P T m pc L (.long y :: .long x :: S) := by
  subst hp; exact kk.of fun t h => XS.land X.here hx rfl hd rfl h
theorem eLOr (X : Stand p l e R s m args below meth c T locs cells slots) (hx : p.tables.exec = Jvm.exec) {x y : Int64} (hd : decode c.code pc = .ok (.lor, 1)) (hp : pc + 1 = pc') (kk : Ends p e below P T m pc' L (.long (x ||| y) :: S)) : Ends p e below P T m pc L (.long y :: .long x :: S) := by
  subst hp; exact kk.of fun t h => XS.lor X.here hx rfl hd rfl h
theorem eLShl (X : Stand p l e R s m args below meth c T locs cells slots) (hx : p.tables.exec = Jvm.exec) {x : Int64} {y : Int32} (hd : decode c.code pc = .ok (.lshl, 1)) (hp : pc + 1 = pc') (kk : Ends p e below P T m pc' L (.long (x <<< (y &&& 0x3f).toInt64) :: S)) : Ends p e below P T m pc L (.int y :: .long x :: S) := by
  subst hp; exact kk.of fun t h => XS.lshl X.here hx rfl hd rfl h
theorem eLShr (X : Stand p l e R s m args below meth c T locs cells slots) (hx : p.tables.exec = Jvm.exec) {x : Int64} {y : Int32} (hd : decode c.code pc = .ok (.lshr, 1)) (hp : pc + 1 = pc') (kk : Ends p e below P T m pc' L (.long (x >>> (y &&& 0x3f).toInt64) :: S)) : Ends p e below P T m pc L (.int y :: .long x :: S) := by
  subst hp; exact kk.of fun t h => XS.lshr X.here hx rfl hd rfl h
theorem eLDiv (X : Stand p l e R s m args below meth c T locs cells slots) (hx : p.tables.exec = Jvm.exec) {x y : Int64} (hd : decode c.code pc = .ok (.ldiv, 1)) (hy : y ≠ 0) (hp : pc + 1 = pc') (kk : Ends p e below P T m pc' L (.long (x / y) :: S)) : Ends p e below P T m pc L (.long y :: .long x :: S) := by
  subst hp; exact kk.of fun t h => XT.ldiv X.here hx rfl hd rfl hy h
theorem eLRem (X : Stand p l e R s m args below meth c T locs cells slots) (hx : p.tables.exec = Jvm.exec) {x y : Int64} (hd : decode c.code pc = .ok (.lrem, 1)) (hy : y ≠ 0) (hp : pc + 1 = pc') (kk : Ends p e below P T m pc' L (.long (x % y) :: S)) : Ends p e below P T m pc L (.long y :: .long x :: S) := by
  subst hp; exact kk.of fun t h => XT.lrem X.here hx rfl hd rfl hy (by first | exact h | (rw [lrem_mod]; exact h))
theorem eLNeg (X : Stand p l e R s m args below meth c T locs cells slots) (hx : p.tables.exec = Jvm.exec) {x : Int64} (hd : decode c.code pc = .ok (.lneg, 1)) (hp : pc + 1 = pc') (kk : Ends p e below P T m pc' L (.long (-x) :: S)) : Ends p e below P T m pc L (.long x :: S) := by
  subst hp; exact kk.of fun t h => XT.lneg X.here hx rfl hd rfl h
theorem eLCmp (X : Stand p l e R s m args below meth c T locs cells slots) (hx : p.tables.exec = Jvm.exec) {x y : Int64} (hd : decode c.code pc = .ok (.lcmp, 1)) (hp : pc + 1 = pc') (kk : Ends p e below P T m pc' L (.int (XT.cmpL x y) :: S)) : Ends p e below P T m pc L (.long y :: .long x :: S) := by
  subst hp; exact kk.of fun t h => XT.lcmp X.here hx rfl hd rfl h
theorem eDup (X : Stand p l e R s m args below meth c T locs cells slots) (hx : p.tables.exec = Jvm.exec) {v : Value} (hd : decode c.code pc = .ok (.dup, 1)) (hc : v.category = 1) (hp : pc + 1 = pc') (kk : Ends p e below P T m pc' L (v :: v :: S)) : Ends p e below P T m pc L (v :: S) := by
  subst hp; exact kk.of fun t h => XS.dup X.here hx rfl hd rfl hc h
theorem ePop (X : Stand p l e R s m args below meth c T locs cells slots) (hx : p.tables.exec = Jvm.exec) {v : Value} (hd : decode c.code pc = .ok (.pop, 1)) (hc : v.category = 1) (hp : pc + 1 = pc') (kk : Ends p e below P T m pc' L S) : Ends p e below P T m pc L (v :: S) := by
  subst hp; exact kk.of fun t h => XT.pop X.here hx rfl hd rfl hc h
theorem eDupX1 (X : Stand p l e R s m args below meth c T locs cells slots) (hx : p.tables.exec = Jvm.exec) {v w : Value} (hd : decode c.code pc = .ok (.dup_x1, 1)) (hc : v.category = 1) (hc' : w.category = 1) (hp : pc + 1 = pc') (kk : Ends p e below P T m pc' L (v :: w :: v :: S)) : Ends p e below P T m pc L (v :: w :: S) := by
  subst hp; exact kk.of fun t h => XT.dupX1 X.here hx rfl hd rfl hc hc' h
theorem eDup2 (X : Stand p l e R s m args below meth c T locs cells slots) (hx : p.tables.exec = Jvm.exec) {v w : Value} (hd : decode c.code pc = .ok (.dup2, 1)) (hc : v.category = 1) (hc' : w.category = 1) (hp : pc + 1 = pc') (kk : Ends p e below P T m pc' L (v :: w :: v :: w :: S)) : Ends p e below P T m pc L (v :: w :: S) := by
  subst hp; exact kk.of fun t h => XT.dup2 X.here hx rfl hd rfl hc hc' h
theorem eDupX2 (X : Stand p l e R s m args below meth c T locs cells slots) (hx : p.tables.exec = Jvm.exec) {v w u : Value} (hd : decode c.code pc = .ok (.dup_x2, 1)) (hc : v.category = 1) (hc' : w.category = 1) (hc2 : u.category = 1) (hp : pc + 1 = pc') (kk : Ends p e below P T m pc' L (v :: w :: u :: v :: S)) : Ends p e below P T m pc L (v :: w :: u :: S) := by
  subst hp
  refine kk.of fun t h => ?_
  jvm_step X.here [X.here.top, hx, hd, hc, hc', hc2]
  exact h
theorem eIInc (X : Stand p l e R s m args below meth c T locs cells slots) (hx : p.tables.exec = Jvm.exec) {k : Nat} {cst : Int} {x : Int32} (v : Int32) (hd : decode c.code pc = .ok (.iinc k cst, 3)) (hv : Int32.ofInt cst = v) (hl : L[k]? = some (.val (.int x))) (hl' : storeLocals L k (.int (x + v)) = some L') (hp : pc + 3 = pc') (kk : Ends p e below P T m pc' L' S) : Ends p e below P T m pc L S := by
  subst hp hv; exact kk.of fun t h => XS.iinc X.here hx rfl hd hl hl' h
theorem eGoto (X : Stand p l e R s m args below meth c T locs cells slots) (hx : p.tables.exec = Jvm.exec) {o : Int} (hd : decode c.code pc = .ok (.goto o, 3)) (ho : 0 ≤ (pc : Int) + o) (hp : ((pc : Int) + o).toNat = pc') (kk : Ends p e below P T m pc' L S) : Ends p e below P T m pc L S :=
  kk.of fun t h => XS.goto X.here hx rfl rfl hd ho hp h
theorem eIfY (X : Stand p l e R s m args below meth c T locs cells slots) (hx : p.tables.exec = Jvm.exec) {cd : ClassFile.Cond} {x : Int32} {o : Int} (hd : decode c.code pc = .ok (.ifCond cd o, 3)) (hc : ifCond.holds cd x = true) (ho : 0 ≤ (pc : Int) + o) (hp : ((pc : Int) + o).toNat = pc') (kk : Ends p e below P T m pc' L S) : Ends p e below P T m pc L (.int x :: S) :=
  kk.of fun t h => XS.ifYes X.here hx rfl rfl hd rfl hc ho hp h
theorem eIfN (X : Stand p l e R s m args below meth c T locs cells slots) (hx : p.tables.exec = Jvm.exec) {cd : ClassFile.Cond} {x : Int32} {o : Int} (hd : decode c.code pc = .ok (.ifCond cd o, 3)) (hc : ifCond.holds cd x = false) (hp : pc + 3 = pc') (kk : Ends p e below P T m pc' L S) : Ends p e below P T m pc L (.int x :: S) := by
  subst hp; exact kk.of fun t h => XS.ifNo X.here hx rfl hd rfl hc h
theorem eIcmpY (X : Stand p l e R s m args below meth c T locs cells slots) (hx : p.tables.exec = Jvm.exec) {cd : ClassFile.Cond} {x y : Int32} {o : Int} (hd : decode c.code pc = .ok (.if_icmp cd o, 3)) (hc : if_icmp.holds cd x y = true) (ho : 0 ≤ (pc : Int) + o) (hp : ((pc : Int) + o).toNat = pc') (kk : Ends p e below P T m pc' L S) : Ends p e below P T m pc L (.int y :: .int x :: S) :=
  kk.of fun t h => XS.icmpYes X.here hx rfl rfl hd rfl hc ho hp h
theorem eIcmpN (X : Stand p l e R s m args below meth c T locs cells slots) (hx : p.tables.exec = Jvm.exec) {cd : ClassFile.Cond} {x y : Int32} {o : Int} (hd : decode c.code pc = .ok (.if_icmp cd o, 3)) (hc : if_icmp.holds cd x y = false) (hp : pc + 3 = pc') (kk : Ends p e below P T m pc' L S) : Ends p e below P T m pc L (.int y :: .int x :: S) := by
  subst hp; exact kk.of fun t h => XS.icmpNo X.here hx rfl hd rfl hc h
/-! steps that read or write the heap -/
theorem eGetF (X : Stand p l e R s m args below meth c T locs cells slots) (hx : p.tables.exec = Jvm.exec) (hZ : Z.Warmed39 s.vm) {own R0 O n d : String} {index : Nat} (hown : s.vm.findClass own = some m.cls) (w : (Cond.fieldLink own index R0 n d).before a0 Z = true) (via : Via Z R0 O n d) (eT : T.heap = h) {a : Addr} {v : Value} (F : Fld Z h a O n d v) (hd : decode c.code pc = .ok (.getfield index, 3)) (hp : pc + 3 = pc')
    (kk : ∀ T', Stand p l e R s m args below meth c T' locs cells slots → T'.heap = h → Ends p e below P T' m pc' L (v :: S)) : Ends p e below P T m pc L (.ref a :: S) := by
  subst hp
  obtain ⟨T', X', e', st⟩ := getF X hx hZ hown (host := "") (Or.inl w) via eT F (g := mkF m pc L (.ref a :: S)) rfl rfl hd
  exact (kk T' X' e').of st
theorem ePutF (X : Stand p l e R s m args below meth c T locs cells slots) (hx : p.tables.exec = Jvm.exec) (hZ : Z.Warmed39 s.vm) {own R0 O n d C : String} {index kk0 : Nat} {ty : FieldType} (hown : s.vm.findClass own = some m.cls) (w : (Cond.fieldLink own index R0 n d).before a0 Z = true) (via : Via Z R0 O n d) (eT : T.heap = h) {a : Addr} {v old : Value} (F : Fld Z h a O n d old) (E : Exa Z h a C) (La : (Cond.lays C O n d).before a0 Z = true ∨ ((Cond.laysFinal C O n d).before a0 Z = true ∧ own = O ∧ meth.name = "<init>")) (wi : (Cond.instantiable C kk0).before a0 Z = true) (hty : parseFieldDescriptor d = some ty) (hn : narrow ty v = v) (hf : fits ty v = true) (hd : decode c.code pc = .ok (.putfield index, 3)) (hp : pc + 3 = pc')
    (kk : ∀ T' h', Stand p l e R s m args below meth c T' (locs ++ [⟨a, Jvm.RoadKit.slotOf Z O n d⟩]) cells slots → T'.heap = h' → Wr h h' a (Jvm.RoadKit.slotOf Z O n d) v → Ends p e below P T' m pc' L S) : Ends p e below P T m pc L (v :: .ref a :: S) := by
  subst hp
  obtain ⟨T', h', X', e', W, st⟩ := putF X hx hZ hown (host := "") (Or.inl w) via eT F E La wi hty hn hf (g := mkF m pc L (v :: .ref a :: S)) rfl rfl hd
  exact (kk T' h' X' e' W).of st
theorem eNewO (X : Stand p l e R s m args below meth c T locs cells slots) (hx : p.tables.exec = Jvm.exec) (hZ : Z.Warmed39 s.vm) {own C : String} {index n : Nat} (hown : s.vm.findClass own = some m.cls) (w : (Cond.classLink own index C).before a0 Z = true) (wi : (Cond.instantiable C n).before a0 Z = true) (wz : (Cond.initialized C).before a0 Z = true) (eT : T.heap = h) (hd : decode c.code pc = .ok (.new index, 3)) (hc : cells + 1 ≤ R.cells) (hl : slots + n ≤ R.slots) (hp : pc + 3 = pc')
    (kk : ∀ T' h' a, a = h.size → Stand p l e R s m args below meth c T' locs (cells + 1) (slots + n) → T'.heap = h' → Ext h h' → Exa Z h' a C → (∀ {O nm d : String} {ty : FieldType}, Laid Z a0 C O nm d → parseFieldDescriptor d = some ty → Fld Z h' a O nm d (defaultValue ty)) → Ends p e below P T' m pc' L (.ref a :: S)) : Ends p e below P T m pc L S := by
  subst hp
  obtain ⟨T', h', X', e', E, A, D, -, st⟩ := newO X hx hZ hown w wi wz eT (g := mkF m pc L S) rfl hd hc hl
  exact (kk T' h' _ rfl X' e' E A D).of st
theorem eInitO (X : Stand p l e R s m args below meth c T locs cells slots) (hx : p.tables.exec = Jvm.exec) (hZ : Z.Warmed39 s.vm) {own : String} {idx : Nat} (hown : s.vm.findClass own = some m.cls) (w1 : (Cond.methodLink own idx Lib.objectInit).before a0 Z = true) (w2 : (Cond.instanceMethod Lib.objectInit).before a0 Z = true) (w3 : (Cond.code Lib.objectInit object_method_1_code 1 none).before a0 Z = true) (eT : T.heap = h) (hsize : L.size = c.maxLocals) {a : Addr} (hd : decode c.code pc = .ok (.invokespecial idx, 3)) (hf : 1 ≤ R.frames) (W : Nat) (hW : 2 * 0 + (S.map fun v => v.category).sum ≤ W) (hl : W + 12 ≤ R.locals) (hp : pc + 3 = pc')
    (kk : ∀ T', Stand p l e R s m args below meth c T' locs cells slots → T'.heap = h → Ends p e below P T' m pc' L S) : Ends p e below P T m pc L (.ref a :: S) := by
  subst hp
  obtain ⟨T', X', e', st⟩ := initO X hx hZ hown w1 w2 w3 eT (g := mkF m pc L (.ref a :: S)) rfl hsize rfl hd hf hW hl
  exact (kk T' X' e').of st
theorem eGetS (X : Stand p l e R s m args below meth c T locs cells slots) (hx : p.tables.exec = Jvm.exec) (hZ : Z.Warmed39 s.vm) {own O n d : String} {index : Nat} (hown : s.vm.findClass own = some m.cls) (w : (Cond.fieldLink own index O n d).before a0 Z = true) (eT : T.heap = h) {v : Value} (F : Sta Z h O n d v) (hd : decode c.code pc = .ok (.getstatic index, 3)) (hp : pc + 3 = pc')
    (kk : ∀ T', Stand p l e R s m args below meth c T' locs cells slots → T'.heap = h → Ends p e below P T' m pc' L (v :: S)) : Ends p e below P T m pc L S := by
  subst hp
  obtain ⟨T', X', e', st⟩ := getS X hx hZ (host := "") hown w Via.refl eT F (g := mkF m pc L S) rfl hd
  exact (kk T' X' e').of st
theorem Sta.keep1 {h' : Heap} {a : Addr} {C C' n d : String} {v : Value} (F : Sta Z h C n d v) (K : Keep h h' [a]) (E : Exa Z h a C') : Sta Z h' C n d v := by
  obtain ⟨cf, i, k, f, st, cell, h1, h2, h3, h4, h5, h6, h7⟩ := F
  obtain ⟨c2, k2, e1, e2, e3, e4, e5⟩ := E
  refine ⟨cf, i, k, f, st, cell, h1, h2, h3, h4, K.2.1 st cell h5 (fun q => ?_), h6, h7⟩
  cases List.mem_singleton.mp q
  cases h5.symm.trans e1
  rw [h6] at e4; cases e4
/-! an array of ints, booleans, chars, bytes: its list of values -/
def Ar (Z : State) (h : Heap) (a : Addr) (ty : FieldType) (vs : List Int32) : Prop := ∃ cl : Cell, Arr Z h a cl ty ∧ cl.slots = (vs.map Value.int).toArray ∧ vs.length < 2 ^ 31
def InB (vs : List Int32) (j : Int32) : Prop := ¬ j < 0 ∧ j.toNatClampNeg < vs.length
def rd (vs : List Int32) (j : Int32) : Int32 := vs.getD j.toNatClampNeg 0
def wr (vs : List Int32) (j x : Int32) : List Int32 := vs.set j.toNatClampNeg x
variable {h' : Heap} {a b : Addr} {ty : FieldType} {vs : List Int32}
theorem inbL {j : Int32} {n : Nat} (hl : vs.length = n) (h : ¬ j < 0 ∧ j.toNatClampNeg < n) : InB vs j := ⟨h.1, hl ▸ h.2⟩
theorem Ar.lt (F : Ar Z h a ty vs) : a < h.size := by obtain ⟨cl, A, -⟩ := F; exact A.lt
theorem Ar.small (F : Ar Z h a ty vs) : vs.length < 2 ^ 31 := by obtain ⟨cl, A, e1, e2⟩ := F; exact e2
theorem Ar.ext (F : Ar Z h a ty vs) (E : Ext h h') : Ar Z h' a ty vs := by obtain ⟨cl, A, r⟩ := F; exact ⟨cl, A.ext E, r⟩
theorem Ar.other {sl : Nat} {v : Value} (F : Ar Z h b ty vs) (W : Wr h h' a sl v) (q : b ≠ a) : Ar Z h' b ty vs := by obtain ⟨cl, A, r⟩ := F; exact ⟨cl, A.other W q, r⟩
theorem Ar.keep {ws : List Addr} (F : Ar Z h a ty vs) (K : Keep h h' ws) (q : a ∉ ws) : Ar Z h' a ty vs := by obtain ⟨cl, A, r⟩ := F; exact ⟨cl, ⟨K.2.1 a cl A.1 q, A.2⟩, r⟩
theorem Ar.same {j x : Int32} (F : Ar Z h a ty vs) (W : Wr h h' a j.toNatClampNeg (.int x)) : Ar Z h' a ty (wr vs j x) := by
  obtain ⟨cl, A, e1, e2⟩ := F
  refine ⟨_, A.same W, ?_, by simpa [wr] using e2⟩
  show cl.slots.setIfInBounds _ _ = _
  rw [e1, wr, List.map_set]
  simp
theorem Ar.new {k : ClassId} {n : Int32} (A : Arr Z h a (newA k ty n) ty) (hn : ¬ n < 0) (hd : defaultValue ty = .int 0) : Ar Z h a ty (List.replicate n.toNatClampNeg 0) := by
  refine ⟨_, A, ?_, by simpa using (back32 hn).2⟩
  show Array.replicate n.toNatClampNeg (defaultValue ty) = _
  rw [hd, List.map_replicate]
  simp
theorem Ar.inb {cl : Cell} {j : Int32} (e1 : cl.slots = (vs.map Value.int).toArray) (q : InB vs j) : ¬ (j < 0 ∨ cl.slots.size ≤ j.toNatClampNeg) := by
  rw [e1]; simp only [List.size_toArray, List.length_map]
  exact fun z => z.elim q.1 (fun y => by have := q.2; omega)
theorem Ar.get {cl : Cell} {j : Int32} (e1 : cl.slots = (vs.map Value.int).toArray) (q : InB vs j) : cl.slots[j.toNatClampNeg]? = some (.int (rd vs j)) := by
  rw [e1]; have := q.2
  simp [rd, List.getElem?_eq_getElem this, List.getD_eq_getElem?_getD]
theorem eLen (X : Stand p l e R s m args below meth c T locs cells slots) (hx : p.tables.exec = Jvm.exec) (hZ : Z.Warmed39 s.vm) (eT : T.heap = h) (F : Ar Z h a ty vs) (n : Int32) (hn : Int32.ofNat vs.length = n) (hd : decode c.code pc = .ok (.arraylength, 1)) (hp : pc + 1 = pc') (kk : Ends p e below P T m pc' L (.int n :: S)) : Ends p e below P T m pc L (.ref a :: S) := by
  subst hp hn
  obtain ⟨cl, A, e1, e2⟩ := F
  refine kk.of fun t k => X.arraylength hx (by rw [eT]; exact A.1) (State.isArrayOf_alike hZ.alike A.2.1) (g := mkF m pc L (.ref a :: S)) rfl rfl hd _ ?_
  rw [e1]; simp only [List.size_toArray, List.length_map]; exact k
theorem eIALoad (X : Stand p l e R s m args below meth c T locs cells slots) (hx : p.tables.exec = Jvm.exec) (hZ : Z.Warmed39 s.vm) (eT : T.heap = h) (F : Ar Z h a .int vs) {j : Int32} (v : Int32) (hv : rd vs j = v) (q : InB vs j) (hd : decode c.code pc = .ok (.iaload, 1)) (hp : pc + 1 = pc') (kk : Ends p e below P T m pc' L (.int v :: S)) : Ends p e below P T m pc L (.int j :: .ref a :: S) := by
  subst hp hv
  obtain ⟨cl, A, e1, e2⟩ := F
  exact kk.of fun t k => X.iaload hx (by rw [eT]; exact A.1) (State.isArrayOf_alike hZ.alike A.2.1) A.2.2 (Ar.inb e1 q) (Ar.get e1 q) (g := mkF m pc L (.int j :: .ref a :: S)) rfl rfl hd _ k
theorem eCALoad (X : Stand p l e R s m args below meth c T locs cells slots) (hx : p.tables.exec = Jvm.exec) (hZ : Z.Warmed39 s.vm) (eT : T.heap = h) (F : Ar Z h a .char vs) {j : Int32} (v : Int32) (hv : rd vs j = v) (q : InB vs j) (hd : decode c.code pc = .ok (.caload, 1)) (hp : pc + 1 = pc') (kk : Ends p e below P T m pc' L (.int v :: S)) : Ends p e below P T m pc L (.int j :: .ref a :: S) := by
  subst hp hv
  obtain ⟨cl, A, e1, e2⟩ := F
  exact kk.of fun t k => X.caload hx (by rw [eT]; exact A.1) (State.isArrayOf_alike hZ.alike A.2.1) A.2.2 (Ar.inb e1 q) (Ar.get e1 q) (g := mkF m pc L (.int j :: .ref a :: S)) rfl rfl hd _ k
theorem eZALoad (X : Stand p l e R s m args below meth c T locs cells slots) (hx : p.tables.exec = Jvm.exec) (hZ : Z.Warmed39 s.vm) (eT : T.heap = h) (F : Ar Z h a .boolean vs) {j : Int32} (v : Int32) (hv : rd vs j = v) (q : InB vs j) (hd : decode c.code pc = .ok (.baload, 1)) (hp : pc + 1 = pc') (kk : Ends p e below P T m pc' L (.int v :: S)) : Ends p e below P T m pc L (.int j :: .ref a :: S) := by
  subst hp hv
  obtain ⟨cl, A, e1, e2⟩ := F
  exact kk.of fun t k => X.baloadBooleans hx (by rw [eT]; exact A.1) (State.isArrayOf_alike hZ.alike A.2.1) A.2.2 (Ar.inb e1 q) (Ar.get e1 q) (g := mkF m pc L (.int j :: .ref a :: S)) rfl rfl hd _ k
theorem eIAStore (X : Stand p l e R s m args below meth c T locs cells slots) (hx : p.tables.exec = Jvm.exec) (hZ : Z.Warmed39 s.vm) (eT : T.heap = h) (F : Ar Z h a .int vs) {j x : Int32} (q : InB vs j) (hd : decode c.code pc = .ok (.iastore, 1)) (hp : pc + 1 = pc')
    (kk : ∀ T' h', Stand p l e R s m args below meth c T' (locs ++ [⟨a, j.toNatClampNeg⟩]) cells slots → T'.heap = h' → Wr h h' a j.toNatClampNeg (.int x) → Ar Z h' a .int (wr vs j x) → Ends p e below P T' m pc' L S) : Ends p e below P T m pc L (.int x :: .int j :: .ref a :: S) := by
  subst hp
  have F0 := F
  obtain ⟨cl, A, e1, e2⟩ := F
  obtain ⟨T', h', X', e', W, st⟩ := stI X hx hZ eT A (Ar.inb e1 q) (g := mkF m pc L (.int x :: .int j :: .ref a :: S)) rfl rfl hd
  exact (kk T' h' X' e' W (F0.same W)).of st
theorem eCAStore (X : Stand p l e R s m args below meth c T locs cells slots) (hx : p.tables.exec = Jvm.exec) (hZ : Z.Warmed39 s.vm) (eT : T.heap = h) (F : Ar Z h a .char vs) {j x : Int32} (q : InB vs j) (hd : decode c.code pc = .ok (.castore, 1)) (hp : pc + 1 = pc')
    (kk : ∀ T' h', Stand p l e R s m args below meth c T' (locs ++ [⟨a, j.toNatClampNeg⟩]) cells slots → T'.heap = h' → Wr h h' a j.toNatClampNeg (.int (nar .char x)) → Ar Z h' a .char (wr vs j (nar .char x)) → Ends p e below P T' m pc' L S) : Ends p e below P T m pc L (.int x :: .int j :: .ref a :: S) := by
  subst hp
  have F0 := F
  obtain ⟨cl, A, e1, e2⟩ := F
  obtain ⟨T', h', X', e', W, st⟩ := stC X hx hZ eT A (Ar.inb e1 q) (g := mkF m pc L (.int x :: .int j :: .ref a :: S)) rfl rfl hd
  exact (kk T' h' X' e' W (F0.same W)).of st
theorem eZAStore (X : Stand p l e R s m args below meth c T locs cells slots) (hx : p.tables.exec = Jvm.exec) (hZ : Z.Warmed39 s.vm) (eT : T.heap = h) (F : Ar Z h a .boolean vs) {j x : Int32} (q : InB vs j) (hd : decode c.code pc = .ok (.bastore, 1)) (hp : pc + 1 = pc')
    (kk : ∀ T' h', Stand p l e R s m args below meth c T' (locs ++ [⟨a, j.toNatClampNeg⟩]) cells slots → T'.heap = h' → Wr h h' a j.toNatClampNeg (.int (nar .boolean x)) → Ar Z h' a .boolean (wr vs j (nar .boolean x)) → Ends p e below P T' m pc' L S) : Ends p e below P T m pc L (.int x :: .int j :: .ref a :: S) := by
  subst hp
  have F0 := F
  obtain ⟨cl, A, e1, e2⟩ := F
  obtain ⟨T', h', X', e', W, st⟩ := stZ X hx hZ eT A (Ar.inb e1 q) (g := mkF m pc L (.int x :: .int j :: .ref a :: S)) rfl rfl hd
  exact (kk T' h' X' e' W (F0.same W)).of st
theorem eNewA (X : Stand p l e R s m args below meth c T locs cells slots) (hx : p.tables.exec = Jvm.exec) (hZ : Z.Warmed39 s.vm) {aty : ArrayType} (hty : newarray.typeOf aty = ty) (hdf : defaultValue ty = .int 0) (w : (Cond.arrayClass ty).before a0 Z = true) (eT : T.heap = h) (hd : decode c.code pc = .ok (.newarray aty, 2)) {n : Int32} (hn : ¬ n < 0) {cap : Nat} (hcap : n.toNatClampNeg ≤ cap) (hb : cap * 8 ≤ 536870912) (hc : cells + 1 ≤ R.cells) (hl : slots + cap ≤ R.slots) (hp : pc + 2 = pc')
    (kk : ∀ T' h' a, a = h.size → Stand p l e R s m args below meth c T' locs (cells + 1) (slots + cap) → T'.heap = h' → Ext h h' → Ar Z h' a ty (List.replicate n.toNatClampNeg 0) → Ends p e below P T' m pc' L (.ref a :: S)) : Ends p e below P T m pc L (.int n :: S) := by
  subst hp hty
  obtain ⟨T', h', cA, X', e', E, A, st⟩ := newP X hx hZ w eT (g := mkF m pc L (.int n :: S)) rfl hd rfl hn hcap hb hc hl
  exact (kk T' h' _ rfl X' e' E (Ar.new A hn hdf)).of st
theorem eNewE (X : Stand p l e R s m args below meth c T locs cells slots) (hx : p.tables.exec = Jvm.exec) (hZ : Z.Warmed39 s.vm) {aty : ArrayType} (hty : newarray.typeOf aty = ty) (hdf : defaultValue ty = .int 0) (w : (Cond.arrayClass ty).before a0 Z = true) (eT : T.heap = h) (hd : decode c.code pc = .ok (.newarray aty, 2)) {n : Int32} (hn : ¬ n < 0) {cap : Nat} (hcap : n.toNatClampNeg ≤ cap) (hb : cap * 8 ≤ 536870912) (hc : cells + 1 ≤ R.cells) (hl : slots + cap ≤ R.slots) (ad : String) (had : "[" ++ ty.toString = ad) (hp : pc + 2 = pc')
    (kk : ∀ T' h' a, a = h.size → Stand p l e R s m args below meth c T' locs (cells + 1) (slots + cap) → T'.heap = h' → Ext h h' → Ar Z h' a ty (List.replicate n.toNatClampNeg 0) → Exa Z h' a ad → Ends p e below P T' m pc' L (.ref a :: S)) : Ends p e below P T m pc L (.int n :: S) := by
  subst hp hty
  obtain ⟨T', h', cA, X', e', E, A, Ex, st⟩ := newPE X hx hZ w eT (g := mkF m pc L (.int n :: S)) rfl hd rfl hn hcap hb hc hl had
  exact (kk T' h' _ rfl X' e' E (Ar.new A hn hdf) Ex).of st
theorem eCast (X : Stand p l e R s m args below meth c T locs cells slots) (hx : p.tables.exec = Jvm.exec) (hZ : Z.Warmed39 s.vm) {own K : String} {index : Nat} (hown : s.vm.findClass own = some m.cls) (w : (Cond.classLink own index K).before a0 Z = true) (eT : T.heap = h) (F : Ins Z h a K true) (hd : decode c.code pc = .ok (.checkcast index, 3)) (hp : pc + 3 = pc')
    (kk : ∀ T', Stand p l e R s m args below meth c T' locs cells slots → T'.heap = h → Ends p e below P T' m pc' L (.ref a :: S)) : Ends p e below P T m pc L (.ref a :: S) := by
  subst hp
  obtain ⟨T', X', e', st⟩ := castY X hx hZ hown w eT F (g := mkF m pc L (.ref a :: S)) rfl rfl hd
  exact (kk T' X' e').of st
theorem eNonNullY (X : Stand p l e R s m args below meth c T locs cells slots) (hx : p.tables.exec = Jvm.exec) {o : Int} (hd : decode c.code pc = .ok (.ifnonnull o, 3)) (ho : 0 ≤ (pc : Int) + o) (hp : ((pc : Int) + o).toNat = pc') (kk : Ends p e below P T m pc' L S) : Ends p e below P T m pc L (.ref a :: S) :=
  kk.of fun t h => XT.ifnonnullYes X.here hx rfl rfl hd rfl ho hp h
theorem eNonNullN (X : Stand p l e R s m args below meth c T locs cells slots) (hx : p.tables.exec = Jvm.exec) {o : Int} (hd : decode c.code pc = .ok (.ifnonnull o, 3)) (hp : pc + 3 = pc') (kk : Ends p e below P T m pc' L S) : Ends p e below P T m pc L (.null :: S) := by
  subst hp; exact kk.of fun t h => XT.ifnonnullNo X.here hx rfl hd rfl h
theorem eNullY (X : Stand p l e R s m args below meth c T locs cells slots) (hx : p.tables.exec = Jvm.exec) {o : Int} (hd : decode c.code pc = .ok (.ifnull o, 3)) (ho : 0 ≤ (pc : Int) + o) (hp : ((pc : Int) + o).toNat = pc') (kk : Ends p e below P T m pc' L S) : Ends p e below P T m pc L (.null :: S) :=
  kk.of fun t h => XS.ifnullYes X.here hx rfl rfl hd rfl ho hp h
theorem eNullN (X : Stand p l e R s m args below meth c T locs cells slots) (hx : p.tables.exec = Jvm.exec) {o : Int} (hd : decode c.code pc = .ok (.ifnull o, 3)) (hp : pc + 3 = pc') (kk : Ends p e below P T m pc' L S) : Ends p e below P T m pc L (.ref a :: S) := by
  subst hp; exact kk.of fun t h => XS.ifnullNo X.here hx rfl hd rfl h
theorem eTsw (X : Stand p l e R s m args below meth c T locs cells slots) (hx : p.tables.exec = Jvm.exec) {dflt low high : Int} {offs : Array Int} {len : Nat} {o : Int} {i : Int32} (hd : decode c.code pc = .ok (.tableswitch dflt low high offs, len)) (hin : ¬ (i.toInt < low ∨ i.toInt > high)) (hoff : offs[(i.toInt - low).toNat]? = some o) (ho : 0 ≤ (pc : Int) + o) (hp : ((pc : Int) + o).toNat = pc') (kk : Ends p e below P T m pc' L S) : Ends p e below P T m pc L (.int i :: S) :=
  kk.of fun t h => XS.tswIn X.here hx rfl rfl hd rfl hin hoff ho hp h
/-! calls -/
def PostQ (s : State) (C D : Nat) (Q : Option Value → Heap → List Loc → Prop) : State → Outcome → Prop := fun t o => ∃ v L, o = .returned v ∧ Q v t.heap L ∧ FrameEnd s o t L C D
abbrev MetC (l : Launch) (Z : State) (y : MethodName) (ws : List Jvm.Cond) (rm : Room) (as' : Array Value) (h : Heap) (C D : Nat) (Q : Option Value → Heap → List Loc → Prop) : Prop :=
  MetFree l y (head1 ws rm) (fun a U => a = as' ∧ Z.Warmed39 U.vm ∧ U.heap = h) (fun _ _ _ _ _ => True) (fun _ U o U' => PostQ U C D Q U' o)
abbrev MetQ (l : Launch) (Z : State) (y : MethodName) (ws : List Jvm.Cond) (rm : Room) (as' : Array Value) (h : Heap) (Q : Option Value → Heap → List Loc → Prop) : Prop :=
  MetFree l y (head1 ws rm) (fun a U => a = as' ∧ Z.Warmed39 U.vm ∧ U.heap = h) (fun _ _ _ _ _ => True) (fun _ U o U' => PostQ U rm.cells rm.slots Q U' o)
theorem eCallS (X : Stand p l e R s m args below meth c T locs cells slots) (hx : p.tables.exec = Jvm.exec) (hZ : Z.Warmed39 s.vm) {own : String} {index : Nat} {y : MethodName} {bytes : ByteArray} {maxL : Nat} {ret : Option FieldType} (hown : s.vm.findClass own = some m.cls) (w1 : (Cond.methodLink own index y).before a0 Z = true) (w2 : (Cond.static y).before a0 Z = true) (w3 : (Cond.initialized y.cls).before a0 Z = true) (w4 : (Cond.code y bytes maxL ret).before a0 Z = true) (hy : y.cls ≠ "java/lang/invoke/MethodHandle" ∧ y.cls ≠ "java/lang/invoke/VarHandle") (eT : T.heap = h) {rm : Room} {Q : Option Value → Heap → List Loc → Prop} {argsL rest : List Value} (hM : MetQ l Z y [Cond.code y bytes maxL ret] rm argsL.toArray h Q) (hlen : ∀ sig, parseMethodDescriptor y.desc = some sig → argsL.length = sig.parameters.length) (hS : S = argsL.reverse ++ rest) (hsize : L.size = c.maxLocals) (W : Nat) (hW : 2 * 0 + (rest.map fun v => v.category).sum ≤ W) (hf : rm.frames + 1 ≤ R.frames) (hl : W + (maxL + 11) + rm.locals ≤ R.locals) (hc : cells + rm.cells ≤ R.cells) (hs : slots + rm.slots ≤ R.slots) (hd : decode c.code pc = .ok (.invokestatic index, 3)) (hp : pc + 3 = pc')
    (kk : ∀ v T' L', Q v T'.heap L' → Stand p l e R s m args below meth c T' (locs ++ L') (cells + rm.cells) (slots + rm.slots) → Ends p e below P T' m pc' L (v.toList ++ rest)) : Ends p e below P T m pc L S := by
  subst hp hS
  obtain ⟨v, _, ⟨T1, L1, k1, n1⟩, -, X1, ⟨Lc, hQ, l1, y1, z1⟩, st⟩ := Jvm.LawKit.callS X hx (y := y) hown (mvT hZ w1) (mvT hZ w2) (mvT hZ w3) (mvT hZ w4) hy (backOf (W := W) (Q := Q) hM hZ w4 w3 hf hl) (g := mkF m pc L (argsL.reverse ++ rest)) rfl hsize (argsL := argsL) (rest := rest) hlen rfl hW hd (fun _ _ => ⟨rfl, eT, hc, hs⟩)
  dsimp only [Pt.U, Pt.locs, Pt.cells, Pt.slots] at X1 l1 y1 z1 st hQ
  subst l1 y1 z1
  exact (kk v T1 Lc hQ X1).of st
theorem eCallI (X : Stand p l e R s m args below meth c T locs cells slots) (hx : p.tables.exec = Jvm.exec) (hZ : Z.Warmed39 s.vm) {own : String} {index : Nat} {y : MethodName} {bytes : ByteArray} {maxL : Nat} (hy1 : y.name = "<init>") (hown : s.vm.findClass own = some m.cls) (w1 : (Cond.methodLink own index y).before a0 Z = true) (w2 : (Cond.instanceMethod y).before a0 Z = true) (w3 : (Cond.initialized y.cls).before a0 Z = true) (w4 : (Cond.code y bytes maxL none).before a0 Z = true) (hy : y.cls ≠ "java/lang/invoke/MethodHandle" ∧ y.cls ≠ "java/lang/invoke/VarHandle") (eT : T.heap = h) {rm : Room} {Q : Option Value → Heap → List Loc → Prop} {argsL rest : List Value} (hM : MetQ l Z y [Cond.code y bytes maxL none] rm (.ref a :: argsL).toArray h Q) (hlen : ∀ sig, parseMethodDescriptor y.desc = some sig → argsL.length = sig.parameters.length) (hS : S = argsL.reverse ++ .ref a :: rest) (hsize : L.size = c.maxLocals) (W : Nat) (hW : 2 * 0 + (rest.map fun v => v.category).sum ≤ W) (hf : rm.frames + 1 ≤ R.frames) (hl : W + (maxL + 11) + rm.locals ≤ R.locals) (hc : cells + rm.cells ≤ R.cells) (hs : slots + rm.slots ≤ R.slots) (hd : decode c.code pc = .ok (.invokespecial index, 3)) (hp : pc + 3 = pc')
    (kk : ∀ v T' L', Q v T'.heap L' → Stand p l e R s m args below meth c T' (locs ++ L') (cells + rm.cells) (slots + rm.slots) → Ends p e below P T' m pc' L (v.toList ++ rest)) : Ends p e below P T m pc L S := by
  subst hp hS
  obtain ⟨v, _, ⟨T1, L1, k1, n1⟩, -, X1, ⟨Lc, hQ, l1, y1, z1⟩, st⟩ := X.specialBack hx (y := y) hy1 hown (mvT hZ w1) (mvT hZ w2) (mvT hZ w4) hy (backOf (W := W) (Q := Q) hM hZ w4 w3 hf hl) (g := mkF m pc L (argsL.reverse ++ .ref a :: rest)) rfl hsize (Steps.refl _) (a := a) (argsL := argsL) (rest := rest) hlen rfl hW hd (fun _ _ => ⟨rfl, eT, hc, hs⟩)
  dsimp only [Pt.U, Pt.locs, Pt.cells, Pt.slots] at X1 l1 y1 z1 st hQ
  subst l1 y1 z1
  exact (kk v T1 Lc hQ X1).of fun t k => st.trans k
theorem eCallV (X : Stand p l e R s m args below meth c T locs cells slots) (hx : p.tables.exec = Jvm.exec) (hZ : Z.Warmed39 s.vm) {own C : String} {index : Nat} {y : MethodName} {bytes : ByteArray} {maxL : Nat} {ret : Option FieldType} (hown : s.vm.findClass own = some m.cls) (w1 : (Cond.methodLink own index y).before a0 Z = true) (w2 : (Cond.declares y).before a0 Z = true) (w5 : (Cond.selects C y y).before a0 Z = true) (w6 : (Cond.instanceMethod y).before a0 Z = true) (w3 : (Cond.initialized y.cls).before a0 Z = true) (w4 : (Cond.code y bytes maxL ret).before a0 Z = true) (hy : y.cls ≠ "java/lang/invoke/MethodHandle" ∧ y.cls ≠ "java/lang/invoke/VarHandle") (eT : T.heap = h) (E : Exa Z h a C) {rm : Room} {Q : Option Value → Heap → List Loc → Prop} {argsL rest : List Value} (hM : MetQ l Z y [Cond.code y bytes maxL ret] rm (.ref a :: argsL).toArray h Q) (hlen : ∀ sig, parseMethodDescriptor y.desc = some sig → argsL.length = sig.parameters.length) (hS : S = argsL.reverse ++ .ref a :: rest) (hsize : L.size = c.maxLocals) (W : Nat) (hW : 2 * 0 + (rest.map fun v => v.category).sum ≤ W) (hf : rm.frames + 1 ≤ R.frames) (hl : W + (maxL + 11) + rm.locals ≤ R.locals) (hc : cells + rm.cells ≤ R.cells) (hs : slots + rm.slots ≤ R.slots) (hd : decode c.code pc = .ok (.invokevirtual index, 3)) (hp : pc + 3 = pc')
    (kk : ∀ v T' L', Q v T'.heap L' → Stand p l e R s m args below meth c T' (locs ++ L') (cells + rm.cells) (slots + rm.slots) → Ends p e below P T' m pc' L (v.toList ++ rest)) : Ends p e below P T m pc L S := by
  subst hp hS
  obtain ⟨cq, kq, q1, q2, q3⟩ := isOf hZ eT E
  obtain ⟨v, _, ⟨T1, L1, k1, n1⟩, -, X1, ⟨Lc, hQ, l1, y1, z1⟩, st⟩ := X.virtualBack hx (y := y) (z := y) hown (mvT hZ w1) (mvT hZ w2) (notFace_of_selects (args := #[]) (mvT hZ w5)) (mvT hZ w5) (mvT hZ w6) hy (backOf (W := W) (Q := Q) hM hZ w4 w3 hf hl) q1 q3 (g := mkF m pc L (argsL.reverse ++ .ref a :: rest)) rfl hsize (Steps.refl _) (argsL := argsL) (rest := rest) hlen rfl hW hd (fun _ _ => ⟨rfl, eT, hc, hs⟩)
  dsimp only [Pt.U, Pt.locs, Pt.cells, Pt.slots] at X1 l1 y1 z1 st hQ
  subst l1 y1 z1
  exact (kk v T1 Lc hQ X1).of fun t k => st.trans k
/-! returns -/
theorem eEnd (X : Stand p l e R s m args below meth c T locs cells slots) (hlk : meth.locks = false) {C D : Nat} {Q : Option Value → Heap → List Loc → Prop} {v : Option Value} (hv : meth.sig.returnType = none → v = none) (hC : cells ≤ C) (hD : slots ≤ D) (hq : Q v T.heap locs)
    (st : ∀ fs, (∀ (f : JFrame) (acts : List Action), f.method = m → f.locked = none → f.entered = [] → (doReturn e (T.setTop f) acts v).1 = T.setFrames fs) → Steps p.tables e below (T.setTop (mkF m pc L S)) (T.setFrames fs)) : Ends p e below (PostQ s C D Q) T m pc L S := by
  obtain ⟨fs, hr, hrun, hended, hW, hsame⟩ := X.leave (v := v) hv hlk
  exact ⟨_, _, st fs hr, hrun, hended, v, locs, rfl, hq, ⟨_, rfl⟩, hW, hsame.mono hC hD⟩
theorem eRetN (X : Stand p l e R s m args below meth c T locs cells slots) (hx : p.tables.exec = Jvm.exec) {t : FieldType} {z : Int32} (hret : meth.sig.returnType = some t) (ht : t = .boolean ∨ t = .byte ∨ t = .char ∨ t = .short) (hlk : meth.locks = false) (hd : decode c.code pc = .ok (.ireturn, 1)) {C D : Nat} {Q : Option Value → Heap → List Loc → Prop} (hC : cells ≤ C) (hD : slots ≤ D) (hq : Q (some (.int (nar t z))) T.heap locs) : Ends p e below (PostQ s C D Q) T m pc L (.int z :: S) :=
  eEnd X hlk (fun h => by rw [hret] at h; cases h) hC hD hq fun fs hr => retN X hx hret ht hd hr
theorem eRetO (X : Stand p l e R s m args below meth c T locs cells slots) (hx : p.tables.exec = Jvm.exec) {t : FieldType} {w : Value} {i : Instr} (hret : meth.sig.returnType = some t) (hn : narrow t w = w) (hi : (i = .ireturn ∧ (t = .int ∨ t = .boolean ∨ t = .byte ∨ t = .char ∨ t = .short) ∧ ∃ z, w = .int z) ∨ (i = .lreturn ∧ t = .long ∧ ∃ z, w = .long z) ∨ (i = .dreturn ∧ t = .double ∧ ∃ z, w = .double z) ∨ (i = .freturn ∧ t = .float ∧ ∃ z, w = .float z) ∨ (i = .areturn ∧ t.isReference = true ∧ w.isRef = true)) (hlk : meth.locks = false) (hd : decode c.code pc = .ok (i, 1)) {C D : Nat} {Q : Option Value → Heap → List Loc → Prop} (hC : cells ≤ C) (hD : slots ≤ D) (hq : Q (some w) T.heap locs) : Ends p e below (PostQ s C D Q) T m pc L (w :: S) :=
  eEnd X hlk (fun h => by rw [hret] at h; cases h) hC hD hq fun fs hr => retOut X hx hret hn hi hd hr
theorem eRetI (X : Stand p l e R s m args below meth c T locs cells slots) (hx : p.tables.exec = Jvm.exec) {z : Int32} (hret : meth.sig.returnType = some .int) (hlk : meth.locks = false) (hd : decode c.code pc = .ok (.ireturn, 1)) {C D : Nat} {Q : Option Value → Heap → List Loc → Prop} (hC : cells ≤ C) (hD : slots ≤ D) (hq : Q (some (.int z)) T.heap locs) : Ends p e below (PostQ s C D Q) T m pc L (.int z :: S) :=
  eRetO X hx hret rfl (Or.inl ⟨rfl, Or.inl rfl, z, rfl⟩) hlk hd hC hD hq
theorem eRetL (X : Stand p l e R s m args below meth c T locs cells slots) (hx : p.tables.exec = Jvm.exec) {z : Int64} (hret : meth.sig.returnType = some .long) (hlk : meth.locks = false) (hd : decode c.code pc = .ok (.lreturn, 1)) {C D : Nat} {Q : Option Value → Heap → List Loc → Prop} (hC : cells ≤ C) (hD : slots ≤ D) (hq : Q (some (.long z)) T.heap locs) : Ends p e below (PostQ s C D Q) T m pc L (.long z :: S) :=
  eRetO X hx hret rfl (Or.inr (Or.inl ⟨rfl, rfl, z, rfl⟩)) hlk hd hC hD hq
theorem eRetA (X : Stand p l e R s m args below meth c T locs cells slots) (hx : p.tables.exec = Jvm.exec) {t : FieldType} {w : Value} (hret : meth.sig.returnType = some t) (ht : t.isReference = true) (hn : narrow t w = w) (hw : w.isRef = true) (hlk : meth.locks = false) (hd : decode c.code pc = .ok (.areturn, 1)) {C D : Nat} {Q : Option Value → Heap → List Loc → Prop} (hC : cells ≤ C) (hD : slots ≤ D) (hq : Q (some w) T.heap locs) : Ends p e below (PostQ s C D Q) T m pc L (w :: S) :=
  eRetO X hx hret hn (Or.inr (Or.inr (Or.inr (Or.inr ⟨rfl, ht, hw⟩)))) hlk hd hC hD hq
theorem eRetV (X : Stand p l e R s m args below meth c T locs cells slots) (hx : p.tables.exec = Jvm.exec) (hret : meth.sig.returnType = none) (hlk : meth.locks = false) (hd : decode c.code pc = .ok (.return_, 1)) {C D : Nat} {Q : Option Value → Heap → List Loc → Prop} (hC : cells ≤ C) (hD : slots ≤ D) (hq : Q none T.heap locs) : Ends p e below (PostQ s C D Q) T m pc L [] :=
  eEnd X hlk (fun _ => rfl) hC hD hq fun fs hr => X.returnOut hx hret hd hr
abbrev PVI (s : State) (C D n0 : Nat) (h0 : Heap) (r : Int32) : State → Outcome → Prop := PostQ s C D (fun v h L => v = some (.int r) ∧ Fr n0 L ∧ h = h0)
abbrev PVL (s : State) (C D n0 : Nat) (h0 : Heap) (r : Int64) : State → Outcome → Prop := PostQ s C D (fun v h L => v = some (.long r) ∧ Fr n0 L ∧ h = h0)
abbrev PVW (s : State) (C D n0 : Nat) (r : Int32) : State → Outcome → Prop := PostQ s C D (fun v h L => v = some (.int r) ∧ Fr n0 L)
end Own

theorem own_pn0 : plainName "com/example/shapelint/shapelint/reader/LineEndsNotePinLaw" = true := by first | (simp [plainName, overriddenIn]; done) | decide +kernel
theorem own_d1_0 : decode method_2_code 0 = .ok (.iload_n 0, 1) := by decide +kernel
theorem own_d1_1 : decode method_2_code 1 = .ok (.iconst 3, 1) := by decide +kernel
theorem own_d1_2 : decode method_2_code 2 = .ok (.iand, 1) := by decide +kernel
theorem own_d1_3 : decode method_2_code 3 = .ok (.istore_n 1, 1) := by decide +kernel
theorem own_d1_4 : decode method_2_code 4 = .ok (.iload_n 1, 1) := by decide +kernel
theorem own_d1_5 : decode method_2_code 5 = .ok (.ifCond .ne 6, 3) := by decide +kernel
theorem own_d1_8 : decode method_2_code 8 = .ok (.bipush 13, 2) := by decide +kernel
theorem own_d1_10 : decode method_2_code 10 = .ok (.ireturn, 1) := by decide +kernel
theorem own_d1_11 : decode method_2_code 11 = .ok (.iload_n 1, 1) := by decide +kernel
theorem own_d1_12 : decode method_2_code 12 = .ok (.iconst 1, 1) := by decide +kernel
theorem own_d1_13 : decode method_2_code 13 = .ok (.if_icmp .ne 6, 3) := by decide +kernel
theorem own_d1_16 : decode method_2_code 16 = .ok (.bipush 10, 2) := by decide +kernel
theorem own_d1_18 : decode method_2_code 18 = .ok (.ireturn, 1) := by decide +kernel
theorem own_d1_19 : decode method_2_code 19 = .ok (.iload_n 0, 1) := by decide +kernel
theorem own_d1_20 : decode method_2_code 20 = .ok (.ireturn, 1) := by decide +kernel
def RM1 : Room := { frames := 0, cells := 0, slots := 0, locals := 0 }
def fCh_0 (p1 : Int32) : Int32 := (if (p1 &&& (3 : Int32)) = (0 : Int32) then (13 : Int32) else (if (p1 &&& (3 : Int32)) = (1 : Int32) then (10 : Int32) else p1))
theorem own_ef1 (m : MethodId) (p1 : Int32) : entryFrame m #[(.int p1)] 2 = mkF m 0 #[.val (.int p1), .unset] [] := by first | (simp [entryFrame, mkF, argsToLocals, Value.category]; done) | rfl
set_option maxRecDepth 65536 in
set_option maxHeartbeats 40000000 in
theorem rm1 (l : Launch) (Z : State) (a0 : Array Value) (hw : ∀ d ∈ tables_1, d.before a0 Z = true) (ws : List Jvm.Cond) (p1 : Int32) (h0 : Heap) (n0 : Nat) (Z0 : n0 ≤ h0.size) : MetQ l Z (⟨"com/example/shapelint/shapelint/reader/LineEndsNotePinLaw", "ch", "(I)I"⟩ : MethodName) (Jvm.Cond.code (⟨"com/example/shapelint/shapelint/reader/LineEndsNotePinLaw", "ch", "(I)I"⟩ : MethodName) method_2_code 2 (some .int) :: ws) RM1 #[(.int p1)] h0 (fun v h L => v = some (.int (fCh_0 p1)) ∧ Fr n0 L ∧ h = h0) := by
  refine MetFree.of_bodySF (plainFor_of_name own_pn0) hisR ?_
  intro p e s m args below meth c s₁ Bd hml0 hP hK
  obtain ⟨rfl, hZ, hh⟩ := hP
  have hx := Bd.exec
  have hby := Bd.bytes
  have hml : c.maxLocals = 2 := hml0
  have hown : s.vm.findClass "com/example/shapelint/shapelint/reader/LineEndsNotePinLaw" = some m.cls := findClass_of_methodNamed Bd.named
  have hnm := (name_of_methodNamed Bd.named Bd.method).1
  have hlk : meth.locks = false := BodyLoose.notSynchronized Bd
  have X0 : Stand p l e RM1 s m #[(.int p1)] below meth c s₁ [] 0 0 := Stand.of_body Bd
  have e0 : s₁.heap = h0 := by rw [← hh, Bd.state]; rfl
  have N0 := Fr.nil n0
  suffices kk : Ends p e below (PVI s 0 0 n0 h0 (fCh_0 p1)) s₁ m 0 #[.val (.int p1), .unset] [] by
    obtain ⟨t, o, k1, k2, k3, k4⟩ := kk
    exact ⟨t, o, castTop (own_ef1 m p1) k1, k2, k3, k4⟩
  refine eILoadN X0 hx (hb hby own_d1_0) rfl rfl ?_
  refine eIConst X0 hx (3 : Int32) (hb hby own_d1_1) rfl rfl ?_
  refine eIAnd X0 hx (hb hby own_d1_2) rfl ?_
  refine eIStoreN X0 hx (hb hby own_d1_3) (L' := #[.val (.int p1), .val (.int (p1 &&& (3 : Int32)))]) rfl rfl ?_
  refine eILoadN X0 hx (hb hby own_d1_4) rfl rfl ?_
  show Ends p e below (PVI s 0 0 n0 h0 (if (p1 &&& (3 : Int32)) = (0 : Int32) then (13 : Int32) else (if (p1 &&& (3 : Int32)) = (1 : Int32) then (10 : Int32) else p1))) s₁ m 5 #[.val (.int p1), .val (.int (p1 &&& (3 : Int32)))] [(.int (p1 &&& (3 : Int32)))]
  by_cases c1 : (p1 &&& (3 : Int32)) = (0 : Int32)
  · rw [if_pos c1]
    refine eIfN X0 hx (hb hby own_d1_5) ((if0 _ _).trans (teq c1).2) rfl ?_
    refine eBipush X0 hx (13 : Int32) (hb hby own_d1_8) rfl rfl ?_
    exact eRetI X0 hx Bd.returns hlk (hb hby own_d1_10) (by decide) (by decide) ⟨rfl, N0, e0⟩
  · rw [if_neg c1]
    refine eIfY X0 hx (hb hby own_d1_5) ((if0 _ _).trans (feq c1).2) (by decide) (pc' := 11) rfl ?_
    refine eILoadN X0 hx (hb hby own_d1_11) rfl rfl ?_
    refine eIConst X0 hx (1 : Int32) (hb hby own_d1_12) rfl rfl ?_
    show Ends p e below (PVI s 0 0 n0 h0 (if (p1 &&& (3 : Int32)) = (1 : Int32) then (10 : Int32) else p1)) s₁ m 13 #[.val (.int p1), .val (.int (p1 &&& (3 : Int32)))] [(.int (1 : Int32)), (.int (p1 &&& (3 : Int32)))]
    by_cases c2 : (p1 &&& (3 : Int32)) = (1 : Int32)
    · rw [if_pos c2]
      refine eIcmpN X0 hx (hb hby own_d1_13) (teq c2).2 rfl ?_
      refine eBipush X0 hx (10 : Int32) (hb hby own_d1_16) rfl rfl ?_
      exact eRetI X0 hx Bd.returns hlk (hb hby own_d1_18) (by decide) (by decide) ⟨rfl, N0, e0⟩
    · rw [if_neg c2]
      refine eIcmpY X0 hx (hb hby own_d1_13) (feq c2).2 (by decide) (pc' := 19) rfl ?_
      refine eILoadN X0 hx (hb hby own_d1_19) rfl rfl ?_
      exact eRetI X0 hx Bd.returns hlk (hb hby own_d1_20) (by decide) (by decide) ⟨rfl, N0, e0⟩
theorem own_d2_0 : decode method_3_code 0 = .ok (.iload 4, 2) := by decide +kernel
theorem own_d2_2 : decode method_3_code 2 = .ok (.bipush 13, 2) := by decide +kernel
theorem own_d2_4 : decode method_3_code 4 = .ok (.if_icmp .ne 5, 3) := by decide +kernel
theorem own_d2_7 : decode method_3_code 7 = .ok (.lconst 1, 1) := by decide +kernel
theorem own_d2_8 : decode method_3_code 8 = .ok (.lreturn, 1) := by decide +kernel
theorem own_d2_9 : decode method_3_code 9 = .ok (.iload 4, 2) := by decide +kernel
theorem own_d2_11 : decode method_3_code 11 = .ok (.bipush 10, 2) := by decide +kernel
theorem own_d2_13 : decode method_3_code 13 = .ok (.if_icmp .ne 26, 3) := by decide +kernel
theorem own_d2_16 : decode method_3_code 16 = .ok (.iload_n 0, 1) := by decide +kernel
theorem own_d2_17 : decode method_3_code 17 = .ok (.ifCond .eq 20, 3) := by decide +kernel
theorem own_d2_37 : decode method_3_code 37 = .ok (.lconst 1, 1) := by decide +kernel
theorem own_d2_38 : decode method_3_code 38 = .ok (.lreturn, 1) := by decide +kernel
theorem own_d2_20 : decode method_3_code 20 = .ok (.iload_n 1, 1) := by decide +kernel
theorem own_d2_21 : decode method_3_code 21 = .ok (.bipush 13, 2) := by decide +kernel
theorem own_d2_23 : decode method_3_code 23 = .ok (.if_icmp .ne 14, 3) := by decide +kernel
theorem own_d2_26 : decode method_3_code 26 = .ok (.lload_n 2, 1) := by decide +kernel
theorem own_d2_27 : decode method_3_code 27 = .ok (.lconst 1, 1) := by decide +kernel
theorem own_d2_28 : decode method_3_code 28 = .ok (.ladd, 1) := by decide +kernel
theorem own_d2_29 : decode method_3_code 29 = .ok (.lload 5, 2) := by decide +kernel
theorem own_d2_31 : decode method_3_code 31 = .ok (.lcmp, 1) := by decide +kernel
theorem own_d2_32 : decode method_3_code 32 = .ok (.ifCond .ne 5, 3) := by decide +kernel
theorem own_d2_35 : decode method_3_code 35 = .ok (.lconst 0, 1) := by decide +kernel
theorem own_d2_36 : decode method_3_code 36 = .ok (.lreturn, 1) := by decide +kernel
theorem own_d2_39 : decode method_3_code 39 = .ok (.lconst 0, 1) := by decide +kernel
theorem own_d2_40 : decode method_3_code 40 = .ok (.lreturn, 1) := by decide +kernel
def RM2 : Room := { frames := 0, cells := 0, slots := 0, locals := 0 }
def fEnds_0 (p1 : Int32) (p2 : Int32) (q3 : Int64) (p4 : Int32) (q5 : Int64) : Int64 := (if p4 = (13 : Int32) then (1 : Int64) else (if p4 = (10 : Int32) then (if p1 = (0 : Int32) then (1 : Int64) else (if p2 = (13 : Int32) then (if (q3 + (1 : Int64)) = q5 then (0 : Int64) else (1 : Int64)) else (1 : Int64))) else (0 : Int64)))
theorem own_ef2 (m : MethodId) (p1 : Int32) (p2 : Int32) (q3 : Int64) (p4 : Int32) (q5 : Int64) : entryFrame m #[(.int p1), (.int p2), (.long q3), (.int p4), (.long q5)] 7 = mkF m 0 #[.val (.int p1), .val (.int p2), .val (.long q3), .second, .val (.int p4), .val (.long q5), .second] [] := by first | (simp [entryFrame, mkF, argsToLocals, Value.category]; done) | rfl
set_option maxRecDepth 65536 in
set_option maxHeartbeats 40000000 in
theorem rm2 (l : Launch) (Z : State) (a0 : Array Value) (hw : ∀ d ∈ tables_1, d.before a0 Z = true) (ws : List Jvm.Cond) (p1 : Int32) (p2 : Int32) (q3 : Int64) (p4 : Int32) (q5 : Int64) (h0 : Heap) (n0 : Nat) (Z0 : n0 ≤ h0.size) : MetQ l Z (⟨"com/example/shapelint/shapelint/reader/LineEndsNotePinLaw", "ends", "(ZIJIJ)J"⟩ : MethodName) (Jvm.Cond.code (⟨"com/example/shapelint/shapelint/reader/LineEndsNotePinLaw", "ends", "(ZIJIJ)J"⟩ : MethodName) method_3_code 7 (some .long) :: ws) RM2 #[(.int p1), (.int p2), (.long q3), (.int p4), (.long q5)] h0 (fun v h L => v = some (.long (fEnds_0 p1 p2 q3 p4 q5)) ∧ Fr n0 L ∧ h = h0) := by
  refine MetFree.of_bodySF (plainFor_of_name own_pn0) hisR ?_
  intro p e s m args below meth c s₁ Bd hml0 hP hK
  obtain ⟨rfl, hZ, hh⟩ := hP
  have hx := Bd.exec
  have hby := Bd.bytes
  have hml : c.maxLocals = 7 := hml0
  have hown : s.vm.findClass "com/example/shapelint/shapelint/reader/LineEndsNotePinLaw" = some m.cls := findClass_of_methodNamed Bd.named
  have hnm := (name_of_methodNamed Bd.named Bd.method).1
  have hlk : meth.locks = false := BodyLoose.notSynchronized Bd
  have X0 : Stand p l e RM2 s m #[(.int p1), (.int p2), (.long q3), (.int p4), (.long q5)] below meth c s₁ [] 0 0 := Stand.of_body Bd
  have e0 : s₁.heap = h0 := by rw [← hh, Bd.state]; rfl
  have N0 := Fr.nil n0
  suffices kk : Ends p e below (PVL s 0 0 n0 h0 (fEnds_0 p1 p2 q3 p4 q5)) s₁ m 0 #[.val (.int p1), .val (.int p2), .val (.long q3), .second, .val (.int p4), .val (.long q5), .second] [] by
    obtain ⟨t, o, k1, k2, k3, k4⟩ := kk
    exact ⟨t, o, castTop (own_ef2 m p1 p2 q3 p4 q5) k1, k2, k3, k4⟩
  refine eILoad X0 hx (hb hby own_d2_0) rfl rfl ?_
  refine eBipush X0 hx (13 : Int32) (hb hby own_d2_2) rfl rfl ?_
  show Ends p e below (PVL s 0 0 n0 h0 (if p4 = (13 : Int32) then (1 : Int64) else (if p4 = (10 : Int32) then (if p1 = (0 : Int32) then (1 : Int64) else (if p2 = (13 : Int32) then (if (q3 + (1 : Int64)) = q5 then (0 : Int64) else (1 : Int64)) else (1 : Int64))) else (0 : Int64)))) s₁ m 4 #[.val (.int p1), .val (.int p2), .val (.long q3), .second, .val (.int p4), .val (.long q5), .second] [(.int (13 : Int32)), (.int p4)]
  by_cases c1 : p4 = (13 : Int32)
  · rw [if_pos c1]
    refine eIcmpN X0 hx (hb hby own_d2_4) (teq c1).2 rfl ?_
    refine eLConst X0 hx (1 : Int64) (hb hby own_d2_7) rfl rfl ?_
    exact eRetL X0 hx Bd.returns hlk (hb hby own_d2_8) (by decide) (by decide) ⟨rfl, N0, e0⟩
  · rw [if_neg c1]
    refine eIcmpY X0 hx (hb hby own_d2_4) (feq c1).2 (by decide) (pc' := 9) rfl ?_
    refine eILoad X0 hx (hb hby own_d2_9) rfl rfl ?_
    refine eBipush X0 hx (10 : Int32) (hb hby own_d2_11) rfl rfl ?_
    show Ends p e below (PVL s 0 0 n0 h0 (if p4 = (10 : Int32) then (if p1 = (0 : Int32) then (1 : Int64) else (if p2 = (13 : Int32) then (if (q3 + (1 : Int64)) = q5 then (0 : Int64) else (1 : Int64)) else (1 : Int64))) else (0 : Int64))) s₁ m 13 #[.val (.int p1), .val (.int p2), .val (.long q3), .second, .val (.int p4), .val (.long q5), .second] [(.int (10 : Int32)), (.int p4)]
    by_cases c2 : p4 = (10 : Int32)
    · rw [if_pos c2]
      refine eIcmpN X0 hx (hb hby own_d2_13) (teq c2).2 rfl ?_
      refine eILoadN X0 hx (hb hby own_d2_16) rfl rfl ?_
      show Ends p e below (PVL s 0 0 n0 h0 (if p1 = (0 : Int32) then (1 : Int64) else (if p2 = (13 : Int32) then (if (q3 + (1 : Int64)) = q5 then (0 : Int64) else (1 : Int64)) else (1 : Int64)))) s₁ m 17 #[.val (.int p1), .val (.int p2), .val (.long q3), .second, .val (.int p4), .val (.long q5), .second] [(.int p1)]
      by_cases c3 : p1 = (0 : Int32)
      · rw [if_pos c3]
        refine eIfY X0 hx (hb hby own_d2_17) ((if0 _ _).trans (teq c3).1) (by decide) (pc' := 37) rfl ?_
        refine eLConst X0 hx (1 : Int64) (hb hby own_d2_37) rfl rfl ?_
        exact eRetL X0 hx Bd.returns hlk (hb hby own_d2_38) (by decide) (by decide) ⟨rfl, N0, e0⟩
      · rw [if_neg c3]
        refine eIfN X0 hx (hb hby own_d2_17) ((if0 _ _).trans (feq c3).1) rfl ?_
        refine eILoadN X0 hx (hb hby own_d2_20) rfl rfl ?_
        refine eBipush X0 hx (13 : Int32) (hb hby own_d2_21) rfl rfl ?_
        show Ends p e below (PVL s 0 0 n0 h0 (if p2 = (13 : Int32) then (if (q3 + (1 : Int64)) = q5 then (0 : Int64) else (1 : Int64)) else (1 : Int64))) s₁ m 23 #[.val (.int p1), .val (.int p2), .val (.long q3), .second, .val (.int p4), .val (.long q5), .second] [(.int (13 : Int32)), (.int p2)]
        by_cases c4 : p2 = (13 : Int32)
        · rw [if_pos c4]
          refine eIcmpN X0 hx (hb hby own_d2_23) (teq c4).2 rfl ?_
          refine eLLoadN X0 hx (hb hby own_d2_26) rfl rfl ?_
          refine eLConst X0 hx (1 : Int64) (hb hby own_d2_27) rfl rfl ?_
          refine eLAdd X0 hx (hb hby own_d2_28) rfl ?_
          refine eLLoad X0 hx (hb hby own_d2_29) rfl rfl ?_
          refine eLCmp X0 hx (hb hby own_d2_31) rfl ?_
          show Ends p e below (PVL s 0 0 n0 h0 (if (q3 + (1 : Int64)) = q5 then (0 : Int64) else (1 : Int64))) s₁ m 32 #[.val (.int p1), .val (.int p2), .val (.long q3), .second, .val (.int p4), .val (.long q5), .second] [(.int (XT.cmpL (q3 + (1 : Int64)) q5))]
          by_cases c5 : (q3 + (1 : Int64)) = q5
          · rw [if_pos c5]
            refine eIfN X0 hx (hb hby own_d2_32) (XT.ll_ne_f c5) rfl ?_
            refine eLConst X0 hx (0 : Int64) (hb hby own_d2_35) rfl rfl ?_
            exact eRetL X0 hx Bd.returns hlk (hb hby own_d2_36) (by decide) (by decide) ⟨rfl, N0, e0⟩
          · rw [if_neg c5]
            refine eIfY X0 hx (hb hby own_d2_32) (XT.ll_ne_t c5) (by decide) (pc' := 37) rfl ?_
            refine eLConst X0 hx (1 : Int64) (hb hby own_d2_37) rfl rfl ?_
            exact eRetL X0 hx Bd.returns hlk (hb hby own_d2_38) (by decide) (by decide) ⟨rfl, N0, e0⟩
        · rw [if_neg c4]
          refine eIcmpY X0 hx (hb hby own_d2_23) (feq c4).2 (by decide) (pc' := 37) rfl ?_
          refine eLConst X0 hx (1 : Int64) (hb hby own_d2_37) rfl rfl ?_
          exact eRetL X0 hx Bd.returns hlk (hb hby own_d2_38) (by decide) (by decide) ⟨rfl, N0, e0⟩
    · rw [if_neg c2]
      refine eIcmpY X0 hx (hb hby own_d2_13) (feq c2).2 (by decide) (pc' := 39) rfl ?_
      refine eLConst X0 hx (0 : Int64) (hb hby own_d2_39) rfl rfl ?_
      exact eRetL X0 hx Bd.returns hlk (hb hby own_d2_40) (by decide) (by decide) ⟨rfl, N0, e0⟩
theorem own_pn1 : plainName "com/example/shapelint/shapelint/reader/LineEnds" = true := by first | (simp [plainName, overriddenIn]; done) | decide +kernel
theorem own_d3_0 : decode prog_97_method_1_code 0 = .ok (.aload_n 0, 1) := by decide +kernel
theorem own_d3_1 : decode prog_97_method_1_code 1 = .ok (.invokespecial 1, 3) := by decide +kernel
theorem own_d3_4 : decode prog_97_method_1_code 4 = .ok (.aload_n 0, 1) := by decide +kernel
theorem own_d3_5 : decode prog_97_method_1_code 5 = .ok (.ldc2_w 7, 3) := by decide +kernel
theorem own_d3_8 : decode prog_97_method_1_code 8 = .ok (.putfield 9, 3) := by decide +kernel
theorem own_d3_11 : decode prog_97_method_1_code 11 = .ok (.return_, 1) := by decide +kernel
def RM3 : Room := { frames := 1, cells := 0, slots := 0, locals := 12 }
def fIni_0 (w1 : Int64) : Int64 × Int64 := (w1, (-2 : Int64))
theorem own_ef3 (m : MethodId) (a1 : Addr) : entryFrame m #[(.ref a1)] 1 = mkF m 0 #[.val (.ref a1)] [] := by first | (simp [entryFrame, mkF, argsToLocals, Value.category]; done) | rfl
set_option maxRecDepth 65536 in
set_option maxHeartbeats 40000000 in
theorem rm3 (l : Launch) (Z : State) (a0 : Array Value) (hw : ∀ d ∈ tables_1, d.before a0 Z = true) (ws : List Jvm.Cond) (a1 : Addr) (w1 : Int64) (w2 : Int64) (h0 : Heap) (n0 : Nat) (Z0 : n0 ≤ h0.size) (E_a1 : Exa Z h0 a1 "com/example/shapelint/shapelint/reader/LineEnds") (F_a1_count : Fld Z h0 a1 "com/example/shapelint/shapelint/reader/LineEnds" "count" "J" (.long w1)) (F_a1_lastReturn : Fld Z h0 a1 "com/example/shapelint/shapelint/reader/LineEnds" "lastReturn" "J" (.long w2)) (ge_a1 : n0 ≤ a1) : MetQ l Z (⟨"com/example/shapelint/shapelint/reader/LineEnds", "<init>", "()V"⟩ : MethodName) (Jvm.Cond.code (⟨"com/example/shapelint/shapelint/reader/LineEnds", "<init>", "()V"⟩ : MethodName) prog_97_method_1_code 1 none :: ws) RM3 #[(.ref a1)] h0 (fun v h L => Fr n0 L ∧ Keep h0 h [a1] ∧ v = none ∧ Exa Z h a1 "com/example/shapelint/shapelint/reader/LineEnds" ∧ Fld Z h a1 "com/example/shapelint/shapelint/reader/LineEnds" "count" "J" (.long ((fIni_0 w1)).1) ∧ Fld Z h a1 "com/example/shapelint/shapelint/reader/LineEnds" "lastReturn" "J" (.long ((fIni_0 w1)).2)) := by
  refine MetFree.of_bodySF (plainFor_of_name own_pn1) hisR ?_
  intro p e s m args below meth c s₁ Bd hml0 hP hK
  obtain ⟨rfl, hZ, hh⟩ := hP
  have hx := Bd.exec
  have hby := Bd.bytes
  have hml : c.maxLocals = 1 := hml0
  have hown : s.vm.findClass "com/example/shapelint/shapelint/reader/LineEnds" = some m.cls := findClass_of_methodNamed Bd.named
  have hnm := (name_of_methodNamed Bd.named Bd.method).1
  have hlk : meth.locks = false := BodyLoose.notSynchronized Bd
  have X0 : Stand p l e RM3 s m #[(.ref a1)] below meth c s₁ [] 0 0 := Stand.of_body Bd
  have e0 : s₁.heap = h0 := by rw [← hh, Bd.state]; rfl
  have N0 := Fr.nil n0
  have K0 := Keep.refl h0 [a1]
  suffices kk : Ends p e below (PostQ s 0 0 (fun v h L => Fr n0 L ∧ Keep h0 h [a1] ∧ v = none ∧ Exa Z h a1 "com/example/shapelint/shapelint/reader/LineEnds" ∧ Fld Z h a1 "com/example/shapelint/shapelint/reader/LineEnds" "count" "J" (.long ((fIni_0 w1)).1) ∧ Fld Z h a1 "com/example/shapelint/shapelint/reader/LineEnds" "lastReturn" "J" (.long ((fIni_0 w1)).2))) s₁ m 0 #[.val (.ref a1)] [] by
    obtain ⟨t, o, k1, k2, k3, k4⟩ := kk
    exact ⟨t, o, castTop (own_ef3 m a1) k1, k2, k3, k4⟩
  refine eALoadN X0 hx (hb hby own_d3_0) rfl rfl rfl ?_
  refine eInitO X0 hx hZ hown (hw _ (List.mem_of_getElem? (i := 14) rfl)) (hw _ (List.mem_of_getElem? (i := 15) rfl)) (hw _ (List.mem_of_getElem? (i := 16) rfl)) e0 (by rw [hml]; rfl) (hb hby own_d3_1) (by decide) 0 (by exact Nat.le_refl _) (by decide) rfl (fun T1 X1 e1 => ?_)
  refine eALoadN X1 hx (hb hby own_d3_4) rfl rfl rfl ?_
  refine eLdc2J X1 hx hZ hown (v := (-2 : Int64)) (hw _ (List.mem_of_getElem? (i := 17) rfl)) (hb hby own_d3_5) rfl ?_
  refine ePutF X1 hx hZ hown (hw _ (List.mem_of_getElem? (i := 18) rfl)) Via.refl e1 F_a1_lastReturn E_a1 (Or.inl (hw _ (List.mem_of_getElem? (i := 19) rfl))) (hw _ (List.mem_of_getElem? (i := 9) rfl)) (ty := .long) (by decide) rfl rfl (hb hby own_d3_8) rfl (fun T2 h2 X2 e2 W2 => ?_)
  have E_a1 := E_a1.wr W2
  have F_a1_count := F_a1_count.other W2 (Or.inr (slot_ne (Or.inl (hw _ (List.mem_of_getElem? (i := 26) rfl))) (Or.inl (hw _ (List.mem_of_getElem? (i := 19) rfl))) (by decide) (t := .long) (t' := .long) (by decide) (by decide)))
  have F_a1_lastReturn := F_a1_lastReturn.same W2
  have N2 := Fr.snoc X2 N0 ge_a1
  have Z2 := Nat.le_trans Z0 (Keep.of_wr W2).1
  have K2 : Keep h0 h2 [a1] := K0.wr W2 (Or.inl (List.mem_of_getElem? (i := 0) rfl))
  exact eRetV X2 hx Bd.returns hlk (hb hby own_d3_11) (by decide) (by decide) (by rw [e2]; exact ⟨N2, K2, rfl, E_a1, F_a1_count, F_a1_lastReturn⟩)
theorem own_d5_0 : decode prog_97_method_2_code 0 = .ok (.aload_n 0, 1) := by decide +kernel
theorem own_d5_1 : decode prog_97_method_2_code 1 = .ok (.getfield 15, 3) := by decide +kernel
theorem own_d5_4 : decode prog_97_method_2_code 4 = .ok (.lreturn, 1) := by decide +kernel
def RM5 : Room := { frames := 0, cells := 0, slots := 0, locals := 0 }
def fCnt_0 (w1 : Int64) : Int64 := w1
theorem own_ef5 (m : MethodId) (a1 : Addr) : entryFrame m #[(.ref a1)] 1 = mkF m 0 #[.val (.ref a1)] [] := by first | (simp [entryFrame, mkF, argsToLocals, Value.category]; done) | rfl
set_option maxRecDepth 65536 in
set_option maxHeartbeats 40000000 in
theorem rm5 (l : Launch) (Z : State) (a0 : Array Value) (hw : ∀ d ∈ tables_1, d.before a0 Z = true) (ws : List Jvm.Cond) (a1 : Addr) (w1 : Int64) (h0 : Heap) (n0 : Nat) (Z0 : n0 ≤ h0.size) (F_a1_count : Fld Z h0 a1 "com/example/shapelint/shapelint/reader/LineEnds" "count" "J" (.long w1)) : MetQ l Z (⟨"com/example/shapelint/shapelint/reader/LineEnds", "count", "()J"⟩ : MethodName) (Jvm.Cond.code (⟨"com/example/shapelint/shapelint/reader/LineEnds", "count", "()J"⟩ : MethodName) prog_97_method_2_code 1 (some .long) :: ws) RM5 #[(.ref a1)] h0 (fun v h L => Fr n0 L ∧ h = h0 ∧ v = some (.long (fCnt_0 w1))) := by
  refine MetFree.of_bodySF (plainFor_of_name own_pn1) hisR ?_
  intro p e s m args below meth c s₁ Bd hml0 hP hK
  obtain ⟨rfl, hZ, hh⟩ := hP
  have hx := Bd.exec
  have hby := Bd.bytes
  have hml : c.maxLocals = 1 := hml0
  have hown : s.vm.findClass "com/example/shapelint/shapelint/reader/LineEnds" = some m.cls := findClass_of_methodNamed Bd.named
  have hnm := (name_of_methodNamed Bd.named Bd.method).1
  have hlk : meth.locks = false := BodyLoose.notSynchronized Bd
  have X0 : Stand p l e RM5 s m #[(.ref a1)] below meth c s₁ [] 0 0 := Stand.of_body Bd
  have e0 : s₁.heap = h0 := by rw [← hh, Bd.state]; rfl
  have N0 := Fr.nil n0
  suffices kk : Ends p e below (PostQ s 0 0 (fun v h L => Fr n0 L ∧ h = h0 ∧ v = some (.long (fCnt_0 w1)))) s₁ m 0 #[.val (.ref a1)] [] by
    obtain ⟨t, o, k1, k2, k3, k4⟩ := kk
    exact ⟨t, o, castTop (own_ef5 m a1) k1, k2, k3, k4⟩
  refine eALoadN X0 hx (hb hby own_d5_0) rfl rfl rfl ?_
  refine eGetF X0 hx hZ hown (hw _ (List.mem_of_getElem? (i := 25) rfl)) Via.refl e0 F_a1_count (hb hby own_d5_1) rfl (fun T1 X1 e1 => ?_)
  exact eRetL X1 hx Bd.returns hlk (hb hby own_d5_4) (by decide) (by decide) (by rw [e1]; exact ⟨N0, rfl, rfl⟩)
theorem own_d6_0 : decode prog_97_method_3_code 0 = .ok (.iload_n 1, 1) := by decide +kernel
theorem own_d6_1 : decode prog_97_method_3_code 1 = .ok (.bipush 13, 2) := by decide +kernel
theorem own_d6_3 : decode prog_97_method_3_code 3 = .ok (.if_icmp .ne 21, 3) := by decide +kernel
theorem own_d6_6 : decode prog_97_method_3_code 6 = .ok (.aload_n 0, 1) := by decide +kernel
theorem own_d6_7 : decode prog_97_method_3_code 7 = .ok (.dup, 1) := by decide +kernel
theorem own_d6_8 : decode prog_97_method_3_code 8 = .ok (.getfield 15, 3) := by decide +kernel
theorem own_d6_11 : decode prog_97_method_3_code 11 = .ok (.lconst 1, 1) := by decide +kernel
theorem own_d6_12 : decode prog_97_method_3_code 12 = .ok (.ladd, 1) := by decide +kernel
theorem own_d6_13 : decode prog_97_method_3_code 13 = .ok (.putfield 15, 3) := by decide +kernel
theorem own_d6_16 : decode prog_97_method_3_code 16 = .ok (.aload_n 0, 1) := by decide +kernel
theorem own_d6_17 : decode prog_97_method_3_code 17 = .ok (.lload_n 2, 1) := by decide +kernel
theorem own_d6_18 : decode prog_97_method_3_code 18 = .ok (.putfield 9, 3) := by decide +kernel
theorem own_d6_21 : decode prog_97_method_3_code 21 = .ok (.goto 30, 3) := by decide +kernel
theorem own_d6_51 : decode prog_97_method_3_code 51 = .ok (.return_, 1) := by decide +kernel
theorem own_d6_24 : decode prog_97_method_3_code 24 = .ok (.iload_n 1, 1) := by decide +kernel
theorem own_d6_25 : decode prog_97_method_3_code 25 = .ok (.bipush 10, 2) := by decide +kernel
theorem own_d6_27 : decode prog_97_method_3_code 27 = .ok (.if_icmp .ne 24, 3) := by decide +kernel
theorem own_d6_30 : decode prog_97_method_3_code 30 = .ok (.aload_n 0, 1) := by decide +kernel
theorem own_d6_31 : decode prog_97_method_3_code 31 = .ok (.getfield 9, 3) := by decide +kernel
theorem own_d6_34 : decode prog_97_method_3_code 34 = .ok (.lload_n 2, 1) := by decide +kernel
theorem own_d6_35 : decode prog_97_method_3_code 35 = .ok (.lconst 1, 1) := by decide +kernel
theorem own_d6_36 : decode prog_97_method_3_code 36 = .ok (.lsub, 1) := by decide +kernel
theorem own_d6_37 : decode prog_97_method_3_code 37 = .ok (.lcmp, 1) := by decide +kernel
theorem own_d6_38 : decode prog_97_method_3_code 38 = .ok (.ifCond .eq 13, 3) := by decide +kernel
theorem own_d6_41 : decode prog_97_method_3_code 41 = .ok (.aload_n 0, 1) := by decide +kernel
theorem own_d6_42 : decode prog_97_method_3_code 42 = .ok (.dup, 1) := by decide +kernel
theorem own_d6_43 : decode prog_97_method_3_code 43 = .ok (.getfield 15, 3) := by decide +kernel
theorem own_d6_46 : decode prog_97_method_3_code 46 = .ok (.lconst 1, 1) := by decide +kernel
theorem own_d6_47 : decode prog_97_method_3_code 47 = .ok (.ladd, 1) := by decide +kernel
theorem own_d6_48 : decode prog_97_method_3_code 48 = .ok (.putfield 15, 3) := by decide +kernel
def RM6 : Room := { frames := 0, cells := 0, slots := 0, locals := 0 }
def fNote_0 (p2 : Int32) (q3 : Int64) (w1 : Int64) (w2 : Int64) : Int64 × Int64 := (if p2 = (13 : Int32) then ((w1 + (1 : Int64)), q3) else (if p2 = (10 : Int32) then (if w2 = (q3 - (1 : Int64)) then (w1, w2) else ((w1 + (1 : Int64)), w2)) else (w1, w2)))
theorem own_ef6 (m : MethodId) (a1 : Addr) (p2 : Int32) (q3 : Int64) : entryFrame m #[(.ref a1), (.int p2), (.long q3)] 4 = mkF m 0 #[.val (.ref a1), .val (.int p2), .val (.long q3), .second] [] := by first | (simp [entryFrame, mkF, argsToLocals, Value.category]; done) | rfl
set_option maxRecDepth 65536 in
set_option maxHeartbeats 40000000 in
theorem rm6 (l : Launch) (Z : State) (a0 : Array Value) (hw : ∀ d ∈ tables_1, d.before a0 Z = true) (ws : List Jvm.Cond) (a1 : Addr) (p2 : Int32) (q3 : Int64) (w1 : Int64) (w2 : Int64) (h0 : Heap) (n0 : Nat) (Z0 : n0 ≤ h0.size) (E_a1 : Exa Z h0 a1 "com/example/shapelint/shapelint/reader/LineEnds") (F_a1_count : Fld Z h0 a1 "com/example/shapelint/shapelint/reader/LineEnds" "count" "J" (.long w1)) (F_a1_lastReturn : Fld Z h0 a1 "com/example/shapelint/shapelint/reader/LineEnds" "lastReturn" "J" (.long w2)) (ge_a1 : n0 ≤ a1) : MetQ l Z (⟨"com/example/shapelint/shapelint/reader/LineEnds", "note", "(IJ)V"⟩ : MethodName) (Jvm.Cond.code (⟨"com/example/shapelint/shapelint/reader/LineEnds", "note", "(IJ)V"⟩ : MethodName) prog_97_method_3_code 4 none :: ws) RM6 #[(.ref a1), (.int p2), (.long q3)] h0 (fun v h L => Fr n0 L ∧ Keep h0 h [a1] ∧ v = none ∧ Exa Z h a1 "com/example/shapelint/shapelint/reader/LineEnds" ∧ Fld Z h a1 "com/example/shapelint/shapelint/reader/LineEnds" "count" "J" (.long ((fNote_0 p2 q3 w1 w2)).1) ∧ Fld Z h a1 "com/example/shapelint/shapelint/reader/LineEnds" "lastReturn" "J" (.long ((fNote_0 p2 q3 w1 w2)).2)) := by
  refine MetFree.of_bodySF (plainFor_of_name own_pn1) hisR ?_
  intro p e s m args below meth c s₁ Bd hml0 hP hK
  obtain ⟨rfl, hZ, hh⟩ := hP
  have hx := Bd.exec
  have hby := Bd.bytes
  have hml : c.maxLocals = 4 := hml0
  have hown : s.vm.findClass "com/example/shapelint/shapelint/reader/LineEnds" = some m.cls := findClass_of_methodNamed Bd.named
  have hnm := (name_of_methodNamed Bd.named Bd.method).1
  have hlk : meth.locks = false := BodyLoose.notSynchronized Bd
  have X0 : Stand p l e RM6 s m #[(.ref a1), (.int p2), (.long q3)] below meth c s₁ [] 0 0 := Stand.of_body Bd
  have e0 : s₁.heap = h0 := by rw [← hh, Bd.state]; rfl
  have N0 := Fr.nil n0
  have K0 := Keep.refl h0 [a1]
  suffices kk : Ends p e below (PostQ s 0 0 (fun v h L => Fr n0 L ∧ Keep h0 h [a1] ∧ v = none ∧ Exa Z h a1 "com/example/shapelint/shapelint/reader/LineEnds" ∧ Fld Z h a1 "com/example/shapelint/shapelint/reader/LineEnds" "count" "J" (.long ((fNote_0 p2 q3 w1 w2)).1) ∧ Fld Z h a1 "com/example/shapelint/shapelint/reader/LineEnds" "lastReturn" "J" (.long ((fNote_0 p2 q3 w1 w2)).2))) s₁ m 0 #[.val (.ref a1), .val (.int p2), .val (.long q3), .second] [] by
    obtain ⟨t, o, k1, k2, k3, k4⟩ := kk
    exact ⟨t, o, castTop (own_ef6 m a1 p2 q3) k1, k2, k3, k4⟩
  refine eILoadN X0 hx (hb hby own_d6_0) rfl rfl ?_
  refine eBipush X0 hx (13 : Int32) (hb hby own_d6_1) rfl rfl ?_
  show Ends p e below (PostQ s 0 0 (fun v h L => Fr n0 L ∧ Keep h0 h [a1] ∧ v = none ∧ Exa Z h a1 "com/example/shapelint/shapelint/reader/LineEnds" ∧ Fld Z h a1 "com/example/shapelint/shapelint/reader/LineEnds" "count" "J" (.long ((if p2 = (13 : Int32) then ((w1 + (1 : Int64)), q3) else (if p2 = (10 : Int32) then (if w2 = (q3 - (1 : Int64)) then (w1, w2) else ((w1 + (1 : Int64)), w2)) else (w1, w2)))).1) ∧ Fld Z h a1 "com/example/shapelint/shapelint/reader/LineEnds" "lastReturn" "J" (.long ((if p2 = (13 : Int32) then ((w1 + (1 : Int64)), q3) else (if p2 = (10 : Int32) then (if w2 = (q3 - (1 : Int64)) then (w1, w2) else ((w1 + (1 : Int64)), w2)) else (w1, w2)))).2))) s₁ m 3 #[.val (.ref a1), .val (.int p2), .val (.long q3), .second] [(.int (13 : Int32)), (.int p2)]
  by_cases c1 : p2 = (13 : Int32)
  · rw [if_pos c1]
    refine eIcmpN X0 hx (hb hby own_d6_3) (teq c1).2 rfl ?_
    refine eALoadN X0 hx (hb hby own_d6_6) rfl rfl rfl ?_
    refine eDup X0 hx (hb hby own_d6_7) rfl rfl ?_
    refine eGetF X0 hx hZ hown (hw _ (List.mem_of_getElem? (i := 25) rfl)) Via.refl e0 F_a1_count (hb hby own_d6_8) rfl (fun T2 X2 e2 => ?_)
    refine eLConst X2 hx (1 : Int64) (hb hby own_d6_11) rfl rfl ?_
    refine eLAdd X2 hx (hb hby own_d6_12) rfl ?_
    refine ePutF X2 hx hZ hown (hw _ (List.mem_of_getElem? (i := 25) rfl)) Via.refl e2 F_a1_count E_a1 (Or.inl (hw _ (List.mem_of_getElem? (i := 26) rfl))) (hw _ (List.mem_of_getElem? (i := 9) rfl)) (ty := .long) (by decide) rfl rfl (hb hby own_d6_13) rfl (fun T3 h3 X3 e3 W3 => ?_)
    have E_a1 := E_a1.wr W3
    have F_a1_lastReturn := F_a1_lastReturn.other W3 (Or.inr (slot_ne (Or.inl (hw _ (List.mem_of_getElem? (i := 19) rfl))) (Or.inl (hw _ (List.mem_of_getElem? (i := 26) rfl))) (by decide) (t := .long) (t' := .long) (by decide) (by decide)))
    have F_a1_count := F_a1_count.same W3
    have N3 := Fr.snoc X3 N0 ge_a1
    have Z3 := Nat.le_trans Z0 (Keep.of_wr W3).1
    have K3 : Keep h0 h3 [a1] := K0.wr W3 (Or.inl (List.mem_of_getElem? (i := 0) rfl))
    refine eALoadN X3 hx (hb hby own_d6_16) rfl rfl rfl ?_
    refine eLLoadN X3 hx (hb hby own_d6_17) rfl rfl ?_
    refine ePutF X3 hx hZ hown (hw _ (List.mem_of_getElem? (i := 18) rfl)) Via.refl e3 F_a1_lastReturn E_a1 (Or.inl (hw _ (List.mem_of_getElem? (i := 19) rfl))) (hw _ (List.mem_of_getElem? (i := 9) rfl)) (ty := .long) (by decide) rfl rfl (hb hby own_d6_18) rfl (fun T4 h4 X4 e4 W4 => ?_)
    have E_a1 := E_a1.wr W4
    have F_a1_count := F_a1_count.other W4 (Or.inr (slot_ne (Or.inl (hw _ (List.mem_of_getElem? (i := 26) rfl))) (Or.inl (hw _ (List.mem_of_getElem? (i := 19) rfl))) (by decide) (t := .long) (t' := .long) (by decide) (by decide)))
    have F_a1_lastReturn := F_a1_lastReturn.same W4
    have N4 := Fr.snoc X4 N3 ge_a1
    have Z4 := Nat.le_trans Z3 (Keep.of_wr W4).1
    have K4 : Keep h0 h4 [a1] := K3.wr W4 (Or.inl (List.mem_of_getElem? (i := 0) rfl))
    refine eGoto X4 hx (hb hby own_d6_21) (by decide) (pc' := 51) rfl ?_
    exact eRetV X4 hx Bd.returns hlk (hb hby own_d6_51) (by decide) (by decide) (by rw [e4]; exact ⟨N4, K4, rfl, E_a1, F_a1_count, F_a1_lastReturn⟩)
  · rw [if_neg c1]
    refine eIcmpY X0 hx (hb hby own_d6_3) (feq c1).2 (by decide) (pc' := 24) rfl ?_
    refine eILoadN X0 hx (hb hby own_d6_24) rfl rfl ?_
    refine eBipush X0 hx (10 : Int32) (hb hby own_d6_25) rfl rfl ?_
    show Ends p e below (PostQ s 0 0 (fun v h L => Fr n0 L ∧ Keep h0 h [a1] ∧ v = none ∧ Exa Z h a1 "com/example/shapelint/shapelint/reader/LineEnds" ∧ Fld Z h a1 "com/example/shapelint/shapelint/reader/LineEnds" "count" "J" (.long ((if p2 = (10 : Int32) then (if w2 = (q3 - (1 : Int64)) then (w1, w2) else ((w1 + (1 : Int64)), w2)) else (w1, w2))).1) ∧ Fld Z h a1 "com/example/shapelint/shapelint/reader/LineEnds" "lastReturn" "J" (.long ((if p2 = (10 : Int32) then (if w2 = (q3 - (1 : Int64)) then (w1, w2) else ((w1 + (1 : Int64)), w2)) else (w1, w2))).2))) s₁ m 27 #[.val (.ref a1), .val (.int p2), .val (.long q3), .second] [(.int (10 : Int32)), (.int p2)]
    by_cases c5 : p2 = (10 : Int32)
    · rw [if_pos c5]
      refine eIcmpN X0 hx (hb hby own_d6_27) (teq c5).2 rfl ?_
      refine eALoadN X0 hx (hb hby own_d6_30) rfl rfl rfl ?_
      refine eGetF X0 hx hZ hown (hw _ (List.mem_of_getElem? (i := 18) rfl)) Via.refl e0 F_a1_lastReturn (hb hby own_d6_31) rfl (fun T6 X6 e6 => ?_)
      refine eLLoadN X6 hx (hb hby own_d6_34) rfl rfl ?_
      refine eLConst X6 hx (1 : Int64) (hb hby own_d6_35) rfl rfl ?_
      refine eLSub X6 hx (hb hby own_d6_36) rfl ?_
      refine eLCmp X6 hx (hb hby own_d6_37) rfl ?_
      show Ends p e below (PostQ s 0 0 (fun v h L => Fr n0 L ∧ Keep h0 h [a1] ∧ v = none ∧ Exa Z h a1 "com/example/shapelint/shapelint/reader/LineEnds" ∧ Fld Z h a1 "com/example/shapelint/shapelint/reader/LineEnds" "count" "J" (.long ((if w2 = (q3 - (1 : Int64)) then (w1, w2) else ((w1 + (1 : Int64)), w2))).1) ∧ Fld Z h a1 "com/example/shapelint/shapelint/reader/LineEnds" "lastReturn" "J" (.long ((if w2 = (q3 - (1 : Int64)) then (w1, w2) else ((w1 + (1 : Int64)), w2))).2))) T6 m 38 #[.val (.ref a1), .val (.int p2), .val (.long q3), .second] [(.int (XT.cmpL w2 (q3 - (1 : Int64))))]
      by_cases c7 : w2 = (q3 - (1 : Int64))
      · rw [if_pos c7]
        refine eIfY X6 hx (hb hby own_d6_38) (XT.ll_eq_t c7) (by decide) (pc' := 51) rfl ?_
        exact eRetV X6 hx Bd.returns hlk (hb hby own_d6_51) (by decide) (by decide) (by rw [e6]; exact ⟨N0, K0, rfl, E_a1, F_a1_count, F_a1_lastReturn⟩)
      · rw [if_neg c7]
        refine eIfN X6 hx (hb hby own_d6_38) (XT.ll_eq_f c7) rfl ?_
        refine eALoadN X6 hx (hb hby own_d6_41) rfl rfl rfl ?_
        refine eDup X6 hx (hb hby own_d6_42) rfl rfl ?_
        refine eGetF X6 hx hZ hown (hw _ (List.mem_of_getElem? (i := 25) rfl)) Via.refl e6 F_a1_count (hb hby own_d6_43) rfl (fun T8 X8 e8 => ?_)
        refine eLConst X8 hx (1 : Int64) (hb hby own_d6_46) rfl rfl ?_
        refine eLAdd X8 hx (hb hby own_d6_47) rfl ?_
        refine ePutF X8 hx hZ hown (hw _ (List.mem_of_getElem? (i := 25) rfl)) Via.refl e8 F_a1_count E_a1 (Or.inl (hw _ (List.mem_of_getElem? (i := 26) rfl))) (hw _ (List.mem_of_getElem? (i := 9) rfl)) (ty := .long) (by decide) rfl rfl (hb hby own_d6_48) rfl (fun T9 h9 X9 e9 W9 => ?_)
        have E_a1 := E_a1.wr W9
        have F_a1_lastReturn := F_a1_lastReturn.other W9 (Or.inr (slot_ne (Or.inl (hw _ (List.mem_of_getElem? (i := 19) rfl))) (Or.inl (hw _ (List.mem_of_getElem? (i := 26) rfl))) (by decide) (t := .long) (t' := .long) (by decide) (by decide)))
        have F_a1_count := F_a1_count.same W9
        have N9 := Fr.snoc X9 N0 ge_a1
        have Z9 := Nat.le_trans Z0 (Keep.of_wr W9).1
        have K9 : Keep h0 h9 [a1] := K0.wr W9 (Or.inl (List.mem_of_getElem? (i := 0) rfl))
        exact eRetV X9 hx Bd.returns hlk (hb hby own_d6_51) (by decide) (by decide) (by rw [e9]; exact ⟨N9, K9, rfl, E_a1, F_a1_count, F_a1_lastReturn⟩)
    · rw [if_neg c5]
      refine eIcmpY X0 hx (hb hby own_d6_27) (feq c5).2 (by decide) (pc' := 51) rfl ?_
      exact eRetV X0 hx Bd.returns hlk (hb hby own_d6_51) (by decide) (by decide) (by rw [e0]; exact ⟨N0, K0, rfl, E_a1, F_a1_count, F_a1_lastReturn⟩)
theorem own_pd0 : parseMethodDescriptor "(I)I" = some ⟨[.int], some .int⟩ := by decide +kernel
theorem own_pd1 : parseMethodDescriptor "(ZIJIJ)J" = some ⟨[.boolean, .int, .long, .int, .long], some .long⟩ := by decide +kernel
theorem own_pd2 : parseMethodDescriptor "()V" = some ⟨[], none⟩ := by decide +kernel
theorem own_pd3 : parseMethodDescriptor "()J" = some ⟨[], some .long⟩ := by decide +kernel
theorem own_pd4 : parseMethodDescriptor "(IJ)V" = some ⟨[.int, .long], none⟩ := by decide +kernel
def f0_202 (t12 : Int32) (t16 : Int32) (t20 : Int32) : Int32 := (if t12 = (0 : Int32) then (0 : Int32) else (if t16 = (0 : Int32) then (0 : Int32) else (if t20 = (0 : Int32) then (0 : Int32) else (1 : Int32))))
def f0_175 (p1 : Int32) (p2 : Int32) (p3 : Int32) (q4 : Int64) (p5 : Int32) (t12 : Int32) (t16 : Int32) : Int32 := (if ((fNote_0 (fCh_0 p3) (((((q4 &&& (4611686018427387903 : Int64)) + (1 : Int64)) + ((p5 &&& (3 : Int32)).toInt64)) + (1 : Int64)) + ((((p5.toUInt32 >>> ((2 : Int32) &&& 31).toUInt32).toInt32) &&& (3 : Int32)).toInt64)) ((fNote_0 (fCh_0 p2) (((q4 &&& (4611686018427387903 : Int64)) + (1 : Int64)) + ((p5 &&& (3 : Int32)).toInt64)) ((fNote_0 (fCh_0 p1) (q4 &&& (4611686018427387903 : Int64)) (0 : Int64) (-2 : Int64))).1 ((fNote_0 (fCh_0 p1) (q4 &&& (4611686018427387903 : Int64)) (0 : Int64) (-2 : Int64))).2)).1 ((fNote_0 (fCh_0 p2) (((q4 &&& (4611686018427387903 : Int64)) + (1 : Int64)) + ((p5 &&& (3 : Int32)).toInt64)) ((fNote_0 (fCh_0 p1) (q4 &&& (4611686018427387903 : Int64)) (0 : Int64) (-2 : Int64))).1 ((fNote_0 (fCh_0 p1) (q4 &&& (4611686018427387903 : Int64)) (0 : Int64) (-2 : Int64))).2)).2)).1 = (((fEnds_0 (0 : Int32) (0 : Int32) (0 : Int64) (fCh_0 p1) (q4 &&& (4611686018427387903 : Int64))) + (fEnds_0 (1 : Int32) (fCh_0 p1) (q4 &&& (4611686018427387903 : Int64)) (fCh_0 p2) (((q4 &&& (4611686018427387903 : Int64)) + (1 : Int64)) + ((p5 &&& (3 : Int32)).toInt64)))) + (fEnds_0 (1 : Int32) (fCh_0 p2) (((q4 &&& (4611686018427387903 : Int64)) + (1 : Int64)) + ((p5 &&& (3 : Int32)).toInt64)) (fCh_0 p3) (((((q4 &&& (4611686018427387903 : Int64)) + (1 : Int64)) + ((p5 &&& (3 : Int32)).toInt64)) + (1 : Int64)) + ((((p5.toUInt32 >>> ((2 : Int32) &&& 31).toUInt32).toInt32) &&& (3 : Int32)).toInt64)))) then (f0_202 t12 t16 (1 : Int32)) else (f0_202 t12 t16 (0 : Int32)))
def f0_148 (p1 : Int32) (p2 : Int32) (p3 : Int32) (q4 : Int64) (p5 : Int32) (t12 : Int32) : Int32 := (if ((fNote_0 (fCh_0 p2) (((q4 &&& (4611686018427387903 : Int64)) + (1 : Int64)) + ((p5 &&& (3 : Int32)).toInt64)) ((fNote_0 (fCh_0 p1) (q4 &&& (4611686018427387903 : Int64)) (0 : Int64) (-2 : Int64))).1 ((fNote_0 (fCh_0 p1) (q4 &&& (4611686018427387903 : Int64)) (0 : Int64) (-2 : Int64))).2)).1 = ((fEnds_0 (0 : Int32) (0 : Int32) (0 : Int64) (fCh_0 p1) (q4 &&& (4611686018427387903 : Int64))) + (fEnds_0 (1 : Int32) (fCh_0 p1) (q4 &&& (4611686018427387903 : Int64)) (fCh_0 p2) (((q4 &&& (4611686018427387903 : Int64)) + (1 : Int64)) + ((p5 &&& (3 : Int32)).toInt64)))) then (f0_175 p1 p2 p3 q4 p5 t12 (1 : Int32)) else (f0_175 p1 p2 p3 q4 p5 t12 (0 : Int32)))
def f0_0 (p1 : Int32) (p2 : Int32) (p3 : Int32) (q4 : Int64) (p5 : Int32) : Int32 := (if ((fNote_0 (fCh_0 p1) (q4 &&& (4611686018427387903 : Int64)) (0 : Int64) (-2 : Int64))).1 = (fEnds_0 (0 : Int32) (0 : Int32) (0 : Int64) (fCh_0 p1) (q4 &&& (4611686018427387903 : Int64))) then (f0_148 p1 p2 p3 q4 p5 (1 : Int32)) else (f0_148 p1 p2 p3 q4 p5 (0 : Int32)))
theorem own_ef0 (m : MethodId) (p1 : Int32) (p2 : Int32) (p3 : Int32) (q4 : Int64) (p5 : Int32) : entryFrame m #[(.int p1), (.int p2), (.int p3), (.long q4), (.int p5)] maxLocals = mkF m 0 #[.val (.int p1), .val (.int p2), .val (.int p3), .val (.long q4), .second, .val (.int p5), .unset, .unset, .unset, .unset, .unset, .unset, .unset, .unset, .unset, .unset, .unset, .unset, .unset, .unset, .unset, .unset, .unset, .unset, .unset, .unset] [] := by first | (simp [entryFrame, mkF, argsToLocals, Value.category, maxLocals]; done) | rfl
set_option maxRecDepth 65536 in
set_option maxHeartbeats 40000000 in
theorem rm0 (l : Launch) (Z : State) (a0 : Array Value) (hw : ∀ d ∈ tables_1, d.before a0 Z = true) (ws : List Jvm.Cond) (p1 : Int32) (p2 : Int32) (p3 : Int32) (q4 : Int64) (p5 : Int32) (h0 : Heap) (n0 : Nat) (Z0 : n0 ≤ h0.size) : MetC l Z x (Jvm.Cond.code x code maxLocals ret :: ws) room_1 #[(.int p1), (.int p2), (.int p3), (.long q4), (.int p5)] h0 16 128 (fun v h L => v = some (.int (f0_0 p1 p2 p3 q4 p5)) ∧ Fr n0 L) := by
  refine MetFree.of_bodySF (plainFor_of_name own_pn0) hisR ?_
  intro p e s m args below meth c s₁ Bd hml0 hP hK
  obtain ⟨rfl, hZ, hh⟩ := hP
  have hx := Bd.exec
  have hby := Bd.bytes
  have hml : c.maxLocals = 26 := hml0
  have hown : s.vm.findClass "com/example/shapelint/shapelint/reader/LineEndsNotePinLaw" = some m.cls := findClass_of_methodNamed Bd.named
  have hnm := (name_of_methodNamed Bd.named Bd.method).1
  have hlk : meth.locks = false := BodyLoose.notSynchronized Bd
  have X0 : Stand p l e room_1 s m #[(.int p1), (.int p2), (.int p3), (.long q4), (.int p5)] below meth c s₁ [] 0 0 := Stand.of_body Bd
  have e0 : s₁.heap = h0 := by rw [← hh, Bd.state]; rfl
  have N0 := Fr.nil n0
  suffices kk : Ends p e below (PVW s 16 128 n0 (f0_0 p1 p2 p3 q4 p5)) s₁ m 0 #[.val (.int p1), .val (.int p2), .val (.int p3), .val (.long q4), .second, .val (.int p5), .unset, .unset, .unset, .unset, .unset, .unset, .unset, .unset, .unset, .unset, .unset, .unset, .unset, .unset, .unset, .unset, .unset, .unset, .unset, .unset] [] by
    obtain ⟨t, o, k1, k2, k3, k4⟩ := kk
    exact ⟨t, o, castTop (own_ef0 m p1 p2 p3 q4 p5) k1, k2, k3, k4⟩
  refine eILoadN X0 hx (hb hby at_0) rfl rfl ?_
  refine eCallS X0 hx hZ (y := (⟨"com/example/shapelint/shapelint/reader/LineEndsNotePinLaw", "ch", "(I)I"⟩ : MethodName)) hown (hw _ (List.mem_of_getElem? (i := 0) rfl)) (hw _ (List.mem_of_getElem? (i := 1) rfl)) (hw _ (List.mem_of_getElem? (i := 2) rfl)) (hw _ (List.mem_of_getElem? (i := 3) rfl)) (by decide) e0 (rm1 l Z a0 hw [] p1 h0 n0 Z0) (argsL := [(.int p1)]) (rest := []) (lenOf own_pd0 rfl) rfl (by rw [hml]; rfl) 0 (by exact Nat.le_refl _) (by decide) (by decide) (by decide) (by decide) (hb hby at_1) rfl (fun v1 T1 L1 q1 (X1 : Stand _ _ _ _ _ _ _ _ _ _ T1 _ 0 0) => ?_)
  obtain ⟨rfl, N1', e1⟩ := q1
  have N1 := Fr.app N0 N1'
  show Ends p e below _ T1 m 4 #[.val (.int p1), .val (.int p2), .val (.int p3), .val (.long q4), .second, .val (.int p5), .unset, .unset, .unset, .unset, .unset, .unset, .unset, .unset, .unset, .unset, .unset, .unset, .unset, .unset, .unset, .unset, .unset, .unset, .unset, .unset] [(.int (fCh_0 p1))]
  refine eIStore X1 hx (hb hby at_4) (L' := #[.val (.int p1), .val (.int p2), .val (.int p3), .val (.long q4), .second, .val (.int p5), .val (.int (fCh_0 p1)), .unset, .unset, .unset, .unset, .unset, .unset, .unset, .unset, .unset, .unset, .unset, .unset, .unset, .unset, .unset, .unset, .unset, .unset, .unset]) rfl rfl ?_
  refine eILoadN X1 hx (hb hby at_6) rfl rfl ?_
  refine eCallS X1 hx hZ (y := (⟨"com/example/shapelint/shapelint/reader/LineEndsNotePinLaw", "ch", "(I)I"⟩ : MethodName)) hown (hw _ (List.mem_of_getElem? (i := 0) rfl)) (hw _ (List.mem_of_getElem? (i := 1) rfl)) (hw _ (List.mem_of_getElem? (i := 2) rfl)) (hw _ (List.mem_of_getElem? (i := 3) rfl)) (by decide) e1 (rm1 l Z a0 hw [] p2 h0 n0 Z0) (argsL := [(.int p2)]) (rest := []) (lenOf own_pd0 rfl) rfl (by rw [hml]; rfl) 0 (by exact Nat.le_refl _) (by decide) (by decide) (by decide) (by decide) (hb hby at_7) rfl (fun v2 T2 L2 q2 (X2 : Stand _ _ _ _ _ _ _ _ _ _ T2 _ 0 0) => ?_)
  obtain ⟨rfl, N2', e2⟩ := q2
  have N2 := Fr.app N1 N2'
  show Ends p e below _ T2 m 10 #[.val (.int p1), .val (.int p2), .val (.int p3), .val (.long q4), .second, .val (.int p5), .val (.int (fCh_0 p1)), .unset, .unset, .unset, .unset, .unset, .unset, .unset, .unset, .unset, .unset, .unset, .unset, .unset, .unset, .unset, .unset, .unset, .unset, .unset] [(.int (fCh_0 p2))]
  refine eIStore X2 hx (hb hby at_10) (L' := #[.val (.int p1), .val (.int p2), .val (.int p3), .val (.long q4), .second, .val (.int p5), .val (.int (fCh_0 p1)), .val (.int (fCh_0 p2)), .unset, .unset, .unset, .unset, .unset, .unset, .unset, .unset, .unset, .unset, .unset, .unset, .unset, .unset, .unset, .unset, .unset, .unset]) rfl rfl ?_
  refine eILoadN X2 hx (hb hby at_12) rfl rfl ?_
  refine eCallS X2 hx hZ (y := (⟨"com/example/shapelint/shapelint/reader/LineEndsNotePinLaw", "ch", "(I)I"⟩ : MethodName)) hown (hw _ (List.mem_of_getElem? (i := 0) rfl)) (hw _ (List.mem_of_getElem? (i := 1) rfl)) (hw _ (List.mem_of_getElem? (i := 2) rfl)) (hw _ (List.mem_of_getElem? (i := 3) rfl)) (by decide) e2 (rm1 l Z a0 hw [] p3 h0 n0 Z0) (argsL := [(.int p3)]) (rest := []) (lenOf own_pd0 rfl) rfl (by rw [hml]; rfl) 0 (by exact Nat.le_refl _) (by decide) (by decide) (by decide) (by decide) (hb hby at_13) rfl (fun v3 T3 L3 q3 (X3 : Stand _ _ _ _ _ _ _ _ _ _ T3 _ 0 0) => ?_)
  obtain ⟨rfl, N3', e3⟩ := q3
  have N3 := Fr.app N2 N3'
  show Ends p e below _ T3 m 16 #[.val (.int p1), .val (.int p2), .val (.int p3), .val (.long q4), .second, .val (.int p5), .val (.int (fCh_0 p1)), .val (.int (fCh_0 p2)), .unset, .unset, .unset, .unset, .unset, .unset, .unset, .unset, .unset, .unset, .unset, .unset, .unset, .unset, .unset, .unset, .unset, .unset] [(.int (fCh_0 p3))]
  refine eIStore X3 hx (hb hby at_16) (L' := #[.val (.int p1), .val (.int p2), .val (.int p3), .val (.long q4), .second, .val (.int p5), .val (.int (fCh_0 p1)), .val (.int (fCh_0 p2)), .val (.int (fCh_0 p3)), .unset, .unset, .unset, .unset, .unset, .unset, .unset, .unset, .unset, .unset, .unset, .unset, .unset, .unset, .unset, .unset, .unset]) rfl rfl ?_
  refine eLLoadN X3 hx (hb hby at_18) rfl rfl ?_
  refine eLdc2J X3 hx hZ hown (v := (4611686018427387903 : Int64)) (hw _ (List.mem_of_getElem? (i := 4) rfl)) (hb hby at_19) rfl ?_
  refine eLAnd X3 hx (hb hby at_22) rfl ?_
  refine eLStore X3 hx (hb hby at_23) (L' := #[.val (.int p1), .val (.int p2), .val (.int p3), .val (.long q4), .second, .val (.int p5), .val (.int (fCh_0 p1)), .val (.int (fCh_0 p2)), .val (.int (fCh_0 p3)), .val (.long (q4 &&& (4611686018427387903 : Int64))), .second, .unset, .unset, .unset, .unset, .unset, .unset, .unset, .unset, .unset, .unset, .unset, .unset, .unset, .unset, .unset]) rfl rfl ?_
  refine eLLoad X3 hx (hb hby at_25) rfl rfl ?_
  refine eLConst X3 hx (1 : Int64) (hb hby at_27) rfl rfl ?_
  refine eLAdd X3 hx (hb hby at_28) rfl ?_
  refine eILoad X3 hx (hb hby at_29) rfl rfl ?_
  refine eIConst X3 hx (3 : Int32) (hb hby at_31) rfl rfl ?_
  refine eIAnd X3 hx (hb hby at_32) rfl ?_
  refine eI2L X3 hx (hb hby at_33) rfl ?_
  refine eLAdd X3 hx (hb hby at_34) rfl ?_
  refine eLStore X3 hx (hb hby at_35) (L' := #[.val (.int p1), .val (.int p2), .val (.int p3), .val (.long q4), .second, .val (.int p5), .val (.int (fCh_0 p1)), .val (.int (fCh_0 p2)), .val (.int (fCh_0 p3)), .val (.long (q4 &&& (4611686018427387903 : Int64))), .second, .val (.long (((q4 &&& (4611686018427387903 : Int64)) + (1 : Int64)) + ((p5 &&& (3 : Int32)).toInt64))), .second, .unset, .unset, .unset, .unset, .unset, .unset, .unset, .unset, .unset, .unset, .unset, .unset, .unset]) rfl rfl ?_
  refine eLLoad X3 hx (hb hby at_37) rfl rfl ?_
  refine eLConst X3 hx (1 : Int64) (hb hby at_39) rfl rfl ?_
  refine eLAdd X3 hx (hb hby at_40) rfl ?_
  refine eILoad X3 hx (hb hby at_41) rfl rfl ?_
  refine eIConst X3 hx (2 : Int32) (hb hby at_43) rfl rfl ?_
  refine eIUshr X3 hx (hb hby at_44) rfl ?_
  refine eIConst X3 hx (3 : Int32) (hb hby at_45) rfl rfl ?_
  refine eIAnd X3 hx (hb hby at_46) rfl ?_
  refine eI2L X3 hx (hb hby at_47) rfl ?_
  refine eLAdd X3 hx (hb hby at_48) rfl ?_
  refine eLStore X3 hx (hb hby at_49) (L' := #[.val (.int p1), .val (.int p2), .val (.int p3), .val (.long q4), .second, .val (.int p5), .val (.int (fCh_0 p1)), .val (.int (fCh_0 p2)), .val (.int (fCh_0 p3)), .val (.long (q4 &&& (4611686018427387903 : Int64))), .second, .val (.long (((q4 &&& (4611686018427387903 : Int64)) + (1 : Int64)) + ((p5 &&& (3 : Int32)).toInt64))), .second, .val (.long (((((q4 &&& (4611686018427387903 : Int64)) + (1 : Int64)) + ((p5 &&& (3 : Int32)).toInt64)) + (1 : Int64)) + ((((p5.toUInt32 >>> ((2 : Int32) &&& 31).toUInt32).toInt32) &&& (3 : Int32)).toInt64))), .second, .unset, .unset, .unset, .unset, .unset, .unset, .unset, .unset, .unset, .unset, .unset]) rfl rfl ?_
  refine eIConst X3 hx (0 : Int32) (hb hby at_51) rfl rfl ?_
  refine eIConst X3 hx (0 : Int32) (hb hby at_52) rfl rfl ?_
  refine eLConst X3 hx (0 : Int64) (hb hby at_53) rfl rfl ?_
  refine eILoad X3 hx (hb hby at_54) rfl rfl ?_
  refine eLLoad X3 hx (hb hby at_56) rfl rfl ?_
  refine eCallS X3 hx hZ (y := (⟨"com/example/shapelint/shapelint/reader/LineEndsNotePinLaw", "ends", "(ZIJIJ)J"⟩ : MethodName)) hown (hw _ (List.mem_of_getElem? (i := 5) rfl)) (hw _ (List.mem_of_getElem? (i := 6) rfl)) (hw _ (List.mem_of_getElem? (i := 2) rfl)) (hw _ (List.mem_of_getElem? (i := 7) rfl)) (by decide) e3 (rm2 l Z a0 hw [] (0 : Int32) (0 : Int32) (0 : Int64) (fCh_0 p1) (q4 &&& (4611686018427387903 : Int64)) h0 n0 Z0) (argsL := [(.int (0 : Int32)), (.int (0 : Int32)), (.long (0 : Int64)), (.int (fCh_0 p1)), (.long (q4 &&& (4611686018427387903 : Int64)))]) (rest := []) (lenOf own_pd1 rfl) rfl (by rw [hml]; rfl) 0 (by exact Nat.le_refl _) (by decide) (by decide) (by decide) (by decide) (hb hby at_58) rfl (fun v4 T4 L4 q4 (X4 : Stand _ _ _ _ _ _ _ _ _ _ T4 _ 0 0) => ?_)
  obtain ⟨rfl, N4', e4⟩ := q4
  have N4 := Fr.app N3 N4'
  show Ends p e below _ T4 m 61 #[.val (.int p1), .val (.int p2), .val (.int p3), .val (.long q4), .second, .val (.int p5), .val (.int (fCh_0 p1)), .val (.int (fCh_0 p2)), .val (.int (fCh_0 p3)), .val (.long (q4 &&& (4611686018427387903 : Int64))), .second, .val (.long (((q4 &&& (4611686018427387903 : Int64)) + (1 : Int64)) + ((p5 &&& (3 : Int32)).toInt64))), .second, .val (.long (((((q4 &&& (4611686018427387903 : Int64)) + (1 : Int64)) + ((p5 &&& (3 : Int32)).toInt64)) + (1 : Int64)) + ((((p5.toUInt32 >>> ((2 : Int32) &&& 31).toUInt32).toInt32) &&& (3 : Int32)).toInt64))), .second, .unset, .unset, .unset, .unset, .unset, .unset, .unset, .unset, .unset, .unset, .unset] [(.long (fEnds_0 (0 : Int32) (0 : Int32) (0 : Int64) (fCh_0 p1) (q4 &&& (4611686018427387903 : Int64))))]
  refine eLStore X4 hx (hb hby at_61) (L' := #[.val (.int p1), .val (.int p2), .val (.int p3), .val (.long q4), .second, .val (.int p5), .val (.int (fCh_0 p1)), .val (.int (fCh_0 p2)), .val (.int (fCh_0 p3)), .val (.long (q4 &&& (4611686018427387903 : Int64))), .second, .val (.long (((q4 &&& (4611686018427387903 : Int64)) + (1 : Int64)) + ((p5 &&& (3 : Int32)).toInt64))), .second, .val (.long (((((q4 &&& (4611686018427387903 : Int64)) + (1 : Int64)) + ((p5 &&& (3 : Int32)).toInt64)) + (1 : Int64)) + ((((p5.toUInt32 >>> ((2 : Int32) &&& 31).toUInt32).toInt32) &&& (3 : Int32)).toInt64))), .second, .val (.long (fEnds_0 (0 : Int32) (0 : Int32) (0 : Int64) (fCh_0 p1) (q4 &&& (4611686018427387903 : Int64)))), .second, .unset, .unset, .unset, .unset, .unset, .unset, .unset, .unset, .unset]) rfl rfl ?_
  refine eLLoad X4 hx (hb hby at_63) rfl rfl ?_
  refine eIConst X4 hx (1 : Int32) (hb hby at_65) rfl rfl ?_
  refine eILoad X4 hx (hb hby at_66) rfl rfl ?_
  refine eLLoad X4 hx (hb hby at_68) rfl rfl ?_
  refine eILoad X4 hx (hb hby at_70) rfl rfl ?_
  refine eLLoad X4 hx (hb hby at_72) rfl rfl ?_
  refine eCallS X4 hx hZ (y := (⟨"com/example/shapelint/shapelint/reader/LineEndsNotePinLaw", "ends", "(ZIJIJ)J"⟩ : MethodName)) hown (hw _ (List.mem_of_getElem? (i := 5) rfl)) (hw _ (List.mem_of_getElem? (i := 6) rfl)) (hw _ (List.mem_of_getElem? (i := 2) rfl)) (hw _ (List.mem_of_getElem? (i := 7) rfl)) (by decide) e4 (rm2 l Z a0 hw [] (1 : Int32) (fCh_0 p1) (q4 &&& (4611686018427387903 : Int64)) (fCh_0 p2) (((q4 &&& (4611686018427387903 : Int64)) + (1 : Int64)) + ((p5 &&& (3 : Int32)).toInt64)) h0 n0 Z0) (argsL := [(.int (1 : Int32)), (.int (fCh_0 p1)), (.long (q4 &&& (4611686018427387903 : Int64))), (.int (fCh_0 p2)), (.long (((q4 &&& (4611686018427387903 : Int64)) + (1 : Int64)) + ((p5 &&& (3 : Int32)).toInt64)))]) (rest := [(.long (fEnds_0 (0 : Int32) (0 : Int32) (0 : Int64) (fCh_0 p1) (q4 &&& (4611686018427387903 : Int64))))]) (lenOf own_pd1 rfl) rfl (by rw [hml]; rfl) 2 (by exact Nat.le_refl _) (by decide) (by decide) (by decide) (by decide) (hb hby at_74) rfl (fun v5 T5 L5 q5 (X5 : Stand _ _ _ _ _ _ _ _ _ _ T5 _ 0 0) => ?_)
  obtain ⟨rfl, N5', e5⟩ := q5
  have N5 := Fr.app N4 N5'
  show Ends p e below _ T5 m 77 #[.val (.int p1), .val (.int p2), .val (.int p3), .val (.long q4), .second, .val (.int p5), .val (.int (fCh_0 p1)), .val (.int (fCh_0 p2)), .val (.int (fCh_0 p3)), .val (.long (q4 &&& (4611686018427387903 : Int64))), .second, .val (.long (((q4 &&& (4611686018427387903 : Int64)) + (1 : Int64)) + ((p5 &&& (3 : Int32)).toInt64))), .second, .val (.long (((((q4 &&& (4611686018427387903 : Int64)) + (1 : Int64)) + ((p5 &&& (3 : Int32)).toInt64)) + (1 : Int64)) + ((((p5.toUInt32 >>> ((2 : Int32) &&& 31).toUInt32).toInt32) &&& (3 : Int32)).toInt64))), .second, .val (.long (fEnds_0 (0 : Int32) (0 : Int32) (0 : Int64) (fCh_0 p1) (q4 &&& (4611686018427387903 : Int64)))), .second, .unset, .unset, .unset, .unset, .unset, .unset, .unset, .unset, .unset] [(.long (fEnds_0 (1 : Int32) (fCh_0 p1) (q4 &&& (4611686018427387903 : Int64)) (fCh_0 p2) (((q4 &&& (4611686018427387903 : Int64)) + (1 : Int64)) + ((p5 &&& (3 : Int32)).toInt64)))), (.long (fEnds_0 (0 : Int32) (0 : Int32) (0 : Int64) (fCh_0 p1) (q4 &&& (4611686018427387903 : Int64))))]
  refine eLAdd X5 hx (hb hby at_77) rfl ?_
  refine eLStore X5 hx (hb hby at_78) (L' := #[.val (.int p1), .val (.int p2), .val (.int p3), .val (.long q4), .second, .val (.int p5), .val (.int (fCh_0 p1)), .val (.int (fCh_0 p2)), .val (.int (fCh_0 p3)), .val (.long (q4 &&& (4611686018427387903 : Int64))), .second, .val (.long (((q4 &&& (4611686018427387903 : Int64)) + (1 : Int64)) + ((p5 &&& (3 : Int32)).toInt64))), .second, .val (.long (((((q4 &&& (4611686018427387903 : Int64)) + (1 : Int64)) + ((p5 &&& (3 : Int32)).toInt64)) + (1 : Int64)) + ((((p5.toUInt32 >>> ((2 : Int32) &&& 31).toUInt32).toInt32) &&& (3 : Int32)).toInt64))), .second, .val (.long (fEnds_0 (0 : Int32) (0 : Int32) (0 : Int64) (fCh_0 p1) (q4 &&& (4611686018427387903 : Int64)))), .second, .val (.long ((fEnds_0 (0 : Int32) (0 : Int32) (0 : Int64) (fCh_0 p1) (q4 &&& (4611686018427387903 : Int64))) + (fEnds_0 (1 : Int32) (fCh_0 p1) (q4 &&& (4611686018427387903 : Int64)) (fCh_0 p2) (((q4 &&& (4611686018427387903 : Int64)) + (1 : Int64)) + ((p5 &&& (3 : Int32)).toInt64))))), .second, .unset, .unset, .unset, .unset, .unset, .unset, .unset]) rfl rfl ?_
  refine eLLoad X5 hx (hb hby at_80) rfl rfl ?_
  refine eIConst X5 hx (1 : Int32) (hb hby at_82) rfl rfl ?_
  refine eILoad X5 hx (hb hby at_83) rfl rfl ?_
  refine eLLoad X5 hx (hb hby at_85) rfl rfl ?_
  refine eILoad X5 hx (hb hby at_87) rfl rfl ?_
  refine eLLoad X5 hx (hb hby at_89) rfl rfl ?_
  refine eCallS X5 hx hZ (y := (⟨"com/example/shapelint/shapelint/reader/LineEndsNotePinLaw", "ends", "(ZIJIJ)J"⟩ : MethodName)) hown (hw _ (List.mem_of_getElem? (i := 5) rfl)) (hw _ (List.mem_of_getElem? (i := 6) rfl)) (hw _ (List.mem_of_getElem? (i := 2) rfl)) (hw _ (List.mem_of_getElem? (i := 7) rfl)) (by decide) e5 (rm2 l Z a0 hw [] (1 : Int32) (fCh_0 p2) (((q4 &&& (4611686018427387903 : Int64)) + (1 : Int64)) + ((p5 &&& (3 : Int32)).toInt64)) (fCh_0 p3) (((((q4 &&& (4611686018427387903 : Int64)) + (1 : Int64)) + ((p5 &&& (3 : Int32)).toInt64)) + (1 : Int64)) + ((((p5.toUInt32 >>> ((2 : Int32) &&& 31).toUInt32).toInt32) &&& (3 : Int32)).toInt64)) h0 n0 Z0) (argsL := [(.int (1 : Int32)), (.int (fCh_0 p2)), (.long (((q4 &&& (4611686018427387903 : Int64)) + (1 : Int64)) + ((p5 &&& (3 : Int32)).toInt64))), (.int (fCh_0 p3)), (.long (((((q4 &&& (4611686018427387903 : Int64)) + (1 : Int64)) + ((p5 &&& (3 : Int32)).toInt64)) + (1 : Int64)) + ((((p5.toUInt32 >>> ((2 : Int32) &&& 31).toUInt32).toInt32) &&& (3 : Int32)).toInt64)))]) (rest := [(.long ((fEnds_0 (0 : Int32) (0 : Int32) (0 : Int64) (fCh_0 p1) (q4 &&& (4611686018427387903 : Int64))) + (fEnds_0 (1 : Int32) (fCh_0 p1) (q4 &&& (4611686018427387903 : Int64)) (fCh_0 p2) (((q4 &&& (4611686018427387903 : Int64)) + (1 : Int64)) + ((p5 &&& (3 : Int32)).toInt64)))))]) (lenOf own_pd1 rfl) rfl (by rw [hml]; rfl) 2 (by exact Nat.le_refl _) (by decide) (by decide) (by decide) (by decide) (hb hby at_91) rfl (fun v6 T6 L6 q6 (X6 : Stand _ _ _ _ _ _ _ _ _ _ T6 _ 0 0) => ?_)
  obtain ⟨rfl, N6', e6⟩ := q6
  have N6 := Fr.app N5 N6'
  show Ends p e below _ T6 m 94 #[.val (.int p1), .val (.int p2), .val (.int p3), .val (.long q4), .second, .val (.int p5), .val (.int (fCh_0 p1)), .val (.int (fCh_0 p2)), .val (.int (fCh_0 p3)), .val (.long (q4 &&& (4611686018427387903 : Int64))), .second, .val (.long (((q4 &&& (4611686018427387903 : Int64)) + (1 : Int64)) + ((p5 &&& (3 : Int32)).toInt64))), .second, .val (.long (((((q4 &&& (4611686018427387903 : Int64)) + (1 : Int64)) + ((p5 &&& (3 : Int32)).toInt64)) + (1 : Int64)) + ((((p5.toUInt32 >>> ((2 : Int32) &&& 31).toUInt32).toInt32) &&& (3 : Int32)).toInt64))), .second, .val (.long (fEnds_0 (0 : Int32) (0 : Int32) (0 : Int64) (fCh_0 p1) (q4 &&& (4611686018427387903 : Int64)))), .second, .val (.long ((fEnds_0 (0 : Int32) (0 : Int32) (0 : Int64) (fCh_0 p1) (q4 &&& (4611686018427387903 : Int64))) + (fEnds_0 (1 : Int32) (fCh_0 p1) (q4 &&& (4611686018427387903 : Int64)) (fCh_0 p2) (((q4 &&& (4611686018427387903 : Int64)) + (1 : Int64)) + ((p5 &&& (3 : Int32)).toInt64))))), .second, .unset, .unset, .unset, .unset, .unset, .unset, .unset] [(.long (fEnds_0 (1 : Int32) (fCh_0 p2) (((q4 &&& (4611686018427387903 : Int64)) + (1 : Int64)) + ((p5 &&& (3 : Int32)).toInt64)) (fCh_0 p3) (((((q4 &&& (4611686018427387903 : Int64)) + (1 : Int64)) + ((p5 &&& (3 : Int32)).toInt64)) + (1 : Int64)) + ((((p5.toUInt32 >>> ((2 : Int32) &&& 31).toUInt32).toInt32) &&& (3 : Int32)).toInt64)))), (.long ((fEnds_0 (0 : Int32) (0 : Int32) (0 : Int64) (fCh_0 p1) (q4 &&& (4611686018427387903 : Int64))) + (fEnds_0 (1 : Int32) (fCh_0 p1) (q4 &&& (4611686018427387903 : Int64)) (fCh_0 p2) (((q4 &&& (4611686018427387903 : Int64)) + (1 : Int64)) + ((p5 &&& (3 : Int32)).toInt64)))))]
  refine eLAdd X6 hx (hb hby at_94) rfl ?_
  refine eLStore X6 hx (hb hby at_95) (L' := #[.val (.int p1), .val (.int p2), .val (.int p3), .val (.long q4), .second, .val (.int p5), .val (.int (fCh_0 p1)), .val (.int (fCh_0 p2)), .val (.int (fCh_0 p3)), .val (.long (q4 &&& (4611686018427387903 : Int64))), .second, .val (.long (((q4 &&& (4611686018427387903 : Int64)) + (1 : Int64)) + ((p5 &&& (3 : Int32)).toInt64))), .second, .val (.long (((((q4 &&& (4611686018427387903 : Int64)) + (1 : Int64)) + ((p5 &&& (3 : Int32)).toInt64)) + (1 : Int64)) + ((((p5.toUInt32 >>> ((2 : Int32) &&& 31).toUInt32).toInt32) &&& (3 : Int32)).toInt64))), .second, .val (.long (fEnds_0 (0 : Int32) (0 : Int32) (0 : Int64) (fCh_0 p1) (q4 &&& (4611686018427387903 : Int64)))), .second, .val (.long ((fEnds_0 (0 : Int32) (0 : Int32) (0 : Int64) (fCh_0 p1) (q4 &&& (4611686018427387903 : Int64))) + (fEnds_0 (1 : Int32) (fCh_0 p1) (q4 &&& (4611686018427387903 : Int64)) (fCh_0 p2) (((q4 &&& (4611686018427387903 : Int64)) + (1 : Int64)) + ((p5 &&& (3 : Int32)).toInt64))))), .second, .val (.long (((fEnds_0 (0 : Int32) (0 : Int32) (0 : Int64) (fCh_0 p1) (q4 &&& (4611686018427387903 : Int64))) + (fEnds_0 (1 : Int32) (fCh_0 p1) (q4 &&& (4611686018427387903 : Int64)) (fCh_0 p2) (((q4 &&& (4611686018427387903 : Int64)) + (1 : Int64)) + ((p5 &&& (3 : Int32)).toInt64)))) + (fEnds_0 (1 : Int32) (fCh_0 p2) (((q4 &&& (4611686018427387903 : Int64)) + (1 : Int64)) + ((p5 &&& (3 : Int32)).toInt64)) (fCh_0 p3) (((((q4 &&& (4611686018427387903 : Int64)) + (1 : Int64)) + ((p5 &&& (3 : Int32)).toInt64)) + (1 : Int64)) + ((((p5.toUInt32 >>> ((2 : Int32) &&& 31).toUInt32).toInt32) &&& (3 : Int32)).toInt64))))), .second, .unset, .unset, .unset, .unset, .unset]) rfl rfl ?_
  refine eNewO X6 hx hZ hown (hw _ (List.mem_of_getElem? (i := 8) rfl)) (hw _ (List.mem_of_getElem? (i := 9) rfl)) (hw _ (List.mem_of_getElem? (i := 10) rfl)) e6 (hb hby at_97) (by decide) (by decide) rfl (fun T7 h7 ad7 g7 X7 e7 E7 A7 D7 => ?_)
  have Z7 := Nat.le_trans Z0 E7.1
  have ge_ad7 : n0 ≤ ad7 := Nat.le_trans Z0 (Nat.le_of_eq g7.symm)
  have F7_lastReturn : Fld Z h7 ad7 "com/example/shapelint/shapelint/reader/LineEnds" "lastReturn" "J" (.long (0 : Int64)) := D7 (Or.inl (hw _ (List.mem_of_getElem? (i := 19) rfl))) (ty := .long) (by decide)
  have F7_count : Fld Z h7 ad7 "com/example/shapelint/shapelint/reader/LineEnds" "count" "J" (.long (0 : Int64)) := D7 (Or.inl (hw _ (List.mem_of_getElem? (i := 26) rfl))) (ty := .long) (by decide)
  refine eDup X7 hx (hb hby at_100) rfl rfl ?_
  refine eCallI X7 hx hZ (y := (⟨"com/example/shapelint/shapelint/reader/LineEnds", "<init>", "()V"⟩ : MethodName)) (a := ad7) rfl hown (hw _ (List.mem_of_getElem? (i := 11) rfl)) (hw _ (List.mem_of_getElem? (i := 12) rfl)) (hw _ (List.mem_of_getElem? (i := 10) rfl)) (hw _ (List.mem_of_getElem? (i := 13) rfl)) (by decide) e7 (rm3 l Z a0 hw [] ad7 (0 : Int64) (0 : Int64) h7 n0 Z7 A7 F7_count F7_lastReturn ge_ad7) (argsL := []) (rest := [(.ref ad7)]) (lenOf own_pd2 rfl) rfl (by rw [hml]; rfl) 1 (by exact Nat.le_refl _) (by decide) (by decide) (by decide) (by decide) (hb hby at_101) rfl (fun v8 T8 L8 q8 (X8 : Stand _ _ _ _ _ _ _ _ _ _ T8 _ 1 2) => ?_)
  obtain ⟨N8', K8', rfl, R8_0, R8_1, R8_2⟩ := q8
  have N8 := Fr.app N6 N8'
  have A7 := A7.keep K8'
  have A7 := R8_0
  have F7_count : Fld Z T8.heap ad7 "com/example/shapelint/shapelint/reader/LineEnds" "count" "J" (.long (0 : Int64)) := R8_1
  have F7_lastReturn : Fld Z T8.heap ad7 "com/example/shapelint/shapelint/reader/LineEnds" "lastReturn" "J" (.long (-2 : Int64)) := R8_2
  have Z8 := Nat.le_trans Z7 K8'.1
  show Ends p e below _ T8 m 104 #[.val (.int p1), .val (.int p2), .val (.int p3), .val (.long q4), .second, .val (.int p5), .val (.int (fCh_0 p1)), .val (.int (fCh_0 p2)), .val (.int (fCh_0 p3)), .val (.long (q4 &&& (4611686018427387903 : Int64))), .second, .val (.long (((q4 &&& (4611686018427387903 : Int64)) + (1 : Int64)) + ((p5 &&& (3 : Int32)).toInt64))), .second, .val (.long (((((q4 &&& (4611686018427387903 : Int64)) + (1 : Int64)) + ((p5 &&& (3 : Int32)).toInt64)) + (1 : Int64)) + ((((p5.toUInt32 >>> ((2 : Int32) &&& 31).toUInt32).toInt32) &&& (3 : Int32)).toInt64))), .second, .val (.long (fEnds_0 (0 : Int32) (0 : Int32) (0 : Int64) (fCh_0 p1) (q4 &&& (4611686018427387903 : Int64)))), .second, .val (.long ((fEnds_0 (0 : Int32) (0 : Int32) (0 : Int64) (fCh_0 p1) (q4 &&& (4611686018427387903 : Int64))) + (fEnds_0 (1 : Int32) (fCh_0 p1) (q4 &&& (4611686018427387903 : Int64)) (fCh_0 p2) (((q4 &&& (4611686018427387903 : Int64)) + (1 : Int64)) + ((p5 &&& (3 : Int32)).toInt64))))), .second, .val (.long (((fEnds_0 (0 : Int32) (0 : Int32) (0 : Int64) (fCh_0 p1) (q4 &&& (4611686018427387903 : Int64))) + (fEnds_0 (1 : Int32) (fCh_0 p1) (q4 &&& (4611686018427387903 : Int64)) (fCh_0 p2) (((q4 &&& (4611686018427387903 : Int64)) + (1 : Int64)) + ((p5 &&& (3 : Int32)).toInt64)))) + (fEnds_0 (1 : Int32) (fCh_0 p2) (((q4 &&& (4611686018427387903 : Int64)) + (1 : Int64)) + ((p5 &&& (3 : Int32)).toInt64)) (fCh_0 p3) (((((q4 &&& (4611686018427387903 : Int64)) + (1 : Int64)) + ((p5 &&& (3 : Int32)).toInt64)) + (1 : Int64)) + ((((p5.toUInt32 >>> ((2 : Int32) &&& 31).toUInt32).toInt32) &&& (3 : Int32)).toInt64))))), .second, .unset, .unset, .unset, .unset, .unset] [(.ref ad7)]
  refine eAStore X8 hx (hb hby at_104) rfl (L' := #[.val (.int p1), .val (.int p2), .val (.int p3), .val (.long q4), .second, .val (.int p5), .val (.int (fCh_0 p1)), .val (.int (fCh_0 p2)), .val (.int (fCh_0 p3)), .val (.long (q4 &&& (4611686018427387903 : Int64))), .second, .val (.long (((q4 &&& (4611686018427387903 : Int64)) + (1 : Int64)) + ((p5 &&& (3 : Int32)).toInt64))), .second, .val (.long (((((q4 &&& (4611686018427387903 : Int64)) + (1 : Int64)) + ((p5 &&& (3 : Int32)).toInt64)) + (1 : Int64)) + ((((p5.toUInt32 >>> ((2 : Int32) &&& 31).toUInt32).toInt32) &&& (3 : Int32)).toInt64))), .second, .val (.long (fEnds_0 (0 : Int32) (0 : Int32) (0 : Int64) (fCh_0 p1) (q4 &&& (4611686018427387903 : Int64)))), .second, .val (.long ((fEnds_0 (0 : Int32) (0 : Int32) (0 : Int64) (fCh_0 p1) (q4 &&& (4611686018427387903 : Int64))) + (fEnds_0 (1 : Int32) (fCh_0 p1) (q4 &&& (4611686018427387903 : Int64)) (fCh_0 p2) (((q4 &&& (4611686018427387903 : Int64)) + (1 : Int64)) + ((p5 &&& (3 : Int32)).toInt64))))), .second, .val (.long (((fEnds_0 (0 : Int32) (0 : Int32) (0 : Int64) (fCh_0 p1) (q4 &&& (4611686018427387903 : Int64))) + (fEnds_0 (1 : Int32) (fCh_0 p1) (q4 &&& (4611686018427387903 : Int64)) (fCh_0 p2) (((q4 &&& (4611686018427387903 : Int64)) + (1 : Int64)) + ((p5 &&& (3 : Int32)).toInt64)))) + (fEnds_0 (1 : Int32) (fCh_0 p2) (((q4 &&& (4611686018427387903 : Int64)) + (1 : Int64)) + ((p5 &&& (3 : Int32)).toInt64)) (fCh_0 p3) (((((q4 &&& (4611686018427387903 : Int64)) + (1 : Int64)) + ((p5 &&& (3 : Int32)).toInt64)) + (1 : Int64)) + ((((p5.toUInt32 >>> ((2 : Int32) &&& 31).toUInt32).toInt32) &&& (3 : Int32)).toInt64))))), .second, .val (.ref ad7), .unset, .unset, .unset, .unset]) rfl rfl ?_
  refine eALoad X8 hx (hb hby at_106) rfl rfl rfl ?_
  refine eCallV X8 hx hZ (y := (⟨"com/example/shapelint/shapelint/reader/LineEnds", "count", "()J"⟩ : MethodName)) hown (hw _ (List.mem_of_getElem? (i := 20) rfl)) (hw _ (List.mem_of_getElem? (i := 21) rfl)) (hw _ (List.mem_of_getElem? (i := 23) rfl)) (hw _ (List.mem_of_getElem? (i := 22) rfl)) (hw _ (List.mem_of_getElem? (i := 10) rfl)) (hw _ (List.mem_of_getElem? (i := 24) rfl)) (by decide) rfl A7 (rm5 l Z a0 hw [] ad7 (0 : Int64) T8.heap n0 Z8 F7_count) (argsL := []) (rest := []) (lenOf own_pd3 rfl) rfl (by rw [hml]; rfl) 0 (by exact Nat.le_refl _) (by decide) (by decide) (by decide) (by decide) (hb hby at_108) rfl (fun v9 T9 L9 q9 (X9 : Stand _ _ _ _ _ _ _ _ _ _ T9 _ 1 2) => ?_)
  obtain ⟨N9', e9, rfl⟩ := q9
  have N9 := Fr.app N8 N9'
  show Ends p e below _ T9 m 111 #[.val (.int p1), .val (.int p2), .val (.int p3), .val (.long q4), .second, .val (.int p5), .val (.int (fCh_0 p1)), .val (.int (fCh_0 p2)), .val (.int (fCh_0 p3)), .val (.long (q4 &&& (4611686018427387903 : Int64))), .second, .val (.long (((q4 &&& (4611686018427387903 : Int64)) + (1 : Int64)) + ((p5 &&& (3 : Int32)).toInt64))), .second, .val (.long (((((q4 &&& (4611686018427387903 : Int64)) + (1 : Int64)) + ((p5 &&& (3 : Int32)).toInt64)) + (1 : Int64)) + ((((p5.toUInt32 >>> ((2 : Int32) &&& 31).toUInt32).toInt32) &&& (3 : Int32)).toInt64))), .second, .val (.long (fEnds_0 (0 : Int32) (0 : Int32) (0 : Int64) (fCh_0 p1) (q4 &&& (4611686018427387903 : Int64)))), .second, .val (.long ((fEnds_0 (0 : Int32) (0 : Int32) (0 : Int64) (fCh_0 p1) (q4 &&& (4611686018427387903 : Int64))) + (fEnds_0 (1 : Int32) (fCh_0 p1) (q4 &&& (4611686018427387903 : Int64)) (fCh_0 p2) (((q4 &&& (4611686018427387903 : Int64)) + (1 : Int64)) + ((p5 &&& (3 : Int32)).toInt64))))), .second, .val (.long (((fEnds_0 (0 : Int32) (0 : Int32) (0 : Int64) (fCh_0 p1) (q4 &&& (4611686018427387903 : Int64))) + (fEnds_0 (1 : Int32) (fCh_0 p1) (q4 &&& (4611686018427387903 : Int64)) (fCh_0 p2) (((q4 &&& (4611686018427387903 : Int64)) + (1 : Int64)) + ((p5 &&& (3 : Int32)).toInt64)))) + (fEnds_0 (1 : Int32) (fCh_0 p2) (((q4 &&& (4611686018427387903 : Int64)) + (1 : Int64)) + ((p5 &&& (3 : Int32)).toInt64)) (fCh_0 p3) (((((q4 &&& (4611686018427387903 : Int64)) + (1 : Int64)) + ((p5 &&& (3 : Int32)).toInt64)) + (1 : Int64)) + ((((p5.toUInt32 >>> ((2 : Int32) &&& 31).toUInt32).toInt32) &&& (3 : Int32)).toInt64))))), .second, .val (.ref ad7), .unset, .unset, .unset, .unset] [(.long (0 : Int64))]
  refine eLConst X9 hx (0 : Int64) (hb hby at_111) rfl rfl ?_
  refine eLCmp X9 hx (hb hby at_112) rfl ?_
  refine eIfN X9 hx (hb hby at_113) (XT.ll_ne_f (by decide)) rfl ?_
  refine eIConst X9 hx (1 : Int32) (hb hby at_116) rfl rfl ?_
  refine eGoto X9 hx (hb hby at_117) (by decide) (pc' := 121) rfl ?_
  refine eIStore X9 hx (hb hby at_121) (L' := #[.val (.int p1), .val (.int p2), .val (.int p3), .val (.long q4), .second, .val (.int p5), .val (.int (fCh_0 p1)), .val (.int (fCh_0 p2)), .val (.int (fCh_0 p3)), .val (.long (q4 &&& (4611686018427387903 : Int64))), .second, .val (.long (((q4 &&& (4611686018427387903 : Int64)) + (1 : Int64)) + ((p5 &&& (3 : Int32)).toInt64))), .second, .val (.long (((((q4 &&& (4611686018427387903 : Int64)) + (1 : Int64)) + ((p5 &&& (3 : Int32)).toInt64)) + (1 : Int64)) + ((((p5.toUInt32 >>> ((2 : Int32) &&& 31).toUInt32).toInt32) &&& (3 : Int32)).toInt64))), .second, .val (.long (fEnds_0 (0 : Int32) (0 : Int32) (0 : Int64) (fCh_0 p1) (q4 &&& (4611686018427387903 : Int64)))), .second, .val (.long ((fEnds_0 (0 : Int32) (0 : Int32) (0 : Int64) (fCh_0 p1) (q4 &&& (4611686018427387903 : Int64))) + (fEnds_0 (1 : Int32) (fCh_0 p1) (q4 &&& (4611686018427387903 : Int64)) (fCh_0 p2) (((q4 &&& (4611686018427387903 : Int64)) + (1 : Int64)) + ((p5 &&& (3 : Int32)).toInt64))))), .second, .val (.long (((fEnds_0 (0 : Int32) (0 : Int32) (0 : Int64) (fCh_0 p1) (q4 &&& (4611686018427387903 : Int64))) + (fEnds_0 (1 : Int32) (fCh_0 p1) (q4 &&& (4611686018427387903 : Int64)) (fCh_0 p2) (((q4 &&& (4611686018427387903 : Int64)) + (1 : Int64)) + ((p5 &&& (3 : Int32)).toInt64)))) + (fEnds_0 (1 : Int32) (fCh_0 p2) (((q4 &&& (4611686018427387903 : Int64)) + (1 : Int64)) + ((p5 &&& (3 : Int32)).toInt64)) (fCh_0 p3) (((((q4 &&& (4611686018427387903 : Int64)) + (1 : Int64)) + ((p5 &&& (3 : Int32)).toInt64)) + (1 : Int64)) + ((((p5.toUInt32 >>> ((2 : Int32) &&& 31).toUInt32).toInt32) &&& (3 : Int32)).toInt64))))), .second, .val (.ref ad7), .val (.int (1 : Int32)), .unset, .unset, .unset]) rfl rfl ?_
  refine eALoad X9 hx (hb hby at_123) rfl rfl rfl ?_
  refine eILoad X9 hx (hb hby at_125) rfl rfl ?_
  refine eLLoad X9 hx (hb hby at_127) rfl rfl ?_
  refine eCallV X9 hx hZ (y := (⟨"com/example/shapelint/shapelint/reader/LineEnds", "note", "(IJ)V"⟩ : MethodName)) hown (hw _ (List.mem_of_getElem? (i := 27) rfl)) (hw _ (List.mem_of_getElem? (i := 28) rfl)) (hw _ (List.mem_of_getElem? (i := 30) rfl)) (hw _ (List.mem_of_getElem? (i := 29) rfl)) (hw _ (List.mem_of_getElem? (i := 10) rfl)) (hw _ (List.mem_of_getElem? (i := 31) rfl)) (by decide) e9 A7 (rm6 l Z a0 hw [] ad7 (fCh_0 p1) (q4 &&& (4611686018427387903 : Int64)) (0 : Int64) (-2 : Int64) T8.heap n0 Z8 A7 F7_count F7_lastReturn ge_ad7) (argsL := [(.int (fCh_0 p1)), (.long (q4 &&& (4611686018427387903 : Int64)))]) (rest := []) (lenOf own_pd4 rfl) rfl (by rw [hml]; rfl) 0 (by exact Nat.le_refl _) (by decide) (by decide) (by decide) (by decide) (hb hby at_129) rfl (fun v10 T10 L10 q10 (X10 : Stand _ _ _ _ _ _ _ _ _ _ T10 _ 1 2) => ?_)
  obtain ⟨N10', K10', rfl, R10_0, R10_1, R10_2⟩ := q10
  have N10 := Fr.app N9 N10'
  have A7 := A7.keep K10'
  have A7 := R10_0
  have F7_count : Fld Z T10.heap ad7 "com/example/shapelint/shapelint/reader/LineEnds" "count" "J" (.long ((fNote_0 (fCh_0 p1) (q4 &&& (4611686018427387903 : Int64)) (0 : Int64) (-2 : Int64))).1) := R10_1
  have F7_lastReturn : Fld Z T10.heap ad7 "com/example/shapelint/shapelint/reader/LineEnds" "lastReturn" "J" (.long ((fNote_0 (fCh_0 p1) (q4 &&& (4611686018427387903 : Int64)) (0 : Int64) (-2 : Int64))).2) := R10_2
  have Z10 := Nat.le_trans Z8 K10'.1
  show Ends p e below _ T10 m 132 #[.val (.int p1), .val (.int p2), .val (.int p3), .val (.long q4), .second, .val (.int p5), .val (.int (fCh_0 p1)), .val (.int (fCh_0 p2)), .val (.int (fCh_0 p3)), .val (.long (q4 &&& (4611686018427387903 : Int64))), .second, .val (.long (((q4 &&& (4611686018427387903 : Int64)) + (1 : Int64)) + ((p5 &&& (3 : Int32)).toInt64))), .second, .val (.long (((((q4 &&& (4611686018427387903 : Int64)) + (1 : Int64)) + ((p5 &&& (3 : Int32)).toInt64)) + (1 : Int64)) + ((((p5.toUInt32 >>> ((2 : Int32) &&& 31).toUInt32).toInt32) &&& (3 : Int32)).toInt64))), .second, .val (.long (fEnds_0 (0 : Int32) (0 : Int32) (0 : Int64) (fCh_0 p1) (q4 &&& (4611686018427387903 : Int64)))), .second, .val (.long ((fEnds_0 (0 : Int32) (0 : Int32) (0 : Int64) (fCh_0 p1) (q4 &&& (4611686018427387903 : Int64))) + (fEnds_0 (1 : Int32) (fCh_0 p1) (q4 &&& (4611686018427387903 : Int64)) (fCh_0 p2) (((q4 &&& (4611686018427387903 : Int64)) + (1 : Int64)) + ((p5 &&& (3 : Int32)).toInt64))))), .second, .val (.long (((fEnds_0 (0 : Int32) (0 : Int32) (0 : Int64) (fCh_0 p1) (q4 &&& (4611686018427387903 : Int64))) + (fEnds_0 (1 : Int32) (fCh_0 p1) (q4 &&& (4611686018427387903 : Int64)) (fCh_0 p2) (((q4 &&& (4611686018427387903 : Int64)) + (1 : Int64)) + ((p5 &&& (3 : Int32)).toInt64)))) + (fEnds_0 (1 : Int32) (fCh_0 p2) (((q4 &&& (4611686018427387903 : Int64)) + (1 : Int64)) + ((p5 &&& (3 : Int32)).toInt64)) (fCh_0 p3) (((((q4 &&& (4611686018427387903 : Int64)) + (1 : Int64)) + ((p5 &&& (3 : Int32)).toInt64)) + (1 : Int64)) + ((((p5.toUInt32 >>> ((2 : Int32) &&& 31).toUInt32).toInt32) &&& (3 : Int32)).toInt64))))), .second, .val (.ref ad7), .val (.int (1 : Int32)), .unset, .unset, .unset] []
  refine eALoad X10 hx (hb hby at_132) rfl rfl rfl ?_
  refine eCallV X10 hx hZ (y := (⟨"com/example/shapelint/shapelint/reader/LineEnds", "count", "()J"⟩ : MethodName)) hown (hw _ (List.mem_of_getElem? (i := 20) rfl)) (hw _ (List.mem_of_getElem? (i := 21) rfl)) (hw _ (List.mem_of_getElem? (i := 23) rfl)) (hw _ (List.mem_of_getElem? (i := 22) rfl)) (hw _ (List.mem_of_getElem? (i := 10) rfl)) (hw _ (List.mem_of_getElem? (i := 24) rfl)) (by decide) rfl A7 (rm5 l Z a0 hw [] ad7 ((fNote_0 (fCh_0 p1) (q4 &&& (4611686018427387903 : Int64)) (0 : Int64) (-2 : Int64))).1 T10.heap n0 Z10 F7_count) (argsL := []) (rest := []) (lenOf own_pd3 rfl) rfl (by rw [hml]; rfl) 0 (by exact Nat.le_refl _) (by decide) (by decide) (by decide) (by decide) (hb hby at_134) rfl (fun v11 T11 L11 q11 (X11 : Stand _ _ _ _ _ _ _ _ _ _ T11 _ 1 2) => ?_)
  obtain ⟨N11', e11, rfl⟩ := q11
  have N11 := Fr.app N10 N11'
  show Ends p e below _ T11 m 137 #[.val (.int p1), .val (.int p2), .val (.int p3), .val (.long q4), .second, .val (.int p5), .val (.int (fCh_0 p1)), .val (.int (fCh_0 p2)), .val (.int (fCh_0 p3)), .val (.long (q4 &&& (4611686018427387903 : Int64))), .second, .val (.long (((q4 &&& (4611686018427387903 : Int64)) + (1 : Int64)) + ((p5 &&& (3 : Int32)).toInt64))), .second, .val (.long (((((q4 &&& (4611686018427387903 : Int64)) + (1 : Int64)) + ((p5 &&& (3 : Int32)).toInt64)) + (1 : Int64)) + ((((p5.toUInt32 >>> ((2 : Int32) &&& 31).toUInt32).toInt32) &&& (3 : Int32)).toInt64))), .second, .val (.long (fEnds_0 (0 : Int32) (0 : Int32) (0 : Int64) (fCh_0 p1) (q4 &&& (4611686018427387903 : Int64)))), .second, .val (.long ((fEnds_0 (0 : Int32) (0 : Int32) (0 : Int64) (fCh_0 p1) (q4 &&& (4611686018427387903 : Int64))) + (fEnds_0 (1 : Int32) (fCh_0 p1) (q4 &&& (4611686018427387903 : Int64)) (fCh_0 p2) (((q4 &&& (4611686018427387903 : Int64)) + (1 : Int64)) + ((p5 &&& (3 : Int32)).toInt64))))), .second, .val (.long (((fEnds_0 (0 : Int32) (0 : Int32) (0 : Int64) (fCh_0 p1) (q4 &&& (4611686018427387903 : Int64))) + (fEnds_0 (1 : Int32) (fCh_0 p1) (q4 &&& (4611686018427387903 : Int64)) (fCh_0 p2) (((q4 &&& (4611686018427387903 : Int64)) + (1 : Int64)) + ((p5 &&& (3 : Int32)).toInt64)))) + (fEnds_0 (1 : Int32) (fCh_0 p2) (((q4 &&& (4611686018427387903 : Int64)) + (1 : Int64)) + ((p5 &&& (3 : Int32)).toInt64)) (fCh_0 p3) (((((q4 &&& (4611686018427387903 : Int64)) + (1 : Int64)) + ((p5 &&& (3 : Int32)).toInt64)) + (1 : Int64)) + ((((p5.toUInt32 >>> ((2 : Int32) &&& 31).toUInt32).toInt32) &&& (3 : Int32)).toInt64))))), .second, .val (.ref ad7), .val (.int (1 : Int32)), .unset, .unset, .unset] [(.long ((fNote_0 (fCh_0 p1) (q4 &&& (4611686018427387903 : Int64)) (0 : Int64) (-2 : Int64))).1)]
  refine eLLoad X11 hx (hb hby at_137) rfl rfl ?_
  refine eLCmp X11 hx (hb hby at_139) rfl ?_
  have K148_13 : ∀ (t12 : Int32) (T13 : State) (locs13 : List Loc), Stand p l e room_1 s m #[(.int p1), (.int p2), (.int p3), (.long q4), (.int p5)] below meth c T13 locs13 1 2 → Fr n0 locs13 → T13.heap = T10.heap → Ends p e below (PVW s 16 128 n0 (f0_148 p1 p2 p3 q4 p5 t12)) T13 m 148 #[.val (.int p1), .val (.int p2), .val (.int p3), .val (.long q4), .second, .val (.int p5), .val (.int (fCh_0 p1)), .val (.int (fCh_0 p2)), .val (.int (fCh_0 p3)), .val (.long (q4 &&& (4611686018427387903 : Int64))), .second, .val (.long (((q4 &&& (4611686018427387903 : Int64)) + (1 : Int64)) + ((p5 &&& (3 : Int32)).toInt64))), .second, .val (.long (((((q4 &&& (4611686018427387903 : Int64)) + (1 : Int64)) + ((p5 &&& (3 : Int32)).toInt64)) + (1 : Int64)) + ((((p5.toUInt32 >>> ((2 : Int32) &&& 31).toUInt32).toInt32) &&& (3 : Int32)).toInt64))), .second, .val (.long (fEnds_0 (0 : Int32) (0 : Int32) (0 : Int64) (fCh_0 p1) (q4 &&& (4611686018427387903 : Int64)))), .second, .val (.long ((fEnds_0 (0 : Int32) (0 : Int32) (0 : Int64) (fCh_0 p1) (q4 &&& (4611686018427387903 : Int64))) + (fEnds_0 (1 : Int32) (fCh_0 p1) (q4 &&& (4611686018427387903 : Int64)) (fCh_0 p2) (((q4 &&& (4611686018427387903 : Int64)) + (1 : Int64)) + ((p5 &&& (3 : Int32)).toInt64))))), .second, .val (.long (((fEnds_0 (0 : Int32) (0 : Int32) (0 : Int64) (fCh_0 p1) (q4 &&& (4611686018427387903 : Int64))) + (fEnds_0 (1 : Int32) (fCh_0 p1) (q4 &&& (4611686018427387903 : Int64)) (fCh_0 p2) (((q4 &&& (4611686018427387903 : Int64)) + (1 : Int64)) + ((p5 &&& (3 : Int32)).toInt64)))) + (fEnds_0 (1 : Int32) (fCh_0 p2) (((q4 &&& (4611686018427387903 : Int64)) + (1 : Int64)) + ((p5 &&& (3 : Int32)).toInt64)) (fCh_0 p3) (((((q4 &&& (4611686018427387903 : Int64)) + (1 : Int64)) + ((p5 &&& (3 : Int32)).toInt64)) + (1 : Int64)) + ((((p5.toUInt32 >>> ((2 : Int32) &&& 31).toUInt32).toInt32) &&& (3 : Int32)).toInt64))))), .second, .val (.ref ad7), .val (.int (1 : Int32)), .unset, .unset, .unset] [(.int t12)] := by
    intro t12 T13 locs13 X13 N13 e13
    refine eIStore X13 hx (hb hby at_148) (L' := #[.val (.int p1), .val (.int p2), .val (.int p3), .val (.long q4), .second, .val (.int p5), .val (.int (fCh_0 p1)), .val (.int (fCh_0 p2)), .val (.int (fCh_0 p3)), .val (.long (q4 &&& (4611686018427387903 : Int64))), .second, .val (.long (((q4 &&& (4611686018427387903 : Int64)) + (1 : Int64)) + ((p5 &&& (3 : Int32)).toInt64))), .second, .val (.long (((((q4 &&& (4611686018427387903 : Int64)) + (1 : Int64)) + ((p5 &&& (3 : Int32)).toInt64)) + (1 : Int64)) + ((((p5.toUInt32 >>> ((2 : Int32) &&& 31).toUInt32).toInt32) &&& (3 : Int32)).toInt64))), .second, .val (.long (fEnds_0 (0 : Int32) (0 : Int32) (0 : Int64) (fCh_0 p1) (q4 &&& (4611686018427387903 : Int64)))), .second, .val (.long ((fEnds_0 (0 : Int32) (0 : Int32) (0 : Int64) (fCh_0 p1) (q4 &&& (4611686018427387903 : Int64))) + (fEnds_0 (1 : Int32) (fCh_0 p1) (q4 &&& (4611686018427387903 : Int64)) (fCh_0 p2) (((q4 &&& (4611686018427387903 : Int64)) + (1 : Int64)) + ((p5 &&& (3 : Int32)).toInt64))))), .second, .val (.long (((fEnds_0 (0 : Int32) (0 : Int32) (0 : Int64) (fCh_0 p1) (q4 &&& (4611686018427387903 : Int64))) + (fEnds_0 (1 : Int32) (fCh_0 p1) (q4 &&& (4611686018427387903 : Int64)) (fCh_0 p2) (((q4 &&& (4611686018427387903 : Int64)) + (1 : Int64)) + ((p5 &&& (3 : Int32)).toInt64)))) + (fEnds_0 (1 : Int32) (fCh_0 p2) (((q4 &&& (4611686018427387903 : Int64)) + (1 : Int64)) + ((p5 &&& (3 : Int32)).toInt64)) (fCh_0 p3) (((((q4 &&& (4611686018427387903 : Int64)) + (1 : Int64)) + ((p5 &&& (3 : Int32)).toInt64)) + (1 : Int64)) + ((((p5.toUInt32 >>> ((2 : Int32) &&& 31).toUInt32).toInt32) &&& (3 : Int32)).toInt64))))), .second, .val (.ref ad7), .val (.int (1 : Int32)), .val (.int t12), .unset, .unset]) rfl rfl ?_
    refine eALoad X13 hx (hb hby at_150) rfl rfl rfl ?_
    refine eILoad X13 hx (hb hby at_152) rfl rfl ?_
    refine eLLoad X13 hx (hb hby at_154) rfl rfl ?_
    refine eCallV X13 hx hZ (y := (⟨"com/example/shapelint/shapelint/reader/LineEnds", "note", "(IJ)V"⟩ : MethodName)) hown (hw _ (List.mem_of_getElem? (i := 27) rfl)) (hw _ (List.mem_of_getElem? (i := 28) rfl)) (hw _ (List.mem_of_getElem? (i := 30) rfl)) (hw _ (List.mem_of_getElem? (i := 29) rfl)) (hw _ (List.mem_of_getElem? (i := 10) rfl)) (hw _ (List.mem_of_getElem? (i := 31) rfl)) (by decide) e13 A7 (rm6 l Z a0 hw [] ad7 (fCh_0 p2) (((q4 &&& (4611686018427387903 : Int64)) + (1 : Int64)) + ((p5 &&& (3 : Int32)).toInt64)) ((fNote_0 (fCh_0 p1) (q4 &&& (4611686018427387903 : Int64)) (0 : Int64) (-2 : Int64))).1 ((fNote_0 (fCh_0 p1) (q4 &&& (4611686018427387903 : Int64)) (0 : Int64) (-2 : Int64))).2 T10.heap n0 Z10 A7 F7_count F7_lastReturn ge_ad7) (argsL := [(.int (fCh_0 p2)), (.long (((q4 &&& (4611686018427387903 : Int64)) + (1 : Int64)) + ((p5 &&& (3 : Int32)).toInt64)))]) (rest := []) (lenOf own_pd4 rfl) rfl (by rw [hml]; rfl) 0 (by exact Nat.le_refl _) (by decide) (by decide) (by decide) (by decide) (hb hby at_156) rfl (fun v14 T14 L14 q14 (X14 : Stand _ _ _ _ _ _ _ _ _ _ T14 _ 1 2) => ?_)
    obtain ⟨N14', K14', rfl, R14_0, R14_1, R14_2⟩ := q14
    have N14 := Fr.app N13 N14'
    have A7 := A7.keep K14'
    have A7 := R14_0
    have F7_count : Fld Z T14.heap ad7 "com/example/shapelint/shapelint/reader/LineEnds" "count" "J" (.long ((fNote_0 (fCh_0 p2) (((q4 &&& (4611686018427387903 : Int64)) + (1 : Int64)) + ((p5 &&& (3 : Int32)).toInt64)) ((fNote_0 (fCh_0 p1) (q4 &&& (4611686018427387903 : Int64)) (0 : Int64) (-2 : Int64))).1 ((fNote_0 (fCh_0 p1) (q4 &&& (4611686018427387903 : Int64)) (0 : Int64) (-2 : Int64))).2)).1) := R14_1
    have F7_lastReturn : Fld Z T14.heap ad7 "com/example/shapelint/shapelint/reader/LineEnds" "lastReturn" "J" (.long ((fNote_0 (fCh_0 p2) (((q4 &&& (4611686018427387903 : Int64)) + (1 : Int64)) + ((p5 &&& (3 : Int32)).toInt64)) ((fNote_0 (fCh_0 p1) (q4 &&& (4611686018427387903 : Int64)) (0 : Int64) (-2 : Int64))).1 ((fNote_0 (fCh_0 p1) (q4 &&& (4611686018427387903 : Int64)) (0 : Int64) (-2 : Int64))).2)).2) := R14_2
    have Z14 := Nat.le_trans Z10 K14'.1
    show Ends p e below _ T14 m 159 #[.val (.int p1), .val (.int p2), .val (.int p3), .val (.long q4), .second, .val (.int p5), .val (.int (fCh_0 p1)), .val (.int (fCh_0 p2)), .val (.int (fCh_0 p3)), .val (.long (q4 &&& (4611686018427387903 : Int64))), .second, .val (.long (((q4 &&& (4611686018427387903 : Int64)) + (1 : Int64)) + ((p5 &&& (3 : Int32)).toInt64))), .second, .val (.long (((((q4 &&& (4611686018427387903 : Int64)) + (1 : Int64)) + ((p5 &&& (3 : Int32)).toInt64)) + (1 : Int64)) + ((((p5.toUInt32 >>> ((2 : Int32) &&& 31).toUInt32).toInt32) &&& (3 : Int32)).toInt64))), .second, .val (.long (fEnds_0 (0 : Int32) (0 : Int32) (0 : Int64) (fCh_0 p1) (q4 &&& (4611686018427387903 : Int64)))), .second, .val (.long ((fEnds_0 (0 : Int32) (0 : Int32) (0 : Int64) (fCh_0 p1) (q4 &&& (4611686018427387903 : Int64))) + (fEnds_0 (1 : Int32) (fCh_0 p1) (q4 &&& (4611686018427387903 : Int64)) (fCh_0 p2) (((q4 &&& (4611686018427387903 : Int64)) + (1 : Int64)) + ((p5 &&& (3 : Int32)).toInt64))))), .second, .val (.long (((fEnds_0 (0 : Int32) (0 : Int32) (0 : Int64) (fCh_0 p1) (q4 &&& (4611686018427387903 : Int64))) + (fEnds_0 (1 : Int32) (fCh_0 p1) (q4 &&& (4611686018427387903 : Int64)) (fCh_0 p2) (((q4 &&& (4611686018427387903 : Int64)) + (1 : Int64)) + ((p5 &&& (3 : Int32)).toInt64)))) + (fEnds_0 (1 : Int32) (fCh_0 p2) (((q4 &&& (4611686018427387903 : Int64)) + (1 : Int64)) + ((p5 &&& (3 : Int32)).toInt64)) (fCh_0 p3) (((((q4 &&& (4611686018427387903 : Int64)) + (1 : Int64)) + ((p5 &&& (3 : Int32)).toInt64)) + (1 : Int64)) + ((((p5.toUInt32 >>> ((2 : Int32) &&& 31).toUInt32).toInt32) &&& (3 : Int32)).toInt64))))), .second, .val (.ref ad7), .val (.int (1 : Int32)), .val (.int t12), .unset, .unset] []
    refine eALoad X14 hx (hb hby at_159) rfl rfl rfl ?_
    refine eCallV X14 hx hZ (y := (⟨"com/example/shapelint/shapelint/reader/LineEnds", "count", "()J"⟩ : MethodName)) hown (hw _ (List.mem_of_getElem? (i := 20) rfl)) (hw _ (List.mem_of_getElem? (i := 21) rfl)) (hw _ (List.mem_of_getElem? (i := 23) rfl)) (hw _ (List.mem_of_getElem? (i := 22) rfl)) (hw _ (List.mem_of_getElem? (i := 10) rfl)) (hw _ (List.mem_of_getElem? (i := 24) rfl)) (by decide) rfl A7 (rm5 l Z a0 hw [] ad7 ((fNote_0 (fCh_0 p2) (((q4 &&& (4611686018427387903 : Int64)) + (1 : Int64)) + ((p5 &&& (3 : Int32)).toInt64)) ((fNote_0 (fCh_0 p1) (q4 &&& (4611686018427387903 : Int64)) (0 : Int64) (-2 : Int64))).1 ((fNote_0 (fCh_0 p1) (q4 &&& (4611686018427387903 : Int64)) (0 : Int64) (-2 : Int64))).2)).1 T14.heap n0 Z14 F7_count) (argsL := []) (rest := []) (lenOf own_pd3 rfl) rfl (by rw [hml]; rfl) 0 (by exact Nat.le_refl _) (by decide) (by decide) (by decide) (by decide) (hb hby at_161) rfl (fun v15 T15 L15 q15 (X15 : Stand _ _ _ _ _ _ _ _ _ _ T15 _ 1 2) => ?_)
    obtain ⟨N15', e15, rfl⟩ := q15
    have N15 := Fr.app N14 N15'
    show Ends p e below _ T15 m 164 #[.val (.int p1), .val (.int p2), .val (.int p3), .val (.long q4), .second, .val (.int p5), .val (.int (fCh_0 p1)), .val (.int (fCh_0 p2)), .val (.int (fCh_0 p3)), .val (.long (q4 &&& (4611686018427387903 : Int64))), .second, .val (.long (((q4 &&& (4611686018427387903 : Int64)) + (1 : Int64)) + ((p5 &&& (3 : Int32)).toInt64))), .second, .val (.long (((((q4 &&& (4611686018427387903 : Int64)) + (1 : Int64)) + ((p5 &&& (3 : Int32)).toInt64)) + (1 : Int64)) + ((((p5.toUInt32 >>> ((2 : Int32) &&& 31).toUInt32).toInt32) &&& (3 : Int32)).toInt64))), .second, .val (.long (fEnds_0 (0 : Int32) (0 : Int32) (0 : Int64) (fCh_0 p1) (q4 &&& (4611686018427387903 : Int64)))), .second, .val (.long ((fEnds_0 (0 : Int32) (0 : Int32) (0 : Int64) (fCh_0 p1) (q4 &&& (4611686018427387903 : Int64))) + (fEnds_0 (1 : Int32) (fCh_0 p1) (q4 &&& (4611686018427387903 : Int64)) (fCh_0 p2) (((q4 &&& (4611686018427387903 : Int64)) + (1 : Int64)) + ((p5 &&& (3 : Int32)).toInt64))))), .second, .val (.long (((fEnds_0 (0 : Int32) (0 : Int32) (0 : Int64) (fCh_0 p1) (q4 &&& (4611686018427387903 : Int64))) + (fEnds_0 (1 : Int32) (fCh_0 p1) (q4 &&& (4611686018427387903 : Int64)) (fCh_0 p2) (((q4 &&& (4611686018427387903 : Int64)) + (1 : Int64)) + ((p5 &&& (3 : Int32)).toInt64)))) + (fEnds_0 (1 : Int32) (fCh_0 p2) (((q4 &&& (4611686018427387903 : Int64)) + (1 : Int64)) + ((p5 &&& (3 : Int32)).toInt64)) (fCh_0 p3) (((((q4 &&& (4611686018427387903 : Int64)) + (1 : Int64)) + ((p5 &&& (3 : Int32)).toInt64)) + (1 : Int64)) + ((((p5.toUInt32 >>> ((2 : Int32) &&& 31).toUInt32).toInt32) &&& (3 : Int32)).toInt64))))), .second, .val (.ref ad7), .val (.int (1 : Int32)), .val (.int t12), .unset, .unset] [(.long ((fNote_0 (fCh_0 p2) (((q4 &&& (4611686018427387903 : Int64)) + (1 : Int64)) + ((p5 &&& (3 : Int32)).toInt64)) ((fNote_0 (fCh_0 p1) (q4 &&& (4611686018427387903 : Int64)) (0 : Int64) (-2 : Int64))).1 ((fNote_0 (fCh_0 p1) (q4 &&& (4611686018427387903 : Int64)) (0 : Int64) (-2 : Int64))).2)).1)]
    refine eLLoad X15 hx (hb hby at_164) rfl rfl ?_
    refine eLCmp X15 hx (hb hby at_166) rfl ?_
    have K175_17 : ∀ (t16 : Int32) (T17 : State) (locs17 : List Loc), Stand p l e room_1 s m #[(.int p1), (.int p2), (.int p3), (.long q4), (.int p5)] below meth c T17 locs17 1 2 → Fr n0 locs17 → T17.heap = T14.heap → Ends p e below (PVW s 16 128 n0 (f0_175 p1 p2 p3 q4 p5 t12 t16)) T17 m 175 #[.val (.int p1), .val (.int p2), .val (.int p3), .val (.long q4), .second, .val (.int p5), .val (.int (fCh_0 p1)), .val (.int (fCh_0 p2)), .val (.int (fCh_0 p3)), .val (.long (q4 &&& (4611686018427387903 : Int64))), .second, .val (.long (((q4 &&& (4611686018427387903 : Int64)) + (1 : Int64)) + ((p5 &&& (3 : Int32)).toInt64))), .second, .val (.long (((((q4 &&& (4611686018427387903 : Int64)) + (1 : Int64)) + ((p5 &&& (3 : Int32)).toInt64)) + (1 : Int64)) + ((((p5.toUInt32 >>> ((2 : Int32) &&& 31).toUInt32).toInt32) &&& (3 : Int32)).toInt64))), .second, .val (.long (fEnds_0 (0 : Int32) (0 : Int32) (0 : Int64) (fCh_0 p1) (q4 &&& (4611686018427387903 : Int64)))), .second, .val (.long ((fEnds_0 (0 : Int32) (0 : Int32) (0 : Int64) (fCh_0 p1) (q4 &&& (4611686018427387903 : Int64))) + (fEnds_0 (1 : Int32) (fCh_0 p1) (q4 &&& (4611686018427387903 : Int64)) (fCh_0 p2) (((q4 &&& (4611686018427387903 : Int64)) + (1 : Int64)) + ((p5 &&& (3 : Int32)).toInt64))))), .second, .val (.long (((fEnds_0 (0 : Int32) (0 : Int32) (0 : Int64) (fCh_0 p1) (q4 &&& (4611686018427387903 : Int64))) + (fEnds_0 (1 : Int32) (fCh_0 p1) (q4 &&& (4611686018427387903 : Int64)) (fCh_0 p2) (((q4 &&& (4611686018427387903 : Int64)) + (1 : Int64)) + ((p5 &&& (3 : Int32)).toInt64)))) + (fEnds_0 (1 : Int32) (fCh_0 p2) (((q4 &&& (4611686018427387903 : Int64)) + (1 : Int64)) + ((p5 &&& (3 : Int32)).toInt64)) (fCh_0 p3) (((((q4 &&& (4611686018427387903 : Int64)) + (1 : Int64)) + ((p5 &&& (3 : Int32)).toInt64)) + (1 : Int64)) + ((((p5.toUInt32 >>> ((2 : Int32) &&& 31).toUInt32).toInt32) &&& (3 : Int32)).toInt64))))), .second, .val (.ref ad7), .val (.int (1 : Int32)), .val (.int t12), .unset, .unset] [(.int t16)] := by
      intro t16 T17 locs17 X17 N17 e17
      refine eIStore X17 hx (hb hby at_175) (L' := #[.val (.int p1), .val (.int p2), .val (.int p3), .val (.long q4), .second, .val (.int p5), .val (.int (fCh_0 p1)), .val (.int (fCh_0 p2)), .val (.int (fCh_0 p3)), .val (.long (q4 &&& (4611686018427387903 : Int64))), .second, .val (.long (((q4 &&& (4611686018427387903 : Int64)) + (1 : Int64)) + ((p5 &&& (3 : Int32)).toInt64))), .second, .val (.long (((((q4 &&& (4611686018427387903 : Int64)) + (1 : Int64)) + ((p5 &&& (3 : Int32)).toInt64)) + (1 : Int64)) + ((((p5.toUInt32 >>> ((2 : Int32) &&& 31).toUInt32).toInt32) &&& (3 : Int32)).toInt64))), .second, .val (.long (fEnds_0 (0 : Int32) (0 : Int32) (0 : Int64) (fCh_0 p1) (q4 &&& (4611686018427387903 : Int64)))), .second, .val (.long ((fEnds_0 (0 : Int32) (0 : Int32) (0 : Int64) (fCh_0 p1) (q4 &&& (4611686018427387903 : Int64))) + (fEnds_0 (1 : Int32) (fCh_0 p1) (q4 &&& (4611686018427387903 : Int64)) (fCh_0 p2) (((q4 &&& (4611686018427387903 : Int64)) + (1 : Int64)) + ((p5 &&& (3 : Int32)).toInt64))))), .second, .val (.long (((fEnds_0 (0 : Int32) (0 : Int32) (0 : Int64) (fCh_0 p1) (q4 &&& (4611686018427387903 : Int64))) + (fEnds_0 (1 : Int32) (fCh_0 p1) (q4 &&& (4611686018427387903 : Int64)) (fCh_0 p2) (((q4 &&& (4611686018427387903 : Int64)) + (1 : Int64)) + ((p5 &&& (3 : Int32)).toInt64)))) + (fEnds_0 (1 : Int32) (fCh_0 p2) (((q4 &&& (4611686018427387903 : Int64)) + (1 : Int64)) + ((p5 &&& (3 : Int32)).toInt64)) (fCh_0 p3) (((((q4 &&& (4611686018427387903 : Int64)) + (1 : Int64)) + ((p5 &&& (3 : Int32)).toInt64)) + (1 : Int64)) + ((((p5.toUInt32 >>> ((2 : Int32) &&& 31).toUInt32).toInt32) &&& (3 : Int32)).toInt64))))), .second, .val (.ref ad7), .val (.int (1 : Int32)), .val (.int t12), .val (.int t16), .unset]) rfl rfl ?_
      refine eALoad X17 hx (hb hby at_177) rfl rfl rfl ?_
      refine eILoad X17 hx (hb hby at_179) rfl rfl ?_
      refine eLLoad X17 hx (hb hby at_181) rfl rfl ?_
      refine eCallV X17 hx hZ (y := (⟨"com/example/shapelint/shapelint/reader/LineEnds", "note", "(IJ)V"⟩ : MethodName)) hown (hw _ (List.mem_of_getElem? (i := 27) rfl)) (hw _ (List.mem_of_getElem? (i := 28) rfl)) (hw _ (List.mem_of_getElem? (i := 30) rfl)) (hw _ (List.mem_of_getElem? (i := 29) rfl)) (hw _ (List.mem_of_getElem? (i := 10) rfl)) (hw _ (List.mem_of_getElem? (i := 31) rfl)) (by decide) e17 A7 (rm6 l Z a0 hw [] ad7 (fCh_0 p3) (((((q4 &&& (4611686018427387903 : Int64)) + (1 : Int64)) + ((p5 &&& (3 : Int32)).toInt64)) + (1 : Int64)) + ((((p5.toUInt32 >>> ((2 : Int32) &&& 31).toUInt32).toInt32) &&& (3 : Int32)).toInt64)) ((fNote_0 (fCh_0 p2) (((q4 &&& (4611686018427387903 : Int64)) + (1 : Int64)) + ((p5 &&& (3 : Int32)).toInt64)) ((fNote_0 (fCh_0 p1) (q4 &&& (4611686018427387903 : Int64)) (0 : Int64) (-2 : Int64))).1 ((fNote_0 (fCh_0 p1) (q4 &&& (4611686018427387903 : Int64)) (0 : Int64) (-2 : Int64))).2)).1 ((fNote_0 (fCh_0 p2) (((q4 &&& (4611686018427387903 : Int64)) + (1 : Int64)) + ((p5 &&& (3 : Int32)).toInt64)) ((fNote_0 (fCh_0 p1) (q4 &&& (4611686018427387903 : Int64)) (0 : Int64) (-2 : Int64))).1 ((fNote_0 (fCh_0 p1) (q4 &&& (4611686018427387903 : Int64)) (0 : Int64) (-2 : Int64))).2)).2 T14.heap n0 Z14 A7 F7_count F7_lastReturn ge_ad7) (argsL := [(.int (fCh_0 p3)), (.long (((((q4 &&& (4611686018427387903 : Int64)) + (1 : Int64)) + ((p5 &&& (3 : Int32)).toInt64)) + (1 : Int64)) + ((((p5.toUInt32 >>> ((2 : Int32) &&& 31).toUInt32).toInt32) &&& (3 : Int32)).toInt64)))]) (rest := []) (lenOf own_pd4 rfl) rfl (by rw [hml]; rfl) 0 (by exact Nat.le_refl _) (by decide) (by decide) (by decide) (by decide) (hb hby at_183) rfl (fun v18 T18 L18 q18 (X18 : Stand _ _ _ _ _ _ _ _ _ _ T18 _ 1 2) => ?_)
      obtain ⟨N18', K18', rfl, R18_0, R18_1, R18_2⟩ := q18
      have N18 := Fr.app N17 N18'
      have A7 := A7.keep K18'
      have A7 := R18_0
      have F7_count : Fld Z T18.heap ad7 "com/example/shapelint/shapelint/reader/LineEnds" "count" "J" (.long ((fNote_0 (fCh_0 p3) (((((q4 &&& (4611686018427387903 : Int64)) + (1 : Int64)) + ((p5 &&& (3 : Int32)).toInt64)) + (1 : Int64)) + ((((p5.toUInt32 >>> ((2 : Int32) &&& 31).toUInt32).toInt32) &&& (3 : Int32)).toInt64)) ((fNote_0 (fCh_0 p2) (((q4 &&& (4611686018427387903 : Int64)) + (1 : Int64)) + ((p5 &&& (3 : Int32)).toInt64)) ((fNote_0 (fCh_0 p1) (q4 &&& (4611686018427387903 : Int64)) (0 : Int64) (-2 : Int64))).1 ((fNote_0 (fCh_0 p1) (q4 &&& (4611686018427387903 : Int64)) (0 : Int64) (-2 : Int64))).2)).1 ((fNote_0 (fCh_0 p2) (((q4 &&& (4611686018427387903 : Int64)) + (1 : Int64)) + ((p5 &&& (3 : Int32)).toInt64)) ((fNote_0 (fCh_0 p1) (q4 &&& (4611686018427387903 : Int64)) (0 : Int64) (-2 : Int64))).1 ((fNote_0 (fCh_0 p1) (q4 &&& (4611686018427387903 : Int64)) (0 : Int64) (-2 : Int64))).2)).2)).1) := R18_1
      have F7_lastReturn : Fld Z T18.heap ad7 "com/example/shapelint/shapelint/reader/LineEnds" "lastReturn" "J" (.long ((fNote_0 (fCh_0 p3) (((((q4 &&& (4611686018427387903 : Int64)) + (1 : Int64)) + ((p5 &&& (3 : Int32)).toInt64)) + (1 : Int64)) + ((((p5.toUInt32 >>> ((2 : Int32) &&& 31).toUInt32).toInt32) &&& (3 : Int32)).toInt64)) ((fNote_0 (fCh_0 p2) (((q4 &&& (4611686018427387903 : Int64)) + (1 : Int64)) + ((p5 &&& (3 : Int32)).toInt64)) ((fNote_0 (fCh_0 p1) (q4 &&& (4611686018427387903 : Int64)) (0 : Int64) (-2 : Int64))).1 ((fNote_0 (fCh_0 p1) (q4 &&& (4611686018427387903 : Int64)) (0 : Int64) (-2 : Int64))).2)).1 ((fNote_0 (fCh_0 p2) (((q4 &&& (4611686018427387903 : Int64)) + (1 : Int64)) + ((p5 &&& (3 : Int32)).toInt64)) ((fNote_0 (fCh_0 p1) (q4 &&& (4611686018427387903 : Int64)) (0 : Int64) (-2 : Int64))).1 ((fNote_0 (fCh_0 p1) (q4 &&& (4611686018427387903 : Int64)) (0 : Int64) (-2 : Int64))).2)).2)).2) := R18_2
      have Z18 := Nat.le_trans Z14 K18'.1
      show Ends p e below _ T18 m 186 #[.val (.int p1), .val (.int p2), .val (.int p3), .val (.long q4), .second, .val (.int p5), .val (.int (fCh_0 p1)), .val (.int (fCh_0 p2)), .val (.int (fCh_0 p3)), .val (.long (q4 &&& (4611686018427387903 : Int64))), .second, .val (.long (((q4 &&& (4611686018427387903 : Int64)) + (1 : Int64)) + ((p5 &&& (3 : Int32)).toInt64))), .second, .val (.long (((((q4 &&& (4611686018427387903 : Int64)) + (1 : Int64)) + ((p5 &&& (3 : Int32)).toInt64)) + (1 : Int64)) + ((((p5.toUInt32 >>> ((2 : Int32) &&& 31).toUInt32).toInt32) &&& (3 : Int32)).toInt64))), .second, .val (.long (fEnds_0 (0 : Int32) (0 : Int32) (0 : Int64) (fCh_0 p1) (q4 &&& (4611686018427387903 : Int64)))), .second, .val (.long ((fEnds_0 (0 : Int32) (0 : Int32) (0 : Int64) (fCh_0 p1) (q4 &&& (4611686018427387903 : Int64))) + (fEnds_0 (1 : Int32) (fCh_0 p1) (q4 &&& (4611686018427387903 : Int64)) (fCh_0 p2) (((q4 &&& (4611686018427387903 : Int64)) + (1 : Int64)) + ((p5 &&& (3 : Int32)).toInt64))))), .second, .val (.long (((fEnds_0 (0 : Int32) (0 : Int32) (0 : Int64) (fCh_0 p1) (q4 &&& (4611686018427387903 : Int64))) + (fEnds_0 (1 : Int32) (fCh_0 p1) (q4 &&& (4611686018427387903 : Int64)) (fCh_0 p2) (((q4 &&& (4611686018427387903 : Int64)) + (1 : Int64)) + ((p5 &&& (3 : Int32)).toInt64)))) + (fEnds_0 (1 : Int32) (fCh_0 p2) (((q4 &&& (4611686018427387903 : Int64)) + (1 : Int64)) + ((p5 &&& (3 : Int32)).toInt64)) (fCh_0 p3) (((((q4 &&& (4611686018427387903 : Int64)) + (1 : Int64)) + ((p5 &&& (3 : Int32)).toInt64)) + (1 : Int64)) + ((((p5.toUInt32 >>> ((2 : Int32) &&& 31).toUInt32).toInt32) &&& (3 : Int32)).toInt64))))), .second, .val (.ref ad7), .val (.int (1 : Int32)), .val (.int t12), .val (.int t16), .unset] []
      refine eALoad X18 hx (hb hby at_186) rfl rfl rfl ?_
      refine eCallV X18 hx hZ (y := (⟨"com/example/shapelint/shapelint/reader/LineEnds", "count", "()J"⟩ : MethodName)) hown (hw _ (List.mem_of_getElem? (i := 20) rfl)) (hw _ (List.mem_of_getElem? (i := 21) rfl)) (hw _ (List.mem_of_getElem? (i := 23) rfl)) (hw _ (List.mem_of_getElem? (i := 22) rfl)) (hw _ (List.mem_of_getElem? (i := 10) rfl)) (hw _ (List.mem_of_getElem? (i := 24) rfl)) (by decide) rfl A7 (rm5 l Z a0 hw [] ad7 ((fNote_0 (fCh_0 p3) (((((q4 &&& (4611686018427387903 : Int64)) + (1 : Int64)) + ((p5 &&& (3 : Int32)).toInt64)) + (1 : Int64)) + ((((p5.toUInt32 >>> ((2 : Int32) &&& 31).toUInt32).toInt32) &&& (3 : Int32)).toInt64)) ((fNote_0 (fCh_0 p2) (((q4 &&& (4611686018427387903 : Int64)) + (1 : Int64)) + ((p5 &&& (3 : Int32)).toInt64)) ((fNote_0 (fCh_0 p1) (q4 &&& (4611686018427387903 : Int64)) (0 : Int64) (-2 : Int64))).1 ((fNote_0 (fCh_0 p1) (q4 &&& (4611686018427387903 : Int64)) (0 : Int64) (-2 : Int64))).2)).1 ((fNote_0 (fCh_0 p2) (((q4 &&& (4611686018427387903 : Int64)) + (1 : Int64)) + ((p5 &&& (3 : Int32)).toInt64)) ((fNote_0 (fCh_0 p1) (q4 &&& (4611686018427387903 : Int64)) (0 : Int64) (-2 : Int64))).1 ((fNote_0 (fCh_0 p1) (q4 &&& (4611686018427387903 : Int64)) (0 : Int64) (-2 : Int64))).2)).2)).1 T18.heap n0 Z18 F7_count) (argsL := []) (rest := []) (lenOf own_pd3 rfl) rfl (by rw [hml]; rfl) 0 (by exact Nat.le_refl _) (by decide) (by decide) (by decide) (by decide) (hb hby at_188) rfl (fun v19 T19 L19 q19 (X19 : Stand _ _ _ _ _ _ _ _ _ _ T19 _ 1 2) => ?_)
      obtain ⟨N19', e19, rfl⟩ := q19
      have N19 := Fr.app N18 N19'
      show Ends p e below _ T19 m 191 #[.val (.int p1), .val (.int p2), .val (.int p3), .val (.long q4), .second, .val (.int p5), .val (.int (fCh_0 p1)), .val (.int (fCh_0 p2)), .val (.int (fCh_0 p3)), .val (.long (q4 &&& (4611686018427387903 : Int64))), .second, .val (.long (((q4 &&& (4611686018427387903 : Int64)) + (1 : Int64)) + ((p5 &&& (3 : Int32)).toInt64))), .second, .val (.long (((((q4 &&& (4611686018427387903 : Int64)) + (1 : Int64)) + ((p5 &&& (3 : Int32)).toInt64)) + (1 : Int64)) + ((((p5.toUInt32 >>> ((2 : Int32) &&& 31).toUInt32).toInt32) &&& (3 : Int32)).toInt64))), .second, .val (.long (fEnds_0 (0 : Int32) (0 : Int32) (0 : Int64) (fCh_0 p1) (q4 &&& (4611686018427387903 : Int64)))), .second, .val (.long ((fEnds_0 (0 : Int32) (0 : Int32) (0 : Int64) (fCh_0 p1) (q4 &&& (4611686018427387903 : Int64))) + (fEnds_0 (1 : Int32) (fCh_0 p1) (q4 &&& (4611686018427387903 : Int64)) (fCh_0 p2) (((q4 &&& (4611686018427387903 : Int64)) + (1 : Int64)) + ((p5 &&& (3 : Int32)).toInt64))))), .second, .val (.long (((fEnds_0 (0 : Int32) (0 : Int32) (0 : Int64) (fCh_0 p1) (q4 &&& (4611686018427387903 : Int64))) + (fEnds_0 (1 : Int32) (fCh_0 p1) (q4 &&& (4611686018427387903 : Int64)) (fCh_0 p2) (((q4 &&& (4611686018427387903 : Int64)) + (1 : Int64)) + ((p5 &&& (3 : Int32)).toInt64)))) + (fEnds_0 (1 : Int32) (fCh_0 p2) (((q4 &&& (4611686018427387903 : Int64)) + (1 : Int64)) + ((p5 &&& (3 : Int32)).toInt64)) (fCh_0 p3) (((((q4 &&& (4611686018427387903 : Int64)) + (1 : Int64)) + ((p5 &&& (3 : Int32)).toInt64)) + (1 : Int64)) + ((((p5.toUInt32 >>> ((2 : Int32) &&& 31).toUInt32).toInt32) &&& (3 : Int32)).toInt64))))), .second, .val (.ref ad7), .val (.int (1 : Int32)), .val (.int t12), .val (.int t16), .unset] [(.long ((fNote_0 (fCh_0 p3) (((((q4 &&& (4611686018427387903 : Int64)) + (1 : Int64)) + ((p5 &&& (3 : Int32)).toInt64)) + (1 : Int64)) + ((((p5.toUInt32 >>> ((2 : Int32) &&& 31).toUInt32).toInt32) &&& (3 : Int32)).toInt64)) ((fNote_0 (fCh_0 p2) (((q4 &&& (4611686018427387903 : Int64)) + (1 : Int64)) + ((p5 &&& (3 : Int32)).toInt64)) ((fNote_0 (fCh_0 p1) (q4 &&& (4611686018427387903 : Int64)) (0 : Int64) (-2 : Int64))).1 ((fNote_0 (fCh_0 p1) (q4 &&& (4611686018427387903 : Int64)) (0 : Int64) (-2 : Int64))).2)).1 ((fNote_0 (fCh_0 p2) (((q4 &&& (4611686018427387903 : Int64)) + (1 : Int64)) + ((p5 &&& (3 : Int32)).toInt64)) ((fNote_0 (fCh_0 p1) (q4 &&& (4611686018427387903 : Int64)) (0 : Int64) (-2 : Int64))).1 ((fNote_0 (fCh_0 p1) (q4 &&& (4611686018427387903 : Int64)) (0 : Int64) (-2 : Int64))).2)).2)).1)]
      refine eLLoad X19 hx (hb hby at_191) rfl rfl ?_
      refine eLCmp X19 hx (hb hby at_193) rfl ?_
      have K202_21 : ∀ (t20 : Int32) (T21 : State) (locs21 : List Loc), Stand p l e room_1 s m #[(.int p1), (.int p2), (.int p3), (.long q4), (.int p5)] below meth c T21 locs21 1 2 → Fr n0 locs21 → T21.heap = T18.heap → Ends p e below (PVW s 16 128 n0 (f0_202 t12 t16 t20)) T21 m 202 #[.val (.int p1), .val (.int p2), .val (.int p3), .val (.long q4), .second, .val (.int p5), .val (.int (fCh_0 p1)), .val (.int (fCh_0 p2)), .val (.int (fCh_0 p3)), .val (.long (q4 &&& (4611686018427387903 : Int64))), .second, .val (.long (((q4 &&& (4611686018427387903 : Int64)) + (1 : Int64)) + ((p5 &&& (3 : Int32)).toInt64))), .second, .val (.long (((((q4 &&& (4611686018427387903 : Int64)) + (1 : Int64)) + ((p5 &&& (3 : Int32)).toInt64)) + (1 : Int64)) + ((((p5.toUInt32 >>> ((2 : Int32) &&& 31).toUInt32).toInt32) &&& (3 : Int32)).toInt64))), .second, .val (.long (fEnds_0 (0 : Int32) (0 : Int32) (0 : Int64) (fCh_0 p1) (q4 &&& (4611686018427387903 : Int64)))), .second, .val (.long ((fEnds_0 (0 : Int32) (0 : Int32) (0 : Int64) (fCh_0 p1) (q4 &&& (4611686018427387903 : Int64))) + (fEnds_0 (1 : Int32) (fCh_0 p1) (q4 &&& (4611686018427387903 : Int64)) (fCh_0 p2) (((q4 &&& (4611686018427387903 : Int64)) + (1 : Int64)) + ((p5 &&& (3 : Int32)).toInt64))))), .second, .val (.long (((fEnds_0 (0 : Int32) (0 : Int32) (0 : Int64) (fCh_0 p1) (q4 &&& (4611686018427387903 : Int64))) + (fEnds_0 (1 : Int32) (fCh_0 p1) (q4 &&& (4611686018427387903 : Int64)) (fCh_0 p2) (((q4 &&& (4611686018427387903 : Int64)) + (1 : Int64)) + ((p5 &&& (3 : Int32)).toInt64)))) + (fEnds_0 (1 : Int32) (fCh_0 p2) (((q4 &&& (4611686018427387903 : Int64)) + (1 : Int64)) + ((p5 &&& (3 : Int32)).toInt64)) (fCh_0 p3) (((((q4 &&& (4611686018427387903 : Int64)) + (1 : Int64)) + ((p5 &&& (3 : Int32)).toInt64)) + (1 : Int64)) + ((((p5.toUInt32 >>> ((2 : Int32) &&& 31).toUInt32).toInt32) &&& (3 : Int32)).toInt64))))), .second, .val (.ref ad7), .val (.int (1 : Int32)), .val (.int t12), .val (.int t16), .unset] [(.int t20)] := by
        intro t20 T21 locs21 X21 N21 e21
        refine eIStore X21 hx (hb hby at_202) (L' := #[.val (.int p1), .val (.int p2), .val (.int p3), .val (.long q4), .second, .val (.int p5), .val (.int (fCh_0 p1)), .val (.int (fCh_0 p2)), .val (.int (fCh_0 p3)), .val (.long (q4 &&& (4611686018427387903 : Int64))), .second, .val (.long (((q4 &&& (4611686018427387903 : Int64)) + (1 : Int64)) + ((p5 &&& (3 : Int32)).toInt64))), .second, .val (.long (((((q4 &&& (4611686018427387903 : Int64)) + (1 : Int64)) + ((p5 &&& (3 : Int32)).toInt64)) + (1 : Int64)) + ((((p5.toUInt32 >>> ((2 : Int32) &&& 31).toUInt32).toInt32) &&& (3 : Int32)).toInt64))), .second, .val (.long (fEnds_0 (0 : Int32) (0 : Int32) (0 : Int64) (fCh_0 p1) (q4 &&& (4611686018427387903 : Int64)))), .second, .val (.long ((fEnds_0 (0 : Int32) (0 : Int32) (0 : Int64) (fCh_0 p1) (q4 &&& (4611686018427387903 : Int64))) + (fEnds_0 (1 : Int32) (fCh_0 p1) (q4 &&& (4611686018427387903 : Int64)) (fCh_0 p2) (((q4 &&& (4611686018427387903 : Int64)) + (1 : Int64)) + ((p5 &&& (3 : Int32)).toInt64))))), .second, .val (.long (((fEnds_0 (0 : Int32) (0 : Int32) (0 : Int64) (fCh_0 p1) (q4 &&& (4611686018427387903 : Int64))) + (fEnds_0 (1 : Int32) (fCh_0 p1) (q4 &&& (4611686018427387903 : Int64)) (fCh_0 p2) (((q4 &&& (4611686018427387903 : Int64)) + (1 : Int64)) + ((p5 &&& (3 : Int32)).toInt64)))) + (fEnds_0 (1 : Int32) (fCh_0 p2) (((q4 &&& (4611686018427387903 : Int64)) + (1 : Int64)) + ((p5 &&& (3 : Int32)).toInt64)) (fCh_0 p3) (((((q4 &&& (4611686018427387903 : Int64)) + (1 : Int64)) + ((p5 &&& (3 : Int32)).toInt64)) + (1 : Int64)) + ((((p5.toUInt32 >>> ((2 : Int32) &&& 31).toUInt32).toInt32) &&& (3 : Int32)).toInt64))))), .second, .val (.ref ad7), .val (.int (1 : Int32)), .val (.int t12), .val (.int t16), .val (.int t20)]) rfl rfl ?_
        refine eILoad X21 hx (hb hby at_204) rfl rfl ?_
        refine eIfN X21 hx (hb hby at_206) ((if0 _ _).trans (feq (by decide)).1) rfl ?_
        refine eILoad X21 hx (hb hby at_209) rfl rfl ?_
        show Ends p e below (PVW s 16 128 n0 (if t12 = (0 : Int32) then (0 : Int32) else (if t16 = (0 : Int32) then (0 : Int32) else (if t20 = (0 : Int32) then (0 : Int32) else (1 : Int32))))) T21 m 211 #[.val (.int p1), .val (.int p2), .val (.int p3), .val (.long q4), .second, .val (.int p5), .val (.int (fCh_0 p1)), .val (.int (fCh_0 p2)), .val (.int (fCh_0 p3)), .val (.long (q4 &&& (4611686018427387903 : Int64))), .second, .val (.long (((q4 &&& (4611686018427387903 : Int64)) + (1 : Int64)) + ((p5 &&& (3 : Int32)).toInt64))), .second, .val (.long (((((q4 &&& (4611686018427387903 : Int64)) + (1 : Int64)) + ((p5 &&& (3 : Int32)).toInt64)) + (1 : Int64)) + ((((p5.toUInt32 >>> ((2 : Int32) &&& 31).toUInt32).toInt32) &&& (3 : Int32)).toInt64))), .second, .val (.long (fEnds_0 (0 : Int32) (0 : Int32) (0 : Int64) (fCh_0 p1) (q4 &&& (4611686018427387903 : Int64)))), .second, .val (.long ((fEnds_0 (0 : Int32) (0 : Int32) (0 : Int64) (fCh_0 p1) (q4 &&& (4611686018427387903 : Int64))) + (fEnds_0 (1 : Int32) (fCh_0 p1) (q4 &&& (4611686018427387903 : Int64)) (fCh_0 p2) (((q4 &&& (4611686018427387903 : Int64)) + (1 : Int64)) + ((p5 &&& (3 : Int32)).toInt64))))), .second, .val (.long (((fEnds_0 (0 : Int32) (0 : Int32) (0 : Int64) (fCh_0 p1) (q4 &&& (4611686018427387903 : Int64))) + (fEnds_0 (1 : Int32) (fCh_0 p1) (q4 &&& (4611686018427387903 : Int64)) (fCh_0 p2) (((q4 &&& (4611686018427387903 : Int64)) + (1 : Int64)) + ((p5 &&& (3 : Int32)).toInt64)))) + (fEnds_0 (1 : Int32) (fCh_0 p2) (((q4 &&& (4611686018427387903 : Int64)) + (1 : Int64)) + ((p5 &&& (3 : Int32)).toInt64)) (fCh_0 p3) (((((q4 &&& (4611686018427387903 : Int64)) + (1 : Int64)) + ((p5 &&& (3 : Int32)).toInt64)) + (1 : Int64)) + ((((p5.toUInt32 >>> ((2 : Int32) &&& 31).toUInt32).toInt32) &&& (3 : Int32)).toInt64))))), .second, .val (.ref ad7), .val (.int (1 : Int32)), .val (.int t12), .val (.int t16), .val (.int t20)] [(.int t12)]
        by_cases c22 : t12 = (0 : Int32)
        · rw [if_pos c22]
          refine eIfY X21 hx (hb hby at_211) ((if0 _ _).trans (teq c22).1) (by decide) (pc' := 228) rfl ?_
          refine eIConst X21 hx (0 : Int32) (hb hby at_228) rfl rfl ?_
          exact eRetN X21 hx (t := .boolean) Bd.returns (by simp) hlk (hb hby at_229) (by decide) (by decide) ⟨rfl, N21⟩
        · rw [if_neg c22]
          refine eIfN X21 hx (hb hby at_211) ((if0 _ _).trans (feq c22).1) rfl ?_
          refine eILoad X21 hx (hb hby at_214) rfl rfl ?_
          show Ends p e below (PVW s 16 128 n0 (if t16 = (0 : Int32) then (0 : Int32) else (if t20 = (0 : Int32) then (0 : Int32) else (1 : Int32)))) T21 m 216 #[.val (.int p1), .val (.int p2), .val (.int p3), .val (.long q4), .second, .val (.int p5), .val (.int (fCh_0 p1)), .val (.int (fCh_0 p2)), .val (.int (fCh_0 p3)), .val (.long (q4 &&& (4611686018427387903 : Int64))), .second, .val (.long (((q4 &&& (4611686018427387903 : Int64)) + (1 : Int64)) + ((p5 &&& (3 : Int32)).toInt64))), .second, .val (.long (((((q4 &&& (4611686018427387903 : Int64)) + (1 : Int64)) + ((p5 &&& (3 : Int32)).toInt64)) + (1 : Int64)) + ((((p5.toUInt32 >>> ((2 : Int32) &&& 31).toUInt32).toInt32) &&& (3 : Int32)).toInt64))), .second, .val (.long (fEnds_0 (0 : Int32) (0 : Int32) (0 : Int64) (fCh_0 p1) (q4 &&& (4611686018427387903 : Int64)))), .second, .val (.long ((fEnds_0 (0 : Int32) (0 : Int32) (0 : Int64) (fCh_0 p1) (q4 &&& (4611686018427387903 : Int64))) + (fEnds_0 (1 : Int32) (fCh_0 p1) (q4 &&& (4611686018427387903 : Int64)) (fCh_0 p2) (((q4 &&& (4611686018427387903 : Int64)) + (1 : Int64)) + ((p5 &&& (3 : Int32)).toInt64))))), .second, .val (.long (((fEnds_0 (0 : Int32) (0 : Int32) (0 : Int64) (fCh_0 p1) (q4 &&& (4611686018427387903 : Int64))) + (fEnds_0 (1 : Int32) (fCh_0 p1) (q4 &&& (4611686018427387903 : Int64)) (fCh_0 p2) (((q4 &&& (4611686018427387903 : Int64)) + (1 : Int64)) + ((p5 &&& (3 : Int32)).toInt64)))) + (fEnds_0 (1 : Int32) (fCh_0 p2) (((q4 &&& (4611686018427387903 : Int64)) + (1 : Int64)) + ((p5 &&& (3 : Int32)).toInt64)) (fCh_0 p3) (((((q4 &&& (4611686018427387903 : Int64)) + (1 : Int64)) + ((p5 &&& (3 : Int32)).toInt64)) + (1 : Int64)) + ((((p5.toUInt32 >>> ((2 : Int32) &&& 31).toUInt32).toInt32) &&& (3 : Int32)).toInt64))))), .second, .val (.ref ad7), .val (.int (1 : Int32)), .val (.int t12), .val (.int t16), .val (.int t20)] [(.int t16)]
          by_cases c23 : t16 = (0 : Int32)
          · rw [if_pos c23]
            refine eIfY X21 hx (hb hby at_216) ((if0 _ _).trans (teq c23).1) (by decide) (pc' := 228) rfl ?_
            refine eIConst X21 hx (0 : Int32) (hb hby at_228) rfl rfl ?_
            exact eRetN X21 hx (t := .boolean) Bd.returns (by simp) hlk (hb hby at_229) (by decide) (by decide) ⟨rfl, N21⟩
          · rw [if_neg c23]
            refine eIfN X21 hx (hb hby at_216) ((if0 _ _).trans (feq c23).1) rfl ?_
            refine eILoad X21 hx (hb hby at_219) rfl rfl ?_
            show Ends p e below (PVW s 16 128 n0 (if t20 = (0 : Int32) then (0 : Int32) else (1 : Int32))) T21 m 221 #[.val (.int p1), .val (.int p2), .val (.int p3), .val (.long q4), .second, .val (.int p5), .val (.int (fCh_0 p1)), .val (.int (fCh_0 p2)), .val (.int (fCh_0 p3)), .val (.long (q4 &&& (4611686018427387903 : Int64))), .second, .val (.long (((q4 &&& (4611686018427387903 : Int64)) + (1 : Int64)) + ((p5 &&& (3 : Int32)).toInt64))), .second, .val (.long (((((q4 &&& (4611686018427387903 : Int64)) + (1 : Int64)) + ((p5 &&& (3 : Int32)).toInt64)) + (1 : Int64)) + ((((p5.toUInt32 >>> ((2 : Int32) &&& 31).toUInt32).toInt32) &&& (3 : Int32)).toInt64))), .second, .val (.long (fEnds_0 (0 : Int32) (0 : Int32) (0 : Int64) (fCh_0 p1) (q4 &&& (4611686018427387903 : Int64)))), .second, .val (.long ((fEnds_0 (0 : Int32) (0 : Int32) (0 : Int64) (fCh_0 p1) (q4 &&& (4611686018427387903 : Int64))) + (fEnds_0 (1 : Int32) (fCh_0 p1) (q4 &&& (4611686018427387903 : Int64)) (fCh_0 p2) (((q4 &&& (4611686018427387903 : Int64)) + (1 : Int64)) + ((p5 &&& (3 : Int32)).toInt64))))), .second, .val (.long (((fEnds_0 (0 : Int32) (0 : Int32) (0 : Int64) (fCh_0 p1) (q4 &&& (4611686018427387903 : Int64))) + (fEnds_0 (1 : Int32) (fCh_0 p1) (q4 &&& (4611686018427387903 : Int64)) (fCh_0 p2) (((q4 &&& (4611686018427387903 : Int64)) + (1 : Int64)) + ((p5 &&& (3 : Int32)).toInt64)))) + (fEnds_0 (1 : Int32) (fCh_0 p2) (((q4 &&& (4611686018427387903 : Int64)) + (1 : Int64)) + ((p5 &&& (3 : Int32)).toInt64)) (fCh_0 p3) (((((q4 &&& (4611686018427387903 : Int64)) + (1 : Int64)) + ((p5 &&& (3 : Int32)).toInt64)) + (1 : Int64)) + ((((p5.toUInt32 >>> ((2 : Int32) &&& 31).toUInt32).toInt32) &&& (3 : Int32)).toInt64))))), .second, .val (.ref ad7), .val (.int (1 : Int32)), .val (.int t12), .val (.int t16), .val (.int t20)] [(.int t20)]
            by_cases c24 : t20 = (0 : Int32)
            · rw [if_pos c24]
              refine eIfY X21 hx (hb hby at_221) ((if0 _ _).trans (teq c24).1) (by decide) (pc' := 228) rfl ?_
              refine eIConst X21 hx (0 : Int32) (hb hby at_228) rfl rfl ?_
              exact eRetN X21 hx (t := .boolean) Bd.returns (by simp) hlk (hb hby at_229) (by decide) (by decide) ⟨rfl, N21⟩
            · rw [if_neg c24]
              refine eIfN X21 hx (hb hby at_221) ((if0 _ _).trans (feq c24).1) rfl ?_
              refine eIConst X21 hx (1 : Int32) (hb hby at_224) rfl rfl ?_
              refine eGoto X21 hx (hb hby at_225) (by decide) (pc' := 229) rfl ?_
              exact eRetN X21 hx (t := .boolean) Bd.returns (by simp) hlk (hb hby at_229) (by decide) (by decide) ⟨rfl, N21⟩
      show Ends p e below (PVW s 16 128 n0 (if ((fNote_0 (fCh_0 p3) (((((q4 &&& (4611686018427387903 : Int64)) + (1 : Int64)) + ((p5 &&& (3 : Int32)).toInt64)) + (1 : Int64)) + ((((p5.toUInt32 >>> ((2 : Int32) &&& 31).toUInt32).toInt32) &&& (3 : Int32)).toInt64)) ((fNote_0 (fCh_0 p2) (((q4 &&& (4611686018427387903 : Int64)) + (1 : Int64)) + ((p5 &&& (3 : Int32)).toInt64)) ((fNote_0 (fCh_0 p1) (q4 &&& (4611686018427387903 : Int64)) (0 : Int64) (-2 : Int64))).1 ((fNote_0 (fCh_0 p1) (q4 &&& (4611686018427387903 : Int64)) (0 : Int64) (-2 : Int64))).2)).1 ((fNote_0 (fCh_0 p2) (((q4 &&& (4611686018427387903 : Int64)) + (1 : Int64)) + ((p5 &&& (3 : Int32)).toInt64)) ((fNote_0 (fCh_0 p1) (q4 &&& (4611686018427387903 : Int64)) (0 : Int64) (-2 : Int64))).1 ((fNote_0 (fCh_0 p1) (q4 &&& (4611686018427387903 : Int64)) (0 : Int64) (-2 : Int64))).2)).2)).1 = (((fEnds_0 (0 : Int32) (0 : Int32) (0 : Int64) (fCh_0 p1) (q4 &&& (4611686018427387903 : Int64))) + (fEnds_0 (1 : Int32) (fCh_0 p1) (q4 &&& (4611686018427387903 : Int64)) (fCh_0 p2) (((q4 &&& (4611686018427387903 : Int64)) + (1 : Int64)) + ((p5 &&& (3 : Int32)).toInt64)))) + (fEnds_0 (1 : Int32) (fCh_0 p2) (((q4 &&& (4611686018427387903 : Int64)) + (1 : Int64)) + ((p5 &&& (3 : Int32)).toInt64)) (fCh_0 p3) (((((q4 &&& (4611686018427387903 : Int64)) + (1 : Int64)) + ((p5 &&& (3 : Int32)).toInt64)) + (1 : Int64)) + ((((p5.toUInt32 >>> ((2 : Int32) &&& 31).toUInt32).toInt32) &&& (3 : Int32)).toInt64)))) then (f0_202 t12 t16 (1 : Int32)) else (f0_202 t12 t16 (0 : Int32)))) T19 m 194 #[.val (.int p1), .val (.int p2), .val (.int p3), .val (.long q4), .second, .val (.int p5), .val (.int (fCh_0 p1)), .val (.int (fCh_0 p2)), .val (.int (fCh_0 p3)), .val (.long (q4 &&& (4611686018427387903 : Int64))), .second, .val (.long (((q4 &&& (4611686018427387903 : Int64)) + (1 : Int64)) + ((p5 &&& (3 : Int32)).toInt64))), .second, .val (.long (((((q4 &&& (4611686018427387903 : Int64)) + (1 : Int64)) + ((p5 &&& (3 : Int32)).toInt64)) + (1 : Int64)) + ((((p5.toUInt32 >>> ((2 : Int32) &&& 31).toUInt32).toInt32) &&& (3 : Int32)).toInt64))), .second, .val (.long (fEnds_0 (0 : Int32) (0 : Int32) (0 : Int64) (fCh_0 p1) (q4 &&& (4611686018427387903 : Int64)))), .second, .val (.long ((fEnds_0 (0 : Int32) (0 : Int32) (0 : Int64) (fCh_0 p1) (q4 &&& (4611686018427387903 : Int64))) + (fEnds_0 (1 : Int32) (fCh_0 p1) (q4 &&& (4611686018427387903 : Int64)) (fCh_0 p2) (((q4 &&& (4611686018427387903 : Int64)) + (1 : Int64)) + ((p5 &&& (3 : Int32)).toInt64))))), .second, .val (.long (((fEnds_0 (0 : Int32) (0 : Int32) (0 : Int64) (fCh_0 p1) (q4 &&& (4611686018427387903 : Int64))) + (fEnds_0 (1 : Int32) (fCh_0 p1) (q4 &&& (4611686018427387903 : Int64)) (fCh_0 p2) (((q4 &&& (4611686018427387903 : Int64)) + (1 : Int64)) + ((p5 &&& (3 : Int32)).toInt64)))) + (fEnds_0 (1 : Int32) (fCh_0 p2) (((q4 &&& (4611686018427387903 : Int64)) + (1 : Int64)) + ((p5 &&& (3 : Int32)).toInt64)) (fCh_0 p3) (((((q4 &&& (4611686018427387903 : Int64)) + (1 : Int64)) + ((p5 &&& (3 : Int32)).toInt64)) + (1 : Int64)) + ((((p5.toUInt32 >>> ((2 : Int32) &&& 31).toUInt32).toInt32) &&& (3 : Int32)).toInt64))))), .second, .val (.ref ad7), .val (.int (1 : Int32)), .val (.int t12), .val (.int t16), .unset] [(.int (XT.cmpL ((fNote_0 (fCh_0 p3) (((((q4 &&& (4611686018427387903 : Int64)) + (1 : Int64)) + ((p5 &&& (3 : Int32)).toInt64)) + (1 : Int64)) + ((((p5.toUInt32 >>> ((2 : Int32) &&& 31).toUInt32).toInt32) &&& (3 : Int32)).toInt64)) ((fNote_0 (fCh_0 p2) (((q4 &&& (4611686018427387903 : Int64)) + (1 : Int64)) + ((p5 &&& (3 : Int32)).toInt64)) ((fNote_0 (fCh_0 p1) (q4 &&& (4611686018427387903 : Int64)) (0 : Int64) (-2 : Int64))).1 ((fNote_0 (fCh_0 p1) (q4 &&& (4611686018427387903 : Int64)) (0 : Int64) (-2 : Int64))).2)).1 ((fNote_0 (fCh_0 p2) (((q4 &&& (4611686018427387903 : Int64)) + (1 : Int64)) + ((p5 &&& (3 : Int32)).toInt64)) ((fNote_0 (fCh_0 p1) (q4 &&& (4611686018427387903 : Int64)) (0 : Int64) (-2 : Int64))).1 ((fNote_0 (fCh_0 p1) (q4 &&& (4611686018427387903 : Int64)) (0 : Int64) (-2 : Int64))).2)).2)).1 (((fEnds_0 (0 : Int32) (0 : Int32) (0 : Int64) (fCh_0 p1) (q4 &&& (4611686018427387903 : Int64))) + (fEnds_0 (1 : Int32) (fCh_0 p1) (q4 &&& (4611686018427387903 : Int64)) (fCh_0 p2) (((q4 &&& (4611686018427387903 : Int64)) + (1 : Int64)) + ((p5 &&& (3 : Int32)).toInt64)))) + (fEnds_0 (1 : Int32) (fCh_0 p2) (((q4 &&& (4611686018427387903 : Int64)) + (1 : Int64)) + ((p5 &&& (3 : Int32)).toInt64)) (fCh_0 p3) (((((q4 &&& (4611686018427387903 : Int64)) + (1 : Int64)) + ((p5 &&& (3 : Int32)).toInt64)) + (1 : Int64)) + ((((p5.toUInt32 >>> ((2 : Int32) &&& 31).toUInt32).toInt32) &&& (3 : Int32)).toInt64))))))]
      by_cases c25 : ((fNote_0 (fCh_0 p3) (((((q4 &&& (4611686018427387903 : Int64)) + (1 : Int64)) + ((p5 &&& (3 : Int32)).toInt64)) + (1 : Int64)) + ((((p5.toUInt32 >>> ((2 : Int32) &&& 31).toUInt32).toInt32) &&& (3 : Int32)).toInt64)) ((fNote_0 (fCh_0 p2) (((q4 &&& (4611686018427387903 : Int64)) + (1 : Int64)) + ((p5 &&& (3 : Int32)).toInt64)) ((fNote_0 (fCh_0 p1) (q4 &&& (4611686018427387903 : Int64)) (0 : Int64) (-2 : Int64))).1 ((fNote_0 (fCh_0 p1) (q4 &&& (4611686018427387903 : Int64)) (0 : Int64) (-2 : Int64))).2)).1 ((fNote_0 (fCh_0 p2) (((q4 &&& (4611686018427387903 : Int64)) + (1 : Int64)) + ((p5 &&& (3 : Int32)).toInt64)) ((fNote_0 (fCh_0 p1) (q4 &&& (4611686018427387903 : Int64)) (0 : Int64) (-2 : Int64))).1 ((fNote_0 (fCh_0 p1) (q4 &&& (4611686018427387903 : Int64)) (0 : Int64) (-2 : Int64))).2)).2)).1 = (((fEnds_0 (0 : Int32) (0 : Int32) (0 : Int64) (fCh_0 p1) (q4 &&& (4611686018427387903 : Int64))) + (fEnds_0 (1 : Int32) (fCh_0 p1) (q4 &&& (4611686018427387903 : Int64)) (fCh_0 p2) (((q4 &&& (4611686018427387903 : Int64)) + (1 : Int64)) + ((p5 &&& (3 : Int32)).toInt64)))) + (fEnds_0 (1 : Int32) (fCh_0 p2) (((q4 &&& (4611686018427387903 : Int64)) + (1 : Int64)) + ((p5 &&& (3 : Int32)).toInt64)) (fCh_0 p3) (((((q4 &&& (4611686018427387903 : Int64)) + (1 : Int64)) + ((p5 &&& (3 : Int32)).toInt64)) + (1 : Int64)) + ((((p5.toUInt32 >>> ((2 : Int32) &&& 31).toUInt32).toInt32) &&& (3 : Int32)).toInt64))))
      · rw [if_pos c25]
        refine eIfN X19 hx (hb hby at_194) (XT.ll_ne_f c25) rfl ?_
        refine eIConst X19 hx (1 : Int32) (hb hby at_197) rfl rfl ?_
        refine eGoto X19 hx (hb hby at_198) (by decide) (pc' := 202) rfl ?_
        exact K202_21 (1 : Int32) T19 _ X19 N19 e19
      · rw [if_neg c25]
        refine eIfY X19 hx (hb hby at_194) (XT.ll_ne_t c25) (by decide) (pc' := 201) rfl ?_
        refine eIConst X19 hx (0 : Int32) (hb hby at_201) rfl rfl ?_
        exact K202_21 (0 : Int32) T19 _ X19 N19 e19
    show Ends p e below (PVW s 16 128 n0 (if ((fNote_0 (fCh_0 p2) (((q4 &&& (4611686018427387903 : Int64)) + (1 : Int64)) + ((p5 &&& (3 : Int32)).toInt64)) ((fNote_0 (fCh_0 p1) (q4 &&& (4611686018427387903 : Int64)) (0 : Int64) (-2 : Int64))).1 ((fNote_0 (fCh_0 p1) (q4 &&& (4611686018427387903 : Int64)) (0 : Int64) (-2 : Int64))).2)).1 = ((fEnds_0 (0 : Int32) (0 : Int32) (0 : Int64) (fCh_0 p1) (q4 &&& (4611686018427387903 : Int64))) + (fEnds_0 (1 : Int32) (fCh_0 p1) (q4 &&& (4611686018427387903 : Int64)) (fCh_0 p2) (((q4 &&& (4611686018427387903 : Int64)) + (1 : Int64)) + ((p5 &&& (3 : Int32)).toInt64)))) then (f0_175 p1 p2 p3 q4 p5 t12 (1 : Int32)) else (f0_175 p1 p2 p3 q4 p5 t12 (0 : Int32)))) T15 m 167 #[.val (.int p1), .val (.int p2), .val (.int p3), .val (.long q4), .second, .val (.int p5), .val (.int (fCh_0 p1)), .val (.int (fCh_0 p2)), .val (.int (fCh_0 p3)), .val (.long (q4 &&& (4611686018427387903 : Int64))), .second, .val (.long (((q4 &&& (4611686018427387903 : Int64)) + (1 : Int64)) + ((p5 &&& (3 : Int32)).toInt64))), .second, .val (.long (((((q4 &&& (4611686018427387903 : Int64)) + (1 : Int64)) + ((p5 &&& (3 : Int32)).toInt64)) + (1 : Int64)) + ((((p5.toUInt32 >>> ((2 : Int32) &&& 31).toUInt32).toInt32) &&& (3 : Int32)).toInt64))), .second, .val (.long (fEnds_0 (0 : Int32) (0 : Int32) (0 : Int64) (fCh_0 p1) (q4 &&& (4611686018427387903 : Int64)))), .second, .val (.long ((fEnds_0 (0 : Int32) (0 : Int32) (0 : Int64) (fCh_0 p1) (q4 &&& (4611686018427387903 : Int64))) + (fEnds_0 (1 : Int32) (fCh_0 p1) (q4 &&& (4611686018427387903 : Int64)) (fCh_0 p2) (((q4 &&& (4611686018427387903 : Int64)) + (1 : Int64)) + ((p5 &&& (3 : Int32)).toInt64))))), .second, .val (.long (((fEnds_0 (0 : Int32) (0 : Int32) (0 : Int64) (fCh_0 p1) (q4 &&& (4611686018427387903 : Int64))) + (fEnds_0 (1 : Int32) (fCh_0 p1) (q4 &&& (4611686018427387903 : Int64)) (fCh_0 p2) (((q4 &&& (4611686018427387903 : Int64)) + (1 : Int64)) + ((p5 &&& (3 : Int32)).toInt64)))) + (fEnds_0 (1 : Int32) (fCh_0 p2) (((q4 &&& (4611686018427387903 : Int64)) + (1 : Int64)) + ((p5 &&& (3 : Int32)).toInt64)) (fCh_0 p3) (((((q4 &&& (4611686018427387903 : Int64)) + (1 : Int64)) + ((p5 &&& (3 : Int32)).toInt64)) + (1 : Int64)) + ((((p5.toUInt32 >>> ((2 : Int32) &&& 31).toUInt32).toInt32) &&& (3 : Int32)).toInt64))))), .second, .val (.ref ad7), .val (.int (1 : Int32)), .val (.int t12), .unset, .unset] [(.int (XT.cmpL ((fNote_0 (fCh_0 p2) (((q4 &&& (4611686018427387903 : Int64)) + (1 : Int64)) + ((p5 &&& (3 : Int32)).toInt64)) ((fNote_0 (fCh_0 p1) (q4 &&& (4611686018427387903 : Int64)) (0 : Int64) (-2 : Int64))).1 ((fNote_0 (fCh_0 p1) (q4 &&& (4611686018427387903 : Int64)) (0 : Int64) (-2 : Int64))).2)).1 ((fEnds_0 (0 : Int32) (0 : Int32) (0 : Int64) (fCh_0 p1) (q4 &&& (4611686018427387903 : Int64))) + (fEnds_0 (1 : Int32) (fCh_0 p1) (q4 &&& (4611686018427387903 : Int64)) (fCh_0 p2) (((q4 &&& (4611686018427387903 : Int64)) + (1 : Int64)) + ((p5 &&& (3 : Int32)).toInt64))))))]
    by_cases c26 : ((fNote_0 (fCh_0 p2) (((q4 &&& (4611686018427387903 : Int64)) + (1 : Int64)) + ((p5 &&& (3 : Int32)).toInt64)) ((fNote_0 (fCh_0 p1) (q4 &&& (4611686018427387903 : Int64)) (0 : Int64) (-2 : Int64))).1 ((fNote_0 (fCh_0 p1) (q4 &&& (4611686018427387903 : Int64)) (0 : Int64) (-2 : Int64))).2)).1 = ((fEnds_0 (0 : Int32) (0 : Int32) (0 : Int64) (fCh_0 p1) (q4 &&& (4611686018427387903 : Int64))) + (fEnds_0 (1 : Int32) (fCh_0 p1) (q4 &&& (4611686018427387903 : Int64)) (fCh_0 p2) (((q4 &&& (4611686018427387903 : Int64)) + (1 : Int64)) + ((p5 &&& (3 : Int32)).toInt64))))
    · rw [if_pos c26]
      refine eIfN X15 hx (hb hby at_167) (XT.ll_ne_f c26) rfl ?_
      refine eIConst X15 hx (1 : Int32) (hb hby at_170) rfl rfl ?_
      refine eGoto X15 hx (hb hby at_171) (by decide) (pc' := 175) rfl ?_
      exact K175_17 (1 : Int32) T15 _ X15 N15 e15
    · rw [if_neg c26]
      refine eIfY X15 hx (hb hby at_167) (XT.ll_ne_t c26) (by decide) (pc' := 174) rfl ?_
      refine eIConst X15 hx (0 : Int32) (hb hby at_174) rfl rfl ?_
      exact K175_17 (0 : Int32) T15 _ X15 N15 e15
  show Ends p e below (PVW s 16 128 n0 (if ((fNote_0 (fCh_0 p1) (q4 &&& (4611686018427387903 : Int64)) (0 : Int64) (-2 : Int64))).1 = (fEnds_0 (0 : Int32) (0 : Int32) (0 : Int64) (fCh_0 p1) (q4 &&& (4611686018427387903 : Int64))) then (f0_148 p1 p2 p3 q4 p5 (1 : Int32)) else (f0_148 p1 p2 p3 q4 p5 (0 : Int32)))) T11 m 140 #[.val (.int p1), .val (.int p2), .val (.int p3), .val (.long q4), .second, .val (.int p5), .val (.int (fCh_0 p1)), .val (.int (fCh_0 p2)), .val (.int (fCh_0 p3)), .val (.long (q4 &&& (4611686018427387903 : Int64))), .second, .val (.long (((q4 &&& (4611686018427387903 : Int64)) + (1 : Int64)) + ((p5 &&& (3 : Int32)).toInt64))), .second, .val (.long (((((q4 &&& (4611686018427387903 : Int64)) + (1 : Int64)) + ((p5 &&& (3 : Int32)).toInt64)) + (1 : Int64)) + ((((p5.toUInt32 >>> ((2 : Int32) &&& 31).toUInt32).toInt32) &&& (3 : Int32)).toInt64))), .second, .val (.long (fEnds_0 (0 : Int32) (0 : Int32) (0 : Int64) (fCh_0 p1) (q4 &&& (4611686018427387903 : Int64)))), .second, .val (.long ((fEnds_0 (0 : Int32) (0 : Int32) (0 : Int64) (fCh_0 p1) (q4 &&& (4611686018427387903 : Int64))) + (fEnds_0 (1 : Int32) (fCh_0 p1) (q4 &&& (4611686018427387903 : Int64)) (fCh_0 p2) (((q4 &&& (4611686018427387903 : Int64)) + (1 : Int64)) + ((p5 &&& (3 : Int32)).toInt64))))), .second, .val (.long (((fEnds_0 (0 : Int32) (0 : Int32) (0 : Int64) (fCh_0 p1) (q4 &&& (4611686018427387903 : Int64))) + (fEnds_0 (1 : Int32) (fCh_0 p1) (q4 &&& (4611686018427387903 : Int64)) (fCh_0 p2) (((q4 &&& (4611686018427387903 : Int64)) + (1 : Int64)) + ((p5 &&& (3 : Int32)).toInt64)))) + (fEnds_0 (1 : Int32) (fCh_0 p2) (((q4 &&& (4611686018427387903 : Int64)) + (1 : Int64)) + ((p5 &&& (3 : Int32)).toInt64)) (fCh_0 p3) (((((q4 &&& (4611686018427387903 : Int64)) + (1 : Int64)) + ((p5 &&& (3 : Int32)).toInt64)) + (1 : Int64)) + ((((p5.toUInt32 >>> ((2 : Int32) &&& 31).toUInt32).toInt32) &&& (3 : Int32)).toInt64))))), .second, .val (.ref ad7), .val (.int (1 : Int32)), .unset, .unset, .unset] [(.int (XT.cmpL ((fNote_0 (fCh_0 p1) (q4 &&& (4611686018427387903 : Int64)) (0 : Int64) (-2 : Int64))).1 (fEnds_0 (0 : Int32) (0 : Int32) (0 : Int64) (fCh_0 p1) (q4 &&& (4611686018427387903 : Int64)))))]
  by_cases c27 : ((fNote_0 (fCh_0 p1) (q4 &&& (4611686018427387903 : Int64)) (0 : Int64) (-2 : Int64))).1 = (fEnds_0 (0 : Int32) (0 : Int32) (0 : Int64) (fCh_0 p1) (q4 &&& (4611686018427387903 : Int64)))
  · rw [if_pos c27]
    refine eIfN X11 hx (hb hby at_140) (XT.ll_ne_f c27) rfl ?_
    refine eIConst X11 hx (1 : Int32) (hb hby at_143) rfl rfl ?_
    refine eGoto X11 hx (hb hby at_144) (by decide) (pc' := 148) rfl ?_
    exact K148_13 (1 : Int32) T11 _ X11 N11 e11
  · rw [if_neg c27]
    refine eIfY X11 hx (hb hby at_140) (XT.ll_ne_t c27) (by decide) (pc' := 147) rfl ?_
    refine eIConst X11 hx (0 : Int32) (hb hby at_147) rfl rfl ?_
    exact K148_13 (0 : Int32) T11 _ X11 N11 e11
theorem own_n1 (x : Int32) (o : Int64) (ho : 0 ≤ o.toInt) : fNote_0 x o 0 (-2) = (fEnds_0 0 0 0 x o, if x = 13 then o else -2) := by
  have s := c_lsub o 1
  have r := rng64 (o - 1)
  have r2 := rng64 o
  have ne : ¬ ((-2 : Int64) = o - 1) := by
    intro h
    have := congrArg Int64.toInt h
    simp only [Int64.reduceToInt] at *
    omega
  unfold fNote_0 fEnds_0
  rw [if_neg ne]
  by_cases h1 : x = 13
  · simp only [h1, if_true]; rfl
  · by_cases h2 : x = 10
    · simp only [h2, if_true]; rfl
    · simp only [h1, h2, if_false]
theorem own_n2 (x px : Int32) (o po w l : Int64) (h : l = o - 1 ↔ (px = 13 ∧ po + 1 = o)) : fNote_0 x o w l = (w + fEnds_0 1 px po x o, if x = 13 then o else l) := by
  unfold fNote_0 fEnds_0
  by_cases h1 : x = 13
  · simp only [h1, if_true]
  · by_cases h2 : x = 10
    · by_cases h3 : l = o - 1
      · obtain ⟨h4, h5⟩ := h.mp h3
        simp only [h2, h4, h5, if_true, if_neg (show ¬ ((10 : Int32) = 13) by decide), if_neg (show ¬ ((1 : Int32) = 0) by decide), if_pos h3, Int64.add_zero]
      · by_cases h4 : px = 13
        · have h5 : ¬ po + 1 = o := fun q => h3 (h.mpr ⟨h4, q⟩)
          simp only [h2, h4, h5, if_true, if_false, if_neg (show ¬ ((10 : Int32) = 13) by decide), if_neg (show ¬ ((1 : Int32) = 0) by decide), if_neg h3]
        · simp only [h2, h4, if_true, if_false, if_neg (show ¬ ((10 : Int32) = 13) by decide), if_neg (show ¬ ((1 : Int32) = 0) by decide), if_neg h3]
    · simp only [h1, h2, if_false, Int64.add_zero]
theorem own_core (x0 x1 x2 : Int32) (o0 o1 o2 : Int64) (h0 : 0 ≤ o0.toInt) (h1 : o0.toInt < o1.toInt) (h2 : o1.toInt < o2.toInt) :
    (fNote_0 x0 o0 0 (-2)).1 = fEnds_0 0 0 0 x0 o0 ∧
    (fNote_0 x1 o1 (fNote_0 x0 o0 0 (-2)).1 (fNote_0 x0 o0 0 (-2)).2).1 = fEnds_0 0 0 0 x0 o0 + fEnds_0 1 x0 o0 x1 o1 ∧
    (fNote_0 x2 o2 (fNote_0 x1 o1 (fNote_0 x0 o0 0 (-2)).1 (fNote_0 x0 o0 0 (-2)).2).1 (fNote_0 x1 o1 (fNote_0 x0 o0 0 (-2)).1 (fNote_0 x0 o0 0 (-2)).2).2).1 = fEnds_0 0 0 0 x0 o0 + fEnds_0 1 x0 o0 x1 o1 + fEnds_0 1 x1 o1 x2 o2 := by
  have ra := rng64 o0
  have rb := rng64 o1
  have rc := rng64 o2
  have s1 := c_lsub o1 1
  have s2 := c_lsub o2 1
  have t1 := rng64 (o1 - 1)
  have t2 := rng64 (o2 - 1)
  have u1 := c_ladd o0 1
  have u2 := c_ladd o1 1
  have v1 := rng64 (o0 + 1)
  have v2 := rng64 (o1 + 1)
  have a1 : (if x0 = 13 then o0 else -2) = o1 - 1 ↔ (x0 = 13 ∧ o0 + 1 = o1) := by
    simp only [← Int64.toInt_inj] at *
    split <;> rename_i q
    · simp only [q, true_and, Int64.reduceToInt] at *; omega
    · simp only [q, false_and, Int64.reduceToInt, iff_false] at *; omega
  have a2 : (if x1 = 13 then o1 else (if x0 = 13 then o0 else -2)) = o2 - 1 ↔ (x1 = 13 ∧ o1 + 1 = o2) := by
    simp only [← Int64.toInt_inj] at *
    split <;> rename_i q
    · simp only [q, true_and, Int64.reduceToInt] at *; omega
    · split <;> simp only [q, false_and, Int64.reduceToInt, iff_false] at * <;> omega
  have e1 := own_n1 x0 o0 h0
  have e2 := own_n2 x1 x0 o1 o0 (fEnds_0 0 0 0 x0 o0) _ a1
  have e3 := own_n2 x2 x1 o2 o1 (fEnds_0 0 0 0 x0 o0 + fEnds_0 1 x0 o0 x1 o1) _ a2
  rw [e1]
  refine ⟨rfl, ?_, ?_⟩
  · show (fNote_0 x1 o1 (fEnds_0 0 0 0 x0 o0) (if x0 = 13 then o0 else -2)).1 = _
    rw [e2]
  · show (fNote_0 x2 o2 (fNote_0 x1 o1 (fEnds_0 0 0 0 x0 o0) (if x0 = 13 then o0 else -2)).1 (fNote_0 x1 o1 (fEnds_0 0 0 0 x0 o0) (if x0 = 13 then o0 else -2)).2).1 = _
    rw [e2]
    show (fNote_0 x2 o2 (fEnds_0 0 0 0 x0 o0 + fEnds_0 1 x0 o0 x1 o1) (if x1 = 13 then o1 else (if x0 = 13 then o0 else -2))).1 = _
    rw [e3]
theorem law_eq (p1 p2 p3 : Int32) (q4 : Int64) (p5 : Int32) : f0_0 p1 p2 p3 q4 p5 = 1 := by
  have hm := c_maskL q4 4611686018427387903 62 (by decide) (by decide)
  have g1 := c_mask p5 3 2 (by decide) (by decide)
  have g2 := c_mask ((p5.toUInt32 >>> ((2 : Int32) &&& 31).toUInt32).toInt32) 3 2 (by decide) (by decide)
  have l1 := c_i2l (p5 &&& 3)
  have l2 := c_i2l (((p5.toUInt32 >>> ((2 : Int32) &&& 31).toUInt32).toInt32) &&& 3)
  have a1 := c_ladd (q4 &&& 4611686018427387903) 1
  have a2 := c_ladd ((q4 &&& 4611686018427387903) + 1) ((p5 &&& 3).toInt64)
  have a3 := c_ladd ((q4 &&& 4611686018427387903) + 1 + ((p5 &&& 3).toInt64)) 1
  have a4 := c_ladd ((q4 &&& 4611686018427387903) + 1 + ((p5 &&& 3).toInt64) + 1) ((((p5.toUInt32 >>> ((2 : Int32) &&& 31).toUInt32).toInt32) &&& 3).toInt64)
  have r1 := rng64 ((q4 &&& 4611686018427387903) + 1)
  have r2 := rng64 ((q4 &&& 4611686018427387903) + 1 + ((p5 &&& 3).toInt64))
  have r3 := rng64 ((q4 &&& 4611686018427387903) + 1 + ((p5 &&& 3).toInt64) + 1)
  have r4 := rng64 ((q4 &&& 4611686018427387903) + 1 + ((p5 &&& 3).toInt64) + 1 + ((((p5.toUInt32 >>> ((2 : Int32) &&& 31).toUInt32).toInt32) &&& 3).toInt64))
  simp only [Int64.reduceToInt] at *
  obtain ⟨e1, e2, e3⟩ := own_core (fCh_0 p1) (fCh_0 p2) (fCh_0 p3) (q4 &&& 4611686018427387903) ((q4 &&& 4611686018427387903) + 1 + ((p5 &&& 3).toInt64)) ((q4 &&& 4611686018427387903) + 1 + ((p5 &&& 3).toInt64) + 1 + ((((p5.toUInt32 >>> ((2 : Int32) &&& 31).toUInt32).toInt32) &&& 3).toInt64)) (by omega) (by omega) (by omega)
  unfold f0_0
  rw [if_pos e1]
  unfold f0_148
  rw [if_pos e2]
  unfold f0_175
  rw [if_pos e3]
  decide
set_option maxRecDepth 65536 in
set_option maxHeartbeats 40000000 in
theorem comes_1 {Post : Tables → Env → Array Value → State → Outcome → State → Prop} (hpost : ∀ tb e args s v u, (limb_1_1.after args s (.returned v) u = true ∧ limb_1_2.after args s (.returned v) u = true ∧ True) → FrameEnd s (.returned v) u (Jvm.fieldLocs frame_1_writes args s ++ Jvm.arrayLocs frame_1_arrays args s ++ Jvm.staticLocs frame_1_statics s) 16 128 → Post tb e args s (.returned v) u) :
    ArmFor flags0 classFile x code maxLocals ret World_1 tables_1 room_1 Calls_1 rest_1 Pre_1 Post := by
  intro l hfl _ _ p e ha hc hk s m args below hf hA hF happ hP
  obtain ⟨hcalls, hrest, hpre⟩ := hP
  obtain ⟨-, -, -, hnamed, -, -, -, hat⟩ := (Spec.applies_iff hf).mp happ
  obtain ⟨hg, hn⟩ := and_e (Cond.before_iff.mp (show (Jvm.Cond.and given_1 narrow_1).before args s = true from hpre))
  obtain ⟨g1, g2⟩ := and_e hg
  obtain ⟨g3, g4⟩ := and_e g2
  obtain ⟨g5, g6⟩ := and_e g4
  obtain ⟨g7, g8⟩ := and_e g6
  obtain ⟨g9, g10⟩ := and_e g8
  obtain ⟨w0, w1, w2, w3, w4, rfl⟩ : ∃ w0 w1 w2 w3 w4 : Value, args = #[w0, w1, w2, w3, w4] := by
    have hs : args.size = 5 := by simpa [Cond.value, given_1] using g1
    obtain ⟨L⟩ := args
    match L, hs with
    | [w0, w1, w2, w3, w4], _ => exact ⟨w0, w1, w2, w3, w4, rfl⟩
  have hw := fun d (hd : d ∈ tables_1) => atoms_spec (ws := Jvm.Cond.code x code maxLocals ret :: tables_1) hat d (List.mem_cons_of_mem _ hd)
  have hfit : Fit s := fun {y c} hc i hi => by
    obtain ⟨ha, rfl⟩ := Array.getElem?_eq_some_iff.mp hc
    have q := List.all_eq_true.mp ((Array.all_eq_true_iff_forall_mem.mp hF) _ (Array.getElem_mem ha)) i (List.mem_range.mpr hi)
    simpa [Array.getElem?_eq_getElem hi] using q
  obtain ⟨i0, ei0⟩ := is_v g3
  obtain rfl : w0 = (.int i0) := Option.some.inj ei0
  obtain ⟨i1, ei1⟩ := is_v g5
  obtain rfl : w1 = (.int i1) := Option.some.inj ei1
  obtain ⟨i2, ei2⟩ := is_v g7
  obtain rfl : w2 = (.int i2) := Option.some.inj ei2
  obtain ⟨i3, ei3⟩ := isL_v g9
  obtain rfl : w3 = (.long i3) := Option.some.inj ei3
  obtain ⟨i4, ei4⟩ := is_v g10
  obtain rfl : w4 = (.int i4) := Option.some.inj ei4
  obtain ⟨n, o, h1, h2, h3, _, L, rfl, ⟨hv, N⟩, hq⟩ := rm0 l s _ hw tables_1 i0 i1 i2 i3 i4 s.heap s.heap.size (Nat.le_refl _) p e ha hc hk s m _ below hf ((Spec.applies_iff_loose hf).mp happ).1 ⟨rfl, State.Warmed39.refl s, rfl⟩ trivial
  rw [law_eq] at hv
  subst hv
  refine ⟨n, _, h1, h2, h3, hpost _ _ _ _ _ _ ⟨Cond.after_iff.mpr rfl, Cond.after_iff.mpr (eq_i res_at (Term.int_eval (1)) rfl), trivial⟩ ⟨hq.1, hq.2.1, (hq.2.2.sift fun y hy => Or.inr (N y hy)).mono (by decide) (by decide)⟩⟩
theorem main_1_1 : Claimed_1_1 := comes_1 fun _ _ _ _ _ _ h hF => ⟨h.1, hF⟩
theorem main_1_2 : Claimed_1_2 := comes_1 fun _ _ _ _ _ _ h hF => ⟨h.2.1, hF⟩
end Jvm.Pilot.@@N@@
namespace Jvm.Pilot.@@N@@
open Jvm Jvm.ClassFile Sem Op Lib Jvm.Free Jvm.Stand Jvm.Pilot.@@N@@.Jvm.D
/-! MADE BY PROGRAM (witnessworld.py) out of the Statement's table words and the real class files: 9 classes; the members and pool entries that the words name. The judged class is class 1, her method 3. -/
namespace start1
open Jvm.ClassFile
def u (s : String) : CpInfo := .utf8 (stringToUtf16 s)
/-- a pool by its gaps: so many unusable entries, then the entry; so many at the end -/
def gap : Nat → List CpInfo → List CpInfo
  | 0, r => r
  | n + 1, r => .unusable :: gap n r
def poolList (es : List (Nat × CpInfo)) (last : Nat) : List CpInfo := es.foldr (fun e r => gap e.1 (e.2 :: r)) (gap last [])
def pool (es : List (Nat × CpInfo)) (last : Nat) : Array CpInfo := ⟨poolList es last⟩
def fileOf (pool : Array CpInfo) (this : Nat) (attrs : Array Attribute := #[]) (ms : Array MethodInfo := #[]) (fl : Nat := 33) (sup : Nat := 0) (ifs : Array Nat := #[]) (fds : Array FieldInfo := #[]) : ClassFile where
  minorVersion := 0
  majorVersion := 65
  constantPool := pool
  accessFlags := fl
  thisClass := this
  superClass := sup
  interfaces := ifs
  fields := fds
  methods := ms
  attributes := attrs
def plain (name : String) (sup : Option ClassId) : Class where
  name := name
  kind := .ordinary
  loader := none
  accessFlags := 33
  super := sup
  interfaces := #[]
  cf := none
  fields := #[]
  methods := #[]
  instanceTypes := #[]
  staticTypes := #[]
  resolved := #[]
  callSites := []
  init := .initialized
  statics := none
  mirror := none

def pool0 : Array CpInfo := pool [(5, u "<init>"), (0, u "()V"), (1, .class_ 10), (1, u "java/lang/Object")] 113

def k0c0 : Code := { maxStack := 0, maxLocals := 1, code := object_method_1_code, exceptionTable := #[], attributes := #[] }
def k0m0 : Method := { name := "<init>", desc := "()V", sig := { parameters := [], returnType := none }, accessFlags := 1, code := some k0c0 }
/-- java/lang/Object -/
def k0 : Class := { plain "java/lang/Object" none with
  accessFlags := 33
  interfaces := #[]
  cf := some (fileOf pool0 8 #[] #[{ accessFlags := 1, nameIndex := 5, descriptorIndex := 6, attributes := #[] }] 33 0 #[] #[])
  fields := #[]
  methods := #[k0m0]
  instanceTypes := #[]
  staticTypes := #[]
  resolved := Array.replicate 124 none
  statics := none }

def pool1 : Array CpInfo := pool [(2, .class_ 4), (0, .nameAndType 5 6), (0, u "java/lang/Object"), (0, u "<init>"), (0, u "()V"), (0, .methodref 8 9), (0, .class_ 10), (0, .nameAndType 11 12), (0, u "com/example/shapelint/shapelint/reader/LineEndsNotePinLaw"), (0, u "ch"), (0, u "(I)I"), (0, .long 4611686018427387903), (1, .methodref 8 16), (0, .nameAndType 17 18), (0, u "ends"), (0, u "(ZIJIJ)J"), (0, .class_ 20), (0, u "com/example/shapelint/shapelint/reader/LineEnds"), (0, .methodref 19 3), (0, .methodref 19 23), (0, .nameAndType 24 25), (0, u "count"), (0, u "()J"), (0, .methodref 19 27), (0, .nameAndType 28 29), (0, u "note"), (0, u "(IJ)V"), (3, u "law"), (0, u "(IIIJI)Z")] 2

def k1m0 : Method := { name := "<init>", desc := "()V", sig := { parameters := [], returnType := none }, accessFlags := 1, code := none }
def k1c1 : Code := { maxStack := 2, maxLocals := 2, code := method_2_code, exceptionTable := #[], attributes := #[] }
def k1m1 : Method := { name := "ch", desc := "(I)I", sig := { parameters := [.int], returnType := some .int }, accessFlags := 10, code := some k1c1 }
def k1c2 : Code := { maxStack := 4, maxLocals := 7, code := method_3_code, exceptionTable := #[], attributes := #[] }
def k1m2 : Method := { name := "ends", desc := "(ZIJIJ)J", sig := { parameters := [.boolean, .int, .long, .int, .long], returnType := some .long }, accessFlags := 10, code := some k1c2 }
def k1c3 : Code := { maxStack := 9, maxLocals := 26, code := code, exceptionTable := #[], attributes := #[] }
def k1m3 : Method := { name := "law", desc := "(IIIJI)Z", sig := { parameters := [.int, .int, .int, .long, .int], returnType := some .boolean }, accessFlags := 9, code := some k1c3 }
/-- com/example/shapelint/shapelint/reader/LineEndsNotePinLaw -/
def k1 : Class := { plain "com/example/shapelint/shapelint/reader/LineEndsNotePinLaw" (some 0) with
  accessFlags := 49
  interfaces := #[]
  cf := some (fileOf pool1 8 #[] #[{ accessFlags := 1, nameIndex := 5, descriptorIndex := 6, attributes := #[] }, { accessFlags := 10, nameIndex := 11, descriptorIndex := 12, attributes := #[] }, { accessFlags := 10, nameIndex := 17, descriptorIndex := 18, attributes := #[] }, { accessFlags := 9, nameIndex := 33, descriptorIndex := 34, attributes := #[] }] 49 2 #[] #[])
  fields := #[]
  methods := #[k1m0, k1m1, k1m2, k1m3]
  instanceTypes := #[]
  staticTypes := #[]
  resolved := Array.replicate 37 none
  statics := none }

def pool2 : Array CpInfo := pool [(1, .methodref 2 3), (0, .class_ 4), (0, .nameAndType 5 6), (0, u "java/lang/Object"), (0, u "<init>"), (0, u "()V"), (0, .long 18446744073709551614), (1, .fieldref 10 11), (0, .class_ 12), (0, .nameAndType 13 14), (0, u "com/example/shapelint/shapelint/reader/LineEnds"), (0, u "lastReturn"), (0, u "J"), (0, .fieldref 10 16), (0, .nameAndType 17 14), (0, u "count"), (2, u "note"), (0, u "(IJ)V"), (2, u "()J")] 7

def k2c0 : Code := { maxStack := 3, maxLocals := 1, code := prog_97_method_1_code, exceptionTable := #[], attributes := #[] }
def k2m0 : Method := { name := "<init>", desc := "()V", sig := { parameters := [], returnType := none }, accessFlags := 0, code := some k2c0 }
def k2c1 : Code := { maxStack := 2, maxLocals := 1, code := prog_97_method_2_code, exceptionTable := #[], attributes := #[] }
def k2m1 : Method := { name := "count", desc := "()J", sig := { parameters := [], returnType := some .long }, accessFlags := 0, code := some k2c1 }
def k2c2 : Code := { maxStack := 6, maxLocals := 4, code := prog_97_method_3_code, exceptionTable := #[], attributes := #[] }
def k2m2 : Method := { name := "note", desc := "(IJ)V", sig := { parameters := [.int, .long], returnType := none }, accessFlags := 0, code := some k2c2 }
/-- com/example/shapelint/shapelint/reader/LineEnds -/
def k2 : Class := { plain "com/example/shapelint/shapelint/reader/LineEnds" (some 0) with
  accessFlags := 32
  interfaces := #[]
  cf := some (fileOf pool2 10 #[] #[{ accessFlags := 0, nameIndex := 5, descriptorIndex := 6, attributes := #[] }, { accessFlags := 0, nameIndex := 17, descriptorIndex := 24, attributes := #[] }, { accessFlags := 0, nameIndex := 20, descriptorIndex := 21, attributes := #[] }] 32 2 #[] #[{ accessFlags := 2, nameIndex := 17, descriptorIndex := 14, attributes := #[] }, { accessFlags := 2, nameIndex := 13, descriptorIndex := 14, attributes := #[] }])
  fields := #[{ name := "count", type := .long, accessFlags := 2, slot := 0, constantValue := 0 }, { name := "lastReturn", type := .long, accessFlags := 2, slot := 1, constantValue := 0 }]
  methods := #[k2m0, k2m1, k2m2]
  instanceTypes := #[.long, .long]
  staticTypes := #[]
  resolved := Array.replicate 32 none
  statics := none }

def pool3 : Array CpInfo := pool [(1, u "java/lang/Cloneable"), (0, .class_ 1), (0, u "java/lang/Object"), (0, .class_ 3)] 3

/-- java/lang/Cloneable -/
def k3 : Class := { plain "java/lang/Cloneable" (some 0) with
  accessFlags := 1537
  interfaces := #[]
  cf := some (fileOf pool3 2 #[] #[] 1537 4 #[] #[])
  fields := #[]
  methods := #[]
  instanceTypes := #[]
  staticTypes := #[]
  resolved := Array.replicate 8 none
  statics := none }

def pool4 : Array CpInfo := pool [(1, u "java/io/Serializable"), (0, .class_ 1), (0, u "java/lang/Object"), (0, .class_ 3)] 3

/-- java/io/Serializable -/
def k4 : Class := { plain "java/io/Serializable" (some 0) with
  accessFlags := 1537
  interfaces := #[]
  cf := some (fileOf pool4 2 #[] #[] 1537 4 #[] #[])
  fields := #[]
  methods := #[]
  instanceTypes := #[]
  staticTypes := #[]
  resolved := Array.replicate 8 none
  statics := none }

/-- the primitive byte -/
def k5 : Class := { plain "byte" none with kind := .primitive 'B', accessFlags := 0x411 }
/-- [B -/
def k6 : Class := { plain "[B" (some 0) with kind := .array 5 .byte, interfaces := #[3, 4], accessFlags := 1041 }

/-- the primitive int -/
def k7 : Class := { plain "int" none with kind := .primitive 'I', accessFlags := 0x411 }
/-- [I -/
def k8 : Class := { plain "[I" (some 0) with kind := .array 7 .int, interfaces := #[3, 4], accessFlags := 1041 }

def heap : Heap := #[]
def classes : Array Class := #[k0, k1, k2, k3, k4, k5, k6, k7, k8]
def interned : List (Array UInt16 × Addr) := []
def slotsUsed : Nat := 0
def theMethod : MethodId := ⟨1, 3⟩
def args0 : Array Value := #[.int 5, .int 4, .int 6, .long 9, .int 3]
def aboutOver (below : List Frame) : State where
  vm := { classes := classes, interned := interned.toArray }
  heap := heap
  slotsUsed := slotsUsed
  threads := #[{ frames := .invoking theMethod args0 :: below }]
def below0 : List Frame := [.native { method := ⟨0, 0⟩, args := #[] }]
def about1 : State := aboutOver below0
def p0 : Program := .bare "" "" ""
def e0 : Env := launch0.env 0 0 0
theorem w_frames : about1.frames = Frame.invoking theMethod args0 :: below0 := rfl
set_option maxRecDepth 65536 in
theorem w_args : argsFit about1.vm theMethod args0 = true := by decide +kernel
set_option maxRecDepth 65536 in
theorem w_heap : heapFits about1 = true := by decide +kernel
set_option maxRecDepth 65536 in
theorem w_runnable : about1.curStatus? = some .runnable := by decide +kernel
set_option maxRecDepth 65536 in
theorem w_alone : about1.alone = true := by decide +kernel
set_option maxRecDepth 65536 in
theorem w_named : about1.methodNamed? x = some theMethod := by decide +kernel
set_option maxRecDepth 65536 in
theorem w_hears : about1.hears theMethod below0 = true := by decide +kernel
set_option maxRecDepth 65536 in
theorem w_ripe : about1.ripe theMethod args0 below0 = true := by decide +kernel
theorem w_running : about1.status = .running := rfl
set_option maxRecDepth 65536 in
theorem w_room : about1.hasRoom e0.platform room_1 = true :=
  launch0.hasRoom_least _ room_1 (by decide +kernel) (by decide +kernel) (by decide +kernel) (by decide +kernel) (by decide +kernel) (by decide +kernel)
theorem allAtoms_all (ts : List Jvm.Cond) (a : Array Jvm.Value) (st : Jvm.State) : (allAtoms ts).before a st = ts.all (fun c => c.before a st) := by
  induction ts with
  | nil => rfl
  | cons c t ih =>
    show (Jvm.Cond.and c (allAtoms t)).before a st = _
    rw [Jvm.Cond.before_and, ih, List.all_cons]
def words1 : List Jvm.Cond := Jvm.Cond.code x code maxLocals ret :: tables_1
/-- a 'code' word, met by the world's own term for the bytes: nothing is compared byte by byte -/
theorem code_word {y : MethodName} {bytes : ByteArray} {mx : Nat} {rt : Option FieldType} {a : Array Value} {s : State} {m : MethodId} {meth : Method} {c : Code} (h1 : s.methodNamed? y = some m) (h2 : s.vm.method? m = some meth) (h3 : meth.code = some c) (h4 : c.code = bytes)
    (h5 : (c.maxLocals == mx && c.exceptionTable.isEmpty && decide (c.maxStack ≤ mostOperands) && decide (meth.sig.returnType = rt) && !meth.locks && decide (parseMethodDescriptor y.desc = some meth.sig)) = true) : (Jvm.Cond.code y bytes mx rt).before a s = true := by
  simp only [Bool.and_eq_true, beq_iff_eq, Bool.not_eq_true', decide_eq_true_eq] at h5
  obtain ⟨⟨⟨⟨⟨g1, g2⟩, g3⟩, g4⟩, g5⟩, g6⟩ := h5
  simp [Cond.before, Cond.holds, Cond.value, h1, h2, h3, h4, g1, g2, g3, g4, g5, g6]
def isCode : Jvm.Cond → Bool
  | .code _ _ _ _ => true
  | _ => false
theorem all_split {L : List Jvm.Cond} {P : Jvm.Cond → Bool} (h1 : L.all (fun c => isCode c || P c) = true) (h2 : ∀ c ∈ L.filter isCode, P c = true) : L.all P = true := by
  refine List.all_eq_true.mpr fun c hc => ?_
  have h := List.all_eq_true.mp h1 c hc
  rcases Bool.eq_false_or_eq_true (isCode c) with hi | hi
  · exact h2 c (List.mem_filter.mpr ⟨hc, hi⟩)
  · simpa [hi] using h
set_option maxRecDepth 65536 in
theorem w_c0 : (Jvm.Cond.code x code maxLocals ret).before args0 about1 = true := code_word (m := ⟨1, 3⟩) (meth := k1m3) (c := k1c3) (by decide +kernel) rfl rfl rfl (by decide +kernel)
set_option maxRecDepth 65536 in
theorem w_c1 : (Jvm.Cond.code ({ cls := "com/example/shapelint/shapelint/reader/LineEndsNotePinLaw", name := "ch", desc := "(I)I" } : Jvm.MethodName) method_2_code (2 : Nat) (Option.some Jvm.ClassFile.FieldType.int)).before args0 about1 = true := code_word (m := ⟨1, 1⟩) (meth := k1m1) (c := k1c1) (by decide +kernel) rfl rfl rfl (by decide +kernel)
set_option maxRecDepth 65536 in
theorem w_c2 : (Jvm.Cond.code ({ cls := "com/example/shapelint/shapelint/reader/LineEndsNotePinLaw", name := "ends", desc := "(ZIJIJ)J" } : Jvm.MethodName) method_3_code (7 : Nat) (Option.some Jvm.ClassFile.FieldType.long)).before args0 about1 = true := code_word (m := ⟨1, 2⟩) (meth := k1m2) (c := k1c2) (by decide +kernel) rfl rfl rfl (by decide +kernel)
set_option maxRecDepth 65536 in
theorem w_c3 : (Jvm.Cond.code ({ cls := "com/example/shapelint/shapelint/reader/LineEnds", name := "<init>", desc := "()V" } : Jvm.MethodName) prog_97_method_1_code (1 : Nat) (Option.none : Option Jvm.ClassFile.FieldType)).before args0 about1 = true := code_word (m := ⟨2, 0⟩) (meth := k2m0) (c := k2c0) (by decide +kernel) rfl rfl rfl (by decide +kernel)
set_option maxRecDepth 65536 in
theorem w_c4 : (Jvm.Cond.code ({ cls := "java/lang/Object", name := "<init>", desc := "()V" } : Jvm.MethodName) object_method_1_code (1 : Nat) (Option.none : Option Jvm.ClassFile.FieldType)).before args0 about1 = true := code_word (m := ⟨0, 0⟩) (meth := k0m0) (c := k0c0) (by decide +kernel) rfl rfl rfl (by decide +kernel)
set_option maxRecDepth 65536 in
theorem w_c5 : (Jvm.Cond.code ({ cls := "com/example/shapelint/shapelint/reader/LineEnds", name := "count", desc := "()J" } : Jvm.MethodName) prog_97_method_2_code (1 : Nat) (Option.some Jvm.ClassFile.FieldType.long)).before args0 about1 = true := code_word (m := ⟨2, 1⟩) (meth := k2m1) (c := k2c1) (by decide +kernel) rfl rfl rfl (by decide +kernel)
set_option maxRecDepth 65536 in
theorem w_c6 : (Jvm.Cond.code ({ cls := "com/example/shapelint/shapelint/reader/LineEnds", name := "note", desc := "(IJ)V" } : Jvm.MethodName) prog_97_method_3_code (4 : Nat) (Option.none : Option Jvm.ClassFile.FieldType)).before args0 about1 = true := code_word (m := ⟨2, 2⟩) (meth := k2m2) (c := k2c2) (by decide +kernel) rfl rfl rfl (by decide +kernel)
def codes1 : List Jvm.Cond := [Jvm.Cond.code x code maxLocals ret, Jvm.Cond.code ({ cls := "com/example/shapelint/shapelint/reader/LineEndsNotePinLaw", name := "ch", desc := "(I)I" } : Jvm.MethodName) method_2_code (2 : Nat) (Option.some Jvm.ClassFile.FieldType.int), Jvm.Cond.code ({ cls := "com/example/shapelint/shapelint/reader/LineEndsNotePinLaw", name := "ends", desc := "(ZIJIJ)J" } : Jvm.MethodName) method_3_code (7 : Nat) (Option.some Jvm.ClassFile.FieldType.long), Jvm.Cond.code ({ cls := "com/example/shapelint/shapelint/reader/LineEnds", name := "<init>", desc := "()V" } : Jvm.MethodName) prog_97_method_1_code (1 : Nat) (Option.none : Option Jvm.ClassFile.FieldType), Jvm.Cond.code ({ cls := "java/lang/Object", name := "<init>", desc := "()V" } : Jvm.MethodName) object_method_1_code (1 : Nat) (Option.none : Option Jvm.ClassFile.FieldType), Jvm.Cond.code ({ cls := "com/example/shapelint/shapelint/reader/LineEnds", name := "count", desc := "()J" } : Jvm.MethodName) prog_97_method_2_code (1 : Nat) (Option.some Jvm.ClassFile.FieldType.long), Jvm.Cond.code ({ cls := "com/example/shapelint/shapelint/reader/LineEnds", name := "note", desc := "(IJ)V" } : Jvm.MethodName) prog_97_method_3_code (4 : Nat) (Option.none : Option Jvm.ClassFile.FieldType)]
set_option maxRecDepth 65536 in
theorem codes_eq : words1.filter isCode = codes1 := rfl
theorem w_codes : ∀ c ∈ words1.filter isCode, c.before args0 about1 = true := by
  rw [codes_eq]
  intro c hc
  simp only [codes1, List.mem_cons, List.not_mem_nil, or_false] at hc
  rcases hc with rfl | rfl | rfl | rfl | rfl | rfl | rfl
  · exact w_c0
  · exact w_c1
  · exact w_c2
  · exact w_c3
  · exact w_c4
  · exact w_c5
  · exact w_c6
set_option maxRecDepth 65536 in
theorem w_t1 : (words1.take 24).all (fun c => isCode c || c.before args0 about1) = true := by decide +kernel
set_option maxRecDepth 65536 in
theorem w_t2 : (words1.drop 24).all (fun c => isCode c || c.before args0 about1) = true := by decide +kernel
theorem w_tables : (allAtoms (Jvm.Cond.code x code maxLocals ret :: tables_1)).before args0 about1 = true := by
  rw [allAtoms_all]
  show words1.all (fun c => c.before args0 about1) = true
  refine all_split ?_ w_codes
  rw [← List.take_append_drop 24 words1, List.all_append, w_t1, w_t2]
  rfl
set_option maxRecDepth 65536 in
theorem w_case : (Jvm.Cond.and given_1 narrow_1).before args0 about1 = true := by decide +kernel
theorem w_applies : (headSpec (Jvm.Cond.code x code maxLocals ret :: tables_1) room_1).applies x e0.platform about1 = true :=
  (Spec.applies_iff w_frames).mpr ⟨w_running, w_runnable, w_alone, w_named, w_hears, w_ripe, w_room, w_tables⟩
theorem atStart : AtStart classFile x code maxLocals ret World_1 tables_1 room_1 Calls_1 rest_1 Pre_1 launch0 p0 e0 about1 theMethod args0 below0 :=
  ⟨lists_1, trivial, launch0.admits_env _ _ _, launch0.least_env, fairChoices_fair.cas, fairChoices_fair.clock, w_frames, w_args, w_heap, w_applies, trivial, trivial, w_case⟩
end start1
theorem witness_1 : WitnessClaimed_1 := ⟨start1.p0, start1.e0, start1.about1, start1.theMethod, start1.args0, start1.below0, start1.atStart⟩
end Jvm.Pilot.@@N@@
