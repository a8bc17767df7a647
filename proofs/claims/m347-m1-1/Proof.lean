import JvmDerived
import JvmDerived.Pilot.@@N@@Statement
import JvmDerived.Pilot.@@N@@Code
set_option linter.unusedVariables false
set_option linter.unusedSimpArgs false
namespace Jvm.Pilot.@@N@@
open Jvm Jvm.ClassFile Sem Op Lib Jvm.Free Jvm.Stand Jvm.LawKit Jvm.RoadKit Bundle Jvm.Pilot.@@N@@.Jvm.D

/-! own layer: a run that ends well, step by step (every lemma here is of this text) -/
section Own
variable {p : Program} {l : Launch} {e : Env} {R : Room} {s : State} {m : MethodId} {args : Array Value} {below : List Frame} {meth : Method} {c : Code} {T : State} {locs : List Loc} {cells slots : Nat} {P : State → Outcome → Prop} {pc pc' pc1 : Nat} {L L' : Array Slot} {S : List Value} {Z : State} {a0 : Array Value} {h : Heap}
/-- from this frame the run ends, and P holds of the end -/
def Ends (p : Program) (e : Env) (below : List Frame) (P : State → Outcome → Prop) (T : State) (m : MethodId) (pc : Nat) (L : Array Slot) (S : List Value) : Prop :=
  ∃ t o, Steps p.tables e below (T.setTop (mkF m pc L S)) t ∧ t.status = .running ∧ Ended t below o ∧ P t o
theorem Ends.of {T' : State} {S' : List Value} (k : Ends p e below P T' m pc' L' S') (h : ∀ target, Steps p.tables e below (T'.setTop (mkF m pc' L' S')) target → Steps p.tables e below (T.setTop (mkF m pc L S)) target) : Ends p e below P T m pc L S := by
  obtain ⟨t, o, h1, h2⟩ := k; exact ⟨t, o, h _ h1, h2⟩
theorem eILoadN (X : Stand p l e R s m args below meth c T locs cells slots) (hx : p.tables.exec = Jvm.exec) {k : Fin 4} {v : Int32} (hd : decode c.code pc = .ok (.iload_n k, 1)) (hl : L[k.val]? = some (.val (.int v))) (hp : pc + 1 = pc') (kk : Ends p e below P T m pc' L (.int v :: S)) : Ends p e below P T m pc L S := by
  subst hp; exact kk.of fun t h => XS.iloadN X.here hx rfl hd hl h
theorem eILoad (X : Stand p l e R s m args below meth c T locs cells slots) (hx : p.tables.exec = Jvm.exec) {k : Nat} {v : Int32} (hd : decode c.code pc = .ok (.iload k, 2)) (hl : L[k]? = some (.val (.int v))) (hp : pc + 2 = pc') (kk : Ends p e below P T m pc' L (.int v :: S)) : Ends p e below P T m pc L S := by
  subst hp; exact kk.of fun t h => XS.iload X.here hx rfl hd hl h
theorem eLLoadN (X : Stand p l e R s m args below meth c T locs cells slots) (hx : p.tables.exec = Jvm.exec) {k : Fin 4} {v : Int64} (hd : decode c.code pc = .ok (.lload_n k, 1)) (hl : L[k.val]? = some (.val (.long v))) (hp : pc + 1 = pc') (kk : Ends p e below P T m pc' L (.long v :: S)) : Ends p e below P T m pc L S := by
  subst hp; exact kk.of fun t h => XT.lloadN X.here hx rfl hd hl h
theorem eLLoad (X : Stand p l e R s m args below meth c T locs cells slots) (hx : p.tables.exec = Jvm.exec) {k : Nat} {v : Int64} (hd : decode c.code pc = .ok (.lload k, 2)) (hl : L[k]? = some (.val (.long v))) (hp : pc + 2 = pc') (kk : Ends p e below P T m pc' L (.long v :: S)) : Ends p e below P T m pc L S := by
  subst hp; exact kk.of fun t h => XT.lload X.here hx rfl hd hl h
theorem eALoadN (X : Stand p l e R s m args below meth c T locs cells slots) (hx : p.tables.exec = Jvm.exec) {k : Fin 4} {v : Value} (hd : decode c.code pc = .ok (.aload_n k, 1)) (hl : L[k.val]? = some (.val v)) (hv : v.isRef = true) (hp : pc + 1 = pc') (kk : Ends p e below P T m pc' L (v :: S)) : Ends p e below P T m pc L S := by
  subst hp; exact kk.of fun t h => XS.aloadN X.here hx rfl hd hl hv h
theorem eALoad (X : Stand p l e R s m args below meth c T locs cells slots) (hx : p.tables.exec = Jvm.exec) {k : Nat} {v : Value} (hd : decode c.code pc = .ok (.aload k, 2)) (hl : L[k]? = some (.val v)) (hv : v.isRef = true) (hp : pc + 2 = pc') (kk : Ends p e below P T m pc' L (v :: S)) : Ends p e below P T m pc L S := by
  subst hp; exact kk.of fun t h => XS.aload X.here hx rfl hd hl hv h
theorem eIStoreN (X : Stand p l e R s m args below meth c T locs cells slots) (hx : p.tables.exec = Jvm.exec) {k : Fin 4} {v : Int32} (hd : decode c.code pc = .ok (.istore_n k, 1)) (hl : storeLocals L k.val (.int v) = some L') (hp : pc + 1 = pc') (kk : Ends p e below P T m pc' L' S) : Ends p e below P T m pc L (.int v :: S) := by
  subst hp; exact kk.of fun t h => XS.istoreN X.here hx rfl hd rfl hl h
theorem eIStore (X : Stand p l e R s m args below meth c T locs cells slots) (hx : p.tables.exec = Jvm.exec) {k : Nat} {v : Int32} (hd : decode c.code pc = .ok (.istore k, 2)) (hl : storeLocals L k (.int v) = some L') (hp : pc + 2 = pc') (kk : Ends p e below P T m pc' L' S) : Ends p e below P T m pc L (.int v :: S) := by
  subst hp; exact kk.of fun t h => XS.istore X.here hx rfl hd rfl hl h
theorem eLStoreN (X : Stand p l e R s m args below meth c T locs cells slots) (hx : p.tables.exec = Jvm.exec) {k : Fin 4} {v : Int64} (hd : decode c.code pc = .ok (.lstore_n k, 1)) (hl : storeLocals L k.val (.long v) = some L') (hp : pc + 1 = pc') (kk : Ends p e below P T m pc' L' S) : Ends p e below P T m pc L (.long v :: S) := by
  subst hp; exact kk.of fun t h => XT.lstoreN X.here hx rfl hd rfl hl h
theorem eLStore (X : Stand p l e R s m args below meth c T locs cells slots) (hx : p.tables.exec = Jvm.exec) {k : Nat} {v : Int64} (hd : decode c.code pc = .ok (.lstore k, 2)) (hl : storeLocals L k (.long v) = some L') (hp : pc + 2 = pc') (kk : Ends p e below P T m pc' L' S) : Ends p e below P T m pc L (.long v :: S) := by
  subst hp; exact kk.of fun t h => XT.lstore X.here hx rfl hd rfl hl h
theorem eAStoreN (X : Stand p l e R s m args below meth c T locs cells slots) (hx : p.tables.exec = Jvm.exec) {k : Fin 4} {v : Value} (hd : decode c.code pc = .ok (.astore_n k, 1)) (hv : v.isRef = true) (hl : storeLocals L k.val v = some L') (hp : pc + 1 = pc') (kk : Ends p e below P T m pc' L' S) : Ends p e below P T m pc L (v :: S) := by
  subst hp; exact kk.of fun t h => XS.astoreN X.here hx rfl hd rfl hv hl h
theorem eAStore (X : Stand p l e R s m args below meth c T locs cells slots) (hx : p.tables.exec = Jvm.exec) {k : Nat} {v : Value} (hd : decode c.code pc = .ok (.astore k, 2)) (hv : v.isRef = true) (hl : storeLocals L k v = some L') (hp : pc + 2 = pc') (kk : Ends p e below P T m pc' L' S) : Ends p e below P T m pc L (v :: S) := by
  subst hp; exact kk.of fun t h => XS.astore X.here hx rfl hd rfl hv hl h
theorem eIConst (X : Stand p l e R s m args below meth c T locs cells slots) (hx : p.tables.exec = Jvm.exec) {i : Int} (v : Int32) (hd : decode c.code pc = .ok (.iconst i, 1)) (hv : Int32.ofInt i = v) (hp : pc + 1 = pc') (kk : Ends p e below P T m pc' L (.int v :: S)) : Ends p e below P T m pc L S := by
  subst hp hv; exact kk.of fun t h => XS.iconst X.here hx rfl hd h
theorem eBipush (X : Stand p l e R s m args below meth c T locs cells slots) (hx : p.tables.exec = Jvm.exec) {i : Int} (v : Int32) (hd : decode c.code pc = .ok (.bipush i, 2)) (hv : (Int8.ofInt i).toInt32 = v) (hp : pc + 2 = pc') (kk : Ends p e below P T m pc' L (.int v :: S)) : Ends p e below P T m pc L S := by
  subst hp hv; exact kk.of fun t h => XS.bipush X.here hx rfl hd h
theorem eSipush (X : Stand p l e R s m args below meth c T locs cells slots) (hx : p.tables.exec = Jvm.exec) {i : Int} (v : Int32) (hd : decode c.code pc = .ok (.sipush i, 3)) (hv : (Int16.ofInt i).toInt32 = v) (hp : pc + 3 = pc') (kk : Ends p e below P T m pc' L (.int v :: S)) : Ends p e below P T m pc L S := by
  subst hp hv; exact kk.of fun t h => XS.sipush X.here hx rfl hd h
theorem eLConst (X : Stand p l e R s m args below meth c T locs cells slots) (hx : p.tables.exec = Jvm.exec) {k : Fin 2} (v : Int64) (hd : decode c.code pc = .ok (.lconst k, 1)) (hv : Int64.ofNat k = v) (hp : pc + 1 = pc') (kk : Ends p e below P T m pc' L (.long v :: S)) : Ends p e below P T m pc L S := by
  subst hp; exact kk.of fun t h => XT.lconstV X.here hx rfl v hd hv h
theorem eNull (X : Stand p l e R s m args below meth c T locs cells slots) (hx : p.tables.exec = Jvm.exec) (hd : decode c.code pc = .ok (.aconst_null, 1)) (hp : pc + 1 = pc') (kk : Ends p e below P T m pc' L (.null :: S)) : Ends p e below P T m pc L S := by
  subst hp; exact kk.of fun t h => XS.aconstNull X.here hx rfl hd h
theorem eLdcI (X : Stand p l e R s m args below meth c T locs cells slots) (hx : p.tables.exec = Jvm.exec) (hZ : Z.Warmed39 s.vm) {own : String} {index : Nat} {v : Int32} (hown : s.vm.findClass own = some m.cls) (w : (Cond.constant own index v).before a0 Z = true) (hd : decode c.code pc = .ok (.ldc index, 2)) (hp : pc + 2 = pc') (kk : Ends p e below P T m pc' L (.int v :: S)) : Ends p e below P T m pc L S := by
  subst hp; exact kk.of fun t h => X.ldcI hx hown (mvT hZ w) rfl hd h
theorem eLdcWI (X : Stand p l e R s m args below meth c T locs cells slots) (hx : p.tables.exec = Jvm.exec) (hZ : Z.Warmed39 s.vm) {own : String} {index : Nat} {v : Int32} (hown : s.vm.findClass own = some m.cls) (w : (Cond.constant own index v).before a0 Z = true) (hd : decode c.code pc = .ok (.ldc_w index, 3)) (hp : pc + 3 = pc') (kk : Ends p e below P T m pc' L (.int v :: S)) : Ends p e below P T m pc L S := by
  subst hp; exact kk.of fun t h => X.ldcWI hx hown (mvT hZ w) rfl hd h
theorem eLdc2J (X : Stand p l e R s m args below meth c T locs cells slots) (hx : p.tables.exec = Jvm.exec) (hZ : Z.Warmed39 s.vm) {own : String} {index : Nat} {v : Int64} (hown : s.vm.findClass own = some m.cls) (w : (Cond.constantLong own index v).before a0 Z = true) (hd : decode c.code pc = .ok (.ldc2_w index, 3)) (hp : pc + 3 = pc') (kk : Ends p e below P T m pc' L (.long v :: S)) : Ends p e below P T m pc L S := by
  subst hp; exact kk.of fun t h => X.ldc2J hx hown (mvT hZ w) rfl hd h
theorem eIAdd (X : Stand p l e R s m args below meth c T locs cells slots) (hx : p.tables.exec = Jvm.exec) {x y : Int32} (hd : decode c.code pc = .ok (.iadd, 1)) (hp : pc + 1 = pc') (kk : Ends p e below P T m pc' L (.int (x + y) :: S)) : Ends p e below P T m pc L (.int y :: .int x :: S) := by
  subst hp; exact kk.of fun t h => XS.iadd X.here hx rfl hd rfl h
theorem eISub (X : Stand p l e R s m args below meth c T locs cells slots) (hx : p.tables.exec = Jvm.exec) {x y : Int32} (hd : decode c.code pc = .ok (.isub, 1)) (hp : pc + 1 = pc') (kk : Ends p e below P T m pc' L (.int (x - y) :: S)) : Ends p e below P T m pc L (.int y :: .int x :: S) := by
  subst hp; exact kk.of fun t h => XS.isub X.here hx rfl hd rfl h
theorem eIMul (X : Stand p l e R s m args below meth c T locs cells slots) (hx : p.tables.exec = Jvm.exec) {x y : Int32} (hd : decode c.code pc = .ok (.imul, 1)) (hp : pc + 1 = pc') (kk : Ends p e below P T m pc' L (.int (x * y) :: S)) : Ends p e below P T m pc L (.int y :: .int x :: S) := by
  subst hp; exact kk.of fun t h => XS.imul X.here hx rfl hd rfl h
theorem eIAnd (X : Stand p l e R s m args below meth c T locs cells slots) (hx : p.tables.exec = Jvm.exec) {x y : Int32} (hd : decode c.code pc = .ok (.iand, 1)) (hp : pc + 1 = pc') (kk : Ends p e below P T m pc' L (.int (x &&& y) :: S)) : Ends p e below P T m pc L (.int y :: .int x :: S) := by
  subst hp; exact kk.of fun t h => XS.iand X.here hx rfl hd rfl h
theorem eIDiv (X : Stand p l e R s m args below meth c T locs cells slots) (hx : p.tables.exec = Jvm.exec) {x y : Int32} (hd : decode c.code pc = .ok (.idiv, 1)) (hy : y ≠ 0) (hp : pc + 1 = pc') (kk : Ends p e below P T m pc' L (.int (x / y) :: S)) : Ends p e below P T m pc L (.int y :: .int x :: S) := by
  subst hp; exact kk.of fun t h => XS.idiv X.here hx rfl hd rfl hy h
theorem eIRem (X : Stand p l e R s m args below meth c T locs cells slots) (hx : p.tables.exec = Jvm.exec) {x y : Int32} (hd : decode c.code pc = .ok (.irem, 1)) (hy : y ≠ 0) (hp : pc + 1 = pc') (kk : Ends p e below P T m pc' L (.int (x % y) :: S)) : Ends p e below P T m pc L (.int y :: .int x :: S) := by
  subst hp; exact kk.of fun t h => iremM X hx rfl hd rfl hy h
theorem eIShr (X : Stand p l e R s m args below meth c T locs cells slots) (hx : p.tables.exec = Jvm.exec) {x y : Int32} (hd : decode c.code pc = .ok (.ishr, 1)) (hp : pc + 1 = pc') (kk : Ends p e below P T m pc' L (.int (x >>> (y &&& 31)) :: S)) : Ends p e below P T m pc L (.int y :: .int x :: S) := by
  subst hp; exact kk.of fun t h => XS.ishr X.here hx rfl hd rfl h
theorem eIUshr (X : Stand p l e R s m args below meth c T locs cells slots) (hx : p.tables.exec = Jvm.exec) {x y : Int32} (hd : decode c.code pc = .ok (.iushr, 1)) (hp : pc + 1 = pc') (kk : Ends p e below P T m pc' L (.int ((x.toUInt32 >>> (y &&& 31).toUInt32).toInt32) :: S)) : Ends p e below P T m pc L (.int y :: .int x :: S) := by
  subst hp; exact kk.of fun t h => XS.iushr X.here hx rfl hd rfl h
theorem eI2C (X : Stand p l e R s m args below meth c T locs cells slots) (hx : p.tables.exec = Jvm.exec) {x : Int32} (hd : decode c.code pc = .ok (.i2c, 1)) (hp : pc + 1 = pc') (kk : Ends p e below P T m pc' L (.int (x.toUInt32.toUInt16.toUInt32.toInt32) :: S)) : Ends p e below P T m pc L (.int x :: S) := by
  subst hp; exact kk.of fun t h => XS.i2c X.here hx rfl hd rfl h
theorem eI2B (X : Stand p l e R s m args below meth c T locs cells slots) (hx : p.tables.exec = Jvm.exec) {x : Int32} (hd : decode c.code pc = .ok (.i2b, 1)) (hp : pc + 1 = pc') (kk : Ends p e below P T m pc' L (.int (x.toInt8.toInt32) :: S)) : Ends p e below P T m pc L (.int x :: S) := by
  subst hp; exact kk.of fun t h => XS.i2b X.here hx rfl hd rfl h
theorem eI2L (X : Stand p l e R s m args below meth c T locs cells slots) (hx : p.tables.exec = Jvm.exec) {x : Int32} (hd : decode c.code pc = .ok (.i2l, 1)) (hp : pc + 1 = pc') (kk : Ends p e below P T m pc' L (.long (x.toInt64) :: S)) : Ends p e below P T m pc L (.int x :: S) := by
  subst hp; exact kk.of fun t h => XS.i2l X.here hx rfl hd rfl h
theorem eLAdd (X : Stand p l e R s m args below meth c T locs cells slots) (hx : p.tables.exec = Jvm.exec) {x y : Int64} (hd : decode c.code pc = .ok (.ladd, 1)) (hp : pc + 1 = pc') (kk : Ends p e below P T m pc' L (.long (x + y) :: S)) : Ends p e below P T m pc L (.long y :: .long x :: S) := by
  subst hp; exact kk.of fun t h => XS.ladd X.here hx rfl hd rfl h
theorem eLSub (X : Stand p l e R s m args below meth c T locs cells slots) (hx : p.tables.exec = Jvm.exec) {x y : Int64} (hd : decode c.code pc = .ok (.lsub, 1)) (hp : pc + 1 = pc') (kk : Ends p e below P T m pc' L (.long (x - y) :: S)) : Ends p e below P T m pc L (.long y :: .long x :: S) := by
  subst hp; exact kk.of fun t h => XS.lsub X.here hx rfl hd rfl h
theorem eLAnd (X : Stand p l e R s m args below meth c T locs cells slots) (hx : p.tables.exec = Jvm.exec) {x y : Int64} (hd : decode c.code pc = .ok (.land, 1)) (hp : pc + 1 = pc') (kk : Ends p e below P T m pc' L (.long (x &&& y) :: S)) : Ends p e below P T m pc L (.long y :: .long x :: S) := by
  subst hp; exact kk.of fun t h => XS.land X.here hx rfl hd rfl h
theorem eLOr (X : Stand p l e R s m args below meth c T locs cells slots) (hx : p.tables.exec = Jvm.exec) {x y : Int64} (hd : decode c.code pc = .ok (.lor, 1)) (hp : pc + 1 = pc') (kk : Ends p e below P T m pc' L (.long (x ||| y) :: S)) : Ends p e below P T m pc L (.long y :: .long x :: S) := by
  subst hp; exact kk.of fun t h => XS.lor X.here hx rfl hd rfl h
theorem eLShl (X : Stand p l e R s m args below meth c T locs cells slots) (hx : p.tables.exec = Jvm.exec) {x : Int64} {y : Int32} (hd : decode c.code pc = .ok (.lshl, 1)) (hp : pc + 1 = pc') (kk : Ends p e below P T m pc' L (.long (x <<< (y &&& 0x3f).toInt64) :: S)) : Ends p e below P T m pc L (.int y :: .long x :: S) := by
  subst hp; exact kk.of fun t h => XS.lshl X.here hx rfl hd rfl h
theorem eLShr (X : Stand p l e R s m args below meth c T locs cells slots) (hx : p.tables.exec = Jvm.exec) {x : Int64} {y : Int32} (hd : decode c.code pc = .ok (.lshr, 1)) (hp : pc + 1 = pc') (kk : Ends p e below P T m pc' L (.long (x >>> (y &&& 0x3f).toInt64) :: S)) : Ends p e below P T m pc L (.int y :: .long x :: S) := by
  subst hp; exact kk.of fun t h => XS.lshr X.here hx rfl hd rfl h
theorem eLDiv (X : Stand p l e R s m args below meth c T locs cells slots) (hx : p.tables.exec = Jvm.exec) {x y : Int64} (hd : decode c.code pc = .ok (.ldiv, 1)) (hy : y ≠ 0) (hp : pc + 1 = pc') (kk : Ends p e below P T m pc' L (.long (x / y) :: S)) : Ends p e below P T m pc L (.long y :: .long x :: S) := by
  subst hp; exact kk.of fun t h => XT.ldiv X.here hx rfl hd rfl hy h
theorem eLRem (X : Stand p l e R s m args below meth c T locs cells slots) (hx : p.tables.exec = Jvm.exec) {x y : Int64} (hd : decode c.code pc = .ok (.lrem, 1)) (hy : y ≠ 0) (hp : pc + 1 = pc') (kk : Ends p e below P T m pc' L (.long (x % y) :: S)) : Ends p e below P T m pc L (.long y :: .long x :: S) := by
  subst hp; exact kk.of fun t h => XT.lrem X.here hx rfl hd rfl hy (by first | exact h | (rw [lrem_mod]; exact h))
theorem eLNeg (X : Stand p l e R s m args below meth c T locs cells slots) (hx : p.tables.exec = Jvm.exec) {x : Int64} (hd : decode c.code pc = .ok (.lneg, 1)) (hp : pc + 1 = pc') (kk : Ends p e below P T m pc' L (.long (-x) :: S)) : Ends p e below P T m pc L (.long x :: S) := by
  subst hp; exact kk.of fun t h => XT.lneg X.here hx rfl hd rfl h
theorem eLCmp (X : Stand p l e R s m args below meth c T locs cells slots) (hx : p.tables.exec = Jvm.exec) {x y : Int64} (hd : decode c.code pc = .ok (.lcmp, 1)) (hp : pc + 1 = pc') (kk : Ends p e below P T m pc' L (.int (XT.cmpL x y) :: S)) : Ends p e below P T m pc L (.long y :: .long x :: S) := by
  subst hp; exact kk.of fun t h => XT.lcmp X.here hx rfl hd rfl h
theorem eDup (X : Stand p l e R s m args below meth c T locs cells slots) (hx : p.tables.exec = Jvm.exec) {v : Value} (hd : decode c.code pc = .ok (.dup, 1)) (hc : v.category = 1) (hp : pc + 1 = pc') (kk : Ends p e below P T m pc' L (v :: v :: S)) : Ends p e below P T m pc L (v :: S) := by
  subst hp; exact kk.of fun t h => XS.dup X.here hx rfl hd rfl hc h
theorem ePop (X : Stand p l e R s m args below meth c T locs cells slots) (hx : p.tables.exec = Jvm.exec) {v : Value} (hd : decode c.code pc = .ok (.pop, 1)) (hc : v.category = 1) (hp : pc + 1 = pc') (kk : Ends p e below P T m pc' L S) : Ends p e below P T m pc L (v :: S) := by
  subst hp; exact kk.of fun t h => XT.pop X.here hx rfl hd rfl hc h
theorem eDupX1 (X : Stand p l e R s m args below meth c T locs cells slots) (hx : p.tables.exec = Jvm.exec) {v w : Value} (hd : decode c.code pc = .ok (.dup_x1, 1)) (hc : v.category = 1) (hc' : w.category = 1) (hp : pc + 1 = pc') (kk : Ends p e below P T m pc' L (v :: w :: v :: S)) : Ends p e below P T m pc L (v :: w :: S) := by
  subst hp; exact kk.of fun t h => XT.dupX1 X.here hx rfl hd rfl hc hc' h
theorem eDup2 (X : Stand p l e R s m args below meth c T locs cells slots) (hx : p.tables.exec = Jvm.exec) {v w : Value} (hd : decode c.code pc = .ok (.dup2, 1)) (hc : v.category = 1) (hc' : w.category = 1) (hp : pc + 1 = pc') (kk : Ends p e below P T m pc' L (v :: w :: v :: w :: S)) : Ends p e below P T m pc L (v :: w :: S) := by
  subst hp; exact kk.of fun t h => XT.dup2 X.here hx rfl hd rfl hc hc' h
theorem eDupX2 (X : Stand p l e R s m args below meth c T locs cells slots) (hx : p.tables.exec = Jvm.exec) {v w u : Value} (hd : decode c.code pc = .ok (.dup_x2, 1)) (hc : v.category = 1) (hc' : w.category = 1) (hc2 : u.category = 1) (hp : pc + 1 = pc') (kk : Ends p e below P T m pc' L (v :: w :: u :: v :: S)) : Ends p e below P T m pc L (v :: w :: u :: S) := by
  subst hp
  refine kk.of fun t h => ?_
  jvm_step X.here [X.here.top, hx, hd, hc, hc', hc2]
  exact h
theorem eIInc (X : Stand p l e R s m args below meth c T locs cells slots) (hx : p.tables.exec = Jvm.exec) {k : Nat} {cst : Int} {x : Int32} (v : Int32) (hd : decode c.code pc = .ok (.iinc k cst, 3)) (hv : Int32.ofInt cst = v) (hl : L[k]? = some (.val (.int x))) (hl' : storeLocals L k (.int (x + v)) = some L') (hp : pc + 3 = pc') (kk : Ends p e below P T m pc' L' S) : Ends p e below P T m pc L S := by
  subst hp hv; exact kk.of fun t h => XS.iinc X.here hx rfl hd hl hl' h
theorem eGoto (X : Stand p l e R s m args below meth c T locs cells slots) (hx : p.tables.exec = Jvm.exec) {o : Int} (hd : decode c.code pc = .ok (.goto o, 3)) (ho : 0 ≤ (pc : Int) + o) (hp : ((pc : Int) + o).toNat = pc') (kk : Ends p e below P T m pc' L S) : Ends p e below P T m pc L S :=
  kk.of fun t h => XS.goto X.here hx rfl rfl hd ho hp h
theorem eIfY (X : Stand p l e R s m args below meth c T locs cells slots) (hx : p.tables.exec = Jvm.exec) {cd : ClassFile.Cond} {x : Int32} {o : Int} (hd : decode c.code pc = .ok (.ifCond cd o, 3)) (hc : ifCond.holds cd x = true) (ho : 0 ≤ (pc : Int) + o) (hp : ((pc : Int) + o).toNat = pc') (kk : Ends p e below P T m pc' L S) : Ends p e below P T m pc L (.int x :: S) :=
  kk.of fun t h => XS.ifYes X.here hx rfl rfl hd rfl hc ho hp h
theorem eIfN (X : Stand p l e R s m args below meth c T locs cells slots) (hx : p.tables.exec = Jvm.exec) {cd : ClassFile.Cond} {x : Int32} {o : Int} (hd : decode c.code pc = .ok (.ifCond cd o, 3)) (hc : ifCond.holds cd x = false) (hp : pc + 3 = pc') (kk : Ends p e below P T m pc' L S) : Ends p e below P T m pc L (.int x :: S) := by
  subst hp; exact kk.of fun t h => XS.ifNo X.here hx rfl hd rfl hc h
theorem eIcmpY (X : Stand p l e R s m args below meth c T locs cells slots) (hx : p.tables.exec = Jvm.exec) {cd : ClassFile.Cond} {x y : Int32} {o : Int} (hd : decode c.code pc = .ok (.if_icmp cd o, 3)) (hc : if_icmp.holds cd x y = true) (ho : 0 ≤ (pc : Int) + o) (hp : ((pc : Int) + o).toNat = pc') (kk : Ends p e below P T m pc' L S) : Ends p e below P T m pc L (.int y :: .int x :: S) :=
  kk.of fun t h => XS.icmpYes X.here hx rfl rfl hd rfl hc ho hp h
theorem eIcmpN (X : Stand p l e R s m args below meth c T locs cells slots) (hx : p.tables.exec = Jvm.exec) {cd : ClassFile.Cond} {x y : Int32} {o : Int} (hd : decode c.code pc = .ok (.if_icmp cd o, 3)) (hc : if_icmp.holds cd x y = false) (hp : pc + 3 = pc') (kk : Ends p e below P T m pc' L S) : Ends p e below P T m pc L (.int y :: .int x :: S) := by
  subst hp; exact kk.of fun t h => XS.icmpNo X.here hx rfl hd rfl hc h
/-! steps that read or write the heap -/
theorem eGetF (X : Stand p l e R s m args below meth c T locs cells slots) (hx : p.tables.exec = Jvm.exec) (hZ : Z.Warmed39 s.vm) {own R0 O n d : String} {index : Nat} (hown : s.vm.findClass own = some m.cls) (w : (Cond.fieldLink own index R0 n d).before a0 Z = true) (via : Via Z R0 O n d) (eT : T.heap = h) {a : Addr} {v : Value} (F : Fld Z h a O n d v) (hd : decode c.code pc = .ok (.getfield index, 3)) (hp : pc + 3 = pc')
    (kk : ∀ T', Stand p l e R s m args below meth c T' locs cells slots → T'.heap = h → Ends p e below P T' m pc' L (v :: S)) : Ends p e below P T m pc L (.ref a :: S) := by
  subst hp
  obtain ⟨T', X', e', st⟩ := getF X hx hZ hown (host := "") (Or.inl w) via eT F (g := mkF m pc L (.ref a :: S)) rfl rfl hd
  exact (kk T' X' e').of st
theorem ePutF (X : Stand p l e R s m args below meth c T locs cells slots) (hx : p.tables.exec = Jvm.exec) (hZ : Z.Warmed39 s.vm) {own R0 O n d C : String} {index kk0 : Nat} {ty : FieldType} (hown : s.vm.findClass own = some m.cls) (w : (Cond.fieldLink own index R0 n d).before a0 Z = true) (via : Via Z R0 O n d) (eT : T.heap = h) {a : Addr} {v old : Value} (F : Fld Z h a O n d old) (E : Exa Z h a C) (La : (Cond.lays C O n d).before a0 Z = true ∨ ((Cond.laysFinal C O n d).before a0 Z = true ∧ own = O ∧ meth.name = "<init>")) (wi : (Cond.instantiable C kk0).before a0 Z = true) (hty : parseFieldDescriptor d = some ty) (hn : narrow ty v = v) (hf : fits ty v = true) (hd : decode c.code pc = .ok (.putfield index, 3)) (hp : pc + 3 = pc')
    (kk : ∀ T' h', Stand p l e R s m args below meth c T' (locs ++ [⟨a, Jvm.RoadKit.slotOf Z O n d⟩]) cells slots → T'.heap = h' → Wr h h' a (Jvm.RoadKit.slotOf Z O n d) v → Ends p e below P T' m pc' L S) : Ends p e below P T m pc L (v :: .ref a :: S) := by
  subst hp
  obtain ⟨T', h', X', e', W, st⟩ := putF X hx hZ hown (host := "") (Or.inl w) via eT F E La wi hty hn hf (g := mkF m pc L (v :: .ref a :: S)) rfl rfl hd
  exact (kk T' h' X' e' W).of st
theorem eNewO (X : Stand p l e R s m args below meth c T locs cells slots) (hx : p.tables.exec = Jvm.exec) (hZ : Z.Warmed39 s.vm) {own C : String} {index n : Nat} (hown : s.vm.findClass own = some m.cls) (w : (Cond.classLink own index C).before a0 Z = true) (wi : (Cond.instantiable C n).before a0 Z = true) (wz : (Cond.initialized C).before a0 Z = true) (eT : T.heap = h) (hd : decode c.code pc = .ok (.new index, 3)) (hc : cells + 1 ≤ R.cells) (hl : slots + n ≤ R.slots) (hp : pc + 3 = pc')
    (kk : ∀ T' h' a, a = h.size → Stand p l e R s m args below meth c T' locs (cells + 1) (slots + n) → T'.heap = h' → Ext h h' → Exa Z h' a C → (∀ {O nm d : String} {ty : FieldType}, Laid Z a0 C O nm d → parseFieldDescriptor d = some ty → Fld Z h' a O nm d (defaultValue ty)) → Ends p e below P T' m pc' L (.ref a :: S)) : Ends p e below P T m pc L S := by
  subst hp
  obtain ⟨T', h', X', e', E, A, D, -, st⟩ := newO X hx hZ hown w wi wz eT (g := mkF m pc L S) rfl hd hc hl
  exact (kk T' h' _ rfl X' e' E A D).of st
theorem eGetS (X : Stand p l e R s m args below meth c T locs cells slots) (hx : p.tables.exec = Jvm.exec) (hZ : Z.Warmed39 s.vm) {own O n d : String} {index : Nat} (hown : s.vm.findClass own = some m.cls) (w : (Cond.fieldLink own index O n d).before a0 Z = true) (eT : T.heap = h) {v : Value} (F : Sta Z h O n d v) (hd : decode c.code pc = .ok (.getstatic index, 3)) (hp : pc + 3 = pc')
    (kk : ∀ T', Stand p l e R s m args below meth c T' locs cells slots → T'.heap = h → Ends p e below P T' m pc' L (v :: S)) : Ends p e below P T m pc L S := by
  subst hp
  obtain ⟨T', X', e', st⟩ := getS X hx hZ (host := "") hown w Via.refl eT F (g := mkF m pc L S) rfl hd
  exact (kk T' X' e').of st
theorem Sta.keep1 {h' : Heap} {a : Addr} {C C' n d : String} {v : Value} (F : Sta Z h C n d v) (K : Keep h h' [a]) (E : Exa Z h a C') : Sta Z h' C n d v := by
  obtain ⟨cf, i, k, f, st, cell, h1, h2, h3, h4, h5, h6, h7⟩ := F
  obtain ⟨c2, k2, e1, e2, e3, e4, e5⟩ := E
  refine ⟨cf, i, k, f, st, cell, h1, h2, h3, h4, K.2.1 st cell h5 (fun q => ?_), h6, h7⟩
  cases List.mem_singleton.mp q
  cases h5.symm.trans e1
  rw [h6] at e4; cases e4
/-! an array of ints, booleans, chars, bytes: its list of values -/
def Ar (Z : State) (h : Heap) (a : Addr) (ty : FieldType) (vs : List Int32) : Prop := ∃ cl : Cell, Arr Z h a cl ty ∧ cl.slots = (vs.map Value.int).toArray ∧ vs.length < 2 ^ 31
def InB (vs : List Int32) (j : Int32) : Prop := ¬ j < 0 ∧ j.toNatClampNeg < vs.length
def rd (vs : List Int32) (j : Int32) : Int32 := vs.getD j.toNatClampNeg 0
def wr (vs : List Int32) (j x : Int32) : List Int32 := vs.set j.toNatClampNeg x
variable {h' : Heap} {a b : Addr} {ty : FieldType} {vs : List Int32}
theorem inbL {j : Int32} {n : Nat} (hl : vs.length = n) (h : ¬ j < 0 ∧ j.toNatClampNeg < n) : InB vs j := ⟨h.1, hl ▸ h.2⟩
theorem Ar.lt (F : Ar Z h a ty vs) : a < h.size := by obtain ⟨cl, A, -⟩ := F; exact A.lt
theorem Ar.small (F : Ar Z h a ty vs) : vs.length < 2 ^ 31 := by obtain ⟨cl, A, e1, e2⟩ := F; exact e2
theorem Ar.ext (F : Ar Z h a ty vs) (E : Ext h h') : Ar Z h' a ty vs := by obtain ⟨cl, A, r⟩ := F; exact ⟨cl, A.ext E, r⟩
theorem Ar.other {sl : Nat} {v : Value} (F : Ar Z h b ty vs) (W : Wr h h' a sl v) (q : b ≠ a) : Ar Z h' b ty vs := by obtain ⟨cl, A, r⟩ := F; exact ⟨cl, A.other W q, r⟩
theorem Ar.keep {ws : List Addr} (F : Ar Z h a ty vs) (K : Keep h h' ws) (q : a ∉ ws) : Ar Z h' a ty vs := by obtain ⟨cl, A, r⟩ := F; exact ⟨cl, ⟨K.2.1 a cl A.1 q, A.2⟩, r⟩
theorem Ar.same {j x : Int32} (F : Ar Z h a ty vs) (W : Wr h h' a j.toNatClampNeg (.int x)) : Ar Z h' a ty (wr vs j x) := by
  obtain ⟨cl, A, e1, e2⟩ := F
  refine ⟨_, A.same W, ?_, by simpa [wr] using e2⟩
  show cl.slots.setIfInBounds _ _ = _
  rw [e1, wr, List.map_set]
  simp
theorem Ar.new {k : ClassId} {n : Int32} (A : Arr Z h a (newA k ty n) ty) (hn : ¬ n < 0) (hd : defaultValue ty = .int 0) : Ar Z h a ty (List.replicate n.toNatClampNeg 0) := by
  refine ⟨_, A, ?_, by simpa using (back32 hn).2⟩
  show Array.replicate n.toNatClampNeg (defaultValue ty) = _
  rw [hd, List.map_replicate]
  simp
theorem Ar.inb {cl : Cell} {j : Int32} (e1 : cl.slots = (vs.map Value.int).toArray) (q : InB vs j) : ¬ (j < 0 ∨ cl.slots.size ≤ j.toNatClampNeg) := by
  rw [e1]; simp only [List.size_toArray, List.length_map]
  exact fun z => z.elim q.1 (fun y => by have := q.2; omega)
theorem Ar.get {cl : Cell} {j : Int32} (e1 : cl.slots = (vs.map Value.int).toArray) (q : InB vs j) : cl.slots[j.toNatClampNeg]? = some (.int (rd vs j)) := by
  rw [e1]; have := q.2
  simp [rd, List.getElem?_eq_getElem this, List.getD_eq_getElem?_getD]
theorem eLen (X : Stand p l e R s m args below meth c T locs cells slots) (hx : p.tables.exec = Jvm.exec) (hZ : Z.Warmed39 s.vm) (eT : T.heap = h) (F : Ar Z h a ty vs) (n : Int32) (hn : Int32.ofNat vs.length = n) (hd : decode c.code pc = .ok (.arraylength, 1)) (hp : pc + 1 = pc') (kk : Ends p e below P T m pc' L (.int n :: S)) : Ends p e below P T m pc L (.ref a :: S) := by
  subst hp hn
  obtain ⟨cl, A, e1, e2⟩ := F
  refine kk.of fun t k => X.arraylength hx (by rw [eT]; exact A.1) (State.isArrayOf_alike hZ.alike A.2.1) (g := mkF m pc L (.ref a :: S)) rfl rfl hd _ ?_
  rw [e1]; simp only [List.size_toArray, List.length_map]; exact k
theorem eIALoad (X : Stand p l e R s m args below meth c T locs cells slots) (hx : p.tables.exec = Jvm.exec) (hZ : Z.Warmed39 s.vm) (eT : T.heap = h) (F : Ar Z h a .int vs) {j : Int32} (v : Int32) (hv : rd vs j = v) (q : InB vs j) (hd : decode c.code pc = .ok (.iaload, 1)) (hp : pc + 1 = pc') (kk : Ends p e below P T m pc' L (.int v :: S)) : Ends p e below P T m pc L (.int j :: .ref a :: S) := by
  subst hp hv
  obtain ⟨cl, A, e1, e2⟩ := F
  exact kk.of fun t k => X.iaload hx (by rw [eT]; exact A.1) (State.isArrayOf_alike hZ.alike A.2.1) A.2.2 (Ar.inb e1 q) (Ar.get e1 q) (g := mkF m pc L (.int j :: .ref a :: S)) rfl rfl hd _ k
theorem eCALoad (X : Stand p l e R s m args below meth c T locs cells slots) (hx : p.tables.exec = Jvm.exec) (hZ : Z.Warmed39 s.vm) (eT : T.heap = h) (F : Ar Z h a .char vs) {j : Int32} (v : Int32) (hv : rd vs j = v) (q : InB vs j) (hd : decode c.code pc = .ok (.caload, 1)) (hp : pc + 1 = pc') (kk : Ends p e below P T m pc' L (.int v :: S)) : Ends p e below P T m pc L (.int j :: .ref a :: S) := by
  subst hp hv
  obtain ⟨cl, A, e1, e2⟩ := F
  exact kk.of fun t k => X.caload hx (by rw [eT]; exact A.1) (State.isArrayOf_alike hZ.alike A.2.1) A.2.2 (Ar.inb e1 q) (Ar.get e1 q) (g := mkF m pc L (.int j :: .ref a :: S)) rfl rfl hd _ k
theorem eZALoad (X : Stand p l e R s m args below meth c T locs cells slots) (hx : p.tables.exec = Jvm.exec) (hZ : Z.Warmed39 s.vm) (eT : T.heap = h) (F : Ar Z h a .boolean vs) {j : Int32} (v : Int32) (hv : rd vs j = v) (q : InB vs j) (hd : decode c.code pc = .ok (.baload, 1)) (hp : pc + 1 = pc') (kk : Ends p e below P T m pc' L (.int v :: S)) : Ends p e below P T m pc L (.int j :: .ref a :: S) := by
  subst hp hv
  obtain ⟨cl, A, e1, e2⟩ := F
  exact kk.of fun t k => X.baloadBooleans hx (by rw [eT]; exact A.1) (State.isArrayOf_alike hZ.alike A.2.1) A.2.2 (Ar.inb e1 q) (Ar.get e1 q) (g := mkF m pc L (.int j :: .ref a :: S)) rfl rfl hd _ k
theorem eIAStore (X : Stand p l e R s m args below meth c T locs cells slots) (hx : p.tables.exec = Jvm.exec) (hZ : Z.Warmed39 s.vm) (eT : T.heap = h) (F : Ar Z h a .int vs) {j x : Int32} (q : InB vs j) (hd : decode c.code pc = .ok (.iastore, 1)) (hp : pc + 1 = pc')
    (kk : ∀ T' h', Stand p l e R s m args below meth c T' (locs ++ [⟨a, j.toNatClampNeg⟩]) cells slots → T'.heap = h' → Wr h h' a j.toNatClampNeg (.int x) → Ar Z h' a .int (wr vs j x) → Ends p e below P T' m pc' L S) : Ends p e below P T m pc L (.int x :: .int j :: .ref a :: S) := by
  subst hp
  have F0 := F
  obtain ⟨cl, A, e1, e2⟩ := F
  obtain ⟨T', h', X', e', W, st⟩ := stI X hx hZ eT A (Ar.inb e1 q) (g := mkF m pc L (.int x :: .int j :: .ref a :: S)) rfl rfl hd
  exact (kk T' h' X' e' W (F0.same W)).of st
theorem eCAStore (X : Stand p l e R s m args below meth c T locs cells slots) (hx : p.tables.exec = Jvm.exec) (hZ : Z.Warmed39 s.vm) (eT : T.heap = h) (F : Ar Z h a .char vs) {j x : Int32} (q : InB vs j) (hd : decode c.code pc = .ok (.castore, 1)) (hp : pc + 1 = pc')
    (kk : ∀ T' h', Stand p l e R s m args below meth c T' (locs ++ [⟨a, j.toNatClampNeg⟩]) cells slots → T'.heap = h' → Wr h h' a j.toNatClampNeg (.int (nar .char x)) → Ar Z h' a .char (wr vs j (nar .char x)) → Ends p e below P T' m pc' L S) : Ends p e below P T m pc L (.int x :: .int j :: .ref a :: S) := by
  subst hp
  have F0 := F
  obtain ⟨cl, A, e1, e2⟩ := F
  obtain ⟨T', h', X', e', W, st⟩ := stC X hx hZ eT A (Ar.inb e1 q) (g := mkF m pc L (.int x :: .int j :: .ref a :: S)) rfl rfl hd
  exact (kk T' h' X' e' W (F0.same W)).of st
theorem eZAStore (X : Stand p l e R s m args below meth c T locs cells slots) (hx : p.tables.exec = Jvm.exec) (hZ : Z.Warmed39 s.vm) (eT : T.heap = h) (F : Ar Z h a .boolean vs) {j x : Int32} (q : InB vs j) (hd : decode c.code pc = .ok (.bastore, 1)) (hp : pc + 1 = pc')
    (kk : ∀ T' h', Stand p l e R s m args below meth c T' (locs ++ [⟨a, j.toNatClampNeg⟩]) cells slots → T'.heap = h' → Wr h h' a j.toNatClampNeg (.int (nar .boolean x)) → Ar Z h' a .boolean (wr vs j (nar .boolean x)) → Ends p e below P T' m pc' L S) : Ends p e below P T m pc L (.int x :: .int j :: .ref a :: S) := by
  subst hp
  have F0 := F
  obtain ⟨cl, A, e1, e2⟩ := F
  obtain ⟨T', h', X', e', W, st⟩ := stZ X hx hZ eT A (Ar.inb e1 q) (g := mkF m pc L (.int x :: .int j :: .ref a :: S)) rfl rfl hd
  exact (kk T' h' X' e' W (F0.same W)).of st
theorem eNewA (X : Stand p l e R s m args below meth c T locs cells slots) (hx : p.tables.exec = Jvm.exec) (hZ : Z.Warmed39 s.vm) {aty : ArrayType} (hty : newarray.typeOf aty = ty) (hdf : defaultValue ty = .int 0) (w : (Cond.arrayClass ty).before a0 Z = true) (eT : T.heap = h) (hd : decode c.code pc = .ok (.newarray aty, 2)) {n : Int32} (hn : ¬ n < 0) {cap : Nat} (hcap : n.toNatClampNeg ≤ cap) (hb : cap * 8 ≤ 536870912) (hc : cells + 1 ≤ R.cells) (hl : slots + cap ≤ R.slots) (hp : pc + 2 = pc')
    (kk : ∀ T' h' a, a = h.size → Stand p l e R s m args below meth c T' locs (cells + 1) (slots + cap) → T'.heap = h' → Ext h h' → Ar Z h' a ty (List.replicate n.toNatClampNeg 0) → Ends p e below P T' m pc' L (.ref a :: S)) : Ends p e below P T m pc L (.int n :: S) := by
  subst hp hty
  obtain ⟨T', h', cA, X', e', E, A, st⟩ := newP X hx hZ w eT (g := mkF m pc L (.int n :: S)) rfl hd rfl hn hcap hb hc hl
  exact (kk T' h' _ rfl X' e' E (Ar.new A hn hdf)).of st
theorem eNewE (X : Stand p l e R s m args below meth c T locs cells slots) (hx : p.tables.exec = Jvm.exec) (hZ : Z.Warmed39 s.vm) {aty : ArrayType} (hty : newarray.typeOf aty = ty) (hdf : defaultValue ty = .int 0) (w : (Cond.arrayClass ty).before a0 Z = true) (eT : T.heap = h) (hd : decode c.code pc = .ok (.newarray aty, 2)) {n : Int32} (hn : ¬ n < 0) {cap : Nat} (hcap : n.toNatClampNeg ≤ cap) (hb : cap * 8 ≤ 536870912) (hc : cells + 1 ≤ R.cells) (hl : slots + cap ≤ R.slots) (ad : String) (had : "[" ++ ty.toString = ad) (hp : pc + 2 = pc')
    (kk : ∀ T' h' a, a = h.size → Stand p l e R s m args below meth c T' locs (cells + 1) (slots + cap) → T'.heap = h' → Ext h h' → Ar Z h' a ty (List.replicate n.toNatClampNeg 0) → Exa Z h' a ad → Ends p e below P T' m pc' L (.ref a :: S)) : Ends p e below P T m pc L (.int n :: S) := by
  subst hp hty
  obtain ⟨T', h', cA, X', e', E, A, Ex, st⟩ := newPE X hx hZ w eT (g := mkF m pc L (.int n :: S)) rfl hd rfl hn hcap hb hc hl had
  exact (kk T' h' _ rfl X' e' E (Ar.new A hn hdf) Ex).of st
theorem eCast (X : Stand p l e R s m args below meth c T locs cells slots) (hx : p.tables.exec = Jvm.exec) (hZ : Z.Warmed39 s.vm) {own K : String} {index : Nat} (hown : s.vm.findClass own = some m.cls) (w : (Cond.classLink own index K).before a0 Z = true) (eT : T.heap = h) (F : Ins Z h a K true) (hd : decode c.code pc = .ok (.checkcast index, 3)) (hp : pc + 3 = pc')
    (kk : ∀ T', Stand p l e R s m args below meth c T' locs cells slots → T'.heap = h → Ends p e below P T' m pc' L (.ref a :: S)) : Ends p e below P T m pc L (.ref a :: S) := by
  subst hp
  obtain ⟨T', X', e', st⟩ := castY X hx hZ hown w eT F (g := mkF m pc L (.ref a :: S)) rfl rfl hd
  exact (kk T' X' e').of st
theorem eNonNullY (X : Stand p l e R s m args below meth c T locs cells slots) (hx : p.tables.exec = Jvm.exec) {o : Int} (hd : decode c.code pc = .ok (.ifnonnull o, 3)) (ho : 0 ≤ (pc : Int) + o) (hp : ((pc : Int) + o).toNat = pc') (kk : Ends p e below P T m pc' L S) : Ends p e below P T m pc L (.ref a :: S) :=
  kk.of fun t h => XT.ifnonnullYes X.here hx rfl rfl hd rfl ho hp h
theorem eNonNullN (X : Stand p l e R s m args below meth c T locs cells slots) (hx : p.tables.exec = Jvm.exec) {o : Int} (hd : decode c.code pc = .ok (.ifnonnull o, 3)) (hp : pc + 3 = pc') (kk : Ends p e below P T m pc' L S) : Ends p e below P T m pc L (.null :: S) := by
  subst hp; exact kk.of fun t h => XT.ifnonnullNo X.here hx rfl hd rfl h
theorem eNullY (X : Stand p l e R s m args below meth c T locs cells slots) (hx : p.tables.exec = Jvm.exec) {o : Int} (hd : decode c.code pc = .ok (.ifnull o, 3)) (ho : 0 ≤ (pc : Int) + o) (hp : ((pc : Int) + o).toNat = pc') (kk : Ends p e below P T m pc' L S) : Ends p e below P T m pc L (.null :: S) :=
  kk.of fun t h => XS.ifnullYes X.here hx rfl rfl hd rfl ho hp h
theorem eNullN (X : Stand p l e R s m args below meth c T locs cells slots) (hx : p.tables.exec = Jvm.exec) {o : Int} (hd : decode c.code pc = .ok (.ifnull o, 3)) (hp : pc + 3 = pc') (kk : Ends p e below P T m pc' L S) : Ends p e below P T m pc L (.ref a :: S) := by
  subst hp; exact kk.of fun t h => XS.ifnullNo X.here hx rfl hd rfl h
theorem eTsw (X : Stand p l e R s m args below meth c T locs cells slots) (hx : p.tables.exec = Jvm.exec) {dflt low high : Int} {offs : Array Int} {len : Nat} {o : Int} {i : Int32} (hd : decode c.code pc = .ok (.tableswitch dflt low high offs, len)) (hin : ¬ (i.toInt < low ∨ i.toInt > high)) (hoff : offs[(i.toInt - low).toNat]? = some o) (ho : 0 ≤ (pc : Int) + o) (hp : ((pc : Int) + o).toNat = pc') (kk : Ends p e below P T m pc' L S) : Ends p e below P T m pc L (.int i :: S) :=
  kk.of fun t h => XS.tswIn X.here hx rfl rfl hd rfl hin hoff ho hp h
/-! calls -/
def PostQ (s : State) (C D : Nat) (Q : Option Value → Heap → List Loc → Prop) : State → Outcome → Prop := fun t o => ∃ v L, o = .returned v ∧ Q v t.heap L ∧ FrameEnd s o t L C D
abbrev MetC (l : Launch) (Z : State) (y : MethodName) (ws : List Jvm.Cond) (rm : Room) (as' : Array Value) (h : Heap) (C D : Nat) (Q : Option Value → Heap → List Loc → Prop) : Prop :=
  MetFree l y (head1 ws rm) (fun a U => a = as' ∧ Z.Warmed39 U.vm ∧ U.heap = h) (fun _ _ _ _ _ => True) (fun _ U o U' => PostQ U C D Q U' o)
abbrev MetQ (l : Launch) (Z : State) (y : MethodName) (ws : List Jvm.Cond) (rm : Room) (as' : Array Value) (h : Heap) (Q : Option Value → Heap → List Loc → Prop) : Prop :=
  MetFree l y (head1 ws rm) (fun a U => a = as' ∧ Z.Warmed39 U.vm ∧ U.heap = h) (fun _ _ _ _ _ => True) (fun _ U o U' => PostQ U rm.cells rm.slots Q U' o)
theorem eCallS (X : Stand p l e R s m args below meth c T locs cells slots) (hx : p.tables.exec = Jvm.exec) (hZ : Z.Warmed39 s.vm) {own : String} {index : Nat} {y : MethodName} {bytes : ByteArray} {maxL : Nat} {ret : Option FieldType} (hown : s.vm.findClass own = some m.cls) (w1 : (Cond.methodLink own index y).before a0 Z = true) (w2 : (Cond.static y).before a0 Z = true) (w3 : (Cond.initialized y.cls).before a0 Z = true) (w4 : (Cond.code y bytes maxL ret).before a0 Z = true) (hy : y.cls ≠ "java/lang/invoke/MethodHandle" ∧ y.cls ≠ "java/lang/invoke/VarHandle") (eT : T.heap = h) {rm : Room} {Q : Option Value → Heap → List Loc → Prop} {argsL rest : List Value} (hM : MetQ l Z y [Cond.code y bytes maxL ret] rm argsL.toArray h Q) (hlen : ∀ sig, parseMethodDescriptor y.desc = some sig → argsL.length = sig.parameters.length) (hS : S = argsL.reverse ++ rest) (hsize : L.size = c.maxLocals) (W : Nat) (hW : 2 * 0 + (rest.map fun v => v.category).sum ≤ W) (hf : rm.frames + 1 ≤ R.frames) (hl : W + (maxL + 11) + rm.locals ≤ R.locals) (hc : cells + rm.cells ≤ R.cells) (hs : slots + rm.slots ≤ R.slots) (hd : decode c.code pc = .ok (.invokestatic index, 3)) (hp : pc + 3 = pc')
    (kk : ∀ v T' L', Q v T'.heap L' → Stand p l e R s m args below meth c T' (locs ++ L') (cells + rm.cells) (slots + rm.slots) → Ends p e below P T' m pc' L (v.toList ++ rest)) : Ends p e below P T m pc L S := by
  subst hp hS
  obtain ⟨v, _, ⟨T1, L1, k1, n1⟩, -, X1, ⟨Lc, hQ, l1, y1, z1⟩, st⟩ := Jvm.LawKit.callS X hx (y := y) hown (mvT hZ w1) (mvT hZ w2) (mvT hZ w3) (mvT hZ w4) hy (backOf (W := W) (Q := Q) hM hZ w4 w3 hf hl) (g := mkF m pc L (argsL.reverse ++ rest)) rfl hsize (argsL := argsL) (rest := rest) hlen rfl hW hd (fun _ _ => ⟨rfl, eT, hc, hs⟩)
  dsimp only [Pt.U, Pt.locs, Pt.cells, Pt.slots] at X1 l1 y1 z1 st hQ
  subst l1 y1 z1
  exact (kk v T1 Lc hQ X1).of st
theorem eCallI (X : Stand p l e R s m args below meth c T locs cells slots) (hx : p.tables.exec = Jvm.exec) (hZ : Z.Warmed39 s.vm) {own : String} {index : Nat} {y : MethodName} {bytes : ByteArray} {maxL : Nat} (hy1 : y.name = "<init>") (hown : s.vm.findClass own = some m.cls) (w1 : (Cond.methodLink own index y).before a0 Z = true) (w2 : (Cond.instanceMethod y).before a0 Z = true) (w3 : (Cond.initialized y.cls).before a0 Z = true) (w4 : (Cond.code y bytes maxL none).before a0 Z = true) (hy : y.cls ≠ "java/lang/invoke/MethodHandle" ∧ y.cls ≠ "java/lang/invoke/VarHandle") (eT : T.heap = h) {rm : Room} {Q : Option Value → Heap → List Loc → Prop} {argsL rest : List Value} (hM : MetQ l Z y [Cond.code y bytes maxL none] rm (.ref a :: argsL).toArray h Q) (hlen : ∀ sig, parseMethodDescriptor y.desc = some sig → argsL.length = sig.parameters.length) (hS : S = argsL.reverse ++ .ref a :: rest) (hsize : L.size = c.maxLocals) (W : Nat) (hW : 2 * 0 + (rest.map fun v => v.category).sum ≤ W) (hf : rm.frames + 1 ≤ R.frames) (hl : W + (maxL + 11) + rm.locals ≤ R.locals) (hc : cells + rm.cells ≤ R.cells) (hs : slots + rm.slots ≤ R.slots) (hd : decode c.code pc = .ok (.invokespecial index, 3)) (hp : pc + 3 = pc')
    (kk : ∀ v T' L', Q v T'.heap L' → Stand p l e R s m args below meth c T' (locs ++ L') (cells + rm.cells) (slots + rm.slots) → Ends p e below P T' m pc' L (v.toList ++ rest)) : Ends p e below P T m pc L S := by
  subst hp hS
  obtain ⟨v, _, ⟨T1, L1, k1, n1⟩, -, X1, ⟨Lc, hQ, l1, y1, z1⟩, st⟩ := X.specialBack hx (y := y) hy1 hown (mvT hZ w1) (mvT hZ w2) (mvT hZ w4) hy (backOf (W := W) (Q := Q) hM hZ w4 w3 hf hl) (g := mkF m pc L (argsL.reverse ++ .ref a :: rest)) rfl hsize (Steps.refl _) (a := a) (argsL := argsL) (rest := rest) hlen rfl hW hd (fun _ _ => ⟨rfl, eT, hc, hs⟩)
  dsimp only [Pt.U, Pt.locs, Pt.cells, Pt.slots] at X1 l1 y1 z1 st hQ
  subst l1 y1 z1
  exact (kk v T1 Lc hQ X1).of fun t k => st.trans k
theorem eCallV (X : Stand p l e R s m args below meth c T locs cells slots) (hx : p.tables.exec = Jvm.exec) (hZ : Z.Warmed39 s.vm) {own C : String} {index : Nat} {y : MethodName} {bytes : ByteArray} {maxL : Nat} {ret : Option FieldType} (hown : s.vm.findClass own = some m.cls) (w1 : (Cond.methodLink own index y).before a0 Z = true) (w2 : (Cond.declares y).before a0 Z = true) (w5 : (Cond.selects C y y).before a0 Z = true) (w6 : (Cond.instanceMethod y).before a0 Z = true) (w3 : (Cond.initialized y.cls).before a0 Z = true) (w4 : (Cond.code y bytes maxL ret).before a0 Z = true) (hy : y.cls ≠ "java/lang/invoke/MethodHandle" ∧ y.cls ≠ "java/lang/invoke/VarHandle") (eT : T.heap = h) (E : Exa Z h a C) {rm : Room} {Q : Option Value → Heap → List Loc → Prop} {argsL rest : List Value} (hM : MetQ l Z y [Cond.code y bytes maxL ret] rm (.ref a :: argsL).toArray h Q) (hlen : ∀ sig, parseMethodDescriptor y.desc = some sig → argsL.length = sig.parameters.length) (hS : S = argsL.reverse ++ .ref a :: rest) (hsize : L.size = c.maxLocals) (W : Nat) (hW : 2 * 0 + (rest.map fun v => v.category).sum ≤ W) (hf : rm.frames + 1 ≤ R.frames) (hl : W + (maxL + 11) + rm.locals ≤ R.locals) (hc : cells + rm.cells ≤ R.cells) (hs : slots + rm.slots ≤ R.slots) (hd : decode c.code pc = .ok (.invokevirtual index, 3)) (hp : pc + 3 = pc')
    (kk : ∀ v T' L', Q v T'.heap L' → Stand p l e R s m args below meth c T' (locs ++ L') (cells + rm.cells) (slots + rm.slots) → Ends p e below P T' m pc' L (v.toList ++ rest)) : Ends p e below P T m pc L S := by
  subst hp hS
  obtain ⟨cq, kq, q1, q2, q3⟩ := isOf hZ eT E
  obtain ⟨v, _, ⟨T1, L1, k1, n1⟩, -, X1, ⟨Lc, hQ, l1, y1, z1⟩, st⟩ := X.virtualBack hx (y := y) (z := y) hown (mvT hZ w1) (mvT hZ w2) (notFace_of_selects (args := #[]) (mvT hZ w5)) (mvT hZ w5) (mvT hZ w6) hy (backOf (W := W) (Q := Q) hM hZ w4 w3 hf hl) q1 q3 (g := mkF m pc L (argsL.reverse ++ .ref a :: rest)) rfl hsize (Steps.refl _) (argsL := argsL) (rest := rest) hlen rfl hW hd (fun _ _ => ⟨rfl, eT, hc, hs⟩)
  dsimp only [Pt.U, Pt.locs, Pt.cells, Pt.slots] at X1 l1 y1 z1 st hQ
  subst l1 y1 z1
  exact (kk v T1 Lc hQ X1).of fun t k => st.trans k
/-! returns -/
theorem eEnd (X : Stand p l e R s m args below meth c T locs cells slots) (hlk : meth.locks = false) {C D : Nat} {Q : Option Value → Heap → List Loc → Prop} {v : Option Value} (hv : meth.sig.returnType = none → v = none) (hC : cells ≤ C) (hD : slots ≤ D) (hq : Q v T.heap locs)
    (st : ∀ fs, (∀ (f : JFrame) (acts : List Action), f.method = m → f.locked = none → f.entered = [] → (doReturn e (T.setTop f) acts v).1 = T.setFrames fs) → Steps p.tables e below (T.setTop (mkF m pc L S)) (T.setFrames fs)) : Ends p e below (PostQ s C D Q) T m pc L S := by
  obtain ⟨fs, hr, hrun, hended, hW, hsame⟩ := X.leave (v := v) hv hlk
  exact ⟨_, _, st fs hr, hrun, hended, v, locs, rfl, hq, ⟨_, rfl⟩, hW, hsame.mono hC hD⟩
theorem eRetN (X : Stand p l e R s m args below meth c T locs cells slots) (hx : p.tables.exec = Jvm.exec) {t : FieldType} {z : Int32} (hret : meth.sig.returnType = some t) (ht : t = .boolean ∨ t = .byte ∨ t = .char ∨ t = .short) (hlk : meth.locks = false) (hd : decode c.code pc = .ok (.ireturn, 1)) {C D : Nat} {Q : Option Value → Heap → List Loc → Prop} (hC : cells ≤ C) (hD : slots ≤ D) (hq : Q (some (.int (nar t z))) T.heap locs) : Ends p e below (PostQ s C D Q) T m pc L (.int z :: S) :=
  eEnd X hlk (fun h => by rw [hret] at h; cases h) hC hD hq fun fs hr => retN X hx hret ht hd hr
theorem eRetO (X : Stand p l e R s m args below meth c T locs cells slots) (hx : p.tables.exec = Jvm.exec) {t : FieldType} {w : Value} {i : Instr} (hret : meth.sig.returnType = some t) (hn : narrow t w = w) (hi : (i = .ireturn ∧ (t = .int ∨ t = .boolean ∨ t = .byte ∨ t = .char ∨ t = .short) ∧ ∃ z, w = .int z) ∨ (i = .lreturn ∧ t = .long ∧ ∃ z, w = .long z) ∨ (i = .dreturn ∧ t = .double ∧ ∃ z, w = .double z) ∨ (i = .freturn ∧ t = .float ∧ ∃ z, w = .float z) ∨ (i = .areturn ∧ t.isReference = true ∧ w.isRef = true)) (hlk : meth.locks = false) (hd : decode c.code pc = .ok (i, 1)) {C D : Nat} {Q : Option Value → Heap → List Loc → Prop} (hC : cells ≤ C) (hD : slots ≤ D) (hq : Q (some w) T.heap locs) : Ends p e below (PostQ s C D Q) T m pc L (w :: S) :=
  eEnd X hlk (fun h => by rw [hret] at h; cases h) hC hD hq fun fs hr => retOut X hx hret hn hi hd hr
theorem eRetI (X : Stand p l e R s m args below meth c T locs cells slots) (hx : p.tables.exec = Jvm.exec) {z : Int32} (hret : meth.sig.returnType = some .int) (hlk : meth.locks = false) (hd : decode c.code pc = .ok (.ireturn, 1)) {C D : Nat} {Q : Option Value → Heap → List Loc → Prop} (hC : cells ≤ C) (hD : slots ≤ D) (hq : Q (some (.int z)) T.heap locs) : Ends p e below (PostQ s C D Q) T m pc L (.int z :: S) :=
  eRetO X hx hret rfl (Or.inl ⟨rfl, Or.inl rfl, z, rfl⟩) hlk hd hC hD hq
theorem eRetL (X : Stand p l e R s m args below meth c T locs cells slots) (hx : p.tables.exec = Jvm.exec) {z : Int64} (hret : meth.sig.returnType = some .long) (hlk : meth.locks = false) (hd : decode c.code pc = .ok (.lreturn, 1)) {C D : Nat} {Q : Option Value → Heap → List Loc → Prop} (hC : cells ≤ C) (hD : slots ≤ D) (hq : Q (some (.long z)) T.heap locs) : Ends p e below (PostQ s C D Q) T m pc L (.long z :: S) :=
  eRetO X hx hret rfl (Or.inr (Or.inl ⟨rfl, rfl, z, rfl⟩)) hlk hd hC hD hq
theorem eRetA (X : Stand p l e R s m args below meth c T locs cells slots) (hx : p.tables.exec = Jvm.exec) {t : FieldType} {w : Value} (hret : meth.sig.returnType = some t) (ht : t.isReference = true) (hn : narrow t w = w) (hw : w.isRef = true) (hlk : meth.locks = false) (hd : decode c.code pc = .ok (.areturn, 1)) {C D : Nat} {Q : Option Value → Heap → List Loc → Prop} (hC : cells ≤ C) (hD : slots ≤ D) (hq : Q (some w) T.heap locs) : Ends p e below (PostQ s C D Q) T m pc L (w :: S) :=
  eRetO X hx hret hn (Or.inr (Or.inr (Or.inr (Or.inr ⟨rfl, ht, hw⟩)))) hlk hd hC hD hq
theorem eRetV (X : Stand p l e R s m args below meth c T locs cells slots) (hx : p.tables.exec = Jvm.exec) (hret : meth.sig.returnType = none) (hlk : meth.locks = false) (hd : decode c.code pc = .ok (.return_, 1)) {C D : Nat} {Q : Option Value → Heap → List Loc → Prop} (hC : cells ≤ C) (hD : slots ≤ D) (hq : Q none T.heap locs) : Ends p e below (PostQ s C D Q) T m pc L [] :=
  eEnd X hlk (fun _ => rfl) hC hD hq fun fs hr => X.returnOut hx hret hd hr
abbrev PVI (s : State) (C D n0 : Nat) (h0 : Heap) (r : Int32) : State → Outcome → Prop := PostQ s C D (fun v h L => v = some (.int r) ∧ Fr n0 L ∧ h = h0)
abbrev PVL (s : State) (C D n0 : Nat) (h0 : Heap) (r : Int64) : State → Outcome → Prop := PostQ s C D (fun v h L => v = some (.long r) ∧ Fr n0 L ∧ h = h0)
abbrev PVW (s : State) (C D n0 : Nat) (r : Int32) : State → Outcome → Prop := PostQ s C D (fun v h L => v = some (.int r) ∧ Fr n0 L)
end Own

theorem own_pn0 : plainName "com/example/wildcard/wildcard/XmlCharacters" = true := by first | (simp [plainName, overriddenIn]; done) | decide +kernel
theorem own_d1_0 : decode prog_99_method_5_code 0 = .ok (.iload_n 0, 1) := by decide +kernel
theorem own_d1_1 : decode prog_99_method_5_code 1 = .ok (.sipush 192, 3) := by decide +kernel
theorem own_d1_4 : decode prog_99_method_5_code 4 = .ok (.if_icmp .ge 45, 3) := by decide +kernel
theorem own_d1_7 : decode prog_99_method_5_code 7 = .ok (.iload_n 0, 1) := by decide +kernel
theorem own_d1_8 : decode prog_99_method_5_code 8 = .ok (.bipush 97, 2) := by decide +kernel
theorem own_d1_10 : decode prog_99_method_5_code 10 = .ok (.if_icmp .lt 9, 3) := by decide +kernel
theorem own_d1_19 : decode prog_99_method_5_code 19 = .ok (.iload_n 0, 1) := by decide +kernel
theorem own_d1_20 : decode prog_99_method_5_code 20 = .ok (.bipush 65, 2) := by decide +kernel
theorem own_d1_22 : decode prog_99_method_5_code 22 = .ok (.if_icmp .lt 9, 3) := by decide +kernel
theorem own_d1_31 : decode prog_99_method_5_code 31 = .ok (.iload_n 0, 1) := by decide +kernel
theorem own_d1_32 : decode prog_99_method_5_code 32 = .ok (.bipush 95, 2) := by decide +kernel
theorem own_d1_34 : decode prog_99_method_5_code 34 = .ok (.if_icmp .eq 9, 3) := by decide +kernel
theorem own_d1_43 : decode prog_99_method_5_code 43 = .ok (.iconst 1, 1) := by decide +kernel
theorem own_d1_44 : decode prog_99_method_5_code 44 = .ok (.goto 4, 3) := by decide +kernel
theorem own_d1_48 : decode prog_99_method_5_code 48 = .ok (.ireturn, 1) := by decide +kernel
theorem own_d1_37 : decode prog_99_method_5_code 37 = .ok (.iload_n 0, 1) := by decide +kernel
theorem own_d1_38 : decode prog_99_method_5_code 38 = .ok (.bipush 58, 2) := by decide +kernel
theorem own_d1_40 : decode prog_99_method_5_code 40 = .ok (.if_icmp .ne 7, 3) := by decide +kernel
theorem own_d1_47 : decode prog_99_method_5_code 47 = .ok (.iconst 0, 1) := by decide +kernel
theorem own_d1_25 : decode prog_99_method_5_code 25 = .ok (.iload_n 0, 1) := by decide +kernel
theorem own_d1_26 : decode prog_99_method_5_code 26 = .ok (.bipush 90, 2) := by decide +kernel
theorem own_d1_28 : decode prog_99_method_5_code 28 = .ok (.if_icmp .le 15, 3) := by decide +kernel
theorem own_d1_13 : decode prog_99_method_5_code 13 = .ok (.iload_n 0, 1) := by decide +kernel
theorem own_d1_14 : decode prog_99_method_5_code 14 = .ok (.bipush 122, 2) := by decide +kernel
theorem own_d1_16 : decode prog_99_method_5_code 16 = .ok (.if_icmp .le 27, 3) := by decide +kernel
theorem own_d1_49 : decode prog_99_method_5_code 49 = .ok (.iload_n 0, 1) := by decide +kernel
theorem own_d1_50 : decode prog_99_method_5_code 50 = .ok (.sipush 767, 3) := by decide +kernel
theorem own_d1_53 : decode prog_99_method_5_code 53 = .ok (.if_icmp .gt 25, 3) := by decide +kernel
theorem own_d1_78 : decode prog_99_method_5_code 78 = .ok (.iload_n 0, 1) := by decide +kernel
theorem own_d1_79 : decode prog_99_method_5_code 79 = .ok (.sipush 880, 3) := by decide +kernel
theorem own_d1_82 : decode prog_99_method_5_code 82 = .ok (.if_icmp .lt 17, 3) := by decide +kernel
theorem own_d1_99 : decode prog_99_method_5_code 99 = .ok (.iload_n 0, 1) := by decide +kernel
theorem own_d1_100 : decode prog_99_method_5_code 100 = .ok (.sipush 8204, 3) := by decide +kernel
theorem own_d1_103 : decode prog_99_method_5_code 103 = .ok (.if_icmp .eq 87, 3) := by decide +kernel
theorem own_d1_190 : decode prog_99_method_5_code 190 = .ok (.iconst 1, 1) := by decide +kernel
theorem own_d1_191 : decode prog_99_method_5_code 191 = .ok (.goto 4, 3) := by decide +kernel
theorem own_d1_195 : decode prog_99_method_5_code 195 = .ok (.ireturn, 1) := by decide +kernel
theorem own_d1_106 : decode prog_99_method_5_code 106 = .ok (.iload_n 0, 1) := by decide +kernel
theorem own_d1_107 : decode prog_99_method_5_code 107 = .ok (.sipush 8205, 3) := by decide +kernel
theorem own_d1_110 : decode prog_99_method_5_code 110 = .ok (.if_icmp .eq 80, 3) := by decide +kernel
theorem own_d1_113 : decode prog_99_method_5_code 113 = .ok (.iload_n 0, 1) := by decide +kernel
theorem own_d1_114 : decode prog_99_method_5_code 114 = .ok (.sipush 8304, 3) := by decide +kernel
theorem own_d1_117 : decode prog_99_method_5_code 117 = .ok (.if_icmp .lt 10, 3) := by decide +kernel
theorem own_d1_127 : decode prog_99_method_5_code 127 = .ok (.iload_n 0, 1) := by decide +kernel
theorem own_d1_128 : decode prog_99_method_5_code 128 = .ok (.sipush 11264, 3) := by decide +kernel
theorem own_d1_131 : decode prog_99_method_5_code 131 = .ok (.if_icmp .lt 10, 3) := by decide +kernel
theorem own_d1_141 : decode prog_99_method_5_code 141 = .ok (.iload_n 0, 1) := by decide +kernel
theorem own_d1_142 : decode prog_99_method_5_code 142 = .ok (.sipush 12289, 3) := by decide +kernel
theorem own_d1_145 : decode prog_99_method_5_code 145 = .ok (.if_icmp .lt 9, 3) := by decide +kernel
theorem own_d1_154 : decode prog_99_method_5_code 154 = .ok (.iload_n 0, 1) := by decide +kernel
theorem own_d1_155 : decode prog_99_method_5_code 155 = .ok (.ldc 26, 2) := by decide +kernel
theorem own_d1_157 : decode prog_99_method_5_code 157 = .ok (.if_icmp .lt 9, 3) := by decide +kernel
theorem own_d1_166 : decode prog_99_method_5_code 166 = .ok (.iload_n 0, 1) := by decide +kernel
theorem own_d1_167 : decode prog_99_method_5_code 167 = .ok (.ldc 28, 2) := by decide +kernel
theorem own_d1_169 : decode prog_99_method_5_code 169 = .ok (.if_icmp .lt 9, 3) := by decide +kernel
theorem own_d1_178 : decode prog_99_method_5_code 178 = .ok (.iload_n 0, 1) := by decide +kernel
theorem own_d1_179 : decode prog_99_method_5_code 179 = .ok (.ldc 10, 2) := by decide +kernel
theorem own_d1_181 : decode prog_99_method_5_code 181 = .ok (.if_icmp .lt 13, 3) := by decide +kernel
theorem own_d1_194 : decode prog_99_method_5_code 194 = .ok (.iconst 0, 1) := by decide +kernel
theorem own_d1_184 : decode prog_99_method_5_code 184 = .ok (.iload_n 0, 1) := by decide +kernel
theorem own_d1_185 : decode prog_99_method_5_code 185 = .ok (.ldc 30, 2) := by decide +kernel
theorem own_d1_187 : decode prog_99_method_5_code 187 = .ok (.if_icmp .gt 7, 3) := by decide +kernel
theorem own_d1_172 : decode prog_99_method_5_code 172 = .ok (.iload_n 0, 1) := by decide +kernel
theorem own_d1_173 : decode prog_99_method_5_code 173 = .ok (.ldc 29, 2) := by decide +kernel
theorem own_d1_175 : decode prog_99_method_5_code 175 = .ok (.if_icmp .le 15, 3) := by decide +kernel
theorem own_d1_160 : decode prog_99_method_5_code 160 = .ok (.iload_n 0, 1) := by decide +kernel
theorem own_d1_161 : decode prog_99_method_5_code 161 = .ok (.ldc 27, 2) := by decide +kernel
theorem own_d1_163 : decode prog_99_method_5_code 163 = .ok (.if_icmp .le 27, 3) := by decide +kernel
theorem own_d1_148 : decode prog_99_method_5_code 148 = .ok (.iload_n 0, 1) := by decide +kernel
theorem own_d1_149 : decode prog_99_method_5_code 149 = .ok (.ldc 25, 2) := by decide +kernel
theorem own_d1_151 : decode prog_99_method_5_code 151 = .ok (.if_icmp .le 39, 3) := by decide +kernel
theorem own_d1_134 : decode prog_99_method_5_code 134 = .ok (.iload_n 0, 1) := by decide +kernel
theorem own_d1_135 : decode prog_99_method_5_code 135 = .ok (.sipush 12271, 3) := by decide +kernel
theorem own_d1_138 : decode prog_99_method_5_code 138 = .ok (.if_icmp .le 52, 3) := by decide +kernel
theorem own_d1_120 : decode prog_99_method_5_code 120 = .ok (.iload_n 0, 1) := by decide +kernel
theorem own_d1_121 : decode prog_99_method_5_code 121 = .ok (.sipush 8591, 3) := by decide +kernel
theorem own_d1_124 : decode prog_99_method_5_code 124 = .ok (.if_icmp .le 66, 3) := by decide +kernel
theorem own_d1_85 : decode prog_99_method_5_code 85 = .ok (.iload_n 0, 1) := by decide +kernel
theorem own_d1_86 : decode prog_99_method_5_code 86 = .ok (.sipush 8191, 3) := by decide +kernel
theorem own_d1_89 : decode prog_99_method_5_code 89 = .ok (.if_icmp .gt 10, 3) := by decide +kernel
theorem own_d1_92 : decode prog_99_method_5_code 92 = .ok (.iload_n 0, 1) := by decide +kernel
theorem own_d1_93 : decode prog_99_method_5_code 93 = .ok (.sipush 894, 3) := by decide +kernel
theorem own_d1_96 : decode prog_99_method_5_code 96 = .ok (.if_icmp .ne 94, 3) := by decide +kernel
theorem own_d1_56 : decode prog_99_method_5_code 56 = .ok (.iload_n 0, 1) := by decide +kernel
theorem own_d1_57 : decode prog_99_method_5_code 57 = .ok (.sipush 215, 3) := by decide +kernel
theorem own_d1_60 : decode prog_99_method_5_code 60 = .ok (.if_icmp .eq 14, 3) := by decide +kernel
theorem own_d1_74 : decode prog_99_method_5_code 74 = .ok (.iconst 0, 1) := by decide +kernel
theorem own_d1_75 : decode prog_99_method_5_code 75 = .ok (.goto 120, 3) := by decide +kernel
theorem own_d1_63 : decode prog_99_method_5_code 63 = .ok (.iload_n 0, 1) := by decide +kernel
theorem own_d1_64 : decode prog_99_method_5_code 64 = .ok (.sipush 247, 3) := by decide +kernel
theorem own_d1_67 : decode prog_99_method_5_code 67 = .ok (.if_icmp .eq 7, 3) := by decide +kernel
theorem own_d1_70 : decode prog_99_method_5_code 70 = .ok (.iconst 1, 1) := by decide +kernel
theorem own_d1_71 : decode prog_99_method_5_code 71 = .ok (.goto 124, 3) := by decide +kernel
def RM1 : Room := { frames := 0, cells := 0, slots := 0, locals := 0 }
def fIs_31 (p1 : Int32) : Int32 := (if p1 = (95 : Int32) then (1 : Int32) else (if p1 = (58 : Int32) then (1 : Int32) else (0 : Int32)))
def fIs_19 (p1 : Int32) : Int32 := (if p1 < (65 : Int32) then (fIs_31 p1) else (if (90 : Int32) < p1 then (fIs_31 p1) else (1 : Int32)))
def fIs_178 (p1 : Int32) : Int32 := (if p1 < (65536 : Int32) then (0 : Int32) else (if (983039 : Int32) < p1 then (0 : Int32) else (1 : Int32)))
def fIs_166 (p1 : Int32) : Int32 := (if p1 < (65008 : Int32) then (fIs_178 p1) else (if (65533 : Int32) < p1 then (fIs_178 p1) else (1 : Int32)))
def fIs_154 (p1 : Int32) : Int32 := (if p1 < (63744 : Int32) then (fIs_166 p1) else (if (64975 : Int32) < p1 then (fIs_166 p1) else (1 : Int32)))
def fIs_141 (p1 : Int32) : Int32 := (if p1 < (12289 : Int32) then (fIs_154 p1) else (if (55295 : Int32) < p1 then (fIs_154 p1) else (1 : Int32)))
def fIs_127 (p1 : Int32) : Int32 := (if p1 < (11264 : Int32) then (fIs_141 p1) else (if (12271 : Int32) < p1 then (fIs_141 p1) else (1 : Int32)))
def fIs_99 (p1 : Int32) : Int32 := (if p1 = (8204 : Int32) then (1 : Int32) else (if p1 = (8205 : Int32) then (1 : Int32) else (if p1 < (8304 : Int32) then (fIs_127 p1) else (if (8591 : Int32) < p1 then (fIs_127 p1) else (1 : Int32)))))
def fIs_0 (p1 : Int32) : Int32 := (if p1 < (192 : Int32) then (if p1 < (97 : Int32) then (fIs_19 p1) else (if (122 : Int32) < p1 then (fIs_19 p1) else (1 : Int32))) else (if (767 : Int32) < p1 then (if p1 < (880 : Int32) then (fIs_99 p1) else (if (8191 : Int32) < p1 then (fIs_99 p1) else (if p1 = (894 : Int32) then (fIs_99 p1) else (1 : Int32)))) else (if p1 = (215 : Int32) then (0 : Int32) else (if p1 = (247 : Int32) then (0 : Int32) else (1 : Int32)))))
theorem own_ef1 (m : MethodId) (p1 : Int32) : entryFrame m #[(.int p1)] 1 = mkF m 0 #[.val (.int p1)] [] := by first | (simp [entryFrame, mkF, argsToLocals, Value.category]; done) | rfl
set_option maxRecDepth 65536 in
set_option maxHeartbeats 40000000 in
theorem rm1 (l : Launch) (Z : State) (a0 : Array Value) (hw : ∀ d ∈ tables_1, d.before a0 Z = true) (ws : List Jvm.Cond) (p1 : Int32) (h0 : Heap) (n0 : Nat) (Z0 : n0 ≤ h0.size) : MetQ l Z (⟨"com/example/wildcard/wildcard/XmlCharacters", "isNameStart", "(I)Z"⟩ : MethodName) (Jvm.Cond.code (⟨"com/example/wildcard/wildcard/XmlCharacters", "isNameStart", "(I)Z"⟩ : MethodName) prog_99_method_5_code 1 (some .boolean) :: ws) RM1 #[(.int p1)] h0 (fun v h L => v = some (.int (fIs_0 p1)) ∧ Fr n0 L ∧ h = h0) := by
  refine MetFree.of_bodySF (plainFor_of_name own_pn0) hisR ?_
  intro p e s m args below meth c s₁ Bd hml0 hP hK
  obtain ⟨rfl, hZ, hh⟩ := hP
  have hx := Bd.exec
  have hby := Bd.bytes
  have hml : c.maxLocals = 1 := hml0
  have hown : s.vm.findClass "com/example/wildcard/wildcard/XmlCharacters" = some m.cls := findClass_of_methodNamed Bd.named
  have hnm := (name_of_methodNamed Bd.named Bd.method).1
  have hlk : meth.locks = false := BodyLoose.notSynchronized Bd
  have X0 : Stand p l e RM1 s m #[(.int p1)] below meth c s₁ [] 0 0 := Stand.of_body Bd
  have e0 : s₁.heap = h0 := by rw [← hh, Bd.state]; rfl
  have N0 := Fr.nil n0
  suffices kk : Ends p e below (PVI s 0 0 n0 h0 (fIs_0 p1)) s₁ m 0 #[.val (.int p1)] [] by
    obtain ⟨t, o, k1, k2, k3, k4⟩ := kk
    exact ⟨t, o, castTop (own_ef1 m p1) k1, k2, k3, k4⟩
  refine eILoadN X0 hx (hb hby own_d1_0) rfl rfl ?_
  refine eSipush X0 hx (192 : Int32) (hb hby own_d1_1) rfl rfl ?_
  show Ends p e below (PVI s 0 0 n0 h0 (if p1 < (192 : Int32) then (if p1 < (97 : Int32) then (fIs_19 p1) else (if (122 : Int32) < p1 then (fIs_19 p1) else (1 : Int32))) else (if (767 : Int32) < p1 then (if p1 < (880 : Int32) then (fIs_99 p1) else (if (8191 : Int32) < p1 then (fIs_99 p1) else (if p1 = (894 : Int32) then (fIs_99 p1) else (1 : Int32)))) else (if p1 = (215 : Int32) then (0 : Int32) else (if p1 = (247 : Int32) then (0 : Int32) else (1 : Int32)))))) s₁ m 4 #[.val (.int p1)] [(.int (192 : Int32)), (.int p1)]
  by_cases c1 : p1 < (192 : Int32)
  · rw [if_pos c1]
    refine eIcmpN X0 hx (hb hby own_d1_4) (tlt c1).2.1 rfl ?_
    refine eILoadN X0 hx (hb hby own_d1_7) rfl rfl ?_
    refine eBipush X0 hx (97 : Int32) (hb hby own_d1_8) rfl rfl ?_
    have K19_2 : ∀ (T2 : State) (locs2 : List Loc), Stand p l e RM1 s m #[(.int p1)] below meth c T2 locs2 0 0 → Fr n0 locs2 → T2.heap = h0 → Ends p e below (PVI s 0 0 n0 h0 (fIs_19 p1)) T2 m 19 #[.val (.int p1)] [] := by
      intro T2 locs2 X2 N2 e2
      refine eILoadN X2 hx (hb hby own_d1_19) rfl rfl ?_
      refine eBipush X2 hx (65 : Int32) (hb hby own_d1_20) rfl rfl ?_
      have K31_3 : ∀ (T3 : State) (locs3 : List Loc), Stand p l e RM1 s m #[(.int p1)] below meth c T3 locs3 0 0 → Fr n0 locs3 → T3.heap = h0 → Ends p e below (PVI s 0 0 n0 h0 (fIs_31 p1)) T3 m 31 #[.val (.int p1)] [] := by
        intro T3 locs3 X3 N3 e3
        refine eILoadN X3 hx (hb hby own_d1_31) rfl rfl ?_
        refine eBipush X3 hx (95 : Int32) (hb hby own_d1_32) rfl rfl ?_
        show Ends p e below (PVI s 0 0 n0 h0 (if p1 = (95 : Int32) then (1 : Int32) else (if p1 = (58 : Int32) then (1 : Int32) else (0 : Int32)))) T3 m 34 #[.val (.int p1)] [(.int (95 : Int32)), (.int p1)]
        by_cases c4 : p1 = (95 : Int32)
        · rw [if_pos c4]
          refine eIcmpY X3 hx (hb hby own_d1_34) (teq c4).1 (by decide) (pc' := 43) rfl ?_
          refine eIConst X3 hx (1 : Int32) (hb hby own_d1_43) rfl rfl ?_
          refine eGoto X3 hx (hb hby own_d1_44) (by decide) (pc' := 48) rfl ?_
          exact eRetN X3 hx (t := .boolean) Bd.returns (by simp) hlk (hb hby own_d1_48) (by decide) (by decide) ⟨rfl, N3, e3⟩
        · rw [if_neg c4]
          refine eIcmpN X3 hx (hb hby own_d1_34) (feq c4).1 rfl ?_
          refine eILoadN X3 hx (hb hby own_d1_37) rfl rfl ?_
          refine eBipush X3 hx (58 : Int32) (hb hby own_d1_38) rfl rfl ?_
          show Ends p e below (PVI s 0 0 n0 h0 (if p1 = (58 : Int32) then (1 : Int32) else (0 : Int32))) T3 m 40 #[.val (.int p1)] [(.int (58 : Int32)), (.int p1)]
          by_cases c5 : p1 = (58 : Int32)
          · rw [if_pos c5]
            refine eIcmpN X3 hx (hb hby own_d1_40) (teq c5).2 rfl ?_
            refine eIConst X3 hx (1 : Int32) (hb hby own_d1_43) rfl rfl ?_
            refine eGoto X3 hx (hb hby own_d1_44) (by decide) (pc' := 48) rfl ?_
            exact eRetN X3 hx (t := .boolean) Bd.returns (by simp) hlk (hb hby own_d1_48) (by decide) (by decide) ⟨rfl, N3, e3⟩
          · rw [if_neg c5]
            refine eIcmpY X3 hx (hb hby own_d1_40) (feq c5).2 (by decide) (pc' := 47) rfl ?_
            refine eIConst X3 hx (0 : Int32) (hb hby own_d1_47) rfl rfl ?_
            exact eRetN X3 hx (t := .boolean) Bd.returns (by simp) hlk (hb hby own_d1_48) (by decide) (by decide) ⟨rfl, N3, e3⟩
      show Ends p e below (PVI s 0 0 n0 h0 (if p1 < (65 : Int32) then (fIs_31 p1) else (if (90 : Int32) < p1 then (fIs_31 p1) else (1 : Int32)))) T2 m 22 #[.val (.int p1)] [(.int (65 : Int32)), (.int p1)]
      by_cases c6 : p1 < (65 : Int32)
      · rw [if_pos c6]
        refine eIcmpY X2 hx (hb hby own_d1_22) (tlt c6).1 (by decide) (pc' := 31) rfl ?_
        exact K31_3 T2 _ X2 N2 e2
      · rw [if_neg c6]
        refine eIcmpN X2 hx (hb hby own_d1_22) (flt c6).1 rfl ?_
        refine eILoadN X2 hx (hb hby own_d1_25) rfl rfl ?_
        refine eBipush X2 hx (90 : Int32) (hb hby own_d1_26) rfl rfl ?_
        show Ends p e below (PVI s 0 0 n0 h0 (if (90 : Int32) < p1 then (fIs_31 p1) else (1 : Int32))) T2 m 28 #[.val (.int p1)] [(.int (90 : Int32)), (.int p1)]
        by_cases c7 : (90 : Int32) < p1
        · rw [if_pos c7]
          refine eIcmpN X2 hx (hb hby own_d1_28) (tlt c7).2.2.2 rfl ?_
          exact K31_3 T2 _ X2 N2 e2
        · rw [if_neg c7]
          refine eIcmpY X2 hx (hb hby own_d1_28) (flt c7).2.2.2 (by decide) (pc' := 43) rfl ?_
          refine eIConst X2 hx (1 : Int32) (hb hby own_d1_43) rfl rfl ?_
          refine eGoto X2 hx (hb hby own_d1_44) (by decide) (pc' := 48) rfl ?_
          exact eRetN X2 hx (t := .boolean) Bd.returns (by simp) hlk (hb hby own_d1_48) (by decide) (by decide) ⟨rfl, N2, e2⟩
    show Ends p e below (PVI s 0 0 n0 h0 (if p1 < (97 : Int32) then (fIs_19 p1) else (if (122 : Int32) < p1 then (fIs_19 p1) else (1 : Int32)))) s₁ m 10 #[.val (.int p1)] [(.int (97 : Int32)), (.int p1)]
    by_cases c8 : p1 < (97 : Int32)
    · rw [if_pos c8]
      refine eIcmpY X0 hx (hb hby own_d1_10) (tlt c8).1 (by decide) (pc' := 19) rfl ?_
      exact K19_2 s₁ _ X0 N0 e0
    · rw [if_neg c8]
      refine eIcmpN X0 hx (hb hby own_d1_10) (flt c8).1 rfl ?_
      refine eILoadN X0 hx (hb hby own_d1_13) rfl rfl ?_
      refine eBipush X0 hx (122 : Int32) (hb hby own_d1_14) rfl rfl ?_
      show Ends p e below (PVI s 0 0 n0 h0 (if (122 : Int32) < p1 then (fIs_19 p1) else (1 : Int32))) s₁ m 16 #[.val (.int p1)] [(.int (122 : Int32)), (.int p1)]
      by_cases c9 : (122 : Int32) < p1
      · rw [if_pos c9]
        refine eIcmpN X0 hx (hb hby own_d1_16) (tlt c9).2.2.2 rfl ?_
        exact K19_2 s₁ _ X0 N0 e0
      · rw [if_neg c9]
        refine eIcmpY X0 hx (hb hby own_d1_16) (flt c9).2.2.2 (by decide) (pc' := 43) rfl ?_
        refine eIConst X0 hx (1 : Int32) (hb hby own_d1_43) rfl rfl ?_
        refine eGoto X0 hx (hb hby own_d1_44) (by decide) (pc' := 48) rfl ?_
        exact eRetN X0 hx (t := .boolean) Bd.returns (by simp) hlk (hb hby own_d1_48) (by decide) (by decide) ⟨rfl, N0, e0⟩
  · rw [if_neg c1]
    refine eIcmpY X0 hx (hb hby own_d1_4) (flt c1).2.1 (by decide) (pc' := 49) rfl ?_
    refine eILoadN X0 hx (hb hby own_d1_49) rfl rfl ?_
    refine eSipush X0 hx (767 : Int32) (hb hby own_d1_50) rfl rfl ?_
    show Ends p e below (PVI s 0 0 n0 h0 (if (767 : Int32) < p1 then (if p1 < (880 : Int32) then (fIs_99 p1) else (if (8191 : Int32) < p1 then (fIs_99 p1) else (if p1 = (894 : Int32) then (fIs_99 p1) else (1 : Int32)))) else (if p1 = (215 : Int32) then (0 : Int32) else (if p1 = (247 : Int32) then (0 : Int32) else (1 : Int32))))) s₁ m 53 #[.val (.int p1)] [(.int (767 : Int32)), (.int p1)]
    by_cases c10 : (767 : Int32) < p1
    · rw [if_pos c10]
      refine eIcmpY X0 hx (hb hby own_d1_53) (tlt c10).2.2.1 (by decide) (pc' := 78) rfl ?_
      refine eILoadN X0 hx (hb hby own_d1_78) rfl rfl ?_
      refine eSipush X0 hx (880 : Int32) (hb hby own_d1_79) rfl rfl ?_
      have K99_11 : ∀ (T11 : State) (locs11 : List Loc), Stand p l e RM1 s m #[(.int p1)] below meth c T11 locs11 0 0 → Fr n0 locs11 → T11.heap = h0 → Ends p e below (PVI s 0 0 n0 h0 (fIs_99 p1)) T11 m 99 #[.val (.int p1)] [] := by
        intro T11 locs11 X11 N11 e11
        refine eILoadN X11 hx (hb hby own_d1_99) rfl rfl ?_
        refine eSipush X11 hx (8204 : Int32) (hb hby own_d1_100) rfl rfl ?_
        show Ends p e below (PVI s 0 0 n0 h0 (if p1 = (8204 : Int32) then (1 : Int32) else (if p1 = (8205 : Int32) then (1 : Int32) else (if p1 < (8304 : Int32) then (fIs_127 p1) else (if (8591 : Int32) < p1 then (fIs_127 p1) else (1 : Int32)))))) T11 m 103 #[.val (.int p1)] [(.int (8204 : Int32)), (.int p1)]
        by_cases c12 : p1 = (8204 : Int32)
        · rw [if_pos c12]
          refine eIcmpY X11 hx (hb hby own_d1_103) (teq c12).1 (by decide) (pc' := 190) rfl ?_
          refine eIConst X11 hx (1 : Int32) (hb hby own_d1_190) rfl rfl ?_
          refine eGoto X11 hx (hb hby own_d1_191) (by decide) (pc' := 195) rfl ?_
          exact eRetN X11 hx (t := .boolean) Bd.returns (by simp) hlk (hb hby own_d1_195) (by decide) (by decide) ⟨rfl, N11, e11⟩
        · rw [if_neg c12]
          refine eIcmpN X11 hx (hb hby own_d1_103) (feq c12).1 rfl ?_
          refine eILoadN X11 hx (hb hby own_d1_106) rfl rfl ?_
          refine eSipush X11 hx (8205 : Int32) (hb hby own_d1_107) rfl rfl ?_
          show Ends p e below (PVI s 0 0 n0 h0 (if p1 = (8205 : Int32) then (1 : Int32) else (if p1 < (8304 : Int32) then (fIs_127 p1) else (if (8591 : Int32) < p1 then (fIs_127 p1) else (1 : Int32))))) T11 m 110 #[.val (.int p1)] [(.int (8205 : Int32)), (.int p1)]
          by_cases c13 : p1 = (8205 : Int32)
          · rw [if_pos c13]
            refine eIcmpY X11 hx (hb hby own_d1_110) (teq c13).1 (by decide) (pc' := 190) rfl ?_
            refine eIConst X11 hx (1 : Int32) (hb hby own_d1_190) rfl rfl ?_
            refine eGoto X11 hx (hb hby own_d1_191) (by decide) (pc' := 195) rfl ?_
            exact eRetN X11 hx (t := .boolean) Bd.returns (by simp) hlk (hb hby own_d1_195) (by decide) (by decide) ⟨rfl, N11, e11⟩
          · rw [if_neg c13]
            refine eIcmpN X11 hx (hb hby own_d1_110) (feq c13).1 rfl ?_
            refine eILoadN X11 hx (hb hby own_d1_113) rfl rfl ?_
            refine eSipush X11 hx (8304 : Int32) (hb hby own_d1_114) rfl rfl ?_
            have K127_14 : ∀ (T14 : State) (locs14 : List Loc), Stand p l e RM1 s m #[(.int p1)] below meth c T14 locs14 0 0 → Fr n0 locs14 → T14.heap = h0 → Ends p e below (PVI s 0 0 n0 h0 (fIs_127 p1)) T14 m 127 #[.val (.int p1)] [] := by
              intro T14 locs14 X14 N14 e14
              refine eILoadN X14 hx (hb hby own_d1_127) rfl rfl ?_
              refine eSipush X14 hx (11264 : Int32) (hb hby own_d1_128) rfl rfl ?_
              have K141_15 : ∀ (T15 : State) (locs15 : List Loc), Stand p l e RM1 s m #[(.int p1)] below meth c T15 locs15 0 0 → Fr n0 locs15 → T15.heap = h0 → Ends p e below (PVI s 0 0 n0 h0 (fIs_141 p1)) T15 m 141 #[.val (.int p1)] [] := by
                intro T15 locs15 X15 N15 e15
                refine eILoadN X15 hx (hb hby own_d1_141) rfl rfl ?_
                refine eSipush X15 hx (12289 : Int32) (hb hby own_d1_142) rfl rfl ?_
                have K154_16 : ∀ (T16 : State) (locs16 : List Loc), Stand p l e RM1 s m #[(.int p1)] below meth c T16 locs16 0 0 → Fr n0 locs16 → T16.heap = h0 → Ends p e below (PVI s 0 0 n0 h0 (fIs_154 p1)) T16 m 154 #[.val (.int p1)] [] := by
                  intro T16 locs16 X16 N16 e16
                  refine eILoadN X16 hx (hb hby own_d1_154) rfl rfl ?_
                  refine eLdcI X16 hx hZ hown (v := (63744 : Int32)) (hw _ (List.mem_of_getElem? (i := 23) rfl)) (hb hby own_d1_155) rfl ?_
                  have K166_17 : ∀ (T17 : State) (locs17 : List Loc), Stand p l e RM1 s m #[(.int p1)] below meth c T17 locs17 0 0 → Fr n0 locs17 → T17.heap = h0 → Ends p e below (PVI s 0 0 n0 h0 (fIs_166 p1)) T17 m 166 #[.val (.int p1)] [] := by
                    intro T17 locs17 X17 N17 e17
                    refine eILoadN X17 hx (hb hby own_d1_166) rfl rfl ?_
                    refine eLdcI X17 hx hZ hown (v := (65008 : Int32)) (hw _ (List.mem_of_getElem? (i := 25) rfl)) (hb hby own_d1_167) rfl ?_
                    have K178_18 : ∀ (T18 : State) (locs18 : List Loc), Stand p l e RM1 s m #[(.int p1)] below meth c T18 locs18 0 0 → Fr n0 locs18 → T18.heap = h0 → Ends p e below (PVI s 0 0 n0 h0 (fIs_178 p1)) T18 m 178 #[.val (.int p1)] [] := by
                      intro T18 locs18 X18 N18 e18
                      refine eILoadN X18 hx (hb hby own_d1_178) rfl rfl ?_
                      refine eLdcI X18 hx hZ hown (v := (65536 : Int32)) (hw _ (List.mem_of_getElem? (i := 27) rfl)) (hb hby own_d1_179) rfl ?_
                      show Ends p e below (PVI s 0 0 n0 h0 (if p1 < (65536 : Int32) then (0 : Int32) else (if (983039 : Int32) < p1 then (0 : Int32) else (1 : Int32)))) T18 m 181 #[.val (.int p1)] [(.int (65536 : Int32)), (.int p1)]
                      by_cases c19 : p1 < (65536 : Int32)
                      · rw [if_pos c19]
                        refine eIcmpY X18 hx (hb hby own_d1_181) (tlt c19).1 (by decide) (pc' := 194) rfl ?_
                        refine eIConst X18 hx (0 : Int32) (hb hby own_d1_194) rfl rfl ?_
                        exact eRetN X18 hx (t := .boolean) Bd.returns (by simp) hlk (hb hby own_d1_195) (by decide) (by decide) ⟨rfl, N18, e18⟩
                      · rw [if_neg c19]
                        refine eIcmpN X18 hx (hb hby own_d1_181) (flt c19).1 rfl ?_
                        refine eILoadN X18 hx (hb hby own_d1_184) rfl rfl ?_
                        refine eLdcI X18 hx hZ hown (v := (983039 : Int32)) (hw _ (List.mem_of_getElem? (i := 28) rfl)) (hb hby own_d1_185) rfl ?_
                        show Ends p e below (PVI s 0 0 n0 h0 (if (983039 : Int32) < p1 then (0 : Int32) else (1 : Int32))) T18 m 187 #[.val (.int p1)] [(.int (983039 : Int32)), (.int p1)]
                        by_cases c20 : (983039 : Int32) < p1
                        · rw [if_pos c20]
                          refine eIcmpY X18 hx (hb hby own_d1_187) (tlt c20).2.2.1 (by decide) (pc' := 194) rfl ?_
                          refine eIConst X18 hx (0 : Int32) (hb hby own_d1_194) rfl rfl ?_
                          exact eRetN X18 hx (t := .boolean) Bd.returns (by simp) hlk (hb hby own_d1_195) (by decide) (by decide) ⟨rfl, N18, e18⟩
                        · rw [if_neg c20]
                          refine eIcmpN X18 hx (hb hby own_d1_187) (flt c20).2.2.1 rfl ?_
                          refine eIConst X18 hx (1 : Int32) (hb hby own_d1_190) rfl rfl ?_
                          refine eGoto X18 hx (hb hby own_d1_191) (by decide) (pc' := 195) rfl ?_
                          exact eRetN X18 hx (t := .boolean) Bd.returns (by simp) hlk (hb hby own_d1_195) (by decide) (by decide) ⟨rfl, N18, e18⟩
                    show Ends p e below (PVI s 0 0 n0 h0 (if p1 < (65008 : Int32) then (fIs_178 p1) else (if (65533 : Int32) < p1 then (fIs_178 p1) else (1 : Int32)))) T17 m 169 #[.val (.int p1)] [(.int (65008 : Int32)), (.int p1)]
                    by_cases c21 : p1 < (65008 : Int32)
                    · rw [if_pos c21]
                      refine eIcmpY X17 hx (hb hby own_d1_169) (tlt c21).1 (by decide) (pc' := 178) rfl ?_
                      exact K178_18 T17 _ X17 N17 e17
                    · rw [if_neg c21]
                      refine eIcmpN X17 hx (hb hby own_d1_169) (flt c21).1 rfl ?_
                      refine eILoadN X17 hx (hb hby own_d1_172) rfl rfl ?_
                      refine eLdcI X17 hx hZ hown (v := (65533 : Int32)) (hw _ (List.mem_of_getElem? (i := 26) rfl)) (hb hby own_d1_173) rfl ?_
                      show Ends p e below (PVI s 0 0 n0 h0 (if (65533 : Int32) < p1 then (fIs_178 p1) else (1 : Int32))) T17 m 175 #[.val (.int p1)] [(.int (65533 : Int32)), (.int p1)]
                      by_cases c22 : (65533 : Int32) < p1
                      · rw [if_pos c22]
                        refine eIcmpN X17 hx (hb hby own_d1_175) (tlt c22).2.2.2 rfl ?_
                        exact K178_18 T17 _ X17 N17 e17
                      · rw [if_neg c22]
                        refine eIcmpY X17 hx (hb hby own_d1_175) (flt c22).2.2.2 (by decide) (pc' := 190) rfl ?_
                        refine eIConst X17 hx (1 : Int32) (hb hby own_d1_190) rfl rfl ?_
                        refine eGoto X17 hx (hb hby own_d1_191) (by decide) (pc' := 195) rfl ?_
                        exact eRetN X17 hx (t := .boolean) Bd.returns (by simp) hlk (hb hby own_d1_195) (by decide) (by decide) ⟨rfl, N17, e17⟩
                  show Ends p e below (PVI s 0 0 n0 h0 (if p1 < (63744 : Int32) then (fIs_166 p1) else (if (64975 : Int32) < p1 then (fIs_166 p1) else (1 : Int32)))) T16 m 157 #[.val (.int p1)] [(.int (63744 : Int32)), (.int p1)]
                  by_cases c23 : p1 < (63744 : Int32)
                  · rw [if_pos c23]
                    refine eIcmpY X16 hx (hb hby own_d1_157) (tlt c23).1 (by decide) (pc' := 166) rfl ?_
                    exact K166_17 T16 _ X16 N16 e16
                  · rw [if_neg c23]
                    refine eIcmpN X16 hx (hb hby own_d1_157) (flt c23).1 rfl ?_
                    refine eILoadN X16 hx (hb hby own_d1_160) rfl rfl ?_
                    refine eLdcI X16 hx hZ hown (v := (64975 : Int32)) (hw _ (List.mem_of_getElem? (i := 24) rfl)) (hb hby own_d1_161) rfl ?_
                    show Ends p e below (PVI s 0 0 n0 h0 (if (64975 : Int32) < p1 then (fIs_166 p1) else (1 : Int32))) T16 m 163 #[.val (.int p1)] [(.int (64975 : Int32)), (.int p1)]
                    by_cases c24 : (64975 : Int32) < p1
                    · rw [if_pos c24]
                      refine eIcmpN X16 hx (hb hby own_d1_163) (tlt c24).2.2.2 rfl ?_
                      exact K166_17 T16 _ X16 N16 e16
                    · rw [if_neg c24]
                      refine eIcmpY X16 hx (hb hby own_d1_163) (flt c24).2.2.2 (by decide) (pc' := 190) rfl ?_
                      refine eIConst X16 hx (1 : Int32) (hb hby own_d1_190) rfl rfl ?_
                      refine eGoto X16 hx (hb hby own_d1_191) (by decide) (pc' := 195) rfl ?_
                      exact eRetN X16 hx (t := .boolean) Bd.returns (by simp) hlk (hb hby own_d1_195) (by decide) (by decide) ⟨rfl, N16, e16⟩
                show Ends p e below (PVI s 0 0 n0 h0 (if p1 < (12289 : Int32) then (fIs_154 p1) else (if (55295 : Int32) < p1 then (fIs_154 p1) else (1 : Int32)))) T15 m 145 #[.val (.int p1)] [(.int (12289 : Int32)), (.int p1)]
                by_cases c25 : p1 < (12289 : Int32)
                · rw [if_pos c25]
                  refine eIcmpY X15 hx (hb hby own_d1_145) (tlt c25).1 (by decide) (pc' := 154) rfl ?_
                  exact K154_16 T15 _ X15 N15 e15
                · rw [if_neg c25]
                  refine eIcmpN X15 hx (hb hby own_d1_145) (flt c25).1 rfl ?_
                  refine eILoadN X15 hx (hb hby own_d1_148) rfl rfl ?_
                  refine eLdcI X15 hx hZ hown (v := (55295 : Int32)) (hw _ (List.mem_of_getElem? (i := 22) rfl)) (hb hby own_d1_149) rfl ?_
                  show Ends p e below (PVI s 0 0 n0 h0 (if (55295 : Int32) < p1 then (fIs_154 p1) else (1 : Int32))) T15 m 151 #[.val (.int p1)] [(.int (55295 : Int32)), (.int p1)]
                  by_cases c26 : (55295 : Int32) < p1
                  · rw [if_pos c26]
                    refine eIcmpN X15 hx (hb hby own_d1_151) (tlt c26).2.2.2 rfl ?_
                    exact K154_16 T15 _ X15 N15 e15
                  · rw [if_neg c26]
                    refine eIcmpY X15 hx (hb hby own_d1_151) (flt c26).2.2.2 (by decide) (pc' := 190) rfl ?_
                    refine eIConst X15 hx (1 : Int32) (hb hby own_d1_190) rfl rfl ?_
                    refine eGoto X15 hx (hb hby own_d1_191) (by decide) (pc' := 195) rfl ?_
                    exact eRetN X15 hx (t := .boolean) Bd.returns (by simp) hlk (hb hby own_d1_195) (by decide) (by decide) ⟨rfl, N15, e15⟩
              show Ends p e below (PVI s 0 0 n0 h0 (if p1 < (11264 : Int32) then (fIs_141 p1) else (if (12271 : Int32) < p1 then (fIs_141 p1) else (1 : Int32)))) T14 m 131 #[.val (.int p1)] [(.int (11264 : Int32)), (.int p1)]
              by_cases c27 : p1 < (11264 : Int32)
              · rw [if_pos c27]
                refine eIcmpY X14 hx (hb hby own_d1_131) (tlt c27).1 (by decide) (pc' := 141) rfl ?_
                exact K141_15 T14 _ X14 N14 e14
              · rw [if_neg c27]
                refine eIcmpN X14 hx (hb hby own_d1_131) (flt c27).1 rfl ?_
                refine eILoadN X14 hx (hb hby own_d1_134) rfl rfl ?_
                refine eSipush X14 hx (12271 : Int32) (hb hby own_d1_135) rfl rfl ?_
                show Ends p e below (PVI s 0 0 n0 h0 (if (12271 : Int32) < p1 then (fIs_141 p1) else (1 : Int32))) T14 m 138 #[.val (.int p1)] [(.int (12271 : Int32)), (.int p1)]
                by_cases c28 : (12271 : Int32) < p1
                · rw [if_pos c28]
                  refine eIcmpN X14 hx (hb hby own_d1_138) (tlt c28).2.2.2 rfl ?_
                  exact K141_15 T14 _ X14 N14 e14
                · rw [if_neg c28]
                  refine eIcmpY X14 hx (hb hby own_d1_138) (flt c28).2.2.2 (by decide) (pc' := 190) rfl ?_
                  refine eIConst X14 hx (1 : Int32) (hb hby own_d1_190) rfl rfl ?_
                  refine eGoto X14 hx (hb hby own_d1_191) (by decide) (pc' := 195) rfl ?_
                  exact eRetN X14 hx (t := .boolean) Bd.returns (by simp) hlk (hb hby own_d1_195) (by decide) (by decide) ⟨rfl, N14, e14⟩
            show Ends p e below (PVI s 0 0 n0 h0 (if p1 < (8304 : Int32) then (fIs_127 p1) else (if (8591 : Int32) < p1 then (fIs_127 p1) else (1 : Int32)))) T11 m 117 #[.val (.int p1)] [(.int (8304 : Int32)), (.int p1)]
            by_cases c29 : p1 < (8304 : Int32)
            · rw [if_pos c29]
              refine eIcmpY X11 hx (hb hby own_d1_117) (tlt c29).1 (by decide) (pc' := 127) rfl ?_
              exact K127_14 T11 _ X11 N11 e11
            · rw [if_neg c29]
              refine eIcmpN X11 hx (hb hby own_d1_117) (flt c29).1 rfl ?_
              refine eILoadN X11 hx (hb hby own_d1_120) rfl rfl ?_
              refine eSipush X11 hx (8591 : Int32) (hb hby own_d1_121) rfl rfl ?_
              show Ends p e below (PVI s 0 0 n0 h0 (if (8591 : Int32) < p1 then (fIs_127 p1) else (1 : Int32))) T11 m 124 #[.val (.int p1)] [(.int (8591 : Int32)), (.int p1)]
              by_cases c30 : (8591 : Int32) < p1
              · rw [if_pos c30]
                refine eIcmpN X11 hx (hb hby own_d1_124) (tlt c30).2.2.2 rfl ?_
                exact K127_14 T11 _ X11 N11 e11
              · rw [if_neg c30]
                refine eIcmpY X11 hx (hb hby own_d1_124) (flt c30).2.2.2 (by decide) (pc' := 190) rfl ?_
                refine eIConst X11 hx (1 : Int32) (hb hby own_d1_190) rfl rfl ?_
                refine eGoto X11 hx (hb hby own_d1_191) (by decide) (pc' := 195) rfl ?_
                exact eRetN X11 hx (t := .boolean) Bd.returns (by simp) hlk (hb hby own_d1_195) (by decide) (by decide) ⟨rfl, N11, e11⟩
      show Ends p e below (PVI s 0 0 n0 h0 (if p1 < (880 : Int32) then (fIs_99 p1) else (if (8191 : Int32) < p1 then (fIs_99 p1) else (if p1 = (894 : Int32) then (fIs_99 p1) else (1 : Int32))))) s₁ m 82 #[.val (.int p1)] [(.int (880 : Int32)), (.int p1)]
      by_cases c31 : p1 < (880 : Int32)
      · rw [if_pos c31]
        refine eIcmpY X0 hx (hb hby own_d1_82) (tlt c31).1 (by decide) (pc' := 99) rfl ?_
        exact K99_11 s₁ _ X0 N0 e0
      · rw [if_neg c31]
        refine eIcmpN X0 hx (hb hby own_d1_82) (flt c31).1 rfl ?_
        refine eILoadN X0 hx (hb hby own_d1_85) rfl rfl ?_
        refine eSipush X0 hx (8191 : Int32) (hb hby own_d1_86) rfl rfl ?_
        show Ends p e below (PVI s 0 0 n0 h0 (if (8191 : Int32) < p1 then (fIs_99 p1) else (if p1 = (894 : Int32) then (fIs_99 p1) else (1 : Int32)))) s₁ m 89 #[.val (.int p1)] [(.int (8191 : Int32)), (.int p1)]
        by_cases c32 : (8191 : Int32) < p1
        · rw [if_pos c32]
          refine eIcmpY X0 hx (hb hby own_d1_89) (tlt c32).2.2.1 (by decide) (pc' := 99) rfl ?_
          exact K99_11 s₁ _ X0 N0 e0
        · rw [if_neg c32]
          refine eIcmpN X0 hx (hb hby own_d1_89) (flt c32).2.2.1 rfl ?_
          refine eILoadN X0 hx (hb hby own_d1_92) rfl rfl ?_
          refine eSipush X0 hx (894 : Int32) (hb hby own_d1_93) rfl rfl ?_
          show Ends p e below (PVI s 0 0 n0 h0 (if p1 = (894 : Int32) then (fIs_99 p1) else (1 : Int32))) s₁ m 96 #[.val (.int p1)] [(.int (894 : Int32)), (.int p1)]
          by_cases c33 : p1 = (894 : Int32)
          · rw [if_pos c33]
            refine eIcmpN X0 hx (hb hby own_d1_96) (teq c33).2 rfl ?_
            exact K99_11 s₁ _ X0 N0 e0
          · rw [if_neg c33]
            refine eIcmpY X0 hx (hb hby own_d1_96) (feq c33).2 (by decide) (pc' := 190) rfl ?_
            refine eIConst X0 hx (1 : Int32) (hb hby own_d1_190) rfl rfl ?_
            refine eGoto X0 hx (hb hby own_d1_191) (by decide) (pc' := 195) rfl ?_
            exact eRetN X0 hx (t := .boolean) Bd.returns (by simp) hlk (hb hby own_d1_195) (by decide) (by decide) ⟨rfl, N0, e0⟩
    · rw [if_neg c10]
      refine eIcmpN X0 hx (hb hby own_d1_53) (flt c10).2.2.1 rfl ?_
      refine eILoadN X0 hx (hb hby own_d1_56) rfl rfl ?_
      refine eSipush X0 hx (215 : Int32) (hb hby own_d1_57) rfl rfl ?_
      show Ends p e below (PVI s 0 0 n0 h0 (if p1 = (215 : Int32) then (0 : Int32) else (if p1 = (247 : Int32) then (0 : Int32) else (1 : Int32)))) s₁ m 60 #[.val (.int p1)] [(.int (215 : Int32)), (.int p1)]
      by_cases c34 : p1 = (215 : Int32)
      · rw [if_pos c34]
        refine eIcmpY X0 hx (hb hby own_d1_60) (teq c34).1 (by decide) (pc' := 74) rfl ?_
        refine eIConst X0 hx (0 : Int32) (hb hby own_d1_74) rfl rfl ?_
        refine eGoto X0 hx (hb hby own_d1_75) (by decide) (pc' := 195) rfl ?_
        exact eRetN X0 hx (t := .boolean) Bd.returns (by simp) hlk (hb hby own_d1_195) (by decide) (by decide) ⟨rfl, N0, e0⟩
      · rw [if_neg c34]
        refine eIcmpN X0 hx (hb hby own_d1_60) (feq c34).1 rfl ?_
        refine eILoadN X0 hx (hb hby own_d1_63) rfl rfl ?_
        refine eSipush X0 hx (247 : Int32) (hb hby own_d1_64) rfl rfl ?_
        show Ends p e below (PVI s 0 0 n0 h0 (if p1 = (247 : Int32) then (0 : Int32) else (1 : Int32))) s₁ m 67 #[.val (.int p1)] [(.int (247 : Int32)), (.int p1)]
        by_cases c35 : p1 = (247 : Int32)
        · rw [if_pos c35]
          refine eIcmpY X0 hx (hb hby own_d1_67) (teq c35).1 (by decide) (pc' := 74) rfl ?_
          refine eIConst X0 hx (0 : Int32) (hb hby own_d1_74) rfl rfl ?_
          refine eGoto X0 hx (hb hby own_d1_75) (by decide) (pc' := 195) rfl ?_
          exact eRetN X0 hx (t := .boolean) Bd.returns (by simp) hlk (hb hby own_d1_195) (by decide) (by decide) ⟨rfl, N0, e0⟩
        · rw [if_neg c35]
          refine eIcmpN X0 hx (hb hby own_d1_67) (feq c35).1 rfl ?_
          refine eIConst X0 hx (1 : Int32) (hb hby own_d1_70) rfl rfl ?_
          refine eGoto X0 hx (hb hby own_d1_71) (by decide) (pc' := 195) rfl ?_
          exact eRetN X0 hx (t := .boolean) Bd.returns (by simp) hlk (hb hby own_d1_195) (by decide) (by decide) ⟨rfl, N0, e0⟩
theorem own_pn1 : plainName "com/example/wildcard/wildcard/XmlCharactersIsNameStartPinLaw" = true := by first | (simp [plainName, overriddenIn]; done) | decide +kernel
theorem own_d3_0 : decode method_2_code 0 = .ok (.iload_n 0, 1) := by decide +kernel
theorem own_d3_1 : decode method_2_code 1 = .ok (.iload_n 1, 1) := by decide +kernel
theorem own_d3_2 : decode method_2_code 2 = .ok (.if_icmp .lt 12, 3) := by decide +kernel
theorem own_d3_14 : decode method_2_code 14 = .ok (.iconst 0, 1) := by decide +kernel
theorem own_d3_15 : decode method_2_code 15 = .ok (.ireturn, 1) := by decide +kernel
theorem own_d3_5 : decode method_2_code 5 = .ok (.iload_n 0, 1) := by decide +kernel
theorem own_d3_6 : decode method_2_code 6 = .ok (.iload_n 2, 1) := by decide +kernel
theorem own_d3_7 : decode method_2_code 7 = .ok (.if_icmp .gt 7, 3) := by decide +kernel
theorem own_d3_10 : decode method_2_code 10 = .ok (.iconst 1, 1) := by decide +kernel
theorem own_d3_11 : decode method_2_code 11 = .ok (.goto 4, 3) := by decide +kernel
def RM3 : Room := { frames := 0, cells := 0, slots := 0, locals := 0 }
def fIn_0 (p1 : Int32) (p2 : Int32) (p3 : Int32) : Int32 := (if p1 < p2 then (0 : Int32) else (if p3 < p1 then (0 : Int32) else (1 : Int32)))
theorem own_ef3 (m : MethodId) (p1 : Int32) (p2 : Int32) (p3 : Int32) : entryFrame m #[(.int p1), (.int p2), (.int p3)] 3 = mkF m 0 #[.val (.int p1), .val (.int p2), .val (.int p3)] [] := by first | (simp [entryFrame, mkF, argsToLocals, Value.category]; done) | rfl
set_option maxRecDepth 65536 in
set_option maxHeartbeats 40000000 in
theorem rm3 (l : Launch) (Z : State) (a0 : Array Value) (hw : ∀ d ∈ tables_1, d.before a0 Z = true) (ws : List Jvm.Cond) (p1 : Int32) (p2 : Int32) (p3 : Int32) (h0 : Heap) (n0 : Nat) (Z0 : n0 ≤ h0.size) : MetQ l Z (⟨"com/example/wildcard/wildcard/XmlCharactersIsNameStartPinLaw", "in", "(III)Z"⟩ : MethodName) (Jvm.Cond.code (⟨"com/example/wildcard/wildcard/XmlCharactersIsNameStartPinLaw", "in", "(III)Z"⟩ : MethodName) method_2_code 3 (some .boolean) :: ws) RM3 #[(.int p1), (.int p2), (.int p3)] h0 (fun v h L => v = some (.int (fIn_0 p1 p2 p3)) ∧ Fr n0 L ∧ h = h0) := by
  refine MetFree.of_bodySF (plainFor_of_name own_pn1) hisR ?_
  intro p e s m args below meth c s₁ Bd hml0 hP hK
  obtain ⟨rfl, hZ, hh⟩ := hP
  have hx := Bd.exec
  have hby := Bd.bytes
  have hml : c.maxLocals = 3 := hml0
  have hown : s.vm.findClass "com/example/wildcard/wildcard/XmlCharactersIsNameStartPinLaw" = some m.cls := findClass_of_methodNamed Bd.named
  have hnm := (name_of_methodNamed Bd.named Bd.method).1
  have hlk : meth.locks = false := BodyLoose.notSynchronized Bd
  have X0 : Stand p l e RM3 s m #[(.int p1), (.int p2), (.int p3)] below meth c s₁ [] 0 0 := Stand.of_body Bd
  have e0 : s₁.heap = h0 := by rw [← hh, Bd.state]; rfl
  have N0 := Fr.nil n0
  suffices kk : Ends p e below (PVI s 0 0 n0 h0 (fIn_0 p1 p2 p3)) s₁ m 0 #[.val (.int p1), .val (.int p2), .val (.int p3)] [] by
    obtain ⟨t, o, k1, k2, k3, k4⟩ := kk
    exact ⟨t, o, castTop (own_ef3 m p1 p2 p3) k1, k2, k3, k4⟩
  refine eILoadN X0 hx (hb hby own_d3_0) rfl rfl ?_
  refine eILoadN X0 hx (hb hby own_d3_1) rfl rfl ?_
  show Ends p e below (PVI s 0 0 n0 h0 (if p1 < p2 then (0 : Int32) else (if p3 < p1 then (0 : Int32) else (1 : Int32)))) s₁ m 2 #[.val (.int p1), .val (.int p2), .val (.int p3)] [(.int p2), (.int p1)]
  by_cases c1 : p1 < p2
  · rw [if_pos c1]
    refine eIcmpY X0 hx (hb hby own_d3_2) (tlt c1).1 (by decide) (pc' := 14) rfl ?_
    refine eIConst X0 hx (0 : Int32) (hb hby own_d3_14) rfl rfl ?_
    exact eRetN X0 hx (t := .boolean) Bd.returns (by simp) hlk (hb hby own_d3_15) (by decide) (by decide) ⟨rfl, N0, e0⟩
  · rw [if_neg c1]
    refine eIcmpN X0 hx (hb hby own_d3_2) (flt c1).1 rfl ?_
    refine eILoadN X0 hx (hb hby own_d3_5) rfl rfl ?_
    refine eILoadN X0 hx (hb hby own_d3_6) rfl rfl ?_
    show Ends p e below (PVI s 0 0 n0 h0 (if p3 < p1 then (0 : Int32) else (1 : Int32))) s₁ m 7 #[.val (.int p1), .val (.int p2), .val (.int p3)] [(.int p3), (.int p1)]
    by_cases c2 : p3 < p1
    · rw [if_pos c2]
      refine eIcmpY X0 hx (hb hby own_d3_7) (tlt c2).2.2.1 (by decide) (pc' := 14) rfl ?_
      refine eIConst X0 hx (0 : Int32) (hb hby own_d3_14) rfl rfl ?_
      exact eRetN X0 hx (t := .boolean) Bd.returns (by simp) hlk (hb hby own_d3_15) (by decide) (by decide) ⟨rfl, N0, e0⟩
    · rw [if_neg c2]
      refine eIcmpN X0 hx (hb hby own_d3_7) (flt c2).2.2.1 rfl ?_
      refine eIConst X0 hx (1 : Int32) (hb hby own_d3_10) rfl rfl ?_
      refine eGoto X0 hx (hb hby own_d3_11) (by decide) (pc' := 15) rfl ?_
      exact eRetN X0 hx (t := .boolean) Bd.returns (by simp) hlk (hb hby own_d3_15) (by decide) (by decide) ⟨rfl, N0, e0⟩
theorem own_d2_0 : decode method_3_code 0 = .ok (.iload_n 0, 1) := by decide +kernel
theorem own_d2_1 : decode method_3_code 1 = .ok (.bipush 58, 2) := by decide +kernel
theorem own_d2_3 : decode method_3_code 3 = .ok (.if_icmp .eq 180, 3) := by decide +kernel
theorem own_d2_183 : decode method_3_code 183 = .ok (.iconst 1, 1) := by decide +kernel
theorem own_d2_184 : decode method_3_code 184 = .ok (.goto 4, 3) := by decide +kernel
theorem own_d2_188 : decode method_3_code 188 = .ok (.ireturn, 1) := by decide +kernel
theorem own_d2_6 : decode method_3_code 6 = .ok (.iload_n 0, 1) := by decide +kernel
theorem own_d2_7 : decode method_3_code 7 = .ok (.bipush 65, 2) := by decide +kernel
theorem own_d2_9 : decode method_3_code 9 = .ok (.bipush 90, 2) := by decide +kernel
theorem own_d2_11 : decode method_3_code 11 = .ok (.invokestatic 7, 3) := by decide +kernel
theorem own_pd0 : parseMethodDescriptor "(III)Z" = some ⟨[.int, .int, .int], some .boolean⟩ := by decide +kernel
theorem own_d2_14 : decode method_3_code 14 = .ok (.ifCond .ne 169, 3) := by decide +kernel
theorem own_d2_17 : decode method_3_code 17 = .ok (.iload_n 0, 1) := by decide +kernel
theorem own_d2_18 : decode method_3_code 18 = .ok (.bipush 95, 2) := by decide +kernel
theorem own_d2_20 : decode method_3_code 20 = .ok (.if_icmp .eq 163, 3) := by decide +kernel
theorem own_d2_23 : decode method_3_code 23 = .ok (.iload_n 0, 1) := by decide +kernel
theorem own_d2_24 : decode method_3_code 24 = .ok (.bipush 97, 2) := by decide +kernel
theorem own_d2_26 : decode method_3_code 26 = .ok (.bipush 122, 2) := by decide +kernel
theorem own_d2_28 : decode method_3_code 28 = .ok (.invokestatic 7, 3) := by decide +kernel
theorem own_d2_31 : decode method_3_code 31 = .ok (.ifCond .ne 152, 3) := by decide +kernel
theorem own_d2_34 : decode method_3_code 34 = .ok (.iload_n 0, 1) := by decide +kernel
theorem own_d2_35 : decode method_3_code 35 = .ok (.sipush 192, 3) := by decide +kernel
theorem own_d2_38 : decode method_3_code 38 = .ok (.sipush 214, 3) := by decide +kernel
theorem own_d2_41 : decode method_3_code 41 = .ok (.invokestatic 7, 3) := by decide +kernel
theorem own_d2_44 : decode method_3_code 44 = .ok (.ifCond .ne 139, 3) := by decide +kernel
theorem own_d2_47 : decode method_3_code 47 = .ok (.iload_n 0, 1) := by decide +kernel
theorem own_d2_48 : decode method_3_code 48 = .ok (.sipush 216, 3) := by decide +kernel
theorem own_d2_51 : decode method_3_code 51 = .ok (.sipush 246, 3) := by decide +kernel
theorem own_d2_54 : decode method_3_code 54 = .ok (.invokestatic 7, 3) := by decide +kernel
theorem own_d2_57 : decode method_3_code 57 = .ok (.ifCond .ne 126, 3) := by decide +kernel
theorem own_d2_60 : decode method_3_code 60 = .ok (.iload_n 0, 1) := by decide +kernel
theorem own_d2_61 : decode method_3_code 61 = .ok (.sipush 248, 3) := by decide +kernel
theorem own_d2_64 : decode method_3_code 64 = .ok (.sipush 767, 3) := by decide +kernel
theorem own_d2_67 : decode method_3_code 67 = .ok (.invokestatic 7, 3) := by decide +kernel
theorem own_d2_70 : decode method_3_code 70 = .ok (.ifCond .ne 113, 3) := by decide +kernel
theorem own_d2_73 : decode method_3_code 73 = .ok (.iload_n 0, 1) := by decide +kernel
theorem own_d2_74 : decode method_3_code 74 = .ok (.sipush 880, 3) := by decide +kernel
theorem own_d2_77 : decode method_3_code 77 = .ok (.sipush 893, 3) := by decide +kernel
theorem own_d2_80 : decode method_3_code 80 = .ok (.invokestatic 7, 3) := by decide +kernel
theorem own_d2_83 : decode method_3_code 83 = .ok (.ifCond .ne 100, 3) := by decide +kernel
theorem own_d2_86 : decode method_3_code 86 = .ok (.iload_n 0, 1) := by decide +kernel
theorem own_d2_87 : decode method_3_code 87 = .ok (.sipush 895, 3) := by decide +kernel
theorem own_d2_90 : decode method_3_code 90 = .ok (.sipush 8191, 3) := by decide +kernel
theorem own_d2_93 : decode method_3_code 93 = .ok (.invokestatic 7, 3) := by decide +kernel
theorem own_d2_96 : decode method_3_code 96 = .ok (.ifCond .ne 87, 3) := by decide +kernel
theorem own_d2_99 : decode method_3_code 99 = .ok (.iload_n 0, 1) := by decide +kernel
theorem own_d2_100 : decode method_3_code 100 = .ok (.sipush 8204, 3) := by decide +kernel
theorem own_d2_103 : decode method_3_code 103 = .ok (.sipush 8205, 3) := by decide +kernel
theorem own_d2_106 : decode method_3_code 106 = .ok (.invokestatic 7, 3) := by decide +kernel
theorem own_d2_109 : decode method_3_code 109 = .ok (.ifCond .ne 74, 3) := by decide +kernel
theorem own_d2_112 : decode method_3_code 112 = .ok (.iload_n 0, 1) := by decide +kernel
theorem own_d2_113 : decode method_3_code 113 = .ok (.sipush 8304, 3) := by decide +kernel
theorem own_d2_116 : decode method_3_code 116 = .ok (.sipush 8591, 3) := by decide +kernel
theorem own_d2_119 : decode method_3_code 119 = .ok (.invokestatic 7, 3) := by decide +kernel
theorem own_d2_122 : decode method_3_code 122 = .ok (.ifCond .ne 61, 3) := by decide +kernel
theorem own_d2_125 : decode method_3_code 125 = .ok (.iload_n 0, 1) := by decide +kernel
theorem own_d2_126 : decode method_3_code 126 = .ok (.sipush 11264, 3) := by decide +kernel
theorem own_d2_129 : decode method_3_code 129 = .ok (.sipush 12271, 3) := by decide +kernel
theorem own_d2_132 : decode method_3_code 132 = .ok (.invokestatic 7, 3) := by decide +kernel
theorem own_d2_135 : decode method_3_code 135 = .ok (.ifCond .ne 48, 3) := by decide +kernel
theorem own_d2_138 : decode method_3_code 138 = .ok (.iload_n 0, 1) := by decide +kernel
theorem own_d2_139 : decode method_3_code 139 = .ok (.sipush 12289, 3) := by decide +kernel
theorem own_d2_142 : decode method_3_code 142 = .ok (.ldc 13, 2) := by decide +kernel
theorem own_d2_144 : decode method_3_code 144 = .ok (.invokestatic 7, 3) := by decide +kernel
theorem own_d2_147 : decode method_3_code 147 = .ok (.ifCond .ne 36, 3) := by decide +kernel
theorem own_d2_150 : decode method_3_code 150 = .ok (.iload_n 0, 1) := by decide +kernel
theorem own_d2_151 : decode method_3_code 151 = .ok (.ldc 14, 2) := by decide +kernel
theorem own_d2_153 : decode method_3_code 153 = .ok (.ldc 15, 2) := by decide +kernel
theorem own_d2_155 : decode method_3_code 155 = .ok (.invokestatic 7, 3) := by decide +kernel
theorem own_d2_158 : decode method_3_code 158 = .ok (.ifCond .ne 25, 3) := by decide +kernel
theorem own_d2_161 : decode method_3_code 161 = .ok (.iload_n 0, 1) := by decide +kernel
theorem own_d2_162 : decode method_3_code 162 = .ok (.ldc 16, 2) := by decide +kernel
theorem own_d2_164 : decode method_3_code 164 = .ok (.ldc 17, 2) := by decide +kernel
theorem own_d2_166 : decode method_3_code 166 = .ok (.invokestatic 7, 3) := by decide +kernel
theorem own_d2_169 : decode method_3_code 169 = .ok (.ifCond .ne 14, 3) := by decide +kernel
theorem own_d2_172 : decode method_3_code 172 = .ok (.iload_n 0, 1) := by decide +kernel
theorem own_d2_173 : decode method_3_code 173 = .ok (.ldc 18, 2) := by decide +kernel
theorem own_d2_175 : decode method_3_code 175 = .ok (.ldc 19, 2) := by decide +kernel
theorem own_d2_177 : decode method_3_code 177 = .ok (.invokestatic 7, 3) := by decide +kernel
theorem own_d2_180 : decode method_3_code 180 = .ok (.ifCond .eq 7, 3) := by decide +kernel
theorem own_d2_187 : decode method_3_code 187 = .ok (.iconst 0, 1) := by decide +kernel
def RM2 : Room := { frames := 1, cells := 0, slots := 0, locals := 14 }
def fRef_0 (p1 : Int32) : Int32 := (if p1 = (58 : Int32) then (1 : Int32) else (if (fIn_0 p1 (65 : Int32) (90 : Int32)) = (0 : Int32) then (if p1 = (95 : Int32) then (1 : Int32) else (if (fIn_0 p1 (97 : Int32) (122 : Int32)) = (0 : Int32) then (if (fIn_0 p1 (192 : Int32) (214 : Int32)) = (0 : Int32) then (if (fIn_0 p1 (216 : Int32) (246 : Int32)) = (0 : Int32) then (if (fIn_0 p1 (248 : Int32) (767 : Int32)) = (0 : Int32) then (if (fIn_0 p1 (880 : Int32) (893 : Int32)) = (0 : Int32) then (if (fIn_0 p1 (895 : Int32) (8191 : Int32)) = (0 : Int32) then (if (fIn_0 p1 (8204 : Int32) (8205 : Int32)) = (0 : Int32) then (if (fIn_0 p1 (8304 : Int32) (8591 : Int32)) = (0 : Int32) then (if (fIn_0 p1 (11264 : Int32) (12271 : Int32)) = (0 : Int32) then (if (fIn_0 p1 (12289 : Int32) (55295 : Int32)) = (0 : Int32) then (if (fIn_0 p1 (63744 : Int32) (64975 : Int32)) = (0 : Int32) then (if (fIn_0 p1 (65008 : Int32) (65533 : Int32)) = (0 : Int32) then (if (fIn_0 p1 (65536 : Int32) (983039 : Int32)) = (0 : Int32) then (0 : Int32) else (1 : Int32)) else (1 : Int32)) else (1 : Int32)) else (1 : Int32)) else (1 : Int32)) else (1 : Int32)) else (1 : Int32)) else (1 : Int32)) else (1 : Int32)) else (1 : Int32)) else (1 : Int32)) else (1 : Int32)) else (1 : Int32))) else (1 : Int32)))
theorem own_ef2 (m : MethodId) (p1 : Int32) : entryFrame m #[(.int p1)] 1 = mkF m 0 #[.val (.int p1)] [] := by first | (simp [entryFrame, mkF, argsToLocals, Value.category]; done) | rfl
set_option maxRecDepth 65536 in
set_option maxHeartbeats 40000000 in
theorem rm2 (l : Launch) (Z : State) (a0 : Array Value) (hw : ∀ d ∈ tables_1, d.before a0 Z = true) (ws : List Jvm.Cond) (p1 : Int32) (h0 : Heap) (n0 : Nat) (Z0 : n0 ≤ h0.size) : MetQ l Z (⟨"com/example/wildcard/wildcard/XmlCharactersIsNameStartPinLaw", "spec", "(I)Z"⟩ : MethodName) (Jvm.Cond.code (⟨"com/example/wildcard/wildcard/XmlCharactersIsNameStartPinLaw", "spec", "(I)Z"⟩ : MethodName) method_3_code 1 (some .boolean) :: ws) RM2 #[(.int p1)] h0 (fun v h L => v = some (.int (fRef_0 p1)) ∧ Fr n0 L ∧ h = h0) := by
  refine MetFree.of_bodySF (plainFor_of_name own_pn1) hisR ?_
  intro p e s m args below meth c s₁ Bd hml0 hP hK
  obtain ⟨rfl, hZ, hh⟩ := hP
  have hx := Bd.exec
  have hby := Bd.bytes
  have hml : c.maxLocals = 1 := hml0
  have hown : s.vm.findClass "com/example/wildcard/wildcard/XmlCharactersIsNameStartPinLaw" = some m.cls := findClass_of_methodNamed Bd.named
  have hnm := (name_of_methodNamed Bd.named Bd.method).1
  have hlk : meth.locks = false := BodyLoose.notSynchronized Bd
  have X0 : Stand p l e RM2 s m #[(.int p1)] below meth c s₁ [] 0 0 := Stand.of_body Bd
  have e0 : s₁.heap = h0 := by rw [← hh, Bd.state]; rfl
  have N0 := Fr.nil n0
  suffices kk : Ends p e below (PVI s 0 0 n0 h0 (fRef_0 p1)) s₁ m 0 #[.val (.int p1)] [] by
    obtain ⟨t, o, k1, k2, k3, k4⟩ := kk
    exact ⟨t, o, castTop (own_ef2 m p1) k1, k2, k3, k4⟩
  refine eILoadN X0 hx (hb hby own_d2_0) rfl rfl ?_
  refine eBipush X0 hx (58 : Int32) (hb hby own_d2_1) rfl rfl ?_
  show Ends p e below (PVI s 0 0 n0 h0 (if p1 = (58 : Int32) then (1 : Int32) else (if (fIn_0 p1 (65 : Int32) (90 : Int32)) = (0 : Int32) then (if p1 = (95 : Int32) then (1 : Int32) else (if (fIn_0 p1 (97 : Int32) (122 : Int32)) = (0 : Int32) then (if (fIn_0 p1 (192 : Int32) (214 : Int32)) = (0 : Int32) then (if (fIn_0 p1 (216 : Int32) (246 : Int32)) = (0 : Int32) then (if (fIn_0 p1 (248 : Int32) (767 : Int32)) = (0 : Int32) then (if (fIn_0 p1 (880 : Int32) (893 : Int32)) = (0 : Int32) then (if (fIn_0 p1 (895 : Int32) (8191 : Int32)) = (0 : Int32) then (if (fIn_0 p1 (8204 : Int32) (8205 : Int32)) = (0 : Int32) then (if (fIn_0 p1 (8304 : Int32) (8591 : Int32)) = (0 : Int32) then (if (fIn_0 p1 (11264 : Int32) (12271 : Int32)) = (0 : Int32) then (if (fIn_0 p1 (12289 : Int32) (55295 : Int32)) = (0 : Int32) then (if (fIn_0 p1 (63744 : Int32) (64975 : Int32)) = (0 : Int32) then (if (fIn_0 p1 (65008 : Int32) (65533 : Int32)) = (0 : Int32) then (if (fIn_0 p1 (65536 : Int32) (983039 : Int32)) = (0 : Int32) then (0 : Int32) else (1 : Int32)) else (1 : Int32)) else (1 : Int32)) else (1 : Int32)) else (1 : Int32)) else (1 : Int32)) else (1 : Int32)) else (1 : Int32)) else (1 : Int32)) else (1 : Int32)) else (1 : Int32)) else (1 : Int32)) else (1 : Int32))) else (1 : Int32)))) s₁ m 3 #[.val (.int p1)] [(.int (58 : Int32)), (.int p1)]
  by_cases c1 : p1 = (58 : Int32)
  · rw [if_pos c1]
    refine eIcmpY X0 hx (hb hby own_d2_3) (teq c1).1 (by decide) (pc' := 183) rfl ?_
    refine eIConst X0 hx (1 : Int32) (hb hby own_d2_183) rfl rfl ?_
    refine eGoto X0 hx (hb hby own_d2_184) (by decide) (pc' := 188) rfl ?_
    exact eRetN X0 hx (t := .boolean) Bd.returns (by simp) hlk (hb hby own_d2_188) (by decide) (by decide) ⟨rfl, N0, e0⟩
  · rw [if_neg c1]
    refine eIcmpN X0 hx (hb hby own_d2_3) (feq c1).1 rfl ?_
    refine eILoadN X0 hx (hb hby own_d2_6) rfl rfl ?_
    refine eBipush X0 hx (65 : Int32) (hb hby own_d2_7) rfl rfl ?_
    refine eBipush X0 hx (90 : Int32) (hb hby own_d2_9) rfl rfl ?_
    refine eCallS X0 hx hZ (y := (⟨"com/example/wildcard/wildcard/XmlCharactersIsNameStartPinLaw", "in", "(III)Z"⟩ : MethodName)) hown (hw _ (List.mem_of_getElem? (i := 19) rfl)) (hw _ (List.mem_of_getElem? (i := 20) rfl)) (hw _ (List.mem_of_getElem? (i := 17) rfl)) (hw _ (List.mem_of_getElem? (i := 21) rfl)) (by decide) e0 (rm3 l Z a0 hw [] p1 (65 : Int32) (90 : Int32) h0 n0 Z0) (argsL := [(.int p1), (.int (65 : Int32)), (.int (90 : Int32))]) (rest := []) (lenOf own_pd0 rfl) rfl (by rw [hml]; rfl) 0 (by exact Nat.le_refl _) (by decide) (by decide) (by decide) (by decide) (hb hby own_d2_11) rfl (fun v2 T2 L2 q2 (X2 : Stand _ _ _ _ _ _ _ _ _ _ T2 _ 0 0) => ?_)
    obtain ⟨rfl, N2', e2⟩ := q2
    have N2 := Fr.app N0 N2'
    show Ends p e below _ T2 m 14 #[.val (.int p1)] [(.int (fIn_0 p1 (65 : Int32) (90 : Int32)))]
    show Ends p e below (PVI s 0 0 n0 h0 (if (fIn_0 p1 (65 : Int32) (90 : Int32)) = (0 : Int32) then (if p1 = (95 : Int32) then (1 : Int32) else (if (fIn_0 p1 (97 : Int32) (122 : Int32)) = (0 : Int32) then (if (fIn_0 p1 (192 : Int32) (214 : Int32)) = (0 : Int32) then (if (fIn_0 p1 (216 : Int32) (246 : Int32)) = (0 : Int32) then (if (fIn_0 p1 (248 : Int32) (767 : Int32)) = (0 : Int32) then (if (fIn_0 p1 (880 : Int32) (893 : Int32)) = (0 : Int32) then (if (fIn_0 p1 (895 : Int32) (8191 : Int32)) = (0 : Int32) then (if (fIn_0 p1 (8204 : Int32) (8205 : Int32)) = (0 : Int32) then (if (fIn_0 p1 (8304 : Int32) (8591 : Int32)) = (0 : Int32) then (if (fIn_0 p1 (11264 : Int32) (12271 : Int32)) = (0 : Int32) then (if (fIn_0 p1 (12289 : Int32) (55295 : Int32)) = (0 : Int32) then (if (fIn_0 p1 (63744 : Int32) (64975 : Int32)) = (0 : Int32) then (if (fIn_0 p1 (65008 : Int32) (65533 : Int32)) = (0 : Int32) then (if (fIn_0 p1 (65536 : Int32) (983039 : Int32)) = (0 : Int32) then (0 : Int32) else (1 : Int32)) else (1 : Int32)) else (1 : Int32)) else (1 : Int32)) else (1 : Int32)) else (1 : Int32)) else (1 : Int32)) else (1 : Int32)) else (1 : Int32)) else (1 : Int32)) else (1 : Int32)) else (1 : Int32)) else (1 : Int32))) else (1 : Int32))) T2 m 14 #[.val (.int p1)] [(.int (fIn_0 p1 (65 : Int32) (90 : Int32)))]
    by_cases c3 : (fIn_0 p1 (65 : Int32) (90 : Int32)) = (0 : Int32)
    · rw [if_pos c3]
      refine eIfN X2 hx (hb hby own_d2_14) ((if0 _ _).trans (teq c3).2) rfl ?_
      refine eILoadN X2 hx (hb hby own_d2_17) rfl rfl ?_
      refine eBipush X2 hx (95 : Int32) (hb hby own_d2_18) rfl rfl ?_
      show Ends p e below (PVI s 0 0 n0 h0 (if p1 = (95 : Int32) then (1 : Int32) else (if (fIn_0 p1 (97 : Int32) (122 : Int32)) = (0 : Int32) then (if (fIn_0 p1 (192 : Int32) (214 : Int32)) = (0 : Int32) then (if (fIn_0 p1 (216 : Int32) (246 : Int32)) = (0 : Int32) then (if (fIn_0 p1 (248 : Int32) (767 : Int32)) = (0 : Int32) then (if (fIn_0 p1 (880 : Int32) (893 : Int32)) = (0 : Int32) then (if (fIn_0 p1 (895 : Int32) (8191 : Int32)) = (0 : Int32) then (if (fIn_0 p1 (8204 : Int32) (8205 : Int32)) = (0 : Int32) then (if (fIn_0 p1 (8304 : Int32) (8591 : Int32)) = (0 : Int32) then (if (fIn_0 p1 (11264 : Int32) (12271 : Int32)) = (0 : Int32) then (if (fIn_0 p1 (12289 : Int32) (55295 : Int32)) = (0 : Int32) then (if (fIn_0 p1 (63744 : Int32) (64975 : Int32)) = (0 : Int32) then (if (fIn_0 p1 (65008 : Int32) (65533 : Int32)) = (0 : Int32) then (if (fIn_0 p1 (65536 : Int32) (983039 : Int32)) = (0 : Int32) then (0 : Int32) else (1 : Int32)) else (1 : Int32)) else (1 : Int32)) else (1 : Int32)) else (1 : Int32)) else (1 : Int32)) else (1 : Int32)) else (1 : Int32)) else (1 : Int32)) else (1 : Int32)) else (1 : Int32)) else (1 : Int32)) else (1 : Int32)))) T2 m 20 #[.val (.int p1)] [(.int (95 : Int32)), (.int p1)]
      by_cases c4 : p1 = (95 : Int32)
      · rw [if_pos c4]
        refine eIcmpY X2 hx (hb hby own_d2_20) (teq c4).1 (by decide) (pc' := 183) rfl ?_
        refine eIConst X2 hx (1 : Int32) (hb hby own_d2_183) rfl rfl ?_
        refine eGoto X2 hx (hb hby own_d2_184) (by decide) (pc' := 188) rfl ?_
        exact eRetN X2 hx (t := .boolean) Bd.returns (by simp) hlk (hb hby own_d2_188) (by decide) (by decide) ⟨rfl, N2, e2⟩
      · rw [if_neg c4]
        refine eIcmpN X2 hx (hb hby own_d2_20) (feq c4).1 rfl ?_
        refine eILoadN X2 hx (hb hby own_d2_23) rfl rfl ?_
        refine eBipush X2 hx (97 : Int32) (hb hby own_d2_24) rfl rfl ?_
        refine eBipush X2 hx (122 : Int32) (hb hby own_d2_26) rfl rfl ?_
        refine eCallS X2 hx hZ (y := (⟨"com/example/wildcard/wildcard/XmlCharactersIsNameStartPinLaw", "in", "(III)Z"⟩ : MethodName)) hown (hw _ (List.mem_of_getElem? (i := 19) rfl)) (hw _ (List.mem_of_getElem? (i := 20) rfl)) (hw _ (List.mem_of_getElem? (i := 17) rfl)) (hw _ (List.mem_of_getElem? (i := 21) rfl)) (by decide) e2 (rm3 l Z a0 hw [] p1 (97 : Int32) (122 : Int32) h0 n0 Z0) (argsL := [(.int p1), (.int (97 : Int32)), (.int (122 : Int32))]) (rest := []) (lenOf own_pd0 rfl) rfl (by rw [hml]; rfl) 0 (by exact Nat.le_refl _) (by decide) (by decide) (by decide) (by decide) (hb hby own_d2_28) rfl (fun v5 T5 L5 q5 (X5 : Stand _ _ _ _ _ _ _ _ _ _ T5 _ 0 0) => ?_)
        obtain ⟨rfl, N5', e5⟩ := q5
        have N5 := Fr.app N2 N5'
        show Ends p e below _ T5 m 31 #[.val (.int p1)] [(.int (fIn_0 p1 (97 : Int32) (122 : Int32)))]
        show Ends p e below (PVI s 0 0 n0 h0 (if (fIn_0 p1 (97 : Int32) (122 : Int32)) = (0 : Int32) then (if (fIn_0 p1 (192 : Int32) (214 : Int32)) = (0 : Int32) then (if (fIn_0 p1 (216 : Int32) (246 : Int32)) = (0 : Int32) then (if (fIn_0 p1 (248 : Int32) (767 : Int32)) = (0 : Int32) then (if (fIn_0 p1 (880 : Int32) (893 : Int32)) = (0 : Int32) then (if (fIn_0 p1 (895 : Int32) (8191 : Int32)) = (0 : Int32) then (if (fIn_0 p1 (8204 : Int32) (8205 : Int32)) = (0 : Int32) then (if (fIn_0 p1 (8304 : Int32) (8591 : Int32)) = (0 : Int32) then (if (fIn_0 p1 (11264 : Int32) (12271 : Int32)) = (0 : Int32) then (if (fIn_0 p1 (12289 : Int32) (55295 : Int32)) = (0 : Int32) then (if (fIn_0 p1 (63744 : Int32) (64975 : Int32)) = (0 : Int32) then (if (fIn_0 p1 (65008 : Int32) (65533 : Int32)) = (0 : Int32) then (if (fIn_0 p1 (65536 : Int32) (983039 : Int32)) = (0 : Int32) then (0 : Int32) else (1 : Int32)) else (1 : Int32)) else (1 : Int32)) else (1 : Int32)) else (1 : Int32)) else (1 : Int32)) else (1 : Int32)) else (1 : Int32)) else (1 : Int32)) else (1 : Int32)) else (1 : Int32)) else (1 : Int32)) else (1 : Int32))) T5 m 31 #[.val (.int p1)] [(.int (fIn_0 p1 (97 : Int32) (122 : Int32)))]
        by_cases c6 : (fIn_0 p1 (97 : Int32) (122 : Int32)) = (0 : Int32)
        · rw [if_pos c6]
          refine eIfN X5 hx (hb hby own_d2_31) ((if0 _ _).trans (teq c6).2) rfl ?_
          refine eILoadN X5 hx (hb hby own_d2_34) rfl rfl ?_
          refine eSipush X5 hx (192 : Int32) (hb hby own_d2_35) rfl rfl ?_
          refine eSipush X5 hx (214 : Int32) (hb hby own_d2_38) rfl rfl ?_
          refine eCallS X5 hx hZ (y := (⟨"com/example/wildcard/wildcard/XmlCharactersIsNameStartPinLaw", "in", "(III)Z"⟩ : MethodName)) hown (hw _ (List.mem_of_getElem? (i := 19) rfl)) (hw _ (List.mem_of_getElem? (i := 20) rfl)) (hw _ (List.mem_of_getElem? (i := 17) rfl)) (hw _ (List.mem_of_getElem? (i := 21) rfl)) (by decide) e5 (rm3 l Z a0 hw [] p1 (192 : Int32) (214 : Int32) h0 n0 Z0) (argsL := [(.int p1), (.int (192 : Int32)), (.int (214 : Int32))]) (rest := []) (lenOf own_pd0 rfl) rfl (by rw [hml]; rfl) 0 (by exact Nat.le_refl _) (by decide) (by decide) (by decide) (by decide) (hb hby own_d2_41) rfl (fun v7 T7 L7 q7 (X7 : Stand _ _ _ _ _ _ _ _ _ _ T7 _ 0 0) => ?_)
          obtain ⟨rfl, N7', e7⟩ := q7
          have N7 := Fr.app N5 N7'
          show Ends p e below _ T7 m 44 #[.val (.int p1)] [(.int (fIn_0 p1 (192 : Int32) (214 : Int32)))]
          show Ends p e below (PVI s 0 0 n0 h0 (if (fIn_0 p1 (192 : Int32) (214 : Int32)) = (0 : Int32) then (if (fIn_0 p1 (216 : Int32) (246 : Int32)) = (0 : Int32) then (if (fIn_0 p1 (248 : Int32) (767 : Int32)) = (0 : Int32) then (if (fIn_0 p1 (880 : Int32) (893 : Int32)) = (0 : Int32) then (if (fIn_0 p1 (895 : Int32) (8191 : Int32)) = (0 : Int32) then (if (fIn_0 p1 (8204 : Int32) (8205 : Int32)) = (0 : Int32) then (if (fIn_0 p1 (8304 : Int32) (8591 : Int32)) = (0 : Int32) then (if (fIn_0 p1 (11264 : Int32) (12271 : Int32)) = (0 : Int32) then (if (fIn_0 p1 (12289 : Int32) (55295 : Int32)) = (0 : Int32) then (if (fIn_0 p1 (63744 : Int32) (64975 : Int32)) = (0 : Int32) then (if (fIn_0 p1 (65008 : Int32) (65533 : Int32)) = (0 : Int32) then (if (fIn_0 p1 (65536 : Int32) (983039 : Int32)) = (0 : Int32) then (0 : Int32) else (1 : Int32)) else (1 : Int32)) else (1 : Int32)) else (1 : Int32)) else (1 : Int32)) else (1 : Int32)) else (1 : Int32)) else (1 : Int32)) else (1 : Int32)) else (1 : Int32)) else (1 : Int32)) else (1 : Int32))) T7 m 44 #[.val (.int p1)] [(.int (fIn_0 p1 (192 : Int32) (214 : Int32)))]
          by_cases c8 : (fIn_0 p1 (192 : Int32) (214 : Int32)) = (0 : Int32)
          · rw [if_pos c8]
            refine eIfN X7 hx (hb hby own_d2_44) ((if0 _ _).trans (teq c8).2) rfl ?_
            refine eILoadN X7 hx (hb hby own_d2_47) rfl rfl ?_
            refine eSipush X7 hx (216 : Int32) (hb hby own_d2_48) rfl rfl ?_
            refine eSipush X7 hx (246 : Int32) (hb hby own_d2_51) rfl rfl ?_
            refine eCallS X7 hx hZ (y := (⟨"com/example/wildcard/wildcard/XmlCharactersIsNameStartPinLaw", "in", "(III)Z"⟩ : MethodName)) hown (hw _ (List.mem_of_getElem? (i := 19) rfl)) (hw _ (List.mem_of_getElem? (i := 20) rfl)) (hw _ (List.mem_of_getElem? (i := 17) rfl)) (hw _ (List.mem_of_getElem? (i := 21) rfl)) (by decide) e7 (rm3 l Z a0 hw [] p1 (216 : Int32) (246 : Int32) h0 n0 Z0) (argsL := [(.int p1), (.int (216 : Int32)), (.int (246 : Int32))]) (rest := []) (lenOf own_pd0 rfl) rfl (by rw [hml]; rfl) 0 (by exact Nat.le_refl _) (by decide) (by decide) (by decide) (by decide) (hb hby own_d2_54) rfl (fun v9 T9 L9 q9 (X9 : Stand _ _ _ _ _ _ _ _ _ _ T9 _ 0 0) => ?_)
            obtain ⟨rfl, N9', e9⟩ := q9
            have N9 := Fr.app N7 N9'
            show Ends p e below _ T9 m 57 #[.val (.int p1)] [(.int (fIn_0 p1 (216 : Int32) (246 : Int32)))]
            show Ends p e below (PVI s 0 0 n0 h0 (if (fIn_0 p1 (216 : Int32) (246 : Int32)) = (0 : Int32) then (if (fIn_0 p1 (248 : Int32) (767 : Int32)) = (0 : Int32) then (if (fIn_0 p1 (880 : Int32) (893 : Int32)) = (0 : Int32) then (if (fIn_0 p1 (895 : Int32) (8191 : Int32)) = (0 : Int32) then (if (fIn_0 p1 (8204 : Int32) (8205 : Int32)) = (0 : Int32) then (if (fIn_0 p1 (8304 : Int32) (8591 : Int32)) = (0 : Int32) then (if (fIn_0 p1 (11264 : Int32) (12271 : Int32)) = (0 : Int32) then (if (fIn_0 p1 (12289 : Int32) (55295 : Int32)) = (0 : Int32) then (if (fIn_0 p1 (63744 : Int32) (64975 : Int32)) = (0 : Int32) then (if (fIn_0 p1 (65008 : Int32) (65533 : Int32)) = (0 : Int32) then (if (fIn_0 p1 (65536 : Int32) (983039 : Int32)) = (0 : Int32) then (0 : Int32) else (1 : Int32)) else (1 : Int32)) else (1 : Int32)) else (1 : Int32)) else (1 : Int32)) else (1 : Int32)) else (1 : Int32)) else (1 : Int32)) else (1 : Int32)) else (1 : Int32)) else (1 : Int32))) T9 m 57 #[.val (.int p1)] [(.int (fIn_0 p1 (216 : Int32) (246 : Int32)))]
            by_cases c10 : (fIn_0 p1 (216 : Int32) (246 : Int32)) = (0 : Int32)
            · rw [if_pos c10]
              refine eIfN X9 hx (hb hby own_d2_57) ((if0 _ _).trans (teq c10).2) rfl ?_
              refine eILoadN X9 hx (hb hby own_d2_60) rfl rfl ?_
              refine eSipush X9 hx (248 : Int32) (hb hby own_d2_61) rfl rfl ?_
              refine eSipush X9 hx (767 : Int32) (hb hby own_d2_64) rfl rfl ?_
              refine eCallS X9 hx hZ (y := (⟨"com/example/wildcard/wildcard/XmlCharactersIsNameStartPinLaw", "in", "(III)Z"⟩ : MethodName)) hown (hw _ (List.mem_of_getElem? (i := 19) rfl)) (hw _ (List.mem_of_getElem? (i := 20) rfl)) (hw _ (List.mem_of_getElem? (i := 17) rfl)) (hw _ (List.mem_of_getElem? (i := 21) rfl)) (by decide) e9 (rm3 l Z a0 hw [] p1 (248 : Int32) (767 : Int32) h0 n0 Z0) (argsL := [(.int p1), (.int (248 : Int32)), (.int (767 : Int32))]) (rest := []) (lenOf own_pd0 rfl) rfl (by rw [hml]; rfl) 0 (by exact Nat.le_refl _) (by decide) (by decide) (by decide) (by decide) (hb hby own_d2_67) rfl (fun v11 T11 L11 q11 (X11 : Stand _ _ _ _ _ _ _ _ _ _ T11 _ 0 0) => ?_)
              obtain ⟨rfl, N11', e11⟩ := q11
              have N11 := Fr.app N9 N11'
              show Ends p e below _ T11 m 70 #[.val (.int p1)] [(.int (fIn_0 p1 (248 : Int32) (767 : Int32)))]
              show Ends p e below (PVI s 0 0 n0 h0 (if (fIn_0 p1 (248 : Int32) (767 : Int32)) = (0 : Int32) then (if (fIn_0 p1 (880 : Int32) (893 : Int32)) = (0 : Int32) then (if (fIn_0 p1 (895 : Int32) (8191 : Int32)) = (0 : Int32) then (if (fIn_0 p1 (8204 : Int32) (8205 : Int32)) = (0 : Int32) then (if (fIn_0 p1 (8304 : Int32) (8591 : Int32)) = (0 : Int32) then (if (fIn_0 p1 (11264 : Int32) (12271 : Int32)) = (0 : Int32) then (if (fIn_0 p1 (12289 : Int32) (55295 : Int32)) = (0 : Int32) then (if (fIn_0 p1 (63744 : Int32) (64975 : Int32)) = (0 : Int32) then (if (fIn_0 p1 (65008 : Int32) (65533 : Int32)) = (0 : Int32) then (if (fIn_0 p1 (65536 : Int32) (983039 : Int32)) = (0 : Int32) then (0 : Int32) else (1 : Int32)) else (1 : Int32)) else (1 : Int32)) else (1 : Int32)) else (1 : Int32)) else (1 : Int32)) else (1 : Int32)) else (1 : Int32)) else (1 : Int32)) else (1 : Int32))) T11 m 70 #[.val (.int p1)] [(.int (fIn_0 p1 (248 : Int32) (767 : Int32)))]
              by_cases c12 : (fIn_0 p1 (248 : Int32) (767 : Int32)) = (0 : Int32)
              · rw [if_pos c12]
                refine eIfN X11 hx (hb hby own_d2_70) ((if0 _ _).trans (teq c12).2) rfl ?_
                refine eILoadN X11 hx (hb hby own_d2_73) rfl rfl ?_
                refine eSipush X11 hx (880 : Int32) (hb hby own_d2_74) rfl rfl ?_
                refine eSipush X11 hx (893 : Int32) (hb hby own_d2_77) rfl rfl ?_
                refine eCallS X11 hx hZ (y := (⟨"com/example/wildcard/wildcard/XmlCharactersIsNameStartPinLaw", "in", "(III)Z"⟩ : MethodName)) hown (hw _ (List.mem_of_getElem? (i := 19) rfl)) (hw _ (List.mem_of_getElem? (i := 20) rfl)) (hw _ (List.mem_of_getElem? (i := 17) rfl)) (hw _ (List.mem_of_getElem? (i := 21) rfl)) (by decide) e11 (rm3 l Z a0 hw [] p1 (880 : Int32) (893 : Int32) h0 n0 Z0) (argsL := [(.int p1), (.int (880 : Int32)), (.int (893 : Int32))]) (rest := []) (lenOf own_pd0 rfl) rfl (by rw [hml]; rfl) 0 (by exact Nat.le_refl _) (by decide) (by decide) (by decide) (by decide) (hb hby own_d2_80) rfl (fun v13 T13 L13 q13 (X13 : Stand _ _ _ _ _ _ _ _ _ _ T13 _ 0 0) => ?_)
                obtain ⟨rfl, N13', e13⟩ := q13
                have N13 := Fr.app N11 N13'
                show Ends p e below _ T13 m 83 #[.val (.int p1)] [(.int (fIn_0 p1 (880 : Int32) (893 : Int32)))]
                show Ends p e below (PVI s 0 0 n0 h0 (if (fIn_0 p1 (880 : Int32) (893 : Int32)) = (0 : Int32) then (if (fIn_0 p1 (895 : Int32) (8191 : Int32)) = (0 : Int32) then (if (fIn_0 p1 (8204 : Int32) (8205 : Int32)) = (0 : Int32) then (if (fIn_0 p1 (8304 : Int32) (8591 : Int32)) = (0 : Int32) then (if (fIn_0 p1 (11264 : Int32) (12271 : Int32)) = (0 : Int32) then (if (fIn_0 p1 (12289 : Int32) (55295 : Int32)) = (0 : Int32) then (if (fIn_0 p1 (63744 : Int32) (64975 : Int32)) = (0 : Int32) then (if (fIn_0 p1 (65008 : Int32) (65533 : Int32)) = (0 : Int32) then (if (fIn_0 p1 (65536 : Int32) (983039 : Int32)) = (0 : Int32) then (0 : Int32) else (1 : Int32)) else (1 : Int32)) else (1 : Int32)) else (1 : Int32)) else (1 : Int32)) else (1 : Int32)) else (1 : Int32)) else (1 : Int32)) else (1 : Int32))) T13 m 83 #[.val (.int p1)] [(.int (fIn_0 p1 (880 : Int32) (893 : Int32)))]
                by_cases c14 : (fIn_0 p1 (880 : Int32) (893 : Int32)) = (0 : Int32)
                · rw [if_pos c14]
                  refine eIfN X13 hx (hb hby own_d2_83) ((if0 _ _).trans (teq c14).2) rfl ?_
                  refine eILoadN X13 hx (hb hby own_d2_86) rfl rfl ?_
                  refine eSipush X13 hx (895 : Int32) (hb hby own_d2_87) rfl rfl ?_
                  refine eSipush X13 hx (8191 : Int32) (hb hby own_d2_90) rfl rfl ?_
                  refine eCallS X13 hx hZ (y := (⟨"com/example/wildcard/wildcard/XmlCharactersIsNameStartPinLaw", "in", "(III)Z"⟩ : MethodName)) hown (hw _ (List.mem_of_getElem? (i := 19) rfl)) (hw _ (List.mem_of_getElem? (i := 20) rfl)) (hw _ (List.mem_of_getElem? (i := 17) rfl)) (hw _ (List.mem_of_getElem? (i := 21) rfl)) (by decide) e13 (rm3 l Z a0 hw [] p1 (895 : Int32) (8191 : Int32) h0 n0 Z0) (argsL := [(.int p1), (.int (895 : Int32)), (.int (8191 : Int32))]) (rest := []) (lenOf own_pd0 rfl) rfl (by rw [hml]; rfl) 0 (by exact Nat.le_refl _) (by decide) (by decide) (by decide) (by decide) (hb hby own_d2_93) rfl (fun v15 T15 L15 q15 (X15 : Stand _ _ _ _ _ _ _ _ _ _ T15 _ 0 0) => ?_)
                  obtain ⟨rfl, N15', e15⟩ := q15
                  have N15 := Fr.app N13 N15'
                  show Ends p e below _ T15 m 96 #[.val (.int p1)] [(.int (fIn_0 p1 (895 : Int32) (8191 : Int32)))]
                  show Ends p e below (PVI s 0 0 n0 h0 (if (fIn_0 p1 (895 : Int32) (8191 : Int32)) = (0 : Int32) then (if (fIn_0 p1 (8204 : Int32) (8205 : Int32)) = (0 : Int32) then (if (fIn_0 p1 (8304 : Int32) (8591 : Int32)) = (0 : Int32) then (if (fIn_0 p1 (11264 : Int32) (12271 : Int32)) = (0 : Int32) then (if (fIn_0 p1 (12289 : Int32) (55295 : Int32)) = (0 : Int32) then (if (fIn_0 p1 (63744 : Int32) (64975 : Int32)) = (0 : Int32) then (if (fIn_0 p1 (65008 : Int32) (65533 : Int32)) = (0 : Int32) then (if (fIn_0 p1 (65536 : Int32) (983039 : Int32)) = (0 : Int32) then (0 : Int32) else (1 : Int32)) else (1 : Int32)) else (1 : Int32)) else (1 : Int32)) else (1 : Int32)) else (1 : Int32)) else (1 : Int32)) else (1 : Int32))) T15 m 96 #[.val (.int p1)] [(.int (fIn_0 p1 (895 : Int32) (8191 : Int32)))]
                  by_cases c16 : (fIn_0 p1 (895 : Int32) (8191 : Int32)) = (0 : Int32)
                  · rw [if_pos c16]
                    refine eIfN X15 hx (hb hby own_d2_96) ((if0 _ _).trans (teq c16).2) rfl ?_
                    refine eILoadN X15 hx (hb hby own_d2_99) rfl rfl ?_
                    refine eSipush X15 hx (8204 : Int32) (hb hby own_d2_100) rfl rfl ?_
                    refine eSipush X15 hx (8205 : Int32) (hb hby own_d2_103) rfl rfl ?_
                    refine eCallS X15 hx hZ (y := (⟨"com/example/wildcard/wildcard/XmlCharactersIsNameStartPinLaw", "in", "(III)Z"⟩ : MethodName)) hown (hw _ (List.mem_of_getElem? (i := 19) rfl)) (hw _ (List.mem_of_getElem? (i := 20) rfl)) (hw _ (List.mem_of_getElem? (i := 17) rfl)) (hw _ (List.mem_of_getElem? (i := 21) rfl)) (by decide) e15 (rm3 l Z a0 hw [] p1 (8204 : Int32) (8205 : Int32) h0 n0 Z0) (argsL := [(.int p1), (.int (8204 : Int32)), (.int (8205 : Int32))]) (rest := []) (lenOf own_pd0 rfl) rfl (by rw [hml]; rfl) 0 (by exact Nat.le_refl _) (by decide) (by decide) (by decide) (by decide) (hb hby own_d2_106) rfl (fun v17 T17 L17 q17 (X17 : Stand _ _ _ _ _ _ _ _ _ _ T17 _ 0 0) => ?_)
                    obtain ⟨rfl, N17', e17⟩ := q17
                    have N17 := Fr.app N15 N17'
                    show Ends p e below _ T17 m 109 #[.val (.int p1)] [(.int (fIn_0 p1 (8204 : Int32) (8205 : Int32)))]
                    show Ends p e below (PVI s 0 0 n0 h0 (if (fIn_0 p1 (8204 : Int32) (8205 : Int32)) = (0 : Int32) then (if (fIn_0 p1 (8304 : Int32) (8591 : Int32)) = (0 : Int32) then (if (fIn_0 p1 (11264 : Int32) (12271 : Int32)) = (0 : Int32) then (if (fIn_0 p1 (12289 : Int32) (55295 : Int32)) = (0 : Int32) then (if (fIn_0 p1 (63744 : Int32) (64975 : Int32)) = (0 : Int32) then (if (fIn_0 p1 (65008 : Int32) (65533 : Int32)) = (0 : Int32) then (if (fIn_0 p1 (65536 : Int32) (983039 : Int32)) = (0 : Int32) then (0 : Int32) else (1 : Int32)) else (1 : Int32)) else (1 : Int32)) else (1 : Int32)) else (1 : Int32)) else (1 : Int32)) else (1 : Int32))) T17 m 109 #[.val (.int p1)] [(.int (fIn_0 p1 (8204 : Int32) (8205 : Int32)))]
                    by_cases c18 : (fIn_0 p1 (8204 : Int32) (8205 : Int32)) = (0 : Int32)
                    · rw [if_pos c18]
                      refine eIfN X17 hx (hb hby own_d2_109) ((if0 _ _).trans (teq c18).2) rfl ?_
                      refine eILoadN X17 hx (hb hby own_d2_112) rfl rfl ?_
                      refine eSipush X17 hx (8304 : Int32) (hb hby own_d2_113) rfl rfl ?_
                      refine eSipush X17 hx (8591 : Int32) (hb hby own_d2_116) rfl rfl ?_
                      refine eCallS X17 hx hZ (y := (⟨"com/example/wildcard/wildcard/XmlCharactersIsNameStartPinLaw", "in", "(III)Z"⟩ : MethodName)) hown (hw _ (List.mem_of_getElem? (i := 19) rfl)) (hw _ (List.mem_of_getElem? (i := 20) rfl)) (hw _ (List.mem_of_getElem? (i := 17) rfl)) (hw _ (List.mem_of_getElem? (i := 21) rfl)) (by decide) e17 (rm3 l Z a0 hw [] p1 (8304 : Int32) (8591 : Int32) h0 n0 Z0) (argsL := [(.int p1), (.int (8304 : Int32)), (.int (8591 : Int32))]) (rest := []) (lenOf own_pd0 rfl) rfl (by rw [hml]; rfl) 0 (by exact Nat.le_refl _) (by decide) (by decide) (by decide) (by decide) (hb hby own_d2_119) rfl (fun v19 T19 L19 q19 (X19 : Stand _ _ _ _ _ _ _ _ _ _ T19 _ 0 0) => ?_)
                      obtain ⟨rfl, N19', e19⟩ := q19
                      have N19 := Fr.app N17 N19'
                      show Ends p e below _ T19 m 122 #[.val (.int p1)] [(.int (fIn_0 p1 (8304 : Int32) (8591 : Int32)))]
                      show Ends p e below (PVI s 0 0 n0 h0 (if (fIn_0 p1 (8304 : Int32) (8591 : Int32)) = (0 : Int32) then (if (fIn_0 p1 (11264 : Int32) (12271 : Int32)) = (0 : Int32) then (if (fIn_0 p1 (12289 : Int32) (55295 : Int32)) = (0 : Int32) then (if (fIn_0 p1 (63744 : Int32) (64975 : Int32)) = (0 : Int32) then (if (fIn_0 p1 (65008 : Int32) (65533 : Int32)) = (0 : Int32) then (if (fIn_0 p1 (65536 : Int32) (983039 : Int32)) = (0 : Int32) then (0 : Int32) else (1 : Int32)) else (1 : Int32)) else (1 : Int32)) else (1 : Int32)) else (1 : Int32)) else (1 : Int32))) T19 m 122 #[.val (.int p1)] [(.int (fIn_0 p1 (8304 : Int32) (8591 : Int32)))]
                      by_cases c20 : (fIn_0 p1 (8304 : Int32) (8591 : Int32)) = (0 : Int32)
                      · rw [if_pos c20]
                        refine eIfN X19 hx (hb hby own_d2_122) ((if0 _ _).trans (teq c20).2) rfl ?_
                        refine eILoadN X19 hx (hb hby own_d2_125) rfl rfl ?_
                        refine eSipush X19 hx (11264 : Int32) (hb hby own_d2_126) rfl rfl ?_
                        refine eSipush X19 hx (12271 : Int32) (hb hby own_d2_129) rfl rfl ?_
                        refine eCallS X19 hx hZ (y := (⟨"com/example/wildcard/wildcard/XmlCharactersIsNameStartPinLaw", "in", "(III)Z"⟩ : MethodName)) hown (hw _ (List.mem_of_getElem? (i := 19) rfl)) (hw _ (List.mem_of_getElem? (i := 20) rfl)) (hw _ (List.mem_of_getElem? (i := 17) rfl)) (hw _ (List.mem_of_getElem? (i := 21) rfl)) (by decide) e19 (rm3 l Z a0 hw [] p1 (11264 : Int32) (12271 : Int32) h0 n0 Z0) (argsL := [(.int p1), (.int (11264 : Int32)), (.int (12271 : Int32))]) (rest := []) (lenOf own_pd0 rfl) rfl (by rw [hml]; rfl) 0 (by exact Nat.le_refl _) (by decide) (by decide) (by decide) (by decide) (hb hby own_d2_132) rfl (fun v21 T21 L21 q21 (X21 : Stand _ _ _ _ _ _ _ _ _ _ T21 _ 0 0) => ?_)
                        obtain ⟨rfl, N21', e21⟩ := q21
                        have N21 := Fr.app N19 N21'
                        show Ends p e below _ T21 m 135 #[.val (.int p1)] [(.int (fIn_0 p1 (11264 : Int32) (12271 : Int32)))]
                        show Ends p e below (PVI s 0 0 n0 h0 (if (fIn_0 p1 (11264 : Int32) (12271 : Int32)) = (0 : Int32) then (if (fIn_0 p1 (12289 : Int32) (55295 : Int32)) = (0 : Int32) then (if (fIn_0 p1 (63744 : Int32) (64975 : Int32)) = (0 : Int32) then (if (fIn_0 p1 (65008 : Int32) (65533 : Int32)) = (0 : Int32) then (if (fIn_0 p1 (65536 : Int32) (983039 : Int32)) = (0 : Int32) then (0 : Int32) else (1 : Int32)) else (1 : Int32)) else (1 : Int32)) else (1 : Int32)) else (1 : Int32))) T21 m 135 #[.val (.int p1)] [(.int (fIn_0 p1 (11264 : Int32) (12271 : Int32)))]
                        by_cases c22 : (fIn_0 p1 (11264 : Int32) (12271 : Int32)) = (0 : Int32)
                        · rw [if_pos c22]
                          refine eIfN X21 hx (hb hby own_d2_135) ((if0 _ _).trans (teq c22).2) rfl ?_
                          refine eILoadN X21 hx (hb hby own_d2_138) rfl rfl ?_
                          refine eSipush X21 hx (12289 : Int32) (hb hby own_d2_139) rfl rfl ?_
                          refine eLdcI X21 hx hZ hown (v := (55295 : Int32)) (hw _ (List.mem_of_getElem? (i := 1) rfl)) (hb hby own_d2_142) rfl ?_
                          refine eCallS X21 hx hZ (y := (⟨"com/example/wildcard/wildcard/XmlCharactersIsNameStartPinLaw", "in", "(III)Z"⟩ : MethodName)) hown (hw _ (List.mem_of_getElem? (i := 19) rfl)) (hw _ (List.mem_of_getElem? (i := 20) rfl)) (hw _ (List.mem_of_getElem? (i := 17) rfl)) (hw _ (List.mem_of_getElem? (i := 21) rfl)) (by decide) e21 (rm3 l Z a0 hw [] p1 (12289 : Int32) (55295 : Int32) h0 n0 Z0) (argsL := [(.int p1), (.int (12289 : Int32)), (.int (55295 : Int32))]) (rest := []) (lenOf own_pd0 rfl) rfl (by rw [hml]; rfl) 0 (by exact Nat.le_refl _) (by decide) (by decide) (by decide) (by decide) (hb hby own_d2_144) rfl (fun v23 T23 L23 q23 (X23 : Stand _ _ _ _ _ _ _ _ _ _ T23 _ 0 0) => ?_)
                          obtain ⟨rfl, N23', e23⟩ := q23
                          have N23 := Fr.app N21 N23'
                          show Ends p e below _ T23 m 147 #[.val (.int p1)] [(.int (fIn_0 p1 (12289 : Int32) (55295 : Int32)))]
                          show Ends p e below (PVI s 0 0 n0 h0 (if (fIn_0 p1 (12289 : Int32) (55295 : Int32)) = (0 : Int32) then (if (fIn_0 p1 (63744 : Int32) (64975 : Int32)) = (0 : Int32) then (if (fIn_0 p1 (65008 : Int32) (65533 : Int32)) = (0 : Int32) then (if (fIn_0 p1 (65536 : Int32) (983039 : Int32)) = (0 : Int32) then (0 : Int32) else (1 : Int32)) else (1 : Int32)) else (1 : Int32)) else (1 : Int32))) T23 m 147 #[.val (.int p1)] [(.int (fIn_0 p1 (12289 : Int32) (55295 : Int32)))]
                          by_cases c24 : (fIn_0 p1 (12289 : Int32) (55295 : Int32)) = (0 : Int32)
                          · rw [if_pos c24]
                            refine eIfN X23 hx (hb hby own_d2_147) ((if0 _ _).trans (teq c24).2) rfl ?_
                            refine eILoadN X23 hx (hb hby own_d2_150) rfl rfl ?_
                            refine eLdcI X23 hx hZ hown (v := (63744 : Int32)) (hw _ (List.mem_of_getElem? (i := 2) rfl)) (hb hby own_d2_151) rfl ?_
                            refine eLdcI X23 hx hZ hown (v := (64975 : Int32)) (hw _ (List.mem_of_getElem? (i := 3) rfl)) (hb hby own_d2_153) rfl ?_
                            refine eCallS X23 hx hZ (y := (⟨"com/example/wildcard/wildcard/XmlCharactersIsNameStartPinLaw", "in", "(III)Z"⟩ : MethodName)) hown (hw _ (List.mem_of_getElem? (i := 19) rfl)) (hw _ (List.mem_of_getElem? (i := 20) rfl)) (hw _ (List.mem_of_getElem? (i := 17) rfl)) (hw _ (List.mem_of_getElem? (i := 21) rfl)) (by decide) e23 (rm3 l Z a0 hw [] p1 (63744 : Int32) (64975 : Int32) h0 n0 Z0) (argsL := [(.int p1), (.int (63744 : Int32)), (.int (64975 : Int32))]) (rest := []) (lenOf own_pd0 rfl) rfl (by rw [hml]; rfl) 0 (by exact Nat.le_refl _) (by decide) (by decide) (by decide) (by decide) (hb hby own_d2_155) rfl (fun v25 T25 L25 q25 (X25 : Stand _ _ _ _ _ _ _ _ _ _ T25 _ 0 0) => ?_)
                            obtain ⟨rfl, N25', e25⟩ := q25
                            have N25 := Fr.app N23 N25'
                            show Ends p e below _ T25 m 158 #[.val (.int p1)] [(.int (fIn_0 p1 (63744 : Int32) (64975 : Int32)))]
                            show Ends p e below (PVI s 0 0 n0 h0 (if (fIn_0 p1 (63744 : Int32) (64975 : Int32)) = (0 : Int32) then (if (fIn_0 p1 (65008 : Int32) (65533 : Int32)) = (0 : Int32) then (if (fIn_0 p1 (65536 : Int32) (983039 : Int32)) = (0 : Int32) then (0 : Int32) else (1 : Int32)) else (1 : Int32)) else (1 : Int32))) T25 m 158 #[.val (.int p1)] [(.int (fIn_0 p1 (63744 : Int32) (64975 : Int32)))]
                            by_cases c26 : (fIn_0 p1 (63744 : Int32) (64975 : Int32)) = (0 : Int32)
                            · rw [if_pos c26]
                              refine eIfN X25 hx (hb hby own_d2_158) ((if0 _ _).trans (teq c26).2) rfl ?_
                              refine eILoadN X25 hx (hb hby own_d2_161) rfl rfl ?_
                              refine eLdcI X25 hx hZ hown (v := (65008 : Int32)) (hw _ (List.mem_of_getElem? (i := 4) rfl)) (hb hby own_d2_162) rfl ?_
                              refine eLdcI X25 hx hZ hown (v := (65533 : Int32)) (hw _ (List.mem_of_getElem? (i := 5) rfl)) (hb hby own_d2_164) rfl ?_
                              refine eCallS X25 hx hZ (y := (⟨"com/example/wildcard/wildcard/XmlCharactersIsNameStartPinLaw", "in", "(III)Z"⟩ : MethodName)) hown (hw _ (List.mem_of_getElem? (i := 19) rfl)) (hw _ (List.mem_of_getElem? (i := 20) rfl)) (hw _ (List.mem_of_getElem? (i := 17) rfl)) (hw _ (List.mem_of_getElem? (i := 21) rfl)) (by decide) e25 (rm3 l Z a0 hw [] p1 (65008 : Int32) (65533 : Int32) h0 n0 Z0) (argsL := [(.int p1), (.int (65008 : Int32)), (.int (65533 : Int32))]) (rest := []) (lenOf own_pd0 rfl) rfl (by rw [hml]; rfl) 0 (by exact Nat.le_refl _) (by decide) (by decide) (by decide) (by decide) (hb hby own_d2_166) rfl (fun v27 T27 L27 q27 (X27 : Stand _ _ _ _ _ _ _ _ _ _ T27 _ 0 0) => ?_)
                              obtain ⟨rfl, N27', e27⟩ := q27
                              have N27 := Fr.app N25 N27'
                              show Ends p e below _ T27 m 169 #[.val (.int p1)] [(.int (fIn_0 p1 (65008 : Int32) (65533 : Int32)))]
                              show Ends p e below (PVI s 0 0 n0 h0 (if (fIn_0 p1 (65008 : Int32) (65533 : Int32)) = (0 : Int32) then (if (fIn_0 p1 (65536 : Int32) (983039 : Int32)) = (0 : Int32) then (0 : Int32) else (1 : Int32)) else (1 : Int32))) T27 m 169 #[.val (.int p1)] [(.int (fIn_0 p1 (65008 : Int32) (65533 : Int32)))]
                              by_cases c28 : (fIn_0 p1 (65008 : Int32) (65533 : Int32)) = (0 : Int32)
                              · rw [if_pos c28]
                                refine eIfN X27 hx (hb hby own_d2_169) ((if0 _ _).trans (teq c28).2) rfl ?_
                                refine eILoadN X27 hx (hb hby own_d2_172) rfl rfl ?_
                                refine eLdcI X27 hx hZ hown (v := (65536 : Int32)) (hw _ (List.mem_of_getElem? (i := 6) rfl)) (hb hby own_d2_173) rfl ?_
                                refine eLdcI X27 hx hZ hown (v := (983039 : Int32)) (hw _ (List.mem_of_getElem? (i := 7) rfl)) (hb hby own_d2_175) rfl ?_
                                refine eCallS X27 hx hZ (y := (⟨"com/example/wildcard/wildcard/XmlCharactersIsNameStartPinLaw", "in", "(III)Z"⟩ : MethodName)) hown (hw _ (List.mem_of_getElem? (i := 19) rfl)) (hw _ (List.mem_of_getElem? (i := 20) rfl)) (hw _ (List.mem_of_getElem? (i := 17) rfl)) (hw _ (List.mem_of_getElem? (i := 21) rfl)) (by decide) e27 (rm3 l Z a0 hw [] p1 (65536 : Int32) (983039 : Int32) h0 n0 Z0) (argsL := [(.int p1), (.int (65536 : Int32)), (.int (983039 : Int32))]) (rest := []) (lenOf own_pd0 rfl) rfl (by rw [hml]; rfl) 0 (by exact Nat.le_refl _) (by decide) (by decide) (by decide) (by decide) (hb hby own_d2_177) rfl (fun v29 T29 L29 q29 (X29 : Stand _ _ _ _ _ _ _ _ _ _ T29 _ 0 0) => ?_)
                                obtain ⟨rfl, N29', e29⟩ := q29
                                have N29 := Fr.app N27 N29'
                                show Ends p e below _ T29 m 180 #[.val (.int p1)] [(.int (fIn_0 p1 (65536 : Int32) (983039 : Int32)))]
                                show Ends p e below (PVI s 0 0 n0 h0 (if (fIn_0 p1 (65536 : Int32) (983039 : Int32)) = (0 : Int32) then (0 : Int32) else (1 : Int32))) T29 m 180 #[.val (.int p1)] [(.int (fIn_0 p1 (65536 : Int32) (983039 : Int32)))]
                                by_cases c30 : (fIn_0 p1 (65536 : Int32) (983039 : Int32)) = (0 : Int32)
                                · rw [if_pos c30]
                                  refine eIfY X29 hx (hb hby own_d2_180) ((if0 _ _).trans (teq c30).1) (by decide) (pc' := 187) rfl ?_
                                  refine eIConst X29 hx (0 : Int32) (hb hby own_d2_187) rfl rfl ?_
                                  exact eRetN X29 hx (t := .boolean) Bd.returns (by simp) hlk (hb hby own_d2_188) (by decide) (by decide) ⟨rfl, N29, e29⟩
                                · rw [if_neg c30]
                                  refine eIfN X29 hx (hb hby own_d2_180) ((if0 _ _).trans (feq c30).1) rfl ?_
                                  refine eIConst X29 hx (1 : Int32) (hb hby own_d2_183) rfl rfl ?_
                                  refine eGoto X29 hx (hb hby own_d2_184) (by decide) (pc' := 188) rfl ?_
                                  exact eRetN X29 hx (t := .boolean) Bd.returns (by simp) hlk (hb hby own_d2_188) (by decide) (by decide) ⟨rfl, N29, e29⟩
                              · rw [if_neg c28]
                                refine eIfY X27 hx (hb hby own_d2_169) ((if0 _ _).trans (feq c28).2) (by decide) (pc' := 183) rfl ?_
                                refine eIConst X27 hx (1 : Int32) (hb hby own_d2_183) rfl rfl ?_
                                refine eGoto X27 hx (hb hby own_d2_184) (by decide) (pc' := 188) rfl ?_
                                exact eRetN X27 hx (t := .boolean) Bd.returns (by simp) hlk (hb hby own_d2_188) (by decide) (by decide) ⟨rfl, N27, e27⟩
                            · rw [if_neg c26]
                              refine eIfY X25 hx (hb hby own_d2_158) ((if0 _ _).trans (feq c26).2) (by decide) (pc' := 183) rfl ?_
                              refine eIConst X25 hx (1 : Int32) (hb hby own_d2_183) rfl rfl ?_
                              refine eGoto X25 hx (hb hby own_d2_184) (by decide) (pc' := 188) rfl ?_
                              exact eRetN X25 hx (t := .boolean) Bd.returns (by simp) hlk (hb hby own_d2_188) (by decide) (by decide) ⟨rfl, N25, e25⟩
                          · rw [if_neg c24]
                            refine eIfY X23 hx (hb hby own_d2_147) ((if0 _ _).trans (feq c24).2) (by decide) (pc' := 183) rfl ?_
                            refine eIConst X23 hx (1 : Int32) (hb hby own_d2_183) rfl rfl ?_
                            refine eGoto X23 hx (hb hby own_d2_184) (by decide) (pc' := 188) rfl ?_
                            exact eRetN X23 hx (t := .boolean) Bd.returns (by simp) hlk (hb hby own_d2_188) (by decide) (by decide) ⟨rfl, N23, e23⟩
                        · rw [if_neg c22]
                          refine eIfY X21 hx (hb hby own_d2_135) ((if0 _ _).trans (feq c22).2) (by decide) (pc' := 183) rfl ?_
                          refine eIConst X21 hx (1 : Int32) (hb hby own_d2_183) rfl rfl ?_
                          refine eGoto X21 hx (hb hby own_d2_184) (by decide) (pc' := 188) rfl ?_
                          exact eRetN X21 hx (t := .boolean) Bd.returns (by simp) hlk (hb hby own_d2_188) (by decide) (by decide) ⟨rfl, N21, e21⟩
                      · rw [if_neg c20]
                        refine eIfY X19 hx (hb hby own_d2_122) ((if0 _ _).trans (feq c20).2) (by decide) (pc' := 183) rfl ?_
                        refine eIConst X19 hx (1 : Int32) (hb hby own_d2_183) rfl rfl ?_
                        refine eGoto X19 hx (hb hby own_d2_184) (by decide) (pc' := 188) rfl ?_
                        exact eRetN X19 hx (t := .boolean) Bd.returns (by simp) hlk (hb hby own_d2_188) (by decide) (by decide) ⟨rfl, N19, e19⟩
                    · rw [if_neg c18]
                      refine eIfY X17 hx (hb hby own_d2_109) ((if0 _ _).trans (feq c18).2) (by decide) (pc' := 183) rfl ?_
                      refine eIConst X17 hx (1 : Int32) (hb hby own_d2_183) rfl rfl ?_
                      refine eGoto X17 hx (hb hby own_d2_184) (by decide) (pc' := 188) rfl ?_
                      exact eRetN X17 hx (t := .boolean) Bd.returns (by simp) hlk (hb hby own_d2_188) (by decide) (by decide) ⟨rfl, N17, e17⟩
                  · rw [if_neg c16]
                    refine eIfY X15 hx (hb hby own_d2_96) ((if0 _ _).trans (feq c16).2) (by decide) (pc' := 183) rfl ?_
                    refine eIConst X15 hx (1 : Int32) (hb hby own_d2_183) rfl rfl ?_
                    refine eGoto X15 hx (hb hby own_d2_184) (by decide) (pc' := 188) rfl ?_
                    exact eRetN X15 hx (t := .boolean) Bd.returns (by simp) hlk (hb hby own_d2_188) (by decide) (by decide) ⟨rfl, N15, e15⟩
                · rw [if_neg c14]
                  refine eIfY X13 hx (hb hby own_d2_83) ((if0 _ _).trans (feq c14).2) (by decide) (pc' := 183) rfl ?_
                  refine eIConst X13 hx (1 : Int32) (hb hby own_d2_183) rfl rfl ?_
                  refine eGoto X13 hx (hb hby own_d2_184) (by decide) (pc' := 188) rfl ?_
                  exact eRetN X13 hx (t := .boolean) Bd.returns (by simp) hlk (hb hby own_d2_188) (by decide) (by decide) ⟨rfl, N13, e13⟩
              · rw [if_neg c12]
                refine eIfY X11 hx (hb hby own_d2_70) ((if0 _ _).trans (feq c12).2) (by decide) (pc' := 183) rfl ?_
                refine eIConst X11 hx (1 : Int32) (hb hby own_d2_183) rfl rfl ?_
                refine eGoto X11 hx (hb hby own_d2_184) (by decide) (pc' := 188) rfl ?_
                exact eRetN X11 hx (t := .boolean) Bd.returns (by simp) hlk (hb hby own_d2_188) (by decide) (by decide) ⟨rfl, N11, e11⟩
            · rw [if_neg c10]
              refine eIfY X9 hx (hb hby own_d2_57) ((if0 _ _).trans (feq c10).2) (by decide) (pc' := 183) rfl ?_
              refine eIConst X9 hx (1 : Int32) (hb hby own_d2_183) rfl rfl ?_
              refine eGoto X9 hx (hb hby own_d2_184) (by decide) (pc' := 188) rfl ?_
              exact eRetN X9 hx (t := .boolean) Bd.returns (by simp) hlk (hb hby own_d2_188) (by decide) (by decide) ⟨rfl, N9, e9⟩
          · rw [if_neg c8]
            refine eIfY X7 hx (hb hby own_d2_44) ((if0 _ _).trans (feq c8).2) (by decide) (pc' := 183) rfl ?_
            refine eIConst X7 hx (1 : Int32) (hb hby own_d2_183) rfl rfl ?_
            refine eGoto X7 hx (hb hby own_d2_184) (by decide) (pc' := 188) rfl ?_
            exact eRetN X7 hx (t := .boolean) Bd.returns (by simp) hlk (hb hby own_d2_188) (by decide) (by decide) ⟨rfl, N7, e7⟩
        · rw [if_neg c6]
          refine eIfY X5 hx (hb hby own_d2_31) ((if0 _ _).trans (feq c6).2) (by decide) (pc' := 183) rfl ?_
          refine eIConst X5 hx (1 : Int32) (hb hby own_d2_183) rfl rfl ?_
          refine eGoto X5 hx (hb hby own_d2_184) (by decide) (pc' := 188) rfl ?_
          exact eRetN X5 hx (t := .boolean) Bd.returns (by simp) hlk (hb hby own_d2_188) (by decide) (by decide) ⟨rfl, N5, e5⟩
    · rw [if_neg c3]
      refine eIfY X2 hx (hb hby own_d2_14) ((if0 _ _).trans (feq c3).2) (by decide) (pc' := 183) rfl ?_
      refine eIConst X2 hx (1 : Int32) (hb hby own_d2_183) rfl rfl ?_
      refine eGoto X2 hx (hb hby own_d2_184) (by decide) (pc' := 188) rfl ?_
      exact eRetN X2 hx (t := .boolean) Bd.returns (by simp) hlk (hb hby own_d2_188) (by decide) (by decide) ⟨rfl, N2, e2⟩
theorem own_ix (vs : List Int32) (k n : Int32) (h : (vs.length : Int) = n.toInt) (hn : 0 < n.toInt) : InB vs ((k &&& 2147483647) % n) := by
  have h1 := c_mask k 2147483647 31 (by decide) (by decide)
  have h2 := (c_iremV (k &&& 2147483647) n).1 (by rw [h1]; omega) hn
  refine ⟨fun q => ?_, ?_⟩
  · rw [Int32.lt_iff_toInt_lt] at q; simp only [Int32.reduceToInt] at q; omega
  · simp only [Int32.toNatClampNeg]; omega
theorem own_pd1 : parseMethodDescriptor "(I)Z" = some ⟨[.int], some .boolean⟩ := by decide +kernel
def f0_302 (v5_42 : Int32) : Int32 := (if (fIs_0 v5_42) = (fRef_0 v5_42) then (1 : Int32) else (0 : Int32))
def f0_0 (p1 : Int32) (p2 : Int32) (p3 : Int32) (p4 : Int32) : Int32 := (if (p1 &&& (1 : Int32)) = (0 : Int32) then (f0_302 ((rd [(58 : Int32), (65 : Int32), (90 : Int32), (95 : Int32), (97 : Int32), (122 : Int32), (192 : Int32), (214 : Int32), (215 : Int32), (216 : Int32), (246 : Int32), (247 : Int32), (248 : Int32), (767 : Int32), (880 : Int32), (893 : Int32), (894 : Int32), (895 : Int32), (8191 : Int32), (8204 : Int32), (8205 : Int32), (8304 : Int32), (8591 : Int32), (11264 : Int32), (12271 : Int32), (12289 : Int32), (55295 : Int32), (63744 : Int32), (64975 : Int32), (65008 : Int32), (65533 : Int32), (65536 : Int32), (983039 : Int32), (1114111 : Int32), (0 : Int32), (183 : Int32), (48 : Int32), (45 : Int32), (-2147483648 : Int32), (2147483647 : Int32)] ((p2 &&& (2147483647 : Int32)) % (40 : Int32))) + (((p3 &&& (2147483647 : Int32)) % (5 : Int32)) - (2 : Int32)))) else (f0_302 p4))
theorem own_ef0 (m : MethodId) (p1 : Int32) (p2 : Int32) (p3 : Int32) (p4 : Int32) : entryFrame m #[(.int p1), (.int p2), (.int p3), (.int p4)] maxLocals = mkF m 0 #[.val (.int p1), .val (.int p2), .val (.int p3), .val (.int p4), .unset, .unset, .unset, .unset] [] := by first | (simp [entryFrame, mkF, argsToLocals, Value.category, maxLocals]; done) | rfl
set_option maxRecDepth 65536 in
set_option maxHeartbeats 40000000 in
theorem rm0 (l : Launch) (Z : State) (a0 : Array Value) (hw : ∀ d ∈ tables_1, d.before a0 Z = true) (ws : List Jvm.Cond) (p1 : Int32) (p2 : Int32) (p3 : Int32) (p4 : Int32) (h0 : Heap) (n0 : Nat) (Z0 : n0 ≤ h0.size) : MetC l Z x (Jvm.Cond.code x code maxLocals ret :: ws) room_1 #[(.int p1), (.int p2), (.int p3), (.int p4)] h0 16 192 (fun v h L => v = some (.int (f0_0 p1 p2 p3 p4)) ∧ Fr n0 L) := by
  refine MetFree.of_bodySF (plainFor_of_name own_pn1) hisR ?_
  intro p e s m args below meth c s₁ Bd hml0 hP hK
  obtain ⟨rfl, hZ, hh⟩ := hP
  have hx := Bd.exec
  have hby := Bd.bytes
  have hml : c.maxLocals = 8 := hml0
  have hown : s.vm.findClass "com/example/wildcard/wildcard/XmlCharactersIsNameStartPinLaw" = some m.cls := findClass_of_methodNamed Bd.named
  have hnm := (name_of_methodNamed Bd.named Bd.method).1
  have hlk : meth.locks = false := BodyLoose.notSynchronized Bd
  have X0 : Stand p l e room_1 s m #[(.int p1), (.int p2), (.int p3), (.int p4)] below meth c s₁ [] 0 0 := Stand.of_body Bd
  have e0 : s₁.heap = h0 := by rw [← hh, Bd.state]; rfl
  have N0 := Fr.nil n0
  suffices kk : Ends p e below (PVW s 16 192 n0 (f0_0 p1 p2 p3 p4)) s₁ m 0 #[.val (.int p1), .val (.int p2), .val (.int p3), .val (.int p4), .unset, .unset, .unset, .unset] [] by
    obtain ⟨t, o, k1, k2, k3, k4⟩ := kk
    exact ⟨t, o, castTop (own_ef0 m p1 p2 p3 p4) k1, k2, k3, k4⟩
  refine eBipush X0 hx (40 : Int32) (hb hby at_0) rfl rfl ?_
  refine eNewA X0 hx hZ rfl rfl (hw _ (List.mem_of_getElem? (i := 0) rfl)) e0 (hb hby at_2) (by decide) (cap := 40) (by decide) (by decide) (by decide) (by decide) rfl (fun T1 h1 ad1 g1 X1 e1 E1 A1 => ?_)
  have Z1 := Nat.le_trans Z0 E1.1
  have ge_ad1 : n0 ≤ ad1 := Nat.le_trans Z0 (Nat.le_of_eq g1.symm)
  have A1 : Ar Z h1 ad1 .int [(0 : Int32), (0 : Int32), (0 : Int32), (0 : Int32), (0 : Int32), (0 : Int32), (0 : Int32), (0 : Int32), (0 : Int32), (0 : Int32), (0 : Int32), (0 : Int32), (0 : Int32), (0 : Int32), (0 : Int32), (0 : Int32), (0 : Int32), (0 : Int32), (0 : Int32), (0 : Int32), (0 : Int32), (0 : Int32), (0 : Int32), (0 : Int32), (0 : Int32), (0 : Int32), (0 : Int32), (0 : Int32), (0 : Int32), (0 : Int32), (0 : Int32), (0 : Int32), (0 : Int32), (0 : Int32), (0 : Int32), (0 : Int32), (0 : Int32), (0 : Int32), (0 : Int32), (0 : Int32)] := A1
  refine eDup X1 hx (hb hby at_4) rfl rfl ?_
  refine eIConst X1 hx (0 : Int32) (hb hby at_5) rfl rfl ?_
  refine eBipush X1 hx (58 : Int32) (hb hby at_6) rfl rfl ?_
  refine eIAStore X1 hx hZ e1 A1 (inbL (n := 40) rfl (by decide)) (hb hby at_8) rfl (fun T2 h2 X2 e2 W2 B2 => ?_)
  have A1 : Ar Z h2 ad1 .int [(58 : Int32), (0 : Int32), (0 : Int32), (0 : Int32), (0 : Int32), (0 : Int32), (0 : Int32), (0 : Int32), (0 : Int32), (0 : Int32), (0 : Int32), (0 : Int32), (0 : Int32), (0 : Int32), (0 : Int32), (0 : Int32), (0 : Int32), (0 : Int32), (0 : Int32), (0 : Int32), (0 : Int32), (0 : Int32), (0 : Int32), (0 : Int32), (0 : Int32), (0 : Int32), (0 : Int32), (0 : Int32), (0 : Int32), (0 : Int32), (0 : Int32), (0 : Int32), (0 : Int32), (0 : Int32), (0 : Int32), (0 : Int32), (0 : Int32), (0 : Int32), (0 : Int32), (0 : Int32)] := B2
  have N2 := Fr.snoc X2 N0 ge_ad1
  have Z2 := Nat.le_trans Z1 (Keep.of_wr W2).1
  refine eDup X2 hx (hb hby at_9) rfl rfl ?_
  refine eIConst X2 hx (1 : Int32) (hb hby at_10) rfl rfl ?_
  refine eBipush X2 hx (65 : Int32) (hb hby at_11) rfl rfl ?_
  refine eIAStore X2 hx hZ e2 A1 (inbL (n := 40) rfl (by decide)) (hb hby at_13) rfl (fun T3 h3 X3 e3 W3 B3 => ?_)
  have A1 : Ar Z h3 ad1 .int [(58 : Int32), (65 : Int32), (0 : Int32), (0 : Int32), (0 : Int32), (0 : Int32), (0 : Int32), (0 : Int32), (0 : Int32), (0 : Int32), (0 : Int32), (0 : Int32), (0 : Int32), (0 : Int32), (0 : Int32), (0 : Int32), (0 : Int32), (0 : Int32), (0 : Int32), (0 : Int32), (0 : Int32), (0 : Int32), (0 : Int32), (0 : Int32), (0 : Int32), (0 : Int32), (0 : Int32), (0 : Int32), (0 : Int32), (0 : Int32), (0 : Int32), (0 : Int32), (0 : Int32), (0 : Int32), (0 : Int32), (0 : Int32), (0 : Int32), (0 : Int32), (0 : Int32), (0 : Int32)] := B3
  have N3 := Fr.snoc X3 N2 ge_ad1
  have Z3 := Nat.le_trans Z2 (Keep.of_wr W3).1
  refine eDup X3 hx (hb hby at_14) rfl rfl ?_
  refine eIConst X3 hx (2 : Int32) (hb hby at_15) rfl rfl ?_
  refine eBipush X3 hx (90 : Int32) (hb hby at_16) rfl rfl ?_
  refine eIAStore X3 hx hZ e3 A1 (inbL (n := 40) rfl (by decide)) (hb hby at_18) rfl (fun T4 h4 X4 e4 W4 B4 => ?_)
  have A1 : Ar Z h4 ad1 .int [(58 : Int32), (65 : Int32), (90 : Int32), (0 : Int32), (0 : Int32), (0 : Int32), (0 : Int32), (0 : Int32), (0 : Int32), (0 : Int32), (0 : Int32), (0 : Int32), (0 : Int32), (0 : Int32), (0 : Int32), (0 : Int32), (0 : Int32), (0 : Int32), (0 : Int32), (0 : Int32), (0 : Int32), (0 : Int32), (0 : Int32), (0 : Int32), (0 : Int32), (0 : Int32), (0 : Int32), (0 : Int32), (0 : Int32), (0 : Int32), (0 : Int32), (0 : Int32), (0 : Int32), (0 : Int32), (0 : Int32), (0 : Int32), (0 : Int32), (0 : Int32), (0 : Int32), (0 : Int32)] := B4
  have N4 := Fr.snoc X4 N3 ge_ad1
  have Z4 := Nat.le_trans Z3 (Keep.of_wr W4).1
  refine eDup X4 hx (hb hby at_19) rfl rfl ?_
  refine eIConst X4 hx (3 : Int32) (hb hby at_20) rfl rfl ?_
  refine eBipush X4 hx (95 : Int32) (hb hby at_21) rfl rfl ?_
  refine eIAStore X4 hx hZ e4 A1 (inbL (n := 40) rfl (by decide)) (hb hby at_23) rfl (fun T5 h5 X5 e5 W5 B5 => ?_)
  have A1 : Ar Z h5 ad1 .int [(58 : Int32), (65 : Int32), (90 : Int32), (95 : Int32), (0 : Int32), (0 : Int32), (0 : Int32), (0 : Int32), (0 : Int32), (0 : Int32), (0 : Int32), (0 : Int32), (0 : Int32), (0 : Int32), (0 : Int32), (0 : Int32), (0 : Int32), (0 : Int32), (0 : Int32), (0 : Int32), (0 : Int32), (0 : Int32), (0 : Int32), (0 : Int32), (0 : Int32), (0 : Int32), (0 : Int32), (0 : Int32), (0 : Int32), (0 : Int32), (0 : Int32), (0 : Int32), (0 : Int32), (0 : Int32), (0 : Int32), (0 : Int32), (0 : Int32), (0 : Int32), (0 : Int32), (0 : Int32)] := B5
  have N5 := Fr.snoc X5 N4 ge_ad1
  have Z5 := Nat.le_trans Z4 (Keep.of_wr W5).1
  refine eDup X5 hx (hb hby at_24) rfl rfl ?_
  refine eIConst X5 hx (4 : Int32) (hb hby at_25) rfl rfl ?_
  refine eBipush X5 hx (97 : Int32) (hb hby at_26) rfl rfl ?_
  refine eIAStore X5 hx hZ e5 A1 (inbL (n := 40) rfl (by decide)) (hb hby at_28) rfl (fun T6 h6 X6 e6 W6 B6 => ?_)
  have A1 : Ar Z h6 ad1 .int [(58 : Int32), (65 : Int32), (90 : Int32), (95 : Int32), (97 : Int32), (0 : Int32), (0 : Int32), (0 : Int32), (0 : Int32), (0 : Int32), (0 : Int32), (0 : Int32), (0 : Int32), (0 : Int32), (0 : Int32), (0 : Int32), (0 : Int32), (0 : Int32), (0 : Int32), (0 : Int32), (0 : Int32), (0 : Int32), (0 : Int32), (0 : Int32), (0 : Int32), (0 : Int32), (0 : Int32), (0 : Int32), (0 : Int32), (0 : Int32), (0 : Int32), (0 : Int32), (0 : Int32), (0 : Int32), (0 : Int32), (0 : Int32), (0 : Int32), (0 : Int32), (0 : Int32), (0 : Int32)] := B6
  have N6 := Fr.snoc X6 N5 ge_ad1
  have Z6 := Nat.le_trans Z5 (Keep.of_wr W6).1
  refine eDup X6 hx (hb hby at_29) rfl rfl ?_
  refine eIConst X6 hx (5 : Int32) (hb hby at_30) rfl rfl ?_
  refine eBipush X6 hx (122 : Int32) (hb hby at_31) rfl rfl ?_
  refine eIAStore X6 hx hZ e6 A1 (inbL (n := 40) rfl (by decide)) (hb hby at_33) rfl (fun T7 h7 X7 e7 W7 B7 => ?_)
  have A1 : Ar Z h7 ad1 .int [(58 : Int32), (65 : Int32), (90 : Int32), (95 : Int32), (97 : Int32), (122 : Int32), (0 : Int32), (0 : Int32), (0 : Int32), (0 : Int32), (0 : Int32), (0 : Int32), (0 : Int32), (0 : Int32), (0 : Int32), (0 : Int32), (0 : Int32), (0 : Int32), (0 : Int32), (0 : Int32), (0 : Int32), (0 : Int32), (0 : Int32), (0 : Int32), (0 : Int32), (0 : Int32), (0 : Int32), (0 : Int32), (0 : Int32), (0 : Int32), (0 : Int32), (0 : Int32), (0 : Int32), (0 : Int32), (0 : Int32), (0 : Int32), (0 : Int32), (0 : Int32), (0 : Int32), (0 : Int32)] := B7
  have N7 := Fr.snoc X7 N6 ge_ad1
  have Z7 := Nat.le_trans Z6 (Keep.of_wr W7).1
  refine eDup X7 hx (hb hby at_34) rfl rfl ?_
  refine eBipush X7 hx (6 : Int32) (hb hby at_35) rfl rfl ?_
  refine eSipush X7 hx (192 : Int32) (hb hby at_37) rfl rfl ?_
  refine eIAStore X7 hx hZ e7 A1 (inbL (n := 40) rfl (by decide)) (hb hby at_40) rfl (fun T8 h8 X8 e8 W8 B8 => ?_)
  have A1 : Ar Z h8 ad1 .int [(58 : Int32), (65 : Int32), (90 : Int32), (95 : Int32), (97 : Int32), (122 : Int32), (192 : Int32), (0 : Int32), (0 : Int32), (0 : Int32), (0 : Int32), (0 : Int32), (0 : Int32), (0 : Int32), (0 : Int32), (0 : Int32), (0 : Int32), (0 : Int32), (0 : Int32), (0 : Int32), (0 : Int32), (0 : Int32), (0 : Int32), (0 : Int32), (0 : Int32), (0 : Int32), (0 : Int32), (0 : Int32), (0 : Int32), (0 : Int32), (0 : Int32), (0 : Int32), (0 : Int32), (0 : Int32), (0 : Int32), (0 : Int32), (0 : Int32), (0 : Int32), (0 : Int32), (0 : Int32)] := B8
  have N8 := Fr.snoc X8 N7 ge_ad1
  have Z8 := Nat.le_trans Z7 (Keep.of_wr W8).1
  refine eDup X8 hx (hb hby at_41) rfl rfl ?_
  refine eBipush X8 hx (7 : Int32) (hb hby at_42) rfl rfl ?_
  refine eSipush X8 hx (214 : Int32) (hb hby at_44) rfl rfl ?_
  refine eIAStore X8 hx hZ e8 A1 (inbL (n := 40) rfl (by decide)) (hb hby at_47) rfl (fun T9 h9 X9 e9 W9 B9 => ?_)
  have A1 : Ar Z h9 ad1 .int [(58 : Int32), (65 : Int32), (90 : Int32), (95 : Int32), (97 : Int32), (122 : Int32), (192 : Int32), (214 : Int32), (0 : Int32), (0 : Int32), (0 : Int32), (0 : Int32), (0 : Int32), (0 : Int32), (0 : Int32), (0 : Int32), (0 : Int32), (0 : Int32), (0 : Int32), (0 : Int32), (0 : Int32), (0 : Int32), (0 : Int32), (0 : Int32), (0 : Int32), (0 : Int32), (0 : Int32), (0 : Int32), (0 : Int32), (0 : Int32), (0 : Int32), (0 : Int32), (0 : Int32), (0 : Int32), (0 : Int32), (0 : Int32), (0 : Int32), (0 : Int32), (0 : Int32), (0 : Int32)] := B9
  have N9 := Fr.snoc X9 N8 ge_ad1
  have Z9 := Nat.le_trans Z8 (Keep.of_wr W9).1
  refine eDup X9 hx (hb hby at_48) rfl rfl ?_
  refine eBipush X9 hx (8 : Int32) (hb hby at_49) rfl rfl ?_
  refine eSipush X9 hx (215 : Int32) (hb hby at_51) rfl rfl ?_
  refine eIAStore X9 hx hZ e9 A1 (inbL (n := 40) rfl (by decide)) (hb hby at_54) rfl (fun T10 h10 X10 e10 W10 B10 => ?_)
  have A1 : Ar Z h10 ad1 .int [(58 : Int32), (65 : Int32), (90 : Int32), (95 : Int32), (97 : Int32), (122 : Int32), (192 : Int32), (214 : Int32), (215 : Int32), (0 : Int32), (0 : Int32), (0 : Int32), (0 : Int32), (0 : Int32), (0 : Int32), (0 : Int32), (0 : Int32), (0 : Int32), (0 : Int32), (0 : Int32), (0 : Int32), (0 : Int32), (0 : Int32), (0 : Int32), (0 : Int32), (0 : Int32), (0 : Int32), (0 : Int32), (0 : Int32), (0 : Int32), (0 : Int32), (0 : Int32), (0 : Int32), (0 : Int32), (0 : Int32), (0 : Int32), (0 : Int32), (0 : Int32), (0 : Int32), (0 : Int32)] := B10
  have N10 := Fr.snoc X10 N9 ge_ad1
  have Z10 := Nat.le_trans Z9 (Keep.of_wr W10).1
  refine eDup X10 hx (hb hby at_55) rfl rfl ?_
  refine eBipush X10 hx (9 : Int32) (hb hby at_56) rfl rfl ?_
  refine eSipush X10 hx (216 : Int32) (hb hby at_58) rfl rfl ?_
  refine eIAStore X10 hx hZ e10 A1 (inbL (n := 40) rfl (by decide)) (hb hby at_61) rfl (fun T11 h11 X11 e11 W11 B11 => ?_)
  have A1 : Ar Z h11 ad1 .int [(58 : Int32), (65 : Int32), (90 : Int32), (95 : Int32), (97 : Int32), (122 : Int32), (192 : Int32), (214 : Int32), (215 : Int32), (216 : Int32), (0 : Int32), (0 : Int32), (0 : Int32), (0 : Int32), (0 : Int32), (0 : Int32), (0 : Int32), (0 : Int32), (0 : Int32), (0 : Int32), (0 : Int32), (0 : Int32), (0 : Int32), (0 : Int32), (0 : Int32), (0 : Int32), (0 : Int32), (0 : Int32), (0 : Int32), (0 : Int32), (0 : Int32), (0 : Int32), (0 : Int32), (0 : Int32), (0 : Int32), (0 : Int32), (0 : Int32), (0 : Int32), (0 : Int32), (0 : Int32)] := B11
  have N11 := Fr.snoc X11 N10 ge_ad1
  have Z11 := Nat.le_trans Z10 (Keep.of_wr W11).1
  refine eDup X11 hx (hb hby at_62) rfl rfl ?_
  refine eBipush X11 hx (10 : Int32) (hb hby at_63) rfl rfl ?_
  refine eSipush X11 hx (246 : Int32) (hb hby at_65) rfl rfl ?_
  refine eIAStore X11 hx hZ e11 A1 (inbL (n := 40) rfl (by decide)) (hb hby at_68) rfl (fun T12 h12 X12 e12 W12 B12 => ?_)
  have A1 : Ar Z h12 ad1 .int [(58 : Int32), (65 : Int32), (90 : Int32), (95 : Int32), (97 : Int32), (122 : Int32), (192 : Int32), (214 : Int32), (215 : Int32), (216 : Int32), (246 : Int32), (0 : Int32), (0 : Int32), (0 : Int32), (0 : Int32), (0 : Int32), (0 : Int32), (0 : Int32), (0 : Int32), (0 : Int32), (0 : Int32), (0 : Int32), (0 : Int32), (0 : Int32), (0 : Int32), (0 : Int32), (0 : Int32), (0 : Int32), (0 : Int32), (0 : Int32), (0 : Int32), (0 : Int32), (0 : Int32), (0 : Int32), (0 : Int32), (0 : Int32), (0 : Int32), (0 : Int32), (0 : Int32), (0 : Int32)] := B12
  have N12 := Fr.snoc X12 N11 ge_ad1
  have Z12 := Nat.le_trans Z11 (Keep.of_wr W12).1
  refine eDup X12 hx (hb hby at_69) rfl rfl ?_
  refine eBipush X12 hx (11 : Int32) (hb hby at_70) rfl rfl ?_
  refine eSipush X12 hx (247 : Int32) (hb hby at_72) rfl rfl ?_
  refine eIAStore X12 hx hZ e12 A1 (inbL (n := 40) rfl (by decide)) (hb hby at_75) rfl (fun T13 h13 X13 e13 W13 B13 => ?_)
  have A1 : Ar Z h13 ad1 .int [(58 : Int32), (65 : Int32), (90 : Int32), (95 : Int32), (97 : Int32), (122 : Int32), (192 : Int32), (214 : Int32), (215 : Int32), (216 : Int32), (246 : Int32), (247 : Int32), (0 : Int32), (0 : Int32), (0 : Int32), (0 : Int32), (0 : Int32), (0 : Int32), (0 : Int32), (0 : Int32), (0 : Int32), (0 : Int32), (0 : Int32), (0 : Int32), (0 : Int32), (0 : Int32), (0 : Int32), (0 : Int32), (0 : Int32), (0 : Int32), (0 : Int32), (0 : Int32), (0 : Int32), (0 : Int32), (0 : Int32), (0 : Int32), (0 : Int32), (0 : Int32), (0 : Int32), (0 : Int32)] := B13
  have N13 := Fr.snoc X13 N12 ge_ad1
  have Z13 := Nat.le_trans Z12 (Keep.of_wr W13).1
  refine eDup X13 hx (hb hby at_76) rfl rfl ?_
  refine eBipush X13 hx (12 : Int32) (hb hby at_77) rfl rfl ?_
  refine eSipush X13 hx (248 : Int32) (hb hby at_79) rfl rfl ?_
  refine eIAStore X13 hx hZ e13 A1 (inbL (n := 40) rfl (by decide)) (hb hby at_82) rfl (fun T14 h14 X14 e14 W14 B14 => ?_)
  have A1 : Ar Z h14 ad1 .int [(58 : Int32), (65 : Int32), (90 : Int32), (95 : Int32), (97 : Int32), (122 : Int32), (192 : Int32), (214 : Int32), (215 : Int32), (216 : Int32), (246 : Int32), (247 : Int32), (248 : Int32), (0 : Int32), (0 : Int32), (0 : Int32), (0 : Int32), (0 : Int32), (0 : Int32), (0 : Int32), (0 : Int32), (0 : Int32), (0 : Int32), (0 : Int32), (0 : Int32), (0 : Int32), (0 : Int32), (0 : Int32), (0 : Int32), (0 : Int32), (0 : Int32), (0 : Int32), (0 : Int32), (0 : Int32), (0 : Int32), (0 : Int32), (0 : Int32), (0 : Int32), (0 : Int32), (0 : Int32)] := B14
  have N14 := Fr.snoc X14 N13 ge_ad1
  have Z14 := Nat.le_trans Z13 (Keep.of_wr W14).1
  refine eDup X14 hx (hb hby at_83) rfl rfl ?_
  refine eBipush X14 hx (13 : Int32) (hb hby at_84) rfl rfl ?_
  refine eSipush X14 hx (767 : Int32) (hb hby at_86) rfl rfl ?_
  refine eIAStore X14 hx hZ e14 A1 (inbL (n := 40) rfl (by decide)) (hb hby at_89) rfl (fun T15 h15 X15 e15 W15 B15 => ?_)
  have A1 : Ar Z h15 ad1 .int [(58 : Int32), (65 : Int32), (90 : Int32), (95 : Int32), (97 : Int32), (122 : Int32), (192 : Int32), (214 : Int32), (215 : Int32), (216 : Int32), (246 : Int32), (247 : Int32), (248 : Int32), (767 : Int32), (0 : Int32), (0 : Int32), (0 : Int32), (0 : Int32), (0 : Int32), (0 : Int32), (0 : Int32), (0 : Int32), (0 : Int32), (0 : Int32), (0 : Int32), (0 : Int32), (0 : Int32), (0 : Int32), (0 : Int32), (0 : Int32), (0 : Int32), (0 : Int32), (0 : Int32), (0 : Int32), (0 : Int32), (0 : Int32), (0 : Int32), (0 : Int32), (0 : Int32), (0 : Int32)] := B15
  have N15 := Fr.snoc X15 N14 ge_ad1
  have Z15 := Nat.le_trans Z14 (Keep.of_wr W15).1
  refine eDup X15 hx (hb hby at_90) rfl rfl ?_
  refine eBipush X15 hx (14 : Int32) (hb hby at_91) rfl rfl ?_
  refine eSipush X15 hx (880 : Int32) (hb hby at_93) rfl rfl ?_
  refine eIAStore X15 hx hZ e15 A1 (inbL (n := 40) rfl (by decide)) (hb hby at_96) rfl (fun T16 h16 X16 e16 W16 B16 => ?_)
  have A1 : Ar Z h16 ad1 .int [(58 : Int32), (65 : Int32), (90 : Int32), (95 : Int32), (97 : Int32), (122 : Int32), (192 : Int32), (214 : Int32), (215 : Int32), (216 : Int32), (246 : Int32), (247 : Int32), (248 : Int32), (767 : Int32), (880 : Int32), (0 : Int32), (0 : Int32), (0 : Int32), (0 : Int32), (0 : Int32), (0 : Int32), (0 : Int32), (0 : Int32), (0 : Int32), (0 : Int32), (0 : Int32), (0 : Int32), (0 : Int32), (0 : Int32), (0 : Int32), (0 : Int32), (0 : Int32), (0 : Int32), (0 : Int32), (0 : Int32), (0 : Int32), (0 : Int32), (0 : Int32), (0 : Int32), (0 : Int32)] := B16
  have N16 := Fr.snoc X16 N15 ge_ad1
  have Z16 := Nat.le_trans Z15 (Keep.of_wr W16).1
  refine eDup X16 hx (hb hby at_97) rfl rfl ?_
  refine eBipush X16 hx (15 : Int32) (hb hby at_98) rfl rfl ?_
  refine eSipush X16 hx (893 : Int32) (hb hby at_100) rfl rfl ?_
  refine eIAStore X16 hx hZ e16 A1 (inbL (n := 40) rfl (by decide)) (hb hby at_103) rfl (fun T17 h17 X17 e17 W17 B17 => ?_)
  have A1 : Ar Z h17 ad1 .int [(58 : Int32), (65 : Int32), (90 : Int32), (95 : Int32), (97 : Int32), (122 : Int32), (192 : Int32), (214 : Int32), (215 : Int32), (216 : Int32), (246 : Int32), (247 : Int32), (248 : Int32), (767 : Int32), (880 : Int32), (893 : Int32), (0 : Int32), (0 : Int32), (0 : Int32), (0 : Int32), (0 : Int32), (0 : Int32), (0 : Int32), (0 : Int32), (0 : Int32), (0 : Int32), (0 : Int32), (0 : Int32), (0 : Int32), (0 : Int32), (0 : Int32), (0 : Int32), (0 : Int32), (0 : Int32), (0 : Int32), (0 : Int32), (0 : Int32), (0 : Int32), (0 : Int32), (0 : Int32)] := B17
  have N17 := Fr.snoc X17 N16 ge_ad1
  have Z17 := Nat.le_trans Z16 (Keep.of_wr W17).1
  refine eDup X17 hx (hb hby at_104) rfl rfl ?_
  refine eBipush X17 hx (16 : Int32) (hb hby at_105) rfl rfl ?_
  refine eSipush X17 hx (894 : Int32) (hb hby at_107) rfl rfl ?_
  refine eIAStore X17 hx hZ e17 A1 (inbL (n := 40) rfl (by decide)) (hb hby at_110) rfl (fun T18 h18 X18 e18 W18 B18 => ?_)
  have A1 : Ar Z h18 ad1 .int [(58 : Int32), (65 : Int32), (90 : Int32), (95 : Int32), (97 : Int32), (122 : Int32), (192 : Int32), (214 : Int32), (215 : Int32), (216 : Int32), (246 : Int32), (247 : Int32), (248 : Int32), (767 : Int32), (880 : Int32), (893 : Int32), (894 : Int32), (0 : Int32), (0 : Int32), (0 : Int32), (0 : Int32), (0 : Int32), (0 : Int32), (0 : Int32), (0 : Int32), (0 : Int32), (0 : Int32), (0 : Int32), (0 : Int32), (0 : Int32), (0 : Int32), (0 : Int32), (0 : Int32), (0 : Int32), (0 : Int32), (0 : Int32), (0 : Int32), (0 : Int32), (0 : Int32), (0 : Int32)] := B18
  have N18 := Fr.snoc X18 N17 ge_ad1
  have Z18 := Nat.le_trans Z17 (Keep.of_wr W18).1
  refine eDup X18 hx (hb hby at_111) rfl rfl ?_
  refine eBipush X18 hx (17 : Int32) (hb hby at_112) rfl rfl ?_
  refine eSipush X18 hx (895 : Int32) (hb hby at_114) rfl rfl ?_
  refine eIAStore X18 hx hZ e18 A1 (inbL (n := 40) rfl (by decide)) (hb hby at_117) rfl (fun T19 h19 X19 e19 W19 B19 => ?_)
  have A1 : Ar Z h19 ad1 .int [(58 : Int32), (65 : Int32), (90 : Int32), (95 : Int32), (97 : Int32), (122 : Int32), (192 : Int32), (214 : Int32), (215 : Int32), (216 : Int32), (246 : Int32), (247 : Int32), (248 : Int32), (767 : Int32), (880 : Int32), (893 : Int32), (894 : Int32), (895 : Int32), (0 : Int32), (0 : Int32), (0 : Int32), (0 : Int32), (0 : Int32), (0 : Int32), (0 : Int32), (0 : Int32), (0 : Int32), (0 : Int32), (0 : Int32), (0 : Int32), (0 : Int32), (0 : Int32), (0 : Int32), (0 : Int32), (0 : Int32), (0 : Int32), (0 : Int32), (0 : Int32), (0 : Int32), (0 : Int32)] := B19
  have N19 := Fr.snoc X19 N18 ge_ad1
  have Z19 := Nat.le_trans Z18 (Keep.of_wr W19).1
  refine eDup X19 hx (hb hby at_118) rfl rfl ?_
  refine eBipush X19 hx (18 : Int32) (hb hby at_119) rfl rfl ?_
  refine eSipush X19 hx (8191 : Int32) (hb hby at_121) rfl rfl ?_
  refine eIAStore X19 hx hZ e19 A1 (inbL (n := 40) rfl (by decide)) (hb hby at_124) rfl (fun T20 h20 X20 e20 W20 B20 => ?_)
  have A1 : Ar Z h20 ad1 .int [(58 : Int32), (65 : Int32), (90 : Int32), (95 : Int32), (97 : Int32), (122 : Int32), (192 : Int32), (214 : Int32), (215 : Int32), (216 : Int32), (246 : Int32), (247 : Int32), (248 : Int32), (767 : Int32), (880 : Int32), (893 : Int32), (894 : Int32), (895 : Int32), (8191 : Int32), (0 : Int32), (0 : Int32), (0 : Int32), (0 : Int32), (0 : Int32), (0 : Int32), (0 : Int32), (0 : Int32), (0 : Int32), (0 : Int32), (0 : Int32), (0 : Int32), (0 : Int32), (0 : Int32), (0 : Int32), (0 : Int32), (0 : Int32), (0 : Int32), (0 : Int32), (0 : Int32), (0 : Int32)] := B20
  have N20 := Fr.snoc X20 N19 ge_ad1
  have Z20 := Nat.le_trans Z19 (Keep.of_wr W20).1
  refine eDup X20 hx (hb hby at_125) rfl rfl ?_
  refine eBipush X20 hx (19 : Int32) (hb hby at_126) rfl rfl ?_
  refine eSipush X20 hx (8204 : Int32) (hb hby at_128) rfl rfl ?_
  refine eIAStore X20 hx hZ e20 A1 (inbL (n := 40) rfl (by decide)) (hb hby at_131) rfl (fun T21 h21 X21 e21 W21 B21 => ?_)
  have A1 : Ar Z h21 ad1 .int [(58 : Int32), (65 : Int32), (90 : Int32), (95 : Int32), (97 : Int32), (122 : Int32), (192 : Int32), (214 : Int32), (215 : Int32), (216 : Int32), (246 : Int32), (247 : Int32), (248 : Int32), (767 : Int32), (880 : Int32), (893 : Int32), (894 : Int32), (895 : Int32), (8191 : Int32), (8204 : Int32), (0 : Int32), (0 : Int32), (0 : Int32), (0 : Int32), (0 : Int32), (0 : Int32), (0 : Int32), (0 : Int32), (0 : Int32), (0 : Int32), (0 : Int32), (0 : Int32), (0 : Int32), (0 : Int32), (0 : Int32), (0 : Int32), (0 : Int32), (0 : Int32), (0 : Int32), (0 : Int32)] := B21
  have N21 := Fr.snoc X21 N20 ge_ad1
  have Z21 := Nat.le_trans Z20 (Keep.of_wr W21).1
  refine eDup X21 hx (hb hby at_132) rfl rfl ?_
  refine eBipush X21 hx (20 : Int32) (hb hby at_133) rfl rfl ?_
  refine eSipush X21 hx (8205 : Int32) (hb hby at_135) rfl rfl ?_
  refine eIAStore X21 hx hZ e21 A1 (inbL (n := 40) rfl (by decide)) (hb hby at_138) rfl (fun T22 h22 X22 e22 W22 B22 => ?_)
  have A1 : Ar Z h22 ad1 .int [(58 : Int32), (65 : Int32), (90 : Int32), (95 : Int32), (97 : Int32), (122 : Int32), (192 : Int32), (214 : Int32), (215 : Int32), (216 : Int32), (246 : Int32), (247 : Int32), (248 : Int32), (767 : Int32), (880 : Int32), (893 : Int32), (894 : Int32), (895 : Int32), (8191 : Int32), (8204 : Int32), (8205 : Int32), (0 : Int32), (0 : Int32), (0 : Int32), (0 : Int32), (0 : Int32), (0 : Int32), (0 : Int32), (0 : Int32), (0 : Int32), (0 : Int32), (0 : Int32), (0 : Int32), (0 : Int32), (0 : Int32), (0 : Int32), (0 : Int32), (0 : Int32), (0 : Int32), (0 : Int32)] := B22
  have N22 := Fr.snoc X22 N21 ge_ad1
  have Z22 := Nat.le_trans Z21 (Keep.of_wr W22).1
  refine eDup X22 hx (hb hby at_139) rfl rfl ?_
  refine eBipush X22 hx (21 : Int32) (hb hby at_140) rfl rfl ?_
  refine eSipush X22 hx (8304 : Int32) (hb hby at_142) rfl rfl ?_
  refine eIAStore X22 hx hZ e22 A1 (inbL (n := 40) rfl (by decide)) (hb hby at_145) rfl (fun T23 h23 X23 e23 W23 B23 => ?_)
  have A1 : Ar Z h23 ad1 .int [(58 : Int32), (65 : Int32), (90 : Int32), (95 : Int32), (97 : Int32), (122 : Int32), (192 : Int32), (214 : Int32), (215 : Int32), (216 : Int32), (246 : Int32), (247 : Int32), (248 : Int32), (767 : Int32), (880 : Int32), (893 : Int32), (894 : Int32), (895 : Int32), (8191 : Int32), (8204 : Int32), (8205 : Int32), (8304 : Int32), (0 : Int32), (0 : Int32), (0 : Int32), (0 : Int32), (0 : Int32), (0 : Int32), (0 : Int32), (0 : Int32), (0 : Int32), (0 : Int32), (0 : Int32), (0 : Int32), (0 : Int32), (0 : Int32), (0 : Int32), (0 : Int32), (0 : Int32), (0 : Int32)] := B23
  have N23 := Fr.snoc X23 N22 ge_ad1
  have Z23 := Nat.le_trans Z22 (Keep.of_wr W23).1
  refine eDup X23 hx (hb hby at_146) rfl rfl ?_
  refine eBipush X23 hx (22 : Int32) (hb hby at_147) rfl rfl ?_
  refine eSipush X23 hx (8591 : Int32) (hb hby at_149) rfl rfl ?_
  refine eIAStore X23 hx hZ e23 A1 (inbL (n := 40) rfl (by decide)) (hb hby at_152) rfl (fun T24 h24 X24 e24 W24 B24 => ?_)
  have A1 : Ar Z h24 ad1 .int [(58 : Int32), (65 : Int32), (90 : Int32), (95 : Int32), (97 : Int32), (122 : Int32), (192 : Int32), (214 : Int32), (215 : Int32), (216 : Int32), (246 : Int32), (247 : Int32), (248 : Int32), (767 : Int32), (880 : Int32), (893 : Int32), (894 : Int32), (895 : Int32), (8191 : Int32), (8204 : Int32), (8205 : Int32), (8304 : Int32), (8591 : Int32), (0 : Int32), (0 : Int32), (0 : Int32), (0 : Int32), (0 : Int32), (0 : Int32), (0 : Int32), (0 : Int32), (0 : Int32), (0 : Int32), (0 : Int32), (0 : Int32), (0 : Int32), (0 : Int32), (0 : Int32), (0 : Int32), (0 : Int32)] := B24
  have N24 := Fr.snoc X24 N23 ge_ad1
  have Z24 := Nat.le_trans Z23 (Keep.of_wr W24).1
  refine eDup X24 hx (hb hby at_153) rfl rfl ?_
  refine eBipush X24 hx (23 : Int32) (hb hby at_154) rfl rfl ?_
  refine eSipush X24 hx (11264 : Int32) (hb hby at_156) rfl rfl ?_
  refine eIAStore X24 hx hZ e24 A1 (inbL (n := 40) rfl (by decide)) (hb hby at_159) rfl (fun T25 h25 X25 e25 W25 B25 => ?_)
  have A1 : Ar Z h25 ad1 .int [(58 : Int32), (65 : Int32), (90 : Int32), (95 : Int32), (97 : Int32), (122 : Int32), (192 : Int32), (214 : Int32), (215 : Int32), (216 : Int32), (246 : Int32), (247 : Int32), (248 : Int32), (767 : Int32), (880 : Int32), (893 : Int32), (894 : Int32), (895 : Int32), (8191 : Int32), (8204 : Int32), (8205 : Int32), (8304 : Int32), (8591 : Int32), (11264 : Int32), (0 : Int32), (0 : Int32), (0 : Int32), (0 : Int32), (0 : Int32), (0 : Int32), (0 : Int32), (0 : Int32), (0 : Int32), (0 : Int32), (0 : Int32), (0 : Int32), (0 : Int32), (0 : Int32), (0 : Int32), (0 : Int32)] := B25
  have N25 := Fr.snoc X25 N24 ge_ad1
  have Z25 := Nat.le_trans Z24 (Keep.of_wr W25).1
  refine eDup X25 hx (hb hby at_160) rfl rfl ?_
  refine eBipush X25 hx (24 : Int32) (hb hby at_161) rfl rfl ?_
  refine eSipush X25 hx (12271 : Int32) (hb hby at_163) rfl rfl ?_
  refine eIAStore X25 hx hZ e25 A1 (inbL (n := 40) rfl (by decide)) (hb hby at_166) rfl (fun T26 h26 X26 e26 W26 B26 => ?_)
  have A1 : Ar Z h26 ad1 .int [(58 : Int32), (65 : Int32), (90 : Int32), (95 : Int32), (97 : Int32), (122 : Int32), (192 : Int32), (214 : Int32), (215 : Int32), (216 : Int32), (246 : Int32), (247 : Int32), (248 : Int32), (767 : Int32), (880 : Int32), (893 : Int32), (894 : Int32), (895 : Int32), (8191 : Int32), (8204 : Int32), (8205 : Int32), (8304 : Int32), (8591 : Int32), (11264 : Int32), (12271 : Int32), (0 : Int32), (0 : Int32), (0 : Int32), (0 : Int32), (0 : Int32), (0 : Int32), (0 : Int32), (0 : Int32), (0 : Int32), (0 : Int32), (0 : Int32), (0 : Int32), (0 : Int32), (0 : Int32), (0 : Int32)] := B26
  have N26 := Fr.snoc X26 N25 ge_ad1
  have Z26 := Nat.le_trans Z25 (Keep.of_wr W26).1
  refine eDup X26 hx (hb hby at_167) rfl rfl ?_
  refine eBipush X26 hx (25 : Int32) (hb hby at_168) rfl rfl ?_
  refine eSipush X26 hx (12289 : Int32) (hb hby at_170) rfl rfl ?_
  refine eIAStore X26 hx hZ e26 A1 (inbL (n := 40) rfl (by decide)) (hb hby at_173) rfl (fun T27 h27 X27 e27 W27 B27 => ?_)
  have A1 : Ar Z h27 ad1 .int [(58 : Int32), (65 : Int32), (90 : Int32), (95 : Int32), (97 : Int32), (122 : Int32), (192 : Int32), (214 : Int32), (215 : Int32), (216 : Int32), (246 : Int32), (247 : Int32), (248 : Int32), (767 : Int32), (880 : Int32), (893 : Int32), (894 : Int32), (895 : Int32), (8191 : Int32), (8204 : Int32), (8205 : Int32), (8304 : Int32), (8591 : Int32), (11264 : Int32), (12271 : Int32), (12289 : Int32), (0 : Int32), (0 : Int32), (0 : Int32), (0 : Int32), (0 : Int32), (0 : Int32), (0 : Int32), (0 : Int32), (0 : Int32), (0 : Int32), (0 : Int32), (0 : Int32), (0 : Int32), (0 : Int32)] := B27
  have N27 := Fr.snoc X27 N26 ge_ad1
  have Z27 := Nat.le_trans Z26 (Keep.of_wr W27).1
  refine eDup X27 hx (hb hby at_174) rfl rfl ?_
  refine eBipush X27 hx (26 : Int32) (hb hby at_175) rfl rfl ?_
  refine eLdcI X27 hx hZ hown (v := (55295 : Int32)) (hw _ (List.mem_of_getElem? (i := 1) rfl)) (hb hby at_177) rfl ?_
  refine eIAStore X27 hx hZ e27 A1 (inbL (n := 40) rfl (by decide)) (hb hby at_179) rfl (fun T28 h28 X28 e28 W28 B28 => ?_)
  have A1 : Ar Z h28 ad1 .int [(58 : Int32), (65 : Int32), (90 : Int32), (95 : Int32), (97 : Int32), (122 : Int32), (192 : Int32), (214 : Int32), (215 : Int32), (216 : Int32), (246 : Int32), (247 : Int32), (248 : Int32), (767 : Int32), (880 : Int32), (893 : Int32), (894 : Int32), (895 : Int32), (8191 : Int32), (8204 : Int32), (8205 : Int32), (8304 : Int32), (8591 : Int32), (11264 : Int32), (12271 : Int32), (12289 : Int32), (55295 : Int32), (0 : Int32), (0 : Int32), (0 : Int32), (0 : Int32), (0 : Int32), (0 : Int32), (0 : Int32), (0 : Int32), (0 : Int32), (0 : Int32), (0 : Int32), (0 : Int32), (0 : Int32)] := B28
  have N28 := Fr.snoc X28 N27 ge_ad1
  have Z28 := Nat.le_trans Z27 (Keep.of_wr W28).1
  refine eDup X28 hx (hb hby at_180) rfl rfl ?_
  refine eBipush X28 hx (27 : Int32) (hb hby at_181) rfl rfl ?_
  refine eLdcI X28 hx hZ hown (v := (63744 : Int32)) (hw _ (List.mem_of_getElem? (i := 2) rfl)) (hb hby at_183) rfl ?_
  refine eIAStore X28 hx hZ e28 A1 (inbL (n := 40) rfl (by decide)) (hb hby at_185) rfl (fun T29 h29 X29 e29 W29 B29 => ?_)
  have A1 : Ar Z h29 ad1 .int [(58 : Int32), (65 : Int32), (90 : Int32), (95 : Int32), (97 : Int32), (122 : Int32), (192 : Int32), (214 : Int32), (215 : Int32), (216 : Int32), (246 : Int32), (247 : Int32), (248 : Int32), (767 : Int32), (880 : Int32), (893 : Int32), (894 : Int32), (895 : Int32), (8191 : Int32), (8204 : Int32), (8205 : Int32), (8304 : Int32), (8591 : Int32), (11264 : Int32), (12271 : Int32), (12289 : Int32), (55295 : Int32), (63744 : Int32), (0 : Int32), (0 : Int32), (0 : Int32), (0 : Int32), (0 : Int32), (0 : Int32), (0 : Int32), (0 : Int32), (0 : Int32), (0 : Int32), (0 : Int32), (0 : Int32)] := B29
  have N29 := Fr.snoc X29 N28 ge_ad1
  have Z29 := Nat.le_trans Z28 (Keep.of_wr W29).1
  refine eDup X29 hx (hb hby at_186) rfl rfl ?_
  refine eBipush X29 hx (28 : Int32) (hb hby at_187) rfl rfl ?_
  refine eLdcI X29 hx hZ hown (v := (64975 : Int32)) (hw _ (List.mem_of_getElem? (i := 3) rfl)) (hb hby at_189) rfl ?_
  refine eIAStore X29 hx hZ e29 A1 (inbL (n := 40) rfl (by decide)) (hb hby at_191) rfl (fun T30 h30 X30 e30 W30 B30 => ?_)
  have A1 : Ar Z h30 ad1 .int [(58 : Int32), (65 : Int32), (90 : Int32), (95 : Int32), (97 : Int32), (122 : Int32), (192 : Int32), (214 : Int32), (215 : Int32), (216 : Int32), (246 : Int32), (247 : Int32), (248 : Int32), (767 : Int32), (880 : Int32), (893 : Int32), (894 : Int32), (895 : Int32), (8191 : Int32), (8204 : Int32), (8205 : Int32), (8304 : Int32), (8591 : Int32), (11264 : Int32), (12271 : Int32), (12289 : Int32), (55295 : Int32), (63744 : Int32), (64975 : Int32), (0 : Int32), (0 : Int32), (0 : Int32), (0 : Int32), (0 : Int32), (0 : Int32), (0 : Int32), (0 : Int32), (0 : Int32), (0 : Int32), (0 : Int32)] := B30
  have N30 := Fr.snoc X30 N29 ge_ad1
  have Z30 := Nat.le_trans Z29 (Keep.of_wr W30).1
  refine eDup X30 hx (hb hby at_192) rfl rfl ?_
  refine eBipush X30 hx (29 : Int32) (hb hby at_193) rfl rfl ?_
  refine eLdcI X30 hx hZ hown (v := (65008 : Int32)) (hw _ (List.mem_of_getElem? (i := 4) rfl)) (hb hby at_195) rfl ?_
  refine eIAStore X30 hx hZ e30 A1 (inbL (n := 40) rfl (by decide)) (hb hby at_197) rfl (fun T31 h31 X31 e31 W31 B31 => ?_)
  have A1 : Ar Z h31 ad1 .int [(58 : Int32), (65 : Int32), (90 : Int32), (95 : Int32), (97 : Int32), (122 : Int32), (192 : Int32), (214 : Int32), (215 : Int32), (216 : Int32), (246 : Int32), (247 : Int32), (248 : Int32), (767 : Int32), (880 : Int32), (893 : Int32), (894 : Int32), (895 : Int32), (8191 : Int32), (8204 : Int32), (8205 : Int32), (8304 : Int32), (8591 : Int32), (11264 : Int32), (12271 : Int32), (12289 : Int32), (55295 : Int32), (63744 : Int32), (64975 : Int32), (65008 : Int32), (0 : Int32), (0 : Int32), (0 : Int32), (0 : Int32), (0 : Int32), (0 : Int32), (0 : Int32), (0 : Int32), (0 : Int32), (0 : Int32)] := B31
  have N31 := Fr.snoc X31 N30 ge_ad1
  have Z31 := Nat.le_trans Z30 (Keep.of_wr W31).1
  refine eDup X31 hx (hb hby at_198) rfl rfl ?_
  refine eBipush X31 hx (30 : Int32) (hb hby at_199) rfl rfl ?_
  refine eLdcI X31 hx hZ hown (v := (65533 : Int32)) (hw _ (List.mem_of_getElem? (i := 5) rfl)) (hb hby at_201) rfl ?_
  refine eIAStore X31 hx hZ e31 A1 (inbL (n := 40) rfl (by decide)) (hb hby at_203) rfl (fun T32 h32 X32 e32 W32 B32 => ?_)
  have A1 : Ar Z h32 ad1 .int [(58 : Int32), (65 : Int32), (90 : Int32), (95 : Int32), (97 : Int32), (122 : Int32), (192 : Int32), (214 : Int32), (215 : Int32), (216 : Int32), (246 : Int32), (247 : Int32), (248 : Int32), (767 : Int32), (880 : Int32), (893 : Int32), (894 : Int32), (895 : Int32), (8191 : Int32), (8204 : Int32), (8205 : Int32), (8304 : Int32), (8591 : Int32), (11264 : Int32), (12271 : Int32), (12289 : Int32), (55295 : Int32), (63744 : Int32), (64975 : Int32), (65008 : Int32), (65533 : Int32), (0 : Int32), (0 : Int32), (0 : Int32), (0 : Int32), (0 : Int32), (0 : Int32), (0 : Int32), (0 : Int32), (0 : Int32)] := B32
  have N32 := Fr.snoc X32 N31 ge_ad1
  have Z32 := Nat.le_trans Z31 (Keep.of_wr W32).1
  refine eDup X32 hx (hb hby at_204) rfl rfl ?_
  refine eBipush X32 hx (31 : Int32) (hb hby at_205) rfl rfl ?_
  refine eLdcI X32 hx hZ hown (v := (65536 : Int32)) (hw _ (List.mem_of_getElem? (i := 6) rfl)) (hb hby at_207) rfl ?_
  refine eIAStore X32 hx hZ e32 A1 (inbL (n := 40) rfl (by decide)) (hb hby at_209) rfl (fun T33 h33 X33 e33 W33 B33 => ?_)
  have A1 : Ar Z h33 ad1 .int [(58 : Int32), (65 : Int32), (90 : Int32), (95 : Int32), (97 : Int32), (122 : Int32), (192 : Int32), (214 : Int32), (215 : Int32), (216 : Int32), (246 : Int32), (247 : Int32), (248 : Int32), (767 : Int32), (880 : Int32), (893 : Int32), (894 : Int32), (895 : Int32), (8191 : Int32), (8204 : Int32), (8205 : Int32), (8304 : Int32), (8591 : Int32), (11264 : Int32), (12271 : Int32), (12289 : Int32), (55295 : Int32), (63744 : Int32), (64975 : Int32), (65008 : Int32), (65533 : Int32), (65536 : Int32), (0 : Int32), (0 : Int32), (0 : Int32), (0 : Int32), (0 : Int32), (0 : Int32), (0 : Int32), (0 : Int32)] := B33
  have N33 := Fr.snoc X33 N32 ge_ad1
  have Z33 := Nat.le_trans Z32 (Keep.of_wr W33).1
  refine eDup X33 hx (hb hby at_210) rfl rfl ?_
  refine eBipush X33 hx (32 : Int32) (hb hby at_211) rfl rfl ?_
  refine eLdcI X33 hx hZ hown (v := (983039 : Int32)) (hw _ (List.mem_of_getElem? (i := 7) rfl)) (hb hby at_213) rfl ?_
  refine eIAStore X33 hx hZ e33 A1 (inbL (n := 40) rfl (by decide)) (hb hby at_215) rfl (fun T34 h34 X34 e34 W34 B34 => ?_)
  have A1 : Ar Z h34 ad1 .int [(58 : Int32), (65 : Int32), (90 : Int32), (95 : Int32), (97 : Int32), (122 : Int32), (192 : Int32), (214 : Int32), (215 : Int32), (216 : Int32), (246 : Int32), (247 : Int32), (248 : Int32), (767 : Int32), (880 : Int32), (893 : Int32), (894 : Int32), (895 : Int32), (8191 : Int32), (8204 : Int32), (8205 : Int32), (8304 : Int32), (8591 : Int32), (11264 : Int32), (12271 : Int32), (12289 : Int32), (55295 : Int32), (63744 : Int32), (64975 : Int32), (65008 : Int32), (65533 : Int32), (65536 : Int32), (983039 : Int32), (0 : Int32), (0 : Int32), (0 : Int32), (0 : Int32), (0 : Int32), (0 : Int32), (0 : Int32)] := B34
  have N34 := Fr.snoc X34 N33 ge_ad1
  have Z34 := Nat.le_trans Z33 (Keep.of_wr W34).1
  refine eDup X34 hx (hb hby at_216) rfl rfl ?_
  refine eBipush X34 hx (33 : Int32) (hb hby at_217) rfl rfl ?_
  refine eLdcI X34 hx hZ hown (v := (1114111 : Int32)) (hw _ (List.mem_of_getElem? (i := 8) rfl)) (hb hby at_219) rfl ?_
  refine eIAStore X34 hx hZ e34 A1 (inbL (n := 40) rfl (by decide)) (hb hby at_221) rfl (fun T35 h35 X35 e35 W35 B35 => ?_)
  have A1 : Ar Z h35 ad1 .int [(58 : Int32), (65 : Int32), (90 : Int32), (95 : Int32), (97 : Int32), (122 : Int32), (192 : Int32), (214 : Int32), (215 : Int32), (216 : Int32), (246 : Int32), (247 : Int32), (248 : Int32), (767 : Int32), (880 : Int32), (893 : Int32), (894 : Int32), (895 : Int32), (8191 : Int32), (8204 : Int32), (8205 : Int32), (8304 : Int32), (8591 : Int32), (11264 : Int32), (12271 : Int32), (12289 : Int32), (55295 : Int32), (63744 : Int32), (64975 : Int32), (65008 : Int32), (65533 : Int32), (65536 : Int32), (983039 : Int32), (1114111 : Int32), (0 : Int32), (0 : Int32), (0 : Int32), (0 : Int32), (0 : Int32), (0 : Int32)] := B35
  have N35 := Fr.snoc X35 N34 ge_ad1
  have Z35 := Nat.le_trans Z34 (Keep.of_wr W35).1
  refine eDup X35 hx (hb hby at_222) rfl rfl ?_
  refine eBipush X35 hx (34 : Int32) (hb hby at_223) rfl rfl ?_
  refine eIConst X35 hx (0 : Int32) (hb hby at_225) rfl rfl ?_
  refine eIAStore X35 hx hZ e35 A1 (inbL (n := 40) rfl (by decide)) (hb hby at_226) rfl (fun T36 h36 X36 e36 W36 B36 => ?_)
  have A1 : Ar Z h36 ad1 .int [(58 : Int32), (65 : Int32), (90 : Int32), (95 : Int32), (97 : Int32), (122 : Int32), (192 : Int32), (214 : Int32), (215 : Int32), (216 : Int32), (246 : Int32), (247 : Int32), (248 : Int32), (767 : Int32), (880 : Int32), (893 : Int32), (894 : Int32), (895 : Int32), (8191 : Int32), (8204 : Int32), (8205 : Int32), (8304 : Int32), (8591 : Int32), (11264 : Int32), (12271 : Int32), (12289 : Int32), (55295 : Int32), (63744 : Int32), (64975 : Int32), (65008 : Int32), (65533 : Int32), (65536 : Int32), (983039 : Int32), (1114111 : Int32), (0 : Int32), (0 : Int32), (0 : Int32), (0 : Int32), (0 : Int32), (0 : Int32)] := B36
  have N36 := Fr.snoc X36 N35 ge_ad1
  have Z36 := Nat.le_trans Z35 (Keep.of_wr W36).1
  refine eDup X36 hx (hb hby at_227) rfl rfl ?_
  refine eBipush X36 hx (35 : Int32) (hb hby at_228) rfl rfl ?_
  refine eSipush X36 hx (183 : Int32) (hb hby at_230) rfl rfl ?_
  refine eIAStore X36 hx hZ e36 A1 (inbL (n := 40) rfl (by decide)) (hb hby at_233) rfl (fun T37 h37 X37 e37 W37 B37 => ?_)
  have A1 : Ar Z h37 ad1 .int [(58 : Int32), (65 : Int32), (90 : Int32), (95 : Int32), (97 : Int32), (122 : Int32), (192 : Int32), (214 : Int32), (215 : Int32), (216 : Int32), (246 : Int32), (247 : Int32), (248 : Int32), (767 : Int32), (880 : Int32), (893 : Int32), (894 : Int32), (895 : Int32), (8191 : Int32), (8204 : Int32), (8205 : Int32), (8304 : Int32), (8591 : Int32), (11264 : Int32), (12271 : Int32), (12289 : Int32), (55295 : Int32), (63744 : Int32), (64975 : Int32), (65008 : Int32), (65533 : Int32), (65536 : Int32), (983039 : Int32), (1114111 : Int32), (0 : Int32), (183 : Int32), (0 : Int32), (0 : Int32), (0 : Int32), (0 : Int32)] := B37
  have N37 := Fr.snoc X37 N36 ge_ad1
  have Z37 := Nat.le_trans Z36 (Keep.of_wr W37).1
  refine eDup X37 hx (hb hby at_234) rfl rfl ?_
  refine eBipush X37 hx (36 : Int32) (hb hby at_235) rfl rfl ?_
  refine eBipush X37 hx (48 : Int32) (hb hby at_237) rfl rfl ?_
  refine eIAStore X37 hx hZ e37 A1 (inbL (n := 40) rfl (by decide)) (hb hby at_239) rfl (fun T38 h38 X38 e38 W38 B38 => ?_)
  have A1 : Ar Z h38 ad1 .int [(58 : Int32), (65 : Int32), (90 : Int32), (95 : Int32), (97 : Int32), (122 : Int32), (192 : Int32), (214 : Int32), (215 : Int32), (216 : Int32), (246 : Int32), (247 : Int32), (248 : Int32), (767 : Int32), (880 : Int32), (893 : Int32), (894 : Int32), (895 : Int32), (8191 : Int32), (8204 : Int32), (8205 : Int32), (8304 : Int32), (8591 : Int32), (11264 : Int32), (12271 : Int32), (12289 : Int32), (55295 : Int32), (63744 : Int32), (64975 : Int32), (65008 : Int32), (65533 : Int32), (65536 : Int32), (983039 : Int32), (1114111 : Int32), (0 : Int32), (183 : Int32), (48 : Int32), (0 : Int32), (0 : Int32), (0 : Int32)] := B38
  have N38 := Fr.snoc X38 N37 ge_ad1
  have Z38 := Nat.le_trans Z37 (Keep.of_wr W38).1
  refine eDup X38 hx (hb hby at_240) rfl rfl ?_
  refine eBipush X38 hx (37 : Int32) (hb hby at_241) rfl rfl ?_
  refine eBipush X38 hx (45 : Int32) (hb hby at_243) rfl rfl ?_
  refine eIAStore X38 hx hZ e38 A1 (inbL (n := 40) rfl (by decide)) (hb hby at_245) rfl (fun T39 h39 X39 e39 W39 B39 => ?_)
  have A1 : Ar Z h39 ad1 .int [(58 : Int32), (65 : Int32), (90 : Int32), (95 : Int32), (97 : Int32), (122 : Int32), (192 : Int32), (214 : Int32), (215 : Int32), (216 : Int32), (246 : Int32), (247 : Int32), (248 : Int32), (767 : Int32), (880 : Int32), (893 : Int32), (894 : Int32), (895 : Int32), (8191 : Int32), (8204 : Int32), (8205 : Int32), (8304 : Int32), (8591 : Int32), (11264 : Int32), (12271 : Int32), (12289 : Int32), (55295 : Int32), (63744 : Int32), (64975 : Int32), (65008 : Int32), (65533 : Int32), (65536 : Int32), (983039 : Int32), (1114111 : Int32), (0 : Int32), (183 : Int32), (48 : Int32), (45 : Int32), (0 : Int32), (0 : Int32)] := B39
  have N39 := Fr.snoc X39 N38 ge_ad1
  have Z39 := Nat.le_trans Z38 (Keep.of_wr W39).1
  refine eDup X39 hx (hb hby at_246) rfl rfl ?_
  refine eBipush X39 hx (38 : Int32) (hb hby at_247) rfl rfl ?_
  refine eLdcI X39 hx hZ hown (v := (-2147483648 : Int32)) (hw _ (List.mem_of_getElem? (i := 9) rfl)) (hb hby at_249) rfl ?_
  refine eIAStore X39 hx hZ e39 A1 (inbL (n := 40) rfl (by decide)) (hb hby at_251) rfl (fun T40 h40 X40 e40 W40 B40 => ?_)
  have A1 : Ar Z h40 ad1 .int [(58 : Int32), (65 : Int32), (90 : Int32), (95 : Int32), (97 : Int32), (122 : Int32), (192 : Int32), (214 : Int32), (215 : Int32), (216 : Int32), (246 : Int32), (247 : Int32), (248 : Int32), (767 : Int32), (880 : Int32), (893 : Int32), (894 : Int32), (895 : Int32), (8191 : Int32), (8204 : Int32), (8205 : Int32), (8304 : Int32), (8591 : Int32), (11264 : Int32), (12271 : Int32), (12289 : Int32), (55295 : Int32), (63744 : Int32), (64975 : Int32), (65008 : Int32), (65533 : Int32), (65536 : Int32), (983039 : Int32), (1114111 : Int32), (0 : Int32), (183 : Int32), (48 : Int32), (45 : Int32), (-2147483648 : Int32), (0 : Int32)] := B40
  have N40 := Fr.snoc X40 N39 ge_ad1
  have Z40 := Nat.le_trans Z39 (Keep.of_wr W40).1
  refine eDup X40 hx (hb hby at_252) rfl rfl ?_
  refine eBipush X40 hx (39 : Int32) (hb hby at_253) rfl rfl ?_
  refine eLdcI X40 hx hZ hown (v := (2147483647 : Int32)) (hw _ (List.mem_of_getElem? (i := 10) rfl)) (hb hby at_255) rfl ?_
  refine eIAStore X40 hx hZ e40 A1 (inbL (n := 40) rfl (by decide)) (hb hby at_257) rfl (fun T41 h41 X41 e41 W41 B41 => ?_)
  have A1 : Ar Z h41 ad1 .int [(58 : Int32), (65 : Int32), (90 : Int32), (95 : Int32), (97 : Int32), (122 : Int32), (192 : Int32), (214 : Int32), (215 : Int32), (216 : Int32), (246 : Int32), (247 : Int32), (248 : Int32), (767 : Int32), (880 : Int32), (893 : Int32), (894 : Int32), (895 : Int32), (8191 : Int32), (8204 : Int32), (8205 : Int32), (8304 : Int32), (8591 : Int32), (11264 : Int32), (12271 : Int32), (12289 : Int32), (55295 : Int32), (63744 : Int32), (64975 : Int32), (65008 : Int32), (65533 : Int32), (65536 : Int32), (983039 : Int32), (1114111 : Int32), (0 : Int32), (183 : Int32), (48 : Int32), (45 : Int32), (-2147483648 : Int32), (2147483647 : Int32)] := B41
  have N41 := Fr.snoc X41 N40 ge_ad1
  have Z41 := Nat.le_trans Z40 (Keep.of_wr W41).1
  refine eAStore X41 hx (hb hby at_258) rfl (L' := #[.val (.int p1), .val (.int p2), .val (.int p3), .val (.int p4), .val (.ref ad1), .unset, .unset, .unset]) rfl rfl ?_
  refine eILoadN X41 hx (hb hby at_260) rfl rfl ?_
  refine eIConst X41 hx (1 : Int32) (hb hby at_261) rfl rfl ?_
  refine eIAnd X41 hx (hb hby at_262) rfl ?_
  have K302_45 : ∀ (v5_42 : Int32) (z6_43 : Slot) (z7_44 : Slot) (T45 : State) (locs45 : List Loc), Stand p l e room_1 s m #[(.int p1), (.int p2), (.int p3), (.int p4)] below meth c T45 locs45 1 40 → Fr n0 locs45 → T45.heap = h41 → Ends p e below (PVW s 16 192 n0 (f0_302 v5_42)) T45 m 302 #[.val (.int p1), .val (.int p2), .val (.int p3), .val (.int p4), .val (.ref ad1), .val (.int v5_42), z6_43, z7_44] [] := by
    intro v5_42 z6_43 z7_44 T45 locs45 X45 N45 e45
    refine eILoad X45 hx (hb hby at_302) rfl rfl ?_
    refine eCallS X45 hx hZ (y := (⟨"com/example/wildcard/wildcard/XmlCharacters", "isNameStart", "(I)Z"⟩ : MethodName)) hown (hw _ (List.mem_of_getElem? (i := 11) rfl)) (hw _ (List.mem_of_getElem? (i := 12) rfl)) (hw _ (List.mem_of_getElem? (i := 13) rfl)) (hw _ (List.mem_of_getElem? (i := 14) rfl)) (by decide) e45 (rm1 l Z a0 hw [] v5_42 h41 n0 Z41) (argsL := [(.int v5_42)]) (rest := []) (lenOf own_pd1 rfl) rfl (by rw [hml]; rfl) 0 (by exact Nat.le_refl _) (by decide) (by decide) (by decide) (by decide) (hb hby at_304) rfl (fun v46 T46 L46 q46 (X46 : Stand _ _ _ _ _ _ _ _ _ _ T46 _ 1 40) => ?_)
    obtain ⟨rfl, N46', e46⟩ := q46
    have N46 := Fr.app N45 N46'
    show Ends p e below _ T46 m 307 #[.val (.int p1), .val (.int p2), .val (.int p3), .val (.int p4), .val (.ref ad1), .val (.int v5_42), z6_43, z7_44] [(.int (fIs_0 v5_42))]
    refine eILoad X46 hx (hb hby at_307) rfl rfl ?_
    refine eCallS X46 hx hZ (y := (⟨"com/example/wildcard/wildcard/XmlCharactersIsNameStartPinLaw", "spec", "(I)Z"⟩ : MethodName)) hown (hw _ (List.mem_of_getElem? (i := 15) rfl)) (hw _ (List.mem_of_getElem? (i := 16) rfl)) (hw _ (List.mem_of_getElem? (i := 17) rfl)) (hw _ (List.mem_of_getElem? (i := 18) rfl)) (by decide) e46 (rm2 l Z a0 hw [] v5_42 h41 n0 Z41) (argsL := [(.int v5_42)]) (rest := [(.int (fIs_0 v5_42))]) (lenOf own_pd1 rfl) rfl (by rw [hml]; rfl) 1 (by exact Nat.le_refl _) (by decide) (by decide) (by decide) (by decide) (hb hby at_309) rfl (fun v47 T47 L47 q47 (X47 : Stand _ _ _ _ _ _ _ _ _ _ T47 _ 1 40) => ?_)
    obtain ⟨rfl, N47', e47⟩ := q47
    have N47 := Fr.app N46 N47'
    show Ends p e below _ T47 m 312 #[.val (.int p1), .val (.int p2), .val (.int p3), .val (.int p4), .val (.ref ad1), .val (.int v5_42), z6_43, z7_44] [(.int (fRef_0 v5_42)), (.int (fIs_0 v5_42))]
    show Ends p e below (PVW s 16 192 n0 (if (fIs_0 v5_42) = (fRef_0 v5_42) then (1 : Int32) else (0 : Int32))) T47 m 312 #[.val (.int p1), .val (.int p2), .val (.int p3), .val (.int p4), .val (.ref ad1), .val (.int v5_42), z6_43, z7_44] [(.int (fRef_0 v5_42)), (.int (fIs_0 v5_42))]
    by_cases c48 : (fIs_0 v5_42) = (fRef_0 v5_42)
    · rw [if_pos c48]
      refine eIcmpN X47 hx (hb hby at_312) (teq c48).2 rfl ?_
      refine eIConst X47 hx (1 : Int32) (hb hby at_315) rfl rfl ?_
      refine eGoto X47 hx (hb hby at_316) (by decide) (pc' := 320) rfl ?_
      exact eRetN X47 hx (t := .boolean) Bd.returns (by simp) hlk (hb hby at_320) (by decide) (by decide) ⟨rfl, N47⟩
    · rw [if_neg c48]
      refine eIcmpY X47 hx (hb hby at_312) (feq c48).2 (by decide) (pc' := 319) rfl ?_
      refine eIConst X47 hx (0 : Int32) (hb hby at_319) rfl rfl ?_
      exact eRetN X47 hx (t := .boolean) Bd.returns (by simp) hlk (hb hby at_320) (by decide) (by decide) ⟨rfl, N47⟩
  show Ends p e below (PVW s 16 192 n0 (if (p1 &&& (1 : Int32)) = (0 : Int32) then (f0_302 ((rd [(58 : Int32), (65 : Int32), (90 : Int32), (95 : Int32), (97 : Int32), (122 : Int32), (192 : Int32), (214 : Int32), (215 : Int32), (216 : Int32), (246 : Int32), (247 : Int32), (248 : Int32), (767 : Int32), (880 : Int32), (893 : Int32), (894 : Int32), (895 : Int32), (8191 : Int32), (8204 : Int32), (8205 : Int32), (8304 : Int32), (8591 : Int32), (11264 : Int32), (12271 : Int32), (12289 : Int32), (55295 : Int32), (63744 : Int32), (64975 : Int32), (65008 : Int32), (65533 : Int32), (65536 : Int32), (983039 : Int32), (1114111 : Int32), (0 : Int32), (183 : Int32), (48 : Int32), (45 : Int32), (-2147483648 : Int32), (2147483647 : Int32)] ((p2 &&& (2147483647 : Int32)) % (40 : Int32))) + (((p3 &&& (2147483647 : Int32)) % (5 : Int32)) - (2 : Int32)))) else (f0_302 p4))) T41 m 263 #[.val (.int p1), .val (.int p2), .val (.int p3), .val (.int p4), .val (.ref ad1), .unset, .unset, .unset] [(.int (p1 &&& (1 : Int32)))]
  by_cases c49 : (p1 &&& (1 : Int32)) = (0 : Int32)
  · rw [if_pos c49]
    refine eIfY X41 hx (hb hby at_263) ((if0 _ _).trans (teq c49).1) (by decide) (pc' := 272) rfl ?_
    refine eILoadN X41 hx (hb hby at_272) rfl rfl ?_
    refine eLdcI X41 hx hZ hown (v := (2147483647 : Int32)) (hw _ (List.mem_of_getElem? (i := 10) rfl)) (hb hby at_273) rfl ?_
    refine eIAnd X41 hx (hb hby at_275) rfl ?_
    refine eALoad X41 hx (hb hby at_276) rfl rfl rfl ?_
    refine eLen X41 hx hZ e41 A1 (40 : Int32) rfl (hb hby at_278) rfl ?_
    refine eIRem X41 hx (hb hby at_279) (by decide) rfl ?_
    refine eIStore X41 hx (hb hby at_280) (L' := #[.val (.int p1), .val (.int p2), .val (.int p3), .val (.int p4), .val (.ref ad1), .unset, .val (.int ((p2 &&& (2147483647 : Int32)) % (40 : Int32))), .unset]) rfl rfl ?_
    refine eILoadN X41 hx (hb hby at_282) rfl rfl ?_
    refine eLdcI X41 hx hZ hown (v := (2147483647 : Int32)) (hw _ (List.mem_of_getElem? (i := 10) rfl)) (hb hby at_283) rfl ?_
    refine eIAnd X41 hx (hb hby at_285) rfl ?_
    refine eIConst X41 hx (5 : Int32) (hb hby at_286) rfl rfl ?_
    refine eIRem X41 hx (hb hby at_287) (by decide) rfl ?_
    refine eIConst X41 hx (2 : Int32) (hb hby at_288) rfl rfl ?_
    refine eISub X41 hx (hb hby at_289) rfl ?_
    refine eIStore X41 hx (hb hby at_290) (L' := #[.val (.int p1), .val (.int p2), .val (.int p3), .val (.int p4), .val (.ref ad1), .unset, .val (.int ((p2 &&& (2147483647 : Int32)) % (40 : Int32))), .val (.int (((p3 &&& (2147483647 : Int32)) % (5 : Int32)) - (2 : Int32)))]) rfl rfl ?_
    refine eALoad X41 hx (hb hby at_292) rfl rfl rfl ?_
    refine eILoad X41 hx (hb hby at_294) rfl rfl ?_
    refine eIALoad X41 hx hZ e41 A1 (rd [(58 : Int32), (65 : Int32), (90 : Int32), (95 : Int32), (97 : Int32), (122 : Int32), (192 : Int32), (214 : Int32), (215 : Int32), (216 : Int32), (246 : Int32), (247 : Int32), (248 : Int32), (767 : Int32), (880 : Int32), (893 : Int32), (894 : Int32), (895 : Int32), (8191 : Int32), (8204 : Int32), (8205 : Int32), (8304 : Int32), (8591 : Int32), (11264 : Int32), (12271 : Int32), (12289 : Int32), (55295 : Int32), (63744 : Int32), (64975 : Int32), (65008 : Int32), (65533 : Int32), (65536 : Int32), (983039 : Int32), (1114111 : Int32), (0 : Int32), (183 : Int32), (48 : Int32), (45 : Int32), (-2147483648 : Int32), (2147483647 : Int32)] ((p2 &&& (2147483647 : Int32)) % (40 : Int32))) rfl (own_ix _ _ _ (by decide) (by decide)) (hb hby at_296) rfl ?_
    refine eILoad X41 hx (hb hby at_297) rfl rfl ?_
    refine eIAdd X41 hx (hb hby at_299) rfl ?_
    refine eIStore X41 hx (hb hby at_300) (L' := #[.val (.int p1), .val (.int p2), .val (.int p3), .val (.int p4), .val (.ref ad1), .val (.int ((rd [(58 : Int32), (65 : Int32), (90 : Int32), (95 : Int32), (97 : Int32), (122 : Int32), (192 : Int32), (214 : Int32), (215 : Int32), (216 : Int32), (246 : Int32), (247 : Int32), (248 : Int32), (767 : Int32), (880 : Int32), (893 : Int32), (894 : Int32), (895 : Int32), (8191 : Int32), (8204 : Int32), (8205 : Int32), (8304 : Int32), (8591 : Int32), (11264 : Int32), (12271 : Int32), (12289 : Int32), (55295 : Int32), (63744 : Int32), (64975 : Int32), (65008 : Int32), (65533 : Int32), (65536 : Int32), (983039 : Int32), (1114111 : Int32), (0 : Int32), (183 : Int32), (48 : Int32), (45 : Int32), (-2147483648 : Int32), (2147483647 : Int32)] ((p2 &&& (2147483647 : Int32)) % (40 : Int32))) + (((p3 &&& (2147483647 : Int32)) % (5 : Int32)) - (2 : Int32)))), .val (.int ((p2 &&& (2147483647 : Int32)) % (40 : Int32))), .val (.int (((p3 &&& (2147483647 : Int32)) % (5 : Int32)) - (2 : Int32)))]) rfl rfl ?_
    exact K302_45 ((rd [(58 : Int32), (65 : Int32), (90 : Int32), (95 : Int32), (97 : Int32), (122 : Int32), (192 : Int32), (214 : Int32), (215 : Int32), (216 : Int32), (246 : Int32), (247 : Int32), (248 : Int32), (767 : Int32), (880 : Int32), (893 : Int32), (894 : Int32), (895 : Int32), (8191 : Int32), (8204 : Int32), (8205 : Int32), (8304 : Int32), (8591 : Int32), (11264 : Int32), (12271 : Int32), (12289 : Int32), (55295 : Int32), (63744 : Int32), (64975 : Int32), (65008 : Int32), (65533 : Int32), (65536 : Int32), (983039 : Int32), (1114111 : Int32), (0 : Int32), (183 : Int32), (48 : Int32), (45 : Int32), (-2147483648 : Int32), (2147483647 : Int32)] ((p2 &&& (2147483647 : Int32)) % (40 : Int32))) + (((p3 &&& (2147483647 : Int32)) % (5 : Int32)) - (2 : Int32))) (.val (.int ((p2 &&& (2147483647 : Int32)) % (40 : Int32)))) (.val (.int (((p3 &&& (2147483647 : Int32)) % (5 : Int32)) - (2 : Int32)))) T41 _ X41 N41 e41
  · rw [if_neg c49]
    refine eIfN X41 hx (hb hby at_263) ((if0 _ _).trans (feq c49).1) rfl ?_
    refine eILoadN X41 hx (hb hby at_266) rfl rfl ?_
    refine eIStore X41 hx (hb hby at_267) (L' := #[.val (.int p1), .val (.int p2), .val (.int p3), .val (.int p4), .val (.ref ad1), .val (.int p4), .unset, .unset]) rfl rfl ?_
    refine eGoto X41 hx (hb hby at_269) (by decide) (pc' := 302) rfl ?_
    exact K302_45 p4 (.unset) (.unset) T41 _ X41 N41 e41
theorem own_fIs_31 (c : Int32) : (fIs_31 c = 1 ∧ ((95 ≤ c.toInt ∧ c.toInt ≤ 95) ∨ (58 ≤ c.toInt ∧ c.toInt ≤ 58))) ∨ (fIs_31 c = 0 ∧ ¬ ((95 ≤ c.toInt ∧ c.toInt ≤ 95) ∨ (58 ≤ c.toInt ∧ c.toInt ≤ 58))) := by
  unfold fIs_31
  (repeat' split) <;> first | (left; refine ⟨by first | rfl | assumption, ?_⟩; simp only [Int32.lt_iff_toInt_lt, ← Int32.toInt_inj, Int32.reduceToInt] at *; omega) | (right; refine ⟨by first | rfl | assumption, ?_⟩; simp only [Int32.lt_iff_toInt_lt, ← Int32.toInt_inj, Int32.reduceToInt] at *; omega) | (exfalso; simp only [Int32.lt_iff_toInt_lt, ← Int32.toInt_inj, Int32.reduceToInt] at *; omega)
theorem own_fIs_19 (c : Int32) : (fIs_19 c = 1 ∧ ((95 ≤ c.toInt ∧ c.toInt ≤ 95) ∨ (58 ≤ c.toInt ∧ c.toInt ≤ 58) ∨ (65 ≤ c.toInt ∧ c.toInt ≤ 90))) ∨ (fIs_19 c = 0 ∧ ¬ ((95 ≤ c.toInt ∧ c.toInt ≤ 95) ∨ (58 ≤ c.toInt ∧ c.toInt ≤ 58) ∨ (65 ≤ c.toInt ∧ c.toInt ≤ 90))) := by
  have hp := own_fIs_31 c
  unfold fIs_19
  generalize fIs_31 c = z at *
  rcases hp with hp | hp <;> (obtain ⟨hz, hq⟩ := hp) <;> subst hz <;> (repeat' split) <;> first | (left; refine ⟨by first | rfl | assumption, ?_⟩; simp only [Int32.lt_iff_toInt_lt, ← Int32.toInt_inj, Int32.reduceToInt] at *; omega) | (right; refine ⟨by first | rfl | assumption, ?_⟩; simp only [Int32.lt_iff_toInt_lt, ← Int32.toInt_inj, Int32.reduceToInt] at *; omega) | (exfalso; simp only [Int32.lt_iff_toInt_lt, ← Int32.toInt_inj, Int32.reduceToInt] at *; omega)
theorem own_fIs_178 (c : Int32) : (fIs_178 c = 1 ∧ ((65536 ≤ c.toInt ∧ c.toInt ≤ 983039))) ∨ (fIs_178 c = 0 ∧ ¬ ((65536 ≤ c.toInt ∧ c.toInt ≤ 983039))) := by
  unfold fIs_178
  (repeat' split) <;> first | (left; refine ⟨by first | rfl | assumption, ?_⟩; simp only [Int32.lt_iff_toInt_lt, ← Int32.toInt_inj, Int32.reduceToInt] at *; omega) | (right; refine ⟨by first | rfl | assumption, ?_⟩; simp only [Int32.lt_iff_toInt_lt, ← Int32.toInt_inj, Int32.reduceToInt] at *; omega) | (exfalso; simp only [Int32.lt_iff_toInt_lt, ← Int32.toInt_inj, Int32.reduceToInt] at *; omega)
theorem own_fIs_166 (c : Int32) : (fIs_166 c = 1 ∧ ((65008 ≤ c.toInt ∧ c.toInt ≤ 65533) ∨ (65536 ≤ c.toInt ∧ c.toInt ≤ 983039))) ∨ (fIs_166 c = 0 ∧ ¬ ((65008 ≤ c.toInt ∧ c.toInt ≤ 65533) ∨ (65536 ≤ c.toInt ∧ c.toInt ≤ 983039))) := by
  have hp := own_fIs_178 c
  unfold fIs_166
  generalize fIs_178 c = z at *
  rcases hp with hp | hp <;> (obtain ⟨hz, hq⟩ := hp) <;> subst hz <;> (repeat' split) <;> first | (left; refine ⟨by first | rfl | assumption, ?_⟩; simp only [Int32.lt_iff_toInt_lt, ← Int32.toInt_inj, Int32.reduceToInt] at *; omega) | (right; refine ⟨by first | rfl | assumption, ?_⟩; simp only [Int32.lt_iff_toInt_lt, ← Int32.toInt_inj, Int32.reduceToInt] at *; omega) | (exfalso; simp only [Int32.lt_iff_toInt_lt, ← Int32.toInt_inj, Int32.reduceToInt] at *; omega)
theorem own_fIs_154 (c : Int32) : (fIs_154 c = 1 ∧ ((63744 ≤ c.toInt ∧ c.toInt ≤ 64975) ∨ (65008 ≤ c.toInt ∧ c.toInt ≤ 65533) ∨ (65536 ≤ c.toInt ∧ c.toInt ≤ 983039))) ∨ (fIs_154 c = 0 ∧ ¬ ((63744 ≤ c.toInt ∧ c.toInt ≤ 64975) ∨ (65008 ≤ c.toInt ∧ c.toInt ≤ 65533) ∨ (65536 ≤ c.toInt ∧ c.toInt ≤ 983039))) := by
  have hp := own_fIs_166 c
  unfold fIs_154
  generalize fIs_166 c = z at *
  rcases hp with hp | hp <;> (obtain ⟨hz, hq⟩ := hp) <;> subst hz <;> (repeat' split) <;> first | (left; refine ⟨by first | rfl | assumption, ?_⟩; simp only [Int32.lt_iff_toInt_lt, ← Int32.toInt_inj, Int32.reduceToInt] at *; omega) | (right; refine ⟨by first | rfl | assumption, ?_⟩; simp only [Int32.lt_iff_toInt_lt, ← Int32.toInt_inj, Int32.reduceToInt] at *; omega) | (exfalso; simp only [Int32.lt_iff_toInt_lt, ← Int32.toInt_inj, Int32.reduceToInt] at *; omega)
theorem own_fIs_141 (c : Int32) : (fIs_141 c = 1 ∧ ((12289 ≤ c.toInt ∧ c.toInt ≤ 55295) ∨ (63744 ≤ c.toInt ∧ c.toInt ≤ 64975) ∨ (65008 ≤ c.toInt ∧ c.toInt ≤ 65533) ∨ (65536 ≤ c.toInt ∧ c.toInt ≤ 983039))) ∨ (fIs_141 c = 0 ∧ ¬ ((12289 ≤ c.toInt ∧ c.toInt ≤ 55295) ∨ (63744 ≤ c.toInt ∧ c.toInt ≤ 64975) ∨ (65008 ≤ c.toInt ∧ c.toInt ≤ 65533) ∨ (65536 ≤ c.toInt ∧ c.toInt ≤ 983039))) := by
  have hp := own_fIs_154 c
  unfold fIs_141
  generalize fIs_154 c = z at *
  rcases hp with hp | hp <;> (obtain ⟨hz, hq⟩ := hp) <;> subst hz <;> (repeat' split) <;> first | (left; refine ⟨by first | rfl | assumption, ?_⟩; simp only [Int32.lt_iff_toInt_lt, ← Int32.toInt_inj, Int32.reduceToInt] at *; omega) | (right; refine ⟨by first | rfl | assumption, ?_⟩; simp only [Int32.lt_iff_toInt_lt, ← Int32.toInt_inj, Int32.reduceToInt] at *; omega) | (exfalso; simp only [Int32.lt_iff_toInt_lt, ← Int32.toInt_inj, Int32.reduceToInt] at *; omega)
theorem own_fIs_127 (c : Int32) : (fIs_127 c = 1 ∧ ((11264 ≤ c.toInt ∧ c.toInt ≤ 12271) ∨ (12289 ≤ c.toInt ∧ c.toInt ≤ 55295) ∨ (63744 ≤ c.toInt ∧ c.toInt ≤ 64975) ∨ (65008 ≤ c.toInt ∧ c.toInt ≤ 65533) ∨ (65536 ≤ c.toInt ∧ c.toInt ≤ 983039))) ∨ (fIs_127 c = 0 ∧ ¬ ((11264 ≤ c.toInt ∧ c.toInt ≤ 12271) ∨ (12289 ≤ c.toInt ∧ c.toInt ≤ 55295) ∨ (63744 ≤ c.toInt ∧ c.toInt ≤ 64975) ∨ (65008 ≤ c.toInt ∧ c.toInt ≤ 65533) ∨ (65536 ≤ c.toInt ∧ c.toInt ≤ 983039))) := by
  have hp := own_fIs_141 c
  unfold fIs_127
  generalize fIs_141 c = z at *
  rcases hp with hp | hp <;> (obtain ⟨hz, hq⟩ := hp) <;> subst hz <;> (repeat' split) <;> first | (left; refine ⟨by first | rfl | assumption, ?_⟩; simp only [Int32.lt_iff_toInt_lt, ← Int32.toInt_inj, Int32.reduceToInt] at *; omega) | (right; refine ⟨by first | rfl | assumption, ?_⟩; simp only [Int32.lt_iff_toInt_lt, ← Int32.toInt_inj, Int32.reduceToInt] at *; omega) | (exfalso; simp only [Int32.lt_iff_toInt_lt, ← Int32.toInt_inj, Int32.reduceToInt] at *; omega)
theorem own_fIs_99 (c : Int32) : (fIs_99 c = 1 ∧ ((8204 ≤ c.toInt ∧ c.toInt ≤ 8205) ∨ (8304 ≤ c.toInt ∧ c.toInt ≤ 8591) ∨ (11264 ≤ c.toInt ∧ c.toInt ≤ 12271) ∨ (12289 ≤ c.toInt ∧ c.toInt ≤ 55295) ∨ (63744 ≤ c.toInt ∧ c.toInt ≤ 64975) ∨ (65008 ≤ c.toInt ∧ c.toInt ≤ 65533) ∨ (65536 ≤ c.toInt ∧ c.toInt ≤ 983039))) ∨ (fIs_99 c = 0 ∧ ¬ ((8204 ≤ c.toInt ∧ c.toInt ≤ 8205) ∨ (8304 ≤ c.toInt ∧ c.toInt ≤ 8591) ∨ (11264 ≤ c.toInt ∧ c.toInt ≤ 12271) ∨ (12289 ≤ c.toInt ∧ c.toInt ≤ 55295) ∨ (63744 ≤ c.toInt ∧ c.toInt ≤ 64975) ∨ (65008 ≤ c.toInt ∧ c.toInt ≤ 65533) ∨ (65536 ≤ c.toInt ∧ c.toInt ≤ 983039))) := by
  have hp := own_fIs_127 c
  unfold fIs_99
  generalize fIs_127 c = z at *
  rcases hp with hp | hp <;> (obtain ⟨hz, hq⟩ := hp) <;> subst hz <;> (repeat' split) <;> first | (left; refine ⟨by first | rfl | assumption, ?_⟩; simp only [Int32.lt_iff_toInt_lt, ← Int32.toInt_inj, Int32.reduceToInt] at *; omega) | (right; refine ⟨by first | rfl | assumption, ?_⟩; simp only [Int32.lt_iff_toInt_lt, ← Int32.toInt_inj, Int32.reduceToInt] at *; omega) | (exfalso; simp only [Int32.lt_iff_toInt_lt, ← Int32.toInt_inj, Int32.reduceToInt] at *; omega)
theorem own_is (c : Int32) : (fIs_0 c = 1 ∧ ((58 ≤ c.toInt ∧ c.toInt ≤ 58) ∨ (65 ≤ c.toInt ∧ c.toInt ≤ 90) ∨ (95 ≤ c.toInt ∧ c.toInt ≤ 95) ∨ (97 ≤ c.toInt ∧ c.toInt ≤ 122) ∨ (192 ≤ c.toInt ∧ c.toInt ≤ 214) ∨ (216 ≤ c.toInt ∧ c.toInt ≤ 246) ∨ (248 ≤ c.toInt ∧ c.toInt ≤ 767) ∨ (880 ≤ c.toInt ∧ c.toInt ≤ 893) ∨ (895 ≤ c.toInt ∧ c.toInt ≤ 8191) ∨ (8204 ≤ c.toInt ∧ c.toInt ≤ 8205) ∨ (8304 ≤ c.toInt ∧ c.toInt ≤ 8591) ∨ (11264 ≤ c.toInt ∧ c.toInt ≤ 12271) ∨ (12289 ≤ c.toInt ∧ c.toInt ≤ 55295) ∨ (63744 ≤ c.toInt ∧ c.toInt ≤ 64975) ∨ (65008 ≤ c.toInt ∧ c.toInt ≤ 65533) ∨ (65536 ≤ c.toInt ∧ c.toInt ≤ 983039))) ∨ (fIs_0 c = 0 ∧ ¬ ((58 ≤ c.toInt ∧ c.toInt ≤ 58) ∨ (65 ≤ c.toInt ∧ c.toInt ≤ 90) ∨ (95 ≤ c.toInt ∧ c.toInt ≤ 95) ∨ (97 ≤ c.toInt ∧ c.toInt ≤ 122) ∨ (192 ≤ c.toInt ∧ c.toInt ≤ 214) ∨ (216 ≤ c.toInt ∧ c.toInt ≤ 246) ∨ (248 ≤ c.toInt ∧ c.toInt ≤ 767) ∨ (880 ≤ c.toInt ∧ c.toInt ≤ 893) ∨ (895 ≤ c.toInt ∧ c.toInt ≤ 8191) ∨ (8204 ≤ c.toInt ∧ c.toInt ≤ 8205) ∨ (8304 ≤ c.toInt ∧ c.toInt ≤ 8591) ∨ (11264 ≤ c.toInt ∧ c.toInt ≤ 12271) ∨ (12289 ≤ c.toInt ∧ c.toInt ≤ 55295) ∨ (63744 ≤ c.toInt ∧ c.toInt ≤ 64975) ∨ (65008 ≤ c.toInt ∧ c.toInt ≤ 65533) ∨ (65536 ≤ c.toInt ∧ c.toInt ≤ 983039))) := by
  have h1 := own_fIs_19 c
  have h2 := own_fIs_99 c
  unfold fIs_0
  generalize fIs_19 c = z at *
  generalize fIs_99 c = y at *
  rcases h1 with ⟨h1, g1⟩ | ⟨h1, g1⟩ <;> rcases h2 with ⟨h2, g2⟩ | ⟨h2, g2⟩ <;> subst h1 <;> subst h2 <;> (repeat' split) <;> first | (left; refine ⟨rfl, ?_⟩; simp only [Int32.lt_iff_toInt_lt, ← Int32.toInt_inj, Int32.reduceToInt] at *; omega) | (right; refine ⟨rfl, ?_⟩; simp only [Int32.lt_iff_toInt_lt, ← Int32.toInt_inj, Int32.reduceToInt] at *; omega) | (exfalso; simp only [Int32.lt_iff_toInt_lt, ← Int32.toInt_inj, Int32.reduceToInt] at *; omega)
theorem own_in (c a b : Int32) : (fIn_0 c a b = 0) = ¬ (a.toInt ≤ c.toInt ∧ c.toInt ≤ b.toInt) := by
  apply propext
  unfold fIn_0
  simp only [Int32.lt_iff_toInt_lt]
  split
  · simp only [true_iff]; omega
  · split
    · simp only [true_iff]; omega
    · constructor
      · intro h; exact absurd h (by decide)
      · intro h; exfalso; omega
theorem own_ref (c : Int32) : (fRef_0 c = 1 ∧ ((58 ≤ c.toInt ∧ c.toInt ≤ 58) ∨ (65 ≤ c.toInt ∧ c.toInt ≤ 90) ∨ (95 ≤ c.toInt ∧ c.toInt ≤ 95) ∨ (97 ≤ c.toInt ∧ c.toInt ≤ 122) ∨ (192 ≤ c.toInt ∧ c.toInt ≤ 214) ∨ (216 ≤ c.toInt ∧ c.toInt ≤ 246) ∨ (248 ≤ c.toInt ∧ c.toInt ≤ 767) ∨ (880 ≤ c.toInt ∧ c.toInt ≤ 893) ∨ (895 ≤ c.toInt ∧ c.toInt ≤ 8191) ∨ (8204 ≤ c.toInt ∧ c.toInt ≤ 8205) ∨ (8304 ≤ c.toInt ∧ c.toInt ≤ 8591) ∨ (11264 ≤ c.toInt ∧ c.toInt ≤ 12271) ∨ (12289 ≤ c.toInt ∧ c.toInt ≤ 55295) ∨ (63744 ≤ c.toInt ∧ c.toInt ≤ 64975) ∨ (65008 ≤ c.toInt ∧ c.toInt ≤ 65533) ∨ (65536 ≤ c.toInt ∧ c.toInt ≤ 983039))) ∨ (fRef_0 c = 0 ∧ ¬ ((58 ≤ c.toInt ∧ c.toInt ≤ 58) ∨ (65 ≤ c.toInt ∧ c.toInt ≤ 90) ∨ (95 ≤ c.toInt ∧ c.toInt ≤ 95) ∨ (97 ≤ c.toInt ∧ c.toInt ≤ 122) ∨ (192 ≤ c.toInt ∧ c.toInt ≤ 214) ∨ (216 ≤ c.toInt ∧ c.toInt ≤ 246) ∨ (248 ≤ c.toInt ∧ c.toInt ≤ 767) ∨ (880 ≤ c.toInt ∧ c.toInt ≤ 893) ∨ (895 ≤ c.toInt ∧ c.toInt ≤ 8191) ∨ (8204 ≤ c.toInt ∧ c.toInt ≤ 8205) ∨ (8304 ≤ c.toInt ∧ c.toInt ≤ 8591) ∨ (11264 ≤ c.toInt ∧ c.toInt ≤ 12271) ∨ (12289 ≤ c.toInt ∧ c.toInt ≤ 55295) ∨ (63744 ≤ c.toInt ∧ c.toInt ≤ 64975) ∨ (65008 ≤ c.toInt ∧ c.toInt ≤ 65533) ∨ (65536 ≤ c.toInt ∧ c.toInt ≤ 983039))) := by
  unfold fRef_0
  by_cases g0 : c = 58
  · left; rw [if_pos g0]; refine ⟨rfl, ?_⟩; rw [g0]; simp only [Int32.reduceToInt]; omega
  rw [if_neg g0]
  rw [← Int32.toInt_inj] at g0; simp only [Int32.reduceToInt] at g0
  by_cases g1 : fIn_0 c 65 90 = 0
  rotate_left
  · left; rw [if_neg g1]; refine ⟨rfl, ?_⟩; rw [own_in] at g1; simp only [Int32.reduceToInt] at g1; omega
  rw [if_pos g1]
  rw [own_in] at g1; simp only [Int32.reduceToInt] at g1
  by_cases g2 : c = 95
  · left; rw [if_pos g2]; refine ⟨rfl, ?_⟩; rw [g2]; simp only [Int32.reduceToInt]; omega
  rw [if_neg g2]
  rw [← Int32.toInt_inj] at g2; simp only [Int32.reduceToInt] at g2
  by_cases g3 : fIn_0 c 97 122 = 0
  rotate_left
  · left; rw [if_neg g3]; refine ⟨rfl, ?_⟩; rw [own_in] at g3; simp only [Int32.reduceToInt] at g3; omega
  rw [if_pos g3]
  rw [own_in] at g3; simp only [Int32.reduceToInt] at g3
  by_cases g4 : fIn_0 c 192 214 = 0
  rotate_left
  · left; rw [if_neg g4]; refine ⟨rfl, ?_⟩; rw [own_in] at g4; simp only [Int32.reduceToInt] at g4; omega
  rw [if_pos g4]
  rw [own_in] at g4; simp only [Int32.reduceToInt] at g4
  by_cases g5 : fIn_0 c 216 246 = 0
  rotate_left
  · left; rw [if_neg g5]; refine ⟨rfl, ?_⟩; rw [own_in] at g5; simp only [Int32.reduceToInt] at g5; omega
  rw [if_pos g5]
  rw [own_in] at g5; simp only [Int32.reduceToInt] at g5
  by_cases g6 : fIn_0 c 248 767 = 0
  rotate_left
  · left; rw [if_neg g6]; refine ⟨rfl, ?_⟩; rw [own_in] at g6; simp only [Int32.reduceToInt] at g6; omega
  rw [if_pos g6]
  rw [own_in] at g6; simp only [Int32.reduceToInt] at g6
  by_cases g7 : fIn_0 c 880 893 = 0
  rotate_left
  · left; rw [if_neg g7]; refine ⟨rfl, ?_⟩; rw [own_in] at g7; simp only [Int32.reduceToInt] at g7; omega
  rw [if_pos g7]
  rw [own_in] at g7; simp only [Int32.reduceToInt] at g7
  by_cases g8 : fIn_0 c 895 8191 = 0
  rotate_left
  · left; rw [if_neg g8]; refine ⟨rfl, ?_⟩; rw [own_in] at g8; simp only [Int32.reduceToInt] at g8; omega
  rw [if_pos g8]
  rw [own_in] at g8; simp only [Int32.reduceToInt] at g8
  by_cases g9 : fIn_0 c 8204 8205 = 0
  rotate_left
  · left; rw [if_neg g9]; refine ⟨rfl, ?_⟩; rw [own_in] at g9; simp only [Int32.reduceToInt] at g9; omega
  rw [if_pos g9]
  rw [own_in] at g9; simp only [Int32.reduceToInt] at g9
  by_cases g10 : fIn_0 c 8304 8591 = 0
  rotate_left
  · left; rw [if_neg g10]; refine ⟨rfl, ?_⟩; rw [own_in] at g10; simp only [Int32.reduceToInt] at g10; omega
  rw [if_pos g10]
  rw [own_in] at g10; simp only [Int32.reduceToInt] at g10
  by_cases g11 : fIn_0 c 11264 12271 = 0
  rotate_left
  · left; rw [if_neg g11]; refine ⟨rfl, ?_⟩; rw [own_in] at g11; simp only [Int32.reduceToInt] at g11; omega
  rw [if_pos g11]
  rw [own_in] at g11; simp only [Int32.reduceToInt] at g11
  by_cases g12 : fIn_0 c 12289 55295 = 0
  rotate_left
  · left; rw [if_neg g12]; refine ⟨rfl, ?_⟩; rw [own_in] at g12; simp only [Int32.reduceToInt] at g12; omega
  rw [if_pos g12]
  rw [own_in] at g12; simp only [Int32.reduceToInt] at g12
  by_cases g13 : fIn_0 c 63744 64975 = 0
  rotate_left
  · left; rw [if_neg g13]; refine ⟨rfl, ?_⟩; rw [own_in] at g13; simp only [Int32.reduceToInt] at g13; omega
  rw [if_pos g13]
  rw [own_in] at g13; simp only [Int32.reduceToInt] at g13
  by_cases g14 : fIn_0 c 65008 65533 = 0
  rotate_left
  · left; rw [if_neg g14]; refine ⟨rfl, ?_⟩; rw [own_in] at g14; simp only [Int32.reduceToInt] at g14; omega
  rw [if_pos g14]
  rw [own_in] at g14; simp only [Int32.reduceToInt] at g14
  by_cases g15 : fIn_0 c 65536 983039 = 0
  rotate_left
  · left; rw [if_neg g15]; refine ⟨rfl, ?_⟩; rw [own_in] at g15; simp only [Int32.reduceToInt] at g15; omega
  rw [if_pos g15]
  rw [own_in] at g15; simp only [Int32.reduceToInt] at g15
  right; refine ⟨rfl, ?_⟩; omega
theorem own_same (c : Int32) : fIs_0 c = fRef_0 c := by
  rcases own_is c with ⟨h1, g1⟩ | ⟨h1, g1⟩ <;> rcases own_ref c with ⟨h2, g2⟩ | ⟨h2, g2⟩
  · rw [h1, h2]
  · exact absurd g1 g2
  · exact absurd g2 g1
  · rw [h1, h2]
theorem law_eq (p1 p2 p3 p4 : Int32) : f0_0 p1 p2 p3 p4 = 1 := by
  unfold f0_0 f0_302
  simp only [own_same, if_true, ite_self]
set_option maxRecDepth 65536 in
set_option maxHeartbeats 40000000 in
theorem comes_1 {Post : Tables → Env → Array Value → State → Outcome → State → Prop} (hpost : ∀ tb e args s v u, (limb_1_1.after args s (.returned v) u = true ∧ limb_1_2.after args s (.returned v) u = true ∧ True) → FrameEnd s (.returned v) u (Jvm.fieldLocs frame_1_writes args s ++ Jvm.arrayLocs frame_1_arrays args s ++ Jvm.staticLocs frame_1_statics s) 16 192 → Post tb e args s (.returned v) u) :
    ArmFor flags0 classFile x code maxLocals ret World_1 tables_1 room_1 Calls_1 rest_1 Pre_1 Post := by
  intro l hfl _ _ p e ha hc hk s m args below hf hA hF happ hP
  obtain ⟨hcalls, hrest, hpre⟩ := hP
  obtain ⟨-, -, -, hnamed, -, -, -, hat⟩ := (Spec.applies_iff hf).mp happ
  obtain ⟨hg, hn⟩ := and_e (Cond.before_iff.mp (show (Jvm.Cond.and given_1 narrow_1).before args s = true from hpre))
  obtain ⟨g1, g2⟩ := and_e hg
  obtain ⟨g3, g4⟩ := and_e g2
  obtain ⟨g5, g6⟩ := and_e g4
  obtain ⟨g7, g8⟩ := and_e g6
  obtain ⟨w0, w1, w2, w3, rfl⟩ : ∃ w0 w1 w2 w3 : Value, args = #[w0, w1, w2, w3] := by
    have hs : args.size = 4 := by simpa [Cond.value, given_1] using g1
    obtain ⟨L⟩ := args
    match L, hs with
    | [w0, w1, w2, w3], _ => exact ⟨w0, w1, w2, w3, rfl⟩
  have hw := fun d (hd : d ∈ tables_1) => atoms_spec (ws := Jvm.Cond.code x code maxLocals ret :: tables_1) hat d (List.mem_cons_of_mem _ hd)
  have hfit : Fit s := fun {y c} hc i hi => by
    obtain ⟨ha, rfl⟩ := Array.getElem?_eq_some_iff.mp hc
    have q := List.all_eq_true.mp ((Array.all_eq_true_iff_forall_mem.mp hF) _ (Array.getElem_mem ha)) i (List.mem_range.mpr hi)
    simpa [Array.getElem?_eq_getElem hi] using q
  obtain ⟨i0, ei0⟩ := is_v g3
  obtain rfl : w0 = (.int i0) := Option.some.inj ei0
  obtain ⟨i1, ei1⟩ := is_v g5
  obtain rfl : w1 = (.int i1) := Option.some.inj ei1
  obtain ⟨i2, ei2⟩ := is_v g7
  obtain rfl : w2 = (.int i2) := Option.some.inj ei2
  obtain ⟨i3, ei3⟩ := is_v g8
  obtain rfl : w3 = (.int i3) := Option.some.inj ei3
  obtain ⟨n, o, h1, h2, h3, _, L, rfl, ⟨hv, N⟩, hq⟩ := rm0 l s _ hw tables_1 i0 i1 i2 i3 s.heap s.heap.size (Nat.le_refl _) p e ha hc hk s m _ below hf ((Spec.applies_iff_loose hf).mp happ).1 ⟨rfl, State.Warmed39.refl s, rfl⟩ trivial
  rw [law_eq] at hv
  subst hv
  refine ⟨n, _, h1, h2, h3, hpost _ _ _ _ _ _ ⟨Cond.after_iff.mpr rfl, Cond.after_iff.mpr (eq_i res_at (Term.int_eval (1)) rfl), trivial⟩ ⟨hq.1, hq.2.1, (hq.2.2.sift fun y hy => Or.inr (N y hy)).mono (by decide) (by decide)⟩⟩
theorem main_1_1 : Claimed_1_1 := comes_1 fun _ _ _ _ _ _ h hF => ⟨h.1, hF⟩
theorem main_1_2 : Claimed_1_2 := comes_1 fun _ _ _ _ _ _ h hF => ⟨h.2.1, hF⟩
end Jvm.Pilot.@@N@@
namespace Jvm.Pilot.@@N@@
open Jvm Jvm.ClassFile Sem Op Lib Jvm.Free Jvm.Stand Jvm.Pilot.@@N@@.Jvm.D
/-! MADE BY PROGRAM (witnessworld.py) out of the Statement's table words and the real class files: 9 classes; the members and pool entries that the words name. The judged class is class 1, her method 3. -/
namespace start1
open Jvm.ClassFile
def u (s : String) : CpInfo := .utf8 (stringToUtf16 s)
/-- a pool by its gaps: so many unusable entries, then the entry; so many at the end -/
def gap : Nat → List CpInfo → List CpInfo
  | 0, r => r
  | n + 1, r => .unusable :: gap n r
def poolList (es : List (Nat × CpInfo)) (last : Nat) : List CpInfo := es.foldr (fun e r => gap e.1 (e.2 :: r)) (gap last [])
def pool (es : List (Nat × CpInfo)) (last : Nat) : Array CpInfo := ⟨poolList es last⟩
def fileOf (pool : Array CpInfo) (this : Nat) (attrs : Array Attribute := #[]) (ms : Array MethodInfo := #[]) (fl : Nat := 33) (sup : Nat := 0) (ifs : Array Nat := #[]) (fds : Array FieldInfo := #[]) : ClassFile where
  minorVersion := 0
  majorVersion := 65
  constantPool := pool
  accessFlags := fl
  thisClass := this
  superClass := sup
  interfaces := ifs
  fields := fds
  methods := ms
  attributes := attrs
def plain (name : String) (sup : Option ClassId) : Class where
  name := name
  kind := .ordinary
  loader := none
  accessFlags := 33
  super := sup
  interfaces := #[]
  cf := none
  fields := #[]
  methods := #[]
  instanceTypes := #[]
  staticTypes := #[]
  resolved := #[]
  callSites := []
  init := .initialized
  statics := none
  mirror := none

def pool0 : Array CpInfo := pool [(5, u "<init>"), (0, u "()V"), (1, .class_ 10), (1, u "java/lang/Object")] 113

def k0m0 : Method := { name := "<init>", desc := "()V", sig := { parameters := [], returnType := none }, accessFlags := 1, code := none }
/-- java/lang/Object -/
def k0 : Class := { plain "java/lang/Object" none with
  accessFlags := 33
  interfaces := #[]
  cf := some (fileOf pool0 8 #[] #[{ accessFlags := 1, nameIndex := 5, descriptorIndex := 6, attributes := #[] }] 33 0 #[] #[])
  fields := #[]
  methods := #[k0m0]
  instanceTypes := #[]
  staticTypes := #[]
  resolved := Array.replicate 124 none
  statics := none }

def pool1 : Array CpInfo := pool [(2, .class_ 4), (1, u "java/lang/Object"), (0, u "<init>"), (0, u "()V"), (0, .methodref 8 9), (0, .class_ 10), (0, .nameAndType 11 12), (0, u "com/example/wildcard/wildcard/XmlCharactersIsNameStartPinLaw"), (0, u "in"), (0, u "(III)Z"), (0, .integer 55295), (0, .integer 63744), (0, .integer 64975), (0, .integer 65008), (0, .integer 65533), (0, .integer 65536), (0, .integer 983039), (0, .integer 1114111), (2, .integer 2147483648), (0, .integer 2147483647), (0, .methodref 26 27), (0, .class_ 28), (0, .nameAndType 29 30), (0, u "com/example/wildcard/wildcard/XmlCharacters"), (0, u "isNameStart"), (0, u "(I)Z"), (0, .methodref 8 32), (0, .nameAndType 33 30), (0, u "spec"), (3, u "law"), (0, u "(IIII)Z")] 4

def k1m0 : Method := { name := "<init>", desc := "()V", sig := { parameters := [], returnType := none }, accessFlags := 2, code := none }
def k1c1 : Code := { maxStack := 2, maxLocals := 3, code := method_2_code, exceptionTable := #[], attributes := #[] }
def k1m1 : Method := { name := "in", desc := "(III)Z", sig := { parameters := [.int, .int, .int], returnType := some .boolean }, accessFlags := 10, code := some k1c1 }
def k1c2 : Code := { maxStack := 3, maxLocals := 1, code := method_3_code, exceptionTable := #[], attributes := #[] }
def k1m2 : Method := { name := "spec", desc := "(I)Z", sig := { parameters := [.int], returnType := some .boolean }, accessFlags := 10, code := some k1c2 }
def k1c3 : Code := { maxStack := 4, maxLocals := 8, code := code, exceptionTable := #[], attributes := #[] }
def k1m3 : Method := { name := "law", desc := "(IIII)Z", sig := { parameters := [.int, .int, .int, .int], returnType := some .boolean }, accessFlags := 9, code := some k1c3 }
/-- com/example/wildcard/wildcard/XmlCharactersIsNameStartPinLaw -/
def k1 : Class := { plain "com/example/wildcard/wildcard/XmlCharactersIsNameStartPinLaw" (some 0) with
  accessFlags := 49
  interfaces := #[]
  cf := some (fileOf pool1 8 #[] #[{ accessFlags := 2, nameIndex := 5, descriptorIndex := 6, attributes := #[] }, { accessFlags := 10, nameIndex := 11, descriptorIndex := 12, attributes := #[] }, { accessFlags := 10, nameIndex := 33, descriptorIndex := 30, attributes := #[] }, { accessFlags := 9, nameIndex := 37, descriptorIndex := 38, attributes := #[] }] 49 2 #[] #[])
  fields := #[]
  methods := #[k1m0, k1m1, k1m2, k1m3]
  instanceTypes := #[]
  staticTypes := #[]
  resolved := Array.replicate 43 none
  statics := none }

def pool2 : Array CpInfo := pool [(2, .class_ 4), (1, u "java/lang/Object"), (0, u "<init>"), (0, u "()V"), (3, .integer 65536), (14, .integer 55295), (0, .integer 63744), (0, .integer 64975), (0, .integer 65008), (0, .integer 65533), (0, .integer 983039), (1, .class_ 34), (1, u "com/example/wildcard/wildcard/XmlCharacters"), (0, u "isNameStart"), (0, u "(I)Z")] 10

def k2m0 : Method := { name := "<init>", desc := "()V", sig := { parameters := [], returnType := none }, accessFlags := 2, code := none }
def k2c1 : Code := { maxStack := 2, maxLocals := 1, code := prog_99_method_5_code, exceptionTable := #[], attributes := #[] }
def k2m1 : Method := { name := "isNameStart", desc := "(I)Z", sig := { parameters := [.int], returnType := some .boolean }, accessFlags := 8, code := some k2c1 }
/-- com/example/wildcard/wildcard/XmlCharacters -/
def k2 : Class := { plain "com/example/wildcard/wildcard/XmlCharacters" (some 0) with
  accessFlags := 48
  interfaces := #[]
  cf := some (fileOf pool2 32 #[] #[{ accessFlags := 2, nameIndex := 5, descriptorIndex := 6, attributes := #[] }, { accessFlags := 8, nameIndex := 35, descriptorIndex := 36, attributes := #[] }] 48 2 #[] #[])
  fields := #[]
  methods := #[k2m0, k2m1]
  instanceTypes := #[]
  staticTypes := #[]
  resolved := Array.replicate 47 none
  statics := none }

def pool3 : Array CpInfo := pool [(1, u "java/lang/Cloneable"), (0, .class_ 1), (0, u "java/lang/Object"), (0, .class_ 3)] 3

/-- java/lang/Cloneable -/
def k3 : Class := { plain "java/lang/Cloneable" (some 0) with
  accessFlags := 1537
  interfaces := #[]
  cf := some (fileOf pool3 2 #[] #[] 1537 4 #[] #[])
  fields := #[]
  methods := #[]
  instanceTypes := #[]
  staticTypes := #[]
  resolved := Array.replicate 8 none
  statics := none }

def pool4 : Array CpInfo := pool [(1, u "java/io/Serializable"), (0, .class_ 1), (0, u "java/lang/Object"), (0, .class_ 3)] 3

/-- java/io/Serializable -/
def k4 : Class := { plain "java/io/Serializable" (some 0) with
  accessFlags := 1537
  interfaces := #[]
  cf := some (fileOf pool4 2 #[] #[] 1537 4 #[] #[])
  fields := #[]
  methods := #[]
  instanceTypes := #[]
  staticTypes := #[]
  resolved := Array.replicate 8 none
  statics := none }

/-- the primitive byte -/
def k5 : Class := { plain "byte" none with kind := .primitive 'B', accessFlags := 0x411 }
/-- [B -/
def k6 : Class := { plain "[B" (some 0) with kind := .array 5 .byte, interfaces := #[3, 4], accessFlags := 1041 }

/-- the primitive int -/
def k7 : Class := { plain "int" none with kind := .primitive 'I', accessFlags := 0x411 }
/-- [I -/
def k8 : Class := { plain "[I" (some 0) with kind := .array 7 .int, interfaces := #[3, 4], accessFlags := 1041 }

def heap : Heap := #[]
def classes : Array Class := #[k0, k1, k2, k3, k4, k5, k6, k7, k8]
def interned : List (Array UInt16 × Addr) := []
def slotsUsed : Nat := 0
def theMethod : MethodId := ⟨1, 3⟩
def args0 : Array Value := #[.int 1, .int 5, .int 7, .int 70]
def aboutOver (below : List Frame) : State where
  vm := { classes := classes, interned := interned.toArray }
  heap := heap
  slotsUsed := slotsUsed
  threads := #[{ frames := .invoking theMethod args0 :: below }]
def below0 : List Frame := [.native { method := ⟨0, 0⟩, args := #[] }]
def about1 : State := aboutOver below0
def p0 : Program := .bare "" "" ""
def e0 : Env := launch0.env 0 0 0
theorem w_frames : about1.frames = Frame.invoking theMethod args0 :: below0 := rfl
set_option maxRecDepth 65536 in
theorem w_args : argsFit about1.vm theMethod args0 = true := by decide +kernel
set_option maxRecDepth 65536 in
theorem w_heap : heapFits about1 = true := by decide +kernel
set_option maxRecDepth 65536 in
theorem w_runnable : about1.curStatus? = some .runnable := by decide +kernel
set_option maxRecDepth 65536 in
theorem w_alone : about1.alone = true := by decide +kernel
set_option maxRecDepth 65536 in
theorem w_named : about1.methodNamed? x = some theMethod := by decide +kernel
set_option maxRecDepth 65536 in
theorem w_hears : about1.hears theMethod below0 = true := by decide +kernel
set_option maxRecDepth 65536 in
theorem w_ripe : about1.ripe theMethod args0 below0 = true := by decide +kernel
theorem w_running : about1.status = .running := rfl
set_option maxRecDepth 65536 in
theorem w_room : about1.hasRoom e0.platform room_1 = true :=
  launch0.hasRoom_least _ room_1 (by decide +kernel) (by decide +kernel) (by decide +kernel) (by decide +kernel) (by decide +kernel) (by decide +kernel)
theorem allAtoms_all (ts : List Jvm.Cond) (a : Array Jvm.Value) (st : Jvm.State) : (allAtoms ts).before a st = ts.all (fun c => c.before a st) := by
  induction ts with
  | nil => rfl
  | cons c t ih =>
    show (Jvm.Cond.and c (allAtoms t)).before a st = _
    rw [Jvm.Cond.before_and, ih, List.all_cons]
def words1 : List Jvm.Cond := Jvm.Cond.code x code maxLocals ret :: tables_1
/-- a 'code' word, met by the world's own term for the bytes: nothing is compared byte by byte -/
theorem code_word {y : MethodName} {bytes : ByteArray} {mx : Nat} {rt : Option FieldType} {a : Array Value} {s : State} {m : MethodId} {meth : Method} {c : Code} (h1 : s.methodNamed? y = some m) (h2 : s.vm.method? m = some meth) (h3 : meth.code = some c) (h4 : c.code = bytes)
    (h5 : (c.maxLocals == mx && c.exceptionTable.isEmpty && decide (c.maxStack ≤ mostOperands) && decide (meth.sig.returnType = rt) && !meth.locks && decide (parseMethodDescriptor y.desc = some meth.sig)) = true) : (Jvm.Cond.code y bytes mx rt).before a s = true := by
  simp only [Bool.and_eq_true, beq_iff_eq, Bool.not_eq_true', decide_eq_true_eq] at h5
  obtain ⟨⟨⟨⟨⟨g1, g2⟩, g3⟩, g4⟩, g5⟩, g6⟩ := h5
  simp [Cond.before, Cond.holds, Cond.value, h1, h2, h3, h4, g1, g2, g3, g4, g5, g6]
def isCode : Jvm.Cond → Bool
  | .code _ _ _ _ => true
  | _ => false
theorem all_split {L : List Jvm.Cond} {P : Jvm.Cond → Bool} (h1 : L.all (fun c => isCode c || P c) = true) (h2 : ∀ c ∈ L.filter isCode, P c = true) : L.all P = true := by
  refine List.all_eq_true.mpr fun c hc => ?_
  have h := List.all_eq_true.mp h1 c hc
  rcases Bool.eq_false_or_eq_true (isCode c) with hi | hi
  · exact h2 c (List.mem_filter.mpr ⟨hc, hi⟩)
  · simpa [hi] using h
set_option maxRecDepth 65536 in
theorem w_c0 : (Jvm.Cond.code x code maxLocals ret).before args0 about1 = true := code_word (m := ⟨1, 3⟩) (meth := k1m3) (c := k1c3) (by decide +kernel) rfl rfl rfl (by decide +kernel)
set_option maxRecDepth 65536 in
theorem w_c1 : (Jvm.Cond.code ({ cls := "com/example/wildcard/wildcard/XmlCharacters", name := "isNameStart", desc := "(I)Z" } : Jvm.MethodName) prog_99_method_5_code (1 : Nat) (Option.some Jvm.ClassFile.FieldType.boolean)).before args0 about1 = true := code_word (m := ⟨2, 1⟩) (meth := k2m1) (c := k2c1) (by decide +kernel) rfl rfl rfl (by decide +kernel)
set_option maxRecDepth 65536 in
theorem w_c2 : (Jvm.Cond.code ({ cls := "com/example/wildcard/wildcard/XmlCharactersIsNameStartPinLaw", name := "spec", desc := "(I)Z" } : Jvm.MethodName) method_3_code (1 : Nat) (Option.some Jvm.ClassFile.FieldType.boolean)).before args0 about1 = true := code_word (m := ⟨1, 2⟩) (meth := k1m2) (c := k1c2) (by decide +kernel) rfl rfl rfl (by decide +kernel)
set_option maxRecDepth 65536 in
theorem w_c3 : (Jvm.Cond.code ({ cls := "com/example/wildcard/wildcard/XmlCharactersIsNameStartPinLaw", name := "in", desc := "(III)Z" } : Jvm.MethodName) method_2_code (3 : Nat) (Option.some Jvm.ClassFile.FieldType.boolean)).before args0 about1 = true := code_word (m := ⟨1, 1⟩) (meth := k1m1) (c := k1c1) (by decide +kernel) rfl rfl rfl (by decide +kernel)
def codes1 : List Jvm.Cond := [Jvm.Cond.code x code maxLocals ret, Jvm.Cond.code ({ cls := "com/example/wildcard/wildcard/XmlCharacters", name := "isNameStart", desc := "(I)Z" } : Jvm.MethodName) prog_99_method_5_code (1 : Nat) (Option.some Jvm.ClassFile.FieldType.boolean), Jvm.Cond.code ({ cls := "com/example/wildcard/wildcard/XmlCharactersIsNameStartPinLaw", name := "spec", desc := "(I)Z" } : Jvm.MethodName) method_3_code (1 : Nat) (Option.some Jvm.ClassFile.FieldType.boolean), Jvm.Cond.code ({ cls := "com/example/wildcard/wildcard/XmlCharactersIsNameStartPinLaw", name := "in", desc := "(III)Z" } : Jvm.MethodName) method_2_code (3 : Nat) (Option.some Jvm.ClassFile.FieldType.boolean)]
set_option maxRecDepth 65536 in
theorem codes_eq : words1.filter isCode = codes1 := rfl
theorem w_codes : ∀ c ∈ words1.filter isCode, c.before args0 about1 = true := by
  rw [codes_eq]
  intro c hc
  simp only [codes1, List.mem_cons, List.not_mem_nil, or_false] at hc
  rcases hc with rfl | rfl | rfl | rfl
  · exact w_c0
  · exact w_c1
  · exact w_c2
  · exact w_c3
set_option maxRecDepth 65536 in
theorem w_t1 : (words1.take 24).all (fun c => isCode c || c.before args0 about1) = true := by decide +kernel
set_option maxRecDepth 65536 in
theorem w_t2 : (words1.drop 24).all (fun c => isCode c || c.before args0 about1) = true := by decide +kernel
theorem w_tables : (allAtoms (Jvm.Cond.code x code maxLocals ret :: tables_1)).before args0 about1 = true := by
  rw [allAtoms_all]
  show words1.all (fun c => c.before args0 about1) = true
  refine all_split ?_ w_codes
  rw [← List.take_append_drop 24 words1, List.all_append, w_t1, w_t2]
  rfl
set_option maxRecDepth 65536 in
theorem w_case : (Jvm.Cond.and given_1 narrow_1).before args0 about1 = true := by decide +kernel
theorem w_applies : (headSpec (Jvm.Cond.code x code maxLocals ret :: tables_1) room_1).applies x e0.platform about1 = true :=
  (Spec.applies_iff w_frames).mpr ⟨w_running, w_runnable, w_alone, w_named, w_hears, w_ripe, w_room, w_tables⟩
theorem atStart : AtStart classFile x code maxLocals ret World_1 tables_1 room_1 Calls_1 rest_1 Pre_1 launch0 p0 e0 about1 theMethod args0 below0 :=
  ⟨lists_1, trivial, launch0.admits_env _ _ _, launch0.least_env, fairChoices_fair.cas, fairChoices_fair.clock, w_frames, w_args, w_heap, w_applies, trivial, trivial, w_case⟩
end start1
theorem witness_1 : WitnessClaimed_1 := ⟨start1.p0, start1.e0, start1.about1, start1.theMethod, start1.args0, start1.below0, start1.atStart⟩
end Jvm.Pilot.@@N@@
