import JvmDerived
import JvmDerived.Pilot.@@N@@Statement
import JvmDerived.Pilot.@@N@@Code
set_option linter.unusedVariables false
set_option linter.unusedSimpArgs false
namespace Jvm.Pilot.@@N@@
open Jvm Jvm.ClassFile Sem Op Lib Jvm.Free Jvm.Stand Jvm.LawKit Jvm.RoadKit Bundle Jvm.Pilot.@@N@@.Jvm.D

/-! own layer: a run that ends well, step by step (every lemma here is of this text) -/
section Own
variable {p : Program} {l : Launch} {e : Env} {R : Room} {s : State} {m : MethodId} {args : Array Value} {below : List Frame} {meth : Method} {c : Code} {T : State} {locs : List Loc} {cells slots : Nat} {P : State → Outcome → Prop} {pc pc' pc1 : Nat} {L L' : Array Slot} {S : List Value} {Z : State} {a0 : Array Value} {h : Heap}
/-- from this frame the run ends, and P holds of the end -/
def Ends (p : Program) (e : Env) (below : List Frame) (P : State → Outcome → Prop) (T : State) (m : MethodId) (pc : Nat) (L : Array Slot) (S : List Value) : Prop :=
  ∃ t o, Steps p.tables e below (T.setTop (mkF m pc L S)) t ∧ t.status = .running ∧ Ended t below o ∧ P t o
theorem Ends.of {T' : State} {S' : List Value} (k : Ends p e below P T' m pc' L' S') (h : ∀ target, Steps p.tables e below (T'.setTop (mkF m pc' L' S')) target → Steps p.tables e below (T.setTop (mkF m pc L S)) target) : Ends p e below P T m pc L S := by
  obtain ⟨t, o, h1, h2⟩ := k; exact ⟨t, o, h _ h1, h2⟩
theorem eILoadN (X : Stand p l e R s m args below meth c T locs cells slots) (hx : p.tables.exec = Jvm.exec) {k : Fin 4} {v : Int32} (hd : decode c.code pc = .ok (.iload_n k, 1)) (hl : L[k.val]? = some (.val (.int v))) (hp : pc + 1 = pc') (kk : Ends p e below P T m pc' L (.int v :: S)) : Ends p e below P T m pc L S := by
  subst hp; exact kk.of fun t h => XS.iloadN X.here hx rfl hd hl h
theorem eILoad (X : Stand p l e R s m args below meth c T locs cells slots) (hx : p.tables.exec = Jvm.exec) {k : Nat} {v : Int32} (hd : decode c.code pc = .ok (.iload k, 2)) (hl : L[k]? = some (.val (.int v))) (hp : pc + 2 = pc') (kk : Ends p e below P T m pc' L (.int v :: S)) : Ends p e below P T m pc L S := by
  subst hp; exact kk.of fun t h => XS.iload X.here hx rfl hd hl h
theorem eLLoadN (X : Stand p l e R s m args below meth c T locs cells slots) (hx : p.tables.exec = Jvm.exec) {k : Fin 4} {v : Int64} (hd : decode c.code pc = .ok (.lload_n k, 1)) (hl : L[k.val]? = some (.val (.long v))) (hp : pc + 1 = pc') (kk : Ends p e below P T m pc' L (.long v :: S)) : Ends p e below P T m pc L S := by
  subst hp; exact kk.of fun t h => XT.lloadN X.here hx rfl hd hl h
theorem eLLoad (X : Stand p l e R s m args below meth c T locs cells slots) (hx : p.tables.exec = Jvm.exec) {k : Nat} {v : Int64} (hd : decode c.code pc = .ok (.lload k, 2)) (hl : L[k]? = some (.val (.long v))) (hp : pc + 2 = pc') (kk : Ends p e below P T m pc' L (.long v :: S)) : Ends p e below P T m pc L S := by
  subst hp; exact kk.of fun t h => XT.lload X.here hx rfl hd hl h
theorem eALoadN (X : Stand p l e R s m args below meth c T locs cells slots) (hx : p.tables.exec = Jvm.exec) {k : Fin 4} {v : Value} (hd : decode c.code pc = .ok (.aload_n k, 1)) (hl : L[k.val]? = some (.val v)) (hv : v.isRef = true) (hp : pc + 1 = pc') (kk : Ends p e below P T m pc' L (v :: S)) : Ends p e below P T m pc L S := by
  subst hp; exact kk.of fun t h => XS.aloadN X.here hx rfl hd hl hv h
theorem eALoad (X : Stand p l e R s m args below meth c T locs cells slots) (hx : p.tables.exec = Jvm.exec) {k : Nat} {v : Value} (hd : decode c.code pc = .ok (.aload k, 2)) (hl : L[k]? = some (.val v)) (hv : v.isRef = true) (hp : pc + 2 = pc') (kk : Ends p e below P T m pc' L (v :: S)) : Ends p e below P T m pc L S := by
  subst hp; exact kk.of fun t h => XS.aload X.here hx rfl hd hl hv h
theorem eIStoreN (X : Stand p l e R s m args below meth c T locs cells slots) (hx : p.tables.exec = Jvm.exec) {k : Fin 4} {v : Int32} (hd : decode c.code pc = .ok (.istore_n k, 1)) (hl : storeLocals L k.val (.int v) = some L') (hp : pc + 1 = pc') (kk : Ends p e below P T m pc' L' S) : Ends p e below P T m pc L (.int v :: S) := by
  subst hp; exact kk.of fun t h => XS.istoreN X.here hx rfl hd rfl hl h
theorem eIStore (X : Stand p l e R s m args below meth c T locs cells slots) (hx : p.tables.exec = Jvm.exec) {k : Nat} {v : Int32} (hd : decode c.code pc = .ok (.istore k, 2)) (hl : storeLocals L k (.int v) = some L') (hp : pc + 2 = pc') (kk : Ends p e below P T m pc' L' S) : Ends p e below P T m pc L (.int v :: S) := by
  subst hp; exact kk.of fun t h => XS.istore X.here hx rfl hd rfl hl h
theorem eLStoreN (X : Stand p l e R s m args below meth c T locs cells slots) (hx : p.tables.exec = Jvm.exec) {k : Fin 4} {v : Int64} (hd : decode c.code pc = .ok (.lstore_n k, 1)) (hl : storeLocals L k.val (.long v) = some L') (hp : pc + 1 = pc') (kk : Ends p e below P T m pc' L' S) : Ends p e below P T m pc L (.long v :: S) := by
  subst hp; exact kk.of fun t h => XT.lstoreN X.here hx rfl hd rfl hl h
theorem eLStore (X : Stand p l e R s m args below meth c T locs cells slots) (hx : p.tables.exec = Jvm.exec) {k : Nat} {v : Int64} (hd : decode c.code pc = .ok (.lstore k, 2)) (hl : storeLocals L k (.long v) = some L') (hp : pc + 2 = pc') (kk : Ends p e below P T m pc' L' S) : Ends p e below P T m pc L (.long v :: S) := by
  subst hp; exact kk.of fun t h => XT.lstore X.here hx rfl hd rfl hl h
theorem eAStoreN (X : Stand p l e R s m args below meth c T locs cells slots) (hx : p.tables.exec = Jvm.exec) {k : Fin 4} {v : Value} (hd : decode c.code pc = .ok (.astore_n k, 1)) (hv : v.isRef = true) (hl : storeLocals L k.val v = some L') (hp : pc + 1 = pc') (kk : Ends p e below P T m pc' L' S) : Ends p e below P T m pc L (v :: S) := by
  subst hp; exact kk.of fun t h => XS.astoreN X.here hx rfl hd rfl hv hl h
theorem eAStore (X : Stand p l e R s m args below meth c T locs cells slots) (hx : p.tables.exec = Jvm.exec) {k : Nat} {v : Value} (hd : decode c.code pc = .ok (.astore k, 2)) (hv : v.isRef = true) (hl : storeLocals L k v = some L') (hp : pc + 2 = pc') (kk : Ends p e below P T m pc' L' S) : Ends p e below P T m pc L (v :: S) := by
  subst hp; exact kk.of fun t h => XS.astore X.here hx rfl hd rfl hv hl h
theorem eIConst (X : Stand p l e R s m args below meth c T locs cells slots) (hx : p.tables.exec = Jvm.exec) {i : Int} (v : Int32) (hd : decode c.code pc = .ok (.iconst i, 1)) (hv : Int32.ofInt i = v) (hp : pc + 1 = pc') (kk : Ends p e below P T m pc' L (.int v :: S)) : Ends p e below P T m pc L S := by
  subst hp hv; exact kk.of fun t h => XS.iconst X.here hx rfl hd h
theorem eBipush (X : Stand p l e R s m args below meth c T locs cells slots) (hx : p.tables.exec = Jvm.exec) {i : Int} (v : Int32) (hd : decode c.code pc = .ok (.bipush i, 2)) (hv : (Int8.ofInt i).toInt32 = v) (hp : pc + 2 = pc') (kk : Ends p e below P T m pc' L (.int v :: S)) : Ends p e below P T m pc L S := by
  subst hp hv; exact kk.of fun t h => XS.bipush X.here hx rfl hd h
theorem eSipush (X : Stand p l e R s m args below meth c T locs cells slots) (hx : p.tables.exec = Jvm.exec) {i : Int} (v : Int32) (hd : decode c.code pc = .ok (.sipush i, 3)) (hv : (Int16.ofInt i).toInt32 = v) (hp : pc + 3 = pc') (kk : Ends p e below P T m pc' L (.int v :: S)) : Ends p e below P T m pc L S := by
  subst hp hv; exact kk.of fun t h => XS.sipush X.here hx rfl hd h
theorem eLConst (X : Stand p l e R s m args below meth c T locs cells slots) (hx : p.tables.exec = Jvm.exec) {k : Fin 2} (v : Int64) (hd : decode c.code pc = .ok (.lconst k, 1)) (hv : Int64.ofNat k = v) (hp : pc + 1 = pc') (kk : Ends p e below P T m pc' L (.long v :: S)) : Ends p e below P T m pc L S := by
  subst hp; exact kk.of fun t h => XT.lconstV X.here hx rfl v hd hv h
theorem eNull (X : Stand p l e R s m args below meth c T locs cells slots) (hx : p.tables.exec = Jvm.exec) (hd : decode c.code pc = .ok (.aconst_null, 1)) (hp : pc + 1 = pc') (kk : Ends p e below P T m pc' L (.null :: S)) : Ends p e below P T m pc L S := by
  subst hp; exact kk.of fun t h => XS.aconstNull X.here hx rfl hd h
theorem eLdcI (X : Stand p l e R s m args below meth c T locs cells slots) (hx : p.tables.exec = Jvm.exec) (hZ : Z.Warmed39 s.vm) {own : String} {index : Nat} {v : Int32} (hown : s.vm.findClass own = some m.cls) (w : (Cond.constant own index v).before a0 Z = true) (hd : decode c.code pc = .ok (.ldc index, 2)) (hp : pc + 2 = pc') (kk : Ends p e below P T m pc' L (.int v :: S)) : Ends p e below P T m pc L S := by
  subst hp; exact kk.of fun t h => X.ldcI hx hown (mvT hZ w) rfl hd h
theorem eLdcWI (X : Stand p l e R s m args below meth c T locs cells slots) (hx : p.tables.exec = Jvm.exec) (hZ : Z.Warmed39 s.vm) {own : String} {index : Nat} {v : Int32} (hown : s.vm.findClass own = some m.cls) (w : (Cond.constant own index v).before a0 Z = true) (hd : decode c.code pc = .ok (.ldc_w index, 3)) (hp : pc + 3 = pc') (kk : Ends p e below P T m pc' L (.int v :: S)) : Ends p e below P T m pc L S := by
  subst hp; exact kk.of fun t h => X.ldcWI hx hown (mvT hZ w) rfl hd h
theorem eLdc2J (X : Stand p l e R s m args below meth c T locs cells slots) (hx : p.tables.exec = Jvm.exec) (hZ : Z.Warmed39 s.vm) {own : String} {index : Nat} {v : Int64} (hown : s.vm.findClass own = some m.cls) (w : (Cond.constantLong own index v).before a0 Z = true) (hd : decode c.code pc = .ok (.ldc2_w index, 3)) (hp : pc + 3 = pc') (kk : Ends p e below P T m pc' L (.long v :: S)) : Ends p e below P T m pc L S := by
  subst hp; exact kk.of fun t h => X.ldc2J hx hown (mvT hZ w) rfl hd h
theorem eIAdd (X : Stand p l e R s m args below meth c T locs cells slots) (hx : p.tables.exec = Jvm.exec) {x y : Int32} (hd : decode c.code pc = .ok (.iadd, 1)) (hp : pc + 1 = pc') (kk : Ends p e below P T m pc' L (.int (x + y) :: S)) : Ends p e below P T m pc L (.int y :: .int x :: S) := by
  subst hp; exact kk.of fun t h => XS.iadd X.here hx rfl hd rfl h
theorem eISub (X : Stand p l e R s m args below meth c T locs cells slots) (hx : p.tables.exec = Jvm.exec) {x y : Int32} (hd : decode c.code pc = .ok (.isub, 1)) (hp : pc + 1 = pc') (kk : Ends p e below P T m pc' L (.int (x - y) :: S)) : Ends p e below P T m pc L (.int y :: .int x :: S) := by
  subst hp; exact kk.of fun t h => XS.isub X.here hx rfl hd rfl h
theorem eIMul (X : Stand p l e R s m args below meth c T locs cells slots) (hx : p.tables.exec = Jvm.exec) {x y : Int32} (hd : decode c.code pc = .ok (.imul, 1)) (hp : pc + 1 = pc') (kk : Ends p e below P T m pc' L (.int (x * y) :: S)) : Ends p e below P T m pc L (.int y :: .int x :: S) := by
  subst hp; exact kk.of fun t h => XS.imul X.here hx rfl hd rfl h
theorem eIAnd (X : Stand p l e R s m args below meth c T locs cells slots) (hx : p.tables.exec = Jvm.exec) {x y : Int32} (hd : decode c.code pc = .ok (.iand, 1)) (hp : pc + 1 = pc') (kk : Ends p e below P T m pc' L (.int (x &&& y) :: S)) : Ends p e below P T m pc L (.int y :: .int x :: S) := by
  subst hp; exact kk.of fun t h => XS.iand X.here hx rfl hd rfl h
theorem eIDiv (X : Stand p l e R s m args below meth c T locs cells slots) (hx : p.tables.exec = Jvm.exec) {x y : Int32} (hd : decode c.code pc = .ok (.idiv, 1)) (hy : y ≠ 0) (hp : pc + 1 = pc') (kk : Ends p e below P T m pc' L (.int (x / y) :: S)) : Ends p e below P T m pc L (.int y :: .int x :: S) := by
  subst hp; exact kk.of fun t h => XS.idiv X.here hx rfl hd rfl hy h
theorem eIRem (X : Stand p l e R s m args below meth c T locs cells slots) (hx : p.tables.exec = Jvm.exec) {x y : Int32} (hd : decode c.code pc = .ok (.irem, 1)) (hy : y ≠ 0) (hp : pc + 1 = pc') (kk : Ends p e below P T m pc' L (.int (x % y) :: S)) : Ends p e below P T m pc L (.int y :: .int x :: S) := by
  subst hp; exact kk.of fun t h => iremM X hx rfl hd rfl hy h
theorem eIShr (X : Stand p l e R s m args below meth c T locs cells slots) (hx : p.tables.exec = Jvm.exec) {x y : Int32} (hd : decode c.code pc = .ok (.ishr, 1)) (hp : pc + 1 = pc') (kk : Ends p e below P T m pc' L (.int (x >>> (y &&& 31)) :: S)) : Ends p e below P T m pc L (.int y :: .int x :: S) := by
  subst hp; exact kk.of fun t h => XS.ishr X.here hx rfl hd rfl h
theorem eIUshr (X : Stand p l e R s m args below meth c T locs cells slots) (hx : p.tables.exec = Jvm.exec) {x y : Int32} (hd : decode c.code pc = .ok (.iushr, 1)) (hp : pc + 1 = pc') (kk : Ends p e below P T m pc' L (.int ((x.toUInt32 >>> (y &&& 31).toUInt32).toInt32) :: S)) : Ends p e below P T m pc L (.int y :: .int x :: S) := by
  subst hp; exact kk.of fun t h => XS.iushr X.here hx rfl hd rfl h
theorem eI2C (X : Stand p l e R s m args below meth c T locs cells slots) (hx : p.tables.exec = Jvm.exec) {x : Int32} (hd : decode c.code pc = .ok (.i2c, 1)) (hp : pc + 1 = pc') (kk : Ends p e below P T m pc' L (.int (x.toUInt32.toUInt16.toUInt32.toInt32) :: S)) : Ends p e below P T m pc L (.int x :: S) := by
  subst hp; exact kk.of fun t h => XS.i2c X.here hx rfl hd rfl h
theorem eI2B (X : Stand p l e R s m args below meth c T locs cells slots) (hx : p.tables.exec = Jvm.exec) {x : Int32} (hd : decode c.code pc = .ok (.i2b, 1)) (hp : pc + 1 = pc') (kk : Ends p e below P T m pc' L (.int (x.toInt8.toInt32) :: S)) : Ends p e below P T m pc L (.int x :: S) := by
  subst hp; exact kk.of fun t h => XS.i2b X.here hx rfl hd rfl h
theorem eI2L (X : Stand p l e R s m args below meth c T locs cells slots) (hx : p.tables.exec = Jvm.exec) {x : Int32} (hd : decode c.code pc = .ok (.i2l, 1)) (hp : pc + 1 = pc') (kk : Ends p e below P T m pc' L (.long (x.toInt64) :: S)) : Ends p e below P T m pc L (.int x :: S) := by
  subst hp; exact kk.of fun t h => XS.i2l X.here hx rfl hd rfl h
theorem eLAdd (X : Stand p l e R s m args below meth c T locs cells slots) (hx : p.tables.exec = Jvm.exec) {x y : Int64} (hd : decode c.code pc = .ok (.ladd, 1)) (hp : pc + 1 = pc') (kk : Ends p e below P T m pc' L (.long (x + y) :: S)) : Ends p e below P T m pc L (.long y :: .long x :: S) := by
  subst hp; exact kk.of fun t h => XS.ladd X.here hx rfl hd rfl h
theorem eLSub (X : Stand p l e R s m args below meth c T locs cells slots) (hx : p.tables.exec = Jvm.exec) {x y : Int64} (hd : decode c.code pc = .ok (.lsub, 1)) (hp : pc + 1 = pc') (kk : Ends p e below P T m pc' L (.long (x - y) :: S)) : Ends p e below P T m pc L (.long y :: .long x :: S) := by
  subst hp; exact kk.of fun t h => XS.lsub X.here hx rfl hd rfl h
theorem eLAnd (X : Stand p l e R s m args below meth c T locs cells slots) (hx : p.tables.exec = Jvm.exec) {x y : Int64} (hd : decode c.code pc = .ok (.land, 1)) (hp : pc + 1 = pc') (kk : Ends p e below P T m pc' L (.long (x &&& y) :: S)) : Ends p e below P T m pc L (.long y :: .long x :: S) := by
  subst hp; exact kk.of fun t h => XS.land X.here hx rfl hd rfl h
theorem eLOr (X : Stand p l e R s m args below meth c T locs cells slots) (hx : p.tables.exec = Jvm.exec) {x y : Int64} (hd : decode c.code pc = .ok (.lor, 1)) (hp : pc + 1 = pc') (kk : Ends p e below P T m pc' L (.long (x ||| y) :: S)) : Ends p e below P T m pc L (.long y :: .long x :: S) := by
  subst hp; exact kk.of fun t h => XS.lor X.here hx rfl hd rfl h
theorem eLShl (X : Stand p l e R s m args below meth c T locs cells slots) (hx : p.tables.exec = Jvm.exec) {x : Int64} {y : Int32} (hd : decode c.code pc = .ok (.lshl, 1)) (hp : pc + 1 = pc') (kk : Ends p e below P T m pc' L (.long (x <<< (y &&& 0x3f).toInt64) :: S)) : Ends p e below P T m pc L (.int y :: .long x :: S) := by
  subst hp; exact kk.of fun t h => XS.lshl X.here hx rfl hd rfl h
theorem eLShr (X : Stand p l e R s m args below meth c T locs cells slots) (hx : p.tables.exec = Jvm.exec) {x : Int64} {y : Int32} (hd : decode c.code pc = .ok (.lshr, 1)) (hp : pc + 1 = pc') (kk : Ends p e below P T m pc' L (.long (x >>> (y &&& 0x3f).toInt64) :: S)) : Ends p e below P T m pc L (.int y :: .long x :: S) := by
  subst hp; exact kk.of fun t h => XS.lshr X.here hx rfl hd rfl h
theorem eLDiv (X : Stand p l e R s m args below meth c T locs cells slots) (hx : p.tables.exec = Jvm.exec) {x y : Int64} (hd : decode c.code pc = .ok (.ldiv, 1)) (hy : y ≠ 0) (hp : pc + 1 = pc') (kk : Ends p e below P T m pc' L (.long (x / y) :: S)) : Ends p e below P T m pc L (.long y :: .long x :: S) := by
  subst hp; exact kk.of fun t h => XT.ldiv X.here hx rfl hd rfl hy h
theorem eLRem (X : Stand p l e R s m args below meth c T locs cells slots) (hx : p.tables.exec = Jvm.exec) {x y : Int64} (hd : decode c.code pc = .ok (.lrem, 1)) (hy : y ≠ 0) (hp : pc + 1 = pc') (kk : Ends p e below P T m pc' L (.long (x % y) :: S)) : Ends p e below P T m pc L (.long y :: .long x :: S) := by
  subst hp; exact kk.of fun t h => XT.lrem X.here hx rfl hd rfl hy (by first | exact h | (rw [lrem_mod]; exact h))
theorem eLNeg (X : Stand p l e R s m args below meth c T locs cells slots) (hx : p.tables.exec = Jvm.exec) {x : Int64} (hd : decode c.code pc = .ok (.lneg, 1)) (hp : pc + 1 = pc') (kk : Ends p e below P T m pc' L (.long (-x) :: S)) : Ends p e below P T m pc L (.long x :: S) := by
  subst hp; exact kk.of fun t h => XT.lneg X.here hx rfl hd rfl h
theorem eLCmp (X : Stand p l e R s m args below meth c T locs cells slots) (hx : p.tables.exec = Jvm.exec) {x y : Int64} (hd : decode c.code pc = .ok (.lcmp, 1)) (hp : pc + 1 = pc') (kk : Ends p e below P T m pc' L (.int (XT.cmpL x y) :: S)) : Ends p e below P T m pc L (.long y :: .long x :: S) := by
  subst hp; exact kk.of fun t h => XT.lcmp X.here hx rfl hd rfl h
theorem eDup (X : Stand p l e R s m args below meth c T locs cells slots) (hx : p.tables.exec = Jvm.exec) {v : Value} (hd : decode c.code pc = .ok (.dup, 1)) (hc : v.category = 1) (hp : pc + 1 = pc') (kk : Ends p e below P T m pc' L (v :: v :: S)) : Ends p e below P T m pc L (v :: S) := by
  subst hp; exact kk.of fun t h => XS.dup X.here hx rfl hd rfl hc h
theorem ePop (X : Stand p l e R s m args below meth c T locs cells slots) (hx : p.tables.exec = Jvm.exec) {v : Value} (hd : decode c.code pc = .ok (.pop, 1)) (hc : v.category = 1) (hp : pc + 1 = pc') (kk : Ends p e below P T m pc' L S) : Ends p e below P T m pc L (v :: S) := by
  subst hp; exact kk.of fun t h => XT.pop X.here hx rfl hd rfl hc h
theorem eDupX1 (X : Stand p l e R s m args below meth c T locs cells slots) (hx : p.tables.exec = Jvm.exec) {v w : Value} (hd : decode c.code pc = .ok (.dup_x1, 1)) (hc : v.category = 1) (hc' : w.category = 1) (hp : pc + 1 = pc') (kk : Ends p e below P T m pc' L (v :: w :: v :: S)) : Ends p e below P T m pc L (v :: w :: S) := by
  subst hp; exact kk.of fun t h => XT.dupX1 X.here hx rfl hd rfl hc hc' h
theorem eDup2 (X : Stand p l e R s m args below meth c T locs cells slots) (hx : p.tables.exec = Jvm.exec) {v w : Value} (hd : decode c.code pc = .ok (.dup2, 1)) (hc : v.category = 1) (hc' : w.category = 1) (hp : pc + 1 = pc') (kk : Ends p e below P T m pc' L (v :: w :: v :: w :: S)) : Ends p e below P T m pc L (v :: w :: S) := by
  subst hp; exact kk.of fun t h => XT.dup2 X.here hx rfl hd rfl hc hc' h
theorem eDupX2 (X : Stand p l e R s m args below meth c T locs cells slots) (hx : p.tables.exec = Jvm.exec) {v w u : Value} (hd : decode c.code pc = .ok (.dup_x2, 1)) (hc : v.category = 1) (hc' : w.category = 1) (hc2 : u.category = 1) (hp : pc + 1 = pc') (kk : Ends p e below P T m pc' L (v :: w :: u :: v :: S)) : Ends p e below P T m pc L (v :: w :: u :: S) := by
  subst hp
  refine kk.of fun t h => ?_
  jvm_step X.here [X.here.top, hx, hd, hc, hc', hc2]
  exact h
theorem eIInc (X : Stand p l e R s m args below meth c T locs cells slots) (hx : p.tables.exec = Jvm.exec) {k : Nat} {cst : Int} {x : Int32} (v : Int32) (hd : decode c.code pc = .ok (.iinc k cst, 3)) (hv : Int32.ofInt cst = v) (hl : L[k]? = some (.val (.int x))) (hl' : storeLocals L k (.int (x + v)) = some L') (hp : pc + 3 = pc') (kk : Ends p e below P T m pc' L' S) : Ends p e below P T m pc L S := by
  subst hp hv; exact kk.of fun t h => XS.iinc X.here hx rfl hd hl hl' h
theorem eGoto (X : Stand p l e R s m args below meth c T locs cells slots) (hx : p.tables.exec = Jvm.exec) {o : Int} (hd : decode c.code pc = .ok (.goto o, 3)) (ho : 0 ≤ (pc : Int) + o) (hp : ((pc : Int) + o).toNat = pc') (kk : Ends p e below P T m pc' L S) : Ends p e below P T m pc L S :=
  kk.of fun t h => XS.goto X.here hx rfl rfl hd ho hp h
theorem eIfY (X : Stand p l e R s m args below meth c T locs cells slots) (hx : p.tables.exec = Jvm.exec) {cd : ClassFile.Cond} {x : Int32} {o : Int} (hd : decode c.code pc = .ok (.ifCond cd o, 3)) (hc : ifCond.holds cd x = true) (ho : 0 ≤ (pc : Int) + o) (hp : ((pc : Int) + o).toNat = pc') (kk : Ends p e below P T m pc' L S) : Ends p e below P T m pc L (.int x :: S) :=
  kk.of fun t h => XS.ifYes X.here hx rfl rfl hd rfl hc ho hp h
theorem eIfN (X : Stand p l e R s m args below meth c T locs cells slots) (hx : p.tables.exec = Jvm.exec) {cd : ClassFile.Cond} {x : Int32} {o : Int} (hd : decode c.code pc = .ok (.ifCond cd o, 3)) (hc : ifCond.holds cd x = false) (hp : pc + 3 = pc') (kk : Ends p e below P T m pc' L S) : Ends p e below P T m pc L (.int x :: S) := by
  subst hp; exact kk.of fun t h => XS.ifNo X.here hx rfl hd rfl hc h
theorem eIcmpY (X : Stand p l e R s m args below meth c T locs cells slots) (hx : p.tables.exec = Jvm.exec) {cd : ClassFile.Cond} {x y : Int32} {o : Int} (hd : decode c.code pc = .ok (.if_icmp cd o, 3)) (hc : if_icmp.holds cd x y = true) (ho : 0 ≤ (pc : Int) + o) (hp : ((pc : Int) + o).toNat = pc') (kk : Ends p e below P T m pc' L S) : Ends p e below P T m pc L (.int y :: .int x :: S) :=
  kk.of fun t h => XS.icmpYes X.here hx rfl rfl hd rfl hc ho hp h
theorem eIcmpN (X : Stand p l e R s m args below meth c T locs cells slots) (hx : p.tables.exec = Jvm.exec) {cd : ClassFile.Cond} {x y : Int32} {o : Int} (hd : decode c.code pc = .ok (.if_icmp cd o, 3)) (hc : if_icmp.holds cd x y = false) (hp : pc + 3 = pc') (kk : Ends p e below P T m pc' L S) : Ends p e below P T m pc L (.int y :: .int x :: S) := by
  subst hp; exact kk.of fun t h => XS.icmpNo X.here hx rfl hd rfl hc h
/-! steps that read or write the heap -/
theorem eGetF (X : Stand p l e R s m args below meth c T locs cells slots) (hx : p.tables.exec = Jvm.exec) (hZ : Z.Warmed39 s.vm) {own R0 O n d : String} {index : Nat} (hown : s.vm.findClass own = some m.cls) (w : (Cond.fieldLink own index R0 n d).before a0 Z = true) (via : Via Z R0 O n d) (eT : T.heap = h) {a : Addr} {v : Value} (F : Fld Z h a O n d v) (hd : decode c.code pc = .ok (.getfield index, 3)) (hp : pc + 3 = pc')
    (kk : ∀ T', Stand p l e R s m args below meth c T' locs cells slots → T'.heap = h → Ends p e below P T' m pc' L (v :: S)) : Ends p e below P T m pc L (.ref a :: S) := by
  subst hp
  obtain ⟨T', X', e', st⟩ := getF X hx hZ hown (host := "") (Or.inl w) via eT F (g := mkF m pc L (.ref a :: S)) rfl rfl hd
  exact (kk T' X' e').of st
theorem ePutF (X : Stand p l e R s m args below meth c T locs cells slots) (hx : p.tables.exec = Jvm.exec) (hZ : Z.Warmed39 s.vm) {own R0 O n d C : String} {index kk0 : Nat} {ty : FieldType} (hown : s.vm.findClass own = some m.cls) (w : (Cond.fieldLink own index R0 n d).before a0 Z = true) (via : Via Z R0 O n d) (eT : T.heap = h) {a : Addr} {v old : Value} (F : Fld Z h a O n d old) (E : Exa Z h a C) (La : (Cond.lays C O n d).before a0 Z = true ∨ ((Cond.laysFinal C O n d).before a0 Z = true ∧ own = O ∧ meth.name = "<init>")) (wi : (Cond.instantiable C kk0).before a0 Z = true) (hty : parseFieldDescriptor d = some ty) (hn : narrow ty v = v) (hf : fits ty v = true) (hd : decode c.code pc = .ok (.putfield index, 3)) (hp : pc + 3 = pc')
    (kk : ∀ T' h', Stand p l e R s m args below meth c T' (locs ++ [⟨a, Jvm.RoadKit.slotOf Z O n d⟩]) cells slots → T'.heap = h' → Wr h h' a (Jvm.RoadKit.slotOf Z O n d) v → Ends p e below P T' m pc' L S) : Ends p e below P T m pc L (v :: .ref a :: S) := by
  subst hp
  obtain ⟨T', h', X', e', W, st⟩ := putF X hx hZ hown (host := "") (Or.inl w) via eT F E La wi hty hn hf (g := mkF m pc L (v :: .ref a :: S)) rfl rfl hd
  exact (kk T' h' X' e' W).of st
theorem eNewO (X : Stand p l e R s m args below meth c T locs cells slots) (hx : p.tables.exec = Jvm.exec) (hZ : Z.Warmed39 s.vm) {own C : String} {index n : Nat} (hown : s.vm.findClass own = some m.cls) (w : (Cond.classLink own index C).before a0 Z = true) (wi : (Cond.instantiable C n).before a0 Z = true) (wz : (Cond.initialized C).before a0 Z = true) (eT : T.heap = h) (hd : decode c.code pc = .ok (.new index, 3)) (hc : cells + 1 ≤ R.cells) (hl : slots + n ≤ R.slots) (hp : pc + 3 = pc')
    (kk : ∀ T' h' a, a = h.size → Stand p l e R s m args below meth c T' locs (cells + 1) (slots + n) → T'.heap = h' → Ext h h' → Exa Z h' a C → (∀ {O nm d : String} {ty : FieldType}, Laid Z a0 C O nm d → parseFieldDescriptor d = some ty → Fld Z h' a O nm d (defaultValue ty)) → Ends p e below P T' m pc' L (.ref a :: S)) : Ends p e below P T m pc L S := by
  subst hp
  obtain ⟨T', h', X', e', E, A, D, -, st⟩ := newO X hx hZ hown w wi wz eT (g := mkF m pc L S) rfl hd hc hl
  exact (kk T' h' _ rfl X' e' E A D).of st
theorem eGetS (X : Stand p l e R s m args below meth c T locs cells slots) (hx : p.tables.exec = Jvm.exec) (hZ : Z.Warmed39 s.vm) {own O n d : String} {index : Nat} (hown : s.vm.findClass own = some m.cls) (w : (Cond.fieldLink own index O n d).before a0 Z = true) (eT : T.heap = h) {v : Value} (F : Sta Z h O n d v) (hd : decode c.code pc = .ok (.getstatic index, 3)) (hp : pc + 3 = pc')
    (kk : ∀ T', Stand p l e R s m args below meth c T' locs cells slots → T'.heap = h → Ends p e below P T' m pc' L (v :: S)) : Ends p e below P T m pc L S := by
  subst hp
  obtain ⟨T', X', e', st⟩ := getS X hx hZ (host := "") hown w Via.refl eT F (g := mkF m pc L S) rfl hd
  exact (kk T' X' e').of st
theorem Sta.keep1 {h' : Heap} {a : Addr} {C C' n d : String} {v : Value} (F : Sta Z h C n d v) (K : Keep h h' [a]) (E : Exa Z h a C') : Sta Z h' C n d v := by
  obtain ⟨cf, i, k, f, st, cell, h1, h2, h3, h4, h5, h6, h7⟩ := F
  obtain ⟨c2, k2, e1, e2, e3, e4, e5⟩ := E
  refine ⟨cf, i, k, f, st, cell, h1, h2, h3, h4, K.2.1 st cell h5 (fun q => ?_), h6, h7⟩
  cases List.mem_singleton.mp q
  cases h5.symm.trans e1
  rw [h6] at e4; cases e4
/-! an array of ints, booleans, chars, bytes: its list of values -/
def Ar (Z : State) (h : Heap) (a : Addr) (ty : FieldType) (vs : List Int32) : Prop := ∃ cl : Cell, Arr Z h a cl ty ∧ cl.slots = (vs.map Value.int).toArray ∧ vs.length < 2 ^ 31
def InB (vs : List Int32) (j : Int32) : Prop := ¬ j < 0 ∧ j.toNatClampNeg < vs.length
def rd (vs : List Int32) (j : Int32) : Int32 := vs.getD j.toNatClampNeg 0
def wr (vs : List Int32) (j x : Int32) : List Int32 := vs.set j.toNatClampNeg x
variable {h' : Heap} {a b : Addr} {ty : FieldType} {vs : List Int32}
theorem inbL {j : Int32} {n : Nat} (hl : vs.length = n) (h : ¬ j < 0 ∧ j.toNatClampNeg < n) : InB vs j := ⟨h.1, hl ▸ h.2⟩
theorem Ar.lt (F : Ar Z h a ty vs) : a < h.size := by obtain ⟨cl, A, -⟩ := F; exact A.lt
theorem Ar.small (F : Ar Z h a ty vs) : vs.length < 2 ^ 31 := by obtain ⟨cl, A, e1, e2⟩ := F; exact e2
theorem Ar.ext (F : Ar Z h a ty vs) (E : Ext h h') : Ar Z h' a ty vs := by obtain ⟨cl, A, r⟩ := F; exact ⟨cl, A.ext E, r⟩
theorem Ar.other {sl : Nat} {v : Value} (F : Ar Z h b ty vs) (W : Wr h h' a sl v) (q : b ≠ a) : Ar Z h' b ty vs := by obtain ⟨cl, A, r⟩ := F; exact ⟨cl, A.other W q, r⟩
theorem Ar.keep {ws : List Addr} (F : Ar Z h a ty vs) (K : Keep h h' ws) (q : a ∉ ws) : Ar Z h' a ty vs := by obtain ⟨cl, A, r⟩ := F; exact ⟨cl, ⟨K.2.1 a cl A.1 q, A.2⟩, r⟩
theorem Ar.same {j x : Int32} (F : Ar Z h a ty vs) (W : Wr h h' a j.toNatClampNeg (.int x)) : Ar Z h' a ty (wr vs j x) := by
  obtain ⟨cl, A, e1, e2⟩ := F
  refine ⟨_, A.same W, ?_, by simpa [wr] using e2⟩
  show cl.slots.setIfInBounds _ _ = _
  rw [e1, wr, List.map_set]
  simp
theorem Ar.new {k : ClassId} {n : Int32} (A : Arr Z h a (newA k ty n) ty) (hn : ¬ n < 0) (hd : defaultValue ty = .int 0) : Ar Z h a ty (List.replicate n.toNatClampNeg 0) := by
  refine ⟨_, A, ?_, by simpa using (back32 hn).2⟩
  show Array.replicate n.toNatClampNeg (defaultValue ty) = _
  rw [hd, List.map_replicate]
  simp
theorem Ar.inb {cl : Cell} {j : Int32} (e1 : cl.slots = (vs.map Value.int).toArray) (q : InB vs j) : ¬ (j < 0 ∨ cl.slots.size ≤ j.toNatClampNeg) := by
  rw [e1]; simp only [List.size_toArray, List.length_map]
  exact fun z => z.elim q.1 (fun y => by have := q.2; omega)
theorem Ar.get {cl : Cell} {j : Int32} (e1 : cl.slots = (vs.map Value.int).toArray) (q : InB vs j) : cl.slots[j.toNatClampNeg]? = some (.int (rd vs j)) := by
  rw [e1]; have := q.2
  simp [rd, List.getElem?_eq_getElem this, List.getD_eq_getElem?_getD]
theorem eLen (X : Stand p l e R s m args below meth c T locs cells slots) (hx : p.tables.exec = Jvm.exec) (hZ : Z.Warmed39 s.vm) (eT : T.heap = h) (F : Ar Z h a ty vs) (n : Int32) (hn : Int32.ofNat vs.length = n) (hd : decode c.code pc = .ok (.arraylength, 1)) (hp : pc + 1 = pc') (kk : Ends p e below P T m pc' L (.int n :: S)) : Ends p e below P T m pc L (.ref a :: S) := by
  subst hp hn
  obtain ⟨cl, A, e1, e2⟩ := F
  refine kk.of fun t k => X.arraylength hx (by rw [eT]; exact A.1) (State.isArrayOf_alike hZ.alike A.2.1) (g := mkF m pc L (.ref a :: S)) rfl rfl hd _ ?_
  rw [e1]; simp only [List.size_toArray, List.length_map]; exact k
theorem eIALoad (X : Stand p l e R s m args below meth c T locs cells slots) (hx : p.tables.exec = Jvm.exec) (hZ : Z.Warmed39 s.vm) (eT : T.heap = h) (F : Ar Z h a .int vs) {j : Int32} (v : Int32) (hv : rd vs j = v) (q : InB vs j) (hd : decode c.code pc = .ok (.iaload, 1)) (hp : pc + 1 = pc') (kk : Ends p e below P T m pc' L (.int v :: S)) : Ends p e below P T m pc L (.int j :: .ref a :: S) := by
  subst hp hv
  obtain ⟨cl, A, e1, e2⟩ := F
  exact kk.of fun t k => X.iaload hx (by rw [eT]; exact A.1) (State.isArrayOf_alike hZ.alike A.2.1) A.2.2 (Ar.inb e1 q) (Ar.get e1 q) (g := mkF m pc L (.int j :: .ref a :: S)) rfl rfl hd _ k
theorem eCALoad (X : Stand p l e R s m args below meth c T locs cells slots) (hx : p.tables.exec = Jvm.exec) (hZ : Z.Warmed39 s.vm) (eT : T.heap = h) (F : Ar Z h a .char vs) {j : Int32} (v : Int32) (hv : rd vs j = v) (q : InB vs j) (hd : decode c.code pc = .ok (.caload, 1)) (hp : pc + 1 = pc') (kk : Ends p e below P T m pc' L (.int v :: S)) : Ends p e below P T m pc L (.int j :: .ref a :: S) := by
  subst hp hv
  obtain ⟨cl, A, e1, e2⟩ := F
  exact kk.of fun t k => X.caload hx (by rw [eT]; exact A.1) (State.isArrayOf_alike hZ.alike A.2.1) A.2.2 (Ar.inb e1 q) (Ar.get e1 q) (g := mkF m pc L (.int j :: .ref a :: S)) rfl rfl hd _ k
theorem eZALoad (X : Stand p l e R s m args below meth c T locs cells slots) (hx : p.tables.exec = Jvm.exec) (hZ : Z.Warmed39 s.vm) (eT : T.heap = h) (F : Ar Z h a .boolean vs) {j : Int32} (v : Int32) (hv : rd vs j = v) (q : InB vs j) (hd : decode c.code pc = .ok (.baload, 1)) (hp : pc + 1 = pc') (kk : Ends p e below P T m pc' L (.int v :: S)) : Ends p e below P T m pc L (.int j :: .ref a :: S) := by
  subst hp hv
  obtain ⟨cl, A, e1, e2⟩ := F
  exact kk.of fun t k => X.baloadBooleans hx (by rw [eT]; exact A.1) (State.isArrayOf_alike hZ.alike A.2.1) A.2.2 (Ar.inb e1 q) (Ar.get e1 q) (g := mkF m pc L (.int j :: .ref a :: S)) rfl rfl hd _ k
theorem eIAStore (X : Stand p l e R s m args below meth c T locs cells slots) (hx : p.tables.exec = Jvm.exec) (hZ : Z.Warmed39 s.vm) (eT : T.heap = h) (F : Ar Z h a .int vs) {j x : Int32} (q : InB vs j) (hd : decode c.code pc = .ok (.iastore, 1)) (hp : pc + 1 = pc')
    (kk : ∀ T' h', Stand p l e R s m args below meth c T' (locs ++ [⟨a, j.toNatClampNeg⟩]) cells slots → T'.heap = h' → Wr h h' a j.toNatClampNeg (.int x) → Ar Z h' a .int (wr vs j x) → Ends p e below P T' m pc' L S) : Ends p e below P T m pc L (.int x :: .int j :: .ref a :: S) := by
  subst hp
  have F0 := F
  obtain ⟨cl, A, e1, e2⟩ := F
  obtain ⟨T', h', X', e', W, st⟩ := stI X hx hZ eT A (Ar.inb e1 q) (g := mkF m pc L (.int x :: .int j :: .ref a :: S)) rfl rfl hd
  exact (kk T' h' X' e' W (F0.same W)).of st
theorem eCAStore (X : Stand p l e R s m args below meth c T locs cells slots) (hx : p.tables.exec = Jvm.exec) (hZ : Z.Warmed39 s.vm) (eT : T.heap = h) (F : Ar Z h a .char vs) {j x : Int32} (q : InB vs j) (hd : decode c.code pc = .ok (.castore, 1)) (hp : pc + 1 = pc')
    (kk : ∀ T' h', Stand p l e R s m args below meth c T' (locs ++ [⟨a, j.toNatClampNeg⟩]) cells slots → T'.heap = h' → Wr h h' a j.toNatClampNeg (.int (nar .char x)) → Ar Z h' a .char (wr vs j (nar .char x)) → Ends p e below P T' m pc' L S) : Ends p e below P T m pc L (.int x :: .int j :: .ref a :: S) := by
  subst hp
  have F0 := F
  obtain ⟨cl, A, e1, e2⟩ := F
  obtain ⟨T', h', X', e', W, st⟩ := stC X hx hZ eT A (Ar.inb e1 q) (g := mkF m pc L (.int x :: .int j :: .ref a :: S)) rfl rfl hd
  exact (kk T' h' X' e' W (F0.same W)).of st
theorem eZAStore (X : Stand p l e R s m args below meth c T locs cells slots) (hx : p.tables.exec = Jvm.exec) (hZ : Z.Warmed39 s.vm) (eT : T.heap = h) (F : Ar Z h a .boolean vs) {j x : Int32} (q : InB vs j) (hd : decode c.code pc = .ok (.bastore, 1)) (hp : pc + 1 = pc')
    (kk : ∀ T' h', Stand p l e R s m args below meth c T' (locs ++ [⟨a, j.toNatClampNeg⟩]) cells slots → T'.heap = h' → Wr h h' a j.toNatClampNeg (.int (nar .boolean x)) → Ar Z h' a .boolean (wr vs j (nar .boolean x)) → Ends p e below P T' m pc' L S) : Ends p e below P T m pc L (.int x :: .int j :: .ref a :: S) := by
  subst hp
  have F0 := F
  obtain ⟨cl, A, e1, e2⟩ := F
  obtain ⟨T', h', X', e', W, st⟩ := stZ X hx hZ eT A (Ar.inb e1 q) (g := mkF m pc L (.int x :: .int j :: .ref a :: S)) rfl rfl hd
  exact (kk T' h' X' e' W (F0.same W)).of st
theorem eNewA (X : Stand p l e R s m args below meth c T locs cells slots) (hx : p.tables.exec = Jvm.exec) (hZ : Z.Warmed39 s.vm) {aty : ArrayType} (hty : newarray.typeOf aty = ty) (hdf : defaultValue ty = .int 0) (w : (Cond.arrayClass ty).before a0 Z = true) (eT : T.heap = h) (hd : decode c.code pc = .ok (.newarray aty, 2)) {n : Int32} (hn : ¬ n < 0) {cap : Nat} (hcap : n.toNatClampNeg ≤ cap) (hb : cap * 8 ≤ 536870912) (hc : cells + 1 ≤ R.cells) (hl : slots + cap ≤ R.slots) (hp : pc + 2 = pc')
    (kk : ∀ T' h' a, a = h.size → Stand p l e R s m args below meth c T' locs (cells + 1) (slots + cap) → T'.heap = h' → Ext h h' → Ar Z h' a ty (List.replicate n.toNatClampNeg 0) → Ends p e below P T' m pc' L (.ref a :: S)) : Ends p e below P T m pc L (.int n :: S) := by
  subst hp hty
  obtain ⟨T', h', cA, X', e', E, A, st⟩ := newP X hx hZ w eT (g := mkF m pc L (.int n :: S)) rfl hd rfl hn hcap hb hc hl
  exact (kk T' h' _ rfl X' e' E (Ar.new A hn hdf)).of st
theorem eNewE (X : Stand p l e R s m args below meth c T locs cells slots) (hx : p.tables.exec = Jvm.exec) (hZ : Z.Warmed39 s.vm) {aty : ArrayType} (hty : newarray.typeOf aty = ty) (hdf : defaultValue ty = .int 0) (w : (Cond.arrayClass ty).before a0 Z = true) (eT : T.heap = h) (hd : decode c.code pc = .ok (.newarray aty, 2)) {n : Int32} (hn : ¬ n < 0) {cap : Nat} (hcap : n.toNatClampNeg ≤ cap) (hb : cap * 8 ≤ 536870912) (hc : cells + 1 ≤ R.cells) (hl : slots + cap ≤ R.slots) (ad : String) (had : "[" ++ ty.toString = ad) (hp : pc + 2 = pc')
    (kk : ∀ T' h' a, a = h.size → Stand p l e R s m args below meth c T' locs (cells + 1) (slots + cap) → T'.heap = h' → Ext h h' → Ar Z h' a ty (List.replicate n.toNatClampNeg 0) → Exa Z h' a ad → Ends p e below P T' m pc' L (.ref a :: S)) : Ends p e below P T m pc L (.int n :: S) := by
  subst hp hty
  obtain ⟨T', h', cA, X', e', E, A, Ex, st⟩ := newPE X hx hZ w eT (g := mkF m pc L (.int n :: S)) rfl hd rfl hn hcap hb hc hl had
  exact (kk T' h' _ rfl X' e' E (Ar.new A hn hdf) Ex).of st
theorem eCast (X : Stand p l e R s m args below meth c T locs cells slots) (hx : p.tables.exec = Jvm.exec) (hZ : Z.Warmed39 s.vm) {own K : String} {index : Nat} (hown : s.vm.findClass own = some m.cls) (w : (Cond.classLink own index K).before a0 Z = true) (eT : T.heap = h) (F : Ins Z h a K true) (hd : decode c.code pc = .ok (.checkcast index, 3)) (hp : pc + 3 = pc')
    (kk : ∀ T', Stand p l e R s m args below meth c T' locs cells slots → T'.heap = h → Ends p e below P T' m pc' L (.ref a :: S)) : Ends p e below P T m pc L (.ref a :: S) := by
  subst hp
  obtain ⟨T', X', e', st⟩ := castY X hx hZ hown w eT F (g := mkF m pc L (.ref a :: S)) rfl rfl hd
  exact (kk T' X' e').of st
theorem eNonNullY (X : Stand p l e R s m args below meth c T locs cells slots) (hx : p.tables.exec = Jvm.exec) {o : Int} (hd : decode c.code pc = .ok (.ifnonnull o, 3)) (ho : 0 ≤ (pc : Int) + o) (hp : ((pc : Int) + o).toNat = pc') (kk : Ends p e below P T m pc' L S) : Ends p e below P T m pc L (.ref a :: S) :=
  kk.of fun t h => XT.ifnonnullYes X.here hx rfl rfl hd rfl ho hp h
theorem eNonNullN (X : Stand p l e R s m args below meth c T locs cells slots) (hx : p.tables.exec = Jvm.exec) {o : Int} (hd : decode c.code pc = .ok (.ifnonnull o, 3)) (hp : pc + 3 = pc') (kk : Ends p e below P T m pc' L S) : Ends p e below P T m pc L (.null :: S) := by
  subst hp; exact kk.of fun t h => XT.ifnonnullNo X.here hx rfl hd rfl h
theorem eNullY (X : Stand p l e R s m args below meth c T locs cells slots) (hx : p.tables.exec = Jvm.exec) {o : Int} (hd : decode c.code pc = .ok (.ifnull o, 3)) (ho : 0 ≤ (pc : Int) + o) (hp : ((pc : Int) + o).toNat = pc') (kk : Ends p e below P T m pc' L S) : Ends p e below P T m pc L (.null :: S) :=
  kk.of fun t h => XS.ifnullYes X.here hx rfl rfl hd rfl ho hp h
theorem eNullN (X : Stand p l e R s m args below meth c T locs cells slots) (hx : p.tables.exec = Jvm.exec) {o : Int} (hd : decode c.code pc = .ok (.ifnull o, 3)) (hp : pc + 3 = pc') (kk : Ends p e below P T m pc' L S) : Ends p e below P T m pc L (.ref a :: S) := by
  subst hp; exact kk.of fun t h => XS.ifnullNo X.here hx rfl hd rfl h
theorem eTsw (X : Stand p l e R s m args below meth c T locs cells slots) (hx : p.tables.exec = Jvm.exec) {dflt low high : Int} {offs : Array Int} {len : Nat} {o : Int} {i : Int32} (hd : decode c.code pc = .ok (.tableswitch dflt low high offs, len)) (hin : ¬ (i.toInt < low ∨ i.toInt > high)) (hoff : offs[(i.toInt - low).toNat]? = some o) (ho : 0 ≤ (pc : Int) + o) (hp : ((pc : Int) + o).toNat = pc') (kk : Ends p e below P T m pc' L S) : Ends p e below P T m pc L (.int i :: S) :=
  kk.of fun t h => XS.tswIn X.here hx rfl rfl hd rfl hin hoff ho hp h
/-! calls -/
def PostQ (s : State) (C D : Nat) (Q : Option Value → Heap → List Loc → Prop) : State → Outcome → Prop := fun t o => ∃ v L, o = .returned v ∧ Q v t.heap L ∧ FrameEnd s o t L C D
abbrev MetC (l : Launch) (Z : State) (y : MethodName) (ws : List Jvm.Cond) (rm : Room) (as' : Array Value) (h : Heap) (C D : Nat) (Q : Option Value → Heap → List Loc → Prop) : Prop :=
  MetFree l y (head1 ws rm) (fun a U => a = as' ∧ Z.Warmed39 U.vm ∧ U.heap = h) (fun _ _ _ _ _ => True) (fun _ U o U' => PostQ U C D Q U' o)
abbrev MetQ (l : Launch) (Z : State) (y : MethodName) (ws : List Jvm.Cond) (rm : Room) (as' : Array Value) (h : Heap) (Q : Option Value → Heap → List Loc → Prop) : Prop :=
  MetFree l y (head1 ws rm) (fun a U => a = as' ∧ Z.Warmed39 U.vm ∧ U.heap = h) (fun _ _ _ _ _ => True) (fun _ U o U' => PostQ U rm.cells rm.slots Q U' o)
theorem eCallS (X : Stand p l e R s m args below meth c T locs cells slots) (hx : p.tables.exec = Jvm.exec) (hZ : Z.Warmed39 s.vm) {own : String} {index : Nat} {y : MethodName} {bytes : ByteArray} {maxL : Nat} {ret : Option FieldType} (hown : s.vm.findClass own = some m.cls) (w1 : (Cond.methodLink own index y).before a0 Z = true) (w2 : (Cond.static y).before a0 Z = true) (w3 : (Cond.initialized y.cls).before a0 Z = true) (w4 : (Cond.code y bytes maxL ret).before a0 Z = true) (hy : y.cls ≠ "java/lang/invoke/MethodHandle" ∧ y.cls ≠ "java/lang/invoke/VarHandle") (eT : T.heap = h) {rm : Room} {Q : Option Value → Heap → List Loc → Prop} {argsL rest : List Value} (hM : MetQ l Z y [Cond.code y bytes maxL ret] rm argsL.toArray h Q) (hlen : ∀ sig, parseMethodDescriptor y.desc = some sig → argsL.length = sig.parameters.length) (hS : S = argsL.reverse ++ rest) (hsize : L.size = c.maxLocals) (W : Nat) (hW : 2 * 0 + (rest.map fun v => v.category).sum ≤ W) (hf : rm.frames + 1 ≤ R.frames) (hl : W + (maxL + 11) + rm.locals ≤ R.locals) (hc : cells + rm.cells ≤ R.cells) (hs : slots + rm.slots ≤ R.slots) (hd : decode c.code pc = .ok (.invokestatic index, 3)) (hp : pc + 3 = pc')
    (kk : ∀ v T' L', Q v T'.heap L' → Stand p l e R s m args below meth c T' (locs ++ L') (cells + rm.cells) (slots + rm.slots) → Ends p e below P T' m pc' L (v.toList ++ rest)) : Ends p e below P T m pc L S := by
  subst hp hS
  obtain ⟨v, _, ⟨T1, L1, k1, n1⟩, -, X1, ⟨Lc, hQ, l1, y1, z1⟩, st⟩ := Jvm.LawKit.callS X hx (y := y) hown (mvT hZ w1) (mvT hZ w2) (mvT hZ w3) (mvT hZ w4) hy (backOf (W := W) (Q := Q) hM hZ w4 w3 hf hl) (g := mkF m pc L (argsL.reverse ++ rest)) rfl hsize (argsL := argsL) (rest := rest) hlen rfl hW hd (fun _ _ => ⟨rfl, eT, hc, hs⟩)
  dsimp only [Pt.U, Pt.locs, Pt.cells, Pt.slots] at X1 l1 y1 z1 st hQ
  subst l1 y1 z1
  exact (kk v T1 Lc hQ X1).of st
theorem eCallI (X : Stand p l e R s m args below meth c T locs cells slots) (hx : p.tables.exec = Jvm.exec) (hZ : Z.Warmed39 s.vm) {own : String} {index : Nat} {y : MethodName} {bytes : ByteArray} {maxL : Nat} (hy1 : y.name = "<init>") (hown : s.vm.findClass own = some m.cls) (w1 : (Cond.methodLink own index y).before a0 Z = true) (w2 : (Cond.instanceMethod y).before a0 Z = true) (w3 : (Cond.initialized y.cls).before a0 Z = true) (w4 : (Cond.code y bytes maxL none).before a0 Z = true) (hy : y.cls ≠ "java/lang/invoke/MethodHandle" ∧ y.cls ≠ "java/lang/invoke/VarHandle") (eT : T.heap = h) {rm : Room} {Q : Option Value → Heap → List Loc → Prop} {argsL rest : List Value} (hM : MetQ l Z y [Cond.code y bytes maxL none] rm (.ref a :: argsL).toArray h Q) (hlen : ∀ sig, parseMethodDescriptor y.desc = some sig → argsL.length = sig.parameters.length) (hS : S = argsL.reverse ++ .ref a :: rest) (hsize : L.size = c.maxLocals) (W : Nat) (hW : 2 * 0 + (rest.map fun v => v.category).sum ≤ W) (hf : rm.frames + 1 ≤ R.frames) (hl : W + (maxL + 11) + rm.locals ≤ R.locals) (hc : cells + rm.cells ≤ R.cells) (hs : slots + rm.slots ≤ R.slots) (hd : decode c.code pc = .ok (.invokespecial index, 3)) (hp : pc + 3 = pc')
    (kk : ∀ v T' L', Q v T'.heap L' → Stand p l e R s m args below meth c T' (locs ++ L') (cells + rm.cells) (slots + rm.slots) → Ends p e below P T' m pc' L (v.toList ++ rest)) : Ends p e below P T m pc L S := by
  subst hp hS
  obtain ⟨v, _, ⟨T1, L1, k1, n1⟩, -, X1, ⟨Lc, hQ, l1, y1, z1⟩, st⟩ := X.specialBack hx (y := y) hy1 hown (mvT hZ w1) (mvT hZ w2) (mvT hZ w4) hy (backOf (W := W) (Q := Q) hM hZ w4 w3 hf hl) (g := mkF m pc L (argsL.reverse ++ .ref a :: rest)) rfl hsize (Steps.refl _) (a := a) (argsL := argsL) (rest := rest) hlen rfl hW hd (fun _ _ => ⟨rfl, eT, hc, hs⟩)
  dsimp only [Pt.U, Pt.locs, Pt.cells, Pt.slots] at X1 l1 y1 z1 st hQ
  subst l1 y1 z1
  exact (kk v T1 Lc hQ X1).of fun t k => st.trans k
theorem eCallV (X : Stand p l e R s m args below meth c T locs cells slots) (hx : p.tables.exec = Jvm.exec) (hZ : Z.Warmed39 s.vm) {own C : String} {index : Nat} {y : MethodName} {bytes : ByteArray} {maxL : Nat} {ret : Option FieldType} (hown : s.vm.findClass own = some m.cls) (w1 : (Cond.methodLink own index y).before a0 Z = true) (w2 : (Cond.declares y).before a0 Z = true) (w5 : (Cond.selects C y y).before a0 Z = true) (w6 : (Cond.instanceMethod y).before a0 Z = true) (w3 : (Cond.initialized y.cls).before a0 Z = true) (w4 : (Cond.code y bytes maxL ret).before a0 Z = true) (hy : y.cls ≠ "java/lang/invoke/MethodHandle" ∧ y.cls ≠ "java/lang/invoke/VarHandle") (eT : T.heap = h) (E : Exa Z h a C) {rm : Room} {Q : Option Value → Heap → List Loc → Prop} {argsL rest : List Value} (hM : MetQ l Z y [Cond.code y bytes maxL ret] rm (.ref a :: argsL).toArray h Q) (hlen : ∀ sig, parseMethodDescriptor y.desc = some sig → argsL.length = sig.parameters.length) (hS : S = argsL.reverse ++ .ref a :: rest) (hsize : L.size = c.maxLocals) (W : Nat) (hW : 2 * 0 + (rest.map fun v => v.category).sum ≤ W) (hf : rm.frames + 1 ≤ R.frames) (hl : W + (maxL + 11) + rm.locals ≤ R.locals) (hc : cells + rm.cells ≤ R.cells) (hs : slots + rm.slots ≤ R.slots) (hd : decode c.code pc = .ok (.invokevirtual index, 3)) (hp : pc + 3 = pc')
    (kk : ∀ v T' L', Q v T'.heap L' → Stand p l e R s m args below meth c T' (locs ++ L') (cells + rm.cells) (slots + rm.slots) → Ends p e below P T' m pc' L (v.toList ++ rest)) : Ends p e below P T m pc L S := by
  subst hp hS
  obtain ⟨cq, kq, q1, q2, q3⟩ := isOf hZ eT E
  obtain ⟨v, _, ⟨T1, L1, k1, n1⟩, -, X1, ⟨Lc, hQ, l1, y1, z1⟩, st⟩ := X.virtualBack hx (y := y) (z := y) hown (mvT hZ w1) (mvT hZ w2) (notFace_of_selects (args := #[]) (mvT hZ w5)) (mvT hZ w5) (mvT hZ w6) hy (backOf (W := W) (Q := Q) hM hZ w4 w3 hf hl) q1 q3 (g := mkF m pc L (argsL.reverse ++ .ref a :: rest)) rfl hsize (Steps.refl _) (argsL := argsL) (rest := rest) hlen rfl hW hd (fun _ _ => ⟨rfl, eT, hc, hs⟩)
  dsimp only [Pt.U, Pt.locs, Pt.cells, Pt.slots] at X1 l1 y1 z1 st hQ
  subst l1 y1 z1
  exact (kk v T1 Lc hQ X1).of fun t k => st.trans k
/-! returns -/
theorem eEnd (X : Stand p l e R s m args below meth c T locs cells slots) (hlk : meth.locks = false) {C D : Nat} {Q : Option Value → Heap → List Loc → Prop} {v : Option Value} (hv : meth.sig.returnType = none → v = none) (hC : cells ≤ C) (hD : slots ≤ D) (hq : Q v T.heap locs)
    (st : ∀ fs, (∀ (f : JFrame) (acts : List Action), f.method = m → f.locked = none → f.entered = [] → (doReturn e (T.setTop f) acts v).1 = T.setFrames fs) → Steps p.tables e below (T.setTop (mkF m pc L S)) (T.setFrames fs)) : Ends p e below (PostQ s C D Q) T m pc L S := by
  obtain ⟨fs, hr, hrun, hended, hW, hsame⟩ := X.leave (v := v) hv hlk
  exact ⟨_, _, st fs hr, hrun, hended, v, locs, rfl, hq, ⟨_, rfl⟩, hW, hsame.mono hC hD⟩
theorem eRetN (X : Stand p l e R s m args below meth c T locs cells slots) (hx : p.tables.exec = Jvm.exec) {t : FieldType} {z : Int32} (hret : meth.sig.returnType = some t) (ht : t = .boolean ∨ t = .byte ∨ t = .char ∨ t = .short) (hlk : meth.locks = false) (hd : decode c.code pc = .ok (.ireturn, 1)) {C D : Nat} {Q : Option Value → Heap → List Loc → Prop} (hC : cells ≤ C) (hD : slots ≤ D) (hq : Q (some (.int (nar t z))) T.heap locs) : Ends p e below (PostQ s C D Q) T m pc L (.int z :: S) :=
  eEnd X hlk (fun h => by rw [hret] at h; cases h) hC hD hq fun fs hr => retN X hx hret ht hd hr
theorem eRetO (X : Stand p l e R s m args below meth c T locs cells slots) (hx : p.tables.exec = Jvm.exec) {t : FieldType} {w : Value} {i : Instr} (hret : meth.sig.returnType = some t) (hn : narrow t w = w) (hi : (i = .ireturn ∧ (t = .int ∨ t = .boolean ∨ t = .byte ∨ t = .char ∨ t = .short) ∧ ∃ z, w = .int z) ∨ (i = .lreturn ∧ t = .long ∧ ∃ z, w = .long z) ∨ (i = .dreturn ∧ t = .double ∧ ∃ z, w = .double z) ∨ (i = .freturn ∧ t = .float ∧ ∃ z, w = .float z) ∨ (i = .areturn ∧ t.isReference = true ∧ w.isRef = true)) (hlk : meth.locks = false) (hd : decode c.code pc = .ok (i, 1)) {C D : Nat} {Q : Option Value → Heap → List Loc → Prop} (hC : cells ≤ C) (hD : slots ≤ D) (hq : Q (some w) T.heap locs) : Ends p e below (PostQ s C D Q) T m pc L (w :: S) :=
  eEnd X hlk (fun h => by rw [hret] at h; cases h) hC hD hq fun fs hr => retOut X hx hret hn hi hd hr
theorem eRetI (X : Stand p l e R s m args below meth c T locs cells slots) (hx : p.tables.exec = Jvm.exec) {z : Int32} (hret : meth.sig.returnType = some .int) (hlk : meth.locks = false) (hd : decode c.code pc = .ok (.ireturn, 1)) {C D : Nat} {Q : Option Value → Heap → List Loc → Prop} (hC : cells ≤ C) (hD : slots ≤ D) (hq : Q (some (.int z)) T.heap locs) : Ends p e below (PostQ s C D Q) T m pc L (.int z :: S) :=
  eRetO X hx hret rfl (Or.inl ⟨rfl, Or.inl rfl, z, rfl⟩) hlk hd hC hD hq
theorem eRetL (X : Stand p l e R s m args below meth c T locs cells slots) (hx : p.tables.exec = Jvm.exec) {z : Int64} (hret : meth.sig.returnType = some .long) (hlk : meth.locks = false) (hd : decode c.code pc = .ok (.lreturn, 1)) {C D : Nat} {Q : Option Value → Heap → List Loc → Prop} (hC : cells ≤ C) (hD : slots ≤ D) (hq : Q (some (.long z)) T.heap locs) : Ends p e below (PostQ s C D Q) T m pc L (.long z :: S) :=
  eRetO X hx hret rfl (Or.inr (Or.inl ⟨rfl, rfl, z, rfl⟩)) hlk hd hC hD hq
theorem eRetA (X : Stand p l e R s m args below meth c T locs cells slots) (hx : p.tables.exec = Jvm.exec) {t : FieldType} {w : Value} (hret : meth.sig.returnType = some t) (ht : t.isReference = true) (hn : narrow t w = w) (hw : w.isRef = true) (hlk : meth.locks = false) (hd : decode c.code pc = .ok (.areturn, 1)) {C D : Nat} {Q : Option Value → Heap → List Loc → Prop} (hC : cells ≤ C) (hD : slots ≤ D) (hq : Q (some w) T.heap locs) : Ends p e below (PostQ s C D Q) T m pc L (w :: S) :=
  eRetO X hx hret hn (Or.inr (Or.inr (Or.inr (Or.inr ⟨rfl, ht, hw⟩)))) hlk hd hC hD hq
theorem eRetV (X : Stand p l e R s m args below meth c T locs cells slots) (hx : p.tables.exec = Jvm.exec) (hret : meth.sig.returnType = none) (hlk : meth.locks = false) (hd : decode c.code pc = .ok (.return_, 1)) {C D : Nat} {Q : Option Value → Heap → List Loc → Prop} (hC : cells ≤ C) (hD : slots ≤ D) (hq : Q none T.heap locs) : Ends p e below (PostQ s C D Q) T m pc L [] :=
  eEnd X hlk (fun _ => rfl) hC hD hq fun fs hr => X.returnOut hx hret hd hr
abbrev PVI (s : State) (C D n0 : Nat) (h0 : Heap) (r : Int32) : State → Outcome → Prop := PostQ s C D (fun v h L => v = some (.int r) ∧ Fr n0 L ∧ h = h0)
abbrev PVL (s : State) (C D n0 : Nat) (h0 : Heap) (r : Int64) : State → Outcome → Prop := PostQ s C D (fun v h L => v = some (.long r) ∧ Fr n0 L ∧ h = h0)
abbrev PVW (s : State) (C D n0 : Nat) (r : Int32) : State → Outcome → Prop := PostQ s C D (fun v h L => v = some (.int r) ∧ Fr n0 L)
end Own

theorem own_pn0 : plainName "com/example/wildcard/wildcard/XmlCharacters" = true := by first | (simp [plainName, overriddenIn]; done) | decide +kernel
theorem own_d1_0 : decode prog_99_method_2_code 0 = .ok (.iload_n 0, 1) := by decide +kernel
theorem own_d1_1 : decode prog_99_method_2_code 1 = .ok (.bipush 32, 2) := by decide +kernel
theorem own_d1_3 : decode prog_99_method_2_code 3 = .ok (.if_icmp .lt 35, 3) := by decide +kernel
theorem own_d1_38 : decode prog_99_method_2_code 38 = .ok (.iload_n 0, 1) := by decide +kernel
theorem own_d1_39 : decode prog_99_method_2_code 39 = .ok (.bipush 9, 2) := by decide +kernel
theorem own_d1_41 : decode prog_99_method_2_code 41 = .ok (.if_icmp .eq 15, 3) := by decide +kernel
theorem own_d1_56 : decode prog_99_method_2_code 56 = .ok (.iconst 1, 1) := by decide +kernel
theorem own_d1_57 : decode prog_99_method_2_code 57 = .ok (.goto 4, 3) := by decide +kernel
theorem own_d1_61 : decode prog_99_method_2_code 61 = .ok (.ireturn, 1) := by decide +kernel
theorem own_d1_44 : decode prog_99_method_2_code 44 = .ok (.iload_n 0, 1) := by decide +kernel
theorem own_d1_45 : decode prog_99_method_2_code 45 = .ok (.bipush 10, 2) := by decide +kernel
theorem own_d1_47 : decode prog_99_method_2_code 47 = .ok (.if_icmp .eq 9, 3) := by decide +kernel
theorem own_d1_50 : decode prog_99_method_2_code 50 = .ok (.iload_n 0, 1) := by decide +kernel
theorem own_d1_51 : decode prog_99_method_2_code 51 = .ok (.bipush 13, 2) := by decide +kernel
theorem own_d1_53 : decode prog_99_method_2_code 53 = .ok (.if_icmp .ne 7, 3) := by decide +kernel
theorem own_d1_60 : decode prog_99_method_2_code 60 = .ok (.iconst 0, 1) := by decide +kernel
theorem own_d1_6 : decode prog_99_method_2_code 6 = .ok (.iload_n 0, 1) := by decide +kernel
theorem own_d1_7 : decode prog_99_method_2_code 7 = .ok (.ldc 7, 2) := by decide +kernel
theorem own_d1_9 : decode prog_99_method_2_code 9 = .ok (.if_icmp .lt 21, 3) := by decide +kernel
theorem own_d1_30 : decode prog_99_method_2_code 30 = .ok (.iconst 1, 1) := by decide +kernel
theorem own_d1_31 : decode prog_99_method_2_code 31 = .ok (.goto 30, 3) := by decide +kernel
theorem own_d1_12 : decode prog_99_method_2_code 12 = .ok (.iload_n 0, 1) := by decide +kernel
theorem own_d1_13 : decode prog_99_method_2_code 13 = .ok (.ldc 8, 2) := by decide +kernel
theorem own_d1_15 : decode prog_99_method_2_code 15 = .ok (.if_icmp .lt 9, 3) := by decide +kernel
theorem own_d1_24 : decode prog_99_method_2_code 24 = .ok (.iload_n 0, 1) := by decide +kernel
theorem own_d1_25 : decode prog_99_method_2_code 25 = .ok (.ldc 10, 2) := by decide +kernel
theorem own_d1_27 : decode prog_99_method_2_code 27 = .ok (.if_icmp .lt 7, 3) := by decide +kernel
theorem own_d1_34 : decode prog_99_method_2_code 34 = .ok (.iconst 0, 1) := by decide +kernel
theorem own_d1_35 : decode prog_99_method_2_code 35 = .ok (.goto 26, 3) := by decide +kernel
theorem own_d1_18 : decode prog_99_method_2_code 18 = .ok (.iload_n 0, 1) := by decide +kernel
theorem own_d1_19 : decode prog_99_method_2_code 19 = .ok (.ldc 9, 2) := by decide +kernel
theorem own_d1_21 : decode prog_99_method_2_code 21 = .ok (.if_icmp .lt 9, 3) := by decide +kernel
def RM1 : Room := { frames := 0, cells := 0, slots := 0, locals := 0 }
def fIs_24 (p1 : Int32) : Int32 := (if p1 < (65536 : Int32) then (0 : Int32) else (1 : Int32))
def fIs_0 (p1 : Int32) : Int32 := (if p1 < (32 : Int32) then (if p1 = (9 : Int32) then (1 : Int32) else (if p1 = (10 : Int32) then (1 : Int32) else (if p1 = (13 : Int32) then (1 : Int32) else (0 : Int32)))) else (if p1 < (55296 : Int32) then (1 : Int32) else (if p1 < (57344 : Int32) then (fIs_24 p1) else (if p1 < (65534 : Int32) then (1 : Int32) else (fIs_24 p1)))))
theorem own_ef1 (m : MethodId) (p1 : Int32) : entryFrame m #[(.int p1)] 1 = mkF m 0 #[.val (.int p1)] [] := by first | (simp [entryFrame, mkF, argsToLocals, Value.category]; done) | rfl
set_option maxRecDepth 65536 in
set_option maxHeartbeats 40000000 in
theorem rm1 (l : Launch) (Z : State) (a0 : Array Value) (hw : ∀ d ∈ tables_1, d.before a0 Z = true) (ws : List Jvm.Cond) (p1 : Int32) (h0 : Heap) (n0 : Nat) (Z0 : n0 ≤ h0.size) : MetQ l Z (⟨"com/example/wildcard/wildcard/XmlCharacters", "isCharacter", "(I)Z"⟩ : MethodName) (Jvm.Cond.code (⟨"com/example/wildcard/wildcard/XmlCharacters", "isCharacter", "(I)Z"⟩ : MethodName) prog_99_method_2_code 1 (some .boolean) :: ws) RM1 #[(.int p1)] h0 (fun v h L => v = some (.int (fIs_0 p1)) ∧ Fr n0 L ∧ h = h0) := by
  refine MetFree.of_bodySF (plainFor_of_name own_pn0) hisR ?_
  intro p e s m args below meth c s₁ Bd hml0 hP hK
  obtain ⟨rfl, hZ, hh⟩ := hP
  have hx := Bd.exec
  have hby := Bd.bytes
  have hml : c.maxLocals = 1 := hml0
  have hown : s.vm.findClass "com/example/wildcard/wildcard/XmlCharacters" = some m.cls := findClass_of_methodNamed Bd.named
  have hnm := (name_of_methodNamed Bd.named Bd.method).1
  have hlk : meth.locks = false := BodyLoose.notSynchronized Bd
  have X0 : Stand p l e RM1 s m #[(.int p1)] below meth c s₁ [] 0 0 := Stand.of_body Bd
  have e0 : s₁.heap = h0 := by rw [← hh, Bd.state]; rfl
  have N0 := Fr.nil n0
  suffices kk : Ends p e below (PVI s 0 0 n0 h0 (fIs_0 p1)) s₁ m 0 #[.val (.int p1)] [] by
    obtain ⟨t, o, k1, k2, k3, k4⟩ := kk
    exact ⟨t, o, castTop (own_ef1 m p1) k1, k2, k3, k4⟩
  refine eILoadN X0 hx (hb hby own_d1_0) rfl rfl ?_
  refine eBipush X0 hx (32 : Int32) (hb hby own_d1_1) rfl rfl ?_
  show Ends p e below (PVI s 0 0 n0 h0 (if p1 < (32 : Int32) then (if p1 = (9 : Int32) then (1 : Int32) else (if p1 = (10 : Int32) then (1 : Int32) else (if p1 = (13 : Int32) then (1 : Int32) else (0 : Int32)))) else (if p1 < (55296 : Int32) then (1 : Int32) else (if p1 < (57344 : Int32) then (fIs_24 p1) else (if p1 < (65534 : Int32) then (1 : Int32) else (fIs_24 p1)))))) s₁ m 3 #[.val (.int p1)] [(.int (32 : Int32)), (.int p1)]
  by_cases c1 : p1 < (32 : Int32)
  · rw [if_pos c1]
    refine eIcmpY X0 hx (hb hby own_d1_3) (tlt c1).1 (by decide) (pc' := 38) rfl ?_
    refine eILoadN X0 hx (hb hby own_d1_38) rfl rfl ?_
    refine eBipush X0 hx (9 : Int32) (hb hby own_d1_39) rfl rfl ?_
    show Ends p e below (PVI s 0 0 n0 h0 (if p1 = (9 : Int32) then (1 : Int32) else (if p1 = (10 : Int32) then (1 : Int32) else (if p1 = (13 : Int32) then (1 : Int32) else (0 : Int32))))) s₁ m 41 #[.val (.int p1)] [(.int (9 : Int32)), (.int p1)]
    by_cases c2 : p1 = (9 : Int32)
    · rw [if_pos c2]
      refine eIcmpY X0 hx (hb hby own_d1_41) (teq c2).1 (by decide) (pc' := 56) rfl ?_
      refine eIConst X0 hx (1 : Int32) (hb hby own_d1_56) rfl rfl ?_
      refine eGoto X0 hx (hb hby own_d1_57) (by decide) (pc' := 61) rfl ?_
      exact eRetN X0 hx (t := .boolean) Bd.returns (by simp) hlk (hb hby own_d1_61) (by decide) (by decide) ⟨rfl, N0, e0⟩
    · rw [if_neg c2]
      refine eIcmpN X0 hx (hb hby own_d1_41) (feq c2).1 rfl ?_
      refine eILoadN X0 hx (hb hby own_d1_44) rfl rfl ?_
      refine eBipush X0 hx (10 : Int32) (hb hby own_d1_45) rfl rfl ?_
      show Ends p e below (PVI s 0 0 n0 h0 (if p1 = (10 : Int32) then (1 : Int32) else (if p1 = (13 : Int32) then (1 : Int32) else (0 : Int32)))) s₁ m 47 #[.val (.int p1)] [(.int (10 : Int32)), (.int p1)]
      by_cases c3 : p1 = (10 : Int32)
      · rw [if_pos c3]
        refine eIcmpY X0 hx (hb hby own_d1_47) (teq c3).1 (by decide) (pc' := 56) rfl ?_
        refine eIConst X0 hx (1 : Int32) (hb hby own_d1_56) rfl rfl ?_
        refine eGoto X0 hx (hb hby own_d1_57) (by decide) (pc' := 61) rfl ?_
        exact eRetN X0 hx (t := .boolean) Bd.returns (by simp) hlk (hb hby own_d1_61) (by decide) (by decide) ⟨rfl, N0, e0⟩
      · rw [if_neg c3]
        refine eIcmpN X0 hx (hb hby own_d1_47) (feq c3).1 rfl ?_
        refine eILoadN X0 hx (hb hby own_d1_50) rfl rfl ?_
        refine eBipush X0 hx (13 : Int32) (hb hby own_d1_51) rfl rfl ?_
        show Ends p e below (PVI s 0 0 n0 h0 (if p1 = (13 : Int32) then (1 : Int32) else (0 : Int32))) s₁ m 53 #[.val (.int p1)] [(.int (13 : Int32)), (.int p1)]
        by_cases c4 : p1 = (13 : Int32)
        · rw [if_pos c4]
          refine eIcmpN X0 hx (hb hby own_d1_53) (teq c4).2 rfl ?_
          refine eIConst X0 hx (1 : Int32) (hb hby own_d1_56) rfl rfl ?_
          refine eGoto X0 hx (hb hby own_d1_57) (by decide) (pc' := 61) rfl ?_
          exact eRetN X0 hx (t := .boolean) Bd.returns (by simp) hlk (hb hby own_d1_61) (by decide) (by decide) ⟨rfl, N0, e0⟩
        · rw [if_neg c4]
          refine eIcmpY X0 hx (hb hby own_d1_53) (feq c4).2 (by decide) (pc' := 60) rfl ?_
          refine eIConst X0 hx (0 : Int32) (hb hby own_d1_60) rfl rfl ?_
          exact eRetN X0 hx (t := .boolean) Bd.returns (by simp) hlk (hb hby own_d1_61) (by decide) (by decide) ⟨rfl, N0, e0⟩
  · rw [if_neg c1]
    refine eIcmpN X0 hx (hb hby own_d1_3) (flt c1).1 rfl ?_
    refine eILoadN X0 hx (hb hby own_d1_6) rfl rfl ?_
    refine eLdcI X0 hx hZ hown (v := (55296 : Int32)) (hw _ (List.mem_of_getElem? (i := 20) rfl)) (hb hby own_d1_7) rfl ?_
    show Ends p e below (PVI s 0 0 n0 h0 (if p1 < (55296 : Int32) then (1 : Int32) else (if p1 < (57344 : Int32) then (fIs_24 p1) else (if p1 < (65534 : Int32) then (1 : Int32) else (fIs_24 p1))))) s₁ m 9 #[.val (.int p1)] [(.int (55296 : Int32)), (.int p1)]
    by_cases c5 : p1 < (55296 : Int32)
    · rw [if_pos c5]
      refine eIcmpY X0 hx (hb hby own_d1_9) (tlt c5).1 (by decide) (pc' := 30) rfl ?_
      refine eIConst X0 hx (1 : Int32) (hb hby own_d1_30) rfl rfl ?_
      refine eGoto X0 hx (hb hby own_d1_31) (by decide) (pc' := 61) rfl ?_
      exact eRetN X0 hx (t := .boolean) Bd.returns (by simp) hlk (hb hby own_d1_61) (by decide) (by decide) ⟨rfl, N0, e0⟩
    · rw [if_neg c5]
      refine eIcmpN X0 hx (hb hby own_d1_9) (flt c5).1 rfl ?_
      refine eILoadN X0 hx (hb hby own_d1_12) rfl rfl ?_
      refine eLdcI X0 hx hZ hown (v := (57344 : Int32)) (hw _ (List.mem_of_getElem? (i := 21) rfl)) (hb hby own_d1_13) rfl ?_
      have K24_6 : ∀ (T6 : State) (locs6 : List Loc), Stand p l e RM1 s m #[(.int p1)] below meth c T6 locs6 0 0 → Fr n0 locs6 → T6.heap = h0 → Ends p e below (PVI s 0 0 n0 h0 (fIs_24 p1)) T6 m 24 #[.val (.int p1)] [] := by
        intro T6 locs6 X6 N6 e6
        refine eILoadN X6 hx (hb hby own_d1_24) rfl rfl ?_
        refine eLdcI X6 hx hZ hown (v := (65536 : Int32)) (hw _ (List.mem_of_getElem? (i := 23) rfl)) (hb hby own_d1_25) rfl ?_
        show Ends p e below (PVI s 0 0 n0 h0 (if p1 < (65536 : Int32) then (0 : Int32) else (1 : Int32))) T6 m 27 #[.val (.int p1)] [(.int (65536 : Int32)), (.int p1)]
        by_cases c7 : p1 < (65536 : Int32)
        · rw [if_pos c7]
          refine eIcmpY X6 hx (hb hby own_d1_27) (tlt c7).1 (by decide) (pc' := 34) rfl ?_
          refine eIConst X6 hx (0 : Int32) (hb hby own_d1_34) rfl rfl ?_
          refine eGoto X6 hx (hb hby own_d1_35) (by decide) (pc' := 61) rfl ?_
          exact eRetN X6 hx (t := .boolean) Bd.returns (by simp) hlk (hb hby own_d1_61) (by decide) (by decide) ⟨rfl, N6, e6⟩
        · rw [if_neg c7]
          refine eIcmpN X6 hx (hb hby own_d1_27) (flt c7).1 rfl ?_
          refine eIConst X6 hx (1 : Int32) (hb hby own_d1_30) rfl rfl ?_
          refine eGoto X6 hx (hb hby own_d1_31) (by decide) (pc' := 61) rfl ?_
          exact eRetN X6 hx (t := .boolean) Bd.returns (by simp) hlk (hb hby own_d1_61) (by decide) (by decide) ⟨rfl, N6, e6⟩
      show Ends p e below (PVI s 0 0 n0 h0 (if p1 < (57344 : Int32) then (fIs_24 p1) else (if p1 < (65534 : Int32) then (1 : Int32) else (fIs_24 p1)))) s₁ m 15 #[.val (.int p1)] [(.int (57344 : Int32)), (.int p1)]
      by_cases c8 : p1 < (57344 : Int32)
      · rw [if_pos c8]
        refine eIcmpY X0 hx (hb hby own_d1_15) (tlt c8).1 (by decide) (pc' := 24) rfl ?_
        exact K24_6 s₁ _ X0 N0 e0
      · rw [if_neg c8]
        refine eIcmpN X0 hx (hb hby own_d1_15) (flt c8).1 rfl ?_
        refine eILoadN X0 hx (hb hby own_d1_18) rfl rfl ?_
        refine eLdcI X0 hx hZ hown (v := (65534 : Int32)) (hw _ (List.mem_of_getElem? (i := 22) rfl)) (hb hby own_d1_19) rfl ?_
        show Ends p e below (PVI s 0 0 n0 h0 (if p1 < (65534 : Int32) then (1 : Int32) else (fIs_24 p1))) s₁ m 21 #[.val (.int p1)] [(.int (65534 : Int32)), (.int p1)]
        by_cases c9 : p1 < (65534 : Int32)
        · rw [if_pos c9]
          refine eIcmpY X0 hx (hb hby own_d1_21) (tlt c9).1 (by decide) (pc' := 30) rfl ?_
          refine eIConst X0 hx (1 : Int32) (hb hby own_d1_30) rfl rfl ?_
          refine eGoto X0 hx (hb hby own_d1_31) (by decide) (pc' := 61) rfl ?_
          exact eRetN X0 hx (t := .boolean) Bd.returns (by simp) hlk (hb hby own_d1_61) (by decide) (by decide) ⟨rfl, N0, e0⟩
        · rw [if_neg c9]
          refine eIcmpN X0 hx (hb hby own_d1_21) (flt c9).1 rfl ?_
          exact K24_6 s₁ _ X0 N0 e0
theorem own_pn1 : plainName "com/example/wildcard/wildcard/XmlCharactersIsCharacterPinLaw" = true := by first | (simp [plainName, overriddenIn]; done) | decide +kernel
theorem own_d2_0 : decode method_2_code 0 = .ok (.iload_n 0, 1) := by decide +kernel
theorem own_d2_1 : decode method_2_code 1 = .ok (.bipush 9, 2) := by decide +kernel
theorem own_d2_3 : decode method_2_code 3 = .ok (.if_icmp .eq 51, 3) := by decide +kernel
theorem own_d2_54 : decode method_2_code 54 = .ok (.iconst 1, 1) := by decide +kernel
theorem own_d2_55 : decode method_2_code 55 = .ok (.goto 4, 3) := by decide +kernel
theorem own_d2_59 : decode method_2_code 59 = .ok (.ireturn, 1) := by decide +kernel
theorem own_d2_6 : decode method_2_code 6 = .ok (.iload_n 0, 1) := by decide +kernel
theorem own_d2_7 : decode method_2_code 7 = .ok (.bipush 10, 2) := by decide +kernel
theorem own_d2_9 : decode method_2_code 9 = .ok (.if_icmp .eq 45, 3) := by decide +kernel
theorem own_d2_12 : decode method_2_code 12 = .ok (.iload_n 0, 1) := by decide +kernel
theorem own_d2_13 : decode method_2_code 13 = .ok (.bipush 13, 2) := by decide +kernel
theorem own_d2_15 : decode method_2_code 15 = .ok (.if_icmp .eq 39, 3) := by decide +kernel
theorem own_d2_18 : decode method_2_code 18 = .ok (.bipush 32, 2) := by decide +kernel
theorem own_d2_20 : decode method_2_code 20 = .ok (.iload_n 0, 1) := by decide +kernel
theorem own_d2_21 : decode method_2_code 21 = .ok (.if_icmp .gt 9, 3) := by decide +kernel
theorem own_d2_30 : decode method_2_code 30 = .ok (.ldc 8, 2) := by decide +kernel
theorem own_d2_32 : decode method_2_code 32 = .ok (.iload_n 0, 1) := by decide +kernel
theorem own_d2_33 : decode method_2_code 33 = .ok (.if_icmp .gt 9, 3) := by decide +kernel
theorem own_d2_42 : decode method_2_code 42 = .ok (.ldc 10, 2) := by decide +kernel
theorem own_d2_44 : decode method_2_code 44 = .ok (.iload_n 0, 1) := by decide +kernel
theorem own_d2_45 : decode method_2_code 45 = .ok (.if_icmp .gt 13, 3) := by decide +kernel
theorem own_d2_58 : decode method_2_code 58 = .ok (.iconst 0, 1) := by decide +kernel
theorem own_d2_48 : decode method_2_code 48 = .ok (.iload_n 0, 1) := by decide +kernel
theorem own_d2_49 : decode method_2_code 49 = .ok (.ldc 11, 2) := by decide +kernel
theorem own_d2_51 : decode method_2_code 51 = .ok (.if_icmp .gt 7, 3) := by decide +kernel
theorem own_d2_36 : decode method_2_code 36 = .ok (.iload_n 0, 1) := by decide +kernel
theorem own_d2_37 : decode method_2_code 37 = .ok (.ldc 9, 2) := by decide +kernel
theorem own_d2_39 : decode method_2_code 39 = .ok (.if_icmp .le 15, 3) := by decide +kernel
theorem own_d2_24 : decode method_2_code 24 = .ok (.iload_n 0, 1) := by decide +kernel
theorem own_d2_25 : decode method_2_code 25 = .ok (.ldc 7, 2) := by decide +kernel
theorem own_d2_27 : decode method_2_code 27 = .ok (.if_icmp .le 27, 3) := by decide +kernel
def RM2 : Room := { frames := 0, cells := 0, slots := 0, locals := 0 }
def fRef_42 (p1 : Int32) : Int32 := (if p1 < (65536 : Int32) then (0 : Int32) else (if (1114111 : Int32) < p1 then (0 : Int32) else (1 : Int32)))
def fRef_30 (p1 : Int32) : Int32 := (if p1 < (57344 : Int32) then (fRef_42 p1) else (if (65533 : Int32) < p1 then (fRef_42 p1) else (1 : Int32)))
def fRef_0 (p1 : Int32) : Int32 := (if p1 = (9 : Int32) then (1 : Int32) else (if p1 = (10 : Int32) then (1 : Int32) else (if p1 = (13 : Int32) then (1 : Int32) else (if p1 < (32 : Int32) then (fRef_30 p1) else (if (55295 : Int32) < p1 then (fRef_30 p1) else (1 : Int32))))))
theorem own_ef2 (m : MethodId) (p1 : Int32) : entryFrame m #[(.int p1)] 1 = mkF m 0 #[.val (.int p1)] [] := by first | (simp [entryFrame, mkF, argsToLocals, Value.category]; done) | rfl
set_option maxRecDepth 65536 in
set_option maxHeartbeats 40000000 in
theorem rm2 (l : Launch) (Z : State) (a0 : Array Value) (hw : ∀ d ∈ tables_1, d.before a0 Z = true) (ws : List Jvm.Cond) (p1 : Int32) (h0 : Heap) (n0 : Nat) (Z0 : n0 ≤ h0.size) : MetQ l Z (⟨"com/example/wildcard/wildcard/XmlCharactersIsCharacterPinLaw", "reference", "(I)Z"⟩ : MethodName) (Jvm.Cond.code (⟨"com/example/wildcard/wildcard/XmlCharactersIsCharacterPinLaw", "reference", "(I)Z"⟩ : MethodName) method_2_code 1 (some .boolean) :: ws) RM2 #[(.int p1)] h0 (fun v h L => v = some (.int (fRef_0 p1)) ∧ Fr n0 L ∧ h = h0) := by
  refine MetFree.of_bodySF (plainFor_of_name own_pn1) hisR ?_
  intro p e s m args below meth c s₁ Bd hml0 hP hK
  obtain ⟨rfl, hZ, hh⟩ := hP
  have hx := Bd.exec
  have hby := Bd.bytes
  have hml : c.maxLocals = 1 := hml0
  have hown : s.vm.findClass "com/example/wildcard/wildcard/XmlCharactersIsCharacterPinLaw" = some m.cls := findClass_of_methodNamed Bd.named
  have hnm := (name_of_methodNamed Bd.named Bd.method).1
  have hlk : meth.locks = false := BodyLoose.notSynchronized Bd
  have X0 : Stand p l e RM2 s m #[(.int p1)] below meth c s₁ [] 0 0 := Stand.of_body Bd
  have e0 : s₁.heap = h0 := by rw [← hh, Bd.state]; rfl
  have N0 := Fr.nil n0
  suffices kk : Ends p e below (PVI s 0 0 n0 h0 (fRef_0 p1)) s₁ m 0 #[.val (.int p1)] [] by
    obtain ⟨t, o, k1, k2, k3, k4⟩ := kk
    exact ⟨t, o, castTop (own_ef2 m p1) k1, k2, k3, k4⟩
  refine eILoadN X0 hx (hb hby own_d2_0) rfl rfl ?_
  refine eBipush X0 hx (9 : Int32) (hb hby own_d2_1) rfl rfl ?_
  show Ends p e below (PVI s 0 0 n0 h0 (if p1 = (9 : Int32) then (1 : Int32) else (if p1 = (10 : Int32) then (1 : Int32) else (if p1 = (13 : Int32) then (1 : Int32) else (if p1 < (32 : Int32) then (fRef_30 p1) else (if (55295 : Int32) < p1 then (fRef_30 p1) else (1 : Int32))))))) s₁ m 3 #[.val (.int p1)] [(.int (9 : Int32)), (.int p1)]
  by_cases c1 : p1 = (9 : Int32)
  · rw [if_pos c1]
    refine eIcmpY X0 hx (hb hby own_d2_3) (teq c1).1 (by decide) (pc' := 54) rfl ?_
    refine eIConst X0 hx (1 : Int32) (hb hby own_d2_54) rfl rfl ?_
    refine eGoto X0 hx (hb hby own_d2_55) (by decide) (pc' := 59) rfl ?_
    exact eRetN X0 hx (t := .boolean) Bd.returns (by simp) hlk (hb hby own_d2_59) (by decide) (by decide) ⟨rfl, N0, e0⟩
  · rw [if_neg c1]
    refine eIcmpN X0 hx (hb hby own_d2_3) (feq c1).1 rfl ?_
    refine eILoadN X0 hx (hb hby own_d2_6) rfl rfl ?_
    refine eBipush X0 hx (10 : Int32) (hb hby own_d2_7) rfl rfl ?_
    show Ends p e below (PVI s 0 0 n0 h0 (if p1 = (10 : Int32) then (1 : Int32) else (if p1 = (13 : Int32) then (1 : Int32) else (if p1 < (32 : Int32) then (fRef_30 p1) else (if (55295 : Int32) < p1 then (fRef_30 p1) else (1 : Int32)))))) s₁ m 9 #[.val (.int p1)] [(.int (10 : Int32)), (.int p1)]
    by_cases c2 : p1 = (10 : Int32)
    · rw [if_pos c2]
      refine eIcmpY X0 hx (hb hby own_d2_9) (teq c2).1 (by decide) (pc' := 54) rfl ?_
      refine eIConst X0 hx (1 : Int32) (hb hby own_d2_54) rfl rfl ?_
      refine eGoto X0 hx (hb hby own_d2_55) (by decide) (pc' := 59) rfl ?_
      exact eRetN X0 hx (t := .boolean) Bd.returns (by simp) hlk (hb hby own_d2_59) (by decide) (by decide) ⟨rfl, N0, e0⟩
    · rw [if_neg c2]
      refine eIcmpN X0 hx (hb hby own_d2_9) (feq c2).1 rfl ?_
      refine eILoadN X0 hx (hb hby own_d2_12) rfl rfl ?_
      refine eBipush X0 hx (13 : Int32) (hb hby own_d2_13) rfl rfl ?_
      show Ends p e below (PVI s 0 0 n0 h0 (if p1 = (13 : Int32) then (1 : Int32) else (if p1 < (32 : Int32) then (fRef_30 p1) else (if (55295 : Int32) < p1 then (fRef_30 p1) else (1 : Int32))))) s₁ m 15 #[.val (.int p1)] [(.int (13 : Int32)), (.int p1)]
      by_cases c3 : p1 = (13 : Int32)
      · rw [if_pos c3]
        refine eIcmpY X0 hx (hb hby own_d2_15) (teq c3).1 (by decide) (pc' := 54) rfl ?_
        refine eIConst X0 hx (1 : Int32) (hb hby own_d2_54) rfl rfl ?_
        refine eGoto X0 hx (hb hby own_d2_55) (by decide) (pc' := 59) rfl ?_
        exact eRetN X0 hx (t := .boolean) Bd.returns (by simp) hlk (hb hby own_d2_59) (by decide) (by decide) ⟨rfl, N0, e0⟩
      · rw [if_neg c3]
        refine eIcmpN X0 hx (hb hby own_d2_15) (feq c3).1 rfl ?_
        refine eBipush X0 hx (32 : Int32) (hb hby own_d2_18) rfl rfl ?_
        refine eILoadN X0 hx (hb hby own_d2_20) rfl rfl ?_
        have K30_4 : ∀ (T4 : State) (locs4 : List Loc), Stand p l e RM2 s m #[(.int p1)] below meth c T4 locs4 0 0 → Fr n0 locs4 → T4.heap = h0 → Ends p e below (PVI s 0 0 n0 h0 (fRef_30 p1)) T4 m 30 #[.val (.int p1)] [] := by
          intro T4 locs4 X4 N4 e4
          refine eLdcI X4 hx hZ hown (v := (57344 : Int32)) (hw _ (List.mem_of_getElem? (i := 2) rfl)) (hb hby own_d2_30) rfl ?_
          refine eILoadN X4 hx (hb hby own_d2_32) rfl rfl ?_
          have K42_5 : ∀ (T5 : State) (locs5 : List Loc), Stand p l e RM2 s m #[(.int p1)] below meth c T5 locs5 0 0 → Fr n0 locs5 → T5.heap = h0 → Ends p e below (PVI s 0 0 n0 h0 (fRef_42 p1)) T5 m 42 #[.val (.int p1)] [] := by
            intro T5 locs5 X5 N5 e5
            refine eLdcI X5 hx hZ hown (v := (65536 : Int32)) (hw _ (List.mem_of_getElem? (i := 4) rfl)) (hb hby own_d2_42) rfl ?_
            refine eILoadN X5 hx (hb hby own_d2_44) rfl rfl ?_
            show Ends p e below (PVI s 0 0 n0 h0 (if p1 < (65536 : Int32) then (0 : Int32) else (if (1114111 : Int32) < p1 then (0 : Int32) else (1 : Int32)))) T5 m 45 #[.val (.int p1)] [(.int p1), (.int (65536 : Int32))]
            by_cases c6 : p1 < (65536 : Int32)
            · rw [if_pos c6]
              refine eIcmpY X5 hx (hb hby own_d2_45) (tlt c6).2.2.1 (by decide) (pc' := 58) rfl ?_
              refine eIConst X5 hx (0 : Int32) (hb hby own_d2_58) rfl rfl ?_
              exact eRetN X5 hx (t := .boolean) Bd.returns (by simp) hlk (hb hby own_d2_59) (by decide) (by decide) ⟨rfl, N5, e5⟩
            · rw [if_neg c6]
              refine eIcmpN X5 hx (hb hby own_d2_45) (flt c6).2.2.1 rfl ?_
              refine eILoadN X5 hx (hb hby own_d2_48) rfl rfl ?_
              refine eLdcI X5 hx hZ hown (v := (1114111 : Int32)) (hw _ (List.mem_of_getElem? (i := 5) rfl)) (hb hby own_d2_49) rfl ?_
              show Ends p e below (PVI s 0 0 n0 h0 (if (1114111 : Int32) < p1 then (0 : Int32) else (1 : Int32))) T5 m 51 #[.val (.int p1)] [(.int (1114111 : Int32)), (.int p1)]
              by_cases c7 : (1114111 : Int32) < p1
              · rw [if_pos c7]
                refine eIcmpY X5 hx (hb hby own_d2_51) (tlt c7).2.2.1 (by decide) (pc' := 58) rfl ?_
                refine eIConst X5 hx (0 : Int32) (hb hby own_d2_58) rfl rfl ?_
                exact eRetN X5 hx (t := .boolean) Bd.returns (by simp) hlk (hb hby own_d2_59) (by decide) (by decide) ⟨rfl, N5, e5⟩
              · rw [if_neg c7]
                refine eIcmpN X5 hx (hb hby own_d2_51) (flt c7).2.2.1 rfl ?_
                refine eIConst X5 hx (1 : Int32) (hb hby own_d2_54) rfl rfl ?_
                refine eGoto X5 hx (hb hby own_d2_55) (by decide) (pc' := 59) rfl ?_
                exact eRetN X5 hx (t := .boolean) Bd.returns (by simp) hlk (hb hby own_d2_59) (by decide) (by decide) ⟨rfl, N5, e5⟩
          show Ends p e below (PVI s 0 0 n0 h0 (if p1 < (57344 : Int32) then (fRef_42 p1) else (if (65533 : Int32) < p1 then (fRef_42 p1) else (1 : Int32)))) T4 m 33 #[.val (.int p1)] [(.int p1), (.int (57344 : Int32))]
          by_cases c8 : p1 < (57344 : Int32)
          · rw [if_pos c8]
            refine eIcmpY X4 hx (hb hby own_d2_33) (tlt c8).2.2.1 (by decide) (pc' := 42) rfl ?_
            exact K42_5 T4 _ X4 N4 e4
          · rw [if_neg c8]
            refine eIcmpN X4 hx (hb hby own_d2_33) (flt c8).2.2.1 rfl ?_
            refine eILoadN X4 hx (hb hby own_d2_36) rfl rfl ?_
            refine eLdcI X4 hx hZ hown (v := (65533 : Int32)) (hw _ (List.mem_of_getElem? (i := 25) rfl)) (hb hby own_d2_37) rfl ?_
            show Ends p e below (PVI s 0 0 n0 h0 (if (65533 : Int32) < p1 then (fRef_42 p1) else (1 : Int32))) T4 m 39 #[.val (.int p1)] [(.int (65533 : Int32)), (.int p1)]
            by_cases c9 : (65533 : Int32) < p1
            · rw [if_pos c9]
              refine eIcmpN X4 hx (hb hby own_d2_39) (tlt c9).2.2.2 rfl ?_
              exact K42_5 T4 _ X4 N4 e4
            · rw [if_neg c9]
              refine eIcmpY X4 hx (hb hby own_d2_39) (flt c9).2.2.2 (by decide) (pc' := 54) rfl ?_
              refine eIConst X4 hx (1 : Int32) (hb hby own_d2_54) rfl rfl ?_
              refine eGoto X4 hx (hb hby own_d2_55) (by decide) (pc' := 59) rfl ?_
              exact eRetN X4 hx (t := .boolean) Bd.returns (by simp) hlk (hb hby own_d2_59) (by decide) (by decide) ⟨rfl, N4, e4⟩
        show Ends p e below (PVI s 0 0 n0 h0 (if p1 < (32 : Int32) then (fRef_30 p1) else (if (55295 : Int32) < p1 then (fRef_30 p1) else (1 : Int32)))) s₁ m 21 #[.val (.int p1)] [(.int p1), (.int (32 : Int32))]
        by_cases c10 : p1 < (32 : Int32)
        · rw [if_pos c10]
          refine eIcmpY X0 hx (hb hby own_d2_21) (tlt c10).2.2.1 (by decide) (pc' := 30) rfl ?_
          exact K30_4 s₁ _ X0 N0 e0
        · rw [if_neg c10]
          refine eIcmpN X0 hx (hb hby own_d2_21) (flt c10).2.2.1 rfl ?_
          refine eILoadN X0 hx (hb hby own_d2_24) rfl rfl ?_
          refine eLdcI X0 hx hZ hown (v := (55295 : Int32)) (hw _ (List.mem_of_getElem? (i := 24) rfl)) (hb hby own_d2_25) rfl ?_
          show Ends p e below (PVI s 0 0 n0 h0 (if (55295 : Int32) < p1 then (fRef_30 p1) else (1 : Int32))) s₁ m 27 #[.val (.int p1)] [(.int (55295 : Int32)), (.int p1)]
          by_cases c11 : (55295 : Int32) < p1
          · rw [if_pos c11]
            refine eIcmpN X0 hx (hb hby own_d2_27) (tlt c11).2.2.2 rfl ?_
            exact K30_4 s₁ _ X0 N0 e0
          · rw [if_neg c11]
            refine eIcmpY X0 hx (hb hby own_d2_27) (flt c11).2.2.2 (by decide) (pc' := 54) rfl ?_
            refine eIConst X0 hx (1 : Int32) (hb hby own_d2_54) rfl rfl ?_
            refine eGoto X0 hx (hb hby own_d2_55) (by decide) (pc' := 59) rfl ?_
            exact eRetN X0 hx (t := .boolean) Bd.returns (by simp) hlk (hb hby own_d2_59) (by decide) (by decide) ⟨rfl, N0, e0⟩
theorem own_d3_0 : decode jdk_29_method_69_code 0 = .ok (.iload_n 0, 1) := by decide +kernel
theorem own_d3_1 : decode jdk_29_method_69_code 1 = .ok (.iload_n 1, 1) := by decide +kernel
theorem own_d3_2 : decode jdk_29_method_69_code 2 = .ok (.if_icmp .gt 7, 3) := by decide +kernel
theorem own_d3_9 : decode jdk_29_method_69_code 9 = .ok (.iload_n 1, 1) := by decide +kernel
theorem own_d3_10 : decode jdk_29_method_69_code 10 = .ok (.ireturn, 1) := by decide +kernel
theorem own_d3_5 : decode jdk_29_method_69_code 5 = .ok (.iload_n 0, 1) := by decide +kernel
theorem own_d3_6 : decode jdk_29_method_69_code 6 = .ok (.goto 4, 3) := by decide +kernel
def RM3 : Room := { frames := 0, cells := 0, slots := 0, locals := 0 }
def fMin_0 (p1 : Int32) (p2 : Int32) : Int32 := (if p2 < p1 then p2 else p1)
theorem own_ef3 (m : MethodId) (p1 : Int32) (p2 : Int32) : entryFrame m #[(.int p1), (.int p2)] 2 = mkF m 0 #[.val (.int p1), .val (.int p2)] [] := by first | (simp [entryFrame, mkF, argsToLocals, Value.category]; done) | rfl
set_option maxRecDepth 65536 in
set_option maxHeartbeats 40000000 in
theorem rm3 (l : Launch) (Z : State) (a0 : Array Value) (hw : ∀ d ∈ tables_1, d.before a0 Z = true) (ws : List Jvm.Cond) (p1 : Int32) (p2 : Int32) (h0 : Heap) (n0 : Nat) (Z0 : n0 ≤ h0.size) : MetQ l Z (⟨"java/lang/Math", "min", "(II)I"⟩ : MethodName) (Jvm.Cond.code (⟨"java/lang/Math", "min", "(II)I"⟩ : MethodName) jdk_29_method_69_code 2 (some .int) :: ws) RM3 #[(.int p1), (.int p2)] h0 (fun v h L => v = some (.int (fMin_0 p1 p2)) ∧ Fr n0 L ∧ h = h0) := by
  refine MetFree.of_bodySF (Jvm.Free.JP.mathPlain rfl (by decide +kernel)) hisR ?_
  intro p e s m args below meth c s₁ Bd hml0 hP hK
  obtain ⟨rfl, hZ, hh⟩ := hP
  have hx := Bd.exec
  have hby := Bd.bytes
  have hml : c.maxLocals = 2 := hml0
  have hown : s.vm.findClass "java/lang/Math" = some m.cls := findClass_of_methodNamed Bd.named
  have hnm := (name_of_methodNamed Bd.named Bd.method).1
  have hlk : meth.locks = false := BodyLoose.notSynchronized Bd
  have X0 : Stand p l e RM3 s m #[(.int p1), (.int p2)] below meth c s₁ [] 0 0 := Stand.of_body Bd
  have e0 : s₁.heap = h0 := by rw [← hh, Bd.state]; rfl
  have N0 := Fr.nil n0
  suffices kk : Ends p e below (PVI s 0 0 n0 h0 (fMin_0 p1 p2)) s₁ m 0 #[.val (.int p1), .val (.int p2)] [] by
    obtain ⟨t, o, k1, k2, k3, k4⟩ := kk
    exact ⟨t, o, castTop (own_ef3 m p1 p2) k1, k2, k3, k4⟩
  refine eILoadN X0 hx (hb hby own_d3_0) rfl rfl ?_
  refine eILoadN X0 hx (hb hby own_d3_1) rfl rfl ?_
  show Ends p e below (PVI s 0 0 n0 h0 (if p2 < p1 then p2 else p1)) s₁ m 2 #[.val (.int p1), .val (.int p2)] [(.int p2), (.int p1)]
  by_cases c1 : p2 < p1
  · rw [if_pos c1]
    refine eIcmpY X0 hx (hb hby own_d3_2) (tlt c1).2.2.1 (by decide) (pc' := 9) rfl ?_
    refine eILoadN X0 hx (hb hby own_d3_9) rfl rfl ?_
    exact eRetI X0 hx Bd.returns hlk (hb hby own_d3_10) (by decide) (by decide) ⟨rfl, N0, e0⟩
  · rw [if_neg c1]
    refine eIcmpN X0 hx (hb hby own_d3_2) (flt c1).2.2.1 rfl ?_
    refine eILoadN X0 hx (hb hby own_d3_5) rfl rfl ?_
    refine eGoto X0 hx (hb hby own_d3_6) (by decide) (pc' := 10) rfl ?_
    exact eRetI X0 hx Bd.returns hlk (hb hby own_d3_10) (by decide) (by decide) ⟨rfl, N0, e0⟩
theorem own_ix (vs : List Int32) (k n : Int32) (h : (vs.length : Int) = n.toInt) (hn : 0 < n.toInt) : InB vs ((k &&& 2147483647) % n) := by
  have h1 := c_mask k 2147483647 31 (by decide) (by decide)
  have h2 := (c_iremV (k &&& 2147483647) n).1 (by rw [h1]; omega) hn
  refine ⟨fun q => ?_, ?_⟩
  · rw [Int32.lt_iff_toInt_lt] at q; simp only [Int32.reduceToInt] at q; omega
  · simp only [Int32.toNatClampNeg]; omega
theorem own_pd0 : parseMethodDescriptor "(I)Z" = some ⟨[.int], some .boolean⟩ := by decide +kernel
theorem own_pd1 : parseMethodDescriptor "(II)I" = some ⟨[.int, .int], some .int⟩ := by decide +kernel
def f0_116 (v5_12 : Int32) : Int32 := (if (fIs_0 v5_12) = (fRef_0 v5_12) then (1 : Int32) else (0 : Int32))
def f0_77 (t20 : Int32) : Int32 := (f0_116 t20)
def f0_0 (p1 : Int32) (p2 : Int32) (p3 : Int32) (p4 : Int32) : Int32 := (if (p1 &&& (1 : Int32)) = (0 : Int32) then (if p2 < (0 : Int32) then (f0_77 p2) else (f0_77 (p2 % (1114112 : Int32)))) else (f0_116 (fMin_0 ((rd [(0 : Int32), (9 : Int32), (10 : Int32), (13 : Int32), (32 : Int32), (55296 : Int32), (57344 : Int32), (65534 : Int32), (65536 : Int32), (1114111 : Int32)] ((p3 &&& (2147483647 : Int32)) % (10 : Int32))) + (((p4 &&& (2147483647 : Int32)) % (5 : Int32)) - (2 : Int32))) (1114111 : Int32))))
theorem own_ef0 (m : MethodId) (p1 : Int32) (p2 : Int32) (p3 : Int32) (p4 : Int32) : entryFrame m #[(.int p1), (.int p2), (.int p3), (.int p4)] maxLocals = mkF m 0 #[.val (.int p1), .val (.int p2), .val (.int p3), .val (.int p4), .unset, .unset, .unset, .unset] [] := by first | (simp [entryFrame, mkF, argsToLocals, Value.category, maxLocals]; done) | rfl
set_option maxRecDepth 65536 in
set_option maxHeartbeats 40000000 in
theorem rm0 (l : Launch) (Z : State) (a0 : Array Value) (hw : ∀ d ∈ tables_1, d.before a0 Z = true) (ws : List Jvm.Cond) (p1 : Int32) (p2 : Int32) (p3 : Int32) (p4 : Int32) (h0 : Heap) (n0 : Nat) (Z0 : n0 ≤ h0.size) : MetC l Z x (Jvm.Cond.code x code maxLocals ret :: ws) room_1 #[(.int p1), (.int p2), (.int p3), (.int p4)] h0 16 128 (fun v h L => v = some (.int (f0_0 p1 p2 p3 p4)) ∧ Fr n0 L) := by
  refine MetFree.of_bodySF (plainFor_of_name own_pn1) hisR ?_
  intro p e s m args below meth c s₁ Bd hml0 hP hK
  obtain ⟨rfl, hZ, hh⟩ := hP
  have hx := Bd.exec
  have hby := Bd.bytes
  have hml : c.maxLocals = 8 := hml0
  have hown : s.vm.findClass "com/example/wildcard/wildcard/XmlCharactersIsCharacterPinLaw" = some m.cls := findClass_of_methodNamed Bd.named
  have hnm := (name_of_methodNamed Bd.named Bd.method).1
  have hlk : meth.locks = false := BodyLoose.notSynchronized Bd
  have X0 : Stand p l e room_1 s m #[(.int p1), (.int p2), (.int p3), (.int p4)] below meth c s₁ [] 0 0 := Stand.of_body Bd
  have e0 : s₁.heap = h0 := by rw [← hh, Bd.state]; rfl
  have N0 := Fr.nil n0
  suffices kk : Ends p e below (PVW s 16 128 n0 (f0_0 p1 p2 p3 p4)) s₁ m 0 #[.val (.int p1), .val (.int p2), .val (.int p3), .val (.int p4), .unset, .unset, .unset, .unset] [] by
    obtain ⟨t, o, k1, k2, k3, k4⟩ := kk
    exact ⟨t, o, castTop (own_ef0 m p1 p2 p3 p4) k1, k2, k3, k4⟩
  refine eBipush X0 hx (10 : Int32) (hb hby at_0) rfl rfl ?_
  refine eNewA X0 hx hZ rfl rfl (hw _ (List.mem_of_getElem? (i := 0) rfl)) e0 (hb hby at_2) (by decide) (cap := 10) (by decide) (by decide) (by decide) (by decide) rfl (fun T1 h1 ad1 g1 X1 e1 E1 A1 => ?_)
  have Z1 := Nat.le_trans Z0 E1.1
  have ge_ad1 : n0 ≤ ad1 := Nat.le_trans Z0 (Nat.le_of_eq g1.symm)
  have A1 : Ar Z h1 ad1 .int [(0 : Int32), (0 : Int32), (0 : Int32), (0 : Int32), (0 : Int32), (0 : Int32), (0 : Int32), (0 : Int32), (0 : Int32), (0 : Int32)] := A1
  refine eDup X1 hx (hb hby at_4) rfl rfl ?_
  refine eIConst X1 hx (0 : Int32) (hb hby at_5) rfl rfl ?_
  refine eIConst X1 hx (0 : Int32) (hb hby at_6) rfl rfl ?_
  refine eIAStore X1 hx hZ e1 A1 (inbL (n := 10) rfl (by decide)) (hb hby at_7) rfl (fun T2 h2 X2 e2 W2 B2 => ?_)
  have A1 : Ar Z h2 ad1 .int [(0 : Int32), (0 : Int32), (0 : Int32), (0 : Int32), (0 : Int32), (0 : Int32), (0 : Int32), (0 : Int32), (0 : Int32), (0 : Int32)] := B2
  have N2 := Fr.snoc X2 N0 ge_ad1
  have Z2 := Nat.le_trans Z1 (Keep.of_wr W2).1
  refine eDup X2 hx (hb hby at_8) rfl rfl ?_
  refine eIConst X2 hx (1 : Int32) (hb hby at_9) rfl rfl ?_
  refine eBipush X2 hx (9 : Int32) (hb hby at_10) rfl rfl ?_
  refine eIAStore X2 hx hZ e2 A1 (inbL (n := 10) rfl (by decide)) (hb hby at_12) rfl (fun T3 h3 X3 e3 W3 B3 => ?_)
  have A1 : Ar Z h3 ad1 .int [(0 : Int32), (9 : Int32), (0 : Int32), (0 : Int32), (0 : Int32), (0 : Int32), (0 : Int32), (0 : Int32), (0 : Int32), (0 : Int32)] := B3
  have N3 := Fr.snoc X3 N2 ge_ad1
  have Z3 := Nat.le_trans Z2 (Keep.of_wr W3).1
  refine eDup X3 hx (hb hby at_13) rfl rfl ?_
  refine eIConst X3 hx (2 : Int32) (hb hby at_14) rfl rfl ?_
  refine eBipush X3 hx (10 : Int32) (hb hby at_15) rfl rfl ?_
  refine eIAStore X3 hx hZ e3 A1 (inbL (n := 10) rfl (by decide)) (hb hby at_17) rfl (fun T4 h4 X4 e4 W4 B4 => ?_)
  have A1 : Ar Z h4 ad1 .int [(0 : Int32), (9 : Int32), (10 : Int32), (0 : Int32), (0 : Int32), (0 : Int32), (0 : Int32), (0 : Int32), (0 : Int32), (0 : Int32)] := B4
  have N4 := Fr.snoc X4 N3 ge_ad1
  have Z4 := Nat.le_trans Z3 (Keep.of_wr W4).1
  refine eDup X4 hx (hb hby at_18) rfl rfl ?_
  refine eIConst X4 hx (3 : Int32) (hb hby at_19) rfl rfl ?_
  refine eBipush X4 hx (13 : Int32) (hb hby at_20) rfl rfl ?_
  refine eIAStore X4 hx hZ e4 A1 (inbL (n := 10) rfl (by decide)) (hb hby at_22) rfl (fun T5 h5 X5 e5 W5 B5 => ?_)
  have A1 : Ar Z h5 ad1 .int [(0 : Int32), (9 : Int32), (10 : Int32), (13 : Int32), (0 : Int32), (0 : Int32), (0 : Int32), (0 : Int32), (0 : Int32), (0 : Int32)] := B5
  have N5 := Fr.snoc X5 N4 ge_ad1
  have Z5 := Nat.le_trans Z4 (Keep.of_wr W5).1
  refine eDup X5 hx (hb hby at_23) rfl rfl ?_
  refine eIConst X5 hx (4 : Int32) (hb hby at_24) rfl rfl ?_
  refine eBipush X5 hx (32 : Int32) (hb hby at_25) rfl rfl ?_
  refine eIAStore X5 hx hZ e5 A1 (inbL (n := 10) rfl (by decide)) (hb hby at_27) rfl (fun T6 h6 X6 e6 W6 B6 => ?_)
  have A1 : Ar Z h6 ad1 .int [(0 : Int32), (9 : Int32), (10 : Int32), (13 : Int32), (32 : Int32), (0 : Int32), (0 : Int32), (0 : Int32), (0 : Int32), (0 : Int32)] := B6
  have N6 := Fr.snoc X6 N5 ge_ad1
  have Z6 := Nat.le_trans Z5 (Keep.of_wr W6).1
  refine eDup X6 hx (hb hby at_28) rfl rfl ?_
  refine eIConst X6 hx (5 : Int32) (hb hby at_29) rfl rfl ?_
  refine eLdcI X6 hx hZ hown (v := (55296 : Int32)) (hw _ (List.mem_of_getElem? (i := 1) rfl)) (hb hby at_30) rfl ?_
  refine eIAStore X6 hx hZ e6 A1 (inbL (n := 10) rfl (by decide)) (hb hby at_32) rfl (fun T7 h7 X7 e7 W7 B7 => ?_)
  have A1 : Ar Z h7 ad1 .int [(0 : Int32), (9 : Int32), (10 : Int32), (13 : Int32), (32 : Int32), (55296 : Int32), (0 : Int32), (0 : Int32), (0 : Int32), (0 : Int32)] := B7
  have N7 := Fr.snoc X7 N6 ge_ad1
  have Z7 := Nat.le_trans Z6 (Keep.of_wr W7).1
  refine eDup X7 hx (hb hby at_33) rfl rfl ?_
  refine eBipush X7 hx (6 : Int32) (hb hby at_34) rfl rfl ?_
  refine eLdcI X7 hx hZ hown (v := (57344 : Int32)) (hw _ (List.mem_of_getElem? (i := 2) rfl)) (hb hby at_36) rfl ?_
  refine eIAStore X7 hx hZ e7 A1 (inbL (n := 10) rfl (by decide)) (hb hby at_38) rfl (fun T8 h8 X8 e8 W8 B8 => ?_)
  have A1 : Ar Z h8 ad1 .int [(0 : Int32), (9 : Int32), (10 : Int32), (13 : Int32), (32 : Int32), (55296 : Int32), (57344 : Int32), (0 : Int32), (0 : Int32), (0 : Int32)] := B8
  have N8 := Fr.snoc X8 N7 ge_ad1
  have Z8 := Nat.le_trans Z7 (Keep.of_wr W8).1
  refine eDup X8 hx (hb hby at_39) rfl rfl ?_
  refine eBipush X8 hx (7 : Int32) (hb hby at_40) rfl rfl ?_
  refine eLdcI X8 hx hZ hown (v := (65534 : Int32)) (hw _ (List.mem_of_getElem? (i := 3) rfl)) (hb hby at_42) rfl ?_
  refine eIAStore X8 hx hZ e8 A1 (inbL (n := 10) rfl (by decide)) (hb hby at_44) rfl (fun T9 h9 X9 e9 W9 B9 => ?_)
  have A1 : Ar Z h9 ad1 .int [(0 : Int32), (9 : Int32), (10 : Int32), (13 : Int32), (32 : Int32), (55296 : Int32), (57344 : Int32), (65534 : Int32), (0 : Int32), (0 : Int32)] := B9
  have N9 := Fr.snoc X9 N8 ge_ad1
  have Z9 := Nat.le_trans Z8 (Keep.of_wr W9).1
  refine eDup X9 hx (hb hby at_45) rfl rfl ?_
  refine eBipush X9 hx (8 : Int32) (hb hby at_46) rfl rfl ?_
  refine eLdcI X9 hx hZ hown (v := (65536 : Int32)) (hw _ (List.mem_of_getElem? (i := 4) rfl)) (hb hby at_48) rfl ?_
  refine eIAStore X9 hx hZ e9 A1 (inbL (n := 10) rfl (by decide)) (hb hby at_50) rfl (fun T10 h10 X10 e10 W10 B10 => ?_)
  have A1 : Ar Z h10 ad1 .int [(0 : Int32), (9 : Int32), (10 : Int32), (13 : Int32), (32 : Int32), (55296 : Int32), (57344 : Int32), (65534 : Int32), (65536 : Int32), (0 : Int32)] := B10
  have N10 := Fr.snoc X10 N9 ge_ad1
  have Z10 := Nat.le_trans Z9 (Keep.of_wr W10).1
  refine eDup X10 hx (hb hby at_51) rfl rfl ?_
  refine eBipush X10 hx (9 : Int32) (hb hby at_52) rfl rfl ?_
  refine eLdcI X10 hx hZ hown (v := (1114111 : Int32)) (hw _ (List.mem_of_getElem? (i := 5) rfl)) (hb hby at_54) rfl ?_
  refine eIAStore X10 hx hZ e10 A1 (inbL (n := 10) rfl (by decide)) (hb hby at_56) rfl (fun T11 h11 X11 e11 W11 B11 => ?_)
  have A1 : Ar Z h11 ad1 .int [(0 : Int32), (9 : Int32), (10 : Int32), (13 : Int32), (32 : Int32), (55296 : Int32), (57344 : Int32), (65534 : Int32), (65536 : Int32), (1114111 : Int32)] := B11
  have N11 := Fr.snoc X11 N10 ge_ad1
  have Z11 := Nat.le_trans Z10 (Keep.of_wr W11).1
  refine eAStore X11 hx (hb hby at_57) rfl (L' := #[.val (.int p1), .val (.int p2), .val (.int p3), .val (.int p4), .val (.ref ad1), .unset, .unset, .unset]) rfl rfl ?_
  refine eILoadN X11 hx (hb hby at_59) rfl rfl ?_
  refine eIConst X11 hx (1 : Int32) (hb hby at_60) rfl rfl ?_
  refine eIAnd X11 hx (hb hby at_61) rfl ?_
  have K116_15 : ∀ (v5_12 : Int32) (z6_13 : Slot) (z7_14 : Slot) (T15 : State) (locs15 : List Loc), Stand p l e room_1 s m #[(.int p1), (.int p2), (.int p3), (.int p4)] below meth c T15 locs15 1 10 → Fr n0 locs15 → T15.heap = h11 → Ends p e below (PVW s 16 128 n0 (f0_116 v5_12)) T15 m 116 #[.val (.int p1), .val (.int p2), .val (.int p3), .val (.int p4), .val (.ref ad1), .val (.int v5_12), z6_13, z7_14] [] := by
    intro v5_12 z6_13 z7_14 T15 locs15 X15 N15 e15
    refine eILoad X15 hx (hb hby at_116) rfl rfl ?_
    refine eCallS X15 hx hZ (y := (⟨"com/example/wildcard/wildcard/XmlCharacters", "isCharacter", "(I)Z"⟩ : MethodName)) hown (hw _ (List.mem_of_getElem? (i := 7) rfl)) (hw _ (List.mem_of_getElem? (i := 8) rfl)) (hw _ (List.mem_of_getElem? (i := 9) rfl)) (hw _ (List.mem_of_getElem? (i := 10) rfl)) (by decide) e15 (rm1 l Z a0 hw [] v5_12 h11 n0 Z11) (argsL := [(.int v5_12)]) (rest := []) (lenOf own_pd0 rfl) rfl (by rw [hml]; rfl) 0 (by exact Nat.le_refl _) (by decide) (by decide) (by decide) (by decide) (hb hby at_118) rfl (fun v16 T16 L16 q16 (X16 : Stand _ _ _ _ _ _ _ _ _ _ T16 _ 1 10) => ?_)
    obtain ⟨rfl, N16', e16⟩ := q16
    have N16 := Fr.app N15 N16'
    show Ends p e below _ T16 m 121 #[.val (.int p1), .val (.int p2), .val (.int p3), .val (.int p4), .val (.ref ad1), .val (.int v5_12), z6_13, z7_14] [(.int (fIs_0 v5_12))]
    refine eILoad X16 hx (hb hby at_121) rfl rfl ?_
    refine eCallS X16 hx hZ (y := (⟨"com/example/wildcard/wildcard/XmlCharactersIsCharacterPinLaw", "reference", "(I)Z"⟩ : MethodName)) hown (hw _ (List.mem_of_getElem? (i := 11) rfl)) (hw _ (List.mem_of_getElem? (i := 12) rfl)) (hw _ (List.mem_of_getElem? (i := 13) rfl)) (hw _ (List.mem_of_getElem? (i := 14) rfl)) (by decide) e16 (rm2 l Z a0 hw [] v5_12 h11 n0 Z11) (argsL := [(.int v5_12)]) (rest := [(.int (fIs_0 v5_12))]) (lenOf own_pd0 rfl) rfl (by rw [hml]; rfl) 1 (by exact Nat.le_refl _) (by decide) (by decide) (by decide) (by decide) (hb hby at_123) rfl (fun v17 T17 L17 q17 (X17 : Stand _ _ _ _ _ _ _ _ _ _ T17 _ 1 10) => ?_)
    obtain ⟨rfl, N17', e17⟩ := q17
    have N17 := Fr.app N16 N17'
    show Ends p e below _ T17 m 126 #[.val (.int p1), .val (.int p2), .val (.int p3), .val (.int p4), .val (.ref ad1), .val (.int v5_12), z6_13, z7_14] [(.int (fRef_0 v5_12)), (.int (fIs_0 v5_12))]
    show Ends p e below (PVW s 16 128 n0 (if (fIs_0 v5_12) = (fRef_0 v5_12) then (1 : Int32) else (0 : Int32))) T17 m 126 #[.val (.int p1), .val (.int p2), .val (.int p3), .val (.int p4), .val (.ref ad1), .val (.int v5_12), z6_13, z7_14] [(.int (fRef_0 v5_12)), (.int (fIs_0 v5_12))]
    by_cases c18 : (fIs_0 v5_12) = (fRef_0 v5_12)
    · rw [if_pos c18]
      refine eIcmpN X17 hx (hb hby at_126) (teq c18).2 rfl ?_
      refine eIConst X17 hx (1 : Int32) (hb hby at_129) rfl rfl ?_
      refine eGoto X17 hx (hb hby at_130) (by decide) (pc' := 134) rfl ?_
      exact eRetN X17 hx (t := .boolean) Bd.returns (by simp) hlk (hb hby at_134) (by decide) (by decide) ⟨rfl, N17⟩
    · rw [if_neg c18]
      refine eIcmpY X17 hx (hb hby at_126) (feq c18).2 (by decide) (pc' := 133) rfl ?_
      refine eIConst X17 hx (0 : Int32) (hb hby at_133) rfl rfl ?_
      exact eRetN X17 hx (t := .boolean) Bd.returns (by simp) hlk (hb hby at_134) (by decide) (by decide) ⟨rfl, N17⟩
  show Ends p e below (PVW s 16 128 n0 (if (p1 &&& (1 : Int32)) = (0 : Int32) then (if p2 < (0 : Int32) then (f0_77 p2) else (f0_77 (p2 % (1114112 : Int32)))) else (f0_116 (fMin_0 ((rd [(0 : Int32), (9 : Int32), (10 : Int32), (13 : Int32), (32 : Int32), (55296 : Int32), (57344 : Int32), (65534 : Int32), (65536 : Int32), (1114111 : Int32)] ((p3 &&& (2147483647 : Int32)) % (10 : Int32))) + (((p4 &&& (2147483647 : Int32)) % (5 : Int32)) - (2 : Int32))) (1114111 : Int32))))) T11 m 62 #[.val (.int p1), .val (.int p2), .val (.int p3), .val (.int p4), .val (.ref ad1), .unset, .unset, .unset] [(.int (p1 &&& (1 : Int32)))]
  by_cases c19 : (p1 &&& (1 : Int32)) = (0 : Int32)
  · rw [if_pos c19]
    refine eIfN X11 hx (hb hby at_62) ((if0 _ _).trans (teq c19).2) rfl ?_
    refine eILoadN X11 hx (hb hby at_65) rfl rfl ?_
    have K77_21 : ∀ (t20 : Int32) (T21 : State) (locs21 : List Loc), Stand p l e room_1 s m #[(.int p1), (.int p2), (.int p3), (.int p4)] below meth c T21 locs21 1 10 → Fr n0 locs21 → T21.heap = h11 → Ends p e below (PVW s 16 128 n0 (f0_77 t20)) T21 m 77 #[.val (.int p1), .val (.int p2), .val (.int p3), .val (.int p4), .val (.ref ad1), .unset, .unset, .unset] [(.int t20)] := by
      intro t20 T21 locs21 X21 N21 e21
      refine eIStore X21 hx (hb hby at_77) (L' := #[.val (.int p1), .val (.int p2), .val (.int p3), .val (.int p4), .val (.ref ad1), .val (.int t20), .unset, .unset]) rfl rfl ?_
      refine eGoto X21 hx (hb hby at_79) (by decide) (pc' := 116) rfl ?_
      exact K116_15 t20 (.unset) (.unset) T21 _ X21 N21 e21
    show Ends p e below (PVW s 16 128 n0 (if p2 < (0 : Int32) then (f0_77 p2) else (f0_77 (p2 % (1114112 : Int32))))) T11 m 66 #[.val (.int p1), .val (.int p2), .val (.int p3), .val (.int p4), .val (.ref ad1), .unset, .unset, .unset] [(.int p2)]
    by_cases c22 : p2 < (0 : Int32)
    · rw [if_pos c22]
      refine eIfN X11 hx (hb hby at_66) ((if0 _ _).trans (tlt c22).2.1) rfl ?_
      refine eILoadN X11 hx (hb hby at_69) rfl rfl ?_
      refine eGoto X11 hx (hb hby at_70) (by decide) (pc' := 77) rfl ?_
      exact K77_21 p2 T11 _ X11 N11 e11
    · rw [if_neg c22]
      refine eIfY X11 hx (hb hby at_66) ((if0 _ _).trans (flt c22).2.1) (by decide) (pc' := 73) rfl ?_
      refine eILoadN X11 hx (hb hby at_73) rfl rfl ?_
      refine eLdcI X11 hx hZ hown (v := (1114112 : Int32)) (hw _ (List.mem_of_getElem? (i := 6) rfl)) (hb hby at_74) rfl ?_
      refine eIRem X11 hx (hb hby at_76) (by decide) rfl ?_
      exact K77_21 (p2 % (1114112 : Int32)) T11 _ X11 N11 e11
  · rw [if_neg c19]
    refine eIfY X11 hx (hb hby at_62) ((if0 _ _).trans (feq c19).2) (by decide) (pc' := 82) rfl ?_
    refine eALoad X11 hx (hb hby at_82) rfl rfl rfl ?_
    refine eILoadN X11 hx (hb hby at_84) rfl rfl ?_
    refine eLdcI X11 hx hZ hown (v := (2147483647 : Int32)) (hw _ (List.mem_of_getElem? (i := 15) rfl)) (hb hby at_85) rfl ?_
    refine eIAnd X11 hx (hb hby at_87) rfl ?_
    refine eBipush X11 hx (10 : Int32) (hb hby at_88) rfl rfl ?_
    refine eIRem X11 hx (hb hby at_90) (by decide) rfl ?_
    refine eIALoad X11 hx hZ e11 A1 (rd [(0 : Int32), (9 : Int32), (10 : Int32), (13 : Int32), (32 : Int32), (55296 : Int32), (57344 : Int32), (65534 : Int32), (65536 : Int32), (1114111 : Int32)] ((p3 &&& (2147483647 : Int32)) % (10 : Int32))) rfl (own_ix _ _ _ (by decide) (by decide)) (hb hby at_91) rfl ?_
    refine eIStore X11 hx (hb hby at_92) (L' := #[.val (.int p1), .val (.int p2), .val (.int p3), .val (.int p4), .val (.ref ad1), .unset, .val (.int (rd [(0 : Int32), (9 : Int32), (10 : Int32), (13 : Int32), (32 : Int32), (55296 : Int32), (57344 : Int32), (65534 : Int32), (65536 : Int32), (1114111 : Int32)] ((p3 &&& (2147483647 : Int32)) % (10 : Int32)))), .unset]) rfl rfl ?_
    refine eILoadN X11 hx (hb hby at_94) rfl rfl ?_
    refine eLdcI X11 hx hZ hown (v := (2147483647 : Int32)) (hw _ (List.mem_of_getElem? (i := 15) rfl)) (hb hby at_95) rfl ?_
    refine eIAnd X11 hx (hb hby at_97) rfl ?_
    refine eIConst X11 hx (5 : Int32) (hb hby at_98) rfl rfl ?_
    refine eIRem X11 hx (hb hby at_99) (by decide) rfl ?_
    refine eIConst X11 hx (2 : Int32) (hb hby at_100) rfl rfl ?_
    refine eISub X11 hx (hb hby at_101) rfl ?_
    refine eIStore X11 hx (hb hby at_102) (L' := #[.val (.int p1), .val (.int p2), .val (.int p3), .val (.int p4), .val (.ref ad1), .unset, .val (.int (rd [(0 : Int32), (9 : Int32), (10 : Int32), (13 : Int32), (32 : Int32), (55296 : Int32), (57344 : Int32), (65534 : Int32), (65536 : Int32), (1114111 : Int32)] ((p3 &&& (2147483647 : Int32)) % (10 : Int32)))), .val (.int (((p4 &&& (2147483647 : Int32)) % (5 : Int32)) - (2 : Int32)))]) rfl rfl ?_
    refine eILoad X11 hx (hb hby at_104) rfl rfl ?_
    refine eILoad X11 hx (hb hby at_106) rfl rfl ?_
    refine eIAdd X11 hx (hb hby at_108) rfl ?_
    refine eLdcI X11 hx hZ hown (v := (1114111 : Int32)) (hw _ (List.mem_of_getElem? (i := 5) rfl)) (hb hby at_109) rfl ?_
    refine eCallS X11 hx hZ (y := (⟨"java/lang/Math", "min", "(II)I"⟩ : MethodName)) hown (hw _ (List.mem_of_getElem? (i := 16) rfl)) (hw _ (List.mem_of_getElem? (i := 17) rfl)) (hw _ (List.mem_of_getElem? (i := 18) rfl)) (hw _ (List.mem_of_getElem? (i := 19) rfl)) (by decide) e11 (rm3 l Z a0 hw [] ((rd [(0 : Int32), (9 : Int32), (10 : Int32), (13 : Int32), (32 : Int32), (55296 : Int32), (57344 : Int32), (65534 : Int32), (65536 : Int32), (1114111 : Int32)] ((p3 &&& (2147483647 : Int32)) % (10 : Int32))) + (((p4 &&& (2147483647 : Int32)) % (5 : Int32)) - (2 : Int32))) (1114111 : Int32) h11 n0 Z11) (argsL := [(.int ((rd [(0 : Int32), (9 : Int32), (10 : Int32), (13 : Int32), (32 : Int32), (55296 : Int32), (57344 : Int32), (65534 : Int32), (65536 : Int32), (1114111 : Int32)] ((p3 &&& (2147483647 : Int32)) % (10 : Int32))) + (((p4 &&& (2147483647 : Int32)) % (5 : Int32)) - (2 : Int32)))), (.int (1114111 : Int32))]) (rest := []) (lenOf own_pd1 rfl) rfl (by rw [hml]; rfl) 0 (by exact Nat.le_refl _) (by decide) (by decide) (by decide) (by decide) (hb hby at_111) rfl (fun v23 T23 L23 q23 (X23 : Stand _ _ _ _ _ _ _ _ _ _ T23 _ 1 10) => ?_)
    obtain ⟨rfl, N23', e23⟩ := q23
    have N23 := Fr.app N11 N23'
    show Ends p e below _ T23 m 114 #[.val (.int p1), .val (.int p2), .val (.int p3), .val (.int p4), .val (.ref ad1), .unset, .val (.int (rd [(0 : Int32), (9 : Int32), (10 : Int32), (13 : Int32), (32 : Int32), (55296 : Int32), (57344 : Int32), (65534 : Int32), (65536 : Int32), (1114111 : Int32)] ((p3 &&& (2147483647 : Int32)) % (10 : Int32)))), .val (.int (((p4 &&& (2147483647 : Int32)) % (5 : Int32)) - (2 : Int32)))] [(.int (fMin_0 ((rd [(0 : Int32), (9 : Int32), (10 : Int32), (13 : Int32), (32 : Int32), (55296 : Int32), (57344 : Int32), (65534 : Int32), (65536 : Int32), (1114111 : Int32)] ((p3 &&& (2147483647 : Int32)) % (10 : Int32))) + (((p4 &&& (2147483647 : Int32)) % (5 : Int32)) - (2 : Int32))) (1114111 : Int32)))]
    refine eIStore X23 hx (hb hby at_114) (L' := #[.val (.int p1), .val (.int p2), .val (.int p3), .val (.int p4), .val (.ref ad1), .val (.int (fMin_0 ((rd [(0 : Int32), (9 : Int32), (10 : Int32), (13 : Int32), (32 : Int32), (55296 : Int32), (57344 : Int32), (65534 : Int32), (65536 : Int32), (1114111 : Int32)] ((p3 &&& (2147483647 : Int32)) % (10 : Int32))) + (((p4 &&& (2147483647 : Int32)) % (5 : Int32)) - (2 : Int32))) (1114111 : Int32))), .val (.int (rd [(0 : Int32), (9 : Int32), (10 : Int32), (13 : Int32), (32 : Int32), (55296 : Int32), (57344 : Int32), (65534 : Int32), (65536 : Int32), (1114111 : Int32)] ((p3 &&& (2147483647 : Int32)) % (10 : Int32)))), .val (.int (((p4 &&& (2147483647 : Int32)) % (5 : Int32)) - (2 : Int32)))]) rfl rfl ?_
    exact K116_15 (fMin_0 ((rd [(0 : Int32), (9 : Int32), (10 : Int32), (13 : Int32), (32 : Int32), (55296 : Int32), (57344 : Int32), (65534 : Int32), (65536 : Int32), (1114111 : Int32)] ((p3 &&& (2147483647 : Int32)) % (10 : Int32))) + (((p4 &&& (2147483647 : Int32)) % (5 : Int32)) - (2 : Int32))) (1114111 : Int32)) (.val (.int (rd [(0 : Int32), (9 : Int32), (10 : Int32), (13 : Int32), (32 : Int32), (55296 : Int32), (57344 : Int32), (65534 : Int32), (65536 : Int32), (1114111 : Int32)] ((p3 &&& (2147483647 : Int32)) % (10 : Int32))))) (.val (.int (((p4 &&& (2147483647 : Int32)) % (5 : Int32)) - (2 : Int32)))) T23 _ X23 N23 e23
theorem own_same (c : Int32) (hc : c.toInt ≤ 1114111) : fIs_0 c = fRef_0 c := by
  unfold fIs_0 fRef_0 fIs_24 fRef_30 fRef_42
  (repeat' split) <;> first | rfl | (exfalso; simp only [Int32.lt_iff_toInt_lt, ← Int32.toInt_inj, Int32.reduceToInt] at *; omega)
theorem own_min (a b : Int32) : (fMin_0 a b).toInt ≤ b.toInt := by
  unfold fMin_0
  split <;> (rename_i h; simp only [Int32.lt_iff_toInt_lt] at h; omega)
theorem law_eq (p1 p2 p3 p4 : Int32) : f0_0 p1 p2 p3 p4 = 1 := by
  have h1 := c_irem p2 1114112 1114112 (by decide)
  unfold f0_0 f0_77 f0_116
  split
  · split
    · rename_i h; simp only [Int32.lt_iff_toInt_lt, Int32.reduceToInt] at h
      rw [own_same _ (by omega), if_pos rfl]
    · rename_i h; simp only [Int32.lt_iff_toInt_lt, Int32.reduceToInt] at h
      rw [own_same _ (by have := h1.1 (by omega); omega), if_pos rfl]
  · rw [own_same _ (by have := own_min ((rd [(0 : Int32), (9 : Int32), (10 : Int32), (13 : Int32), (32 : Int32), (55296 : Int32), (57344 : Int32), (65534 : Int32), (65536 : Int32), (1114111 : Int32)] ((p3 &&& (2147483647 : Int32)) % (10 : Int32))) + (((p4 &&& (2147483647 : Int32)) % (5 : Int32)) - (2 : Int32))) 1114111; simpa using this), if_pos rfl]
set_option maxRecDepth 65536 in
set_option maxHeartbeats 40000000 in
theorem comes_1 {Post : Tables → Env → Array Value → State → Outcome → State → Prop} (hpost : ∀ tb e args s v u, (limb_1_1.after args s (.returned v) u = true ∧ limb_1_2.after args s (.returned v) u = true ∧ True) → FrameEnd s (.returned v) u (Jvm.fieldLocs frame_1_writes args s ++ Jvm.arrayLocs frame_1_arrays args s ++ Jvm.staticLocs frame_1_statics s) 16 128 → Post tb e args s (.returned v) u) :
    ArmFor flags0 classFile x code maxLocals ret World_1 tables_1 room_1 Calls_1 rest_1 Pre_1 Post := by
  intro l hfl _ _ p e ha hc hk s m args below hf hA hF happ hP
  obtain ⟨hcalls, hrest, hpre⟩ := hP
  obtain ⟨-, -, -, hnamed, -, -, -, hat⟩ := (Spec.applies_iff hf).mp happ
  obtain ⟨hg, hn⟩ := and_e (Cond.before_iff.mp (show (Jvm.Cond.and given_1 narrow_1).before args s = true from hpre))
  obtain ⟨g1, g2⟩ := and_e hg
  obtain ⟨g3, g4⟩ := and_e g2
  obtain ⟨g5, g6⟩ := and_e g4
  obtain ⟨g7, g8⟩ := and_e g6
  obtain ⟨w0, w1, w2, w3, rfl⟩ : ∃ w0 w1 w2 w3 : Value, args = #[w0, w1, w2, w3] := by
    have hs : args.size = 4 := by simpa [Cond.value, given_1] using g1
    obtain ⟨L⟩ := args
    match L, hs with
    | [w0, w1, w2, w3], _ => exact ⟨w0, w1, w2, w3, rfl⟩
  have hw := fun d (hd : d ∈ tables_1) => atoms_spec (ws := Jvm.Cond.code x code maxLocals ret :: tables_1) hat d (List.mem_cons_of_mem _ hd)
  have hfit : Fit s := fun {y c} hc i hi => by
    obtain ⟨ha, rfl⟩ := Array.getElem?_eq_some_iff.mp hc
    have q := List.all_eq_true.mp ((Array.all_eq_true_iff_forall_mem.mp hF) _ (Array.getElem_mem ha)) i (List.mem_range.mpr hi)
    simpa [Array.getElem?_eq_getElem hi] using q
  obtain ⟨i0, ei0⟩ := is_v g3
  obtain rfl : w0 = (.int i0) := Option.some.inj ei0
  obtain ⟨i1, ei1⟩ := is_v g5
  obtain rfl : w1 = (.int i1) := Option.some.inj ei1
  obtain ⟨i2, ei2⟩ := is_v g7
  obtain rfl : w2 = (.int i2) := Option.some.inj ei2
  obtain ⟨i3, ei3⟩ := is_v g8
  obtain rfl : w3 = (.int i3) := Option.some.inj ei3
  obtain ⟨n, o, h1, h2, h3, _, L, rfl, ⟨hv, N⟩, hq⟩ := rm0 l s _ hw tables_1 i0 i1 i2 i3 s.heap s.heap.size (Nat.le_refl _) p e ha hc hk s m _ below hf ((Spec.applies_iff_loose hf).mp happ).1 ⟨rfl, State.Warmed39.refl s, rfl⟩ trivial
  rw [law_eq] at hv
  subst hv
  refine ⟨n, _, h1, h2, h3, hpost _ _ _ _ _ _ ⟨Cond.after_iff.mpr rfl, Cond.after_iff.mpr (eq_i res_at (Term.int_eval (1)) rfl), trivial⟩ ⟨hq.1, hq.2.1, (hq.2.2.sift fun y hy => Or.inr (N y hy)).mono (by decide) (by decide)⟩⟩
theorem main_1_1 : Claimed_1_1 := comes_1 fun _ _ _ _ _ _ h hF => ⟨h.1, hF⟩
theorem main_1_2 : Claimed_1_2 := comes_1 fun _ _ _ _ _ _ h hF => ⟨h.2.1, hF⟩
end Jvm.Pilot.@@N@@
namespace Jvm.Pilot.@@N@@
open Jvm Jvm.ClassFile Sem Op Lib Jvm.Free Jvm.Stand Jvm.Pilot.@@N@@.Jvm.D
/-! MADE BY PROGRAM (witnessworld.py) out of the Statement's table words and the real class files: 10 classes; the members and pool entries that the words name. The judged class is class 1, her method 2. -/
namespace start1
open Jvm.ClassFile
def u (s : String) : CpInfo := .utf8 (stringToUtf16 s)
/-- a pool by its gaps: so many unusable entries, then the entry; so many at the end -/
def gap : Nat → List CpInfo → List CpInfo
  | 0, r => r
  | n + 1, r => .unusable :: gap n r
def poolList (es : List (Nat × CpInfo)) (last : Nat) : List CpInfo := es.foldr (fun e r => gap e.1 (e.2 :: r)) (gap last [])
def pool (es : List (Nat × CpInfo)) (last : Nat) : Array CpInfo := ⟨poolList es last⟩
def fileOf (pool : Array CpInfo) (this : Nat) (attrs : Array Attribute := #[]) (ms : Array MethodInfo := #[]) (fl : Nat := 33) (sup : Nat := 0) (ifs : Array Nat := #[]) (fds : Array FieldInfo := #[]) : ClassFile where
  minorVersion := 0
  majorVersion := 65
  constantPool := pool
  accessFlags := fl
  thisClass := this
  superClass := sup
  interfaces := ifs
  fields := fds
  methods := ms
  attributes := attrs
def plain (name : String) (sup : Option ClassId) : Class where
  name := name
  kind := .ordinary
  loader := none
  accessFlags := 33
  super := sup
  interfaces := #[]
  cf := none
  fields := #[]
  methods := #[]
  instanceTypes := #[]
  staticTypes := #[]
  resolved := #[]
  callSites := []
  init := .initialized
  statics := none
  mirror := none

def pool0 : Array CpInfo := pool [(5, u "<init>"), (0, u "()V"), (1, .class_ 10), (1, u "java/lang/Object")] 113

def k0m0 : Method := { name := "<init>", desc := "()V", sig := { parameters := [], returnType := none }, accessFlags := 1, code := none }
/-- java/lang/Object -/
def k0 : Class := { plain "java/lang/Object" none with
  accessFlags := 33
  interfaces := #[]
  cf := some (fileOf pool0 8 #[] #[{ accessFlags := 1, nameIndex := 5, descriptorIndex := 6, attributes := #[] }] 33 0 #[] #[])
  fields := #[]
  methods := #[k0m0]
  instanceTypes := #[]
  staticTypes := #[]
  resolved := Array.replicate 124 none
  statics := none }

def pool1 : Array CpInfo := pool [(2, .class_ 4), (1, u "java/lang/Object"), (0, u "<init>"), (0, u "()V"), (0, .integer 55295), (0, .integer 57344), (0, .integer 65533), (0, .integer 65536), (0, .integer 1114111), (0, .integer 55296), (0, .integer 65534), (0, .integer 1114112), (0, .integer 2147483647), (0, .methodref 17 18), (0, .class_ 19), (0, .nameAndType 20 21), (0, u "java/lang/Math"), (0, u "min"), (0, u "(II)I"), (0, .methodref 23 24), (0, .class_ 25), (0, .nameAndType 26 27), (0, u "com/example/wildcard/wildcard/XmlCharacters"), (0, u "isCharacter"), (0, u "(I)Z"), (0, .methodref 29 30), (0, .class_ 31), (0, .nameAndType 32 27), (0, u "com/example/wildcard/wildcard/XmlCharactersIsCharacterPinLaw"), (0, u "reference"), (3, u "law"), (0, u "(IIII)Z")] 4

def k1m0 : Method := { name := "<init>", desc := "()V", sig := { parameters := [], returnType := none }, accessFlags := 2, code := none }
def k1c1 : Code := { maxStack := 2, maxLocals := 1, code := method_2_code, exceptionTable := #[], attributes := #[] }
def k1m1 : Method := { name := "reference", desc := "(I)Z", sig := { parameters := [.int], returnType := some .boolean }, accessFlags := 10, code := some k1c1 }
def k1c2 : Code := { maxStack := 4, maxLocals := 8, code := code, exceptionTable := #[], attributes := #[] }
def k1m2 : Method := { name := "law", desc := "(IIII)Z", sig := { parameters := [.int, .int, .int, .int], returnType := some .boolean }, accessFlags := 9, code := some k1c2 }
/-- com/example/wildcard/wildcard/XmlCharactersIsCharacterPinLaw -/
def k1 : Class := { plain "com/example/wildcard/wildcard/XmlCharactersIsCharacterPinLaw" (some 0) with
  accessFlags := 49
  interfaces := #[]
  cf := some (fileOf pool1 29 #[] #[{ accessFlags := 2, nameIndex := 5, descriptorIndex := 6, attributes := #[] }, { accessFlags := 10, nameIndex := 32, descriptorIndex := 27, attributes := #[] }, { accessFlags := 9, nameIndex := 36, descriptorIndex := 37, attributes := #[] }] 49 2 #[] #[])
  fields := #[]
  methods := #[k1m0, k1m1, k1m2]
  instanceTypes := #[]
  staticTypes := #[]
  resolved := Array.replicate 42 none
  statics := none }

def pool2 : Array CpInfo := pool [(2, .class_ 4), (1, u "java/lang/Object"), (0, u "<init>"), (0, u "()V"), (0, .integer 55296), (0, .integer 57344), (0, .integer 65534), (0, .integer 65536), (21, .class_ 34), (1, u "com/example/wildcard/wildcard/XmlCharacters"), (1, u "(I)Z"), (2, u "isCharacter")] 7

def k2m0 : Method := { name := "<init>", desc := "()V", sig := { parameters := [], returnType := none }, accessFlags := 2, code := none }
def k2c1 : Code := { maxStack := 2, maxLocals := 1, code := prog_99_method_2_code, exceptionTable := #[], attributes := #[] }
def k2m1 : Method := { name := "isCharacter", desc := "(I)Z", sig := { parameters := [.int], returnType := some .boolean }, accessFlags := 8, code := some k2c1 }
/-- com/example/wildcard/wildcard/XmlCharacters -/
def k2 : Class := { plain "com/example/wildcard/wildcard/XmlCharacters" (some 0) with
  accessFlags := 48
  interfaces := #[]
  cf := some (fileOf pool2 32 #[] #[{ accessFlags := 2, nameIndex := 5, descriptorIndex := 6, attributes := #[] }, { accessFlags := 8, nameIndex := 39, descriptorIndex := 36, attributes := #[] }] 48 2 #[] #[])
  fields := #[]
  methods := #[k2m0, k2m1]
  instanceTypes := #[]
  staticTypes := #[]
  resolved := Array.replicate 47 none
  statics := none }

def pool3 : Array CpInfo := pool [(1, .class_ 2), (0, u "java/lang/Math"), (1, .class_ 6), (1, u "java/lang/Object"), (0, u "<init>"), (0, u "()V"), (89, .class_ 100), (1, u "java/lang/Math$RandomNumberGeneratorHolder"), (71, u "negativeZeroFloatBits"), (0, u "J"), (2, u "negativeZeroDoubleBits"), (24, u "min"), (43, u "$assertionsDisabled"), (0, u "Z"), (88, u "(II)I"), (2, u "twoToTheDoubleScaleDown"), (0, u "D"), (4, u "twoToTheDoubleScaleUp"), (9, u "E"), (3, u "PI"), (2, u "TAU"), (2, u "DEGREES_TO_RADIANS"), (0, u "RADIANS_TO_DEGREES")] 94

def k3m0 : Method := { name := "<init>", desc := "()V", sig := { parameters := [], returnType := none }, accessFlags := 2, code := none }
def k3c1 : Code := { maxStack := 2, maxLocals := 2, code := jdk_29_method_69_code, exceptionTable := #[], attributes := #[] }
def k3m1 : Method := { name := "min", desc := "(II)I", sig := { parameters := [.int, .int], returnType := some .int }, accessFlags := 9, code := some k3c1 }
/-- java/lang/Math -/
def k3 : Class := { plain "java/lang/Math" (some 0) with
  accessFlags := 49
  interfaces := #[]
  cf := some (fileOf pool3 1 #[.nestMembers #[98]] #[{ accessFlags := 2, nameIndex := 7, descriptorIndex := 8, attributes := #[] }, { accessFlags := 9, nameIndex := 201, descriptorIndex := 335, attributes := #[] }] 49 4 #[] #[{ accessFlags := 25, nameIndex := 354, descriptorIndex := 339, attributes := #[] }, { accessFlags := 25, nameIndex := 358, descriptorIndex := 339, attributes := #[] }, { accessFlags := 25, nameIndex := 361, descriptorIndex := 339, attributes := #[] }, { accessFlags := 26, nameIndex := 364, descriptorIndex := 339, attributes := #[] }, { accessFlags := 26, nameIndex := 365, descriptorIndex := 339, attributes := #[] }, { accessFlags := 26, nameIndex := 172, descriptorIndex := 173, attributes := #[] }, { accessFlags := 26, nameIndex := 176, descriptorIndex := 173, attributes := #[] }, { accessFlags := 8, nameIndex := 344, descriptorIndex := 339, attributes := #[] }, { accessFlags := 8, nameIndex := 338, descriptorIndex := 339, attributes := #[] }, { accessFlags := 4120, nameIndex := 245, descriptorIndex := 246, attributes := #[] }])
  fields := #[{ name := "E", type := .double, accessFlags := 25, slot := 0, constantValue := 0 }, { name := "PI", type := .double, accessFlags := 25, slot := 1, constantValue := 0 }, { name := "TAU", type := .double, accessFlags := 25, slot := 2, constantValue := 0 }, { name := "DEGREES_TO_RADIANS", type := .double, accessFlags := 26, slot := 3, constantValue := 0 }, { name := "RADIANS_TO_DEGREES", type := .double, accessFlags := 26, slot := 4, constantValue := 0 }, { name := "negativeZeroFloatBits", type := .long, accessFlags := 26, slot := 5, constantValue := 0 }, { name := "negativeZeroDoubleBits", type := .long, accessFlags := 26, slot := 6, constantValue := 0 }, { name := "twoToTheDoubleScaleUp", type := .double, accessFlags := 8, slot := 7, constantValue := 0 }, { name := "twoToTheDoubleScaleDown", type := .double, accessFlags := 8, slot := 8, constantValue := 0 }, { name := "$assertionsDisabled", type := .boolean, accessFlags := 4120, slot := 9, constantValue := 0 }]
  methods := #[k3m0, k3m1]
  instanceTypes := #[]
  staticTypes := #[.double, .double, .double, .double, .double, .long, .long, .double, .double, .boolean]
  resolved := Array.replicate 460 none
  statics := none }

def pool4 : Array CpInfo := pool [(1, u "java/lang/Cloneable"), (0, .class_ 1), (0, u "java/lang/Object"), (0, .class_ 3)] 3

/-- java/lang/Cloneable -/
def k4 : Class := { plain "java/lang/Cloneable" (some 0) with
  accessFlags := 1537
  interfaces := #[]
  cf := some (fileOf pool4 2 #[] #[] 1537 4 #[] #[])
  fields := #[]
  methods := #[]
  instanceTypes := #[]
  staticTypes := #[]
  resolved := Array.replicate 8 none
  statics := none }

def pool5 : Array CpInfo := pool [(1, u "java/io/Serializable"), (0, .class_ 1), (0, u "java/lang/Object"), (0, .class_ 3)] 3

/-- java/io/Serializable -/
def k5 : Class := { plain "java/io/Serializable" (some 0) with
  accessFlags := 1537
  interfaces := #[]
  cf := some (fileOf pool5 2 #[] #[] 1537 4 #[] #[])
  fields := #[]
  methods := #[]
  instanceTypes := #[]
  staticTypes := #[]
  resolved := Array.replicate 8 none
  statics := none }

/-- the primitive byte -/
def k6 : Class := { plain "byte" none with kind := .primitive 'B', accessFlags := 0x411 }
/-- [B -/
def k7 : Class := { plain "[B" (some 0) with kind := .array 6 .byte, interfaces := #[4, 5], accessFlags := 1041 }

/-- the primitive int -/
def k8 : Class := { plain "int" none with kind := .primitive 'I', accessFlags := 0x411 }
/-- [I -/
def k9 : Class := { plain "[I" (some 0) with kind := .array 8 .int, interfaces := #[4, 5], accessFlags := 1041 }

def heap : Heap := #[]
def classes : Array Class := #[k0, k1, k2, k3, k4, k5, k6, k7, k8, k9]
def interned : List (Array UInt16 × Addr) := []
def slotsUsed : Nat := 0
def theMethod : MethodId := ⟨1, 2⟩
def args0 : Array Value := #[.int 1, .int 70, .int 3, .int 2]
def aboutOver (below : List Frame) : State where
  vm := { classes := classes, interned := interned.toArray }
  heap := heap
  slotsUsed := slotsUsed
  threads := #[{ frames := .invoking theMethod args0 :: below }]
def below0 : List Frame := [.native { method := ⟨0, 0⟩, args := #[] }]
def about1 : State := aboutOver below0
def p0 : Program := .bare "" "" ""
def e0 : Env := launch0.env 0 0 0
theorem w_frames : about1.frames = Frame.invoking theMethod args0 :: below0 := rfl
set_option maxRecDepth 65536 in
theorem w_args : argsFit about1.vm theMethod args0 = true := by decide +kernel
set_option maxRecDepth 65536 in
theorem w_heap : heapFits about1 = true := by decide +kernel
set_option maxRecDepth 65536 in
theorem w_runnable : about1.curStatus? = some .runnable := by decide +kernel
set_option maxRecDepth 65536 in
theorem w_alone : about1.alone = true := by decide +kernel
set_option maxRecDepth 65536 in
theorem w_named : about1.methodNamed? x = some theMethod := by decide +kernel
set_option maxRecDepth 65536 in
theorem w_hears : about1.hears theMethod below0 = true := by decide +kernel
set_option maxRecDepth 65536 in
theorem w_ripe : about1.ripe theMethod args0 below0 = true := by decide +kernel
theorem w_running : about1.status = .running := rfl
set_option maxRecDepth 65536 in
theorem w_room : about1.hasRoom e0.platform room_1 = true :=
  launch0.hasRoom_least _ room_1 (by decide +kernel) (by decide +kernel) (by decide +kernel) (by decide +kernel) (by decide +kernel) (by decide +kernel)
theorem allAtoms_all (ts : List Jvm.Cond) (a : Array Jvm.Value) (st : Jvm.State) : (allAtoms ts).before a st = ts.all (fun c => c.before a st) := by
  induction ts with
  | nil => rfl
  | cons c t ih =>
    show (Jvm.Cond.and c (allAtoms t)).before a st = _
    rw [Jvm.Cond.before_and, ih, List.all_cons]
def words1 : List Jvm.Cond := Jvm.Cond.code x code maxLocals ret :: tables_1
/-- a 'code' word, met by the world's own term for the bytes: nothing is compared byte by byte -/
theorem code_word {y : MethodName} {bytes : ByteArray} {mx : Nat} {rt : Option FieldType} {a : Array Value} {s : State} {m : MethodId} {meth : Method} {c : Code} (h1 : s.methodNamed? y = some m) (h2 : s.vm.method? m = some meth) (h3 : meth.code = some c) (h4 : c.code = bytes)
    (h5 : (c.maxLocals == mx && c.exceptionTable.isEmpty && decide (c.maxStack ≤ mostOperands) && decide (meth.sig.returnType = rt) && !meth.locks && decide (parseMethodDescriptor y.desc = some meth.sig)) = true) : (Jvm.Cond.code y bytes mx rt).before a s = true := by
  simp only [Bool.and_eq_true, beq_iff_eq, Bool.not_eq_true', decide_eq_true_eq] at h5
  obtain ⟨⟨⟨⟨⟨g1, g2⟩, g3⟩, g4⟩, g5⟩, g6⟩ := h5
  simp [Cond.before, Cond.holds, Cond.value, h1, h2, h3, h4, g1, g2, g3, g4, g5, g6]
def isCode : Jvm.Cond → Bool
  | .code _ _ _ _ => true
  | _ => false
theorem all_split {L : List Jvm.Cond} {P : Jvm.Cond → Bool} (h1 : L.all (fun c => isCode c || P c) = true) (h2 : ∀ c ∈ L.filter isCode, P c = true) : L.all P = true := by
  refine List.all_eq_true.mpr fun c hc => ?_
  have h := List.all_eq_true.mp h1 c hc
  rcases Bool.eq_false_or_eq_true (isCode c) with hi | hi
  · exact h2 c (List.mem_filter.mpr ⟨hc, hi⟩)
  · simpa [hi] using h
set_option maxRecDepth 65536 in
theorem w_c0 : (Jvm.Cond.code x code maxLocals ret).before args0 about1 = true := code_word (m := ⟨1, 2⟩) (meth := k1m2) (c := k1c2) (by decide +kernel) rfl rfl rfl (by decide +kernel)
set_option maxRecDepth 65536 in
theorem w_c1 : (Jvm.Cond.code ({ cls := "com/example/wildcard/wildcard/XmlCharacters", name := "isCharacter", desc := "(I)Z" } : Jvm.MethodName) prog_99_method_2_code (1 : Nat) (Option.some Jvm.ClassFile.FieldType.boolean)).before args0 about1 = true := code_word (m := ⟨2, 1⟩) (meth := k2m1) (c := k2c1) (by decide +kernel) rfl rfl rfl (by decide +kernel)
set_option maxRecDepth 65536 in
theorem w_c2 : (Jvm.Cond.code ({ cls := "com/example/wildcard/wildcard/XmlCharactersIsCharacterPinLaw", name := "reference", desc := "(I)Z" } : Jvm.MethodName) method_2_code (1 : Nat) (Option.some Jvm.ClassFile.FieldType.boolean)).before args0 about1 = true := code_word (m := ⟨1, 1⟩) (meth := k1m1) (c := k1c1) (by decide +kernel) rfl rfl rfl (by decide +kernel)
set_option maxRecDepth 65536 in
theorem w_c3 : (Jvm.Cond.code ({ cls := "java/lang/Math", name := "min", desc := "(II)I" } : Jvm.MethodName) jdk_29_method_69_code (2 : Nat) (Option.some Jvm.ClassFile.FieldType.int)).before args0 about1 = true := code_word (m := ⟨3, 1⟩) (meth := k3m1) (c := k3c1) (by decide +kernel) rfl rfl rfl (by decide +kernel)
def codes1 : List Jvm.Cond := [Jvm.Cond.code x code maxLocals ret, Jvm.Cond.code ({ cls := "com/example/wildcard/wildcard/XmlCharacters", name := "isCharacter", desc := "(I)Z" } : Jvm.MethodName) prog_99_method_2_code (1 : Nat) (Option.some Jvm.ClassFile.FieldType.boolean), Jvm.Cond.code ({ cls := "com/example/wildcard/wildcard/XmlCharactersIsCharacterPinLaw", name := "reference", desc := "(I)Z" } : Jvm.MethodName) method_2_code (1 : Nat) (Option.some Jvm.ClassFile.FieldType.boolean), Jvm.Cond.code ({ cls := "java/lang/Math", name := "min", desc := "(II)I" } : Jvm.MethodName) jdk_29_method_69_code (2 : Nat) (Option.some Jvm.ClassFile.FieldType.int)]
set_option maxRecDepth 65536 in
theorem codes_eq : words1.filter isCode = codes1 := rfl
theorem w_codes : ∀ c ∈ words1.filter isCode, c.before args0 about1 = true := by
  rw [codes_eq]
  intro c hc
  simp only [codes1, List.mem_cons, List.not_mem_nil, or_false] at hc
  rcases hc with rfl | rfl | rfl | rfl
  · exact w_c0
  · exact w_c1
  · exact w_c2
  · exact w_c3
set_option maxRecDepth 65536 in
theorem w_t1 : (words1.take 24).all (fun c => isCode c || c.before args0 about1) = true := by decide +kernel
set_option maxRecDepth 65536 in
theorem w_t2 : (words1.drop 24).all (fun c => isCode c || c.before args0 about1) = true := by decide +kernel
theorem w_tables : (allAtoms (Jvm.Cond.code x code maxLocals ret :: tables_1)).before args0 about1 = true := by
  rw [allAtoms_all]
  show words1.all (fun c => c.before args0 about1) = true
  refine all_split ?_ w_codes
  rw [← List.take_append_drop 24 words1, List.all_append, w_t1, w_t2]
  rfl
set_option maxRecDepth 65536 in
theorem w_case : (Jvm.Cond.and given_1 narrow_1).before args0 about1 = true := by decide +kernel
theorem w_applies : (headSpec (Jvm.Cond.code x code maxLocals ret :: tables_1) room_1).applies x e0.platform about1 = true :=
  (Spec.applies_iff w_frames).mpr ⟨w_running, w_runnable, w_alone, w_named, w_hears, w_ripe, w_room, w_tables⟩
theorem atStart : AtStart classFile x code maxLocals ret World_1 tables_1 room_1 Calls_1 rest_1 Pre_1 launch0 p0 e0 about1 theMethod args0 below0 :=
  ⟨lists_1, trivial, launch0.admits_env _ _ _, launch0.least_env, fairChoices_fair.cas, fairChoices_fair.clock, w_frames, w_args, w_heap, w_applies, trivial, trivial, w_case⟩
end start1
theorem witness_1 : WitnessClaimed_1 := ⟨start1.p0, start1.e0, start1.about1, start1.theMethod, start1.args0, start1.below0, start1.atStart⟩
end Jvm.Pilot.@@N@@
