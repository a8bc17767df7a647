import JvmDerived
import JvmDerived.Pilot.@@N@@Statement
import JvmDerived.Pilot.@@N@@Code
set_option linter.unusedVariables false
set_option linter.unusedSimpArgs false
namespace Jvm.Pilot.@@N@@
open Jvm Jvm.ClassFile Sem Op Lib Jvm.Free Jvm.Stand Jvm.LawKit Jvm.RoadKit Bundle Jvm.Pilot.@@N@@.Jvm.D

/-! own layer: a run that ends well, step by step (every lemma here is of this text) -/
section Own
variable {p : Program} {l : Launch} {e : Env} {R : Room} {s : State} {m : MethodId} {args : Array Value} {below : List Frame} {meth : Method} {c : Code} {T : State} {locs : List Loc} {cells slots : Nat} {P : State → Outcome → Prop} {pc pc' pc1 : Nat} {L L' : Array Slot} {S : List Value} {Z : State} {a0 : Array Value} {h : Heap}
/-- from this frame the run ends, and P holds of the end -/
def Ends (p : Program) (e : Env) (below : List Frame) (P : State → Outcome → Prop) (T : State) (m : MethodId) (pc : Nat) (L : Array Slot) (S : List Value) : Prop :=
  ∃ t o, Steps p.tables e below (T.setTop (mkF m pc L S)) t ∧ t.status = .running ∧ Ended t below o ∧ P t o
theorem Ends.of {T' : State} {S' : List Value} (k : Ends p e below P T' m pc' L' S') (h : ∀ target, Steps p.tables e below (T'.setTop (mkF m pc' L' S')) target → Steps p.tables e below (T.setTop (mkF m pc L S)) target) : Ends p e below P T m pc L S := by
  obtain ⟨t, o, h1, h2⟩ := k; exact ⟨t, o, h _ h1, h2⟩
theorem eILoadN (X : Stand p l e R s m args below meth c T locs cells slots) (hx : p.tables.exec = Jvm.exec) {k : Fin 4} {v : Int32} (hd : decode c.code pc = .ok (.iload_n k, 1)) (hl : L[k.val]? = some (.val (.int v))) (hp : pc + 1 = pc') (kk : Ends p e below P T m pc' L (.int v :: S)) : Ends p e below P T m pc L S := by
  subst hp; exact kk.of fun t h => XS.iloadN X.here hx rfl hd hl h
theorem eILoad (X : Stand p l e R s m args below meth c T locs cells slots) (hx : p.tables.exec = Jvm.exec) {k : Nat} {v : Int32} (hd : decode c.code pc = .ok (.iload k, 2)) (hl : L[k]? = some (.val (.int v))) (hp : pc + 2 = pc') (kk : Ends p e below P T m pc' L (.int v :: S)) : Ends p e below P T m pc L S := by
  subst hp; exact kk.of fun t h => XS.iload X.here hx rfl hd hl h
theorem eLLoadN (X : Stand p l e R s m args below meth c T locs cells slots) (hx : p.tables.exec = Jvm.exec) {k : Fin 4} {v : Int64} (hd : decode c.code pc = .ok (.lload_n k, 1)) (hl : L[k.val]? = some (.val (.long v))) (hp : pc + 1 = pc') (kk : Ends p e below P T m pc' L (.long v :: S)) : Ends p e below P T m pc L S := by
  subst hp; exact kk.of fun t h => XT.lloadN X.here hx rfl hd hl h
theorem eLLoad (X : Stand p l e R s m args below meth c T locs cells slots) (hx : p.tables.exec = Jvm.exec) {k : Nat} {v : Int64} (hd : decode c.code pc = .ok (.lload k, 2)) (hl : L[k]? = some (.val (.long v))) (hp : pc + 2 = pc') (kk : Ends p e below P T m pc' L (.long v :: S)) : Ends p e below P T m pc L S := by
  subst hp; exact kk.of fun t h => XT.lload X.here hx rfl hd hl h
theorem eALoadN (X : Stand p l e R s m args below meth c T locs cells slots) (hx : p.tables.exec = Jvm.exec) {k : Fin 4} {v : Value} (hd : decode c.code pc = .ok (.aload_n k, 1)) (hl : L[k.val]? = some (.val v)) (hv : v.isRef = true) (hp : pc + 1 = pc') (kk : Ends p e below P T m pc' L (v :: S)) : Ends p e below P T m pc L S := by
  subst hp; exact kk.of fun t h => XS.aloadN X.here hx rfl hd hl hv h
theorem eALoad (X : Stand p l e R s m args below meth c T locs cells slots) (hx : p.tables.exec = Jvm.exec) {k : Nat} {v : Value} (hd : decode c.code pc = .ok (.aload k, 2)) (hl : L[k]? = some (.val v)) (hv : v.isRef = true) (hp : pc + 2 = pc') (kk : Ends p e below P T m pc' L (v :: S)) : Ends p e below P T m pc L S := by
  subst hp; exact kk.of fun t h => XS.aload X.here hx rfl hd hl hv h
theorem eIStoreN (X : Stand p l e R s m args below meth c T locs cells slots) (hx : p.tables.exec = Jvm.exec) {k : Fin 4} {v : Int32} (hd : decode c.code pc = .ok (.istore_n k, 1)) (hl : storeLocals L k.val (.int v) = some L') (hp : pc + 1 = pc') (kk : Ends p e below P T m pc' L' S) : Ends p e below P T m pc L (.int v :: S) := by
  subst hp; exact kk.of fun t h => XS.istoreN X.here hx rfl hd rfl hl h
theorem eIStore (X : Stand p l e R s m args below meth c T locs cells slots) (hx : p.tables.exec = Jvm.exec) {k : Nat} {v : Int32} (hd : decode c.code pc = .ok (.istore k, 2)) (hl : storeLocals L k (.int v) = some L') (hp : pc + 2 = pc') (kk : Ends p e below P T m pc' L' S) : Ends p e below P T m pc L (.int v :: S) := by
  subst hp; exact kk.of fun t h => XS.istore X.here hx rfl hd rfl hl h
theorem eLStoreN (X : Stand p l e R s m args below meth c T locs cells slots) (hx : p.tables.exec = Jvm.exec) {k : Fin 4} {v : Int64} (hd : decode c.code pc = .ok (.lstore_n k, 1)) (hl : storeLocals L k.val (.long v) = some L') (hp : pc + 1 = pc') (kk : Ends p e below P T m pc' L' S) : Ends p e below P T m pc L (.long v :: S) := by
  subst hp; exact kk.of fun t h => XT.lstoreN X.here hx rfl hd rfl hl h
theorem eLStore (X : Stand p l e R s m args below meth c T locs cells slots) (hx : p.tables.exec = Jvm.exec) {k : Nat} {v : Int64} (hd : decode c.code pc = .ok (.lstore k, 2)) (hl : storeLocals L k (.long v) = some L') (hp : pc + 2 = pc') (kk : Ends p e below P T m pc' L' S) : Ends p e below P T m pc L (.long v :: S) := by
  subst hp; exact kk.of fun t h => XT.lstore X.here hx rfl hd rfl hl h
theorem eAStoreN (X : Stand p l e R s m args below meth c T locs cells slots) (hx : p.tables.exec = Jvm.exec) {k : Fin 4} {v : Value} (hd : decode c.code pc = .ok (.astore_n k, 1)) (hv : v.isRef = true) (hl : storeLocals L k.val v = some L') (hp : pc + 1 = pc') (kk : Ends p e below P T m pc' L' S) : Ends p e below P T m pc L (v :: S) := by
  subst hp; exact kk.of fun t h => XS.astoreN X.here hx rfl hd rfl hv hl h
theorem eAStore (X : Stand p l e R s m args below meth c T locs cells slots) (hx : p.tables.exec = Jvm.exec) {k : Nat} {v : Value} (hd : decode c.code pc = .ok (.astore k, 2)) (hv : v.isRef = true) (hl : storeLocals L k v = some L') (hp : pc + 2 = pc') (kk : Ends p e below P T m pc' L' S) : Ends p e below P T m pc L (v :: S) := by
  subst hp; exact kk.of fun t h => XS.astore X.here hx rfl hd rfl hv hl h
theorem eIConst (X : Stand p l e R s m args below meth c T locs cells slots) (hx : p.tables.exec = Jvm.exec) {i : Int} (v : Int32) (hd : decode c.code pc = .ok (.iconst i, 1)) (hv : Int32.ofInt i = v) (hp : pc + 1 = pc') (kk : Ends p e below P T m pc' L (.int v :: S)) : Ends p e below P T m pc L S := by
  subst hp hv; exact kk.of fun t h => XS.iconst X.here hx rfl hd h
theorem eBipush (X : Stand p l e R s m args below meth c T locs cells slots) (hx : p.tables.exec = Jvm.exec) {i : Int} (v : Int32) (hd : decode c.code pc = .ok (.bipush i, 2)) (hv : (Int8.ofInt i).toInt32 = v) (hp : pc + 2 = pc') (kk : Ends p e below P T m pc' L (.int v :: S)) : Ends p e below P T m pc L S := by
  subst hp hv; exact kk.of fun t h => XS.bipush X.here hx rfl hd h
theorem eSipush (X : Stand p l e R s m args below meth c T locs cells slots) (hx : p.tables.exec = Jvm.exec) {i : Int} (v : Int32) (hd : decode c.code pc = .ok (.sipush i, 3)) (hv : (Int16.ofInt i).toInt32 = v) (hp : pc + 3 = pc') (kk : Ends p e below P T m pc' L (.int v :: S)) : Ends p e below P T m pc L S := by
  subst hp hv; exact kk.of fun t h => XS.sipush X.here hx rfl hd h
theorem eLConst (X : Stand p l e R s m args below meth c T locs cells slots) (hx : p.tables.exec = Jvm.exec) {k : Fin 2} (v : Int64) (hd : decode c.code pc = .ok (.lconst k, 1)) (hv : Int64.ofNat k = v) (hp : pc + 1 = pc') (kk : Ends p e below P T m pc' L (.long v :: S)) : Ends p e below P T m pc L S := by
  subst hp; exact kk.of fun t h => XT.lconstV X.here hx rfl v hd hv h
theorem eNull (X : Stand p l e R s m args below meth c T locs cells slots) (hx : p.tables.exec = Jvm.exec) (hd : decode c.code pc = .ok (.aconst_null, 1)) (hp : pc + 1 = pc') (kk : Ends p e below P T m pc' L (.null :: S)) : Ends p e below P T m pc L S := by
  subst hp; exact kk.of fun t h => XS.aconstNull X.here hx rfl hd h
theorem eLdcI (X : Stand p l e R s m args below meth c T locs cells slots) (hx : p.tables.exec = Jvm.exec) (hZ : Z.Warmed39 s.vm) {own : String} {index : Nat} {v : Int32} (hown : s.vm.findClass own = some m.cls) (w : (Cond.constant own index v).before a0 Z = true) (hd : decode c.code pc = .ok (.ldc index, 2)) (hp : pc + 2 = pc') (kk : Ends p e below P T m pc' L (.int v :: S)) : Ends p e below P T m pc L S := by
  subst hp; exact kk.of fun t h => X.ldcI hx hown (mvT hZ w) rfl hd h
theorem eLdcWI (X : Stand p l e R s m args below meth c T locs cells slots) (hx : p.tables.exec = Jvm.exec) (hZ : Z.Warmed39 s.vm) {own : String} {index : Nat} {v : Int32} (hown : s.vm.findClass own = some m.cls) (w : (Cond.constant own index v).before a0 Z = true) (hd : decode c.code pc = .ok (.ldc_w index, 3)) (hp : pc + 3 = pc') (kk : Ends p e below P T m pc' L (.int v :: S)) : Ends p e below P T m pc L S := by
  subst hp; exact kk.of fun t h => X.ldcWI hx hown (mvT hZ w) rfl hd h
theorem eLdc2J (X : Stand p l e R s m args below meth c T locs cells slots) (hx : p.tables.exec = Jvm.exec) (hZ : Z.Warmed39 s.vm) {own : String} {index : Nat} {v : Int64} (hown : s.vm.findClass own = some m.cls) (w : (Cond.constantLong own index v).before a0 Z = true) (hd : decode c.code pc = .ok (.ldc2_w index, 3)) (hp : pc + 3 = pc') (kk : Ends p e below P T m pc' L (.long v :: S)) : Ends p e below P T m pc L S := by
  subst hp; exact kk.of fun t h => X.ldc2J hx hown (mvT hZ w) rfl hd h
theorem eIAdd (X : Stand p l e R s m args below meth c T locs cells slots) (hx : p.tables.exec = Jvm.exec) {x y : Int32} (hd : decode c.code pc = .ok (.iadd, 1)) (hp : pc + 1 = pc') (kk : Ends p e below P T m pc' L (.int (x + y) :: S)) : Ends p e below P T m pc L (.int y :: .int x :: S) := by
  subst hp; exact kk.of fun t h => XS.iadd X.here hx rfl hd rfl h
theorem eISub (X : Stand p l e R s m args below meth c T locs cells slots) (hx : p.tables.exec = Jvm.exec) {x y : Int32} (hd : decode c.code pc = .ok (.isub, 1)) (hp : pc + 1 = pc') (kk : Ends p e below P T m pc' L (.int (x - y) :: S)) : Ends p e below P T m pc L (.int y :: .int x :: S) := by
  subst hp; exact kk.of fun t h => XS.isub X.here hx rfl hd rfl h
theorem eIMul (X : Stand p l e R s m args below meth c T locs cells slots) (hx : p.tables.exec = Jvm.exec) {x y : Int32} (hd : decode c.code pc = .ok (.imul, 1)) (hp : pc + 1 = pc') (kk : Ends p e below P T m pc' L (.int (x * y) :: S)) : Ends p e below P T m pc L (.int y :: .int x :: S) := by
  subst hp; exact kk.of fun t h => XS.imul X.here hx rfl hd rfl h
theorem eIAnd (X : Stand p l e R s m args below meth c T locs cells slots) (hx : p.tables.exec = Jvm.exec) {x y : Int32} (hd : decode c.code pc = .ok (.iand, 1)) (hp : pc + 1 = pc') (kk : Ends p e below P T m pc' L (.int (x &&& y) :: S)) : Ends p e below P T m pc L (.int y :: .int x :: S) := by
  subst hp; exact kk.of fun t h => XS.iand X.here hx rfl hd rfl h
theorem eIDiv (X : Stand p l e R s m args below meth c T locs cells slots) (hx : p.tables.exec = Jvm.exec) {x y : Int32} (hd : decode c.code pc = .ok (.idiv, 1)) (hy : y ≠ 0) (hp : pc + 1 = pc') (kk : Ends p e below P T m pc' L (.int (x / y) :: S)) : Ends p e below P T m pc L (.int y :: .int x :: S) := by
  subst hp; exact kk.of fun t h => XS.idiv X.here hx rfl hd rfl hy h
theorem eIRem (X : Stand p l e R s m args below meth c T locs cells slots) (hx : p.tables.exec = Jvm.exec) {x y : Int32} (hd : decode c.code pc = .ok (.irem, 1)) (hy : y ≠ 0) (hp : pc + 1 = pc') (kk : Ends p e below P T m pc' L (.int (x % y) :: S)) : Ends p e below P T m pc L (.int y :: .int x :: S) := by
  subst hp; exact kk.of fun t h => iremM X hx rfl hd rfl hy h
theorem eIShr (X : Stand p l e R s m args below meth c T locs cells slots) (hx : p.tables.exec = Jvm.exec) {x y : Int32} (hd : decode c.code pc = .ok (.ishr, 1)) (hp : pc + 1 = pc') (kk : Ends p e below P T m pc' L (.int (x >>> (y &&& 31)) :: S)) : Ends p e below P T m pc L (.int y :: .int x :: S) := by
  subst hp; exact kk.of fun t h => XS.ishr X.here hx rfl hd rfl h
theorem eIUshr (X : Stand p l e R s m args below meth c T locs cells slots) (hx : p.tables.exec = Jvm.exec) {x y : Int32} (hd : decode c.code pc = .ok (.iushr, 1)) (hp : pc + 1 = pc') (kk : Ends p e below P T m pc' L (.int ((x.toUInt32 >>> (y &&& 31).toUInt32).toInt32) :: S)) : Ends p e below P T m pc L (.int y :: .int x :: S) := by
  subst hp; exact kk.of fun t h => XS.iushr X.here hx rfl hd rfl h
theorem eI2C (X : Stand p l e R s m args below meth c T locs cells slots) (hx : p.tables.exec = Jvm.exec) {x : Int32} (hd : decode c.code pc = .ok (.i2c, 1)) (hp : pc + 1 = pc') (kk : Ends p e below P T m pc' L (.int (x.toUInt32.toUInt16.toUInt32.toInt32) :: S)) : Ends p e below P T m pc L (.int x :: S) := by
  subst hp; exact kk.of fun t h => XS.i2c X.here hx rfl hd rfl h
theorem eI2B (X : Stand p l e R s m args below meth c T locs cells slots) (hx : p.tables.exec = Jvm.exec) {x : Int32} (hd : decode c.code pc = .ok (.i2b, 1)) (hp : pc + 1 = pc') (kk : Ends p e below P T m pc' L (.int (x.toInt8.toInt32) :: S)) : Ends p e below P T m pc L (.int x :: S) := by
  subst hp; exact kk.of fun t h => XS.i2b X.here hx rfl hd rfl h
theorem eI2L (X : Stand p l e R s m args below meth c T locs cells slots) (hx : p.tables.exec = Jvm.exec) {x : Int32} (hd : decode c.code pc = .ok (.i2l, 1)) (hp : pc + 1 = pc') (kk : Ends p e below P T m pc' L (.long (x.toInt64) :: S)) : Ends p e below P T m pc L (.int x :: S) := by
  subst hp; exact kk.of fun t h => XS.i2l X.here hx rfl hd rfl h
theorem eLAdd (X : Stand p l e R s m args below meth c T locs cells slots) (hx : p.tables.exec = Jvm.exec) {x y : Int64} (hd : decode c.code pc = .ok (.ladd, 1)) (hp : pc + 1 = pc') (kk : Ends p e below P T m pc' L (.long (x + y) :: S)) : Ends p e below P T m pc L (.long y :: .long x :: S) := by
  subst hp; exact kk.of fun t h => XS.ladd X.here hx rfl hd rfl h
theorem eLSub (X : Stand p l e R s m args below meth c T locs cells slots) (hx : p.tables.exec = Jvm.exec) {x y : Int64} (hd : decode c.code pc = .ok (.lsub, 1)) (hp : pc + 1 = pc') (kk : Ends p e below P T m pc' L (.long (x - y) :: S)) : Ends p e below P T m pc L (.long y :: .long x :: S) := by
  subst hp; exact kk.of fun t h => XS.lsub X.here hx rfl hd rfl h
theorem eLAnd (X : Stand p l e R s m args below meth c T locs cells slots) (hx : p.tables.exec = Jvm.exec) {x y : Int64} (hd : decode c.code pc = .ok (.land, 1)) (hp : pc + 1 = pc') (kk : Ends p e below P T m pc' L (.long (x &&& y) :: S)) : Ends p e below P T m pc L (.long y :: .long x :: S) := by
  subst hp; exact kk.of fun t h => XS.land X.here hx rfl hd rfl h
theorem eLOr (X : Stand p l e R s m args below meth c T locs cells slots) (hx : p.tables.exec = Jvm.exec) {x y : Int64} (hd : decode c.code pc = .ok (.lor, 1)) (hp : pc + 1 = pc') (kk : Ends p e below P T m pc' L (.long (x ||| y) :: S)) : Ends p e below P T m pc L (.long y :: .long x :: S) := by
  subst hp; exact kk.of fun t h => XS.lor X.here hx rfl hd rfl h
theorem eLShl (X : Stand p l e R s m args below meth c T locs cells slots) (hx : p.tables.exec = Jvm.exec) {x : Int64} {y : Int32} (hd : decode c.code pc = .ok (.lshl, 1)) (hp : pc + 1 = pc') (kk : Ends p e below P T m pc' L (.long (x <<< (y &&& 0x3f).toInt64) :: S)) : Ends p e below P T m pc L (.int y :: .long x :: S) := by
  subst hp; exact kk.of fun t h => XS.lshl X.here hx rfl hd rfl h
theorem eLShr (X : Stand p l e R s m args below meth c T locs cells slots) (hx : p.tables.exec = Jvm.exec) {x : Int64} {y : Int32} (hd : decode c.code pc = .ok (.lshr, 1)) (hp : pc + 1 = pc') (kk : Ends p e below P T m pc' L (.long (x >>> (y &&& 0x3f).toInt64) :: S)) : Ends p e below P T m pc L (.int y :: .long x :: S) := by
  subst hp; exact kk.of fun t h => XS.lshr X.here hx rfl hd rfl h
theorem eLDiv (X : Stand p l e R s m args below meth c T locs cells slots) (hx : p.tables.exec = Jvm.exec) {x y : Int64} (hd : decode c.code pc = .ok (.ldiv, 1)) (hy : y ≠ 0) (hp : pc + 1 = pc') (kk : Ends p e below P T m pc' L (.long (x / y) :: S)) : Ends p e below P T m pc L (.long y :: .long x :: S) := by
  subst hp; exact kk.of fun t h => XT.ldiv X.here hx rfl hd rfl hy h
theorem eLRem (X : Stand p l e R s m args below meth c T locs cells slots) (hx : p.tables.exec = Jvm.exec) {x y : Int64} (hd : decode c.code pc = .ok (.lrem, 1)) (hy : y ≠ 0) (hp : pc + 1 = pc') (kk : Ends p e below P T m pc' L (.long (x % y) :: S)) : Ends p e below P T m pc L (.long y :: .long x :: S) := by
  subst hp; exact kk.of fun t h => XT.lrem X.here hx rfl hd rfl hy (by first | exact h | (rw [lrem_mod]; exact h))
theorem eLNeg (X : Stand p l e R s m args below meth c T locs cells slots) (hx : p.tables.exec = Jvm.exec) {x : Int64} (hd : decode c.code pc = .ok (.lneg, 1)) (hp : pc + 1 = pc') (kk : Ends p e below P T m pc' L (.long (-x) :: S)) : Ends p e below P T m pc L (.long x :: S) := by
  subst hp; exact kk.of fun t h => XT.lneg X.here hx rfl hd rfl h
theorem eLCmp (X : Stand p l e R s m args below meth c T locs cells slots) (hx : p.tables.exec = Jvm.exec) {x y : Int64} (hd : decode c.code pc = .ok (.lcmp, 1)) (hp : pc + 1 = pc') (kk : Ends p e below P T m pc' L (.int (XT.cmpL x y) :: S)) : Ends p e below P T m pc L (.long y :: .long x :: S) := by
  subst hp; exact kk.of fun t h => XT.lcmp X.here hx rfl hd rfl h
theorem eDup (X : Stand p l e R s m args below meth c T locs cells slots) (hx : p.tables.exec = Jvm.exec) {v : Value} (hd : decode c.code pc = .ok (.dup, 1)) (hc : v.category = 1) (hp : pc + 1 = pc') (kk : Ends p e below P T m pc' L (v :: v :: S)) : Ends p e below P T m pc L (v :: S) := by
  subst hp; exact kk.of fun t h => XS.dup X.here hx rfl hd rfl hc h
theorem ePop (X : Stand p l e R s m args below meth c T locs cells slots) (hx : p.tables.exec = Jvm.exec) {v : Value} (hd : decode c.code pc = .ok (.pop, 1)) (hc : v.category = 1) (hp : pc + 1 = pc') (kk : Ends p e below P T m pc' L S) : Ends p e below P T m pc L (v :: S) := by
  subst hp; exact kk.of fun t h => XT.pop X.here hx rfl hd rfl hc h
theorem eDupX1 (X : Stand p l e R s m args below meth c T locs cells slots) (hx : p.tables.exec = Jvm.exec) {v w : Value} (hd : decode c.code pc = .ok (.dup_x1, 1)) (hc : v.category = 1) (hc' : w.category = 1) (hp : pc + 1 = pc') (kk : Ends p e below P T m pc' L (v :: w :: v :: S)) : Ends p e below P T m pc L (v :: w :: S) := by
  subst hp; exact kk.of fun t h => XT.dupX1 X.here hx rfl hd rfl hc hc' h
theorem eDup2 (X : Stand p l e R s m args below meth c T locs cells slots) (hx : p.tables.exec = Jvm.exec) {v w : Value} (hd : decode c.code pc = .ok (.dup2, 1)) (hc : v.category = 1) (hc' : w.category = 1) (hp : pc + 1 = pc') (kk : Ends p e below P T m pc' L (v :: w :: v :: w :: S)) : Ends p e below P T m pc L (v :: w :: S) := by
  subst hp; exact kk.of fun t h => XT.dup2 X.here hx rfl hd rfl hc hc' h
theorem eDupX2 (X : Stand p l e R s m args below meth c T locs cells slots) (hx : p.tables.exec = Jvm.exec) {v w u : Value} (hd : decode c.code pc = .ok (.dup_x2, 1)) (hc : v.category = 1) (hc' : w.category = 1) (hc2 : u.category = 1) (hp : pc + 1 = pc') (kk : Ends p e below P T m pc' L (v :: w :: u :: v :: S)) : Ends p e below P T m pc L (v :: w :: u :: S) := by
  subst hp
  refine kk.of fun t h => ?_
  jvm_step X.here [X.here.top, hx, hd, hc, hc', hc2]
  exact h
theorem eIInc (X : Stand p l e R s m args below meth c T locs cells slots) (hx : p.tables.exec = Jvm.exec) {k : Nat} {cst : Int} {x : Int32} (v : Int32) (hd : decode c.code pc = .ok (.iinc k cst, 3)) (hv : Int32.ofInt cst = v) (hl : L[k]? = some (.val (.int x))) (hl' : storeLocals L k (.int (x + v)) = some L') (hp : pc + 3 = pc') (kk : Ends p e below P T m pc' L' S) : Ends p e below P T m pc L S := by
  subst hp hv; exact kk.of fun t h => XS.iinc X.here hx rfl hd hl hl' h
theorem eGoto (X : Stand p l e R s m args below meth c T locs cells slots) (hx : p.tables.exec = Jvm.exec) {o : Int} (hd : decode c.code pc = .ok (.goto o, 3)) (ho : 0 ≤ (pc : Int) + o) (hp : ((pc : Int) + o).toNat = pc') (kk : Ends p e below P T m pc' L S) : Ends p e below P T m pc L S :=
  kk.of fun t h => XS.goto X.here hx rfl rfl hd ho hp h
theorem eIfY (X : Stand p l e R s m args below meth c T locs cells slots) (hx : p.tables.exec = Jvm.exec) {cd : ClassFile.Cond} {x : Int32} {o : Int} (hd : decode c.code pc = .ok (.ifCond cd o, 3)) (hc : ifCond.holds cd x = true) (ho : 0 ≤ (pc : Int) + o) (hp : ((pc : Int) + o).toNat = pc') (kk : Ends p e below P T m pc' L S) : Ends p e below P T m pc L (.int x :: S) :=
  kk.of fun t h => XS.ifYes X.here hx rfl rfl hd rfl hc ho hp h
theorem eIfN (X : Stand p l e R s m args below meth c T locs cells slots) (hx : p.tables.exec = Jvm.exec) {cd : ClassFile.Cond} {x : Int32} {o : Int} (hd : decode c.code pc = .ok (.ifCond cd o, 3)) (hc : ifCond.holds cd x = false) (hp : pc + 3 = pc') (kk : Ends p e below P T m pc' L S) : Ends p e below P T m pc L (.int x :: S) := by
  subst hp; exact kk.of fun t h => XS.ifNo X.here hx rfl hd rfl hc h
theorem eIcmpY (X : Stand p l e R s m args below meth c T locs cells slots) (hx : p.tables.exec = Jvm.exec) {cd : ClassFile.Cond} {x y : Int32} {o : Int} (hd : decode c.code pc = .ok (.if_icmp cd o, 3)) (hc : if_icmp.holds cd x y = true) (ho : 0 ≤ (pc : Int) + o) (hp : ((pc : Int) + o).toNat = pc') (kk : Ends p e below P T m pc' L S) : Ends p e below P T m pc L (.int y :: .int x :: S) :=
  kk.of fun t h => XS.icmpYes X.here hx rfl rfl hd rfl hc ho hp h
theorem eIcmpN (X : Stand p l e R s m args below meth c T locs cells slots) (hx : p.tables.exec = Jvm.exec) {cd : ClassFile.Cond} {x y : Int32} {o : Int} (hd : decode c.code pc = .ok (.if_icmp cd o, 3)) (hc : if_icmp.holds cd x y = false) (hp : pc + 3 = pc') (kk : Ends p e below P T m pc' L S) : Ends p e below P T m pc L (.int y :: .int x :: S) := by
  subst hp; exact kk.of fun t h => XS.icmpNo X.here hx rfl hd rfl hc h
/-! steps that read or write the heap -/
theorem eGetF (X : Stand p l e R s m args below meth c T locs cells slots) (hx : p.tables.exec = Jvm.exec) (hZ : Z.Warmed39 s.vm) {own R0 O n d : String} {index : Nat} (hown : s.vm.findClass own = some m.cls) (w : (Cond.fieldLink own index R0 n d).before a0 Z = true) (via : Via Z R0 O n d) (eT : T.heap = h) {a : Addr} {v : Value} (F : Fld Z h a O n d v) (hd : decode c.code pc = .ok (.getfield index, 3)) (hp : pc + 3 = pc')
    (kk : ∀ T', Stand p l e R s m args below meth c T' locs cells slots → T'.heap = h → Ends p e below P T' m pc' L (v :: S)) : Ends p e below P T m pc L (.ref a :: S) := by
  subst hp
  obtain ⟨T', X', e', st⟩ := getF X hx hZ hown (host := "") (Or.inl w) via eT F (g := mkF m pc L (.ref a :: S)) rfl rfl hd
  exact (kk T' X' e').of st
theorem ePutF (X : Stand p l e R s m args below meth c T locs cells slots) (hx : p.tables.exec = Jvm.exec) (hZ : Z.Warmed39 s.vm) {own R0 O n d C : String} {index kk0 : Nat} {ty : FieldType} (hown : s.vm.findClass own = some m.cls) (w : (Cond.fieldLink own index R0 n d).before a0 Z = true) (via : Via Z R0 O n d) (eT : T.heap = h) {a : Addr} {v old : Value} (F : Fld Z h a O n d old) (E : Exa Z h a C) (La : (Cond.lays C O n d).before a0 Z = true ∨ ((Cond.laysFinal C O n d).before a0 Z = true ∧ own = O ∧ meth.name = "<init>")) (wi : (Cond.instantiable C kk0).before a0 Z = true) (hty : parseFieldDescriptor d = some ty) (hn : narrow ty v = v) (hf : fits ty v = true) (hd : decode c.code pc = .ok (.putfield index, 3)) (hp : pc + 3 = pc')
    (kk : ∀ T' h', Stand p l e R s m args below meth c T' (locs ++ [⟨a, Jvm.RoadKit.slotOf Z O n d⟩]) cells slots → T'.heap = h' → Wr h h' a (Jvm.RoadKit.slotOf Z O n d) v → Ends p e below P T' m pc' L S) : Ends p e below P T m pc L (v :: .ref a :: S) := by
  subst hp
  obtain ⟨T', h', X', e', W, st⟩ := putF X hx hZ hown (host := "") (Or.inl w) via eT F E La wi hty hn hf (g := mkF m pc L (v :: .ref a :: S)) rfl rfl hd
  exact (kk T' h' X' e' W).of st
theorem eNewO (X : Stand p l e R s m args below meth c T locs cells slots) (hx : p.tables.exec = Jvm.exec) (hZ : Z.Warmed39 s.vm) {own C : String} {index n : Nat} (hown : s.vm.findClass own = some m.cls) (w : (Cond.classLink own index C).before a0 Z = true) (wi : (Cond.instantiable C n).before a0 Z = true) (wz : (Cond.initialized C).before a0 Z = true) (eT : T.heap = h) (hd : decode c.code pc = .ok (.new index, 3)) (hc : cells + 1 ≤ R.cells) (hl : slots + n ≤ R.slots) (hp : pc + 3 = pc')
    (kk : ∀ T' h' a, a = h.size → Stand p l e R s m args below meth c T' locs (cells + 1) (slots + n) → T'.heap = h' → Ext h h' → Exa Z h' a C → (∀ {O nm d : String} {ty : FieldType}, Laid Z a0 C O nm d → parseFieldDescriptor d = some ty → Fld Z h' a O nm d (defaultValue ty)) → Ends p e below P T' m pc' L (.ref a :: S)) : Ends p e below P T m pc L S := by
  subst hp
  obtain ⟨T', h', X', e', E, A, D, -, st⟩ := newO X hx hZ hown w wi wz eT (g := mkF m pc L S) rfl hd hc hl
  exact (kk T' h' _ rfl X' e' E A D).of st
theorem eInitO (X : Stand p l e R s m args below meth c T locs cells slots) (hx : p.tables.exec = Jvm.exec) (hZ : Z.Warmed39 s.vm) {own : String} {idx : Nat} (hown : s.vm.findClass own = some m.cls) (w1 : (Cond.methodLink own idx Lib.objectInit).before a0 Z = true) (w2 : (Cond.instanceMethod Lib.objectInit).before a0 Z = true) (w3 : (Cond.code Lib.objectInit object_method_1_code 1 none).before a0 Z = true) (eT : T.heap = h) (hsize : L.size = c.maxLocals) {a : Addr} (hd : decode c.code pc = .ok (.invokespecial idx, 3)) (hf : 1 ≤ R.frames) (W : Nat) (hW : 2 * 0 + (S.map fun v => v.category).sum ≤ W) (hl : W + 12 ≤ R.locals) (hp : pc + 3 = pc')
    (kk : ∀ T', Stand p l e R s m args below meth c T' locs cells slots → T'.heap = h → Ends p e below P T' m pc' L S) : Ends p e below P T m pc L (.ref a :: S) := by
  subst hp
  obtain ⟨T', X', e', st⟩ := initO X hx hZ hown w1 w2 w3 eT (g := mkF m pc L (.ref a :: S)) rfl hsize rfl hd hf hW hl
  exact (kk T' X' e').of st
theorem eGetS (X : Stand p l e R s m args below meth c T locs cells slots) (hx : p.tables.exec = Jvm.exec) (hZ : Z.Warmed39 s.vm) {own O n d : String} {index : Nat} (hown : s.vm.findClass own = some m.cls) (w : (Cond.fieldLink own index O n d).before a0 Z = true) (eT : T.heap = h) {v : Value} (F : Sta Z h O n d v) (hd : decode c.code pc = .ok (.getstatic index, 3)) (hp : pc + 3 = pc')
    (kk : ∀ T', Stand p l e R s m args below meth c T' locs cells slots → T'.heap = h → Ends p e below P T' m pc' L (v :: S)) : Ends p e below P T m pc L S := by
  subst hp
  obtain ⟨T', X', e', st⟩ := getS X hx hZ (host := "") hown w Via.refl eT F (g := mkF m pc L S) rfl hd
  exact (kk T' X' e').of st
theorem Sta.keep1 {h' : Heap} {a : Addr} {C C' n d : String} {v : Value} (F : Sta Z h C n d v) (K : Keep h h' [a]) (E : Exa Z h a C') : Sta Z h' C n d v := by
  obtain ⟨cf, i, k, f, st, cell, h1, h2, h3, h4, h5, h6, h7⟩ := F
  obtain ⟨c2, k2, e1, e2, e3, e4, e5⟩ := E
  refine ⟨cf, i, k, f, st, cell, h1, h2, h3, h4, K.2.1 st cell h5 (fun q => ?_), h6, h7⟩
  cases List.mem_singleton.mp q
  cases h5.symm.trans e1
  rw [h6] at e4; cases e4
/-! an array of ints, booleans, chars, bytes: its list of values -/
def Ar (Z : State) (h : Heap) (a : Addr) (ty : FieldType) (vs : List Int32) : Prop := ∃ cl : Cell, Arr Z h a cl ty ∧ cl.slots = (vs.map Value.int).toArray ∧ vs.length < 2 ^ 31
def InB (vs : List Int32) (j : Int32) : Prop := ¬ j < 0 ∧ j.toNatClampNeg < vs.length
def rd (vs : List Int32) (j : Int32) : Int32 := vs.getD j.toNatClampNeg 0
def wr (vs : List Int32) (j x : Int32) : List Int32 := vs.set j.toNatClampNeg x
variable {h' : Heap} {a b : Addr} {ty : FieldType} {vs : List Int32}
theorem inbL {j : Int32} {n : Nat} (hl : vs.length = n) (h : ¬ j < 0 ∧ j.toNatClampNeg < n) : InB vs j := ⟨h.1, hl ▸ h.2⟩
theorem Ar.lt (F : Ar Z h a ty vs) : a < h.size := by obtain ⟨cl, A, -⟩ := F; exact A.lt
theorem Ar.small (F : Ar Z h a ty vs) : vs.length < 2 ^ 31 := by obtain ⟨cl, A, e1, e2⟩ := F; exact e2
theorem Ar.ext (F : Ar Z h a ty vs) (E : Ext h h') : Ar Z h' a ty vs := by obtain ⟨cl, A, r⟩ := F; exact ⟨cl, A.ext E, r⟩
theorem Ar.other {sl : Nat} {v : Value} (F : Ar Z h b ty vs) (W : Wr h h' a sl v) (q : b ≠ a) : Ar Z h' b ty vs := by obtain ⟨cl, A, r⟩ := F; exact ⟨cl, A.other W q, r⟩
theorem Ar.keep {ws : List Addr} (F : Ar Z h a ty vs) (K : Keep h h' ws) (q : a ∉ ws) : Ar Z h' a ty vs := by obtain ⟨cl, A, r⟩ := F; exact ⟨cl, ⟨K.2.1 a cl A.1 q, A.2⟩, r⟩
theorem Ar.same {j x : Int32} (F : Ar Z h a ty vs) (W : Wr h h' a j.toNatClampNeg (.int x)) : Ar Z h' a ty (wr vs j x) := by
  obtain ⟨cl, A, e1, e2⟩ := F
  refine ⟨_, A.same W, ?_, by simpa [wr] using e2⟩
  show cl.slots.setIfInBounds _ _ = _
  rw [e1, wr, List.map_set]
  simp
theorem Ar.new {k : ClassId} {n : Int32} (A : Arr Z h a (newA k ty n) ty) (hn : ¬ n < 0) (hd : defaultValue ty = .int 0) : Ar Z h a ty (List.replicate n.toNatClampNeg 0) := by
  refine ⟨_, A, ?_, by simpa using (back32 hn).2⟩
  show Array.replicate n.toNatClampNeg (defaultValue ty) = _
  rw [hd, List.map_replicate]
  simp
theorem Ar.inb {cl : Cell} {j : Int32} (e1 : cl.slots = (vs.map Value.int).toArray) (q : InB vs j) : ¬ (j < 0 ∨ cl.slots.size ≤ j.toNatClampNeg) := by
  rw [e1]; simp only [List.size_toArray, List.length_map]
  exact fun z => z.elim q.1 (fun y => by have := q.2; omega)
theorem Ar.get {cl : Cell} {j : Int32} (e1 : cl.slots = (vs.map Value.int).toArray) (q : InB vs j) : cl.slots[j.toNatClampNeg]? = some (.int (rd vs j)) := by
  rw [e1]; have := q.2
  simp [rd, List.getElem?_eq_getElem this, List.getD_eq_getElem?_getD]
theorem eLen (X : Stand p l e R s m args below meth c T locs cells slots) (hx : p.tables.exec = Jvm.exec) (hZ : Z.Warmed39 s.vm) (eT : T.heap = h) (F : Ar Z h a ty vs) (n : Int32) (hn : Int32.ofNat vs.length = n) (hd : decode c.code pc = .ok (.arraylength, 1)) (hp : pc + 1 = pc') (kk : Ends p e below P T m pc' L (.int n :: S)) : Ends p e below P T m pc L (.ref a :: S) := by
  subst hp hn
  obtain ⟨cl, A, e1, e2⟩ := F
  refine kk.of fun t k => X.arraylength hx (by rw [eT]; exact A.1) (State.isArrayOf_alike hZ.alike A.2.1) (g := mkF m pc L (.ref a :: S)) rfl rfl hd _ ?_
  rw [e1]; simp only [List.size_toArray, List.length_map]; exact k
theorem eIALoad (X : Stand p l e R s m args below meth c T locs cells slots) (hx : p.tables.exec = Jvm.exec) (hZ : Z.Warmed39 s.vm) (eT : T.heap = h) (F : Ar Z h a .int vs) {j : Int32} (v : Int32) (hv : rd vs j = v) (q : InB vs j) (hd : decode c.code pc = .ok (.iaload, 1)) (hp : pc + 1 = pc') (kk : Ends p e below P T m pc' L (.int v :: S)) : Ends p e below P T m pc L (.int j :: .ref a :: S) := by
  subst hp hv
  obtain ⟨cl, A, e1, e2⟩ := F
  exact kk.of fun t k => X.iaload hx (by rw [eT]; exact A.1) (State.isArrayOf_alike hZ.alike A.2.1) A.2.2 (Ar.inb e1 q) (Ar.get e1 q) (g := mkF m pc L (.int j :: .ref a :: S)) rfl rfl hd _ k
theorem eCALoad (X : Stand p l e R s m args below meth c T locs cells slots) (hx : p.tables.exec = Jvm.exec) (hZ : Z.Warmed39 s.vm) (eT : T.heap = h) (F : Ar Z h a .char vs) {j : Int32} (v : Int32) (hv : rd vs j = v) (q : InB vs j) (hd : decode c.code pc = .ok (.caload, 1)) (hp : pc + 1 = pc') (kk : Ends p e below P T m pc' L (.int v :: S)) : Ends p e below P T m pc L (.int j :: .ref a :: S) := by
  subst hp hv
  obtain ⟨cl, A, e1, e2⟩ := F
  exact kk.of fun t k => X.caload hx (by rw [eT]; exact A.1) (State.isArrayOf_alike hZ.alike A.2.1) A.2.2 (Ar.inb e1 q) (Ar.get e1 q) (g := mkF m pc L (.int j :: .ref a :: S)) rfl rfl hd _ k
theorem eZALoad (X : Stand p l e R s m args below meth c T locs cells slots) (hx : p.tables.exec = Jvm.exec) (hZ : Z.Warmed39 s.vm) (eT : T.heap = h) (F : Ar Z h a .boolean vs) {j : Int32} (v : Int32) (hv : rd vs j = v) (q : InB vs j) (hd : decode c.code pc = .ok (.baload, 1)) (hp : pc + 1 = pc') (kk : Ends p e below P T m pc' L (.int v :: S)) : Ends p e below P T m pc L (.int j :: .ref a :: S) := by
  subst hp hv
  obtain ⟨cl, A, e1, e2⟩ := F
  exact kk.of fun t k => X.baloadBooleans hx (by rw [eT]; exact A.1) (State.isArrayOf_alike hZ.alike A.2.1) A.2.2 (Ar.inb e1 q) (Ar.get e1 q) (g := mkF m pc L (.int j :: .ref a :: S)) rfl rfl hd _ k
theorem eIAStore (X : Stand p l e R s m args below meth c T locs cells slots) (hx : p.tables.exec = Jvm.exec) (hZ : Z.Warmed39 s.vm) (eT : T.heap = h) (F : Ar Z h a .int vs) {j x : Int32} (q : InB vs j) (hd : decode c.code pc = .ok (.iastore, 1)) (hp : pc + 1 = pc')
    (kk : ∀ T' h', Stand p l e R s m args below meth c T' (locs ++ [⟨a, j.toNatClampNeg⟩]) cells slots → T'.heap = h' → Wr h h' a j.toNatClampNeg (.int x) → Ar Z h' a .int (wr vs j x) → Ends p e below P T' m pc' L S) : Ends p e below P T m pc L (.int x :: .int j :: .ref a :: S) := by
  subst hp
  have F0 := F
  obtain ⟨cl, A, e1, e2⟩ := F
  obtain ⟨T', h', X', e', W, st⟩ := stI X hx hZ eT A (Ar.inb e1 q) (g := mkF m pc L (.int x :: .int j :: .ref a :: S)) rfl rfl hd
  exact (kk T' h' X' e' W (F0.same W)).of st
theorem eCAStore (X : Stand p l e R s m args below meth c T locs cells slots) (hx : p.tables.exec = Jvm.exec) (hZ : Z.Warmed39 s.vm) (eT : T.heap = h) (F : Ar Z h a .char vs) {j x : Int32} (q : InB vs j) (hd : decode c.code pc = .ok (.castore, 1)) (hp : pc + 1 = pc')
    (kk : ∀ T' h', Stand p l e R s m args below meth c T' (locs ++ [⟨a, j.toNatClampNeg⟩]) cells slots → T'.heap = h' → Wr h h' a j.toNatClampNeg (.int (nar .char x)) → Ar Z h' a .char (wr vs j (nar .char x)) → Ends p e below P T' m pc' L S) : Ends p e below P T m pc L (.int x :: .int j :: .ref a :: S) := by
  subst hp
  have F0 := F
  obtain ⟨cl, A, e1, e2⟩ := F
  obtain ⟨T', h', X', e', W, st⟩ := stC X hx hZ eT A (Ar.inb e1 q) (g := mkF m pc L (.int x :: .int j :: .ref a :: S)) rfl rfl hd
  exact (kk T' h' X' e' W (F0.same W)).of st
theorem eZAStore (X : Stand p l e R s m args below meth c T locs cells slots) (hx : p.tables.exec = Jvm.exec) (hZ : Z.Warmed39 s.vm) (eT : T.heap = h) (F : Ar Z h a .boolean vs) {j x : Int32} (q : InB vs j) (hd : decode c.code pc = .ok (.bastore, 1)) (hp : pc + 1 = pc')
    (kk : ∀ T' h', Stand p l e R s m args below meth c T' (locs ++ [⟨a, j.toNatClampNeg⟩]) cells slots → T'.heap = h' → Wr h h' a j.toNatClampNeg (.int (nar .boolean x)) → Ar Z h' a .boolean (wr vs j (nar .boolean x)) → Ends p e below P T' m pc' L S) : Ends p e below P T m pc L (.int x :: .int j :: .ref a :: S) := by
  subst hp
  have F0 := F
  obtain ⟨cl, A, e1, e2⟩ := F
  obtain ⟨T', h', X', e', W, st⟩ := stZ X hx hZ eT A (Ar.inb e1 q) (g := mkF m pc L (.int x :: .int j :: .ref a :: S)) rfl rfl hd
  exact (kk T' h' X' e' W (F0.same W)).of st
theorem eNewA (X : Stand p l e R s m args below meth c T locs cells slots) (hx : p.tables.exec = Jvm.exec) (hZ : Z.Warmed39 s.vm) {aty : ArrayType} (hty : newarray.typeOf aty = ty) (hdf : defaultValue ty = .int 0) (w : (Cond.arrayClass ty).before a0 Z = true) (eT : T.heap = h) (hd : decode c.code pc = .ok (.newarray aty, 2)) {n : Int32} (hn : ¬ n < 0) {cap : Nat} (hcap : n.toNatClampNeg ≤ cap) (hb : cap * 8 ≤ 536870912) (hc : cells + 1 ≤ R.cells) (hl : slots + cap ≤ R.slots) (hp : pc + 2 = pc')
    (kk : ∀ T' h' a, a = h.size → Stand p l e R s m args below meth c T' locs (cells + 1) (slots + cap) → T'.heap = h' → Ext h h' → Ar Z h' a ty (List.replicate n.toNatClampNeg 0) → Ends p e below P T' m pc' L (.ref a :: S)) : Ends p e below P T m pc L (.int n :: S) := by
  subst hp hty
  obtain ⟨T', h', cA, X', e', E, A, st⟩ := newP X hx hZ w eT (g := mkF m pc L (.int n :: S)) rfl hd rfl hn hcap hb hc hl
  exact (kk T' h' _ rfl X' e' E (Ar.new A hn hdf)).of st
theorem eNewE (X : Stand p l e R s m args below meth c T locs cells slots) (hx : p.tables.exec = Jvm.exec) (hZ : Z.Warmed39 s.vm) {aty : ArrayType} (hty : newarray.typeOf aty = ty) (hdf : defaultValue ty = .int 0) (w : (Cond.arrayClass ty).before a0 Z = true) (eT : T.heap = h) (hd : decode c.code pc = .ok (.newarray aty, 2)) {n : Int32} (hn : ¬ n < 0) {cap : Nat} (hcap : n.toNatClampNeg ≤ cap) (hb : cap * 8 ≤ 536870912) (hc : cells + 1 ≤ R.cells) (hl : slots + cap ≤ R.slots) (ad : String) (had : "[" ++ ty.toString = ad) (hp : pc + 2 = pc')
    (kk : ∀ T' h' a, a = h.size → Stand p l e R s m args below meth c T' locs (cells + 1) (slots + cap) → T'.heap = h' → Ext h h' → Ar Z h' a ty (List.replicate n.toNatClampNeg 0) → Exa Z h' a ad → Ends p e below P T' m pc' L (.ref a :: S)) : Ends p e below P T m pc L (.int n :: S) := by
  subst hp hty
  obtain ⟨T', h', cA, X', e', E, A, Ex, st⟩ := newPE X hx hZ w eT (g := mkF m pc L (.int n :: S)) rfl hd rfl hn hcap hb hc hl had
  exact (kk T' h' _ rfl X' e' E (Ar.new A hn hdf) Ex).of st
theorem eCast (X : Stand p l e R s m args below meth c T locs cells slots) (hx : p.tables.exec = Jvm.exec) (hZ : Z.Warmed39 s.vm) {own K : String} {index : Nat} (hown : s.vm.findClass own = some m.cls) (w : (Cond.classLink own index K).before a0 Z = true) (eT : T.heap = h) (F : Ins Z h a K true) (hd : decode c.code pc = .ok (.checkcast index, 3)) (hp : pc + 3 = pc')
    (kk : ∀ T', Stand p l e R s m args below meth c T' locs cells slots → T'.heap = h → Ends p e below P T' m pc' L (.ref a :: S)) : Ends p e below P T m pc L (.ref a :: S) := by
  subst hp
  obtain ⟨T', X', e', st⟩ := castY X hx hZ hown w eT F (g := mkF m pc L (.ref a :: S)) rfl rfl hd
  exact (kk T' X' e').of st
theorem eNonNullY (X : Stand p l e R s m args below meth c T locs cells slots) (hx : p.tables.exec = Jvm.exec) {o : Int} (hd : decode c.code pc = .ok (.ifnonnull o, 3)) (ho : 0 ≤ (pc : Int) + o) (hp : ((pc : Int) + o).toNat = pc') (kk : Ends p e below P T m pc' L S) : Ends p e below P T m pc L (.ref a :: S) :=
  kk.of fun t h => XT.ifnonnullYes X.here hx rfl rfl hd rfl ho hp h
theorem eNonNullN (X : Stand p l e R s m args below meth c T locs cells slots) (hx : p.tables.exec = Jvm.exec) {o : Int} (hd : decode c.code pc = .ok (.ifnonnull o, 3)) (hp : pc + 3 = pc') (kk : Ends p e below P T m pc' L S) : Ends p e below P T m pc L (.null :: S) := by
  subst hp; exact kk.of fun t h => XT.ifnonnullNo X.here hx rfl hd rfl h
theorem eNullY (X : Stand p l e R s m args below meth c T locs cells slots) (hx : p.tables.exec = Jvm.exec) {o : Int} (hd : decode c.code pc = .ok (.ifnull o, 3)) (ho : 0 ≤ (pc : Int) + o) (hp : ((pc : Int) + o).toNat = pc') (kk : Ends p e below P T m pc' L S) : Ends p e below P T m pc L (.null :: S) :=
  kk.of fun t h => XS.ifnullYes X.here hx rfl rfl hd rfl ho hp h
theorem eNullN (X : Stand p l e R s m args below meth c T locs cells slots) (hx : p.tables.exec = Jvm.exec) {o : Int} (hd : decode c.code pc = .ok (.ifnull o, 3)) (hp : pc + 3 = pc') (kk : Ends p e below P T m pc' L S) : Ends p e below P T m pc L (.ref a :: S) := by
  subst hp; exact kk.of fun t h => XS.ifnullNo X.here hx rfl hd rfl h
theorem eTsw (X : Stand p l e R s m args below meth c T locs cells slots) (hx : p.tables.exec = Jvm.exec) {dflt low high : Int} {offs : Array Int} {len : Nat} {o : Int} {i : Int32} (hd : decode c.code pc = .ok (.tableswitch dflt low high offs, len)) (hin : ¬ (i.toInt < low ∨ i.toInt > high)) (hoff : offs[(i.toInt - low).toNat]? = some o) (ho : 0 ≤ (pc : Int) + o) (hp : ((pc : Int) + o).toNat = pc') (kk : Ends p e below P T m pc' L S) : Ends p e below P T m pc L (.int i :: S) :=
  kk.of fun t h => XS.tswIn X.here hx rfl rfl hd rfl hin hoff ho hp h
theorem eLsw (X : Stand p l e R s m args below meth c T locs cells slots) (hx : p.tables.exec = Jvm.exec) {dflt : Int} {a1 o1 a2 o2 : Int} {len : Nat} {o : Int} {i : Int32} (hd : decode c.code pc = .ok (.lookupswitch dflt #[(a1, o1), (a2, o2)], len)) (hso : a1 < a2) (hoff : (if a1 = i.toInt then o1 else if a2 = i.toInt then o2 else dflt) = o) (ho : 0 ≤ (pc : Int) + o) (hp : ((pc : Int) + o).toNat = pc') (kk : Ends p e below P T m pc' L S) : Ends p e below P T m pc L (.int i :: S) := by
  subst hp hoff
  refine kk.of fun t h => ?_
  by_cases h1 : a1 = i.toInt
  · simp only [h1, if_true] at h ho
    jvm_step X.here [X.here.top, hx, hd, hso, h1, ho, lookupswitch.wp_chain, lookupswitch.offset_cons, lookupswitch.offset_nil]
    exact ⟨by rw [← h1]; exact hso, h⟩
  · by_cases h2 : a2 = i.toInt
    · simp only [h1, h2, if_true, if_false] at h ho
      jvm_step X.here [X.here.top, hx, hd, hso, h1, h2, ho, lookupswitch.wp_chain, lookupswitch.offset_cons, lookupswitch.offset_nil]
      exact ⟨by rw [← h2]; exact hso, h⟩
    · simp only [h1, h2, if_false] at h ho
      jvm_step X.here [X.here.top, hx, hd, hso, h1, h2, ho, lookupswitch.wp_chain, lookupswitch.offset_cons, lookupswitch.offset_nil]
      exact h
/-! calls -/
def PostQ (s : State) (C D : Nat) (Q : Option Value → Heap → List Loc → Prop) : State → Outcome → Prop := fun t o => ∃ v L, o = .returned v ∧ Q v t.heap L ∧ FrameEnd s o t L C D
abbrev MetC (l : Launch) (Z : State) (y : MethodName) (ws : List Jvm.Cond) (rm : Room) (as' : Array Value) (h : Heap) (C D : Nat) (Q : Option Value → Heap → List Loc → Prop) : Prop :=
  MetFree l y (head1 ws rm) (fun a U => a = as' ∧ Z.Warmed39 U.vm ∧ U.heap = h) (fun _ _ _ _ _ => True) (fun _ U o U' => PostQ U C D Q U' o)
abbrev MetQ (l : Launch) (Z : State) (y : MethodName) (ws : List Jvm.Cond) (rm : Room) (as' : Array Value) (h : Heap) (Q : Option Value → Heap → List Loc → Prop) : Prop :=
  MetFree l y (head1 ws rm) (fun a U => a = as' ∧ Z.Warmed39 U.vm ∧ U.heap = h) (fun _ _ _ _ _ => True) (fun _ U o U' => PostQ U rm.cells rm.slots Q U' o)
theorem eCallS (X : Stand p l e R s m args below meth c T locs cells slots) (hx : p.tables.exec = Jvm.exec) (hZ : Z.Warmed39 s.vm) {own : String} {index : Nat} {y : MethodName} {bytes : ByteArray} {maxL : Nat} {ret : Option FieldType} (hown : s.vm.findClass own = some m.cls) (w1 : (Cond.methodLink own index y).before a0 Z = true) (w2 : (Cond.static y).before a0 Z = true) (w3 : (Cond.initialized y.cls).before a0 Z = true) (w4 : (Cond.code y bytes maxL ret).before a0 Z = true) (hy : y.cls ≠ "java/lang/invoke/MethodHandle" ∧ y.cls ≠ "java/lang/invoke/VarHandle") (eT : T.heap = h) {rm : Room} {Q : Option Value → Heap → List Loc → Prop} {argsL rest : List Value} (hM : MetQ l Z y [Cond.code y bytes maxL ret] rm argsL.toArray h Q) (hlen : ∀ sig, parseMethodDescriptor y.desc = some sig → argsL.length = sig.parameters.length) (hS : S = argsL.reverse ++ rest) (hsize : L.size = c.maxLocals) (W : Nat) (hW : 2 * 0 + (rest.map fun v => v.category).sum ≤ W) (hf : rm.frames + 1 ≤ R.frames) (hl : W + (maxL + 11) + rm.locals ≤ R.locals) (hc : cells + rm.cells ≤ R.cells) (hs : slots + rm.slots ≤ R.slots) (hd : decode c.code pc = .ok (.invokestatic index, 3)) (hp : pc + 3 = pc')
    (kk : ∀ v T' L', Q v T'.heap L' → Stand p l e R s m args below meth c T' (locs ++ L') (cells + rm.cells) (slots + rm.slots) → Ends p e below P T' m pc' L (v.toList ++ rest)) : Ends p e below P T m pc L S := by
  subst hp hS
  obtain ⟨v, _, ⟨T1, L1, k1, n1⟩, -, X1, ⟨Lc, hQ, l1, y1, z1⟩, st⟩ := Jvm.LawKit.callS X hx (y := y) hown (mvT hZ w1) (mvT hZ w2) (mvT hZ w3) (mvT hZ w4) hy (backOf (W := W) (Q := Q) hM hZ w4 w3 hf hl) (g := mkF m pc L (argsL.reverse ++ rest)) rfl hsize (argsL := argsL) (rest := rest) hlen rfl hW hd (fun _ _ => ⟨rfl, eT, hc, hs⟩)
  dsimp only [Pt.U, Pt.locs, Pt.cells, Pt.slots] at X1 l1 y1 z1 st hQ
  subst l1 y1 z1
  exact (kk v T1 Lc hQ X1).of st
theorem eCallI (X : Stand p l e R s m args below meth c T locs cells slots) (hx : p.tables.exec = Jvm.exec) (hZ : Z.Warmed39 s.vm) {own : String} {index : Nat} {y : MethodName} {bytes : ByteArray} {maxL : Nat} (hy1 : y.name = "<init>") (hown : s.vm.findClass own = some m.cls) (w1 : (Cond.methodLink own index y).before a0 Z = true) (w2 : (Cond.instanceMethod y).before a0 Z = true) (w3 : (Cond.initialized y.cls).before a0 Z = true) (w4 : (Cond.code y bytes maxL none).before a0 Z = true) (hy : y.cls ≠ "java/lang/invoke/MethodHandle" ∧ y.cls ≠ "java/lang/invoke/VarHandle") (eT : T.heap = h) {rm : Room} {Q : Option Value → Heap → List Loc → Prop} {argsL rest : List Value} (hM : MetQ l Z y [Cond.code y bytes maxL none] rm (.ref a :: argsL).toArray h Q) (hlen : ∀ sig, parseMethodDescriptor y.desc = some sig → argsL.length = sig.parameters.length) (hS : S = argsL.reverse ++ .ref a :: rest) (hsize : L.size = c.maxLocals) (W : Nat) (hW : 2 * 0 + (rest.map fun v => v.category).sum ≤ W) (hf : rm.frames + 1 ≤ R.frames) (hl : W + (maxL + 11) + rm.locals ≤ R.locals) (hc : cells + rm.cells ≤ R.cells) (hs : slots + rm.slots ≤ R.slots) (hd : decode c.code pc = .ok (.invokespecial index, 3)) (hp : pc + 3 = pc')
    (kk : ∀ v T' L', Q v T'.heap L' → Stand p l e R s m args below meth c T' (locs ++ L') (cells + rm.cells) (slots + rm.slots) → Ends p e below P T' m pc' L (v.toList ++ rest)) : Ends p e below P T m pc L S := by
  subst hp hS
  obtain ⟨v, _, ⟨T1, L1, k1, n1⟩, -, X1, ⟨Lc, hQ, l1, y1, z1⟩, st⟩ := X.specialBack hx (y := y) hy1 hown (mvT hZ w1) (mvT hZ w2) (mvT hZ w4) hy (backOf (W := W) (Q := Q) hM hZ w4 w3 hf hl) (g := mkF m pc L (argsL.reverse ++ .ref a :: rest)) rfl hsize (Steps.refl _) (a := a) (argsL := argsL) (rest := rest) hlen rfl hW hd (fun _ _ => ⟨rfl, eT, hc, hs⟩)
  dsimp only [Pt.U, Pt.locs, Pt.cells, Pt.slots] at X1 l1 y1 z1 st hQ
  subst l1 y1 z1
  exact (kk v T1 Lc hQ X1).of fun t k => st.trans k
theorem eCallV (X : Stand p l e R s m args below meth c T locs cells slots) (hx : p.tables.exec = Jvm.exec) (hZ : Z.Warmed39 s.vm) {own C : String} {index : Nat} {y : MethodName} {bytes : ByteArray} {maxL : Nat} {ret : Option FieldType} (hown : s.vm.findClass own = some m.cls) (w1 : (Cond.methodLink own index y).before a0 Z = true) (w2 : (Cond.declares y).before a0 Z = true) (w5 : (Cond.selects C y y).before a0 Z = true) (w6 : (Cond.instanceMethod y).before a0 Z = true) (w3 : (Cond.initialized y.cls).before a0 Z = true) (w4 : (Cond.code y bytes maxL ret).before a0 Z = true) (hy : y.cls ≠ "java/lang/invoke/MethodHandle" ∧ y.cls ≠ "java/lang/invoke/VarHandle") (eT : T.heap = h) (E : Exa Z h a C) {rm : Room} {Q : Option Value → Heap → List Loc → Prop} {argsL rest : List Value} (hM : MetQ l Z y [Cond.code y bytes maxL ret] rm (.ref a :: argsL).toArray h Q) (hlen : ∀ sig, parseMethodDescriptor y.desc = some sig → argsL.length = sig.parameters.length) (hS : S = argsL.reverse ++ .ref a :: rest) (hsize : L.size = c.maxLocals) (W : Nat) (hW : 2 * 0 + (rest.map fun v => v.category).sum ≤ W) (hf : rm.frames + 1 ≤ R.frames) (hl : W + (maxL + 11) + rm.locals ≤ R.locals) (hc : cells + rm.cells ≤ R.cells) (hs : slots + rm.slots ≤ R.slots) (hd : decode c.code pc = .ok (.invokevirtual index, 3)) (hp : pc + 3 = pc')
    (kk : ∀ v T' L', Q v T'.heap L' → Stand p l e R s m args below meth c T' (locs ++ L') (cells + rm.cells) (slots + rm.slots) → Ends p e below P T' m pc' L (v.toList ++ rest)) : Ends p e below P T m pc L S := by
  subst hp hS
  obtain ⟨cq, kq, q1, q2, q3⟩ := isOf hZ eT E
  obtain ⟨v, _, ⟨T1, L1, k1, n1⟩, -, X1, ⟨Lc, hQ, l1, y1, z1⟩, st⟩ := X.virtualBack hx (y := y) (z := y) hown (mvT hZ w1) (mvT hZ w2) (notFace_of_selects (args := #[]) (mvT hZ w5)) (mvT hZ w5) (mvT hZ w6) hy (backOf (W := W) (Q := Q) hM hZ w4 w3 hf hl) q1 q3 (g := mkF m pc L (argsL.reverse ++ .ref a :: rest)) rfl hsize (Steps.refl _) (argsL := argsL) (rest := rest) hlen rfl hW hd (fun _ _ => ⟨rfl, eT, hc, hs⟩)
  dsimp only [Pt.U, Pt.locs, Pt.cells, Pt.slots] at X1 l1 y1 z1 st hQ
  subst l1 y1 z1
  exact (kk v T1 Lc hQ X1).of fun t k => st.trans k
/-! returns -/
theorem eEnd (X : Stand p l e R s m args below meth c T locs cells slots) (hlk : meth.locks = false) {C D : Nat} {Q : Option Value → Heap → List Loc → Prop} {v : Option Value} (hv : meth.sig.returnType = none → v = none) (hC : cells ≤ C) (hD : slots ≤ D) (hq : Q v T.heap locs)
    (st : ∀ fs, (∀ (f : JFrame) (acts : List Action), f.method = m → f.locked = none → f.entered = [] → (doReturn e (T.setTop f) acts v).1 = T.setFrames fs) → Steps p.tables e below (T.setTop (mkF m pc L S)) (T.setFrames fs)) : Ends p e below (PostQ s C D Q) T m pc L S := by
  obtain ⟨fs, hr, hrun, hended, hW, hsame⟩ := X.leave (v := v) hv hlk
  exact ⟨_, _, st fs hr, hrun, hended, v, locs, rfl, hq, ⟨_, rfl⟩, hW, hsame.mono hC hD⟩
theorem eRetN (X : Stand p l e R s m args below meth c T locs cells slots) (hx : p.tables.exec = Jvm.exec) {t : FieldType} {z : Int32} (hret : meth.sig.returnType = some t) (ht : t = .boolean ∨ t = .byte ∨ t = .char ∨ t = .short) (hlk : meth.locks = false) (hd : decode c.code pc = .ok (.ireturn, 1)) {C D : Nat} {Q : Option Value → Heap → List Loc → Prop} (hC : cells ≤ C) (hD : slots ≤ D) (hq : Q (some (.int (nar t z))) T.heap locs) : Ends p e below (PostQ s C D Q) T m pc L (.int z :: S) :=
  eEnd X hlk (fun h => by rw [hret] at h; cases h) hC hD hq fun fs hr => retN X hx hret ht hd hr
theorem eRetO (X : Stand p l e R s m args below meth c T locs cells slots) (hx : p.tables.exec = Jvm.exec) {t : FieldType} {w : Value} {i : Instr} (hret : meth.sig.returnType = some t) (hn : narrow t w = w) (hi : (i = .ireturn ∧ (t = .int ∨ t = .boolean ∨ t = .byte ∨ t = .char ∨ t = .short) ∧ ∃ z, w = .int z) ∨ (i = .lreturn ∧ t = .long ∧ ∃ z, w = .long z) ∨ (i = .dreturn ∧ t = .double ∧ ∃ z, w = .double z) ∨ (i = .freturn ∧ t = .float ∧ ∃ z, w = .float z) ∨ (i = .areturn ∧ t.isReference = true ∧ w.isRef = true)) (hlk : meth.locks = false) (hd : decode c.code pc = .ok (i, 1)) {C D : Nat} {Q : Option Value → Heap → List Loc → Prop} (hC : cells ≤ C) (hD : slots ≤ D) (hq : Q (some w) T.heap locs) : Ends p e below (PostQ s C D Q) T m pc L (w :: S) :=
  eEnd X hlk (fun h => by rw [hret] at h; cases h) hC hD hq fun fs hr => retOut X hx hret hn hi hd hr
theorem eRetI (X : Stand p l e R s m args below meth c T locs cells slots) (hx : p.tables.exec = Jvm.exec) {z : Int32} (hret : meth.sig.returnType = some .int) (hlk : meth.locks = false) (hd : decode c.code pc = .ok (.ireturn, 1)) {C D : Nat} {Q : Option Value → Heap → List Loc → Prop} (hC : cells ≤ C) (hD : slots ≤ D) (hq : Q (some (.int z)) T.heap locs) : Ends p e below (PostQ s C D Q) T m pc L (.int z :: S) :=
  eRetO X hx hret rfl (Or.inl ⟨rfl, Or.inl rfl, z, rfl⟩) hlk hd hC hD hq
theorem eRetL (X : Stand p l e R s m args below meth c T locs cells slots) (hx : p.tables.exec = Jvm.exec) {z : Int64} (hret : meth.sig.returnType = some .long) (hlk : meth.locks = false) (hd : decode c.code pc = .ok (.lreturn, 1)) {C D : Nat} {Q : Option Value → Heap → List Loc → Prop} (hC : cells ≤ C) (hD : slots ≤ D) (hq : Q (some (.long z)) T.heap locs) : Ends p e below (PostQ s C D Q) T m pc L (.long z :: S) :=
  eRetO X hx hret rfl (Or.inr (Or.inl ⟨rfl, rfl, z, rfl⟩)) hlk hd hC hD hq
theorem eRetA (X : Stand p l e R s m args below meth c T locs cells slots) (hx : p.tables.exec = Jvm.exec) {t : FieldType} {w : Value} (hret : meth.sig.returnType = some t) (ht : t.isReference = true) (hn : narrow t w = w) (hw : w.isRef = true) (hlk : meth.locks = false) (hd : decode c.code pc = .ok (.areturn, 1)) {C D : Nat} {Q : Option Value → Heap → List Loc → Prop} (hC : cells ≤ C) (hD : slots ≤ D) (hq : Q (some w) T.heap locs) : Ends p e below (PostQ s C D Q) T m pc L (w :: S) :=
  eRetO X hx hret hn (Or.inr (Or.inr (Or.inr (Or.inr ⟨rfl, ht, hw⟩)))) hlk hd hC hD hq
theorem eRetV (X : Stand p l e R s m args below meth c T locs cells slots) (hx : p.tables.exec = Jvm.exec) (hret : meth.sig.returnType = none) (hlk : meth.locks = false) (hd : decode c.code pc = .ok (.return_, 1)) {C D : Nat} {Q : Option Value → Heap → List Loc → Prop} (hC : cells ≤ C) (hD : slots ≤ D) (hq : Q none T.heap locs) : Ends p e below (PostQ s C D Q) T m pc L [] :=
  eEnd X hlk (fun _ => rfl) hC hD hq fun fs hr => X.returnOut hx hret hd hr
abbrev PVI (s : State) (C D n0 : Nat) (h0 : Heap) (r : Int32) : State → Outcome → Prop := PostQ s C D (fun v h L => v = some (.int r) ∧ Fr n0 L ∧ h = h0)
abbrev PVL (s : State) (C D n0 : Nat) (h0 : Heap) (r : Int64) : State → Outcome → Prop := PostQ s C D (fun v h L => v = some (.long r) ∧ Fr n0 L ∧ h = h0)
abbrev PVW (s : State) (C D n0 : Nat) (r : Int32) : State → Outcome → Prop := PostQ s C D (fun v h L => v = some (.int r) ∧ Fr n0 L)
end Own

theorem own_pn0 : plainName "java/util/AbstractCollection" = true := by first | (simp [plainName, overriddenIn]; done) | decide +kernel
theorem own_d3_0 : decode jdk_22_method_1_code 0 = .ok (.aload_n 0, 1) := by decide +kernel
theorem own_d3_1 : decode jdk_22_method_1_code 1 = .ok (.invokespecial 1, 3) := by decide +kernel
theorem own_d3_4 : decode jdk_22_method_1_code 4 = .ok (.return_, 1) := by decide +kernel
def RM3 : Room := { frames := 1, cells := 0, slots := 0, locals := 12 }
theorem own_ef3 (m : MethodId) (a1 : Addr) : entryFrame m #[(.ref a1)] 1 = mkF m 0 #[.val (.ref a1)] [] := by first | (simp [entryFrame, mkF, argsToLocals, Value.category]; done) | rfl
set_option maxRecDepth 65536 in
set_option maxHeartbeats 40000000 in
theorem rm3 (l : Launch) (Z : State) (a0 : Array Value) (hw : ∀ d ∈ tables_1, d.before a0 Z = true) (ws : List Jvm.Cond) (a1 : Addr) (h0 : Heap) (n0 : Nat) (Z0 : n0 ≤ h0.size) : MetQ l Z (⟨"java/util/AbstractCollection", "<init>", "()V"⟩ : MethodName) (Jvm.Cond.code (⟨"java/util/AbstractCollection", "<init>", "()V"⟩ : MethodName) jdk_22_method_1_code 1 none :: ws) RM3 #[(.ref a1)] h0 (fun v h L => Fr n0 L ∧ h = h0 ∧ v = none) := by
  refine MetFree.of_bodySF (plainFor_of_name own_pn0) hisR ?_
  intro p e s m args below meth c s₁ Bd hml0 hP hK
  obtain ⟨rfl, hZ, hh⟩ := hP
  have hx := Bd.exec
  have hby := Bd.bytes
  have hml : c.maxLocals = 1 := hml0
  have hown : s.vm.findClass "java/util/AbstractCollection" = some m.cls := findClass_of_methodNamed Bd.named
  have hnm := (name_of_methodNamed Bd.named Bd.method).1
  have hlk : meth.locks = false := BodyLoose.notSynchronized Bd
  have X0 : Stand p l e RM3 s m #[(.ref a1)] below meth c s₁ [] 0 0 := Stand.of_body Bd
  have e0 : s₁.heap = h0 := by rw [← hh, Bd.state]; rfl
  have N0 := Fr.nil n0
  suffices kk : Ends p e below (PostQ s 0 0 (fun v h L => Fr n0 L ∧ h = h0 ∧ v = none)) s₁ m 0 #[.val (.ref a1)] [] by
    obtain ⟨t, o, k1, k2, k3, k4⟩ := kk
    exact ⟨t, o, castTop (own_ef3 m a1) k1, k2, k3, k4⟩
  refine eALoadN X0 hx (hb hby own_d3_0) rfl rfl rfl ?_
  refine eInitO X0 hx hZ hown (hw _ (List.mem_of_getElem? (i := 18) rfl)) (hw _ (List.mem_of_getElem? (i := 19) rfl)) (hw _ (List.mem_of_getElem? (i := 20) rfl)) e0 (by rw [hml]; rfl) (hb hby own_d3_1) (by decide) 0 (by exact Nat.le_refl _) (by decide) rfl (fun T1 X1 e1 => ?_)
  exact eRetV X1 hx Bd.returns hlk (hb hby own_d3_4) (by decide) (by decide) (by rw [e1]; exact ⟨N0, rfl, rfl⟩)
theorem own_pn1 : plainName "java/lang/Record" = true := by first | (simp [plainName, overriddenIn]; done) | decide +kernel
theorem own_d6_0 : decode jdk_30_method_1_code 0 = .ok (.aload_n 0, 1) := by decide +kernel
theorem own_d6_1 : decode jdk_30_method_1_code 1 = .ok (.invokespecial 1, 3) := by decide +kernel
theorem own_d6_4 : decode jdk_30_method_1_code 4 = .ok (.return_, 1) := by decide +kernel
def RM6 : Room := { frames := 1, cells := 0, slots := 0, locals := 12 }
theorem own_ef6 (m : MethodId) (a1 : Addr) : entryFrame m #[(.ref a1)] 1 = mkF m 0 #[.val (.ref a1)] [] := by first | (simp [entryFrame, mkF, argsToLocals, Value.category]; done) | rfl
set_option maxRecDepth 65536 in
set_option maxHeartbeats 40000000 in
theorem rm6 (l : Launch) (Z : State) (a0 : Array Value) (hw : ∀ d ∈ tables_1, d.before a0 Z = true) (ws : List Jvm.Cond) (a1 : Addr) (h0 : Heap) (n0 : Nat) (Z0 : n0 ≤ h0.size) : MetQ l Z (⟨"java/lang/Record", "<init>", "()V"⟩ : MethodName) (Jvm.Cond.code (⟨"java/lang/Record", "<init>", "()V"⟩ : MethodName) jdk_30_method_1_code 1 none :: ws) RM6 #[(.ref a1)] h0 (fun v h L => Fr n0 L ∧ h = h0 ∧ v = none) := by
  refine MetFree.of_bodySF (plainFor_of_name own_pn1) hisR ?_
  intro p e s m args below meth c s₁ Bd hml0 hP hK
  obtain ⟨rfl, hZ, hh⟩ := hP
  have hx := Bd.exec
  have hby := Bd.bytes
  have hml : c.maxLocals = 1 := hml0
  have hown : s.vm.findClass "java/lang/Record" = some m.cls := findClass_of_methodNamed Bd.named
  have hnm := (name_of_methodNamed Bd.named Bd.method).1
  have hlk : meth.locks = false := BodyLoose.notSynchronized Bd
  have X0 : Stand p l e RM6 s m #[(.ref a1)] below meth c s₁ [] 0 0 := Stand.of_body Bd
  have e0 : s₁.heap = h0 := by rw [← hh, Bd.state]; rfl
  have N0 := Fr.nil n0
  suffices kk : Ends p e below (PostQ s 0 0 (fun v h L => Fr n0 L ∧ h = h0 ∧ v = none)) s₁ m 0 #[.val (.ref a1)] [] by
    obtain ⟨t, o, k1, k2, k3, k4⟩ := kk
    exact ⟨t, o, castTop (own_ef6 m a1) k1, k2, k3, k4⟩
  refine eALoadN X0 hx (hb hby own_d6_0) rfl rfl rfl ?_
  refine eInitO X0 hx hZ hown (hw _ (List.mem_of_getElem? (i := 37) rfl)) (hw _ (List.mem_of_getElem? (i := 19) rfl)) (hw _ (List.mem_of_getElem? (i := 20) rfl)) e0 (by rw [hml]; rfl) (hb hby own_d6_1) (by decide) 0 (by exact Nat.le_refl _) (by decide) rfl (fun T1 X1 e1 => ?_)
  exact eRetV X1 hx Bd.returns hlk (hb hby own_d6_4) (by decide) (by decide) (by rw [e1]; exact ⟨N0, rfl, rfl⟩)
theorem own_pn2 : plainName "java/util/AbstractList" = true := by first | (simp [plainName, overriddenIn]; done) | decide +kernel
theorem own_d2_0 : decode jdk_39_method_1_code 0 = .ok (.aload_n 0, 1) := by decide +kernel
theorem own_d2_1 : decode jdk_39_method_1_code 1 = .ok (.invokespecial 1, 3) := by decide +kernel
theorem own_pd0 : parseMethodDescriptor "()V" = some ⟨[], none⟩ := by decide +kernel
theorem own_d2_4 : decode jdk_39_method_1_code 4 = .ok (.aload_n 0, 1) := by decide +kernel
theorem own_d2_5 : decode jdk_39_method_1_code 5 = .ok (.iconst 0, 1) := by decide +kernel
theorem own_d2_6 : decode jdk_39_method_1_code 6 = .ok (.putfield 7, 3) := by decide +kernel
theorem own_d2_9 : decode jdk_39_method_1_code 9 = .ok (.return_, 1) := by decide +kernel
def RM2 : Room := { frames := 2, cells := 0, slots := 0, locals := 24 }
def fAb_0  : Int32 := (0 : Int32)
theorem own_ef2 (m : MethodId) (a1 : Addr) : entryFrame m #[(.ref a1)] 1 = mkF m 0 #[.val (.ref a1)] [] := by first | (simp [entryFrame, mkF, argsToLocals, Value.category]; done) | rfl
set_option maxRecDepth 65536 in
set_option maxHeartbeats 40000000 in
theorem rm2 (l : Launch) (Z : State) (a0 : Array Value) (hw : ∀ d ∈ tables_1, d.before a0 Z = true) (ws : List Jvm.Cond) (a1 : Addr) (w1 : Int32) (h0 : Heap) (n0 : Nat) (Z0 : n0 ≤ h0.size) (E_a1 : Exa Z h0 a1 "java/util/ArrayList") (F_a1_modCount : Fld Z h0 a1 "java/util/AbstractList" "modCount" "I" (.int w1)) (F_a1_elementData : Fld Z h0 a1 "java/util/ArrayList" "elementData" "[Ljava/lang/Object;" .null) (ge_a1 : n0 ≤ a1) : MetQ l Z (⟨"java/util/AbstractList", "<init>", "()V"⟩ : MethodName) (Jvm.Cond.code (⟨"java/util/AbstractList", "<init>", "()V"⟩ : MethodName) jdk_39_method_1_code 1 none :: ws) RM2 #[(.ref a1)] h0 (fun v h L => Fr n0 L ∧ Keep h0 h [a1] ∧ v = none ∧ Exa Z h a1 "java/util/ArrayList" ∧ Fld Z h a1 "java/util/AbstractList" "modCount" "I" (.int (fAb_0)) ∧ Fld Z h a1 "java/util/ArrayList" "elementData" "[Ljava/lang/Object;" .null) := by
  refine MetFree.of_bodySF (plainFor_of_name own_pn2) hisR ?_
  intro p e s m args below meth c s₁ Bd hml0 hP hK
  obtain ⟨rfl, hZ, hh⟩ := hP
  have hx := Bd.exec
  have hby := Bd.bytes
  have hml : c.maxLocals = 1 := hml0
  have hown : s.vm.findClass "java/util/AbstractList" = some m.cls := findClass_of_methodNamed Bd.named
  have hnm := (name_of_methodNamed Bd.named Bd.method).1
  have hlk : meth.locks = false := BodyLoose.notSynchronized Bd
  have X0 : Stand p l e RM2 s m #[(.ref a1)] below meth c s₁ [] 0 0 := Stand.of_body Bd
  have e0 : s₁.heap = h0 := by rw [← hh, Bd.state]; rfl
  have N0 := Fr.nil n0
  have K0 := Keep.refl h0 [a1]
  suffices kk : Ends p e below (PostQ s 0 0 (fun v h L => Fr n0 L ∧ Keep h0 h [a1] ∧ v = none ∧ Exa Z h a1 "java/util/ArrayList" ∧ Fld Z h a1 "java/util/AbstractList" "modCount" "I" (.int (fAb_0)) ∧ Fld Z h a1 "java/util/ArrayList" "elementData" "[Ljava/lang/Object;" .null)) s₁ m 0 #[.val (.ref a1)] [] by
    obtain ⟨t, o, k1, k2, k3, k4⟩ := kk
    exact ⟨t, o, castTop (own_ef2 m a1) k1, k2, k3, k4⟩
  refine eALoadN X0 hx (hb hby own_d2_0) rfl rfl rfl ?_
  refine eCallI X0 hx hZ (y := (⟨"java/util/AbstractCollection", "<init>", "()V"⟩ : MethodName)) (a := a1) rfl hown (hw _ (List.mem_of_getElem? (i := 12) rfl)) (hw _ (List.mem_of_getElem? (i := 13) rfl)) (hw _ (List.mem_of_getElem? (i := 16) rfl)) (hw _ (List.mem_of_getElem? (i := 17) rfl)) (by decide) e0 (rm3 l Z a0 hw [] a1 h0 n0 Z0) (argsL := []) (rest := []) (lenOf own_pd0 rfl) rfl (by rw [hml]; rfl) 0 (by exact Nat.le_refl _) (by decide) (by decide) (by decide) (by decide) (hb hby own_d2_1) rfl (fun v1 T1 L1 q1 (X1 : Stand _ _ _ _ _ _ _ _ _ _ T1 _ 0 0) => ?_)
  obtain ⟨N1', e1, rfl⟩ := q1
  have N1 := Fr.app N0 N1'
  show Ends p e below _ T1 m 4 #[.val (.ref a1)] []
  refine eALoadN X1 hx (hb hby own_d2_4) rfl rfl rfl ?_
  refine eIConst X1 hx (0 : Int32) (hb hby own_d2_5) rfl rfl ?_
  refine ePutF X1 hx hZ hown (hw _ (List.mem_of_getElem? (i := 21) rfl)) Via.refl e1 F_a1_modCount E_a1 (Or.inl (hw _ (List.mem_of_getElem? (i := 22) rfl))) (hw _ (List.mem_of_getElem? (i := 1) rfl)) (ty := .int) (by decide) rfl rfl (hb hby own_d2_6) rfl (fun T2 h2 X2 e2 W2 => ?_)
  have E_a1 := E_a1.wr W2
  have F_a1_elementData := F_a1_elementData.other W2 (Or.inr (slot_ne (Or.inl (hw _ (List.mem_of_getElem? (i := 25) rfl))) (Or.inl (hw _ (List.mem_of_getElem? (i := 22) rfl))) (by decide) (t := (.array (.object "java/lang/Object"))) (t' := .int) (by decide) (by decide)))
  have F_a1_modCount := F_a1_modCount.same W2
  have N2 := Fr.snoc X2 N1 ge_a1
  have Z2 := Nat.le_trans Z0 (Keep.of_wr W2).1
  have K2 : Keep h0 h2 [a1] := K0.wr W2 (Or.inl (List.mem_of_getElem? (i := 0) rfl))
  exact eRetV X2 hx Bd.returns hlk (hb hby own_d2_9) (by decide) (by decide) (by rw [e2]; exact ⟨N2, K2, rfl, E_a1, F_a1_modCount, F_a1_elementData⟩)
theorem own_pn3 : plainName "java/util/ArrayList" = true := by first | (simp [plainName, overriddenIn]; done) | decide +kernel
theorem own_d1_0 : decode jdk_38_method_2_code 0 = .ok (.aload_n 0, 1) := by decide +kernel
theorem own_d1_1 : decode jdk_38_method_2_code 1 = .ok (.invokespecial 1, 3) := by decide +kernel
theorem own_d1_4 : decode jdk_38_method_2_code 4 = .ok (.aload_n 0, 1) := by decide +kernel
theorem own_d1_5 : decode jdk_38_method_2_code 5 = .ok (.getstatic 39, 3) := by decide +kernel
theorem own_d1_8 : decode jdk_38_method_2_code 8 = .ok (.putfield 9, 3) := by decide +kernel
theorem own_d1_11 : decode jdk_38_method_2_code 11 = .ok (.return_, 1) := by decide +kernel
def RM1 : Room := { frames := 3, cells := 0, slots := 0, locals := 36 }
def fAl_0  : Int32 := (0 : Int32)
theorem own_ef1 (m : MethodId) (a1 : Addr) : entryFrame m #[(.ref a1)] 1 = mkF m 0 #[.val (.ref a1)] [] := by first | (simp [entryFrame, mkF, argsToLocals, Value.category]; done) | rfl
set_option maxRecDepth 65536 in
set_option maxHeartbeats 40000000 in
theorem rm1 (l : Launch) (Z : State) (a0 : Array Value) (hw : ∀ d ∈ tables_1, d.before a0 Z = true) (ws : List Jvm.Cond) (a1 : Addr) (r1 : Addr) (w1 : Int32) (h0 : Heap) (n0 : Nat) (Z0 : n0 ≤ h0.size) (S_DEFAULTCAPACITY_EMPTY_ELEMENTDATA : Sta Z h0 "java/util/ArrayList" "DEFAULTCAPACITY_EMPTY_ELEMENTDATA" "[Ljava/lang/Object;" (.ref r1)) (E_a1 : Exa Z h0 a1 "java/util/ArrayList") (F_a1_modCount : Fld Z h0 a1 "java/util/AbstractList" "modCount" "I" (.int w1)) (F_a1_elementData : Fld Z h0 a1 "java/util/ArrayList" "elementData" "[Ljava/lang/Object;" .null) (ge_a1 : n0 ≤ a1) : MetQ l Z (⟨"java/util/ArrayList", "<init>", "()V"⟩ : MethodName) (Jvm.Cond.code (⟨"java/util/ArrayList", "<init>", "()V"⟩ : MethodName) jdk_38_method_2_code 1 none :: ws) RM1 #[(.ref a1)] h0 (fun v h L => Fr n0 L ∧ Keep h0 h [a1] ∧ v = none ∧ Sta Z h "java/util/ArrayList" "DEFAULTCAPACITY_EMPTY_ELEMENTDATA" "[Ljava/lang/Object;" (.ref r1) ∧ Exa Z h a1 "java/util/ArrayList" ∧ Fld Z h a1 "java/util/AbstractList" "modCount" "I" (.int (fAl_0)) ∧ Fld Z h a1 "java/util/ArrayList" "elementData" "[Ljava/lang/Object;" (.ref r1)) := by
  refine MetFree.of_bodySF (plainFor_of_name own_pn3) hisR ?_
  intro p e s m args below meth c s₁ Bd hml0 hP hK
  obtain ⟨rfl, hZ, hh⟩ := hP
  have hx := Bd.exec
  have hby := Bd.bytes
  have hml : c.maxLocals = 1 := hml0
  have hown : s.vm.findClass "java/util/ArrayList" = some m.cls := findClass_of_methodNamed Bd.named
  have hnm := (name_of_methodNamed Bd.named Bd.method).1
  have hlk : meth.locks = false := BodyLoose.notSynchronized Bd
  have X0 : Stand p l e RM1 s m #[(.ref a1)] below meth c s₁ [] 0 0 := Stand.of_body Bd
  have e0 : s₁.heap = h0 := by rw [← hh, Bd.state]; rfl
  have N0 := Fr.nil n0
  have K0 := Keep.refl h0 [a1]
  suffices kk : Ends p e below (PostQ s 0 0 (fun v h L => Fr n0 L ∧ Keep h0 h [a1] ∧ v = none ∧ Sta Z h "java/util/ArrayList" "DEFAULTCAPACITY_EMPTY_ELEMENTDATA" "[Ljava/lang/Object;" (.ref r1) ∧ Exa Z h a1 "java/util/ArrayList" ∧ Fld Z h a1 "java/util/AbstractList" "modCount" "I" (.int (fAl_0)) ∧ Fld Z h a1 "java/util/ArrayList" "elementData" "[Ljava/lang/Object;" (.ref r1))) s₁ m 0 #[.val (.ref a1)] [] by
    obtain ⟨t, o, k1, k2, k3, k4⟩ := kk
    exact ⟨t, o, castTop (own_ef1 m a1) k1, k2, k3, k4⟩
  refine eALoadN X0 hx (hb hby own_d1_0) rfl rfl rfl ?_
  refine eCallI X0 hx hZ (y := (⟨"java/util/AbstractList", "<init>", "()V"⟩ : MethodName)) (a := a1) rfl hown (hw _ (List.mem_of_getElem? (i := 6) rfl)) (hw _ (List.mem_of_getElem? (i := 7) rfl)) (hw _ (List.mem_of_getElem? (i := 10) rfl)) (hw _ (List.mem_of_getElem? (i := 11) rfl)) (by decide) e0 (rm2 l Z a0 hw [] a1 w1 h0 n0 Z0 E_a1 F_a1_modCount F_a1_elementData ge_a1) (argsL := []) (rest := []) (lenOf own_pd0 rfl) rfl (by rw [hml]; rfl) 0 (by exact Nat.le_refl _) (by decide) (by decide) (by decide) (by decide) (hb hby own_d1_1) rfl (fun v1 T1 L1 q1 (X1 : Stand _ _ _ _ _ _ _ _ _ _ T1 _ 0 0) => ?_)
  obtain ⟨N1', K1', rfl, R1_0, R1_1, R1_2⟩ := q1
  have N1 := Fr.app N0 N1'
  have S_DEFAULTCAPACITY_EMPTY_ELEMENTDATA := Sta.keep1 S_DEFAULTCAPACITY_EMPTY_ELEMENTDATA K1' E_a1
  have E_a1 := E_a1.keep K1'
  have E_a1 := R1_0
  have F_a1_modCount : Fld Z T1.heap a1 "java/util/AbstractList" "modCount" "I" (.int (0 : Int32)) := R1_1
  have F_a1_elementData : Fld Z T1.heap a1 "java/util/ArrayList" "elementData" "[Ljava/lang/Object;" .null := R1_2
  have Z1 := Nat.le_trans Z0 K1'.1
  have K1 : Keep h0 T1.heap [a1] := K0.trans K1' (allS (Or.inl (List.mem_of_getElem? (i := 0) rfl)) all0)
  show Ends p e below _ T1 m 4 #[.val (.ref a1)] []
  refine eALoadN X1 hx (hb hby own_d1_4) rfl rfl rfl ?_
  refine eGetS X1 hx hZ hown (hw _ (List.mem_of_getElem? (i := 23) rfl)) rfl S_DEFAULTCAPACITY_EMPTY_ELEMENTDATA (hb hby own_d1_5) rfl (fun T2 X2 e2 => ?_)
  refine ePutF X2 hx hZ hown (hw _ (List.mem_of_getElem? (i := 24) rfl)) Via.refl e2 F_a1_elementData E_a1 (Or.inl (hw _ (List.mem_of_getElem? (i := 25) rfl))) (hw _ (List.mem_of_getElem? (i := 1) rfl)) (ty := (.array (.object "java/lang/Object"))) (by decide) rfl rfl (hb hby own_d1_8) rfl (fun T3 h3 X3 e3 W3 => ?_)
  have S_DEFAULTCAPACITY_EMPTY_ELEMENTDATA := S_DEFAULTCAPACITY_EMPTY_ELEMENTDATA.wr W3
  have E_a1 := E_a1.wr W3
  have F_a1_modCount := F_a1_modCount.other W3 (Or.inr (slot_ne (Or.inl (hw _ (List.mem_of_getElem? (i := 22) rfl))) (Or.inl (hw _ (List.mem_of_getElem? (i := 25) rfl))) (by decide) (t := .int) (t' := (.array (.object "java/lang/Object"))) (by decide) (by decide)))
  have F_a1_elementData := F_a1_elementData.same W3
  have N3 := Fr.snoc X3 N1 ge_a1
  have Z3 := Nat.le_trans Z1 (Keep.of_wr W3).1
  have K3 : Keep h0 h3 [a1] := K1.wr W3 (Or.inl (List.mem_of_getElem? (i := 0) rfl))
  exact eRetV X3 hx Bd.returns hlk (hb hby own_d1_11) (by decide) (by decide) (by rw [e3]; exact ⟨N3, K3, rfl, S_DEFAULTCAPACITY_EMPTY_ELEMENTDATA, E_a1, F_a1_modCount, F_a1_elementData⟩)
theorem own_pn4 : plainName "com/example/porthcurno/porthcurno/protocol/FetchRequest" = true := by first | (simp [plainName, overriddenIn]; done) | decide +kernel
theorem own_d5_0 : decode prog_22_method_1_code 0 = .ok (.aload_n 0, 1) := by decide +kernel
theorem own_d5_1 : decode prog_22_method_1_code 1 = .ok (.invokespecial 1, 3) := by decide +kernel
theorem own_d5_4 : decode prog_22_method_1_code 4 = .ok (.aload_n 0, 1) := by decide +kernel
theorem own_d5_5 : decode prog_22_method_1_code 5 = .ok (.iload_n 1, 1) := by decide +kernel
theorem own_d5_6 : decode prog_22_method_1_code 6 = .ok (.putfield 7, 3) := by decide +kernel
theorem own_d5_9 : decode prog_22_method_1_code 9 = .ok (.aload_n 0, 1) := by decide +kernel
theorem own_d5_10 : decode prog_22_method_1_code 10 = .ok (.iload_n 2, 1) := by decide +kernel
theorem own_d5_11 : decode prog_22_method_1_code 11 = .ok (.putfield 13, 3) := by decide +kernel
theorem own_d5_14 : decode prog_22_method_1_code 14 = .ok (.aload_n 0, 1) := by decide +kernel
theorem own_d5_15 : decode prog_22_method_1_code 15 = .ok (.iload_n 3, 1) := by decide +kernel
theorem own_d5_16 : decode prog_22_method_1_code 16 = .ok (.putfield 16, 3) := by decide +kernel
theorem own_d5_19 : decode prog_22_method_1_code 19 = .ok (.aload_n 0, 1) := by decide +kernel
theorem own_d5_20 : decode prog_22_method_1_code 20 = .ok (.iload 4, 2) := by decide +kernel
theorem own_d5_22 : decode prog_22_method_1_code 22 = .ok (.putfield 19, 3) := by decide +kernel
theorem own_d5_25 : decode prog_22_method_1_code 25 = .ok (.aload_n 0, 1) := by decide +kernel
theorem own_d5_26 : decode prog_22_method_1_code 26 = .ok (.iload 5, 2) := by decide +kernel
theorem own_d5_28 : decode prog_22_method_1_code 28 = .ok (.putfield 22, 3) := by decide +kernel
theorem own_d5_31 : decode prog_22_method_1_code 31 = .ok (.aload_n 0, 1) := by decide +kernel
theorem own_d5_32 : decode prog_22_method_1_code 32 = .ok (.aload 6, 2) := by decide +kernel
theorem own_d5_34 : decode prog_22_method_1_code 34 = .ok (.putfield 25, 3) := by decide +kernel
theorem own_d5_37 : decode prog_22_method_1_code 37 = .ok (.return_, 1) := by decide +kernel
def RM5 : Room := { frames := 2, cells := 0, slots := 0, locals := 24 }
def fFr_0 (p2 : Int32) (p3 : Int32) (p4 : Int32) (p5 : Int32) (p6 : Int32) : Int32 × Int32 × Int32 × Int32 × Int32 := (p2, p3, p4, p5, p6)
theorem own_ef5 (m : MethodId) (a1 : Addr) (p2 : Int32) (p3 : Int32) (p4 : Int32) (p5 : Int32) (p6 : Int32) (a7 : Addr) : entryFrame m #[(.ref a1), (.int p2), (.int p3), (.int p4), (.int p5), (.int p6), (.ref a7)] 7 = mkF m 0 #[.val (.ref a1), .val (.int p2), .val (.int p3), .val (.int p4), .val (.int p5), .val (.int p6), .val (.ref a7)] [] := by first | (simp [entryFrame, mkF, argsToLocals, Value.category]; done) | rfl
set_option maxRecDepth 65536 in
set_option maxHeartbeats 40000000 in
theorem rm5 (l : Launch) (Z : State) (a0 : Array Value) (hw : ∀ d ∈ tables_1, d.before a0 Z = true) (ws : List Jvm.Cond) (a1 : Addr) (p2 : Int32) (p3 : Int32) (p4 : Int32) (p5 : Int32) (p6 : Int32) (a7 : Addr) (w0 : Int32) (w1 : Int32) (w2 : Int32) (w3 : Int32) (w4 : Int32) (h0 : Heap) (n0 : Nat) (Z0 : n0 ≤ h0.size) (E_a1 : Exa Z h0 a1 "com/example/porthcurno/porthcurno/protocol/FetchRequest") (F_a1_maxWaitMs : Fld Z h0 a1 "com/example/porthcurno/porthcurno/protocol/FetchRequest" "maxWaitMs" "I" (.int w0)) (F_a1_minBytes : Fld Z h0 a1 "com/example/porthcurno/porthcurno/protocol/FetchRequest" "minBytes" "I" (.int w1)) (F_a1_maxBytes : Fld Z h0 a1 "com/example/porthcurno/porthcurno/protocol/FetchRequest" "maxBytes" "I" (.int w2)) (F_a1_sessionId : Fld Z h0 a1 "com/example/porthcurno/porthcurno/protocol/FetchRequest" "sessionId" "I" (.int w3)) (F_a1_sessionEpoch : Fld Z h0 a1 "com/example/porthcurno/porthcurno/protocol/FetchRequest" "sessionEpoch" "I" (.int w4)) (F_a1_topics : Fld Z h0 a1 "com/example/porthcurno/porthcurno/protocol/FetchRequest" "topics" "Ljava/util/List;" .null) (ge_a1 : n0 ≤ a1) : MetQ l Z (⟨"com/example/porthcurno/porthcurno/protocol/FetchRequest", "<init>", "(IIIIILjava/util/List;)V"⟩ : MethodName) (Jvm.Cond.code (⟨"com/example/porthcurno/porthcurno/protocol/FetchRequest", "<init>", "(IIIIILjava/util/List;)V"⟩ : MethodName) prog_22_method_1_code 7 none :: ws) RM5 #[(.ref a1), (.int p2), (.int p3), (.int p4), (.int p5), (.int p6), (.ref a7)] h0 (fun v h L => Fr n0 L ∧ Keep h0 h [a1] ∧ v = none ∧ Exa Z h a1 "com/example/porthcurno/porthcurno/protocol/FetchRequest" ∧ Fld Z h a1 "com/example/porthcurno/porthcurno/protocol/FetchRequest" "maxWaitMs" "I" (.int ((fFr_0 p2 p3 p4 p5 p6)).1) ∧ Fld Z h a1 "com/example/porthcurno/porthcurno/protocol/FetchRequest" "minBytes" "I" (.int ((fFr_0 p2 p3 p4 p5 p6)).2.1) ∧ Fld Z h a1 "com/example/porthcurno/porthcurno/protocol/FetchRequest" "maxBytes" "I" (.int ((fFr_0 p2 p3 p4 p5 p6)).2.2.1) ∧ Fld Z h a1 "com/example/porthcurno/porthcurno/protocol/FetchRequest" "sessionId" "I" (.int ((fFr_0 p2 p3 p4 p5 p6)).2.2.2.1) ∧ Fld Z h a1 "com/example/porthcurno/porthcurno/protocol/FetchRequest" "sessionEpoch" "I" (.int ((fFr_0 p2 p3 p4 p5 p6)).2.2.2.2) ∧ Fld Z h a1 "com/example/porthcurno/porthcurno/protocol/FetchRequest" "topics" "Ljava/util/List;" (.ref a7)) := by
  refine MetFree.of_bodySF (plainFor_of_name own_pn4) hisR ?_
  intro p e s m args below meth c s₁ Bd hml0 hP hK
  obtain ⟨rfl, hZ, hh⟩ := hP
  have hx := Bd.exec
  have hby := Bd.bytes
  have hml : c.maxLocals = 7 := hml0
  have hown : s.vm.findClass "com/example/porthcurno/porthcurno/protocol/FetchRequest" = some m.cls := findClass_of_methodNamed Bd.named
  have hnm := (name_of_methodNamed Bd.named Bd.method).1
  have hlk : meth.locks = false := BodyLoose.notSynchronized Bd
  have X0 : Stand p l e RM5 s m #[(.ref a1), (.int p2), (.int p3), (.int p4), (.int p5), (.int p6), (.ref a7)] below meth c s₁ [] 0 0 := Stand.of_body Bd
  have e0 : s₁.heap = h0 := by rw [← hh, Bd.state]; rfl
  have N0 := Fr.nil n0
  have K0 := Keep.refl h0 [a1]
  suffices kk : Ends p e below (PostQ s 0 0 (fun v h L => Fr n0 L ∧ Keep h0 h [a1] ∧ v = none ∧ Exa Z h a1 "com/example/porthcurno/porthcurno/protocol/FetchRequest" ∧ Fld Z h a1 "com/example/porthcurno/porthcurno/protocol/FetchRequest" "maxWaitMs" "I" (.int ((fFr_0 p2 p3 p4 p5 p6)).1) ∧ Fld Z h a1 "com/example/porthcurno/porthcurno/protocol/FetchRequest" "minBytes" "I" (.int ((fFr_0 p2 p3 p4 p5 p6)).2.1) ∧ Fld Z h a1 "com/example/porthcurno/porthcurno/protocol/FetchRequest" "maxBytes" "I" (.int ((fFr_0 p2 p3 p4 p5 p6)).2.2.1) ∧ Fld Z h a1 "com/example/porthcurno/porthcurno/protocol/FetchRequest" "sessionId" "I" (.int ((fFr_0 p2 p3 p4 p5 p6)).2.2.2.1) ∧ Fld Z h a1 "com/example/porthcurno/porthcurno/protocol/FetchRequest" "sessionEpoch" "I" (.int ((fFr_0 p2 p3 p4 p5 p6)).2.2.2.2) ∧ Fld Z h a1 "com/example/porthcurno/porthcurno/protocol/FetchRequest" "topics" "Ljava/util/List;" (.ref a7))) s₁ m 0 #[.val (.ref a1), .val (.int p2), .val (.int p3), .val (.int p4), .val (.int p5), .val (.int p6), .val (.ref a7)] [] by
    obtain ⟨t, o, k1, k2, k3, k4⟩ := kk
    exact ⟨t, o, castTop (own_ef5 m a1 p2 p3 p4 p5 p6 a7) k1, k2, k3, k4⟩
  refine eALoadN X0 hx (hb hby own_d5_0) rfl rfl rfl ?_
  refine eCallI X0 hx hZ (y := (⟨"java/lang/Record", "<init>", "()V"⟩ : MethodName)) (a := a1) rfl hown (hw _ (List.mem_of_getElem? (i := 32) rfl)) (hw _ (List.mem_of_getElem? (i := 33) rfl)) (hw _ (List.mem_of_getElem? (i := 35) rfl)) (hw _ (List.mem_of_getElem? (i := 36) rfl)) (by decide) e0 (rm6 l Z a0 hw [] a1 h0 n0 Z0) (argsL := []) (rest := []) (lenOf own_pd0 rfl) rfl (by rw [hml]; rfl) 0 (by exact Nat.le_refl _) (by decide) (by decide) (by decide) (by decide) (hb hby own_d5_1) rfl (fun v1 T1 L1 q1 (X1 : Stand _ _ _ _ _ _ _ _ _ _ T1 _ 0 0) => ?_)
  obtain ⟨N1', e1, rfl⟩ := q1
  have N1 := Fr.app N0 N1'
  show Ends p e below _ T1 m 4 #[.val (.ref a1), .val (.int p2), .val (.int p3), .val (.int p4), .val (.int p5), .val (.int p6), .val (.ref a7)] []
  refine eALoadN X1 hx (hb hby own_d5_4) rfl rfl rfl ?_
  refine eILoadN X1 hx (hb hby own_d5_5) rfl rfl ?_
  refine ePutF X1 hx hZ hown (hw _ (List.mem_of_getElem? (i := 38) rfl)) Via.refl e1 F_a1_maxWaitMs E_a1 (Or.inr ⟨(hw _ (List.mem_of_getElem? (i := 39) rfl)), rfl, hnm⟩) (hw _ (List.mem_of_getElem? (i := 27) rfl)) (ty := .int) (by decide) rfl rfl (hb hby own_d5_6) rfl (fun T2 h2 X2 e2 W2 => ?_)
  have E_a1 := E_a1.wr W2
  have F_a1_minBytes := F_a1_minBytes.other W2 (Or.inr (slot_ne (Or.inr (hw _ (List.mem_of_getElem? (i := 41) rfl))) (Or.inr (hw _ (List.mem_of_getElem? (i := 39) rfl))) (by decide) (t := .int) (t' := .int) (by decide) (by decide)))
  have F_a1_maxBytes := F_a1_maxBytes.other W2 (Or.inr (slot_ne (Or.inr (hw _ (List.mem_of_getElem? (i := 43) rfl))) (Or.inr (hw _ (List.mem_of_getElem? (i := 39) rfl))) (by decide) (t := .int) (t' := .int) (by decide) (by decide)))
  have F_a1_sessionId := F_a1_sessionId.other W2 (Or.inr (slot_ne (Or.inr (hw _ (List.mem_of_getElem? (i := 45) rfl))) (Or.inr (hw _ (List.mem_of_getElem? (i := 39) rfl))) (by decide) (t := .int) (t' := .int) (by decide) (by decide)))
  have F_a1_sessionEpoch := F_a1_sessionEpoch.other W2 (Or.inr (slot_ne (Or.inr (hw _ (List.mem_of_getElem? (i := 47) rfl))) (Or.inr (hw _ (List.mem_of_getElem? (i := 39) rfl))) (by decide) (t := .int) (t' := .int) (by decide) (by decide)))
  have F_a1_topics := F_a1_topics.other W2 (Or.inr (slot_ne (Or.inr (hw _ (List.mem_of_getElem? (i := 49) rfl))) (Or.inr (hw _ (List.mem_of_getElem? (i := 39) rfl))) (by decide) (t := (.object "java/util/List")) (t' := .int) (by decide) (by decide)))
  have F_a1_maxWaitMs := F_a1_maxWaitMs.same W2
  have N2 := Fr.snoc X2 N1 ge_a1
  have Z2 := Nat.le_trans Z0 (Keep.of_wr W2).1
  have K2 : Keep h0 h2 [a1] := K0.wr W2 (Or.inl (List.mem_of_getElem? (i := 0) rfl))
  refine eALoadN X2 hx (hb hby own_d5_9) rfl rfl rfl ?_
  refine eILoadN X2 hx (hb hby own_d5_10) rfl rfl ?_
  refine ePutF X2 hx hZ hown (hw _ (List.mem_of_getElem? (i := 40) rfl)) Via.refl e2 F_a1_minBytes E_a1 (Or.inr ⟨(hw _ (List.mem_of_getElem? (i := 41) rfl)), rfl, hnm⟩) (hw _ (List.mem_of_getElem? (i := 27) rfl)) (ty := .int) (by decide) rfl rfl (hb hby own_d5_11) rfl (fun T3 h3 X3 e3 W3 => ?_)
  have E_a1 := E_a1.wr W3
  have F_a1_maxWaitMs := F_a1_maxWaitMs.other W3 (Or.inr (slot_ne (Or.inr (hw _ (List.mem_of_getElem? (i := 39) rfl))) (Or.inr (hw _ (List.mem_of_getElem? (i := 41) rfl))) (by decide) (t := .int) (t' := .int) (by decide) (by decide)))
  have F_a1_maxBytes := F_a1_maxBytes.other W3 (Or.inr (slot_ne (Or.inr (hw _ (List.mem_of_getElem? (i := 43) rfl))) (Or.inr (hw _ (List.mem_of_getElem? (i := 41) rfl))) (by decide) (t := .int) (t' := .int) (by decide) (by decide)))
  have F_a1_sessionId := F_a1_sessionId.other W3 (Or.inr (slot_ne (Or.inr (hw _ (List.mem_of_getElem? (i := 45) rfl))) (Or.inr (hw _ (List.mem_of_getElem? (i := 41) rfl))) (by decide) (t := .int) (t' := .int) (by decide) (by decide)))
  have F_a1_sessionEpoch := F_a1_sessionEpoch.other W3 (Or.inr (slot_ne (Or.inr (hw _ (List.mem_of_getElem? (i := 47) rfl))) (Or.inr (hw _ (List.mem_of_getElem? (i := 41) rfl))) (by decide) (t := .int) (t' := .int) (by decide) (by decide)))
  have F_a1_topics := F_a1_topics.other W3 (Or.inr (slot_ne (Or.inr (hw _ (List.mem_of_getElem? (i := 49) rfl))) (Or.inr (hw _ (List.mem_of_getElem? (i := 41) rfl))) (by decide) (t := (.object "java/util/List")) (t' := .int) (by decide) (by decide)))
  have F_a1_minBytes := F_a1_minBytes.same W3
  have N3 := Fr.snoc X3 N2 ge_a1
  have Z3 := Nat.le_trans Z2 (Keep.of_wr W3).1
  have K3 : Keep h0 h3 [a1] := K2.wr W3 (Or.inl (List.mem_of_getElem? (i := 0) rfl))
  refine eALoadN X3 hx (hb hby own_d5_14) rfl rfl rfl ?_
  refine eILoadN X3 hx (hb hby own_d5_15) rfl rfl ?_
  refine ePutF X3 hx hZ hown (hw _ (List.mem_of_getElem? (i := 42) rfl)) Via.refl e3 F_a1_maxBytes E_a1 (Or.inr ⟨(hw _ (List.mem_of_getElem? (i := 43) rfl)), rfl, hnm⟩) (hw _ (List.mem_of_getElem? (i := 27) rfl)) (ty := .int) (by decide) rfl rfl (hb hby own_d5_16) rfl (fun T4 h4 X4 e4 W4 => ?_)
  have E_a1 := E_a1.wr W4
  have F_a1_maxWaitMs := F_a1_maxWaitMs.other W4 (Or.inr (slot_ne (Or.inr (hw _ (List.mem_of_getElem? (i := 39) rfl))) (Or.inr (hw _ (List.mem_of_getElem? (i := 43) rfl))) (by decide) (t := .int) (t' := .int) (by decide) (by decide)))
  have F_a1_minBytes := F_a1_minBytes.other W4 (Or.inr (slot_ne (Or.inr (hw _ (List.mem_of_getElem? (i := 41) rfl))) (Or.inr (hw _ (List.mem_of_getElem? (i := 43) rfl))) (by decide) (t := .int) (t' := .int) (by decide) (by decide)))
  have F_a1_sessionId := F_a1_sessionId.other W4 (Or.inr (slot_ne (Or.inr (hw _ (List.mem_of_getElem? (i := 45) rfl))) (Or.inr (hw _ (List.mem_of_getElem? (i := 43) rfl))) (by decide) (t := .int) (t' := .int) (by decide) (by decide)))
  have F_a1_sessionEpoch := F_a1_sessionEpoch.other W4 (Or.inr (slot_ne (Or.inr (hw _ (List.mem_of_getElem? (i := 47) rfl))) (Or.inr (hw _ (List.mem_of_getElem? (i := 43) rfl))) (by decide) (t := .int) (t' := .int) (by decide) (by decide)))
  have F_a1_topics := F_a1_topics.other W4 (Or.inr (slot_ne (Or.inr (hw _ (List.mem_of_getElem? (i := 49) rfl))) (Or.inr (hw _ (List.mem_of_getElem? (i := 43) rfl))) (by decide) (t := (.object "java/util/List")) (t' := .int) (by decide) (by decide)))
  have F_a1_maxBytes := F_a1_maxBytes.same W4
  have N4 := Fr.snoc X4 N3 ge_a1
  have Z4 := Nat.le_trans Z3 (Keep.of_wr W4).1
  have K4 : Keep h0 h4 [a1] := K3.wr W4 (Or.inl (List.mem_of_getElem? (i := 0) rfl))
  refine eALoadN X4 hx (hb hby own_d5_19) rfl rfl rfl ?_
  refine eILoad X4 hx (hb hby own_d5_20) rfl rfl ?_
  refine ePutF X4 hx hZ hown (hw _ (List.mem_of_getElem? (i := 44) rfl)) Via.refl e4 F_a1_sessionId E_a1 (Or.inr ⟨(hw _ (List.mem_of_getElem? (i := 45) rfl)), rfl, hnm⟩) (hw _ (List.mem_of_getElem? (i := 27) rfl)) (ty := .int) (by decide) rfl rfl (hb hby own_d5_22) rfl (fun T5 h5 X5 e5 W5 => ?_)
  have E_a1 := E_a1.wr W5
  have F_a1_maxWaitMs := F_a1_maxWaitMs.other W5 (Or.inr (slot_ne (Or.inr (hw _ (List.mem_of_getElem? (i := 39) rfl))) (Or.inr (hw _ (List.mem_of_getElem? (i := 45) rfl))) (by decide) (t := .int) (t' := .int) (by decide) (by decide)))
  have F_a1_minBytes := F_a1_minBytes.other W5 (Or.inr (slot_ne (Or.inr (hw _ (List.mem_of_getElem? (i := 41) rfl))) (Or.inr (hw _ (List.mem_of_getElem? (i := 45) rfl))) (by decide) (t := .int) (t' := .int) (by decide) (by decide)))
  have F_a1_maxBytes := F_a1_maxBytes.other W5 (Or.inr (slot_ne (Or.inr (hw _ (List.mem_of_getElem? (i := 43) rfl))) (Or.inr (hw _ (List.mem_of_getElem? (i := 45) rfl))) (by decide) (t := .int) (t' := .int) (by decide) (by decide)))
  have F_a1_sessionEpoch := F_a1_sessionEpoch.other W5 (Or.inr (slot_ne (Or.inr (hw _ (List.mem_of_getElem? (i := 47) rfl))) (Or.inr (hw _ (List.mem_of_getElem? (i := 45) rfl))) (by decide) (t := .int) (t' := .int) (by decide) (by decide)))
  have F_a1_topics := F_a1_topics.other W5 (Or.inr (slot_ne (Or.inr (hw _ (List.mem_of_getElem? (i := 49) rfl))) (Or.inr (hw _ (List.mem_of_getElem? (i := 45) rfl))) (by decide) (t := (.object "java/util/List")) (t' := .int) (by decide) (by decide)))
  have F_a1_sessionId := F_a1_sessionId.same W5
  have N5 := Fr.snoc X5 N4 ge_a1
  have Z5 := Nat.le_trans Z4 (Keep.of_wr W5).1
  have K5 : Keep h0 h5 [a1] := K4.wr W5 (Or.inl (List.mem_of_getElem? (i := 0) rfl))
  refine eALoadN X5 hx (hb hby own_d5_25) rfl rfl rfl ?_
  refine eILoad X5 hx (hb hby own_d5_26) rfl rfl ?_
  refine ePutF X5 hx hZ hown (hw _ (List.mem_of_getElem? (i := 46) rfl)) Via.refl e5 F_a1_sessionEpoch E_a1 (Or.inr ⟨(hw _ (List.mem_of_getElem? (i := 47) rfl)), rfl, hnm⟩) (hw _ (List.mem_of_getElem? (i := 27) rfl)) (ty := .int) (by decide) rfl rfl (hb hby own_d5_28) rfl (fun T6 h6 X6 e6 W6 => ?_)
  have E_a1 := E_a1.wr W6
  have F_a1_maxWaitMs := F_a1_maxWaitMs.other W6 (Or.inr (slot_ne (Or.inr (hw _ (List.mem_of_getElem? (i := 39) rfl))) (Or.inr (hw _ (List.mem_of_getElem? (i := 47) rfl))) (by decide) (t := .int) (t' := .int) (by decide) (by decide)))
  have F_a1_minBytes := F_a1_minBytes.other W6 (Or.inr (slot_ne (Or.inr (hw _ (List.mem_of_getElem? (i := 41) rfl))) (Or.inr (hw _ (List.mem_of_getElem? (i := 47) rfl))) (by decide) (t := .int) (t' := .int) (by decide) (by decide)))
  have F_a1_maxBytes := F_a1_maxBytes.other W6 (Or.inr (slot_ne (Or.inr (hw _ (List.mem_of_getElem? (i := 43) rfl))) (Or.inr (hw _ (List.mem_of_getElem? (i := 47) rfl))) (by decide) (t := .int) (t' := .int) (by decide) (by decide)))
  have F_a1_sessionId := F_a1_sessionId.other W6 (Or.inr (slot_ne (Or.inr (hw _ (List.mem_of_getElem? (i := 45) rfl))) (Or.inr (hw _ (List.mem_of_getElem? (i := 47) rfl))) (by decide) (t := .int) (t' := .int) (by decide) (by decide)))
  have F_a1_topics := F_a1_topics.other W6 (Or.inr (slot_ne (Or.inr (hw _ (List.mem_of_getElem? (i := 49) rfl))) (Or.inr (hw _ (List.mem_of_getElem? (i := 47) rfl))) (by decide) (t := (.object "java/util/List")) (t' := .int) (by decide) (by decide)))
  have F_a1_sessionEpoch := F_a1_sessionEpoch.same W6
  have N6 := Fr.snoc X6 N5 ge_a1
  have Z6 := Nat.le_trans Z5 (Keep.of_wr W6).1
  have K6 : Keep h0 h6 [a1] := K5.wr W6 (Or.inl (List.mem_of_getElem? (i := 0) rfl))
  refine eALoadN X6 hx (hb hby own_d5_31) rfl rfl rfl ?_
  refine eALoad X6 hx (hb hby own_d5_32) rfl rfl rfl ?_
  refine ePutF X6 hx hZ hown (hw _ (List.mem_of_getElem? (i := 48) rfl)) Via.refl e6 F_a1_topics E_a1 (Or.inr ⟨(hw _ (List.mem_of_getElem? (i := 49) rfl)), rfl, hnm⟩) (hw _ (List.mem_of_getElem? (i := 27) rfl)) (ty := (.object "java/util/List")) (by decide) rfl rfl (hb hby own_d5_34) rfl (fun T7 h7 X7 e7 W7 => ?_)
  have E_a1 := E_a1.wr W7
  have F_a1_maxWaitMs := F_a1_maxWaitMs.other W7 (Or.inr (slot_ne (Or.inr (hw _ (List.mem_of_getElem? (i := 39) rfl))) (Or.inr (hw _ (List.mem_of_getElem? (i := 49) rfl))) (by decide) (t := .int) (t' := (.object "java/util/List")) (by decide) (by decide)))
  have F_a1_minBytes := F_a1_minBytes.other W7 (Or.inr (slot_ne (Or.inr (hw _ (List.mem_of_getElem? (i := 41) rfl))) (Or.inr (hw _ (List.mem_of_getElem? (i := 49) rfl))) (by decide) (t := .int) (t' := (.object "java/util/List")) (by decide) (by decide)))
  have F_a1_maxBytes := F_a1_maxBytes.other W7 (Or.inr (slot_ne (Or.inr (hw _ (List.mem_of_getElem? (i := 43) rfl))) (Or.inr (hw _ (List.mem_of_getElem? (i := 49) rfl))) (by decide) (t := .int) (t' := (.object "java/util/List")) (by decide) (by decide)))
  have F_a1_sessionId := F_a1_sessionId.other W7 (Or.inr (slot_ne (Or.inr (hw _ (List.mem_of_getElem? (i := 45) rfl))) (Or.inr (hw _ (List.mem_of_getElem? (i := 49) rfl))) (by decide) (t := .int) (t' := (.object "java/util/List")) (by decide) (by decide)))
  have F_a1_sessionEpoch := F_a1_sessionEpoch.other W7 (Or.inr (slot_ne (Or.inr (hw _ (List.mem_of_getElem? (i := 47) rfl))) (Or.inr (hw _ (List.mem_of_getElem? (i := 49) rfl))) (by decide) (t := .int) (t' := (.object "java/util/List")) (by decide) (by decide)))
  have F_a1_topics := F_a1_topics.same W7
  have N7 := Fr.snoc X7 N6 ge_a1
  have Z7 := Nat.le_trans Z6 (Keep.of_wr W7).1
  have K7 : Keep h0 h7 [a1] := K6.wr W7 (Or.inl (List.mem_of_getElem? (i := 0) rfl))
  exact eRetV X7 hx Bd.returns hlk (hb hby own_d5_37) (by decide) (by decide) (by rw [e7]; exact ⟨N7, K7, rfl, E_a1, F_a1_maxWaitMs, F_a1_minBytes, F_a1_maxBytes, F_a1_sessionId, F_a1_sessionEpoch, F_a1_topics⟩)
theorem own_d7_0 : decode prog_22_method_3_code 0 = .ok (.aload_n 0, 1) := by decide +kernel
theorem own_d7_1 : decode prog_22_method_3_code 1 = .ok (.getfield 19, 3) := by decide +kernel
theorem own_d7_4 : decode prog_22_method_3_code 4 = .ok (.ifCond .ne 18, 3) := by decide +kernel
theorem own_d7_7 : decode prog_22_method_3_code 7 = .ok (.aload_n 0, 1) := by decide +kernel
theorem own_d7_8 : decode prog_22_method_3_code 8 = .ok (.getfield 22, 3) := by decide +kernel
theorem own_d7_11 : decode prog_22_method_3_code 11 = .ok (.ifCond .eq 15, 3) := by decide +kernel
theorem own_d7_26 : decode prog_22_method_3_code 26 = .ok (.iconst 0, 1) := by decide +kernel
theorem own_d7_27 : decode prog_22_method_3_code 27 = .ok (.ireturn, 1) := by decide +kernel
theorem own_d7_14 : decode prog_22_method_3_code 14 = .ok (.aload_n 0, 1) := by decide +kernel
theorem own_d7_15 : decode prog_22_method_3_code 15 = .ok (.getfield 22, 3) := by decide +kernel
theorem own_d7_18 : decode prog_22_method_3_code 18 = .ok (.iconst (-1), 1) := by decide +kernel
theorem own_d7_19 : decode prog_22_method_3_code 19 = .ok (.if_icmp .eq 7, 3) := by decide +kernel
theorem own_d7_22 : decode prog_22_method_3_code 22 = .ok (.iconst 1, 1) := by decide +kernel
theorem own_d7_23 : decode prog_22_method_3_code 23 = .ok (.goto 4, 3) := by decide +kernel
def RM7 : Room := { frames := 0, cells := 0, slots := 0, locals := 0 }
def fNs_0 (w1 : Int32) (w2 : Int32) : Int32 := (if w1 = (0 : Int32) then (if w2 = (0 : Int32) then (0 : Int32) else (if w2 = (-1 : Int32) then (0 : Int32) else (1 : Int32))) else (1 : Int32))
theorem own_ef7 (m : MethodId) (a1 : Addr) : entryFrame m #[(.ref a1)] 1 = mkF m 0 #[.val (.ref a1)] [] := by first | (simp [entryFrame, mkF, argsToLocals, Value.category]; done) | rfl
set_option maxRecDepth 65536 in
set_option maxHeartbeats 40000000 in
theorem rm7 (l : Launch) (Z : State) (a0 : Array Value) (hw : ∀ d ∈ tables_1, d.before a0 Z = true) (ws : List Jvm.Cond) (a1 : Addr) (w1 : Int32) (w2 : Int32) (h0 : Heap) (n0 : Nat) (Z0 : n0 ≤ h0.size) (F_a1_sessionId : Fld Z h0 a1 "com/example/porthcurno/porthcurno/protocol/FetchRequest" "sessionId" "I" (.int w1)) (F_a1_sessionEpoch : Fld Z h0 a1 "com/example/porthcurno/porthcurno/protocol/FetchRequest" "sessionEpoch" "I" (.int w2)) : MetQ l Z (⟨"com/example/porthcurno/porthcurno/protocol/FetchRequest", "namesSession", "()Z"⟩ : MethodName) (Jvm.Cond.code (⟨"com/example/porthcurno/porthcurno/protocol/FetchRequest", "namesSession", "()Z"⟩ : MethodName) prog_22_method_3_code 1 (some .boolean) :: ws) RM7 #[(.ref a1)] h0 (fun v h L => Fr n0 L ∧ h = h0 ∧ v = some (.int (fNs_0 w1 w2))) := by
  refine MetFree.of_bodySF (plainFor_of_name own_pn4) hisR ?_
  intro p e s m args below meth c s₁ Bd hml0 hP hK
  obtain ⟨rfl, hZ, hh⟩ := hP
  have hx := Bd.exec
  have hby := Bd.bytes
  have hml : c.maxLocals = 1 := hml0
  have hown : s.vm.findClass "com/example/porthcurno/porthcurno/protocol/FetchRequest" = some m.cls := findClass_of_methodNamed Bd.named
  have hnm := (name_of_methodNamed Bd.named Bd.method).1
  have hlk : meth.locks = false := BodyLoose.notSynchronized Bd
  have X0 : Stand p l e RM7 s m #[(.ref a1)] below meth c s₁ [] 0 0 := Stand.of_body Bd
  have e0 : s₁.heap = h0 := by rw [← hh, Bd.state]; rfl
  have N0 := Fr.nil n0
  suffices kk : Ends p e below (PostQ s 0 0 (fun v h L => Fr n0 L ∧ h = h0 ∧ v = some (.int (fNs_0 w1 w2)))) s₁ m 0 #[.val (.ref a1)] [] by
    obtain ⟨t, o, k1, k2, k3, k4⟩ := kk
    exact ⟨t, o, castTop (own_ef7 m a1) k1, k2, k3, k4⟩
  refine eALoadN X0 hx (hb hby own_d7_0) rfl rfl rfl ?_
  refine eGetF X0 hx hZ hown (hw _ (List.mem_of_getElem? (i := 44) rfl)) Via.refl e0 F_a1_sessionId (hb hby own_d7_1) rfl (fun T1 X1 e1 => ?_)
  show Ends p e below (PostQ s 0 0 (fun v h L => Fr n0 L ∧ h = h0 ∧ v = some (.int (if w1 = (0 : Int32) then (if w2 = (0 : Int32) then (0 : Int32) else (if w2 = (-1 : Int32) then (0 : Int32) else (1 : Int32))) else (1 : Int32))))) T1 m 4 #[.val (.ref a1)] [(.int w1)]
  by_cases c2 : w1 = (0 : Int32)
  · rw [if_pos c2]
    refine eIfN X1 hx (hb hby own_d7_4) ((if0 _ _).trans (teq c2).2) rfl ?_
    refine eALoadN X1 hx (hb hby own_d7_7) rfl rfl rfl ?_
    refine eGetF X1 hx hZ hown (hw _ (List.mem_of_getElem? (i := 46) rfl)) Via.refl e1 F_a1_sessionEpoch (hb hby own_d7_8) rfl (fun T3 X3 e3 => ?_)
    show Ends p e below (PostQ s 0 0 (fun v h L => Fr n0 L ∧ h = h0 ∧ v = some (.int (if w2 = (0 : Int32) then (0 : Int32) else (if w2 = (-1 : Int32) then (0 : Int32) else (1 : Int32)))))) T3 m 11 #[.val (.ref a1)] [(.int w2)]
    by_cases c4 : w2 = (0 : Int32)
    · rw [if_pos c4]
      refine eIfY X3 hx (hb hby own_d7_11) ((if0 _ _).trans (teq c4).1) (by decide) (pc' := 26) rfl ?_
      refine eIConst X3 hx (0 : Int32) (hb hby own_d7_26) rfl rfl ?_
      exact eRetN X3 hx (t := .boolean) Bd.returns (by simp) hlk (hb hby own_d7_27) (by decide) (by decide) (by rw [e3]; exact ⟨N0, rfl, rfl⟩)
    · rw [if_neg c4]
      refine eIfN X3 hx (hb hby own_d7_11) ((if0 _ _).trans (feq c4).1) rfl ?_
      refine eALoadN X3 hx (hb hby own_d7_14) rfl rfl rfl ?_
      refine eGetF X3 hx hZ hown (hw _ (List.mem_of_getElem? (i := 46) rfl)) Via.refl e3 F_a1_sessionEpoch (hb hby own_d7_15) rfl (fun T5 X5 e5 => ?_)
      refine eIConst X5 hx (-1 : Int32) (hb hby own_d7_18) rfl rfl ?_
      show Ends p e below (PostQ s 0 0 (fun v h L => Fr n0 L ∧ h = h0 ∧ v = some (.int (if w2 = (-1 : Int32) then (0 : Int32) else (1 : Int32))))) T5 m 19 #[.val (.ref a1)] [(.int (-1 : Int32)), (.int w2)]
      by_cases c6 : w2 = (-1 : Int32)
      · rw [if_pos c6]
        refine eIcmpY X5 hx (hb hby own_d7_19) (teq c6).1 (by decide) (pc' := 26) rfl ?_
        refine eIConst X5 hx (0 : Int32) (hb hby own_d7_26) rfl rfl ?_
        exact eRetN X5 hx (t := .boolean) Bd.returns (by simp) hlk (hb hby own_d7_27) (by decide) (by decide) (by rw [e5]; exact ⟨N0, rfl, rfl⟩)
      · rw [if_neg c6]
        refine eIcmpN X5 hx (hb hby own_d7_19) (feq c6).1 rfl ?_
        refine eIConst X5 hx (1 : Int32) (hb hby own_d7_22) rfl rfl ?_
        refine eGoto X5 hx (hb hby own_d7_23) (by decide) (pc' := 27) rfl ?_
        exact eRetN X5 hx (t := .boolean) Bd.returns (by simp) hlk (hb hby own_d7_27) (by decide) (by decide) (by rw [e5]; exact ⟨N0, rfl, rfl⟩)
  · rw [if_neg c2]
    refine eIfY X1 hx (hb hby own_d7_4) ((if0 _ _).trans (feq c2).2) (by decide) (pc' := 22) rfl ?_
    refine eIConst X1 hx (1 : Int32) (hb hby own_d7_22) rfl rfl ?_
    refine eGoto X1 hx (hb hby own_d7_23) (by decide) (pc' := 27) rfl ?_
    exact eRetN X1 hx (t := .boolean) Bd.returns (by simp) hlk (hb hby own_d7_27) (by decide) (by decide) (by rw [e1]; exact ⟨N0, rfl, rfl⟩)
theorem own_pn5 : plainName "com/example/porthcurno/porthcurno/protocol/FetchRequestNamesSessionPinLaw" = true := by first | (simp [plainName, overriddenIn]; done) | decide +kernel
theorem own_pd1 : parseMethodDescriptor "(IIIIILjava/util/List;)V" = some ⟨[.int, .int, .int, .int, .int, (.object "java/util/List")], none⟩ := by decide +kernel
theorem own_pd2 : parseMethodDescriptor "()Z" = some ⟨[], some .boolean⟩ := by decide +kernel
def f0_119 (t1 : Int32) (v8_3 : Int32) (t12 : Int32) : Int32 := (if (fNs_0 t1 v8_3) = t12 then (1 : Int32) else (0 : Int32))
def f0_104 (t1 : Int32) (v8_3 : Int32) (v11_9 : Int32) : Int32 := (if v11_9 = (0 : Int32) then (f0_119 t1 v8_3 (1 : Int32)) else (f0_119 t1 v8_3 (0 : Int32)))
def f0_49 (t1 : Int32) (v8_3 : Int32) : Int32 := (if t1 = (0 : Int32) then (if v8_3 = (0 : Int32) then (f0_104 t1 v8_3 (1 : Int32)) else (if v8_3 = (-1 : Int32) then (f0_104 t1 v8_3 (1 : Int32)) else (f0_104 t1 v8_3 (0 : Int32)))) else (f0_104 t1 v8_3 (0 : Int32)))
def f0_12 (p5 : Int32) (p6 : Int32) (t1 : Int32) : Int32 := (if (((p6.toUInt32 >>> ((1 : Int32) &&& 31).toUInt32).toInt32) &&& (3 : Int32)) = (0 : Int32) then (f0_49 t1 (0 : Int32)) else (if (((p6.toUInt32 >>> ((1 : Int32) &&& 31).toUInt32).toInt32) &&& (3 : Int32)) = (1 : Int32) then (f0_49 t1 (-1 : Int32)) else (f0_49 t1 p5)))
def f0_0 (p4 : Int32) (p5 : Int32) (p6 : Int32) : Int32 := (if (p6 &&& (1 : Int32)) = (0 : Int32) then (f0_12 p5 p6 p4) else (f0_12 p5 p6 (0 : Int32)))
theorem own_ef0 (m : MethodId) (p1 : Int32) (p2 : Int32) (p3 : Int32) (p4 : Int32) (p5 : Int32) (p6 : Int32) : entryFrame m #[(.int p1), (.int p2), (.int p3), (.int p4), (.int p5), (.int p6)] maxLocals = mkF m 0 #[.val (.int p1), .val (.int p2), .val (.int p3), .val (.int p4), .val (.int p5), .val (.int p6), .unset, .unset, .unset, .unset, .unset, .unset] [] := by first | (simp [entryFrame, mkF, argsToLocals, Value.category, maxLocals]; done) | rfl
set_option maxRecDepth 65536 in
set_option maxHeartbeats 40000000 in
theorem rm0 (l : Launch) (Z : State) (a0 : Array Value) (hw : ∀ d ∈ tables_1, d.before a0 Z = true) (ws : List Jvm.Cond) (p1 : Int32) (p2 : Int32) (p3 : Int32) (p4 : Int32) (p5 : Int32) (p6 : Int32) (r1 : Addr) (h0 : Heap) (n0 : Nat) (Z0 : n0 ≤ h0.size) (S_DEFAULTCAPACITY_EMPTY_ELEMENTDATA : Sta Z h0 "java/util/ArrayList" "DEFAULTCAPACITY_EMPTY_ELEMENTDATA" "[Ljava/lang/Object;" (.ref r1)) : MetC l Z x (Jvm.Cond.code x code maxLocals ret :: ws) room_1 #[(.int p1), (.int p2), (.int p3), (.int p4), (.int p5), (.int p6)] h0 16 128 (fun v h L => v = some (.int (f0_0 p4 p5 p6)) ∧ Fr n0 L) := by
  refine MetFree.of_bodySF (plainFor_of_name own_pn5) hisR ?_
  intro p e s m args below meth c s₁ Bd hml0 hP hK
  obtain ⟨rfl, hZ, hh⟩ := hP
  have hx := Bd.exec
  have hby := Bd.bytes
  have hml : c.maxLocals = 12 := hml0
  have hown : s.vm.findClass "com/example/porthcurno/porthcurno/protocol/FetchRequestNamesSessionPinLaw" = some m.cls := findClass_of_methodNamed Bd.named
  have hnm := (name_of_methodNamed Bd.named Bd.method).1
  have hlk : meth.locks = false := BodyLoose.notSynchronized Bd
  have X0 : Stand p l e room_1 s m #[(.int p1), (.int p2), (.int p3), (.int p4), (.int p5), (.int p6)] below meth c s₁ [] 0 0 := Stand.of_body Bd
  have e0 : s₁.heap = h0 := by rw [← hh, Bd.state]; rfl
  have N0 := Fr.nil n0
  suffices kk : Ends p e below (PVW s 16 128 n0 (f0_0 p4 p5 p6)) s₁ m 0 #[.val (.int p1), .val (.int p2), .val (.int p3), .val (.int p4), .val (.int p5), .val (.int p6), .unset, .unset, .unset, .unset, .unset, .unset] [] by
    obtain ⟨t, o, k1, k2, k3, k4⟩ := kk
    exact ⟨t, o, castTop (own_ef0 m p1 p2 p3 p4 p5 p6) k1, k2, k3, k4⟩
  refine eILoad X0 hx (hb hby at_0) rfl rfl ?_
  refine eIConst X0 hx (1 : Int32) (hb hby at_2) rfl rfl ?_
  refine eIAnd X0 hx (hb hby at_3) rfl ?_
  have K12_2 : ∀ (t1 : Int32) (T2 : State) (locs2 : List Loc), Stand p l e room_1 s m #[(.int p1), (.int p2), (.int p3), (.int p4), (.int p5), (.int p6)] below meth c T2 locs2 0 0 → Fr n0 locs2 → T2.heap = h0 → Ends p e below (PVW s 16 128 n0 (f0_12 p5 p6 t1)) T2 m 12 #[.val (.int p1), .val (.int p2), .val (.int p3), .val (.int p4), .val (.int p5), .val (.int p6), .unset, .unset, .unset, .unset, .unset, .unset] [(.int t1)] := by
    intro t1 T2 locs2 X2 N2 e2
    refine eIStore X2 hx (hb hby at_12) (L' := #[.val (.int p1), .val (.int p2), .val (.int p3), .val (.int p4), .val (.int p5), .val (.int p6), .val (.int t1), .unset, .unset, .unset, .unset, .unset]) rfl rfl ?_
    refine eILoad X2 hx (hb hby at_14) rfl rfl ?_
    refine eIConst X2 hx (1 : Int32) (hb hby at_16) rfl rfl ?_
    refine eIUshr X2 hx (hb hby at_17) rfl ?_
    refine eIConst X2 hx (3 : Int32) (hb hby at_18) rfl rfl ?_
    refine eIAnd X2 hx (hb hby at_19) rfl ?_
    refine eIStore X2 hx (hb hby at_20) (L' := #[.val (.int p1), .val (.int p2), .val (.int p3), .val (.int p4), .val (.int p5), .val (.int p6), .val (.int t1), .val (.int (((p6.toUInt32 >>> ((1 : Int32) &&& 31).toUInt32).toInt32) &&& (3 : Int32))), .unset, .unset, .unset, .unset]) rfl rfl ?_
    refine eILoad X2 hx (hb hby at_22) rfl rfl ?_
    have K49_4 : ∀ (v8_3 : Int32) (T4 : State) (locs4 : List Loc), Stand p l e room_1 s m #[(.int p1), (.int p2), (.int p3), (.int p4), (.int p5), (.int p6)] below meth c T4 locs4 0 0 → Fr n0 locs4 → T4.heap = h0 → Ends p e below (PVW s 16 128 n0 (f0_49 t1 v8_3)) T4 m 49 #[.val (.int p1), .val (.int p2), .val (.int p3), .val (.int p4), .val (.int p5), .val (.int p6), .val (.int t1), .val (.int (((p6.toUInt32 >>> ((1 : Int32) &&& 31).toUInt32).toInt32) &&& (3 : Int32))), .val (.int v8_3), .unset, .unset, .unset] [] := by
      intro v8_3 T4 locs4 X4 N4 e4
      refine eNewO X4 hx hZ hown (hw _ (List.mem_of_getElem? (i := 0) rfl)) (hw _ (List.mem_of_getElem? (i := 1) rfl)) (hw _ (List.mem_of_getElem? (i := 2) rfl)) e4 (hb hby at_49) (by decide) (by decide) rfl (fun T5 h5 ad5 g5 X5 e5 E5 A5 D5 => ?_)
      have S_DEFAULTCAPACITY_EMPTY_ELEMENTDATA := S_DEFAULTCAPACITY_EMPTY_ELEMENTDATA.ext E5
      have Z5 := Nat.le_trans Z0 E5.1
      have ge_ad5 : n0 ≤ ad5 := Nat.le_trans Z0 (Nat.le_of_eq g5.symm)
      have F5_modCount : Fld Z h5 ad5 "java/util/AbstractList" "modCount" "I" (.int (0 : Int32)) := D5 (Or.inl (hw _ (List.mem_of_getElem? (i := 22) rfl))) (ty := .int) (by decide)
      have F5_elementData : Fld Z h5 ad5 "java/util/ArrayList" "elementData" "[Ljava/lang/Object;" .null := D5 (Or.inl (hw _ (List.mem_of_getElem? (i := 25) rfl))) (ty := (.array (.object "java/lang/Object"))) (by decide)
      refine eDup X5 hx (hb hby at_52) rfl rfl ?_
      refine eCallI X5 hx hZ (y := (⟨"java/util/ArrayList", "<init>", "()V"⟩ : MethodName)) (a := ad5) rfl hown (hw _ (List.mem_of_getElem? (i := 3) rfl)) (hw _ (List.mem_of_getElem? (i := 4) rfl)) (hw _ (List.mem_of_getElem? (i := 2) rfl)) (hw _ (List.mem_of_getElem? (i := 5) rfl)) (by decide) e5 (rm1 l Z a0 hw [] ad5 r1 (0 : Int32) h5 n0 Z5 S_DEFAULTCAPACITY_EMPTY_ELEMENTDATA A5 F5_modCount F5_elementData ge_ad5) (argsL := []) (rest := [(.ref ad5)]) (lenOf own_pd0 rfl) rfl (by rw [hml]; rfl) 1 (by exact Nat.le_refl _) (by decide) (by decide) (by decide) (by decide) (hb hby at_53) rfl (fun v6 T6 L6 q6 (X6 : Stand _ _ _ _ _ _ _ _ _ _ T6 _ 1 3) => ?_)
      obtain ⟨N6', K6', rfl, R6_0, R6_1, R6_2, R6_3⟩ := q6
      have N6 := Fr.app N4 N6'
      have S_DEFAULTCAPACITY_EMPTY_ELEMENTDATA := Sta.keep1 S_DEFAULTCAPACITY_EMPTY_ELEMENTDATA K6' A5
      have A5 := A5.keep K6'
      have S_DEFAULTCAPACITY_EMPTY_ELEMENTDATA := R6_0
      have A5 := R6_1
      have F5_modCount : Fld Z T6.heap ad5 "java/util/AbstractList" "modCount" "I" (.int (0 : Int32)) := R6_2
      have F5_elementData : Fld Z T6.heap ad5 "java/util/ArrayList" "elementData" "[Ljava/lang/Object;" (.ref r1) := R6_3
      have Z6 := Nat.le_trans Z5 K6'.1
      show Ends p e below _ T6 m 56 #[.val (.int p1), .val (.int p2), .val (.int p3), .val (.int p4), .val (.int p5), .val (.int p6), .val (.int t1), .val (.int (((p6.toUInt32 >>> ((1 : Int32) &&& 31).toUInt32).toInt32) &&& (3 : Int32))), .val (.int v8_3), .unset, .unset, .unset] [(.ref ad5)]
      refine eAStore X6 hx (hb hby at_56) rfl (L' := #[.val (.int p1), .val (.int p2), .val (.int p3), .val (.int p4), .val (.int p5), .val (.int p6), .val (.int t1), .val (.int (((p6.toUInt32 >>> ((1 : Int32) &&& 31).toUInt32).toInt32) &&& (3 : Int32))), .val (.int v8_3), .val (.ref ad5), .unset, .unset]) rfl rfl ?_
      refine eNewO X6 hx hZ hown (hw _ (List.mem_of_getElem? (i := 26) rfl)) (hw _ (List.mem_of_getElem? (i := 27) rfl)) (hw _ (List.mem_of_getElem? (i := 28) rfl)) rfl (hb hby at_58) (by decide) (by decide) rfl (fun T7 h7 ad7 g7 X7 e7 E7 A7 D7 => ?_)
      have ne_ad5_ad7 : ad5 ≠ ad7 := Nat.ne_of_lt (Nat.lt_of_lt_of_le A5.lt (Nat.le_of_eq g7.symm))
      have S_DEFAULTCAPACITY_EMPTY_ELEMENTDATA := S_DEFAULTCAPACITY_EMPTY_ELEMENTDATA.ext E7
      have A5 := A5.ext E7
      have F5_modCount := F5_modCount.ext E7
      have F5_elementData := F5_elementData.ext E7
      have Z7 := Nat.le_trans Z6 E7.1
      have ge_ad7 : n0 ≤ ad7 := Nat.le_trans Z6 (Nat.le_of_eq g7.symm)
      have F7_maxWaitMs : Fld Z h7 ad7 "com/example/porthcurno/porthcurno/protocol/FetchRequest" "maxWaitMs" "I" (.int (0 : Int32)) := D7 (Or.inr (hw _ (List.mem_of_getElem? (i := 39) rfl))) (ty := .int) (by decide)
      have F7_minBytes : Fld Z h7 ad7 "com/example/porthcurno/porthcurno/protocol/FetchRequest" "minBytes" "I" (.int (0 : Int32)) := D7 (Or.inr (hw _ (List.mem_of_getElem? (i := 41) rfl))) (ty := .int) (by decide)
      have F7_maxBytes : Fld Z h7 ad7 "com/example/porthcurno/porthcurno/protocol/FetchRequest" "maxBytes" "I" (.int (0 : Int32)) := D7 (Or.inr (hw _ (List.mem_of_getElem? (i := 43) rfl))) (ty := .int) (by decide)
      have F7_sessionId : Fld Z h7 ad7 "com/example/porthcurno/porthcurno/protocol/FetchRequest" "sessionId" "I" (.int (0 : Int32)) := D7 (Or.inr (hw _ (List.mem_of_getElem? (i := 45) rfl))) (ty := .int) (by decide)
      have F7_sessionEpoch : Fld Z h7 ad7 "com/example/porthcurno/porthcurno/protocol/FetchRequest" "sessionEpoch" "I" (.int (0 : Int32)) := D7 (Or.inr (hw _ (List.mem_of_getElem? (i := 47) rfl))) (ty := .int) (by decide)
      have F7_topics : Fld Z h7 ad7 "com/example/porthcurno/porthcurno/protocol/FetchRequest" "topics" "Ljava/util/List;" .null := D7 (Or.inr (hw _ (List.mem_of_getElem? (i := 49) rfl))) (ty := (.object "java/util/List")) (by decide)
      refine eDup X7 hx (hb hby at_61) rfl rfl ?_
      refine eILoadN X7 hx (hb hby at_62) rfl rfl ?_
      refine eILoadN X7 hx (hb hby at_63) rfl rfl ?_
      refine eILoadN X7 hx (hb hby at_64) rfl rfl ?_
      refine eILoad X7 hx (hb hby at_65) rfl rfl ?_
      refine eILoad X7 hx (hb hby at_67) rfl rfl ?_
      refine eALoad X7 hx (hb hby at_69) rfl rfl rfl ?_
      refine eCallI X7 hx hZ (y := (⟨"com/example/porthcurno/porthcurno/protocol/FetchRequest", "<init>", "(IIIIILjava/util/List;)V"⟩ : MethodName)) (a := ad7) rfl hown (hw _ (List.mem_of_getElem? (i := 29) rfl)) (hw _ (List.mem_of_getElem? (i := 30) rfl)) (hw _ (List.mem_of_getElem? (i := 28) rfl)) (hw _ (List.mem_of_getElem? (i := 31) rfl)) (by decide) e7 (rm5 l Z a0 hw [] ad7 p1 p2 p3 t1 v8_3 ad5 (0 : Int32) (0 : Int32) (0 : Int32) (0 : Int32) (0 : Int32) h7 n0 Z7 A7 F7_maxWaitMs F7_minBytes F7_maxBytes F7_sessionId F7_sessionEpoch F7_topics ge_ad7) (argsL := [(.int p1), (.int p2), (.int p3), (.int t1), (.int v8_3), (.ref ad5)]) (rest := [(.ref ad7)]) (lenOf own_pd1 rfl) rfl (by rw [hml]; rfl) 1 (by exact Nat.le_refl _) (by decide) (by decide) (by decide) (by decide) (hb hby at_71) rfl (fun v8 T8 L8 q8 (X8 : Stand _ _ _ _ _ _ _ _ _ _ T8 _ 2 9) => ?_)
      obtain ⟨N8', K8', rfl, R8_0, R8_1, R8_2, R8_3, R8_4, R8_5, R8_6⟩ := q8
      have N8 := Fr.app N6 N8'
      have S_DEFAULTCAPACITY_EMPTY_ELEMENTDATA := Sta.keep1 S_DEFAULTCAPACITY_EMPTY_ELEMENTDATA K8' A7
      have A5 := A5.keep K8'
      have F5_modCount := F5_modCount.keep K8' (ninS ne_ad5_ad7 nin0)
      have F5_elementData := F5_elementData.keep K8' (ninS ne_ad5_ad7 nin0)
      have A7 := A7.keep K8'
      have A7 := R8_0
      have F7_maxWaitMs : Fld Z T8.heap ad7 "com/example/porthcurno/porthcurno/protocol/FetchRequest" "maxWaitMs" "I" (.int p1) := R8_1
      have F7_minBytes : Fld Z T8.heap ad7 "com/example/porthcurno/porthcurno/protocol/FetchRequest" "minBytes" "I" (.int p2) := R8_2
      have F7_maxBytes : Fld Z T8.heap ad7 "com/example/porthcurno/porthcurno/protocol/FetchRequest" "maxBytes" "I" (.int p3) := R8_3
      have F7_sessionId : Fld Z T8.heap ad7 "com/example/porthcurno/porthcurno/protocol/FetchRequest" "sessionId" "I" (.int t1) := R8_4
      have F7_sessionEpoch : Fld Z T8.heap ad7 "com/example/porthcurno/porthcurno/protocol/FetchRequest" "sessionEpoch" "I" (.int v8_3) := R8_5
      have F7_topics : Fld Z T8.heap ad7 "com/example/porthcurno/porthcurno/protocol/FetchRequest" "topics" "Ljava/util/List;" (.ref ad5) := R8_6
      have Z8 := Nat.le_trans Z7 K8'.1
      show Ends p e below _ T8 m 74 #[.val (.int p1), .val (.int p2), .val (.int p3), .val (.int p4), .val (.int p5), .val (.int p6), .val (.int t1), .val (.int (((p6.toUInt32 >>> ((1 : Int32) &&& 31).toUInt32).toInt32) &&& (3 : Int32))), .val (.int v8_3), .val (.ref ad5), .unset, .unset] [(.ref ad7)]
      refine eAStore X8 hx (hb hby at_74) rfl (L' := #[.val (.int p1), .val (.int p2), .val (.int p3), .val (.int p4), .val (.int p5), .val (.int p6), .val (.int t1), .val (.int (((p6.toUInt32 >>> ((1 : Int32) &&& 31).toUInt32).toInt32) &&& (3 : Int32))), .val (.int v8_3), .val (.ref ad5), .val (.ref ad7), .unset]) rfl rfl ?_
      refine eIConst X8 hx (0 : Int32) (hb hby at_76) rfl rfl ?_
      refine eIStore X8 hx (hb hby at_77) (L' := #[.val (.int p1), .val (.int p2), .val (.int p3), .val (.int p4), .val (.int p5), .val (.int p6), .val (.int t1), .val (.int (((p6.toUInt32 >>> ((1 : Int32) &&& 31).toUInt32).toInt32) &&& (3 : Int32))), .val (.int v8_3), .val (.ref ad5), .val (.ref ad7), .val (.int (0 : Int32))]) rfl rfl ?_
      refine eILoad X8 hx (hb hby at_79) rfl rfl ?_
      have K104_10 : ∀ (v11_9 : Int32) (T10 : State) (locs10 : List Loc), Stand p l e room_1 s m #[(.int p1), (.int p2), (.int p3), (.int p4), (.int p5), (.int p6)] below meth c T10 locs10 2 9 → Fr n0 locs10 → T10.heap = T8.heap → Ends p e below (PVW s 16 128 n0 (f0_104 t1 v8_3 v11_9)) T10 m 104 #[.val (.int p1), .val (.int p2), .val (.int p3), .val (.int p4), .val (.int p5), .val (.int p6), .val (.int t1), .val (.int (((p6.toUInt32 >>> ((1 : Int32) &&& 31).toUInt32).toInt32) &&& (3 : Int32))), .val (.int v8_3), .val (.ref ad5), .val (.ref ad7), .val (.int v11_9)] [] := by
        intro v11_9 T10 locs10 X10 N10 e10
        refine eALoad X10 hx (hb hby at_104) rfl rfl rfl ?_
        refine eCallV X10 hx hZ (y := (⟨"com/example/porthcurno/porthcurno/protocol/FetchRequest", "namesSession", "()Z"⟩ : MethodName)) hown (hw _ (List.mem_of_getElem? (i := 50) rfl)) (hw _ (List.mem_of_getElem? (i := 51) rfl)) (hw _ (List.mem_of_getElem? (i := 53) rfl)) (hw _ (List.mem_of_getElem? (i := 52) rfl)) (hw _ (List.mem_of_getElem? (i := 28) rfl)) (hw _ (List.mem_of_getElem? (i := 54) rfl)) (by decide) e10 A7 (rm7 l Z a0 hw [] ad7 t1 v8_3 T8.heap n0 Z8 F7_sessionId F7_sessionEpoch) (argsL := []) (rest := []) (lenOf own_pd2 rfl) rfl (by rw [hml]; rfl) 0 (by exact Nat.le_refl _) (by decide) (by decide) (by decide) (by decide) (hb hby at_106) rfl (fun v11 T11 L11 q11 (X11 : Stand _ _ _ _ _ _ _ _ _ _ T11 _ 2 9) => ?_)
        obtain ⟨N11', e11, rfl⟩ := q11
        have N11 := Fr.app N10 N11'
        show Ends p e below _ T11 m 109 #[.val (.int p1), .val (.int p2), .val (.int p3), .val (.int p4), .val (.int p5), .val (.int p6), .val (.int t1), .val (.int (((p6.toUInt32 >>> ((1 : Int32) &&& 31).toUInt32).toInt32) &&& (3 : Int32))), .val (.int v8_3), .val (.ref ad5), .val (.ref ad7), .val (.int v11_9)] [(.int (fNs_0 t1 v8_3))]
        refine eILoad X11 hx (hb hby at_109) rfl rfl ?_
        have K119_13 : ∀ (t12 : Int32) (T13 : State) (locs13 : List Loc), Stand p l e room_1 s m #[(.int p1), (.int p2), (.int p3), (.int p4), (.int p5), (.int p6)] below meth c T13 locs13 2 9 → Fr n0 locs13 → T13.heap = T8.heap → Ends p e below (PVW s 16 128 n0 (f0_119 t1 v8_3 t12)) T13 m 119 #[.val (.int p1), .val (.int p2), .val (.int p3), .val (.int p4), .val (.int p5), .val (.int p6), .val (.int t1), .val (.int (((p6.toUInt32 >>> ((1 : Int32) &&& 31).toUInt32).toInt32) &&& (3 : Int32))), .val (.int v8_3), .val (.ref ad5), .val (.ref ad7), .val (.int v11_9)] [(.int t12), (.int (fNs_0 t1 v8_3))] := by
          intro t12 T13 locs13 X13 N13 e13
          show Ends p e below (PVW s 16 128 n0 (if (fNs_0 t1 v8_3) = t12 then (1 : Int32) else (0 : Int32))) T13 m 119 #[.val (.int p1), .val (.int p2), .val (.int p3), .val (.int p4), .val (.int p5), .val (.int p6), .val (.int t1), .val (.int (((p6.toUInt32 >>> ((1 : Int32) &&& 31).toUInt32).toInt32) &&& (3 : Int32))), .val (.int v8_3), .val (.ref ad5), .val (.ref ad7), .val (.int v11_9)] [(.int t12), (.int (fNs_0 t1 v8_3))]
          by_cases c14 : (fNs_0 t1 v8_3) = t12
          · rw [if_pos c14]
            refine eIcmpN X13 hx (hb hby at_119) (teq c14).2 rfl ?_
            refine eIConst X13 hx (1 : Int32) (hb hby at_122) rfl rfl ?_
            refine eGoto X13 hx (hb hby at_123) (by decide) (pc' := 127) rfl ?_
            exact eRetN X13 hx (t := .boolean) Bd.returns (by simp) hlk (hb hby at_127) (by decide) (by decide) ⟨rfl, N13⟩
          · rw [if_neg c14]
            refine eIcmpY X13 hx (hb hby at_119) (feq c14).2 (by decide) (pc' := 126) rfl ?_
            refine eIConst X13 hx (0 : Int32) (hb hby at_126) rfl rfl ?_
            exact eRetN X13 hx (t := .boolean) Bd.returns (by simp) hlk (hb hby at_127) (by decide) (by decide) ⟨rfl, N13⟩
        show Ends p e below (PVW s 16 128 n0 (if v11_9 = (0 : Int32) then (f0_119 t1 v8_3 (1 : Int32)) else (f0_119 t1 v8_3 (0 : Int32)))) T11 m 111 #[.val (.int p1), .val (.int p2), .val (.int p3), .val (.int p4), .val (.int p5), .val (.int p6), .val (.int t1), .val (.int (((p6.toUInt32 >>> ((1 : Int32) &&& 31).toUInt32).toInt32) &&& (3 : Int32))), .val (.int v8_3), .val (.ref ad5), .val (.ref ad7), .val (.int v11_9)] [(.int v11_9), (.int (fNs_0 t1 v8_3))]
        by_cases c15 : v11_9 = (0 : Int32)
        · rw [if_pos c15]
          refine eIfN X11 hx (hb hby at_111) ((if0 _ _).trans (teq c15).2) rfl ?_
          refine eIConst X11 hx (1 : Int32) (hb hby at_114) rfl rfl ?_
          refine eGoto X11 hx (hb hby at_115) (by decide) (pc' := 119) rfl ?_
          exact K119_13 (1 : Int32) T11 _ X11 N11 e11
        · rw [if_neg c15]
          refine eIfY X11 hx (hb hby at_111) ((if0 _ _).trans (feq c15).2) (by decide) (pc' := 118) rfl ?_
          refine eIConst X11 hx (0 : Int32) (hb hby at_118) rfl rfl ?_
          exact K119_13 (0 : Int32) T11 _ X11 N11 e11
      show Ends p e below (PVW s 16 128 n0 (if t1 = (0 : Int32) then (if v8_3 = (0 : Int32) then (f0_104 t1 v8_3 (1 : Int32)) else (if v8_3 = (-1 : Int32) then (f0_104 t1 v8_3 (1 : Int32)) else (f0_104 t1 v8_3 (0 : Int32)))) else (f0_104 t1 v8_3 (0 : Int32)))) T8 m 81 #[.val (.int p1), .val (.int p2), .val (.int p3), .val (.int p4), .val (.int p5), .val (.int p6), .val (.int t1), .val (.int (((p6.toUInt32 >>> ((1 : Int32) &&& 31).toUInt32).toInt32) &&& (3 : Int32))), .val (.int v8_3), .val (.ref ad5), .val (.ref ad7), .val (.int (0 : Int32))] [(.int t1)]
      by_cases c16 : t1 = (0 : Int32)
      · rw [if_pos c16]
        refine eIfN X8 hx (hb hby at_81) ((if0 _ _).trans (teq c16).2) rfl ?_
        refine eILoad X8 hx (hb hby at_84) rfl rfl ?_
        show Ends p e below (PVW s 16 128 n0 (if v8_3 = (0 : Int32) then (f0_104 t1 v8_3 (1 : Int32)) else (if v8_3 = (-1 : Int32) then (f0_104 t1 v8_3 (1 : Int32)) else (f0_104 t1 v8_3 (0 : Int32))))) T8 m 86 #[.val (.int p1), .val (.int p2), .val (.int p3), .val (.int p4), .val (.int p5), .val (.int p6), .val (.int t1), .val (.int (((p6.toUInt32 >>> ((1 : Int32) &&& 31).toUInt32).toInt32) &&& (3 : Int32))), .val (.int v8_3), .val (.ref ad5), .val (.ref ad7), .val (.int (0 : Int32))] [(.int v8_3)]
        by_cases c17 : v8_3 = (0 : Int32)
        · rw [if_pos c17]
          refine eIfN X8 hx (hb hby at_86) ((if0 _ _).trans (teq c17).2) rfl ?_
          refine eIConst X8 hx (1 : Int32) (hb hby at_89) rfl rfl ?_
          refine eIStore X8 hx (hb hby at_90) (L' := #[.val (.int p1), .val (.int p2), .val (.int p3), .val (.int p4), .val (.int p5), .val (.int p6), .val (.int t1), .val (.int (((p6.toUInt32 >>> ((1 : Int32) &&& 31).toUInt32).toInt32) &&& (3 : Int32))), .val (.int v8_3), .val (.ref ad5), .val (.ref ad7), .val (.int (1 : Int32))]) rfl rfl ?_
          refine eGoto X8 hx (hb hby at_92) (by decide) (pc' := 104) rfl ?_
          exact K104_10 (1 : Int32) T8 _ X8 N8 rfl
        · rw [if_neg c17]
          refine eIfY X8 hx (hb hby at_86) ((if0 _ _).trans (feq c17).2) (by decide) (pc' := 95) rfl ?_
          refine eILoad X8 hx (hb hby at_95) rfl rfl ?_
          refine eIConst X8 hx (-1 : Int32) (hb hby at_97) rfl rfl ?_
          show Ends p e below (PVW s 16 128 n0 (if v8_3 = (-1 : Int32) then (f0_104 t1 v8_3 (1 : Int32)) else (f0_104 t1 v8_3 (0 : Int32)))) T8 m 98 #[.val (.int p1), .val (.int p2), .val (.int p3), .val (.int p4), .val (.int p5), .val (.int p6), .val (.int t1), .val (.int (((p6.toUInt32 >>> ((1 : Int32) &&& 31).toUInt32).toInt32) &&& (3 : Int32))), .val (.int v8_3), .val (.ref ad5), .val (.ref ad7), .val (.int (0 : Int32))] [(.int (-1 : Int32)), (.int v8_3)]
          by_cases c18 : v8_3 = (-1 : Int32)
          · rw [if_pos c18]
            refine eIcmpN X8 hx (hb hby at_98) (teq c18).2 rfl ?_
            refine eIConst X8 hx (1 : Int32) (hb hby at_101) rfl rfl ?_
            refine eIStore X8 hx (hb hby at_102) (L' := #[.val (.int p1), .val (.int p2), .val (.int p3), .val (.int p4), .val (.int p5), .val (.int p6), .val (.int t1), .val (.int (((p6.toUInt32 >>> ((1 : Int32) &&& 31).toUInt32).toInt32) &&& (3 : Int32))), .val (.int v8_3), .val (.ref ad5), .val (.ref ad7), .val (.int (1 : Int32))]) rfl rfl ?_
            exact K104_10 (1 : Int32) T8 _ X8 N8 rfl
          · rw [if_neg c18]
            refine eIcmpY X8 hx (hb hby at_98) (feq c18).2 (by decide) (pc' := 104) rfl ?_
            exact K104_10 (0 : Int32) T8 _ X8 N8 rfl
      · rw [if_neg c16]
        refine eIfY X8 hx (hb hby at_81) ((if0 _ _).trans (feq c16).2) (by decide) (pc' := 104) rfl ?_
        exact K104_10 (0 : Int32) T8 _ X8 N8 rfl
    show Ends p e below (PVW s 16 128 n0 (if (((p6.toUInt32 >>> ((1 : Int32) &&& 31).toUInt32).toInt32) &&& (3 : Int32)) = (0 : Int32) then (f0_49 t1 (0 : Int32)) else (if (((p6.toUInt32 >>> ((1 : Int32) &&& 31).toUInt32).toInt32) &&& (3 : Int32)) = (1 : Int32) then (f0_49 t1 (-1 : Int32)) else (f0_49 t1 p5)))) T2 m 24 #[.val (.int p1), .val (.int p2), .val (.int p3), .val (.int p4), .val (.int p5), .val (.int p6), .val (.int t1), .val (.int (((p6.toUInt32 >>> ((1 : Int32) &&& 31).toUInt32).toInt32) &&& (3 : Int32))), .unset, .unset, .unset, .unset] [(.int (((p6.toUInt32 >>> ((1 : Int32) &&& 31).toUInt32).toInt32) &&& (3 : Int32)))]
    by_cases c19 : (((p6.toUInt32 >>> ((1 : Int32) &&& 31).toUInt32).toInt32) &&& (3 : Int32)) = (0 : Int32)
    · rw [if_pos c19]
      refine eIfN X2 hx (hb hby at_24) ((if0 _ _).trans (teq c19).2) rfl ?_
      refine eIConst X2 hx (0 : Int32) (hb hby at_27) rfl rfl ?_
      refine eIStore X2 hx (hb hby at_28) (L' := #[.val (.int p1), .val (.int p2), .val (.int p3), .val (.int p4), .val (.int p5), .val (.int p6), .val (.int t1), .val (.int (((p6.toUInt32 >>> ((1 : Int32) &&& 31).toUInt32).toInt32) &&& (3 : Int32))), .val (.int (0 : Int32)), .unset, .unset, .unset]) rfl rfl ?_
      refine eGoto X2 hx (hb hby at_30) (by decide) (pc' := 49) rfl ?_
      exact K49_4 (0 : Int32) T2 _ X2 N2 e2
    · rw [if_neg c19]
      refine eIfY X2 hx (hb hby at_24) ((if0 _ _).trans (feq c19).2) (by decide) (pc' := 33) rfl ?_
      refine eILoad X2 hx (hb hby at_33) rfl rfl ?_
      refine eIConst X2 hx (1 : Int32) (hb hby at_35) rfl rfl ?_
      show Ends p e below (PVW s 16 128 n0 (if (((p6.toUInt32 >>> ((1 : Int32) &&& 31).toUInt32).toInt32) &&& (3 : Int32)) = (1 : Int32) then (f0_49 t1 (-1 : Int32)) else (f0_49 t1 p5))) T2 m 36 #[.val (.int p1), .val (.int p2), .val (.int p3), .val (.int p4), .val (.int p5), .val (.int p6), .val (.int t1), .val (.int (((p6.toUInt32 >>> ((1 : Int32) &&& 31).toUInt32).toInt32) &&& (3 : Int32))), .unset, .unset, .unset, .unset] [(.int (1 : Int32)), (.int (((p6.toUInt32 >>> ((1 : Int32) &&& 31).toUInt32).toInt32) &&& (3 : Int32)))]
      by_cases c20 : (((p6.toUInt32 >>> ((1 : Int32) &&& 31).toUInt32).toInt32) &&& (3 : Int32)) = (1 : Int32)
      · rw [if_pos c20]
        refine eIcmpN X2 hx (hb hby at_36) (teq c20).2 rfl ?_
        refine eIConst X2 hx (-1 : Int32) (hb hby at_39) rfl rfl ?_
        refine eIStore X2 hx (hb hby at_40) (L' := #[.val (.int p1), .val (.int p2), .val (.int p3), .val (.int p4), .val (.int p5), .val (.int p6), .val (.int t1), .val (.int (((p6.toUInt32 >>> ((1 : Int32) &&& 31).toUInt32).toInt32) &&& (3 : Int32))), .val (.int (-1 : Int32)), .unset, .unset, .unset]) rfl rfl ?_
        refine eGoto X2 hx (hb hby at_42) (by decide) (pc' := 49) rfl ?_
        exact K49_4 (-1 : Int32) T2 _ X2 N2 e2
      · rw [if_neg c20]
        refine eIcmpY X2 hx (hb hby at_36) (feq c20).2 (by decide) (pc' := 45) rfl ?_
        refine eILoad X2 hx (hb hby at_45) rfl rfl ?_
        refine eIStore X2 hx (hb hby at_47) (L' := #[.val (.int p1), .val (.int p2), .val (.int p3), .val (.int p4), .val (.int p5), .val (.int p6), .val (.int t1), .val (.int (((p6.toUInt32 >>> ((1 : Int32) &&& 31).toUInt32).toInt32) &&& (3 : Int32))), .val (.int p5), .unset, .unset, .unset]) rfl rfl ?_
        exact K49_4 p5 T2 _ X2 N2 e2
  show Ends p e below (PVW s 16 128 n0 (if (p6 &&& (1 : Int32)) = (0 : Int32) then (f0_12 p5 p6 p4) else (f0_12 p5 p6 (0 : Int32)))) s₁ m 4 #[.val (.int p1), .val (.int p2), .val (.int p3), .val (.int p4), .val (.int p5), .val (.int p6), .unset, .unset, .unset, .unset, .unset, .unset] [(.int (p6 &&& (1 : Int32)))]
  by_cases c21 : (p6 &&& (1 : Int32)) = (0 : Int32)
  · rw [if_pos c21]
    refine eIfY X0 hx (hb hby at_4) ((if0 _ _).trans (teq c21).1) (by decide) (pc' := 11) rfl ?_
    refine eILoadN X0 hx (hb hby at_11) rfl rfl ?_
    exact K12_2 p4 s₁ _ X0 N0 e0
  · rw [if_neg c21]
    refine eIfN X0 hx (hb hby at_4) ((if0 _ _).trans (feq c21).1) rfl ?_
    refine eIConst X0 hx (0 : Int32) (hb hby at_7) rfl rfl ?_
    refine eGoto X0 hx (hb hby at_8) (by decide) (pc' := 12) rfl ?_
    exact K12_2 (0 : Int32) s₁ _ X0 N0 e0
theorem own_k (a b : Int32) : f0_49 a b = 1 := by
  unfold f0_49 f0_104 f0_119 fNs_0
  by_cases h1 : a = 0
  · simp only [if_pos h1]
    by_cases h2 : b = 0
    · simp only [if_pos h2]; decide
    · simp only [if_neg h2]
      by_cases h3 : b = -1
      · simp only [if_pos h3]; decide
      · simp only [if_neg h3]; decide
  · simp only [if_neg h1]; decide
theorem law_eq (p4 p5 p6 : Int32) : f0_0 p4 p5 p6 = 1 := by
  unfold f0_0 f0_12
  simp only [own_k, ite_self]
set_option maxRecDepth 65536 in
set_option maxHeartbeats 40000000 in
theorem comes_1 {Post : Tables → Env → Array Value → State → Outcome → State → Prop} (hpost : ∀ tb e args s v u, (limb_1_1.after args s (.returned v) u = true ∧ limb_1_2.after args s (.returned v) u = true ∧ True) → FrameEnd s (.returned v) u (Jvm.fieldLocs frame_1_writes args s ++ Jvm.arrayLocs frame_1_arrays args s ++ Jvm.staticLocs frame_1_statics s) 16 128 → Post tb e args s (.returned v) u) :
    ArmFor flags0 classFile x code maxLocals ret World_1 tables_1 room_1 Calls_1 rest_1 Pre_1 Post := by
  intro l hfl _ _ p e ha hc hk s m args below hf hA hF happ hP
  obtain ⟨hcalls, hrest, hpre⟩ := hP
  obtain ⟨-, -, -, hnamed, -, -, -, hat⟩ := (Spec.applies_iff hf).mp happ
  obtain ⟨hg, hn⟩ := and_e (Cond.before_iff.mp (show (Jvm.Cond.and given_1 narrow_1).before args s = true from hpre))
  obtain ⟨g1, g2⟩ := and_e hg
  obtain ⟨g3, g4⟩ := and_e g2
  obtain ⟨g5, g6⟩ := and_e g4
  obtain ⟨g7, g8⟩ := and_e g6
  obtain ⟨g9, g10⟩ := and_e g8
  obtain ⟨g11, g12⟩ := and_e g10
  obtain ⟨w0, w1, w2, w3, w4, w5, rfl⟩ : ∃ w0 w1 w2 w3 w4 w5 : Value, args = #[w0, w1, w2, w3, w4, w5] := by
    have hs : args.size = 6 := by simpa [Cond.value, given_1] using g1
    obtain ⟨L⟩ := args
    match L, hs with
    | [w0, w1, w2, w3, w4, w5], _ => exact ⟨w0, w1, w2, w3, w4, w5, rfl⟩
  have hw := fun d (hd : d ∈ tables_1) => atoms_spec (ws := Jvm.Cond.code x code maxLocals ret :: tables_1) hat d (List.mem_cons_of_mem _ hd)
  have hfit : Fit s := fun {y c} hc i hi => by
    obtain ⟨ha, rfl⟩ := Array.getElem?_eq_some_iff.mp hc
    have q := List.all_eq_true.mp ((Array.all_eq_true_iff_forall_mem.mp hF) _ (Array.getElem_mem ha)) i (List.mem_range.mpr hi)
    simpa [Array.getElem?_eq_getElem hi] using q
  obtain ⟨hsets, hown0⟩ := atoms_of _ (rest_1_c_eq ▸ (show rest_1_c.before _ s = true from hrest))
  have hr0 := Cond.before_iff.mp hown0
  obtain ⟨r1, hr1⟩ := exa_v (Cond.before_iff.mp (hsets _ (List.mem_of_getElem? (i := 7) rfl)))
  have hS := Sta.start hr1 (Or.inr ⟨hw _ (List.mem_of_getElem? (i := 2) rfl), hsets _ (List.mem_of_getElem? (i := 2) rfl)⟩)
  obtain ⟨i0, ei0⟩ := is_v g3
  obtain rfl : w0 = (.int i0) := Option.some.inj ei0
  obtain ⟨i1, ei1⟩ := is_v g5
  obtain rfl : w1 = (.int i1) := Option.some.inj ei1
  obtain ⟨i2, ei2⟩ := is_v g7
  obtain rfl : w2 = (.int i2) := Option.some.inj ei2
  obtain ⟨i3, ei3⟩ := is_v g9
  obtain rfl : w3 = (.int i3) := Option.some.inj ei3
  obtain ⟨i4, ei4⟩ := is_v g11
  obtain rfl : w4 = (.int i4) := Option.some.inj ei4
  obtain ⟨i5, ei5⟩ := is_v g12
  obtain rfl : w5 = (.int i5) := Option.some.inj ei5
  obtain ⟨n, o, h1, h2, h3, _, L, rfl, ⟨hv, N⟩, hq⟩ := rm0 l s _ hw tables_1 i0 i1 i2 i3 i4 i5 r1 s.heap s.heap.size (Nat.le_refl _) hS p e ha hc hk s m _ below hf ((Spec.applies_iff_loose hf).mp happ).1 ⟨rfl, State.Warmed39.refl s, rfl⟩ trivial
  rw [law_eq] at hv
  subst hv
  refine ⟨n, _, h1, h2, h3, hpost _ _ _ _ _ _ ⟨Cond.after_iff.mpr rfl, Cond.after_iff.mpr (eq_i res_at (Term.int_eval (1)) rfl), trivial⟩ ⟨hq.1, hq.2.1, (hq.2.2.sift fun y hy => Or.inr (N y hy)).mono (by decide) (by decide)⟩⟩
theorem main_1_1 : Claimed_1_1 := comes_1 fun _ _ _ _ _ _ h hF => ⟨h.1, hF⟩
theorem main_1_2 : Claimed_1_2 := comes_1 fun _ _ _ _ _ _ h hF => ⟨h.2.1, hF⟩
end Jvm.Pilot.@@N@@
namespace Jvm.Pilot.@@N@@
open Jvm Jvm.ClassFile Sem Op Lib Jvm.Free Jvm.Stand Jvm.Pilot.@@N@@.Jvm.D
/-! MADE BY PROGRAM (witnessworld.py) out of the Statement's table words and the real class files: 19 classes; the members and pool entries that the words name. The judged class is class 1, her method 1. -/
namespace start1
open Jvm.ClassFile
def u (s : String) : CpInfo := .utf8 (stringToUtf16 s)
/-- a pool by its gaps: so many unusable entries, then the entry; so many at the end -/
def gap : Nat → List CpInfo → List CpInfo
  | 0, r => r
  | n + 1, r => .unusable :: gap n r
def poolList (es : List (Nat × CpInfo)) (last : Nat) : List CpInfo := es.foldr (fun e r => gap e.1 (e.2 :: r)) (gap last [])
def pool (es : List (Nat × CpInfo)) (last : Nat) : Array CpInfo := ⟨poolList es last⟩
def fileOf (pool : Array CpInfo) (this : Nat) (attrs : Array Attribute := #[]) (ms : Array MethodInfo := #[]) (fl : Nat := 33) (sup : Nat := 0) (ifs : Array Nat := #[]) (fds : Array FieldInfo := #[]) : ClassFile where
  minorVersion := 0
  majorVersion := 65
  constantPool := pool
  accessFlags := fl
  thisClass := this
  superClass := sup
  interfaces := ifs
  fields := fds
  methods := ms
  attributes := attrs
def plain (name : String) (sup : Option ClassId) : Class where
  name := name
  kind := .ordinary
  loader := none
  accessFlags := 33
  super := sup
  interfaces := #[]
  cf := none
  fields := #[]
  methods := #[]
  instanceTypes := #[]
  staticTypes := #[]
  resolved := #[]
  callSites := []
  init := .initialized
  statics := none
  mirror := none

def pool0 : Array CpInfo := pool [(5, u "<init>"), (0, u "()V"), (1, .class_ 10), (1, u "java/lang/Object")] 113

def k0c0 : Code := { maxStack := 0, maxLocals := 1, code := object_method_1_code, exceptionTable := #[], attributes := #[] }
def k0m0 : Method := { name := "<init>", desc := "()V", sig := { parameters := [], returnType := none }, accessFlags := 1, code := some k0c0 }
/-- java/lang/Object -/
def k0 : Class := { plain "java/lang/Object" none with
  accessFlags := 33
  interfaces := #[]
  cf := some (fileOf pool0 8 #[] #[{ accessFlags := 1, nameIndex := 5, descriptorIndex := 6, attributes := #[] }] 33 0 #[] #[])
  fields := #[]
  methods := #[k0m0]
  instanceTypes := #[]
  staticTypes := #[]
  resolved := Array.replicate 124 none
  statics := none }

def pool1 : Array CpInfo := pool [(2, .class_ 4), (0, .nameAndType 5 6), (0, u "java/lang/Object"), (0, u "<init>"), (0, u "()V"), (0, .class_ 8), (0, u "java/util/ArrayList"), (0, .methodref 7 3), (0, .class_ 11), (0, u "com/example/porthcurno/porthcurno/protocol/FetchRequest"), (0, .methodref 10 13), (0, .nameAndType 5 14), (0, u "(IIIIILjava/util/List;)V"), (0, .methodref 10 16), (0, .nameAndType 17 18), (0, u "namesSession"), (0, u "()Z"), (0, .class_ 20), (0, u "com/example/porthcurno/porthcurno/protocol/FetchRequestNamesSessionPinLaw"), (2, u "law"), (0, u "(IIIIII)Z")] 5

def k1m0 : Method := { name := "<init>", desc := "()V", sig := { parameters := [], returnType := none }, accessFlags := 2, code := none }
def k1c1 : Code := { maxStack := 8, maxLocals := 12, code := code, exceptionTable := #[], attributes := #[] }
def k1m1 : Method := { name := "law", desc := "(IIIIII)Z", sig := { parameters := [.int, .int, .int, .int, .int, .int], returnType := some .boolean }, accessFlags := 9, code := some k1c1 }
/-- com/example/porthcurno/porthcurno/protocol/FetchRequestNamesSessionPinLaw -/
def k1 : Class := { plain "com/example/porthcurno/porthcurno/protocol/FetchRequestNamesSessionPinLaw" (some 0) with
  accessFlags := 49
  interfaces := #[]
  cf := some (fileOf pool1 19 #[] #[{ accessFlags := 2, nameIndex := 5, descriptorIndex := 6, attributes := #[] }, { accessFlags := 9, nameIndex := 23, descriptorIndex := 24, attributes := #[] }] 49 2 #[] #[])
  fields := #[]
  methods := #[k1m0, k1m1]
  instanceTypes := #[]
  staticTypes := #[]
  resolved := Array.replicate 30 none
  statics := none }

def pool2 : Array CpInfo := pool [(8, .class_ 10), (1, u "java/lang/Iterable"), (24, .class_ 36), (0, u "java/lang/Object")] 25

/-- java/lang/Iterable -/
def k2 : Class := { plain "java/lang/Iterable" (some 0) with
  accessFlags := 1537
  interfaces := #[]
  cf := some (fileOf pool2 8 #[] #[] 1537 35 #[] #[])
  fields := #[]
  methods := #[]
  instanceTypes := #[]
  staticTypes := #[]
  resolved := Array.replicate 62 none
  statics := none }

def pool3 : Array CpInfo := pool [(10, .class_ 12), (1, u "java/util/Collection"), (47, .class_ 61), (0, u "java/lang/Object"), (0, .class_ 63), (0, u "java/lang/Iterable")] 51

/-- java/util/Collection -/
def k3 : Class := { plain "java/util/Collection" (some 0) with
  accessFlags := 1537
  interfaces := #[2]
  cf := some (fileOf pool3 10 #[] #[] 1537 60 #[62] #[])
  fields := #[]
  methods := #[]
  instanceTypes := #[]
  staticTypes := #[]
  resolved := Array.replicate 115 none
  statics := none }

def pool4 : Array CpInfo := pool [(1, .methodref 2 3), (0, .class_ 4), (0, .nameAndType 5 6), (0, u "java/lang/Object"), (0, u "<init>"), (0, u "()V"), (1, .class_ 10), (1, u "java/util/AbstractCollection"), (66, .class_ 78), (0, u "java/util/Collection")] 81

def k4c0 : Code := { maxStack := 1, maxLocals := 1, code := jdk_22_method_1_code, exceptionTable := #[], attributes := #[] }
def k4m0 : Method := { name := "<init>", desc := "()V", sig := { parameters := [], returnType := none }, accessFlags := 4, code := some k4c0 }
/-- java/util/AbstractCollection -/
def k4 : Class := { plain "java/util/AbstractCollection" (some 0) with
  accessFlags := 1057
  interfaces := #[3]
  cf := some (fileOf pool4 8 #[] #[{ accessFlags := 4, nameIndex := 5, descriptorIndex := 6, attributes := #[] }] 1057 2 #[77] #[])
  fields := #[]
  methods := #[k4m0]
  instanceTypes := #[]
  staticTypes := #[]
  resolved := Array.replicate 160 none
  statics := none }

def pool5 : Array CpInfo := pool [(8, .class_ 10), (1, u "java/util/SequencedCollection"), (15, .class_ 27), (0, u "java/lang/Object"), (0, .class_ 29), (0, u "java/util/Collection")] 27

/-- java/util/SequencedCollection -/
def k5 : Class := { plain "java/util/SequencedCollection" (some 0) with
  accessFlags := 1537
  interfaces := #[3]
  cf := some (fileOf pool5 8 #[] #[] 1537 26 #[28] #[])
  fields := #[]
  methods := #[]
  instanceTypes := #[]
  staticTypes := #[]
  resolved := Array.replicate 57 none
  statics := none }

def pool6 : Array CpInfo := pool [(8, .class_ 10), (1, u "java/util/List"), (92, .class_ 104), (0, u "java/lang/Object"), (15, .class_ 121), (0, u "java/util/SequencedCollection")] 129

/-- java/util/List -/
def k6 : Class := { plain "java/util/List" (some 0) with
  accessFlags := 1537
  interfaces := #[5]
  cf := some (fileOf pool6 8 #[] #[] 1537 103 #[120] #[])
  fields := #[]
  methods := #[]
  instanceTypes := #[]
  staticTypes := #[]
  resolved := Array.replicate 251 none
  statics := none }

def pool7 : Array CpInfo := pool [(1, .methodref 2 3), (0, .class_ 4), (0, .nameAndType 5 6), (0, u "java/util/AbstractCollection"), (0, u "<init>"), (0, u "()V"), (0, .fieldref 8 9), (0, .class_ 10), (0, .nameAndType 11 12), (0, u "java/util/AbstractList"), (0, u "modCount"), (0, u "I"), (64, .class_ 78), (0, u "java/util/AbstractList$Itr"), (3, .class_ 83), (0, u "java/util/AbstractList$ListItr"), (9, .class_ 94), (0, u "java/util/AbstractList$RandomAccessSubList"), (3, .class_ 99), (0, u "java/util/AbstractList$SubList"), (33, .class_ 134), (0, u "java/util/List"), (73, .class_ 209), (0, u "java/util/AbstractList$SubList$1"), (0, .class_ 211), (0, u "java/util/AbstractList$RandomAccessSpliterator")] 6

def k7c0 : Code := { maxStack := 2, maxLocals := 1, code := jdk_39_method_1_code, exceptionTable := #[], attributes := #[] }
def k7m0 : Method := { name := "<init>", desc := "()V", sig := { parameters := [], returnType := none }, accessFlags := 4, code := some k7c0 }
/-- java/util/AbstractList -/
def k7 : Class := { plain "java/util/AbstractList" (some 4) with
  accessFlags := 1057
  interfaces := #[6]
  cf := some (fileOf pool7 8 #[.nestMembers #[93, 98, 208, 210, 82, 77]] #[{ accessFlags := 4, nameIndex := 5, descriptorIndex := 6, attributes := #[] }] 1057 2 #[133] #[{ accessFlags := 132, nameIndex := 11, descriptorIndex := 12, attributes := #[] }])
  fields := #[{ name := "modCount", type := .int, accessFlags := 132, slot := 0, constantValue := 0 }]
  methods := #[k7m0]
  instanceTypes := #[.int]
  staticTypes := #[]
  resolved := Array.replicate 218 none
  statics := none }

def pool8 : Array CpInfo := pool [(1, .class_ 2), (0, u "java/util/RandomAccess"), (0, .class_ 4), (0, u "java/lang/Object")] 2

/-- java/util/RandomAccess -/
def k8 : Class := { plain "java/util/RandomAccess" (some 0) with
  accessFlags := 1537
  interfaces := #[]
  cf := some (fileOf pool8 1 #[] #[] 1537 3 #[] #[])
  fields := #[]
  methods := #[]
  instanceTypes := #[]
  staticTypes := #[]
  resolved := Array.replicate 7 none
  statics := none }

def pool9 : Array CpInfo := pool [(1, .class_ 2), (0, u "java/lang/Cloneable"), (0, .class_ 4), (0, u "java/lang/Object")] 2

/-- java/lang/Cloneable -/
def k9 : Class := { plain "java/lang/Cloneable" (some 0) with
  accessFlags := 1537
  interfaces := #[]
  cf := some (fileOf pool9 1 #[] #[] 1537 3 #[] #[])
  fields := #[]
  methods := #[]
  instanceTypes := #[]
  staticTypes := #[]
  resolved := Array.replicate 7 none
  statics := none }

def pool10 : Array CpInfo := pool [(1, .class_ 2), (0, u "java/io/Serializable"), (0, .class_ 4), (0, u "java/lang/Object")] 2

/-- java/io/Serializable -/
def k10 : Class := { plain "java/io/Serializable" (some 0) with
  accessFlags := 1537
  interfaces := #[]
  cf := some (fileOf pool10 1 #[] #[] 1537 3 #[] #[])
  fields := #[]
  methods := #[]
  instanceTypes := #[]
  staticTypes := #[]
  resolved := Array.replicate 7 none
  statics := none }

def pool11 : Array CpInfo := pool [(1, .methodref 2 3), (0, .class_ 4), (0, .nameAndType 5 6), (0, u "java/util/AbstractList"), (0, u "<init>"), (0, u "()V"), (2, .fieldref 10 11), (0, .class_ 12), (0, .nameAndType 13 14), (0, u "java/util/ArrayList"), (0, u "elementData"), (0, u "[Ljava/lang/Object;"), (2, u "EMPTY_ELEMENTDATA"), (21, .fieldref 10 40), (0, .nameAndType 41 14), (0, u "DEFAULTCAPACITY_EMPTY_ELEMENTDATA"), (8, u "size"), (0, u "I"), (96, .class_ 149), (0, u "java/util/List"), (112, .class_ 263), (0, u "java/util/ArrayList$ListItr"), (3, .class_ 268), (0, u "java/util/ArrayList$Itr"), (7, .class_ 277), (0, u "java/util/ArrayList$SubList"), (12, .class_ 291), (0, u "java/util/ArrayList$ArrayListSpliterator"), (37, .class_ 330), (0, u "java/util/RandomAccess"), (0, .class_ 332), (0, u "java/lang/Cloneable"), (0, .class_ 334), (0, u "java/io/Serializable"), (0, u "serialVersionUID"), (0, u "J"), (3, u "DEFAULT_CAPACITY"), (159, .class_ 501), (0, u "java/util/ArrayList$SubList$2"), (0, .class_ 503), (0, u "java/util/ArrayList$SubList$1")] 5

def k11c0 : Code := { maxStack := 2, maxLocals := 1, code := jdk_38_method_2_code, exceptionTable := #[], attributes := #[] }
def k11m0 : Method := { name := "<init>", desc := "()V", sig := { parameters := [], returnType := none }, accessFlags := 1, code := some k11c0 }
/-- java/util/ArrayList -/
def k11 : Class := { plain "java/util/ArrayList" (some 7) with
  accessFlags := 33
  interfaces := #[6, 8, 9, 10]
  cf := some (fileOf pool11 10 #[.nestMembers #[290, 276, 500, 502, 262, 267]] #[{ accessFlags := 1, nameIndex := 5, descriptorIndex := 6, attributes := #[] }] 33 2 #[148, 329, 331, 333] #[{ accessFlags := 26, nameIndex := 335, descriptorIndex := 336, attributes := #[] }, { accessFlags := 26, nameIndex := 340, descriptorIndex := 51, attributes := #[] }, { accessFlags := 26, nameIndex := 17, descriptorIndex := 14, attributes := #[] }, { accessFlags := 26, nameIndex := 41, descriptorIndex := 14, attributes := #[] }, { accessFlags := 128, nameIndex := 13, descriptorIndex := 14, attributes := #[] }, { accessFlags := 2, nameIndex := 50, descriptorIndex := 51, attributes := #[] }])
  fields := #[{ name := "serialVersionUID", type := .long, accessFlags := 26, slot := 0, constantValue := 0 }, { name := "DEFAULT_CAPACITY", type := .int, accessFlags := 26, slot := 1, constantValue := 0 }, { name := "EMPTY_ELEMENTDATA", type := (.array (.object "java/lang/Object")), accessFlags := 26, slot := 2, constantValue := 0 }, { name := "DEFAULTCAPACITY_EMPTY_ELEMENTDATA", type := (.array (.object "java/lang/Object")), accessFlags := 26, slot := 3, constantValue := 0 }, { name := "elementData", type := (.array (.object "java/lang/Object")), accessFlags := 128, slot := 1, constantValue := 0 }, { name := "size", type := .int, accessFlags := 2, slot := 2, constantValue := 0 }]
  methods := #[k11m0]
  instanceTypes := #[.int, (.array (.object "java/lang/Object")), .int]
  staticTypes := #[.long, .int, (.array (.object "java/lang/Object")), (.array (.object "java/lang/Object"))]
  resolved := Array.replicate 509 none
  statics := some 0 }

def pool12 : Array CpInfo := pool [(1, .methodref 2 3), (0, .class_ 4), (0, .nameAndType 5 6), (0, u "java/lang/Object"), (0, u "<init>"), (0, u "()V"), (0, .class_ 8), (0, u "java/lang/Record")] 13

def k12c0 : Code := { maxStack := 1, maxLocals := 1, code := jdk_30_method_1_code, exceptionTable := #[], attributes := #[] }
def k12m0 : Method := { name := "<init>", desc := "()V", sig := { parameters := [], returnType := none }, accessFlags := 4, code := some k12c0 }
/-- java/lang/Record -/
def k12 : Class := { plain "java/lang/Record" (some 0) with
  accessFlags := 1057
  interfaces := #[]
  cf := some (fileOf pool12 7 #[] #[{ accessFlags := 4, nameIndex := 5, descriptorIndex := 6, attributes := #[] }] 1057 2 #[] #[])
  fields := #[]
  methods := #[k12m0]
  instanceTypes := #[]
  staticTypes := #[]
  resolved := Array.replicate 22 none
  statics := none }

def pool13 : Array CpInfo := pool [(1, .methodref 2 3), (0, .class_ 4), (0, .nameAndType 5 6), (0, u "java/lang/Record"), (0, u "<init>"), (0, u "()V"), (0, .fieldref 8 9), (0, .class_ 10), (0, .nameAndType 11 12), (0, u "com/example/porthcurno/porthcurno/protocol/FetchRequest"), (0, u "maxWaitMs"), (0, u "I"), (0, .fieldref 8 14), (0, .nameAndType 15 12), (0, u "minBytes"), (0, .fieldref 8 17), (0, .nameAndType 18 12), (0, u "maxBytes"), (0, .fieldref 8 20), (0, .nameAndType 21 12), (0, u "sessionId"), (0, .fieldref 8 23), (0, .nameAndType 24 12), (0, u "sessionEpoch"), (0, .fieldref 8 26), (0, .nameAndType 27 28), (0, u "topics"), (0, u "Ljava/util/List;"), (27, u "(IIIIILjava/util/List;)V"), (4, .class_ 62), (0, u "com/example/porthcurno/porthcurno/protocol/FetchRequest$PartitionFetch"), (4, .class_ 68), (0, u "com/example/porthcurno/porthcurno/protocol/FetchRequest$TopicFetch"), (22, u "NO_SESSION_ID"), (2, u "INITIAL_EPOCH"), (0, u "FINAL_EPOCH"), (10, u "namesSession"), (0, u "()Z")] 63

def k13c0 : Code := { maxStack := 2, maxLocals := 7, code := prog_22_method_1_code, exceptionTable := #[], attributes := #[] }
def k13m0 : Method := { name := "<init>", desc := "(IIIIILjava/util/List;)V", sig := { parameters := [.int, .int, .int, .int, .int, (.object "java/util/List")], returnType := none }, accessFlags := 1, code := some k13c0 }
def k13c1 : Code := { maxStack := 2, maxLocals := 1, code := prog_22_method_3_code, exceptionTable := #[], attributes := #[] }
def k13m1 : Method := { name := "namesSession", desc := "()Z", sig := { parameters := [], returnType := some .boolean }, accessFlags := 1, code := some k13c1 }
/-- com/example/porthcurno/porthcurno/protocol/FetchRequest -/
def k13 : Class := { plain "com/example/porthcurno/porthcurno/protocol/FetchRequest" (some 12) with
  accessFlags := 49
  interfaces := #[]
  cf := some (fileOf pool13 8 #[.nestMembers #[61, 67]] #[{ accessFlags := 1, nameIndex := 5, descriptorIndex := 56, attributes := #[] }, { accessFlags := 1, nameIndex := 106, descriptorIndex := 107, attributes := #[] }] 49 2 #[] #[{ accessFlags := 18, nameIndex := 11, descriptorIndex := 12, attributes := #[] }, { accessFlags := 18, nameIndex := 15, descriptorIndex := 12, attributes := #[] }, { accessFlags := 18, nameIndex := 18, descriptorIndex := 12, attributes := #[] }, { accessFlags := 18, nameIndex := 21, descriptorIndex := 12, attributes := #[] }, { accessFlags := 18, nameIndex := 24, descriptorIndex := 12, attributes := #[] }, { accessFlags := 18, nameIndex := 27, descriptorIndex := 28, attributes := #[] }, { accessFlags := 26, nameIndex := 91, descriptorIndex := 12, attributes := #[] }, { accessFlags := 26, nameIndex := 94, descriptorIndex := 12, attributes := #[] }, { accessFlags := 26, nameIndex := 95, descriptorIndex := 12, attributes := #[] }])
  fields := #[{ name := "maxWaitMs", type := .int, accessFlags := 18, slot := 0, constantValue := 0 }, { name := "minBytes", type := .int, accessFlags := 18, slot := 1, constantValue := 0 }, { name := "maxBytes", type := .int, accessFlags := 18, slot := 2, constantValue := 0 }, { name := "sessionId", type := .int, accessFlags := 18, slot := 3, constantValue := 0 }, { name := "sessionEpoch", type := .int, accessFlags := 18, slot := 4, constantValue := 0 }, { name := "topics", type := (.object "java/util/List"), accessFlags := 18, slot := 5, constantValue := 0 }, { name := "NO_SESSION_ID", type := .int, accessFlags := 26, slot := 0, constantValue := 0 }, { name := "INITIAL_EPOCH", type := .int, accessFlags := 26, slot := 1, constantValue := 0 }, { name := "FINAL_EPOCH", type := .int, accessFlags := 26, slot := 2, constantValue := 0 }]
  methods := #[k13m0, k13m1]
  instanceTypes := #[.int, .int, .int, .int, .int, (.object "java/util/List")]
  staticTypes := #[.int, .int, .int]
  resolved := Array.replicate 171 none
  statics := none }

/-- the primitive byte -/
def k14 : Class := { plain "byte" none with kind := .primitive 'B', accessFlags := 0x411 }
/-- [B -/
def k15 : Class := { plain "[B" (some 0) with kind := .array 14 .byte, interfaces := #[9, 10], accessFlags := 1041 }

/-- the primitive int -/
def k16 : Class := { plain "int" none with kind := .primitive 'I', accessFlags := 0x411 }
/-- [I -/
def k17 : Class := { plain "[I" (some 0) with kind := .array 16 .int, interfaces := #[9, 10], accessFlags := 1041 }

/-- [Ljava/lang/Object; -/
def k18 : Class := { plain "[Ljava/lang/Object;" (some 0) with kind := .array 0 (.object "java/lang/Object"), interfaces := #[9, 10], accessFlags := 1041 }

def heap : Heap := #[{ cls := 11, slots := #[.long 0, .int 0, .ref 1, .ref 2], vm := .statics 11 },
  { cls := 18, slots := #[], vm := .none },
  { cls := 18, slots := #[], vm := .none }]
def classes : Array Class := #[k0, k1, k2, k3, k4, k5, k6, k7, k8, k9, k10, k11, k12, k13, k14, k15, k16, k17, k18]
def interned : List (Array UInt16 × Addr) := []
def slotsUsed : Nat := 4
def theMethod : MethodId := ⟨1, 1⟩
def args0 : Array Value := #[.int 5, .int 4, .int 6, .int 9, .int 3, .int 12]
def aboutOver (below : List Frame) : State where
  vm := { classes := classes, interned := interned.toArray }
  heap := heap
  slotsUsed := slotsUsed
  threads := #[{ frames := .invoking theMethod args0 :: below }]
def below0 : List Frame := [.native { method := ⟨0, 0⟩, args := #[] }]
def about1 : State := aboutOver below0
def p0 : Program := .bare "" "" ""
def e0 : Env := launch0.env 0 0 0
theorem w_frames : about1.frames = Frame.invoking theMethod args0 :: below0 := rfl
set_option maxRecDepth 65536 in
theorem w_args : argsFit about1.vm theMethod args0 = true := by decide +kernel
set_option maxRecDepth 65536 in
theorem w_heap : heapFits about1 = true := by decide +kernel
set_option maxRecDepth 65536 in
theorem w_runnable : about1.curStatus? = some .runnable := by decide +kernel
set_option maxRecDepth 65536 in
theorem w_alone : about1.alone = true := by decide +kernel
set_option maxRecDepth 65536 in
theorem w_named : about1.methodNamed? x = some theMethod := by decide +kernel
set_option maxRecDepth 65536 in
theorem w_hears : about1.hears theMethod below0 = true := by decide +kernel
set_option maxRecDepth 65536 in
theorem w_ripe : about1.ripe theMethod args0 below0 = true := by decide +kernel
theorem w_running : about1.status = .running := rfl
set_option maxRecDepth 65536 in
theorem w_room : about1.hasRoom e0.platform room_1 = true :=
  launch0.hasRoom_least _ room_1 (by decide +kernel) (by decide +kernel) (by decide +kernel) (by decide +kernel) (by decide +kernel) (by decide +kernel)
theorem allAtoms_all (ts : List Jvm.Cond) (a : Array Jvm.Value) (st : Jvm.State) : (allAtoms ts).before a st = ts.all (fun c => c.before a st) := by
  induction ts with
  | nil => rfl
  | cons c t ih =>
    show (Jvm.Cond.and c (allAtoms t)).before a st = _
    rw [Jvm.Cond.before_and, ih, List.all_cons]
def words1 : List Jvm.Cond := Jvm.Cond.code x code maxLocals ret :: tables_1
/-- a 'code' word, met by the world's own term for the bytes: nothing is compared byte by byte -/
theorem code_word {y : MethodName} {bytes : ByteArray} {mx : Nat} {rt : Option FieldType} {a : Array Value} {s : State} {m : MethodId} {meth : Method} {c : Code} (h1 : s.methodNamed? y = some m) (h2 : s.vm.method? m = some meth) (h3 : meth.code = some c) (h4 : c.code = bytes)
    (h5 : (c.maxLocals == mx && c.exceptionTable.isEmpty && decide (c.maxStack ≤ mostOperands) && decide (meth.sig.returnType = rt) && !meth.locks && decide (parseMethodDescriptor y.desc = some meth.sig)) = true) : (Jvm.Cond.code y bytes mx rt).before a s = true := by
  simp only [Bool.and_eq_true, beq_iff_eq, Bool.not_eq_true', decide_eq_true_eq] at h5
  obtain ⟨⟨⟨⟨⟨g1, g2⟩, g3⟩, g4⟩, g5⟩, g6⟩ := h5
  simp [Cond.before, Cond.holds, Cond.value, h1, h2, h3, h4, g1, g2, g3, g4, g5, g6]
def isCode : Jvm.Cond → Bool
  | .code _ _ _ _ => true
  | _ => false
theorem all_split {L : List Jvm.Cond} {P : Jvm.Cond → Bool} (h1 : L.all (fun c => isCode c || P c) = true) (h2 : ∀ c ∈ L.filter isCode, P c = true) : L.all P = true := by
  refine List.all_eq_true.mpr fun c hc => ?_
  have h := List.all_eq_true.mp h1 c hc
  rcases Bool.eq_false_or_eq_true (isCode c) with hi | hi
  · exact h2 c (List.mem_filter.mpr ⟨hc, hi⟩)
  · simpa [hi] using h
set_option maxRecDepth 65536 in
theorem w_c0 : (Jvm.Cond.code x code maxLocals ret).before args0 about1 = true := code_word (m := ⟨1, 1⟩) (meth := k1m1) (c := k1c1) (by decide +kernel) rfl rfl rfl (by decide +kernel)
set_option maxRecDepth 65536 in
theorem w_c1 : (Jvm.Cond.code ({ cls := "java/util/ArrayList", name := "<init>", desc := "()V" } : Jvm.MethodName) jdk_38_method_2_code (1 : Nat) (Option.none : Option Jvm.ClassFile.FieldType)).before args0 about1 = true := code_word (m := ⟨11, 0⟩) (meth := k11m0) (c := k11c0) (by decide +kernel) rfl rfl rfl (by decide +kernel)
set_option maxRecDepth 65536 in
theorem w_c2 : (Jvm.Cond.code ({ cls := "java/util/AbstractList", name := "<init>", desc := "()V" } : Jvm.MethodName) jdk_39_method_1_code (1 : Nat) (Option.none : Option Jvm.ClassFile.FieldType)).before args0 about1 = true := code_word (m := ⟨7, 0⟩) (meth := k7m0) (c := k7c0) (by decide +kernel) rfl rfl rfl (by decide +kernel)
set_option maxRecDepth 65536 in
theorem w_c3 : (Jvm.Cond.code ({ cls := "java/util/AbstractCollection", name := "<init>", desc := "()V" } : Jvm.MethodName) jdk_22_method_1_code (1 : Nat) (Option.none : Option Jvm.ClassFile.FieldType)).before args0 about1 = true := code_word (m := ⟨4, 0⟩) (meth := k4m0) (c := k4c0) (by decide +kernel) rfl rfl rfl (by decide +kernel)
set_option maxRecDepth 65536 in
theorem w_c4 : (Jvm.Cond.code ({ cls := "java/lang/Object", name := "<init>", desc := "()V" } : Jvm.MethodName) object_method_1_code (1 : Nat) (Option.none : Option Jvm.ClassFile.FieldType)).before args0 about1 = true := code_word (m := ⟨0, 0⟩) (meth := k0m0) (c := k0c0) (by decide +kernel) rfl rfl rfl (by decide +kernel)
set_option maxRecDepth 65536 in
theorem w_c5 : (Jvm.Cond.code ({ cls := "com/example/porthcurno/porthcurno/protocol/FetchRequest", name := "<init>", desc := "(IIIIILjava/util/List;)V" } : Jvm.MethodName) prog_22_method_1_code (7 : Nat) (Option.none : Option Jvm.ClassFile.FieldType)).before args0 about1 = true := code_word (m := ⟨13, 0⟩) (meth := k13m0) (c := k13c0) (by decide +kernel) rfl rfl rfl (by decide +kernel)
set_option maxRecDepth 65536 in
theorem w_c6 : (Jvm.Cond.code ({ cls := "java/lang/Record", name := "<init>", desc := "()V" } : Jvm.MethodName) jdk_30_method_1_code (1 : Nat) (Option.none : Option Jvm.ClassFile.FieldType)).before args0 about1 = true := code_word (m := ⟨12, 0⟩) (meth := k12m0) (c := k12c0) (by decide +kernel) rfl rfl rfl (by decide +kernel)
set_option maxRecDepth 65536 in
theorem w_c7 : (Jvm.Cond.code ({ cls := "com/example/porthcurno/porthcurno/protocol/FetchRequest", name := "namesSession", desc := "()Z" } : Jvm.MethodName) prog_22_method_3_code (1 : Nat) (Option.some Jvm.ClassFile.FieldType.boolean)).before args0 about1 = true := code_word (m := ⟨13, 1⟩) (meth := k13m1) (c := k13c1) (by decide +kernel) rfl rfl rfl (by decide +kernel)
def codes1 : List Jvm.Cond := [Jvm.Cond.code x code maxLocals ret, Jvm.Cond.code ({ cls := "java/util/ArrayList", name := "<init>", desc := "()V" } : Jvm.MethodName) jdk_38_method_2_code (1 : Nat) (Option.none : Option Jvm.ClassFile.FieldType), Jvm.Cond.code ({ cls := "java/util/AbstractList", name := "<init>", desc := "()V" } : Jvm.MethodName) jdk_39_method_1_code (1 : Nat) (Option.none : Option Jvm.ClassFile.FieldType), Jvm.Cond.code ({ cls := "java/util/AbstractCollection", name := "<init>", desc := "()V" } : Jvm.MethodName) jdk_22_method_1_code (1 : Nat) (Option.none : Option Jvm.ClassFile.FieldType), Jvm.Cond.code ({ cls := "java/lang/Object", name := "<init>", desc := "()V" } : Jvm.MethodName) object_method_1_code (1 : Nat) (Option.none : Option Jvm.ClassFile.FieldType), Jvm.Cond.code ({ cls := "com/example/porthcurno/porthcurno/protocol/FetchRequest", name := "<init>", desc := "(IIIIILjava/util/List;)V" } : Jvm.MethodName) prog_22_method_1_code (7 : Nat) (Option.none : Option Jvm.ClassFile.FieldType), Jvm.Cond.code ({ cls := "java/lang/Record", name := "<init>", desc := "()V" } : Jvm.MethodName) jdk_30_method_1_code (1 : Nat) (Option.none : Option Jvm.ClassFile.FieldType), Jvm.Cond.code ({ cls := "com/example/porthcurno/porthcurno/protocol/FetchRequest", name := "namesSession", desc := "()Z" } : Jvm.MethodName) prog_22_method_3_code (1 : Nat) (Option.some Jvm.ClassFile.FieldType.boolean)]
set_option maxRecDepth 65536 in
theorem codes_eq : words1.filter isCode = codes1 := rfl
theorem w_codes : ∀ c ∈ words1.filter isCode, c.before args0 about1 = true := by
  rw [codes_eq]
  intro c hc
  simp only [codes1, List.mem_cons, List.not_mem_nil, or_false] at hc
  rcases hc with rfl | rfl | rfl | rfl | rfl | rfl | rfl | rfl
  · exact w_c0
  · exact w_c1
  · exact w_c2
  · exact w_c3
  · exact w_c4
  · exact w_c5
  · exact w_c6
  · exact w_c7
set_option maxRecDepth 65536 in
theorem w_t1 : (words1.take 24).all (fun c => isCode c || c.before args0 about1) = true := by decide +kernel
set_option maxRecDepth 65536 in
theorem w_t2 : ((words1.drop 24).take 24).all (fun c => isCode c || c.before args0 about1) = true := by decide +kernel
set_option maxRecDepth 65536 in
theorem w_t3 : ((words1.drop 24).drop 24).all (fun c => isCode c || c.before args0 about1) = true := by decide +kernel
theorem w_tables : (allAtoms (Jvm.Cond.code x code maxLocals ret :: tables_1)).before args0 about1 = true := by
  rw [allAtoms_all]
  show words1.all (fun c => c.before args0 about1) = true
  refine all_split ?_ w_codes
  rw [← List.take_append_drop 24 words1, List.all_append, w_t1, ← List.take_append_drop 24 (words1.drop 24), List.all_append, w_t2, w_t3]
  rfl
set_option maxRecDepth 65536 in
theorem w_rest : rest_1_c.before args0 about1 = true := by decide +kernel
set_option maxRecDepth 65536 in
theorem w_case : (Jvm.Cond.and given_1 narrow_1).before args0 about1 = true := by decide +kernel
theorem w_applies : (headSpec (Jvm.Cond.code x code maxLocals ret :: tables_1) room_1).applies x e0.platform about1 = true :=
  (Spec.applies_iff w_frames).mpr ⟨w_running, w_runnable, w_alone, w_named, w_hears, w_ripe, w_room, w_tables⟩
theorem atStart : AtStart classFile x code maxLocals ret World_1 tables_1 room_1 Calls_1 rest_1 Pre_1 launch0 p0 e0 about1 theMethod args0 below0 :=
  ⟨lists_1, trivial, launch0.admits_env _ _ _, launch0.least_env, fairChoices_fair.cas, fairChoices_fair.clock, w_frames, w_args, w_heap, w_applies, trivial, w_rest, w_case⟩
end start1
theorem witness_1 : WitnessClaimed_1 := ⟨start1.p0, start1.e0, start1.about1, start1.theMethod, start1.args0, start1.below0, start1.atStart⟩
end Jvm.Pilot.@@N@@
