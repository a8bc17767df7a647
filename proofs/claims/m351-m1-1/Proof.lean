import JvmDerived
import JvmDerived.Pilot.@@N@@Statement
import JvmDerived.Pilot.@@N@@Code
set_option linter.unusedVariables false
set_option linter.unusedSimpArgs false
namespace Jvm.Pilot.@@N@@
open Jvm Jvm.ClassFile Sem Op Lib Jvm.Free Jvm.Stand Jvm.LawKit Jvm.RoadKit Bundle Jvm.Pilot.@@N@@.Jvm.D

/-! own layer: a run that ends well, step by step (every lemma here is of this text) -/
section Own
variable {p : Program} {l : Launch} {e : Env} {R : Room} {s : State} {m : MethodId} {args : Array Value} {below : List Frame} {meth : Method} {c : Code} {T : State} {locs : List Loc} {cells slots : Nat} {P : State → Outcome → Prop} {pc pc' pc1 : Nat} {L L' : Array Slot} {S : List Value} {Z : State} {a0 : Array Value} {h : Heap}
/-- from this frame the run ends, and P holds of the end -/
def Ends (p : Program) (e : Env) (below : List Frame) (P : State → Outcome → Prop) (T : State) (m : MethodId) (pc : Nat) (L : Array Slot) (S : List Value) : Prop :=
  ∃ t o, Steps p.tables e below (T.setTop (mkF m pc L S)) t ∧ t.status = .running ∧ Ended t below o ∧ P t o
theorem Ends.of {T' : State} {S' : List Value} (k : Ends p e below P T' m pc' L' S') (h : ∀ target, Steps p.tables e below (T'.setTop (mkF m pc' L' S')) target → Steps p.tables e below (T.setTop (mkF m pc L S)) target) : Ends p e below P T m pc L S := by
  obtain ⟨t, o, h1, h2⟩ := k; exact ⟨t, o, h _ h1, h2⟩
theorem eILoadN (X : Stand p l e R s m args below meth c T locs cells slots) (hx : p.tables.exec = Jvm.exec) {k : Fin 4} {v : Int32} (hd : decode c.code pc = .ok (.iload_n k, 1)) (hl : L[k.val]? = some (.val (.int v))) (hp : pc + 1 = pc') (kk : Ends p e below P T m pc' L (.int v :: S)) : Ends p e below P T m pc L S := by
  subst hp; exact kk.of fun t h => XS.iloadN X.here hx rfl hd hl h
theorem eILoad (X : Stand p l e R s m args below meth c T locs cells slots) (hx : p.tables.exec = Jvm.exec) {k : Nat} {v : Int32} (hd : decode c.code pc = .ok (.iload k, 2)) (hl : L[k]? = some (.val (.int v))) (hp : pc + 2 = pc') (kk : Ends p e below P T m pc' L (.int v :: S)) : Ends p e below P T m pc L S := by
  subst hp; exact kk.of fun t h => XS.iload X.here hx rfl hd hl h
theorem eLLoadN (X : Stand p l e R s m args below meth c T locs cells slots) (hx : p.tables.exec = Jvm.exec) {k : Fin 4} {v : Int64} (hd : decode c.code pc = .ok (.lload_n k, 1)) (hl : L[k.val]? = some (.val (.long v))) (hp : pc + 1 = pc') (kk : Ends p e below P T m pc' L (.long v :: S)) : Ends p e below P T m pc L S := by
  subst hp; exact kk.of fun t h => XT.lloadN X.here hx rfl hd hl h
theorem eLLoad (X : Stand p l e R s m args below meth c T locs cells slots) (hx : p.tables.exec = Jvm.exec) {k : Nat} {v : Int64} (hd : decode c.code pc = .ok (.lload k, 2)) (hl : L[k]? = some (.val (.long v))) (hp : pc + 2 = pc') (kk : Ends p e below P T m pc' L (.long v :: S)) : Ends p e below P T m pc L S := by
  subst hp; exact kk.of fun t h => XT.lload X.here hx rfl hd hl h
theorem eALoadN (X : Stand p l e R s m args below meth c T locs cells slots) (hx : p.tables.exec = Jvm.exec) {k : Fin 4} {v : Value} (hd : decode c.code pc = .ok (.aload_n k, 1)) (hl : L[k.val]? = some (.val v)) (hv : v.isRef = true) (hp : pc + 1 = pc') (kk : Ends p e below P T m pc' L (v :: S)) : Ends p e below P T m pc L S := by
  subst hp; exact kk.of fun t h => XS.aloadN X.here hx rfl hd hl hv h
theorem eALoad (X : Stand p l e R s m args below meth c T locs cells slots) (hx : p.tables.exec = Jvm.exec) {k : Nat} {v : Value} (hd : decode c.code pc = .ok (.aload k, 2)) (hl : L[k]? = some (.val v)) (hv : v.isRef = true) (hp : pc + 2 = pc') (kk : Ends p e below P T m pc' L (v :: S)) : Ends p e below P T m pc L S := by
  subst hp; exact kk.of fun t h => XS.aload X.here hx rfl hd hl hv h
theorem eIStoreN (X : Stand p l e R s m args below meth c T locs cells slots) (hx : p.tables.exec = Jvm.exec) {k : Fin 4} {v : Int32} (hd : decode c.code pc = .ok (.istore_n k, 1)) (hl : storeLocals L k.val (.int v) = some L') (hp : pc + 1 = pc') (kk : Ends p e below P T m pc' L' S) : Ends p e below P T m pc L (.int v :: S) := by
  subst hp; exact kk.of fun t h => XS.istoreN X.here hx rfl hd rfl hl h
theorem eIStore (X : Stand p l e R s m args below meth c T locs cells slots) (hx : p.tables.exec = Jvm.exec) {k : Nat} {v : Int32} (hd : decode c.code pc = .ok (.istore k, 2)) (hl : storeLocals L k (.int v) = some L') (hp : pc + 2 = pc') (kk : Ends p e below P T m pc' L' S) : Ends p e below P T m pc L (.int v :: S) := by
  subst hp; exact kk.of fun t h => XS.istore X.here hx rfl hd rfl hl h
theorem eLStoreN (X : Stand p l e R s m args below meth c T locs cells slots) (hx : p.tables.exec = Jvm.exec) {k : Fin 4} {v : Int64} (hd : decode c.code pc = .ok (.lstore_n k, 1)) (hl : storeLocals L k.val (.long v) = some L') (hp : pc + 1 = pc') (kk : Ends p e below P T m pc' L' S) : Ends p e below P T m pc L (.long v :: S) := by
  subst hp; exact kk.of fun t h => XT.lstoreN X.here hx rfl hd rfl hl h
theorem eLStore (X : Stand p l e R s m args below meth c T locs cells slots) (hx : p.tables.exec = Jvm.exec) {k : Nat} {v : Int64} (hd : decode c.code pc = .ok (.lstore k, 2)) (hl : storeLocals L k (.long v) = some L') (hp : pc + 2 = pc') (kk : Ends p e below P T m pc' L' S) : Ends p e below P T m pc L (.long v :: S) := by
  subst hp; exact kk.of fun t h => XT.lstore X.here hx rfl hd rfl hl h
theorem eAStoreN (X : Stand p l e R s m args below meth c T locs cells slots) (hx : p.tables.exec = Jvm.exec) {k : Fin 4} {v : Value} (hd : decode c.code pc = .ok (.astore_n k, 1)) (hv : v.isRef = true) (hl : storeLocals L k.val v = some L') (hp : pc + 1 = pc') (kk : Ends p e below P T m pc' L' S) : Ends p e below P T m pc L (v :: S) := by
  subst hp; exact kk.of fun t h => XS.astoreN X.here hx rfl hd rfl hv hl h
theorem eAStore (X : Stand p l e R s m args below meth c T locs cells slots) (hx : p.tables.exec = Jvm.exec) {k : Nat} {v : Value} (hd : decode c.code pc = .ok (.astore k, 2)) (hv : v.isRef = true) (hl : storeLocals L k v = some L') (hp : pc + 2 = pc') (kk : Ends p e below P T m pc' L' S) : Ends p e below P T m pc L (v :: S) := by
  subst hp; exact kk.of fun t h => XS.astore X.here hx rfl hd rfl hv hl h
theorem eIConst (X : Stand p l e R s m args below meth c T locs cells slots) (hx : p.tables.exec = Jvm.exec) {i : Int} (v : Int32) (hd : decode c.code pc = .ok (.iconst i, 1)) (hv : Int32.ofInt i = v) (hp : pc + 1 = pc') (kk : Ends p e below P T m pc' L (.int v :: S)) : Ends p e below P T m pc L S := by
  subst hp hv; exact kk.of fun t h => XS.iconst X.here hx rfl hd h
theorem eBipush (X : Stand p l e R s m args below meth c T locs cells slots) (hx : p.tables.exec = Jvm.exec) {i : Int} (v : Int32) (hd : decode c.code pc = .ok (.bipush i, 2)) (hv : (Int8.ofInt i).toInt32 = v) (hp : pc + 2 = pc') (kk : Ends p e below P T m pc' L (.int v :: S)) : Ends p e below P T m pc L S := by
  subst hp hv; exact kk.of fun t h => XS.bipush X.here hx rfl hd h
theorem eSipush (X : Stand p l e R s m args below meth c T locs cells slots) (hx : p.tables.exec = Jvm.exec) {i : Int} (v : Int32) (hd : decode c.code pc = .ok (.sipush i, 3)) (hv : (Int16.ofInt i).toInt32 = v) (hp : pc + 3 = pc') (kk : Ends p e below P T m pc' L (.int v :: S)) : Ends p e below P T m pc L S := by
  subst hp hv; exact kk.of fun t h => XS.sipush X.here hx rfl hd h
theorem eLConst (X : Stand p l e R s m args below meth c T locs cells slots) (hx : p.tables.exec = Jvm.exec) {k : Fin 2} (v : Int64) (hd : decode c.code pc = .ok (.lconst k, 1)) (hv : Int64.ofNat k = v) (hp : pc + 1 = pc') (kk : Ends p e below P T m pc' L (.long v :: S)) : Ends p e below P T m pc L S := by
  subst hp; exact kk.of fun t h => XT.lconstV X.here hx rfl v hd hv h
theorem eNull (X : Stand p l e R s m args below meth c T locs cells slots) (hx : p.tables.exec = Jvm.exec) (hd : decode c.code pc = .ok (.aconst_null, 1)) (hp : pc + 1 = pc') (kk : Ends p e below P T m pc' L (.null :: S)) : Ends p e below P T m pc L S := by
  subst hp; exact kk.of fun t h => XS.aconstNull X.here hx rfl hd h
theorem eLdcI (X : Stand p l e R s m args below meth c T locs cells slots) (hx : p.tables.exec = Jvm.exec) (hZ : Z.Warmed39 s.vm) {own : String} {index : Nat} {v : Int32} (hown : s.vm.findClass own = some m.cls) (w : (Cond.constant own index v).before a0 Z = true) (hd : decode c.code pc = .ok (.ldc index, 2)) (hp : pc + 2 = pc') (kk : Ends p e below P T m pc' L (.int v :: S)) : Ends p e below P T m pc L S := by
  subst hp; exact kk.of fun t h => X.ldcI hx hown (mvT hZ w) rfl hd h
theorem eLdcWI (X : Stand p l e R s m args below meth c T locs cells slots) (hx : p.tables.exec = Jvm.exec) (hZ : Z.Warmed39 s.vm) {own : String} {index : Nat} {v : Int32} (hown : s.vm.findClass own = some m.cls) (w : (Cond.constant own index v).before a0 Z = true) (hd : decode c.code pc = .ok (.ldc_w index, 3)) (hp : pc + 3 = pc') (kk : Ends p e below P T m pc' L (.int v :: S)) : Ends p e below P T m pc L S := by
  subst hp; exact kk.of fun t h => X.ldcWI hx hown (mvT hZ w) rfl hd h
theorem eLdc2J (X : Stand p l e R s m args below meth c T locs cells slots) (hx : p.tables.exec = Jvm.exec) (hZ : Z.Warmed39 s.vm) {own : String} {index : Nat} {v : Int64} (hown : s.vm.findClass own = some m.cls) (w : (Cond.constantLong own index v).before a0 Z = true) (hd : decode c.code pc = .ok (.ldc2_w index, 3)) (hp : pc + 3 = pc') (kk : Ends p e below P T m pc' L (.long v :: S)) : Ends p e below P T m pc L S := by
  subst hp; exact kk.of fun t h => X.ldc2J hx hown (mvT hZ w) rfl hd h
theorem eIAdd (X : Stand p l e R s m args below meth c T locs cells slots) (hx : p.tables.exec = Jvm.exec) {x y : Int32} (hd : decode c.code pc = .ok (.iadd, 1)) (hp : pc + 1 = pc') (kk : Ends p e below P T m pc' L (.int (x + y) :: S)) : Ends p e below P T m pc L (.int y :: .int x :: S) := by
  subst hp; exact kk.of fun t h => XS.iadd X.here hx rfl hd rfl h
theorem eISub (X : Stand p l e R s m args below meth c T locs cells slots) (hx : p.tables.exec = Jvm.exec) {x y : Int32} (hd : decode c.code pc = .ok (.isub, 1)) (hp : pc + 1 = pc') (kk : Ends p e below P T m pc' L (.int (x - y) :: S)) : Ends p e below P T m pc L (.int y :: .int x :: S) := by
  subst hp; exact kk.of fun t h => XS.isub X.here hx rfl hd rfl h
theorem eIMul (X : Stand p l e R s m args below meth c T locs cells slots) (hx : p.tables.exec = Jvm.exec) {x y : Int32} (hd : decode c.code pc = .ok (.imul, 1)) (hp : pc + 1 = pc') (kk : Ends p e below P T m pc' L (.int (x * y) :: S)) : Ends p e below P T m pc L (.int y :: .int x :: S) := by
  subst hp; exact kk.of fun t h => XS.imul X.here hx rfl hd rfl h
theorem eIAnd (X : Stand p l e R s m args below meth c T locs cells slots) (hx : p.tables.exec = Jvm.exec) {x y : Int32} (hd : decode c.code pc = .ok (.iand, 1)) (hp : pc + 1 = pc') (kk : Ends p e below P T m pc' L (.int (x &&& y) :: S)) : Ends p e below P T m pc L (.int y :: .int x :: S) := by
  subst hp; exact kk.of fun t h => XS.iand X.here hx rfl hd rfl h
theorem eIDiv (X : Stand p l e R s m args below meth c T locs cells slots) (hx : p.tables.exec = Jvm.exec) {x y : Int32} (hd : decode c.code pc = .ok (.idiv, 1)) (hy : y ≠ 0) (hp : pc + 1 = pc') (kk : Ends p e below P T m pc' L (.int (x / y) :: S)) : Ends p e below P T m pc L (.int y :: .int x :: S) := by
  subst hp; exact kk.of fun t h => XS.idiv X.here hx rfl hd rfl hy h
theorem eIRem (X : Stand p l e R s m args below meth c T locs cells slots) (hx : p.tables.exec = Jvm.exec) {x y : Int32} (hd : decode c.code pc = .ok (.irem, 1)) (hy : y ≠ 0) (hp : pc + 1 = pc') (kk : Ends p e below P T m pc' L (.int (x % y) :: S)) : Ends p e below P T m pc L (.int y :: .int x :: S) := by
  subst hp; exact kk.of fun t h => iremM X hx rfl hd rfl hy h
theorem eIShr (X : Stand p l e R s m args below meth c T locs cells slots) (hx : p.tables.exec = Jvm.exec) {x y : Int32} (hd : decode c.code pc = .ok (.ishr, 1)) (hp : pc + 1 = pc') (kk : Ends p e below P T m pc' L (.int (x >>> (y &&& 31)) :: S)) : Ends p e below P T m pc L (.int y :: .int x :: S) := by
  subst hp; exact kk.of fun t h => XS.ishr X.here hx rfl hd rfl h
theorem eIUshr (X : Stand p l e R s m args below meth c T locs cells slots) (hx : p.tables.exec = Jvm.exec) {x y : Int32} (hd : decode c.code pc = .ok (.iushr, 1)) (hp : pc + 1 = pc') (kk : Ends p e below P T m pc' L (.int ((x.toUInt32 >>> (y &&& 31).toUInt32).toInt32) :: S)) : Ends p e below P T m pc L (.int y :: .int x :: S) := by
  subst hp; exact kk.of fun t h => XS.iushr X.here hx rfl hd rfl h
theorem eI2C (X : Stand p l e R s m args below meth c T locs cells slots) (hx : p.tables.exec = Jvm.exec) {x : Int32} (hd : decode c.code pc = .ok (.i2c, 1)) (hp : pc + 1 = pc') (kk : Ends p e below P T m pc' L (.int (x.toUInt32.toUInt16.toUInt32.toInt32) :: S)) : Ends p e below P T m pc L (.int x :: S) := by
  subst hp; exact kk.of fun t h => XS.i2c X.here hx rfl hd rfl h
theorem eI2B (X : Stand p l e R s m args below meth c T locs cells slots) (hx : p.tables.exec = Jvm.exec) {x : Int32} (hd : decode c.code pc = .ok (.i2b, 1)) (hp : pc + 1 = pc') (kk : Ends p e below P T m pc' L (.int (x.toInt8.toInt32) :: S)) : Ends p e below P T m pc L (.int x :: S) := by
  subst hp; exact kk.of fun t h => XS.i2b X.here hx rfl hd rfl h
theorem eI2L (X : Stand p l e R s m args below meth c T locs cells slots) (hx : p.tables.exec = Jvm.exec) {x : Int32} (hd : decode c.code pc = .ok (.i2l, 1)) (hp : pc + 1 = pc') (kk : Ends p e below P T m pc' L (.long (x.toInt64) :: S)) : Ends p e below P T m pc L (.int x :: S) := by
  subst hp; exact kk.of fun t h => XS.i2l X.here hx rfl hd rfl h
theorem eLAdd (X : Stand p l e R s m args below meth c T locs cells slots) (hx : p.tables.exec = Jvm.exec) {x y : Int64} (hd : decode c.code pc = .ok (.ladd, 1)) (hp : pc + 1 = pc') (kk : Ends p e below P T m pc' L (.long (x + y) :: S)) : Ends p e below P T m pc L (.long y :: .long x :: S) := by
  subst hp; exact kk.of fun t h => XS.ladd X.here hx rfl hd rfl h
theorem eLSub (X : Stand p l e R s m args below meth c T locs cells slots) (hx : p.tables.exec = Jvm.exec) {x y : Int64} (hd : decode c.code pc = .ok (.lsub, 1)) (hp : pc + 1 = pc') (kk : Ends p e below P T m pc' L (.long (x - y) :: S)) : Ends p e below P T m pc L (.long y :: .long x :: S) := by
  subst hp; exact kk.of fun t h => XS.lsub X.here hx rfl hd rfl h
theorem eLAnd (X : Stand p l e R s m args below meth c T locs cells slots) (hx : p.tables.exec = Jvm.exec) {x y : Int64} (hd : decode c.code pc = .ok (.land, 1)) (hp : pc + 1 = pc') (kk : Ends p e below P T m pc' L (.long (x &&& y) :: S)) : Ends p e below P T m pc L (.long y :: .long x :: S) := by
  subst hp; exact kk.of fun t h => XS.land X.here hx rfl hd rfl h
theorem eLOr (X : Stand p l e R s m args below meth c T locs cells slots) (hx : p.tables.exec = Jvm.exec) {x y : Int64} (hd : decode c.code pc = .ok (.lor, 1)) (hp : pc + 1 = pc') (kk : Ends p e below P T m pc' L (.long (x ||| y) :: S)) : Ends p e below P T m pc L (.long y :: .long x :: S) := by
  subst hp; exact kk.of fun t h => XS.lor X.here hx rfl hd rfl h
theorem eLShl (X : Stand p l e R s m args below meth c T locs cells slots) (hx : p.tables.exec = Jvm.exec) {x : Int64} {y : Int32} (hd : decode c.code pc = .ok (.lshl, 1)) (hp : pc + 1 = pc') (kk : Ends p e below P T m pc' L (.long (x <<< (y &&& 0x3f).toInt64) :: S)) : Ends p e below P T m pc L (.int y :: .long x :: S) := by
  subst hp; exact kk.of fun t h => XS.lshl X.here hx rfl hd rfl h
theorem eLShr (X : Stand p l e R s m args below meth c T locs cells slots) (hx : p.tables.exec = Jvm.exec) {x : Int64} {y : Int32} (hd : decode c.code pc = .ok (.lshr, 1)) (hp : pc + 1 = pc') (kk : Ends p e below P T m pc' L (.long (x >>> (y &&& 0x3f).toInt64) :: S)) : Ends p e below P T m pc L (.int y :: .long x :: S) := by
  subst hp; exact kk.of fun t h => XS.lshr X.here hx rfl hd rfl h
theorem eLDiv (X : Stand p l e R s m args below meth c T locs cells slots) (hx : p.tables.exec = Jvm.exec) {x y : Int64} (hd : decode c.code pc = .ok (.ldiv, 1)) (hy : y ≠ 0) (hp : pc + 1 = pc') (kk : Ends p e below P T m pc' L (.long (x / y) :: S)) : Ends p e below P T m pc L (.long y :: .long x :: S) := by
  subst hp; exact kk.of fun t h => XT.ldiv X.here hx rfl hd rfl hy h
theorem eLRem (X : Stand p l e R s m args below meth c T locs cells slots) (hx : p.tables.exec = Jvm.exec) {x y : Int64} (hd : decode c.code pc = .ok (.lrem, 1)) (hy : y ≠ 0) (hp : pc + 1 = pc') (kk : Ends p e below P T m pc' L (.long (x % y) :: S)) : Ends p e below P T m pc L (.long y :: .long x :: S) := by
  subst hp; exact kk.of fun t h => XT.lrem X.here hx rfl hd rfl hy (by first | exact h | (rw [lrem_mod]; exact h))
theorem eLNeg (X : Stand p l e R s m args below meth c T locs cells slots) (hx : p.tables.exec = Jvm.exec) {x : Int64} (hd : decode c.code pc = .ok (.lneg, 1)) (hp : pc + 1 = pc') (kk : Ends p e below P T m pc' L (.long (-x) :: S)) : Ends p e below P T m pc L (.long x :: S) := by
  subst hp; exact kk.of fun t h => XT.lneg X.here hx rfl hd rfl h
theorem eLCmp (X : Stand p l e R s m args below meth c T locs cells slots) (hx : p.tables.exec = Jvm.exec) {x y : Int64} (hd : decode c.code pc = .ok (.lcmp, 1)) (hp : pc + 1 = pc') (kk : Ends p e below P T m pc' L (.int (XT.cmpL x y) :: S)) : Ends p e below P T m pc L (.long y :: .long x :: S) := by
  subst hp; exact kk.of fun t h => XT.lcmp X.here hx rfl hd rfl h
theorem eDup (X : Stand p l e R s m args below meth c T locs cells slots) (hx : p.tables.exec = Jvm.exec) {v : Value} (hd : decode c.code pc = .ok (.dup, 1)) (hc : v.category = 1) (hp : pc + 1 = pc') (kk : Ends p e below P T m pc' L (v :: v :: S)) : Ends p e below P T m pc L (v :: S) := by
  subst hp; exact kk.of fun t h => XS.dup X.here hx rfl hd rfl hc h
theorem ePop (X : Stand p l e R s m args below meth c T locs cells slots) (hx : p.tables.exec = Jvm.exec) {v : Value} (hd : decode c.code pc = .ok (.pop, 1)) (hc : v.category = 1) (hp : pc + 1 = pc') (kk : Ends p e below P T m pc' L S) : Ends p e below P T m pc L (v :: S) := by
  subst hp; exact kk.of fun t h => XT.pop X.here hx rfl hd rfl hc h
theorem eDupX1 (X : Stand p l e R s m args below meth c T locs cells slots) (hx : p.tables.exec = Jvm.exec) {v w : Value} (hd : decode c.code pc = .ok (.dup_x1, 1)) (hc : v.category = 1) (hc' : w.category = 1) (hp : pc + 1 = pc') (kk : Ends p e below P T m pc' L (v :: w :: v :: S)) : Ends p e below P T m pc L (v :: w :: S) := by
  subst hp; exact kk.of fun t h => XT.dupX1 X.here hx rfl hd rfl hc hc' h
theorem eDup2 (X : Stand p l e R s m args below meth c T locs cells slots) (hx : p.tables.exec = Jvm.exec) {v w : Value} (hd : decode c.code pc = .ok (.dup2, 1)) (hc : v.category = 1) (hc' : w.category = 1) (hp : pc + 1 = pc') (kk : Ends p e below P T m pc' L (v :: w :: v :: w :: S)) : Ends p e below P T m pc L (v :: w :: S) := by
  subst hp; exact kk.of fun t h => XT.dup2 X.here hx rfl hd rfl hc hc' h
theorem eDupX2 (X : Stand p l e R s m args below meth c T locs cells slots) (hx : p.tables.exec = Jvm.exec) {v w u : Value} (hd : decode c.code pc = .ok (.dup_x2, 1)) (hc : v.category = 1) (hc' : w.category = 1) (hc2 : u.category = 1) (hp : pc + 1 = pc') (kk : Ends p e below P T m pc' L (v :: w :: u :: v :: S)) : Ends p e below P T m pc L (v :: w :: u :: S) := by
  subst hp
  refine kk.of fun t h => ?_
  jvm_step X.here [X.here.top, hx, hd, hc, hc', hc2]
  exact h
theorem eIInc (X : Stand p l e R s m args below meth c T locs cells slots) (hx : p.tables.exec = Jvm.exec) {k : Nat} {cst : Int} {x : Int32} (v : Int32) (hd : decode c.code pc = .ok (.iinc k cst, 3)) (hv : Int32.ofInt cst = v) (hl : L[k]? = some (.val (.int x))) (hl' : storeLocals L k (.int (x + v)) = some L') (hp : pc + 3 = pc') (kk : Ends p e below P T m pc' L' S) : Ends p e below P T m pc L S := by
  subst hp hv; exact kk.of fun t h => XS.iinc X.here hx rfl hd hl hl' h
theorem eGoto (X : Stand p l e R s m args below meth c T locs cells slots) (hx : p.tables.exec = Jvm.exec) {o : Int} (hd : decode c.code pc = .ok (.goto o, 3)) (ho : 0 ≤ (pc : Int) + o) (hp : ((pc : Int) + o).toNat = pc') (kk : Ends p e below P T m pc' L S) : Ends p e below P T m pc L S :=
  kk.of fun t h => XS.goto X.here hx rfl rfl hd ho hp h
theorem eIfY (X : Stand p l e R s m args below meth c T locs cells slots) (hx : p.tables.exec = Jvm.exec) {cd : ClassFile.Cond} {x : Int32} {o : Int} (hd : decode c.code pc = .ok (.ifCond cd o, 3)) (hc : ifCond.holds cd x = true) (ho : 0 ≤ (pc : Int) + o) (hp : ((pc : Int) + o).toNat = pc') (kk : Ends p e below P T m pc' L S) : Ends p e below P T m pc L (.int x :: S) :=
  kk.of fun t h => XS.ifYes X.here hx rfl rfl hd rfl hc ho hp h
theorem eIfN (X : Stand p l e R s m args below meth c T locs cells slots) (hx : p.tables.exec = Jvm.exec) {cd : ClassFile.Cond} {x : Int32} {o : Int} (hd : decode c.code pc = .ok (.ifCond cd o, 3)) (hc : ifCond.holds cd x = false) (hp : pc + 3 = pc') (kk : Ends p e below P T m pc' L S) : Ends p e below P T m pc L (.int x :: S) := by
  subst hp; exact kk.of fun t h => XS.ifNo X.here hx rfl hd rfl hc h
theorem eIcmpY (X : Stand p l e R s m args below meth c T locs cells slots) (hx : p.tables.exec = Jvm.exec) {cd : ClassFile.Cond} {x y : Int32} {o : Int} (hd : decode c.code pc = .ok (.if_icmp cd o, 3)) (hc : if_icmp.holds cd x y = true) (ho : 0 ≤ (pc : Int) + o) (hp : ((pc : Int) + o).toNat = pc') (kk : Ends p e below P T m pc' L S) : Ends p e below P T m pc L (.int y :: .int x :: S) :=
  kk.of fun t h => XS.icmpYes X.here hx rfl rfl hd rfl hc ho hp h
theorem eIcmpN (X : Stand p l e R s m args below meth c T locs cells slots) (hx : p.tables.exec = Jvm.exec) {cd : ClassFile.Cond} {x y : Int32} {o : Int} (hd : decode c.code pc = .ok (.if_icmp cd o, 3)) (hc : if_icmp.holds cd x y = false) (hp : pc + 3 = pc') (kk : Ends p e below P T m pc' L S) : Ends p e below P T m pc L (.int y :: .int x :: S) := by
  subst hp; exact kk.of fun t h => XS.icmpNo X.here hx rfl hd rfl hc h
/-! steps that read or write the heap -/
theorem eGetF (X : Stand p l e R s m args below meth c T locs cells slots) (hx : p.tables.exec = Jvm.exec) (hZ : Z.Warmed39 s.vm) {own R0 O n d : String} {index : Nat} (hown : s.vm.findClass own = some m.cls) (w : (Cond.fieldLink own index R0 n d).before a0 Z = true) (via : Via Z R0 O n d) (eT : T.heap = h) {a : Addr} {v : Value} (F : Fld Z h a O n d v) (hd : decode c.code pc = .ok (.getfield index, 3)) (hp : pc + 3 = pc')
    (kk : ∀ T', Stand p l e R s m args below meth c T' locs cells slots → T'.heap = h → Ends p e below P T' m pc' L (v :: S)) : Ends p e below P T m pc L (.ref a :: S) := by
  subst hp
  obtain ⟨T', X', e', st⟩ := getF X hx hZ hown (host := "") (Or.inl w) via eT F (g := mkF m pc L (.ref a :: S)) rfl rfl hd
  exact (kk T' X' e').of st
theorem ePutF (X : Stand p l e R s m args below meth c T locs cells slots) (hx : p.tables.exec = Jvm.exec) (hZ : Z.Warmed39 s.vm) {own R0 O n d C : String} {index kk0 : Nat} {ty : FieldType} (hown : s.vm.findClass own = some m.cls) (w : (Cond.fieldLink own index R0 n d).before a0 Z = true) (via : Via Z R0 O n d) (eT : T.heap = h) {a : Addr} {v old : Value} (F : Fld Z h a O n d old) (E : Exa Z h a C) (La : (Cond.lays C O n d).before a0 Z = true ∨ ((Cond.laysFinal C O n d).before a0 Z = true ∧ own = O ∧ meth.name = "<init>")) (wi : (Cond.instantiable C kk0).before a0 Z = true) (hty : parseFieldDescriptor d = some ty) (hn : narrow ty v = v) (hf : fits ty v = true) (hd : decode c.code pc = .ok (.putfield index, 3)) (hp : pc + 3 = pc')
    (kk : ∀ T' h', Stand p l e R s m args below meth c T' (locs ++ [⟨a, Jvm.RoadKit.slotOf Z O n d⟩]) cells slots → T'.heap = h' → Wr h h' a (Jvm.RoadKit.slotOf Z O n d) v → Ends p e below P T' m pc' L S) : Ends p e below P T m pc L (v :: .ref a :: S) := by
  subst hp
  obtain ⟨T', h', X', e', W, st⟩ := putF X hx hZ hown (host := "") (Or.inl w) via eT F E La wi hty hn hf (g := mkF m pc L (v :: .ref a :: S)) rfl rfl hd
  exact (kk T' h' X' e' W).of st
theorem eNewO (X : Stand p l e R s m args below meth c T locs cells slots) (hx : p.tables.exec = Jvm.exec) (hZ : Z.Warmed39 s.vm) {own C : String} {index n : Nat} (hown : s.vm.findClass own = some m.cls) (w : (Cond.classLink own index C).before a0 Z = true) (wi : (Cond.instantiable C n).before a0 Z = true) (wz : (Cond.initialized C).before a0 Z = true) (eT : T.heap = h) (hd : decode c.code pc = .ok (.new index, 3)) (hc : cells + 1 ≤ R.cells) (hl : slots + n ≤ R.slots) (hp : pc + 3 = pc')
    (kk : ∀ T' h' a, a = h.size → Stand p l e R s m args below meth c T' locs (cells + 1) (slots + n) → T'.heap = h' → Ext h h' → Exa Z h' a C → (∀ {O nm d : String} {ty : FieldType}, Laid Z a0 C O nm d → parseFieldDescriptor d = some ty → Fld Z h' a O nm d (defaultValue ty)) → Ends p e below P T' m pc' L (.ref a :: S)) : Ends p e below P T m pc L S := by
  subst hp
  obtain ⟨T', h', X', e', E, A, D, -, st⟩ := newO X hx hZ hown w wi wz eT (g := mkF m pc L S) rfl hd hc hl
  exact (kk T' h' _ rfl X' e' E A D).of st
theorem eInitO (X : Stand p l e R s m args below meth c T locs cells slots) (hx : p.tables.exec = Jvm.exec) (hZ : Z.Warmed39 s.vm) {own : String} {idx : Nat} (hown : s.vm.findClass own = some m.cls) (w1 : (Cond.methodLink own idx Lib.objectInit).before a0 Z = true) (w2 : (Cond.instanceMethod Lib.objectInit).before a0 Z = true) (w3 : (Cond.code Lib.objectInit object_method_1_code 1 none).before a0 Z = true) (eT : T.heap = h) (hsize : L.size = c.maxLocals) {a : Addr} (hd : decode c.code pc = .ok (.invokespecial idx, 3)) (hf : 1 ≤ R.frames) (W : Nat) (hW : 2 * 0 + (S.map fun v => v.category).sum ≤ W) (hl : W + 12 ≤ R.locals) (hp : pc + 3 = pc')
    (kk : ∀ T', Stand p l e R s m args below meth c T' locs cells slots → T'.heap = h → Ends p e below P T' m pc' L S) : Ends p e below P T m pc L (.ref a :: S) := by
  subst hp
  obtain ⟨T', X', e', st⟩ := initO X hx hZ hown w1 w2 w3 eT (g := mkF m pc L (.ref a :: S)) rfl hsize rfl hd hf hW hl
  exact (kk T' X' e').of st
theorem eGetS (X : Stand p l e R s m args below meth c T locs cells slots) (hx : p.tables.exec = Jvm.exec) (hZ : Z.Warmed39 s.vm) {own O n d : String} {index : Nat} (hown : s.vm.findClass own = some m.cls) (w : (Cond.fieldLink own index O n d).before a0 Z = true) (eT : T.heap = h) {v : Value} (F : Sta Z h O n d v) (hd : decode c.code pc = .ok (.getstatic index, 3)) (hp : pc + 3 = pc')
    (kk : ∀ T', Stand p l e R s m args below meth c T' locs cells slots → T'.heap = h → Ends p e below P T' m pc' L (v :: S)) : Ends p e below P T m pc L S := by
  subst hp
  obtain ⟨T', X', e', st⟩ := getS X hx hZ (host := "") hown w Via.refl eT F (g := mkF m pc L S) rfl hd
  exact (kk T' X' e').of st
theorem Sta.keep1 {h' : Heap} {a : Addr} {C C' n d : String} {v : Value} (F : Sta Z h C n d v) (K : Keep h h' [a]) (E : Exa Z h a C') : Sta Z h' C n d v := by
  obtain ⟨cf, i, k, f, st, cell, h1, h2, h3, h4, h5, h6, h7⟩ := F
  obtain ⟨c2, k2, e1, e2, e3, e4, e5⟩ := E
  refine ⟨cf, i, k, f, st, cell, h1, h2, h3, h4, K.2.1 st cell h5 (fun q => ?_), h6, h7⟩
  cases List.mem_singleton.mp q
  cases h5.symm.trans e1
  rw [h6] at e4; cases e4
/-! an array of ints, booleans, chars, bytes: its list of values -/
def Ar (Z : State) (h : Heap) (a : Addr) (ty : FieldType) (vs : List Int32) : Prop := ∃ cl : Cell, Arr Z h a cl ty ∧ cl.slots = (vs.map Value.int).toArray ∧ vs.length < 2 ^ 31
def InB (vs : List Int32) (j : Int32) : Prop := ¬ j < 0 ∧ j.toNatClampNeg < vs.length
def rd (vs : List Int32) (j : Int32) : Int32 := vs.getD j.toNatClampNeg 0
def wr (vs : List Int32) (j x : Int32) : List Int32 := vs.set j.toNatClampNeg x
variable {h' : Heap} {a b : Addr} {ty : FieldType} {vs : List Int32}
theorem inbL {j : Int32} {n : Nat} (hl : vs.length = n) (h : ¬ j < 0 ∧ j.toNatClampNeg < n) : InB vs j := ⟨h.1, hl ▸ h.2⟩
theorem Ar.lt (F : Ar Z h a ty vs) : a < h.size := by obtain ⟨cl, A, -⟩ := F; exact A.lt
theorem Ar.small (F : Ar Z h a ty vs) : vs.length < 2 ^ 31 := by obtain ⟨cl, A, e1, e2⟩ := F; exact e2
theorem Ar.ext (F : Ar Z h a ty vs) (E : Ext h h') : Ar Z h' a ty vs := by obtain ⟨cl, A, r⟩ := F; exact ⟨cl, A.ext E, r⟩
theorem Ar.other {sl : Nat} {v : Value} (F : Ar Z h b ty vs) (W : Wr h h' a sl v) (q : b ≠ a) : Ar Z h' b ty vs := by obtain ⟨cl, A, r⟩ := F; exact ⟨cl, A.other W q, r⟩
theorem Ar.keep {ws : List Addr} (F : Ar Z h a ty vs) (K : Keep h h' ws) (q : a ∉ ws) : Ar Z h' a ty vs := by obtain ⟨cl, A, r⟩ := F; exact ⟨cl, ⟨K.2.1 a cl A.1 q, A.2⟩, r⟩
theorem Ar.same {j x : Int32} (F : Ar Z h a ty vs) (W : Wr h h' a j.toNatClampNeg (.int x)) : Ar Z h' a ty (wr vs j x) := by
  obtain ⟨cl, A, e1, e2⟩ := F
  refine ⟨_, A.same W, ?_, by simpa [wr] using e2⟩
  show cl.slots.setIfInBounds _ _ = _
  rw [e1, wr, List.map_set]
  simp
theorem Ar.new {k : ClassId} {n : Int32} (A : Arr Z h a (newA k ty n) ty) (hn : ¬ n < 0) (hd : defaultValue ty = .int 0) : Ar Z h a ty (List.replicate n.toNatClampNeg 0) := by
  refine ⟨_, A, ?_, by simpa using (back32 hn).2⟩
  show Array.replicate n.toNatClampNeg (defaultValue ty) = _
  rw [hd, List.map_replicate]
  simp
theorem Ar.inb {cl : Cell} {j : Int32} (e1 : cl.slots = (vs.map Value.int).toArray) (q : InB vs j) : ¬ (j < 0 ∨ cl.slots.size ≤ j.toNatClampNeg) := by
  rw [e1]; simp only [List.size_toArray, List.length_map]
  exact fun z => z.elim q.1 (fun y => by have := q.2; omega)
theorem Ar.get {cl : Cell} {j : Int32} (e1 : cl.slots = (vs.map Value.int).toArray) (q : InB vs j) : cl.slots[j.toNatClampNeg]? = some (.int (rd vs j)) := by
  rw [e1]; have := q.2
  simp [rd, List.getElem?_eq_getElem this, List.getD_eq_getElem?_getD]
theorem eLen (X : Stand p l e R s m args below meth c T locs cells slots) (hx : p.tables.exec = Jvm.exec) (hZ : Z.Warmed39 s.vm) (eT : T.heap = h) (F : Ar Z h a ty vs) (n : Int32) (hn : Int32.ofNat vs.length = n) (hd : decode c.code pc = .ok (.arraylength, 1)) (hp : pc + 1 = pc') (kk : Ends p e below P T m pc' L (.int n :: S)) : Ends p e below P T m pc L (.ref a :: S) := by
  subst hp hn
  obtain ⟨cl, A, e1, e2⟩ := F
  refine kk.of fun t k => X.arraylength hx (by rw [eT]; exact A.1) (State.isArrayOf_alike hZ.alike A.2.1) (g := mkF m pc L (.ref a :: S)) rfl rfl hd _ ?_
  rw [e1]; simp only [List.size_toArray, List.length_map]; exact k
theorem eIALoad (X : Stand p l e R s m args below meth c T locs cells slots) (hx : p.tables.exec = Jvm.exec) (hZ : Z.Warmed39 s.vm) (eT : T.heap = h) (F : Ar Z h a .int vs) {j : Int32} (v : Int32) (hv : rd vs j = v) (q : InB vs j) (hd : decode c.code pc = .ok (.iaload, 1)) (hp : pc + 1 = pc') (kk : Ends p e below P T m pc' L (.int v :: S)) : Ends p e below P T m pc L (.int j :: .ref a :: S) := by
  subst hp hv
  obtain ⟨cl, A, e1, e2⟩ := F
  exact kk.of fun t k => X.iaload hx (by rw [eT]; exact A.1) (State.isArrayOf_alike hZ.alike A.2.1) A.2.2 (Ar.inb e1 q) (Ar.get e1 q) (g := mkF m pc L (.int j :: .ref a :: S)) rfl rfl hd _ k
theorem eCALoad (X : Stand p l e R s m args below meth c T locs cells slots) (hx : p.tables.exec = Jvm.exec) (hZ : Z.Warmed39 s.vm) (eT : T.heap = h) (F : Ar Z h a .char vs) {j : Int32} (v : Int32) (hv : rd vs j = v) (q : InB vs j) (hd : decode c.code pc = .ok (.caload, 1)) (hp : pc + 1 = pc') (kk : Ends p e below P T m pc' L (.int v :: S)) : Ends p e below P T m pc L (.int j :: .ref a :: S) := by
  subst hp hv
  obtain ⟨cl, A, e1, e2⟩ := F
  exact kk.of fun t k => X.caload hx (by rw [eT]; exact A.1) (State.isArrayOf_alike hZ.alike A.2.1) A.2.2 (Ar.inb e1 q) (Ar.get e1 q) (g := mkF m pc L (.int j :: .ref a :: S)) rfl rfl hd _ k
theorem eZALoad (X : Stand p l e R s m args below meth c T locs cells slots) (hx : p.tables.exec = Jvm.exec) (hZ : Z.Warmed39 s.vm) (eT : T.heap = h) (F : Ar Z h a .boolean vs) {j : Int32} (v : Int32) (hv : rd vs j = v) (q : InB vs j) (hd : decode c.code pc = .ok (.baload, 1)) (hp : pc + 1 = pc') (kk : Ends p e below P T m pc' L (.int v :: S)) : Ends p e below P T m pc L (.int j :: .ref a :: S) := by
  subst hp hv
  obtain ⟨cl, A, e1, e2⟩ := F
  exact kk.of fun t k => X.baloadBooleans hx (by rw [eT]; exact A.1) (State.isArrayOf_alike hZ.alike A.2.1) A.2.2 (Ar.inb e1 q) (Ar.get e1 q) (g := mkF m pc L (.int j :: .ref a :: S)) rfl rfl hd _ k
theorem eIAStore (X : Stand p l e R s m args below meth c T locs cells slots) (hx : p.tables.exec = Jvm.exec) (hZ : Z.Warmed39 s.vm) (eT : T.heap = h) (F : Ar Z h a .int vs) {j x : Int32} (q : InB vs j) (hd : decode c.code pc = .ok (.iastore, 1)) (hp : pc + 1 = pc')
    (kk : ∀ T' h', Stand p l e R s m args below meth c T' (locs ++ [⟨a, j.toNatClampNeg⟩]) cells slots → T'.heap = h' → Wr h h' a j.toNatClampNeg (.int x) → Ar Z h' a .int (wr vs j x) → Ends p e below P T' m pc' L S) : Ends p e below P T m pc L (.int x :: .int j :: .ref a :: S) := by
  subst hp
  have F0 := F
  obtain ⟨cl, A, e1, e2⟩ := F
  obtain ⟨T', h', X', e', W, st⟩ := stI X hx hZ eT A (Ar.inb e1 q) (g := mkF m pc L (.int x :: .int j :: .ref a :: S)) rfl rfl hd
  exact (kk T' h' X' e' W (F0.same W)).of st
theorem eCAStore (X : Stand p l e R s m args below meth c T locs cells slots) (hx : p.tables.exec = Jvm.exec) (hZ : Z.Warmed39 s.vm) (eT : T.heap = h) (F : Ar Z h a .char vs) {j x : Int32} (q : InB vs j) (hd : decode c.code pc = .ok (.castore, 1)) (hp : pc + 1 = pc')
    (kk : ∀ T' h', Stand p l e R s m args below meth c T' (locs ++ [⟨a, j.toNatClampNeg⟩]) cells slots → T'.heap = h' → Wr h h' a j.toNatClampNeg (.int (nar .char x)) → Ar Z h' a .char (wr vs j (nar .char x)) → Ends p e below P T' m pc' L S) : Ends p e below P T m pc L (.int x :: .int j :: .ref a :: S) := by
  subst hp
  have F0 := F
  obtain ⟨cl, A, e1, e2⟩ := F
  obtain ⟨T', h', X', e', W, st⟩ := stC X hx hZ eT A (Ar.inb e1 q) (g := mkF m pc L (.int x :: .int j :: .ref a :: S)) rfl rfl hd
  exact (kk T' h' X' e' W (F0.same W)).of st
theorem eZAStore (X : Stand p l e R s m args below meth c T locs cells slots) (hx : p.tables.exec = Jvm.exec) (hZ : Z.Warmed39 s.vm) (eT : T.heap = h) (F : Ar Z h a .boolean vs) {j x : Int32} (q : InB vs j) (hd : decode c.code pc = .ok (.bastore, 1)) (hp : pc + 1 = pc')
    (kk : ∀ T' h', Stand p l e R s m args below meth c T' (locs ++ [⟨a, j.toNatClampNeg⟩]) cells slots → T'.heap = h' → Wr h h' a j.toNatClampNeg (.int (nar .boolean x)) → Ar Z h' a .boolean (wr vs j (nar .boolean x)) → Ends p e below P T' m pc' L S) : Ends p e below P T m pc L (.int x :: .int j :: .ref a :: S) := by
  subst hp
  have F0 := F
  obtain ⟨cl, A, e1, e2⟩ := F
  obtain ⟨T', h', X', e', W, st⟩ := stZ X hx hZ eT A (Ar.inb e1 q) (g := mkF m pc L (.int x :: .int j :: .ref a :: S)) rfl rfl hd
  exact (kk T' h' X' e' W (F0.same W)).of st
theorem eNewA (X : Stand p l e R s m args below meth c T locs cells slots) (hx : p.tables.exec = Jvm.exec) (hZ : Z.Warmed39 s.vm) {aty : ArrayType} (hty : newarray.typeOf aty = ty) (hdf : defaultValue ty = .int 0) (w : (Cond.arrayClass ty).before a0 Z = true) (eT : T.heap = h) (hd : decode c.code pc = .ok (.newarray aty, 2)) {n : Int32} (hn : ¬ n < 0) {cap : Nat} (hcap : n.toNatClampNeg ≤ cap) (hb : cap * 8 ≤ 536870912) (hc : cells + 1 ≤ R.cells) (hl : slots + cap ≤ R.slots) (hp : pc + 2 = pc')
    (kk : ∀ T' h' a, a = h.size → Stand p l e R s m args below meth c T' locs (cells + 1) (slots + cap) → T'.heap = h' → Ext h h' → Ar Z h' a ty (List.replicate n.toNatClampNeg 0) → Ends p e below P T' m pc' L (.ref a :: S)) : Ends p e below P T m pc L (.int n :: S) := by
  subst hp hty
  obtain ⟨T', h', cA, X', e', E, A, st⟩ := newP X hx hZ w eT (g := mkF m pc L (.int n :: S)) rfl hd rfl hn hcap hb hc hl
  exact (kk T' h' _ rfl X' e' E (Ar.new A hn hdf)).of st
theorem eNewE (X : Stand p l e R s m args below meth c T locs cells slots) (hx : p.tables.exec = Jvm.exec) (hZ : Z.Warmed39 s.vm) {aty : ArrayType} (hty : newarray.typeOf aty = ty) (hdf : defaultValue ty = .int 0) (w : (Cond.arrayClass ty).before a0 Z = true) (eT : T.heap = h) (hd : decode c.code pc = .ok (.newarray aty, 2)) {n : Int32} (hn : ¬ n < 0) {cap : Nat} (hcap : n.toNatClampNeg ≤ cap) (hb : cap * 8 ≤ 536870912) (hc : cells + 1 ≤ R.cells) (hl : slots + cap ≤ R.slots) (ad : String) (had : "[" ++ ty.toString = ad) (hp : pc + 2 = pc')
    (kk : ∀ T' h' a, a = h.size → Stand p l e R s m args below meth c T' locs (cells + 1) (slots + cap) → T'.heap = h' → Ext h h' → Ar Z h' a ty (List.replicate n.toNatClampNeg 0) → Exa Z h' a ad → Ends p e below P T' m pc' L (.ref a :: S)) : Ends p e below P T m pc L (.int n :: S) := by
  subst hp hty
  obtain ⟨T', h', cA, X', e', E, A, Ex, st⟩ := newPE X hx hZ w eT (g := mkF m pc L (.int n :: S)) rfl hd rfl hn hcap hb hc hl had
  exact (kk T' h' _ rfl X' e' E (Ar.new A hn hdf) Ex).of st
theorem eCast (X : Stand p l e R s m args below meth c T locs cells slots) (hx : p.tables.exec = Jvm.exec) (hZ : Z.Warmed39 s.vm) {own K : String} {index : Nat} (hown : s.vm.findClass own = some m.cls) (w : (Cond.classLink own index K).before a0 Z = true) (eT : T.heap = h) (F : Ins Z h a K true) (hd : decode c.code pc = .ok (.checkcast index, 3)) (hp : pc + 3 = pc')
    (kk : ∀ T', Stand p l e R s m args below meth c T' locs cells slots → T'.heap = h → Ends p e below P T' m pc' L (.ref a :: S)) : Ends p e below P T m pc L (.ref a :: S) := by
  subst hp
  obtain ⟨T', X', e', st⟩ := castY X hx hZ hown w eT F (g := mkF m pc L (.ref a :: S)) rfl rfl hd
  exact (kk T' X' e').of st
theorem eNonNullY (X : Stand p l e R s m args below meth c T locs cells slots) (hx : p.tables.exec = Jvm.exec) {o : Int} (hd : decode c.code pc = .ok (.ifnonnull o, 3)) (ho : 0 ≤ (pc : Int) + o) (hp : ((pc : Int) + o).toNat = pc') (kk : Ends p e below P T m pc' L S) : Ends p e below P T m pc L (.ref a :: S) :=
  kk.of fun t h => XT.ifnonnullYes X.here hx rfl rfl hd rfl ho hp h
theorem eNonNullN (X : Stand p l e R s m args below meth c T locs cells slots) (hx : p.tables.exec = Jvm.exec) {o : Int} (hd : decode c.code pc = .ok (.ifnonnull o, 3)) (hp : pc + 3 = pc') (kk : Ends p e below P T m pc' L S) : Ends p e below P T m pc L (.null :: S) := by
  subst hp; exact kk.of fun t h => XT.ifnonnullNo X.here hx rfl hd rfl h
theorem eNullY (X : Stand p l e R s m args below meth c T locs cells slots) (hx : p.tables.exec = Jvm.exec) {o : Int} (hd : decode c.code pc = .ok (.ifnull o, 3)) (ho : 0 ≤ (pc : Int) + o) (hp : ((pc : Int) + o).toNat = pc') (kk : Ends p e below P T m pc' L S) : Ends p e below P T m pc L (.null :: S) :=
  kk.of fun t h => XS.ifnullYes X.here hx rfl rfl hd rfl ho hp h
theorem eNullN (X : Stand p l e R s m args below meth c T locs cells slots) (hx : p.tables.exec = Jvm.exec) {o : Int} (hd : decode c.code pc = .ok (.ifnull o, 3)) (hp : pc + 3 = pc') (kk : Ends p e below P T m pc' L S) : Ends p e below P T m pc L (.ref a :: S) := by
  subst hp; exact kk.of fun t h => XS.ifnullNo X.here hx rfl hd rfl h
theorem eTsw (X : Stand p l e R s m args below meth c T locs cells slots) (hx : p.tables.exec = Jvm.exec) {dflt low high : Int} {offs : Array Int} {len : Nat} {o : Int} {i : Int32} (hd : decode c.code pc = .ok (.tableswitch dflt low high offs, len)) (hin : ¬ (i.toInt < low ∨ i.toInt > high)) (hoff : offs[(i.toInt - low).toNat]? = some o) (ho : 0 ≤ (pc : Int) + o) (hp : ((pc : Int) + o).toNat = pc') (kk : Ends p e below P T m pc' L S) : Ends p e below P T m pc L (.int i :: S) :=
  kk.of fun t h => XS.tswIn X.here hx rfl rfl hd rfl hin hoff ho hp h
theorem eLsw (X : Stand p l e R s m args below meth c T locs cells slots) (hx : p.tables.exec = Jvm.exec) {dflt : Int} {a1 o1 a2 o2 : Int} {len : Nat} {o : Int} {i : Int32} (hd : decode c.code pc = .ok (.lookupswitch dflt #[(a1, o1), (a2, o2)], len)) (hso : a1 < a2) (hoff : (if a1 = i.toInt then o1 else if a2 = i.toInt then o2 else dflt) = o) (ho : 0 ≤ (pc : Int) + o) (hp : ((pc : Int) + o).toNat = pc') (kk : Ends p e below P T m pc' L S) : Ends p e below P T m pc L (.int i :: S) := by
  subst hp hoff
  refine kk.of fun t h => ?_
  by_cases h1 : a1 = i.toInt
  · simp only [h1, if_true] at h ho
    jvm_step X.here [X.here.top, hx, hd, hso, h1, ho, lookupswitch.wp_chain, lookupswitch.offset_cons, lookupswitch.offset_nil]
    exact ⟨by rw [← h1]; exact hso, h⟩
  · by_cases h2 : a2 = i.toInt
    · simp only [h1, h2, if_true, if_false] at h ho
      jvm_step X.here [X.here.top, hx, hd, hso, h1, h2, ho, lookupswitch.wp_chain, lookupswitch.offset_cons, lookupswitch.offset_nil]
      exact ⟨by rw [← h2]; exact hso, h⟩
    · simp only [h1, h2, if_false] at h ho
      jvm_step X.here [X.here.top, hx, hd, hso, h1, h2, ho, lookupswitch.wp_chain, lookupswitch.offset_cons, lookupswitch.offset_nil]
      exact h
/-! calls -/
def PostQ (s : State) (C D : Nat) (Q : Option Value → Heap → List Loc → Prop) : State → Outcome → Prop := fun t o => ∃ v L, o = .returned v ∧ Q v t.heap L ∧ FrameEnd s o t L C D
abbrev MetC (l : Launch) (Z : State) (y : MethodName) (ws : List Jvm.Cond) (rm : Room) (as' : Array Value) (h : Heap) (C D : Nat) (Q : Option Value → Heap → List Loc → Prop) : Prop :=
  MetFree l y (head1 ws rm) (fun a U => a = as' ∧ Z.Warmed39 U.vm ∧ U.heap = h) (fun _ _ _ _ _ => True) (fun _ U o U' => PostQ U C D Q U' o)
abbrev MetQ (l : Launch) (Z : State) (y : MethodName) (ws : List Jvm.Cond) (rm : Room) (as' : Array Value) (h : Heap) (Q : Option Value → Heap → List Loc → Prop) : Prop :=
  MetFree l y (head1 ws rm) (fun a U => a = as' ∧ Z.Warmed39 U.vm ∧ U.heap = h) (fun _ _ _ _ _ => True) (fun _ U o U' => PostQ U rm.cells rm.slots Q U' o)
theorem eCallS (X : Stand p l e R s m args below meth c T locs cells slots) (hx : p.tables.exec = Jvm.exec) (hZ : Z.Warmed39 s.vm) {own : String} {index : Nat} {y : MethodName} {bytes : ByteArray} {maxL : Nat} {ret : Option FieldType} (hown : s.vm.findClass own = some m.cls) (w1 : (Cond.methodLink own index y).before a0 Z = true) (w2 : (Cond.static y).before a0 Z = true) (w3 : (Cond.initialized y.cls).before a0 Z = true) (w4 : (Cond.code y bytes maxL ret).before a0 Z = true) (hy : y.cls ≠ "java/lang/invoke/MethodHandle" ∧ y.cls ≠ "java/lang/invoke/VarHandle") (eT : T.heap = h) {rm : Room} {Q : Option Value → Heap → List Loc → Prop} {argsL rest : List Value} (hM : MetQ l Z y [Cond.code y bytes maxL ret] rm argsL.toArray h Q) (hlen : ∀ sig, parseMethodDescriptor y.desc = some sig → argsL.length = sig.parameters.length) (hS : S = argsL.reverse ++ rest) (hsize : L.size = c.maxLocals) (W : Nat) (hW : 2 * 0 + (rest.map fun v => v.category).sum ≤ W) (hf : rm.frames + 1 ≤ R.frames) (hl : W + (maxL + 11) + rm.locals ≤ R.locals) (hc : cells + rm.cells ≤ R.cells) (hs : slots + rm.slots ≤ R.slots) (hd : decode c.code pc = .ok (.invokestatic index, 3)) (hp : pc + 3 = pc')
    (kk : ∀ v T' L', Q v T'.heap L' → Stand p l e R s m args below meth c T' (locs ++ L') (cells + rm.cells) (slots + rm.slots) → Ends p e below P T' m pc' L (v.toList ++ rest)) : Ends p e below P T m pc L S := by
  subst hp hS
  obtain ⟨v, _, ⟨T1, L1, k1, n1⟩, -, X1, ⟨Lc, hQ, l1, y1, z1⟩, st⟩ := Jvm.LawKit.callS X hx (y := y) hown (mvT hZ w1) (mvT hZ w2) (mvT hZ w3) (mvT hZ w4) hy (backOf (W := W) (Q := Q) hM hZ w4 w3 hf hl) (g := mkF m pc L (argsL.reverse ++ rest)) rfl hsize (argsL := argsL) (rest := rest) hlen rfl hW hd (fun _ _ => ⟨rfl, eT, hc, hs⟩)
  dsimp only [Pt.U, Pt.locs, Pt.cells, Pt.slots] at X1 l1 y1 z1 st hQ
  subst l1 y1 z1
  exact (kk v T1 Lc hQ X1).of st
theorem eCallI (X : Stand p l e R s m args below meth c T locs cells slots) (hx : p.tables.exec = Jvm.exec) (hZ : Z.Warmed39 s.vm) {own : String} {index : Nat} {y : MethodName} {bytes : ByteArray} {maxL : Nat} (hy1 : y.name = "<init>") (hown : s.vm.findClass own = some m.cls) (w1 : (Cond.methodLink own index y).before a0 Z = true) (w2 : (Cond.instanceMethod y).before a0 Z = true) (w3 : (Cond.initialized y.cls).before a0 Z = true) (w4 : (Cond.code y bytes maxL none).before a0 Z = true) (hy : y.cls ≠ "java/lang/invoke/MethodHandle" ∧ y.cls ≠ "java/lang/invoke/VarHandle") (eT : T.heap = h) {rm : Room} {Q : Option Value → Heap → List Loc → Prop} {argsL rest : List Value} (hM : MetQ l Z y [Cond.code y bytes maxL none] rm (.ref a :: argsL).toArray h Q) (hlen : ∀ sig, parseMethodDescriptor y.desc = some sig → argsL.length = sig.parameters.length) (hS : S = argsL.reverse ++ .ref a :: rest) (hsize : L.size = c.maxLocals) (W : Nat) (hW : 2 * 0 + (rest.map fun v => v.category).sum ≤ W) (hf : rm.frames + 1 ≤ R.frames) (hl : W + (maxL + 11) + rm.locals ≤ R.locals) (hc : cells + rm.cells ≤ R.cells) (hs : slots + rm.slots ≤ R.slots) (hd : decode c.code pc = .ok (.invokespecial index, 3)) (hp : pc + 3 = pc')
    (kk : ∀ v T' L', Q v T'.heap L' → Stand p l e R s m args below meth c T' (locs ++ L') (cells + rm.cells) (slots + rm.slots) → Ends p e below P T' m pc' L (v.toList ++ rest)) : Ends p e below P T m pc L S := by
  subst hp hS
  obtain ⟨v, _, ⟨T1, L1, k1, n1⟩, -, X1, ⟨Lc, hQ, l1, y1, z1⟩, st⟩ := X.specialBack hx (y := y) hy1 hown (mvT hZ w1) (mvT hZ w2) (mvT hZ w4) hy (backOf (W := W) (Q := Q) hM hZ w4 w3 hf hl) (g := mkF m pc L (argsL.reverse ++ .ref a :: rest)) rfl hsize (Steps.refl _) (a := a) (argsL := argsL) (rest := rest) hlen rfl hW hd (fun _ _ => ⟨rfl, eT, hc, hs⟩)
  dsimp only [Pt.U, Pt.locs, Pt.cells, Pt.slots] at X1 l1 y1 z1 st hQ
  subst l1 y1 z1
  exact (kk v T1 Lc hQ X1).of fun t k => st.trans k
theorem eCallV (X : Stand p l e R s m args below meth c T locs cells slots) (hx : p.tables.exec = Jvm.exec) (hZ : Z.Warmed39 s.vm) {own C : String} {index : Nat} {y : MethodName} {bytes : ByteArray} {maxL : Nat} {ret : Option FieldType} (hown : s.vm.findClass own = some m.cls) (w1 : (Cond.methodLink own index y).before a0 Z = true) (w2 : (Cond.declares y).before a0 Z = true) (w5 : (Cond.selects C y y).before a0 Z = true) (w6 : (Cond.instanceMethod y).before a0 Z = true) (w3 : (Cond.initialized y.cls).before a0 Z = true) (w4 : (Cond.code y bytes maxL ret).before a0 Z = true) (hy : y.cls ≠ "java/lang/invoke/MethodHandle" ∧ y.cls ≠ "java/lang/invoke/VarHandle") (eT : T.heap = h) (E : Exa Z h a C) {rm : Room} {Q : Option Value → Heap → List Loc → Prop} {argsL rest : List Value} (hM : MetQ l Z y [Cond.code y bytes maxL ret] rm (.ref a :: argsL).toArray h Q) (hlen : ∀ sig, parseMethodDescriptor y.desc = some sig → argsL.length = sig.parameters.length) (hS : S = argsL.reverse ++ .ref a :: rest) (hsize : L.size = c.maxLocals) (W : Nat) (hW : 2 * 0 + (rest.map fun v => v.category).sum ≤ W) (hf : rm.frames + 1 ≤ R.frames) (hl : W + (maxL + 11) + rm.locals ≤ R.locals) (hc : cells + rm.cells ≤ R.cells) (hs : slots + rm.slots ≤ R.slots) (hd : decode c.code pc = .ok (.invokevirtual index, 3)) (hp : pc + 3 = pc')
    (kk : ∀ v T' L', Q v T'.heap L' → Stand p l e R s m args below meth c T' (locs ++ L') (cells + rm.cells) (slots + rm.slots) → Ends p e below P T' m pc' L (v.toList ++ rest)) : Ends p e below P T m pc L S := by
  subst hp hS
  obtain ⟨cq, kq, q1, q2, q3⟩ := isOf hZ eT E
  obtain ⟨v, _, ⟨T1, L1, k1, n1⟩, -, X1, ⟨Lc, hQ, l1, y1, z1⟩, st⟩ := X.virtualBack hx (y := y) (z := y) hown (mvT hZ w1) (mvT hZ w2) (notFace_of_selects (args := #[]) (mvT hZ w5)) (mvT hZ w5) (mvT hZ w6) hy (backOf (W := W) (Q := Q) hM hZ w4 w3 hf hl) q1 q3 (g := mkF m pc L (argsL.reverse ++ .ref a :: rest)) rfl hsize (Steps.refl _) (argsL := argsL) (rest := rest) hlen rfl hW hd (fun _ _ => ⟨rfl, eT, hc, hs⟩)
  dsimp only [Pt.U, Pt.locs, Pt.cells, Pt.slots] at X1 l1 y1 z1 st hQ
  subst l1 y1 z1
  exact (kk v T1 Lc hQ X1).of fun t k => st.trans k
/-! returns -/
theorem eEnd (X : Stand p l e R s m args below meth c T locs cells slots) (hlk : meth.locks = false) {C D : Nat} {Q : Option Value → Heap → List Loc → Prop} {v : Option Value} (hv : meth.sig.returnType = none → v = none) (hC : cells ≤ C) (hD : slots ≤ D) (hq : Q v T.heap locs)
    (st : ∀ fs, (∀ (f : JFrame) (acts : List Action), f.method = m → f.locked = none → f.entered = [] → (doReturn e (T.setTop f) acts v).1 = T.setFrames fs) → Steps p.tables e below (T.setTop (mkF m pc L S)) (T.setFrames fs)) : Ends p e below (PostQ s C D Q) T m pc L S := by
  obtain ⟨fs, hr, hrun, hended, hW, hsame⟩ := X.leave (v := v) hv hlk
  exact ⟨_, _, st fs hr, hrun, hended, v, locs, rfl, hq, ⟨_, rfl⟩, hW, hsame.mono hC hD⟩
theorem eRetN (X : Stand p l e R s m args below meth c T locs cells slots) (hx : p.tables.exec = Jvm.exec) {t : FieldType} {z : Int32} (hret : meth.sig.returnType = some t) (ht : t = .boolean ∨ t = .byte ∨ t = .char ∨ t = .short) (hlk : meth.locks = false) (hd : decode c.code pc = .ok (.ireturn, 1)) {C D : Nat} {Q : Option Value → Heap → List Loc → Prop} (hC : cells ≤ C) (hD : slots ≤ D) (hq : Q (some (.int (nar t z))) T.heap locs) : Ends p e below (PostQ s C D Q) T m pc L (.int z :: S) :=
  eEnd X hlk (fun h => by rw [hret] at h; cases h) hC hD hq fun fs hr => retN X hx hret ht hd hr
theorem eRetO (X : Stand p l e R s m args below meth c T locs cells slots) (hx : p.tables.exec = Jvm.exec) {t : FieldType} {w : Value} {i : Instr} (hret : meth.sig.returnType = some t) (hn : narrow t w = w) (hi : (i = .ireturn ∧ (t = .int ∨ t = .boolean ∨ t = .byte ∨ t = .char ∨ t = .short) ∧ ∃ z, w = .int z) ∨ (i = .lreturn ∧ t = .long ∧ ∃ z, w = .long z) ∨ (i = .dreturn ∧ t = .double ∧ ∃ z, w = .double z) ∨ (i = .freturn ∧ t = .float ∧ ∃ z, w = .float z) ∨ (i = .areturn ∧ t.isReference = true ∧ w.isRef = true)) (hlk : meth.locks = false) (hd : decode c.code pc = .ok (i, 1)) {C D : Nat} {Q : Option Value → Heap → List Loc → Prop} (hC : cells ≤ C) (hD : slots ≤ D) (hq : Q (some w) T.heap locs) : Ends p e below (PostQ s C D Q) T m pc L (w :: S) :=
  eEnd X hlk (fun h => by rw [hret] at h; cases h) hC hD hq fun fs hr => retOut X hx hret hn hi hd hr
theorem eRetI (X : Stand p l e R s m args below meth c T locs cells slots) (hx : p.tables.exec = Jvm.exec) {z : Int32} (hret : meth.sig.returnType = some .int) (hlk : meth.locks = false) (hd : decode c.code pc = .ok (.ireturn, 1)) {C D : Nat} {Q : Option Value → Heap → List Loc → Prop} (hC : cells ≤ C) (hD : slots ≤ D) (hq : Q (some (.int z)) T.heap locs) : Ends p e below (PostQ s C D Q) T m pc L (.int z :: S) :=
  eRetO X hx hret rfl (Or.inl ⟨rfl, Or.inl rfl, z, rfl⟩) hlk hd hC hD hq
theorem eRetL (X : Stand p l e R s m args below meth c T locs cells slots) (hx : p.tables.exec = Jvm.exec) {z : Int64} (hret : meth.sig.returnType = some .long) (hlk : meth.locks = false) (hd : decode c.code pc = .ok (.lreturn, 1)) {C D : Nat} {Q : Option Value → Heap → List Loc → Prop} (hC : cells ≤ C) (hD : slots ≤ D) (hq : Q (some (.long z)) T.heap locs) : Ends p e below (PostQ s C D Q) T m pc L (.long z :: S) :=
  eRetO X hx hret rfl (Or.inr (Or.inl ⟨rfl, rfl, z, rfl⟩)) hlk hd hC hD hq
theorem eRetA (X : Stand p l e R s m args below meth c T locs cells slots) (hx : p.tables.exec = Jvm.exec) {t : FieldType} {w : Value} (hret : meth.sig.returnType = some t) (ht : t.isReference = true) (hn : narrow t w = w) (hw : w.isRef = true) (hlk : meth.locks = false) (hd : decode c.code pc = .ok (.areturn, 1)) {C D : Nat} {Q : Option Value → Heap → List Loc → Prop} (hC : cells ≤ C) (hD : slots ≤ D) (hq : Q (some w) T.heap locs) : Ends p e below (PostQ s C D Q) T m pc L (w :: S) :=
  eRetO X hx hret hn (Or.inr (Or.inr (Or.inr (Or.inr ⟨rfl, ht, hw⟩)))) hlk hd hC hD hq
theorem eRetV (X : Stand p l e R s m args below meth c T locs cells slots) (hx : p.tables.exec = Jvm.exec) (hret : meth.sig.returnType = none) (hlk : meth.locks = false) (hd : decode c.code pc = .ok (.return_, 1)) {C D : Nat} {Q : Option Value → Heap → List Loc → Prop} (hC : cells ≤ C) (hD : slots ≤ D) (hq : Q none T.heap locs) : Ends p e below (PostQ s C D Q) T m pc L [] :=
  eEnd X hlk (fun _ => rfl) hC hD hq fun fs hr => X.returnOut hx hret hd hr
abbrev PVI (s : State) (C D n0 : Nat) (h0 : Heap) (r : Int32) : State → Outcome → Prop := PostQ s C D (fun v h L => v = some (.int r) ∧ Fr n0 L ∧ h = h0)
abbrev PVL (s : State) (C D n0 : Nat) (h0 : Heap) (r : Int64) : State → Outcome → Prop := PostQ s C D (fun v h L => v = some (.long r) ∧ Fr n0 L ∧ h = h0)
abbrev PVW (s : State) (C D n0 : Nat) (r : Int32) : State → Outcome → Prop := PostQ s C D (fun v h L => v = some (.int r) ∧ Fr n0 L)
end Own

theorem own_inb {vs : List Int32} {j : Int32} (h0 : 0 ≤ j.toInt) (h1 : j.toInt < vs.length) : InB vs j := by
  refine ⟨?_, ?_⟩
  · rw [Int32.lt_iff_toInt_lt]; simp only [Int32.reduceToInt]; omega
  · simp only [Int32.toNatClampNeg]; omega
theorem own_wl (vs : List Int32) (j x : Int32) : (wr vs j x).length = vs.length := by simp [wr]
theorem own_up {i n : Int32} (c : i < n) : (i + 1).toInt = i.toInt + 1 := by
  have h := c_iadd i 1
  have r := rng32 (i + 1)
  have r1 := rng32 i
  have r2 := rng32 n
  simp only [Int32.lt_iff_toInt_lt, Int32.reduceToInt] at *
  omega
/-- all entries lie in 0 .. b - 1 -/
def Bd4 (b : Int) (vs : List Int32) : Prop := ∀ x ∈ vs, 0 ≤ x.toInt ∧ x.toInt < b
theorem own_rdm {vs : List Int32} {j : Int32} (h : InB vs j) : rd vs j ∈ vs := by
  unfold rd
  rw [List.getD_eq_getElem?_getD, List.getElem?_eq_getElem h.2]
  exact List.getElem_mem h.2
theorem own_bd {b : Int} {vs : List Int32} (B : Bd4 b vs) {j : Int32} (h : InB vs j) : 0 ≤ (rd vs j).toInt ∧ (rd vs j).toInt < b := B _ (own_rdm h)
theorem own_bdw {b : Int} {vs : List Int32} (B : Bd4 b vs) {j x : Int32} (h : 0 ≤ x.toInt ∧ x.toInt < b) : Bd4 b (wr vs j x) := by
  intro y hy
  rcases List.mem_or_eq_of_mem_set hy with h1 | h1
  · exact B y h1
  · rw [h1]; exact h
theorem own_lit {vs : List Int32} {n : Nat} (h : vs.length = n) {j : Int32} (h0 : 0 ≤ j.toInt) (h1 : j.toInt < n) : InB vs j := own_inb h0 (by omega)
theorem own_pn0 : plainName "com/example/workflow_soundness/workflowsoundness/analysis/GraphReachedPinLaw" = true := by first | (simp [plainName, overriddenIn]; done) | decide +kernel
theorem own_d1_0 : decode method_3_code 0 = .ok (.iload_n 0, 1) := by decide +kernel
theorem own_d1_1 : decode method_3_code 1 = .ok (.iload_n 1, 1) := by decide +kernel
theorem own_d1_2 : decode method_3_code 2 = .ok (.if_icmp .ge 5, 3) := by decide +kernel
theorem own_d1_5 : decode method_3_code 5 = .ok (.iconst 0, 1) := by decide +kernel
theorem own_d1_6 : decode method_3_code 6 = .ok (.ireturn, 1) := by decide +kernel
theorem own_d1_7 : decode method_3_code 7 = .ok (.iload_n 0, 1) := by decide +kernel
theorem own_d1_8 : decode method_3_code 8 = .ok (.iload_n 2, 1) := by decide +kernel
theorem own_d1_9 : decode method_3_code 9 = .ok (.if_icmp .ge 5, 3) := by decide +kernel
theorem own_d1_12 : decode method_3_code 12 = .ok (.iconst 1, 1) := by decide +kernel
theorem own_d1_13 : decode method_3_code 13 = .ok (.ireturn, 1) := by decide +kernel
theorem own_d1_14 : decode method_3_code 14 = .ok (.iload_n 0, 1) := by decide +kernel
theorem own_d1_15 : decode method_3_code 15 = .ok (.iload_n 3, 1) := by decide +kernel
theorem own_d1_16 : decode method_3_code 16 = .ok (.if_icmp .ge 5, 3) := by decide +kernel
theorem own_d1_19 : decode method_3_code 19 = .ok (.iconst 2, 1) := by decide +kernel
theorem own_d1_20 : decode method_3_code 20 = .ok (.ireturn, 1) := by decide +kernel
theorem own_d1_21 : decode method_3_code 21 = .ok (.iconst 3, 1) := by decide +kernel
theorem own_d1_22 : decode method_3_code 22 = .ok (.ireturn, 1) := by decide +kernel
def RM1 : Room := { frames := 0, cells := 0, slots := 0, locals := 0 }
def fSrc_0 (p1 : Int32) (p2 : Int32) (p3 : Int32) (p4 : Int32) : Int32 := (if p1 < p2 then (0 : Int32) else (if p1 < p3 then (1 : Int32) else (if p1 < p4 then (2 : Int32) else (3 : Int32))))
theorem own_ef1 (m : MethodId) (p1 : Int32) (p2 : Int32) (p3 : Int32) (p4 : Int32) : entryFrame m #[(.int p1), (.int p2), (.int p3), (.int p4)] 4 = mkF m 0 #[.val (.int p1), .val (.int p2), .val (.int p3), .val (.int p4)] [] := by first | (simp [entryFrame, mkF, argsToLocals, Value.category]; done) | rfl
set_option maxRecDepth 65536 in
set_option maxHeartbeats 40000000 in
theorem rm1 (l : Launch) (Z : State) (a0 : Array Value) (hw : ∀ d ∈ tables_1, d.before a0 Z = true) (ws : List Jvm.Cond) (p1 : Int32) (p2 : Int32) (p3 : Int32) (p4 : Int32) (h0 : Heap) (n0 : Nat) (Z0 : n0 ≤ h0.size) : MetQ l Z (⟨"com/example/workflow_soundness/workflowsoundness/analysis/GraphReachedPinLaw", "src", "(IIII)I"⟩ : MethodName) (Jvm.Cond.code (⟨"com/example/workflow_soundness/workflowsoundness/analysis/GraphReachedPinLaw", "src", "(IIII)I"⟩ : MethodName) method_3_code 4 (some .int) :: ws) RM1 #[(.int p1), (.int p2), (.int p3), (.int p4)] h0 (fun v h L => v = some (.int (fSrc_0 p1 p2 p3 p4)) ∧ Fr n0 L ∧ h = h0) := by
  refine MetFree.of_bodySF (plainFor_of_name own_pn0) hisR ?_
  intro p e s m args below meth c s₁ Bd hml0 hP hK
  obtain ⟨rfl, hZ, hh⟩ := hP
  have hx := Bd.exec
  have hby := Bd.bytes
  have hml : c.maxLocals = 4 := hml0
  have hown : s.vm.findClass "com/example/workflow_soundness/workflowsoundness/analysis/GraphReachedPinLaw" = some m.cls := findClass_of_methodNamed Bd.named
  have hnm := (name_of_methodNamed Bd.named Bd.method).1
  have hlk : meth.locks = false := BodyLoose.notSynchronized Bd
  have X0 : Stand p l e RM1 s m #[(.int p1), (.int p2), (.int p3), (.int p4)] below meth c s₁ [] 0 0 := Stand.of_body Bd
  have e0 : s₁.heap = h0 := by rw [← hh, Bd.state]; rfl
  have N0 := Fr.nil n0
  suffices kk : Ends p e below (PVI s 0 0 n0 h0 (fSrc_0 p1 p2 p3 p4)) s₁ m 0 #[.val (.int p1), .val (.int p2), .val (.int p3), .val (.int p4)] [] by
    obtain ⟨t, o, k1, k2, k3, k4⟩ := kk
    exact ⟨t, o, castTop (own_ef1 m p1 p2 p3 p4) k1, k2, k3, k4⟩
  refine eILoadN X0 hx (hb hby own_d1_0) rfl rfl ?_
  refine eILoadN X0 hx (hb hby own_d1_1) rfl rfl ?_
  show Ends p e below (PVI s 0 0 n0 h0 (if p1 < p2 then (0 : Int32) else (if p1 < p3 then (1 : Int32) else (if p1 < p4 then (2 : Int32) else (3 : Int32))))) s₁ m 2 #[.val (.int p1), .val (.int p2), .val (.int p3), .val (.int p4)] [(.int p2), (.int p1)]
  by_cases c1 : p1 < p2
  · rw [if_pos c1]
    refine eIcmpN X0 hx (hb hby own_d1_2) (tlt c1).2.1 rfl ?_
    refine eIConst X0 hx (0 : Int32) (hb hby own_d1_5) rfl rfl ?_
    exact eRetI X0 hx Bd.returns hlk (hb hby own_d1_6) (by decide) (by decide) ⟨rfl, N0, e0⟩
  · rw [if_neg c1]
    refine eIcmpY X0 hx (hb hby own_d1_2) (flt c1).2.1 (by decide) (pc' := 7) rfl ?_
    refine eILoadN X0 hx (hb hby own_d1_7) rfl rfl ?_
    refine eILoadN X0 hx (hb hby own_d1_8) rfl rfl ?_
    show Ends p e below (PVI s 0 0 n0 h0 (if p1 < p3 then (1 : Int32) else (if p1 < p4 then (2 : Int32) else (3 : Int32)))) s₁ m 9 #[.val (.int p1), .val (.int p2), .val (.int p3), .val (.int p4)] [(.int p3), (.int p1)]
    by_cases c2 : p1 < p3
    · rw [if_pos c2]
      refine eIcmpN X0 hx (hb hby own_d1_9) (tlt c2).2.1 rfl ?_
      refine eIConst X0 hx (1 : Int32) (hb hby own_d1_12) rfl rfl ?_
      exact eRetI X0 hx Bd.returns hlk (hb hby own_d1_13) (by decide) (by decide) ⟨rfl, N0, e0⟩
    · rw [if_neg c2]
      refine eIcmpY X0 hx (hb hby own_d1_9) (flt c2).2.1 (by decide) (pc' := 14) rfl ?_
      refine eILoadN X0 hx (hb hby own_d1_14) rfl rfl ?_
      refine eILoadN X0 hx (hb hby own_d1_15) rfl rfl ?_
      show Ends p e below (PVI s 0 0 n0 h0 (if p1 < p4 then (2 : Int32) else (3 : Int32))) s₁ m 16 #[.val (.int p1), .val (.int p2), .val (.int p3), .val (.int p4)] [(.int p4), (.int p1)]
      by_cases c3 : p1 < p4
      · rw [if_pos c3]
        refine eIcmpN X0 hx (hb hby own_d1_16) (tlt c3).2.1 rfl ?_
        refine eIConst X0 hx (2 : Int32) (hb hby own_d1_19) rfl rfl ?_
        exact eRetI X0 hx Bd.returns hlk (hb hby own_d1_20) (by decide) (by decide) ⟨rfl, N0, e0⟩
      · rw [if_neg c3]
        refine eIcmpY X0 hx (hb hby own_d1_16) (flt c3).2.1 (by decide) (pc' := 21) rfl ?_
        refine eIConst X0 hx (3 : Int32) (hb hby own_d1_21) rfl rfl ?_
        exact eRetI X0 hx Bd.returns hlk (hb hby own_d1_22) (by decide) (by decide) ⟨rfl, N0, e0⟩
theorem own_d2_0 : decode method_4_code 0 = .ok (.iload_n 0, 1) := by decide +kernel
theorem own_d2_1 : decode method_4_code 1 = .ok (.iconst 1, 1) := by decide +kernel
theorem own_d2_2 : decode method_4_code 2 = .ok (.if_icmp .lt 9, 3) := by decide +kernel
theorem own_d2_11 : decode method_4_code 11 = .ok (.iload_n 0, 1) := by decide +kernel
theorem own_d2_12 : decode method_4_code 12 = .ok (.iconst 2, 1) := by decide +kernel
theorem own_d2_13 : decode method_4_code 13 = .ok (.if_icmp .lt 9, 3) := by decide +kernel
theorem own_d2_22 : decode method_4_code 22 = .ok (.iload_n 0, 1) := by decide +kernel
theorem own_d2_23 : decode method_4_code 23 = .ok (.iconst 3, 1) := by decide +kernel
theorem own_d2_24 : decode method_4_code 24 = .ok (.if_icmp .lt 13, 3) := by decide +kernel
theorem own_d2_37 : decode method_4_code 37 = .ok (.iconst 0, 1) := by decide +kernel
theorem own_d2_38 : decode method_4_code 38 = .ok (.ireturn, 1) := by decide +kernel
theorem own_d2_27 : decode method_4_code 27 = .ok (.iload_n 3, 1) := by decide +kernel
theorem own_d2_28 : decode method_4_code 28 = .ok (.iload 4, 2) := by decide +kernel
theorem own_d2_30 : decode method_4_code 30 = .ok (.if_icmp .ne 7, 3) := by decide +kernel
theorem own_d2_33 : decode method_4_code 33 = .ok (.iconst 1, 1) := by decide +kernel
theorem own_d2_34 : decode method_4_code 34 = .ok (.goto 4, 3) := by decide +kernel
theorem own_d2_16 : decode method_4_code 16 = .ok (.iload_n 2, 1) := by decide +kernel
theorem own_d2_17 : decode method_4_code 17 = .ok (.iload 4, 2) := by decide +kernel
theorem own_d2_19 : decode method_4_code 19 = .ok (.if_icmp .eq 14, 3) := by decide +kernel
theorem own_d2_5 : decode method_4_code 5 = .ok (.iload_n 1, 1) := by decide +kernel
theorem own_d2_6 : decode method_4_code 6 = .ok (.iload 4, 2) := by decide +kernel
theorem own_d2_8 : decode method_4_code 8 = .ok (.if_icmp .eq 25, 3) := by decide +kernel
def RM2 : Room := { frames := 0, cells := 0, slots := 0, locals := 0 }
def fIst_22 (p1 : Int32) (p4 : Int32) (p5 : Int32) : Int32 := (if p1 < (3 : Int32) then (0 : Int32) else (if p4 = p5 then (1 : Int32) else (0 : Int32)))
def fIst_11 (p1 : Int32) (p3 : Int32) (p4 : Int32) (p5 : Int32) : Int32 := (if p1 < (2 : Int32) then (fIst_22 p1 p4 p5) else (if p3 = p5 then (1 : Int32) else (fIst_22 p1 p4 p5)))
def fIst_0 (p1 : Int32) (p2 : Int32) (p3 : Int32) (p4 : Int32) (p5 : Int32) : Int32 := (if p1 < (1 : Int32) then (fIst_11 p1 p3 p4 p5) else (if p2 = p5 then (1 : Int32) else (fIst_11 p1 p3 p4 p5)))
theorem own_ef2 (m : MethodId) (p1 : Int32) (p2 : Int32) (p3 : Int32) (p4 : Int32) (p5 : Int32) : entryFrame m #[(.int p1), (.int p2), (.int p3), (.int p4), (.int p5)] 5 = mkF m 0 #[.val (.int p1), .val (.int p2), .val (.int p3), .val (.int p4), .val (.int p5)] [] := by first | (simp [entryFrame, mkF, argsToLocals, Value.category]; done) | rfl
set_option maxRecDepth 65536 in
set_option maxHeartbeats 40000000 in
theorem rm2 (l : Launch) (Z : State) (a0 : Array Value) (hw : ∀ d ∈ tables_1, d.before a0 Z = true) (ws : List Jvm.Cond) (p1 : Int32) (p2 : Int32) (p3 : Int32) (p4 : Int32) (p5 : Int32) (h0 : Heap) (n0 : Nat) (Z0 : n0 ≤ h0.size) : MetQ l Z (⟨"com/example/workflow_soundness/workflowsoundness/analysis/GraphReachedPinLaw", "isStart", "(IIIII)Z"⟩ : MethodName) (Jvm.Cond.code (⟨"com/example/workflow_soundness/workflowsoundness/analysis/GraphReachedPinLaw", "isStart", "(IIIII)Z"⟩ : MethodName) method_4_code 5 (some .boolean) :: ws) RM2 #[(.int p1), (.int p2), (.int p3), (.int p4), (.int p5)] h0 (fun v h L => v = some (.int (fIst_0 p1 p2 p3 p4 p5)) ∧ Fr n0 L ∧ h = h0) := by
  refine MetFree.of_bodySF (plainFor_of_name own_pn0) hisR ?_
  intro p e s m args below meth c s₁ Bd hml0 hP hK
  obtain ⟨rfl, hZ, hh⟩ := hP
  have hx := Bd.exec
  have hby := Bd.bytes
  have hml : c.maxLocals = 5 := hml0
  have hown : s.vm.findClass "com/example/workflow_soundness/workflowsoundness/analysis/GraphReachedPinLaw" = some m.cls := findClass_of_methodNamed Bd.named
  have hnm := (name_of_methodNamed Bd.named Bd.method).1
  have hlk : meth.locks = false := BodyLoose.notSynchronized Bd
  have X0 : Stand p l e RM2 s m #[(.int p1), (.int p2), (.int p3), (.int p4), (.int p5)] below meth c s₁ [] 0 0 := Stand.of_body Bd
  have e0 : s₁.heap = h0 := by rw [← hh, Bd.state]; rfl
  have N0 := Fr.nil n0
  suffices kk : Ends p e below (PVI s 0 0 n0 h0 (fIst_0 p1 p2 p3 p4 p5)) s₁ m 0 #[.val (.int p1), .val (.int p2), .val (.int p3), .val (.int p4), .val (.int p5)] [] by
    obtain ⟨t, o, k1, k2, k3, k4⟩ := kk
    exact ⟨t, o, castTop (own_ef2 m p1 p2 p3 p4 p5) k1, k2, k3, k4⟩
  refine eILoadN X0 hx (hb hby own_d2_0) rfl rfl ?_
  refine eIConst X0 hx (1 : Int32) (hb hby own_d2_1) rfl rfl ?_
  have K11_1 : ∀ (T1 : State) (locs1 : List Loc), Stand p l e RM2 s m #[(.int p1), (.int p2), (.int p3), (.int p4), (.int p5)] below meth c T1 locs1 0 0 → Fr n0 locs1 → T1.heap = h0 → Ends p e below (PVI s 0 0 n0 h0 (fIst_11 p1 p3 p4 p5)) T1 m 11 #[.val (.int p1), .val (.int p2), .val (.int p3), .val (.int p4), .val (.int p5)] [] := by
    intro T1 locs1 X1 N1 e1
    refine eILoadN X1 hx (hb hby own_d2_11) rfl rfl ?_
    refine eIConst X1 hx (2 : Int32) (hb hby own_d2_12) rfl rfl ?_
    have K22_2 : ∀ (T2 : State) (locs2 : List Loc), Stand p l e RM2 s m #[(.int p1), (.int p2), (.int p3), (.int p4), (.int p5)] below meth c T2 locs2 0 0 → Fr n0 locs2 → T2.heap = h0 → Ends p e below (PVI s 0 0 n0 h0 (fIst_22 p1 p4 p5)) T2 m 22 #[.val (.int p1), .val (.int p2), .val (.int p3), .val (.int p4), .val (.int p5)] [] := by
      intro T2 locs2 X2 N2 e2
      refine eILoadN X2 hx (hb hby own_d2_22) rfl rfl ?_
      refine eIConst X2 hx (3 : Int32) (hb hby own_d2_23) rfl rfl ?_
      show Ends p e below (PVI s 0 0 n0 h0 (if p1 < (3 : Int32) then (0 : Int32) else (if p4 = p5 then (1 : Int32) else (0 : Int32)))) T2 m 24 #[.val (.int p1), .val (.int p2), .val (.int p3), .val (.int p4), .val (.int p5)] [(.int (3 : Int32)), (.int p1)]
      by_cases c3 : p1 < (3 : Int32)
      · rw [if_pos c3]
        refine eIcmpY X2 hx (hb hby own_d2_24) (tlt c3).1 (by decide) (pc' := 37) rfl ?_
        refine eIConst X2 hx (0 : Int32) (hb hby own_d2_37) rfl rfl ?_
        exact eRetN X2 hx (t := .boolean) Bd.returns (by simp) hlk (hb hby own_d2_38) (by decide) (by decide) ⟨rfl, N2, e2⟩
      · rw [if_neg c3]
        refine eIcmpN X2 hx (hb hby own_d2_24) (flt c3).1 rfl ?_
        refine eILoadN X2 hx (hb hby own_d2_27) rfl rfl ?_
        refine eILoad X2 hx (hb hby own_d2_28) rfl rfl ?_
        show Ends p e below (PVI s 0 0 n0 h0 (if p4 = p5 then (1 : Int32) else (0 : Int32))) T2 m 30 #[.val (.int p1), .val (.int p2), .val (.int p3), .val (.int p4), .val (.int p5)] [(.int p5), (.int p4)]
        by_cases c4 : p4 = p5
        · rw [if_pos c4]
          refine eIcmpN X2 hx (hb hby own_d2_30) (teq c4).2 rfl ?_
          refine eIConst X2 hx (1 : Int32) (hb hby own_d2_33) rfl rfl ?_
          refine eGoto X2 hx (hb hby own_d2_34) (by decide) (pc' := 38) rfl ?_
          exact eRetN X2 hx (t := .boolean) Bd.returns (by simp) hlk (hb hby own_d2_38) (by decide) (by decide) ⟨rfl, N2, e2⟩
        · rw [if_neg c4]
          refine eIcmpY X2 hx (hb hby own_d2_30) (feq c4).2 (by decide) (pc' := 37) rfl ?_
          refine eIConst X2 hx (0 : Int32) (hb hby own_d2_37) rfl rfl ?_
          exact eRetN X2 hx (t := .boolean) Bd.returns (by simp) hlk (hb hby own_d2_38) (by decide) (by decide) ⟨rfl, N2, e2⟩
    show Ends p e below (PVI s 0 0 n0 h0 (if p1 < (2 : Int32) then (fIst_22 p1 p4 p5) else (if p3 = p5 then (1 : Int32) else (fIst_22 p1 p4 p5)))) T1 m 13 #[.val (.int p1), .val (.int p2), .val (.int p3), .val (.int p4), .val (.int p5)] [(.int (2 : Int32)), (.int p1)]
    by_cases c5 : p1 < (2 : Int32)
    · rw [if_pos c5]
      refine eIcmpY X1 hx (hb hby own_d2_13) (tlt c5).1 (by decide) (pc' := 22) rfl ?_
      exact K22_2 T1 _ X1 N1 e1
    · rw [if_neg c5]
      refine eIcmpN X1 hx (hb hby own_d2_13) (flt c5).1 rfl ?_
      refine eILoadN X1 hx (hb hby own_d2_16) rfl rfl ?_
      refine eILoad X1 hx (hb hby own_d2_17) rfl rfl ?_
      show Ends p e below (PVI s 0 0 n0 h0 (if p3 = p5 then (1 : Int32) else (fIst_22 p1 p4 p5))) T1 m 19 #[.val (.int p1), .val (.int p2), .val (.int p3), .val (.int p4), .val (.int p5)] [(.int p5), (.int p3)]
      by_cases c6 : p3 = p5
      · rw [if_pos c6]
        refine eIcmpY X1 hx (hb hby own_d2_19) (teq c6).1 (by decide) (pc' := 33) rfl ?_
        refine eIConst X1 hx (1 : Int32) (hb hby own_d2_33) rfl rfl ?_
        refine eGoto X1 hx (hb hby own_d2_34) (by decide) (pc' := 38) rfl ?_
        exact eRetN X1 hx (t := .boolean) Bd.returns (by simp) hlk (hb hby own_d2_38) (by decide) (by decide) ⟨rfl, N1, e1⟩
      · rw [if_neg c6]
        refine eIcmpN X1 hx (hb hby own_d2_19) (feq c6).1 rfl ?_
        exact K22_2 T1 _ X1 N1 e1
  show Ends p e below (PVI s 0 0 n0 h0 (if p1 < (1 : Int32) then (fIst_11 p1 p3 p4 p5) else (if p2 = p5 then (1 : Int32) else (fIst_11 p1 p3 p4 p5)))) s₁ m 2 #[.val (.int p1), .val (.int p2), .val (.int p3), .val (.int p4), .val (.int p5)] [(.int (1 : Int32)), (.int p1)]
  by_cases c7 : p1 < (1 : Int32)
  · rw [if_pos c7]
    refine eIcmpY X0 hx (hb hby own_d2_2) (tlt c7).1 (by decide) (pc' := 11) rfl ?_
    exact K11_1 s₁ _ X0 N0 e0
  · rw [if_neg c7]
    refine eIcmpN X0 hx (hb hby own_d2_2) (flt c7).1 rfl ?_
    refine eILoadN X0 hx (hb hby own_d2_5) rfl rfl ?_
    refine eILoad X0 hx (hb hby own_d2_6) rfl rfl ?_
    show Ends p e below (PVI s 0 0 n0 h0 (if p2 = p5 then (1 : Int32) else (fIst_11 p1 p3 p4 p5))) s₁ m 8 #[.val (.int p1), .val (.int p2), .val (.int p3), .val (.int p4), .val (.int p5)] [(.int p5), (.int p2)]
    by_cases c8 : p2 = p5
    · rw [if_pos c8]
      refine eIcmpY X0 hx (hb hby own_d2_8) (teq c8).1 (by decide) (pc' := 33) rfl ?_
      refine eIConst X0 hx (1 : Int32) (hb hby own_d2_33) rfl rfl ?_
      refine eGoto X0 hx (hb hby own_d2_34) (by decide) (pc' := 38) rfl ?_
      exact eRetN X0 hx (t := .boolean) Bd.returns (by simp) hlk (hb hby own_d2_38) (by decide) (by decide) ⟨rfl, N0, e0⟩
    · rw [if_neg c8]
      refine eIcmpN X0 hx (hb hby own_d2_8) (feq c8).1 rfl ?_
      exact K11_1 s₁ _ X0 N0 e0
theorem own_d9_0 : decode method_5_code 0 = .ok (.aload_n 0, 1) := by decide +kernel
theorem own_d9_1 : decode method_5_code 1 = .ok (.iload_n 2, 1) := by decide +kernel
theorem own_d9_2 : decode method_5_code 2 = .ok (.iaload, 1) := by decide +kernel
theorem own_d9_3 : decode method_5_code 3 = .ok (.iload_n 1, 1) := by decide +kernel
theorem own_d9_4 : decode method_5_code 4 = .ok (.if_icmp .ne 7, 3) := by decide +kernel
theorem own_d9_7 : decode method_5_code 7 = .ok (.iconst 1, 1) := by decide +kernel
theorem own_d9_8 : decode method_5_code 8 = .ok (.goto 4, 3) := by decide +kernel
theorem own_d9_12 : decode method_5_code 12 = .ok (.ireturn, 1) := by decide +kernel
theorem own_d9_11 : decode method_5_code 11 = .ok (.iconst 0, 1) := by decide +kernel
def RM9 : Room := { frames := 0, cells := 0, slots := 0, locals := 0 }
def fInto_0 (p2 : Int32) (p3 : Int32) (vt : List Int32) : Int32 := (if (rd vt p3) = p2 then (1 : Int32) else (0 : Int32))
theorem own_ef9 (m : MethodId) (a1 : Addr) (p2 : Int32) (p3 : Int32) : entryFrame m #[(.ref a1), (.int p2), (.int p3)] 3 = mkF m 0 #[.val (.ref a1), .val (.int p2), .val (.int p3)] [] := by first | (simp [entryFrame, mkF, argsToLocals, Value.category]; done) | rfl
set_option maxRecDepth 65536 in
set_option maxHeartbeats 40000000 in
theorem rm9 (l : Launch) (Z : State) (a0 : Array Value) (hw : ∀ d ∈ tables_1, d.before a0 Z = true) (ws : List Jvm.Cond) (a1 : Addr) (p2 : Int32) (p3 : Int32) (vt : List Int32) (h0 : Heap) (n0 : Nat) (Z0 : n0 ≤ h0.size) (A_a1 : Ar Z h0 a1 .int vt) (he : InB vt p3) : MetQ l Z (⟨"com/example/workflow_soundness/workflowsoundness/analysis/GraphReachedPinLaw", "into", "([III)Z"⟩ : MethodName) (Jvm.Cond.code (⟨"com/example/workflow_soundness/workflowsoundness/analysis/GraphReachedPinLaw", "into", "([III)Z"⟩ : MethodName) method_5_code 3 (some .boolean) :: ws) RM9 #[(.ref a1), (.int p2), (.int p3)] h0 (fun v h L => Fr n0 L ∧ h = h0 ∧ v = some (.int (fInto_0 p2 p3 vt))) := by
  refine MetFree.of_bodySF (plainFor_of_name own_pn0) hisR ?_
  intro p e s m args below meth c s₁ Bd hml0 hP hK
  obtain ⟨rfl, hZ, hh⟩ := hP
  have hx := Bd.exec
  have hby := Bd.bytes
  have hml : c.maxLocals = 3 := hml0
  have hown : s.vm.findClass "com/example/workflow_soundness/workflowsoundness/analysis/GraphReachedPinLaw" = some m.cls := findClass_of_methodNamed Bd.named
  have hnm := (name_of_methodNamed Bd.named Bd.method).1
  have hlk : meth.locks = false := BodyLoose.notSynchronized Bd
  have X0 : Stand p l e RM9 s m #[(.ref a1), (.int p2), (.int p3)] below meth c s₁ [] 0 0 := Stand.of_body Bd
  have e0 : s₁.heap = h0 := by rw [← hh, Bd.state]; rfl
  have N0 := Fr.nil n0
  suffices kk : Ends p e below (PostQ s 0 0 (fun v h L => Fr n0 L ∧ h = h0 ∧ v = some (.int (fInto_0 p2 p3 vt)))) s₁ m 0 #[.val (.ref a1), .val (.int p2), .val (.int p3)] [] by
    obtain ⟨t, o, k1, k2, k3, k4⟩ := kk
    exact ⟨t, o, castTop (own_ef9 m a1 p2 p3) k1, k2, k3, k4⟩
  refine eALoadN X0 hx (hb hby own_d9_0) rfl rfl rfl ?_
  refine eILoadN X0 hx (hb hby own_d9_1) rfl rfl ?_
  refine eIALoad X0 hx hZ e0 A_a1 (rd vt p3) rfl he (hb hby own_d9_2) rfl ?_
  refine eILoadN X0 hx (hb hby own_d9_3) rfl rfl ?_
  show Ends p e below (PostQ s 0 0 (fun v h L => Fr n0 L ∧ h = h0 ∧ v = some (.int (if (rd vt p3) = p2 then (1 : Int32) else (0 : Int32))))) s₁ m 4 #[.val (.ref a1), .val (.int p2), .val (.int p3)] [(.int p2), (.int (rd vt p3))]
  by_cases c1 : (rd vt p3) = p2
  · rw [if_pos c1]
    refine eIcmpN X0 hx (hb hby own_d9_4) (teq c1).2 rfl ?_
    refine eIConst X0 hx (1 : Int32) (hb hby own_d9_7) rfl rfl ?_
    refine eGoto X0 hx (hb hby own_d9_8) (by decide) (pc' := 12) rfl ?_
    exact eRetN X0 hx (t := .boolean) Bd.returns (by simp) hlk (hb hby own_d9_12) (by decide) (by decide) (by rw [e0]; exact ⟨N0, rfl, rfl⟩)
  · rw [if_neg c1]
    refine eIcmpY X0 hx (hb hby own_d9_4) (feq c1).2 (by decide) (pc' := 11) rfl ?_
    refine eIConst X0 hx (0 : Int32) (hb hby own_d9_11) rfl rfl ?_
    exact eRetN X0 hx (t := .boolean) Bd.returns (by simp) hlk (hb hby own_d9_12) (by decide) (by decide) (by rw [e0]; exact ⟨N0, rfl, rfl⟩)
theorem own_d8_0 : decode method_6_code 0 = .ok (.aload_n 0, 1) := by decide +kernel
theorem own_d8_1 : decode method_6_code 1 = .ok (.iload_n 1, 1) := by decide +kernel
theorem own_d8_2 : decode method_6_code 2 = .ok (.iconst 0, 1) := by decide +kernel
theorem own_d8_3 : decode method_6_code 3 = .ok (.invokestatic 30, 3) := by decide +kernel
theorem own_pd0 : parseMethodDescriptor "([III)Z" = some ⟨[(.array .int), .int, .int], some .boolean⟩ := by decide +kernel
theorem own_d8_6 : decode method_6_code 6 = .ok (.ifCond .ne 48, 3) := by decide +kernel
theorem own_d8_9 : decode method_6_code 9 = .ok (.aload_n 0, 1) := by decide +kernel
theorem own_d8_10 : decode method_6_code 10 = .ok (.iload_n 1, 1) := by decide +kernel
theorem own_d8_11 : decode method_6_code 11 = .ok (.iconst 1, 1) := by decide +kernel
theorem own_d8_12 : decode method_6_code 12 = .ok (.invokestatic 30, 3) := by decide +kernel
theorem own_d8_15 : decode method_6_code 15 = .ok (.ifCond .ne 39, 3) := by decide +kernel
theorem own_d8_18 : decode method_6_code 18 = .ok (.aload_n 0, 1) := by decide +kernel
theorem own_d8_19 : decode method_6_code 19 = .ok (.iload_n 1, 1) := by decide +kernel
theorem own_d8_20 : decode method_6_code 20 = .ok (.iconst 2, 1) := by decide +kernel
theorem own_d8_21 : decode method_6_code 21 = .ok (.invokestatic 30, 3) := by decide +kernel
theorem own_d8_24 : decode method_6_code 24 = .ok (.ifCond .ne 30, 3) := by decide +kernel
theorem own_d8_27 : decode method_6_code 27 = .ok (.aload_n 0, 1) := by decide +kernel
theorem own_d8_28 : decode method_6_code 28 = .ok (.iload_n 1, 1) := by decide +kernel
theorem own_d8_29 : decode method_6_code 29 = .ok (.iconst 3, 1) := by decide +kernel
theorem own_d8_30 : decode method_6_code 30 = .ok (.invokestatic 30, 3) := by decide +kernel
theorem own_d8_33 : decode method_6_code 33 = .ok (.ifCond .ne 21, 3) := by decide +kernel
theorem own_d8_36 : decode method_6_code 36 = .ok (.aload_n 0, 1) := by decide +kernel
theorem own_d8_37 : decode method_6_code 37 = .ok (.iload_n 1, 1) := by decide +kernel
theorem own_d8_38 : decode method_6_code 38 = .ok (.iconst 4, 1) := by decide +kernel
theorem own_d8_39 : decode method_6_code 39 = .ok (.invokestatic 30, 3) := by decide +kernel
theorem own_d8_42 : decode method_6_code 42 = .ok (.ifCond .ne 12, 3) := by decide +kernel
theorem own_d8_45 : decode method_6_code 45 = .ok (.aload_n 0, 1) := by decide +kernel
theorem own_d8_46 : decode method_6_code 46 = .ok (.iload_n 1, 1) := by decide +kernel
theorem own_d8_47 : decode method_6_code 47 = .ok (.iconst 5, 1) := by decide +kernel
theorem own_d8_48 : decode method_6_code 48 = .ok (.invokestatic 30, 3) := by decide +kernel
theorem own_d8_51 : decode method_6_code 51 = .ok (.ifCond .eq 7, 3) := by decide +kernel
theorem own_d8_58 : decode method_6_code 58 = .ok (.iconst 0, 1) := by decide +kernel
theorem own_d8_59 : decode method_6_code 59 = .ok (.ireturn, 1) := by decide +kernel
theorem own_d8_54 : decode method_6_code 54 = .ok (.iconst 1, 1) := by decide +kernel
theorem own_d8_55 : decode method_6_code 55 = .ok (.goto 4, 3) := by decide +kernel
def RM8 : Room := { frames := 1, cells := 0, slots := 0, locals := 14 }
def fHas_0 (p2 : Int32) (vt : List Int32) : Int32 := (if (fInto_0 p2 (0 : Int32) vt) = (0 : Int32) then (if (fInto_0 p2 (1 : Int32) vt) = (0 : Int32) then (if (fInto_0 p2 (2 : Int32) vt) = (0 : Int32) then (if (fInto_0 p2 (3 : Int32) vt) = (0 : Int32) then (if (fInto_0 p2 (4 : Int32) vt) = (0 : Int32) then (if (fInto_0 p2 (5 : Int32) vt) = (0 : Int32) then (0 : Int32) else (1 : Int32)) else (1 : Int32)) else (1 : Int32)) else (1 : Int32)) else (1 : Int32)) else (1 : Int32))
theorem own_ef8 (m : MethodId) (a1 : Addr) (p2 : Int32) : entryFrame m #[(.ref a1), (.int p2)] 2 = mkF m 0 #[.val (.ref a1), .val (.int p2)] [] := by first | (simp [entryFrame, mkF, argsToLocals, Value.category]; done) | rfl
set_option maxRecDepth 65536 in
set_option maxHeartbeats 40000000 in
theorem rm8 (l : Launch) (Z : State) (a0 : Array Value) (hw : ∀ d ∈ tables_1, d.before a0 Z = true) (ws : List Jvm.Cond) (a1 : Addr) (p2 : Int32) (vt : List Int32) (h0 : Heap) (n0 : Nat) (Z0 : n0 ≤ h0.size) (A_a1 : Ar Z h0 a1 .int vt) (ht : vt.length = 6) : MetQ l Z (⟨"com/example/workflow_soundness/workflowsoundness/analysis/GraphReachedPinLaw", "hasIn", "([II)Z"⟩ : MethodName) (Jvm.Cond.code (⟨"com/example/workflow_soundness/workflowsoundness/analysis/GraphReachedPinLaw", "hasIn", "([II)Z"⟩ : MethodName) method_6_code 2 (some .boolean) :: ws) RM8 #[(.ref a1), (.int p2)] h0 (fun v h L => Fr n0 L ∧ h = h0 ∧ v = some (.int (fHas_0 p2 vt))) := by
  refine MetFree.of_bodySF (plainFor_of_name own_pn0) hisR ?_
  intro p e s m args below meth c s₁ Bd hml0 hP hK
  obtain ⟨rfl, hZ, hh⟩ := hP
  have hx := Bd.exec
  have hby := Bd.bytes
  have hml : c.maxLocals = 2 := hml0
  have hown : s.vm.findClass "com/example/workflow_soundness/workflowsoundness/analysis/GraphReachedPinLaw" = some m.cls := findClass_of_methodNamed Bd.named
  have hnm := (name_of_methodNamed Bd.named Bd.method).1
  have hlk : meth.locks = false := BodyLoose.notSynchronized Bd
  have X0 : Stand p l e RM8 s m #[(.ref a1), (.int p2)] below meth c s₁ [] 0 0 := Stand.of_body Bd
  have e0 : s₁.heap = h0 := by rw [← hh, Bd.state]; rfl
  have N0 := Fr.nil n0
  suffices kk : Ends p e below (PostQ s 0 0 (fun v h L => Fr n0 L ∧ h = h0 ∧ v = some (.int (fHas_0 p2 vt)))) s₁ m 0 #[.val (.ref a1), .val (.int p2)] [] by
    obtain ⟨t, o, k1, k2, k3, k4⟩ := kk
    exact ⟨t, o, castTop (own_ef8 m a1 p2) k1, k2, k3, k4⟩
  refine eALoadN X0 hx (hb hby own_d8_0) rfl rfl rfl ?_
  refine eILoadN X0 hx (hb hby own_d8_1) rfl rfl ?_
  refine eIConst X0 hx (0 : Int32) (hb hby own_d8_2) rfl rfl ?_
  refine eCallS X0 hx hZ (y := (⟨"com/example/workflow_soundness/workflowsoundness/analysis/GraphReachedPinLaw", "into", "([III)Z"⟩ : MethodName)) hown (hw _ (List.mem_of_getElem? (i := 36) rfl)) (hw _ (List.mem_of_getElem? (i := 37) rfl)) (hw _ (List.mem_of_getElem? (i := 3) rfl)) (hw _ (List.mem_of_getElem? (i := 38) rfl)) (by decide) e0 (rm9 l Z a0 hw [] a1 p2 (0 : Int32) vt h0 n0 Z0 A_a1 (own_lit ht (by decide) (by decide))) (argsL := [(.ref a1), (.int p2), (.int (0 : Int32))]) (rest := []) (lenOf own_pd0 rfl) rfl (by rw [hml]; rfl) 0 (by exact Nat.le_refl _) (by decide) (by decide) (by decide) (by decide) (hb hby own_d8_3) rfl (fun v1 T1 L1 q1 (X1 : Stand _ _ _ _ _ _ _ _ _ _ T1 _ 0 0) => ?_)
  obtain ⟨N1', e1, rfl⟩ := q1
  have N1 := Fr.app N0 N1'
  show Ends p e below _ T1 m 6 #[.val (.ref a1), .val (.int p2)] [(.int (fInto_0 p2 (0 : Int32) vt))]
  show Ends p e below (PostQ s 0 0 (fun v h L => Fr n0 L ∧ h = h0 ∧ v = some (.int (if (fInto_0 p2 (0 : Int32) vt) = (0 : Int32) then (if (fInto_0 p2 (1 : Int32) vt) = (0 : Int32) then (if (fInto_0 p2 (2 : Int32) vt) = (0 : Int32) then (if (fInto_0 p2 (3 : Int32) vt) = (0 : Int32) then (if (fInto_0 p2 (4 : Int32) vt) = (0 : Int32) then (if (fInto_0 p2 (5 : Int32) vt) = (0 : Int32) then (0 : Int32) else (1 : Int32)) else (1 : Int32)) else (1 : Int32)) else (1 : Int32)) else (1 : Int32)) else (1 : Int32))))) T1 m 6 #[.val (.ref a1), .val (.int p2)] [(.int (fInto_0 p2 (0 : Int32) vt))]
  by_cases c2 : (fInto_0 p2 (0 : Int32) vt) = (0 : Int32)
  · rw [if_pos c2]
    refine eIfN X1 hx (hb hby own_d8_6) ((if0 _ _).trans (teq c2).2) rfl ?_
    refine eALoadN X1 hx (hb hby own_d8_9) rfl rfl rfl ?_
    refine eILoadN X1 hx (hb hby own_d8_10) rfl rfl ?_
    refine eIConst X1 hx (1 : Int32) (hb hby own_d8_11) rfl rfl ?_
    refine eCallS X1 hx hZ (y := (⟨"com/example/workflow_soundness/workflowsoundness/analysis/GraphReachedPinLaw", "into", "([III)Z"⟩ : MethodName)) hown (hw _ (List.mem_of_getElem? (i := 36) rfl)) (hw _ (List.mem_of_getElem? (i := 37) rfl)) (hw _ (List.mem_of_getElem? (i := 3) rfl)) (hw _ (List.mem_of_getElem? (i := 38) rfl)) (by decide) e1 (rm9 l Z a0 hw [] a1 p2 (1 : Int32) vt h0 n0 Z0 A_a1 (own_lit ht (by decide) (by decide))) (argsL := [(.ref a1), (.int p2), (.int (1 : Int32))]) (rest := []) (lenOf own_pd0 rfl) rfl (by rw [hml]; rfl) 0 (by exact Nat.le_refl _) (by decide) (by decide) (by decide) (by decide) (hb hby own_d8_12) rfl (fun v3 T3 L3 q3 (X3 : Stand _ _ _ _ _ _ _ _ _ _ T3 _ 0 0) => ?_)
    obtain ⟨N3', e3, rfl⟩ := q3
    have N3 := Fr.app N1 N3'
    show Ends p e below _ T3 m 15 #[.val (.ref a1), .val (.int p2)] [(.int (fInto_0 p2 (1 : Int32) vt))]
    show Ends p e below (PostQ s 0 0 (fun v h L => Fr n0 L ∧ h = h0 ∧ v = some (.int (if (fInto_0 p2 (1 : Int32) vt) = (0 : Int32) then (if (fInto_0 p2 (2 : Int32) vt) = (0 : Int32) then (if (fInto_0 p2 (3 : Int32) vt) = (0 : Int32) then (if (fInto_0 p2 (4 : Int32) vt) = (0 : Int32) then (if (fInto_0 p2 (5 : Int32) vt) = (0 : Int32) then (0 : Int32) else (1 : Int32)) else (1 : Int32)) else (1 : Int32)) else (1 : Int32)) else (1 : Int32))))) T3 m 15 #[.val (.ref a1), .val (.int p2)] [(.int (fInto_0 p2 (1 : Int32) vt))]
    by_cases c4 : (fInto_0 p2 (1 : Int32) vt) = (0 : Int32)
    · rw [if_pos c4]
      refine eIfN X3 hx (hb hby own_d8_15) ((if0 _ _).trans (teq c4).2) rfl ?_
      refine eALoadN X3 hx (hb hby own_d8_18) rfl rfl rfl ?_
      refine eILoadN X3 hx (hb hby own_d8_19) rfl rfl ?_
      refine eIConst X3 hx (2 : Int32) (hb hby own_d8_20) rfl rfl ?_
      refine eCallS X3 hx hZ (y := (⟨"com/example/workflow_soundness/workflowsoundness/analysis/GraphReachedPinLaw", "into", "([III)Z"⟩ : MethodName)) hown (hw _ (List.mem_of_getElem? (i := 36) rfl)) (hw _ (List.mem_of_getElem? (i := 37) rfl)) (hw _ (List.mem_of_getElem? (i := 3) rfl)) (hw _ (List.mem_of_getElem? (i := 38) rfl)) (by decide) e3 (rm9 l Z a0 hw [] a1 p2 (2 : Int32) vt h0 n0 Z0 A_a1 (own_lit ht (by decide) (by decide))) (argsL := [(.ref a1), (.int p2), (.int (2 : Int32))]) (rest := []) (lenOf own_pd0 rfl) rfl (by rw [hml]; rfl) 0 (by exact Nat.le_refl _) (by decide) (by decide) (by decide) (by decide) (hb hby own_d8_21) rfl (fun v5 T5 L5 q5 (X5 : Stand _ _ _ _ _ _ _ _ _ _ T5 _ 0 0) => ?_)
      obtain ⟨N5', e5, rfl⟩ := q5
      have N5 := Fr.app N3 N5'
      show Ends p e below _ T5 m 24 #[.val (.ref a1), .val (.int p2)] [(.int (fInto_0 p2 (2 : Int32) vt))]
      show Ends p e below (PostQ s 0 0 (fun v h L => Fr n0 L ∧ h = h0 ∧ v = some (.int (if (fInto_0 p2 (2 : Int32) vt) = (0 : Int32) then (if (fInto_0 p2 (3 : Int32) vt) = (0 : Int32) then (if (fInto_0 p2 (4 : Int32) vt) = (0 : Int32) then (if (fInto_0 p2 (5 : Int32) vt) = (0 : Int32) then (0 : Int32) else (1 : Int32)) else (1 : Int32)) else (1 : Int32)) else (1 : Int32))))) T5 m 24 #[.val (.ref a1), .val (.int p2)] [(.int (fInto_0 p2 (2 : Int32) vt))]
      by_cases c6 : (fInto_0 p2 (2 : Int32) vt) = (0 : Int32)
      · rw [if_pos c6]
        refine eIfN X5 hx (hb hby own_d8_24) ((if0 _ _).trans (teq c6).2) rfl ?_
        refine eALoadN X5 hx (hb hby own_d8_27) rfl rfl rfl ?_
        refine eILoadN X5 hx (hb hby own_d8_28) rfl rfl ?_
        refine eIConst X5 hx (3 : Int32) (hb hby own_d8_29) rfl rfl ?_
        refine eCallS X5 hx hZ (y := (⟨"com/example/workflow_soundness/workflowsoundness/analysis/GraphReachedPinLaw", "into", "([III)Z"⟩ : MethodName)) hown (hw _ (List.mem_of_getElem? (i := 36) rfl)) (hw _ (List.mem_of_getElem? (i := 37) rfl)) (hw _ (List.mem_of_getElem? (i := 3) rfl)) (hw _ (List.mem_of_getElem? (i := 38) rfl)) (by decide) e5 (rm9 l Z a0 hw [] a1 p2 (3 : Int32) vt h0 n0 Z0 A_a1 (own_lit ht (by decide) (by decide))) (argsL := [(.ref a1), (.int p2), (.int (3 : Int32))]) (rest := []) (lenOf own_pd0 rfl) rfl (by rw [hml]; rfl) 0 (by exact Nat.le_refl _) (by decide) (by decide) (by decide) (by decide) (hb hby own_d8_30) rfl (fun v7 T7 L7 q7 (X7 : Stand _ _ _ _ _ _ _ _ _ _ T7 _ 0 0) => ?_)
        obtain ⟨N7', e7, rfl⟩ := q7
        have N7 := Fr.app N5 N7'
        show Ends p e below _ T7 m 33 #[.val (.ref a1), .val (.int p2)] [(.int (fInto_0 p2 (3 : Int32) vt))]
        show Ends p e below (PostQ s 0 0 (fun v h L => Fr n0 L ∧ h = h0 ∧ v = some (.int (if (fInto_0 p2 (3 : Int32) vt) = (0 : Int32) then (if (fInto_0 p2 (4 : Int32) vt) = (0 : Int32) then (if (fInto_0 p2 (5 : Int32) vt) = (0 : Int32) then (0 : Int32) else (1 : Int32)) else (1 : Int32)) else (1 : Int32))))) T7 m 33 #[.val (.ref a1), .val (.int p2)] [(.int (fInto_0 p2 (3 : Int32) vt))]
        by_cases c8 : (fInto_0 p2 (3 : Int32) vt) = (0 : Int32)
        · rw [if_pos c8]
          refine eIfN X7 hx (hb hby own_d8_33) ((if0 _ _).trans (teq c8).2) rfl ?_
          refine eALoadN X7 hx (hb hby own_d8_36) rfl rfl rfl ?_
          refine eILoadN X7 hx (hb hby own_d8_37) rfl rfl ?_
          refine eIConst X7 hx (4 : Int32) (hb hby own_d8_38) rfl rfl ?_
          refine eCallS X7 hx hZ (y := (⟨"com/example/workflow_soundness/workflowsoundness/analysis/GraphReachedPinLaw", "into", "([III)Z"⟩ : MethodName)) hown (hw _ (List.mem_of_getElem? (i := 36) rfl)) (hw _ (List.mem_of_getElem? (i := 37) rfl)) (hw _ (List.mem_of_getElem? (i := 3) rfl)) (hw _ (List.mem_of_getElem? (i := 38) rfl)) (by decide) e7 (rm9 l Z a0 hw [] a1 p2 (4 : Int32) vt h0 n0 Z0 A_a1 (own_lit ht (by decide) (by decide))) (argsL := [(.ref a1), (.int p2), (.int (4 : Int32))]) (rest := []) (lenOf own_pd0 rfl) rfl (by rw [hml]; rfl) 0 (by exact Nat.le_refl _) (by decide) (by decide) (by decide) (by decide) (hb hby own_d8_39) rfl (fun v9 T9 L9 q9 (X9 : Stand _ _ _ _ _ _ _ _ _ _ T9 _ 0 0) => ?_)
          obtain ⟨N9', e9, rfl⟩ := q9
          have N9 := Fr.app N7 N9'
          show Ends p e below _ T9 m 42 #[.val (.ref a1), .val (.int p2)] [(.int (fInto_0 p2 (4 : Int32) vt))]
          show Ends p e below (PostQ s 0 0 (fun v h L => Fr n0 L ∧ h = h0 ∧ v = some (.int (if (fInto_0 p2 (4 : Int32) vt) = (0 : Int32) then (if (fInto_0 p2 (5 : Int32) vt) = (0 : Int32) then (0 : Int32) else (1 : Int32)) else (1 : Int32))))) T9 m 42 #[.val (.ref a1), .val (.int p2)] [(.int (fInto_0 p2 (4 : Int32) vt))]
          by_cases c10 : (fInto_0 p2 (4 : Int32) vt) = (0 : Int32)
          · rw [if_pos c10]
            refine eIfN X9 hx (hb hby own_d8_42) ((if0 _ _).trans (teq c10).2) rfl ?_
            refine eALoadN X9 hx (hb hby own_d8_45) rfl rfl rfl ?_
            refine eILoadN X9 hx (hb hby own_d8_46) rfl rfl ?_
            refine eIConst X9 hx (5 : Int32) (hb hby own_d8_47) rfl rfl ?_
            refine eCallS X9 hx hZ (y := (⟨"com/example/workflow_soundness/workflowsoundness/analysis/GraphReachedPinLaw", "into", "([III)Z"⟩ : MethodName)) hown (hw _ (List.mem_of_getElem? (i := 36) rfl)) (hw _ (List.mem_of_getElem? (i := 37) rfl)) (hw _ (List.mem_of_getElem? (i := 3) rfl)) (hw _ (List.mem_of_getElem? (i := 38) rfl)) (by decide) e9 (rm9 l Z a0 hw [] a1 p2 (5 : Int32) vt h0 n0 Z0 A_a1 (own_lit ht (by decide) (by decide))) (argsL := [(.ref a1), (.int p2), (.int (5 : Int32))]) (rest := []) (lenOf own_pd0 rfl) rfl (by rw [hml]; rfl) 0 (by exact Nat.le_refl _) (by decide) (by decide) (by decide) (by decide) (hb hby own_d8_48) rfl (fun v11 T11 L11 q11 (X11 : Stand _ _ _ _ _ _ _ _ _ _ T11 _ 0 0) => ?_)
            obtain ⟨N11', e11, rfl⟩ := q11
            have N11 := Fr.app N9 N11'
            show Ends p e below _ T11 m 51 #[.val (.ref a1), .val (.int p2)] [(.int (fInto_0 p2 (5 : Int32) vt))]
            show Ends p e below (PostQ s 0 0 (fun v h L => Fr n0 L ∧ h = h0 ∧ v = some (.int (if (fInto_0 p2 (5 : Int32) vt) = (0 : Int32) then (0 : Int32) else (1 : Int32))))) T11 m 51 #[.val (.ref a1), .val (.int p2)] [(.int (fInto_0 p2 (5 : Int32) vt))]
            by_cases c12 : (fInto_0 p2 (5 : Int32) vt) = (0 : Int32)
            · rw [if_pos c12]
              refine eIfY X11 hx (hb hby own_d8_51) ((if0 _ _).trans (teq c12).1) (by decide) (pc' := 58) rfl ?_
              refine eIConst X11 hx (0 : Int32) (hb hby own_d8_58) rfl rfl ?_
              exact eRetN X11 hx (t := .boolean) Bd.returns (by simp) hlk (hb hby own_d8_59) (by decide) (by decide) (by rw [e11]; exact ⟨N11, rfl, rfl⟩)
            · rw [if_neg c12]
              refine eIfN X11 hx (hb hby own_d8_51) ((if0 _ _).trans (feq c12).1) rfl ?_
              refine eIConst X11 hx (1 : Int32) (hb hby own_d8_54) rfl rfl ?_
              refine eGoto X11 hx (hb hby own_d8_55) (by decide) (pc' := 59) rfl ?_
              exact eRetN X11 hx (t := .boolean) Bd.returns (by simp) hlk (hb hby own_d8_59) (by decide) (by decide) (by rw [e11]; exact ⟨N11, rfl, rfl⟩)
          · rw [if_neg c10]
            refine eIfY X9 hx (hb hby own_d8_42) ((if0 _ _).trans (feq c10).2) (by decide) (pc' := 54) rfl ?_
            refine eIConst X9 hx (1 : Int32) (hb hby own_d8_54) rfl rfl ?_
            refine eGoto X9 hx (hb hby own_d8_55) (by decide) (pc' := 59) rfl ?_
            exact eRetN X9 hx (t := .boolean) Bd.returns (by simp) hlk (hb hby own_d8_59) (by decide) (by decide) (by rw [e9]; exact ⟨N9, rfl, rfl⟩)
        · rw [if_neg c8]
          refine eIfY X7 hx (hb hby own_d8_33) ((if0 _ _).trans (feq c8).2) (by decide) (pc' := 54) rfl ?_
          refine eIConst X7 hx (1 : Int32) (hb hby own_d8_54) rfl rfl ?_
          refine eGoto X7 hx (hb hby own_d8_55) (by decide) (pc' := 59) rfl ?_
          exact eRetN X7 hx (t := .boolean) Bd.returns (by simp) hlk (hb hby own_d8_59) (by decide) (by decide) (by rw [e7]; exact ⟨N7, rfl, rfl⟩)
      · rw [if_neg c6]
        refine eIfY X5 hx (hb hby own_d8_24) ((if0 _ _).trans (feq c6).2) (by decide) (pc' := 54) rfl ?_
        refine eIConst X5 hx (1 : Int32) (hb hby own_d8_54) rfl rfl ?_
        refine eGoto X5 hx (hb hby own_d8_55) (by decide) (pc' := 59) rfl ?_
        exact eRetN X5 hx (t := .boolean) Bd.returns (by simp) hlk (hb hby own_d8_59) (by decide) (by decide) (by rw [e5]; exact ⟨N5, rfl, rfl⟩)
    · rw [if_neg c4]
      refine eIfY X3 hx (hb hby own_d8_15) ((if0 _ _).trans (feq c4).2) (by decide) (pc' := 54) rfl ?_
      refine eIConst X3 hx (1 : Int32) (hb hby own_d8_54) rfl rfl ?_
      refine eGoto X3 hx (hb hby own_d8_55) (by decide) (pc' := 59) rfl ?_
      exact eRetN X3 hx (t := .boolean) Bd.returns (by simp) hlk (hb hby own_d8_59) (by decide) (by decide) (by rw [e3]; exact ⟨N3, rfl, rfl⟩)
  · rw [if_neg c2]
    refine eIfY X1 hx (hb hby own_d8_6) ((if0 _ _).trans (feq c2).2) (by decide) (pc' := 54) rfl ?_
    refine eIConst X1 hx (1 : Int32) (hb hby own_d8_54) rfl rfl ?_
    refine eGoto X1 hx (hb hby own_d8_55) (by decide) (pc' := 59) rfl ?_
    exact eRetN X1 hx (t := .boolean) Bd.returns (by simp) hlk (hb hby own_d8_59) (by decide) (by decide) (by rw [e1]; exact ⟨N1, rfl, rfl⟩)
theorem own_d11_0 : decode method_7_code 0 = .ok (.aload_n 1, 1) := by decide +kernel
theorem own_d11_1 : decode method_7_code 1 = .ok (.iload 4, 2) := by decide +kernel
theorem own_d11_3 : decode method_7_code 3 = .ok (.iaload, 1) := by decide +kernel
theorem own_d11_4 : decode method_7_code 4 = .ok (.iload_n 3, 1) := by decide +kernel
theorem own_d11_5 : decode method_7_code 5 = .ok (.if_icmp .ne 16, 3) := by decide +kernel
theorem own_d11_8 : decode method_7_code 8 = .ok (.aload_n 2, 1) := by decide +kernel
theorem own_d11_9 : decode method_7_code 9 = .ok (.aload_n 0, 1) := by decide +kernel
theorem own_d11_10 : decode method_7_code 10 = .ok (.iload 4, 2) := by decide +kernel
theorem own_d11_12 : decode method_7_code 12 = .ok (.iaload, 1) := by decide +kernel
theorem own_d11_13 : decode method_7_code 13 = .ok (.baload, 1) := by decide +kernel
theorem own_d11_14 : decode method_7_code 14 = .ok (.ifCond .eq 7, 3) := by decide +kernel
theorem own_d11_21 : decode method_7_code 21 = .ok (.iconst 0, 1) := by decide +kernel
theorem own_d11_22 : decode method_7_code 22 = .ok (.ireturn, 1) := by decide +kernel
theorem own_d11_17 : decode method_7_code 17 = .ok (.iconst 1, 1) := by decide +kernel
theorem own_d11_18 : decode method_7_code 18 = .ok (.goto 4, 3) := by decide +kernel
def RM11 : Room := { frames := 0, cells := 0, slots := 0, locals := 0 }
def fFrom_0 (p4 : Int32) (p5 : Int32) (vs : List Int32) (vt : List Int32) (vr : List Int32) : Int32 := (if (rd vt p5) = p4 then (if (rd vr (rd vs p5)) = (0 : Int32) then (0 : Int32) else (1 : Int32)) else (0 : Int32))
theorem own_ef11 (m : MethodId) (a1 : Addr) (a2 : Addr) (a3 : Addr) (p4 : Int32) (p5 : Int32) : entryFrame m #[(.ref a1), (.ref a2), (.ref a3), (.int p4), (.int p5)] 5 = mkF m 0 #[.val (.ref a1), .val (.ref a2), .val (.ref a3), .val (.int p4), .val (.int p5)] [] := by first | (simp [entryFrame, mkF, argsToLocals, Value.category]; done) | rfl
set_option maxRecDepth 65536 in
set_option maxHeartbeats 40000000 in
theorem rm11 (l : Launch) (Z : State) (a0 : Array Value) (hw : ∀ d ∈ tables_1, d.before a0 Z = true) (ws : List Jvm.Cond) (a1 : Addr) (a2 : Addr) (a3 : Addr) (p4 : Int32) (p5 : Int32) (vs : List Int32) (vt : List Int32) (vr : List Int32) (h0 : Heap) (n0 : Nat) (Z0 : n0 ≤ h0.size) (A_a1 : Ar Z h0 a1 .int vs) (A_a2 : Ar Z h0 a2 .int vt) (A_a3 : Ar Z h0 a3 .boolean vr) (he1 : InB vs p5) (he2 : InB vt p5) (he3 : InB vr (rd vs p5)) : MetQ l Z (⟨"com/example/workflow_soundness/workflowsoundness/analysis/GraphReachedPinLaw", "inFrom", "([I[I[ZII)Z"⟩ : MethodName) (Jvm.Cond.code (⟨"com/example/workflow_soundness/workflowsoundness/analysis/GraphReachedPinLaw", "inFrom", "([I[I[ZII)Z"⟩ : MethodName) method_7_code 5 (some .boolean) :: ws) RM11 #[(.ref a1), (.ref a2), (.ref a3), (.int p4), (.int p5)] h0 (fun v h L => Fr n0 L ∧ h = h0 ∧ v = some (.int (fFrom_0 p4 p5 vs vt vr))) := by
  refine MetFree.of_bodySF (plainFor_of_name own_pn0) hisR ?_
  intro p e s m args below meth c s₁ Bd hml0 hP hK
  obtain ⟨rfl, hZ, hh⟩ := hP
  have hx := Bd.exec
  have hby := Bd.bytes
  have hml : c.maxLocals = 5 := hml0
  have hown : s.vm.findClass "com/example/workflow_soundness/workflowsoundness/analysis/GraphReachedPinLaw" = some m.cls := findClass_of_methodNamed Bd.named
  have hnm := (name_of_methodNamed Bd.named Bd.method).1
  have hlk : meth.locks = false := BodyLoose.notSynchronized Bd
  have X0 : Stand p l e RM11 s m #[(.ref a1), (.ref a2), (.ref a3), (.int p4), (.int p5)] below meth c s₁ [] 0 0 := Stand.of_body Bd
  have e0 : s₁.heap = h0 := by rw [← hh, Bd.state]; rfl
  have N0 := Fr.nil n0
  suffices kk : Ends p e below (PostQ s 0 0 (fun v h L => Fr n0 L ∧ h = h0 ∧ v = some (.int (fFrom_0 p4 p5 vs vt vr)))) s₁ m 0 #[.val (.ref a1), .val (.ref a2), .val (.ref a3), .val (.int p4), .val (.int p5)] [] by
    obtain ⟨t, o, k1, k2, k3, k4⟩ := kk
    exact ⟨t, o, castTop (own_ef11 m a1 a2 a3 p4 p5) k1, k2, k3, k4⟩
  refine eALoadN X0 hx (hb hby own_d11_0) rfl rfl rfl ?_
  refine eILoad X0 hx (hb hby own_d11_1) rfl rfl ?_
  refine eIALoad X0 hx hZ e0 A_a2 (rd vt p5) rfl he2 (hb hby own_d11_3) rfl ?_
  refine eILoadN X0 hx (hb hby own_d11_4) rfl rfl ?_
  show Ends p e below (PostQ s 0 0 (fun v h L => Fr n0 L ∧ h = h0 ∧ v = some (.int (if (rd vt p5) = p4 then (if (rd vr (rd vs p5)) = (0 : Int32) then (0 : Int32) else (1 : Int32)) else (0 : Int32))))) s₁ m 5 #[.val (.ref a1), .val (.ref a2), .val (.ref a3), .val (.int p4), .val (.int p5)] [(.int p4), (.int (rd vt p5))]
  by_cases c1 : (rd vt p5) = p4
  · rw [if_pos c1]
    refine eIcmpN X0 hx (hb hby own_d11_5) (teq c1).2 rfl ?_
    refine eALoadN X0 hx (hb hby own_d11_8) rfl rfl rfl ?_
    refine eALoadN X0 hx (hb hby own_d11_9) rfl rfl rfl ?_
    refine eILoad X0 hx (hb hby own_d11_10) rfl rfl ?_
    refine eIALoad X0 hx hZ e0 A_a1 (rd vs p5) rfl he1 (hb hby own_d11_12) rfl ?_
    refine eZALoad X0 hx hZ e0 A_a3 (rd vr (rd vs p5)) rfl he3 (hb hby own_d11_13) rfl ?_
    show Ends p e below (PostQ s 0 0 (fun v h L => Fr n0 L ∧ h = h0 ∧ v = some (.int (if (rd vr (rd vs p5)) = (0 : Int32) then (0 : Int32) else (1 : Int32))))) s₁ m 14 #[.val (.ref a1), .val (.ref a2), .val (.ref a3), .val (.int p4), .val (.int p5)] [(.int (rd vr (rd vs p5)))]
    by_cases c2 : (rd vr (rd vs p5)) = (0 : Int32)
    · rw [if_pos c2]
      refine eIfY X0 hx (hb hby own_d11_14) ((if0 _ _).trans (teq c2).1) (by decide) (pc' := 21) rfl ?_
      refine eIConst X0 hx (0 : Int32) (hb hby own_d11_21) rfl rfl ?_
      exact eRetN X0 hx (t := .boolean) Bd.returns (by simp) hlk (hb hby own_d11_22) (by decide) (by decide) (by rw [e0]; exact ⟨N0, rfl, rfl⟩)
    · rw [if_neg c2]
      refine eIfN X0 hx (hb hby own_d11_14) ((if0 _ _).trans (feq c2).1) rfl ?_
      refine eIConst X0 hx (1 : Int32) (hb hby own_d11_17) rfl rfl ?_
      refine eGoto X0 hx (hb hby own_d11_18) (by decide) (pc' := 22) rfl ?_
      exact eRetN X0 hx (t := .boolean) Bd.returns (by simp) hlk (hb hby own_d11_22) (by decide) (by decide) (by rw [e0]; exact ⟨N0, rfl, rfl⟩)
  · rw [if_neg c1]
    refine eIcmpY X0 hx (hb hby own_d11_5) (feq c1).2 (by decide) (pc' := 21) rfl ?_
    refine eIConst X0 hx (0 : Int32) (hb hby own_d11_21) rfl rfl ?_
    exact eRetN X0 hx (t := .boolean) Bd.returns (by simp) hlk (hb hby own_d11_22) (by decide) (by decide) (by rw [e0]; exact ⟨N0, rfl, rfl⟩)
theorem own_d13_0 : decode method_9_code 0 = .ok (.aload_n 1, 1) := by decide +kernel
theorem own_d13_1 : decode method_9_code 1 = .ok (.iload 4, 2) := by decide +kernel
theorem own_d13_3 : decode method_9_code 3 = .ok (.iaload, 1) := by decide +kernel
theorem own_d13_4 : decode method_9_code 4 = .ok (.iload_n 3, 1) := by decide +kernel
theorem own_d13_5 : decode method_9_code 5 = .ok (.if_icmp .ne 12, 3) := by decide +kernel
theorem own_d13_8 : decode method_9_code 8 = .ok (.aload_n 2, 1) := by decide +kernel
theorem own_d13_9 : decode method_9_code 9 = .ok (.aload_n 0, 1) := by decide +kernel
theorem own_d13_10 : decode method_9_code 10 = .ok (.iload 4, 2) := by decide +kernel
theorem own_d13_12 : decode method_9_code 12 = .ok (.iaload, 1) := by decide +kernel
theorem own_d13_13 : decode method_9_code 13 = .ok (.baload, 1) := by decide +kernel
theorem own_d13_14 : decode method_9_code 14 = .ok (.ifCond .eq 7, 3) := by decide +kernel
theorem own_d13_21 : decode method_9_code 21 = .ok (.iconst 0, 1) := by decide +kernel
theorem own_d13_22 : decode method_9_code 22 = .ok (.ireturn, 1) := by decide +kernel
theorem own_d13_17 : decode method_9_code 17 = .ok (.iconst 1, 1) := by decide +kernel
theorem own_d13_18 : decode method_9_code 18 = .ok (.goto 4, 3) := by decide +kernel
def RM13 : Room := { frames := 0, cells := 0, slots := 0, locals := 0 }
def fEdge_0 (p4 : Int32) (p5 : Int32) (vs : List Int32) (vt : List Int32) (vr : List Int32) : Int32 := (if (rd vt p5) = p4 then (if (rd vr (rd vs p5)) = (0 : Int32) then (0 : Int32) else (1 : Int32)) else (1 : Int32))
theorem own_ef13 (m : MethodId) (a1 : Addr) (a2 : Addr) (a3 : Addr) (p4 : Int32) (p5 : Int32) : entryFrame m #[(.ref a1), (.ref a2), (.ref a3), (.int p4), (.int p5)] 5 = mkF m 0 #[.val (.ref a1), .val (.ref a2), .val (.ref a3), .val (.int p4), .val (.int p5)] [] := by first | (simp [entryFrame, mkF, argsToLocals, Value.category]; done) | rfl
set_option maxRecDepth 65536 in
set_option maxHeartbeats 40000000 in
theorem rm13 (l : Launch) (Z : State) (a0 : Array Value) (hw : ∀ d ∈ tables_1, d.before a0 Z = true) (ws : List Jvm.Cond) (a1 : Addr) (a2 : Addr) (a3 : Addr) (p4 : Int32) (p5 : Int32) (vs : List Int32) (vt : List Int32) (vr : List Int32) (h0 : Heap) (n0 : Nat) (Z0 : n0 ≤ h0.size) (A_a1 : Ar Z h0 a1 .int vs) (A_a2 : Ar Z h0 a2 .int vt) (A_a3 : Ar Z h0 a3 .boolean vr) (he1 : InB vs p5) (he2 : InB vt p5) (he3 : InB vr (rd vs p5)) : MetQ l Z (⟨"com/example/workflow_soundness/workflowsoundness/analysis/GraphReachedPinLaw", "okEdge", "([I[I[ZII)Z"⟩ : MethodName) (Jvm.Cond.code (⟨"com/example/workflow_soundness/workflowsoundness/analysis/GraphReachedPinLaw", "okEdge", "([I[I[ZII)Z"⟩ : MethodName) method_9_code 5 (some .boolean) :: ws) RM13 #[(.ref a1), (.ref a2), (.ref a3), (.int p4), (.int p5)] h0 (fun v h L => Fr n0 L ∧ h = h0 ∧ v = some (.int (fEdge_0 p4 p5 vs vt vr))) := by
  refine MetFree.of_bodySF (plainFor_of_name own_pn0) hisR ?_
  intro p e s m args below meth c s₁ Bd hml0 hP hK
  obtain ⟨rfl, hZ, hh⟩ := hP
  have hx := Bd.exec
  have hby := Bd.bytes
  have hml : c.maxLocals = 5 := hml0
  have hown : s.vm.findClass "com/example/workflow_soundness/workflowsoundness/analysis/GraphReachedPinLaw" = some m.cls := findClass_of_methodNamed Bd.named
  have hnm := (name_of_methodNamed Bd.named Bd.method).1
  have hlk : meth.locks = false := BodyLoose.notSynchronized Bd
  have X0 : Stand p l e RM13 s m #[(.ref a1), (.ref a2), (.ref a3), (.int p4), (.int p5)] below meth c s₁ [] 0 0 := Stand.of_body Bd
  have e0 : s₁.heap = h0 := by rw [← hh, Bd.state]; rfl
  have N0 := Fr.nil n0
  suffices kk : Ends p e below (PostQ s 0 0 (fun v h L => Fr n0 L ∧ h = h0 ∧ v = some (.int (fEdge_0 p4 p5 vs vt vr)))) s₁ m 0 #[.val (.ref a1), .val (.ref a2), .val (.ref a3), .val (.int p4), .val (.int p5)] [] by
    obtain ⟨t, o, k1, k2, k3, k4⟩ := kk
    exact ⟨t, o, castTop (own_ef13 m a1 a2 a3 p4 p5) k1, k2, k3, k4⟩
  refine eALoadN X0 hx (hb hby own_d13_0) rfl rfl rfl ?_
  refine eILoad X0 hx (hb hby own_d13_1) rfl rfl ?_
  refine eIALoad X0 hx hZ e0 A_a2 (rd vt p5) rfl he2 (hb hby own_d13_3) rfl ?_
  refine eILoadN X0 hx (hb hby own_d13_4) rfl rfl ?_
  show Ends p e below (PostQ s 0 0 (fun v h L => Fr n0 L ∧ h = h0 ∧ v = some (.int (if (rd vt p5) = p4 then (if (rd vr (rd vs p5)) = (0 : Int32) then (0 : Int32) else (1 : Int32)) else (1 : Int32))))) s₁ m 5 #[.val (.ref a1), .val (.ref a2), .val (.ref a3), .val (.int p4), .val (.int p5)] [(.int p4), (.int (rd vt p5))]
  by_cases c1 : (rd vt p5) = p4
  · rw [if_pos c1]
    refine eIcmpN X0 hx (hb hby own_d13_5) (teq c1).2 rfl ?_
    refine eALoadN X0 hx (hb hby own_d13_8) rfl rfl rfl ?_
    refine eALoadN X0 hx (hb hby own_d13_9) rfl rfl rfl ?_
    refine eILoad X0 hx (hb hby own_d13_10) rfl rfl ?_
    refine eIALoad X0 hx hZ e0 A_a1 (rd vs p5) rfl he1 (hb hby own_d13_12) rfl ?_
    refine eZALoad X0 hx hZ e0 A_a3 (rd vr (rd vs p5)) rfl he3 (hb hby own_d13_13) rfl ?_
    show Ends p e below (PostQ s 0 0 (fun v h L => Fr n0 L ∧ h = h0 ∧ v = some (.int (if (rd vr (rd vs p5)) = (0 : Int32) then (0 : Int32) else (1 : Int32))))) s₁ m 14 #[.val (.ref a1), .val (.ref a2), .val (.ref a3), .val (.int p4), .val (.int p5)] [(.int (rd vr (rd vs p5)))]
    by_cases c2 : (rd vr (rd vs p5)) = (0 : Int32)
    · rw [if_pos c2]
      refine eIfY X0 hx (hb hby own_d13_14) ((if0 _ _).trans (teq c2).1) (by decide) (pc' := 21) rfl ?_
      refine eIConst X0 hx (0 : Int32) (hb hby own_d13_21) rfl rfl ?_
      exact eRetN X0 hx (t := .boolean) Bd.returns (by simp) hlk (hb hby own_d13_22) (by decide) (by decide) (by rw [e0]; exact ⟨N0, rfl, rfl⟩)
    · rw [if_neg c2]
      refine eIfN X0 hx (hb hby own_d13_14) ((if0 _ _).trans (feq c2).1) rfl ?_
      refine eIConst X0 hx (1 : Int32) (hb hby own_d13_17) rfl rfl ?_
      refine eGoto X0 hx (hb hby own_d13_18) (by decide) (pc' := 22) rfl ?_
      exact eRetN X0 hx (t := .boolean) Bd.returns (by simp) hlk (hb hby own_d13_22) (by decide) (by decide) (by rw [e0]; exact ⟨N0, rfl, rfl⟩)
  · rw [if_neg c1]
    refine eIcmpY X0 hx (hb hby own_d13_5) (feq c1).2 (by decide) (pc' := 17) rfl ?_
    refine eIConst X0 hx (1 : Int32) (hb hby own_d13_17) rfl rfl ?_
    refine eGoto X0 hx (hb hby own_d13_18) (by decide) (pc' := 22) rfl ?_
    exact eRetN X0 hx (t := .boolean) Bd.returns (by simp) hlk (hb hby own_d13_22) (by decide) (by decide) (by rw [e0]; exact ⟨N0, rfl, rfl⟩)
theorem own_d10_0 : decode method_8_code 0 = .ok (.aload_n 0, 1) := by decide +kernel
theorem own_d10_1 : decode method_8_code 1 = .ok (.aload_n 1, 1) := by decide +kernel
theorem own_d10_2 : decode method_8_code 2 = .ok (.aload_n 2, 1) := by decide +kernel
theorem own_d10_3 : decode method_8_code 3 = .ok (.iload_n 3, 1) := by decide +kernel
theorem own_d10_4 : decode method_8_code 4 = .ok (.iconst 0, 1) := by decide +kernel
theorem own_d10_5 : decode method_8_code 5 = .ok (.invokestatic 34, 3) := by decide +kernel
theorem own_pd1 : parseMethodDescriptor "([I[I[ZII)Z" = some ⟨[(.array .int), (.array .int), (.array .boolean), .int, .int], some .boolean⟩ := by decide +kernel
theorem own_d10_8 : decode method_8_code 8 = .ok (.ifCond .ne 58, 3) := by decide +kernel
theorem own_d10_11 : decode method_8_code 11 = .ok (.aload_n 0, 1) := by decide +kernel
theorem own_d10_12 : decode method_8_code 12 = .ok (.aload_n 1, 1) := by decide +kernel
theorem own_d10_13 : decode method_8_code 13 = .ok (.aload_n 2, 1) := by decide +kernel
theorem own_d10_14 : decode method_8_code 14 = .ok (.iload_n 3, 1) := by decide +kernel
theorem own_d10_15 : decode method_8_code 15 = .ok (.iconst 1, 1) := by decide +kernel
theorem own_d10_16 : decode method_8_code 16 = .ok (.invokestatic 34, 3) := by decide +kernel
theorem own_d10_19 : decode method_8_code 19 = .ok (.ifCond .ne 47, 3) := by decide +kernel
theorem own_d10_22 : decode method_8_code 22 = .ok (.aload_n 0, 1) := by decide +kernel
theorem own_d10_23 : decode method_8_code 23 = .ok (.aload_n 1, 1) := by decide +kernel
theorem own_d10_24 : decode method_8_code 24 = .ok (.aload_n 2, 1) := by decide +kernel
theorem own_d10_25 : decode method_8_code 25 = .ok (.iload_n 3, 1) := by decide +kernel
theorem own_d10_26 : decode method_8_code 26 = .ok (.iconst 2, 1) := by decide +kernel
theorem own_d10_27 : decode method_8_code 27 = .ok (.invokestatic 34, 3) := by decide +kernel
theorem own_d10_30 : decode method_8_code 30 = .ok (.ifCond .ne 36, 3) := by decide +kernel
theorem own_d10_33 : decode method_8_code 33 = .ok (.aload_n 0, 1) := by decide +kernel
theorem own_d10_34 : decode method_8_code 34 = .ok (.aload_n 1, 1) := by decide +kernel
theorem own_d10_35 : decode method_8_code 35 = .ok (.aload_n 2, 1) := by decide +kernel
theorem own_d10_36 : decode method_8_code 36 = .ok (.iload_n 3, 1) := by decide +kernel
theorem own_d10_37 : decode method_8_code 37 = .ok (.iconst 3, 1) := by decide +kernel
theorem own_d10_38 : decode method_8_code 38 = .ok (.invokestatic 34, 3) := by decide +kernel
theorem own_d10_41 : decode method_8_code 41 = .ok (.ifCond .ne 25, 3) := by decide +kernel
theorem own_d10_44 : decode method_8_code 44 = .ok (.aload_n 0, 1) := by decide +kernel
theorem own_d10_45 : decode method_8_code 45 = .ok (.aload_n 1, 1) := by decide +kernel
theorem own_d10_46 : decode method_8_code 46 = .ok (.aload_n 2, 1) := by decide +kernel
theorem own_d10_47 : decode method_8_code 47 = .ok (.iload_n 3, 1) := by decide +kernel
theorem own_d10_48 : decode method_8_code 48 = .ok (.iconst 4, 1) := by decide +kernel
theorem own_d10_49 : decode method_8_code 49 = .ok (.invokestatic 34, 3) := by decide +kernel
theorem own_d10_52 : decode method_8_code 52 = .ok (.ifCond .ne 14, 3) := by decide +kernel
theorem own_d10_55 : decode method_8_code 55 = .ok (.aload_n 0, 1) := by decide +kernel
theorem own_d10_56 : decode method_8_code 56 = .ok (.aload_n 1, 1) := by decide +kernel
theorem own_d10_57 : decode method_8_code 57 = .ok (.aload_n 2, 1) := by decide +kernel
theorem own_d10_58 : decode method_8_code 58 = .ok (.iload_n 3, 1) := by decide +kernel
theorem own_d10_59 : decode method_8_code 59 = .ok (.iconst 5, 1) := by decide +kernel
theorem own_d10_60 : decode method_8_code 60 = .ok (.invokestatic 34, 3) := by decide +kernel
theorem own_d10_63 : decode method_8_code 63 = .ok (.ifCond .eq 7, 3) := by decide +kernel
theorem own_d10_70 : decode method_8_code 70 = .ok (.iconst 0, 1) := by decide +kernel
theorem own_d10_71 : decode method_8_code 71 = .ok (.ireturn, 1) := by decide +kernel
theorem own_d10_66 : decode method_8_code 66 = .ok (.iconst 1, 1) := by decide +kernel
theorem own_d10_67 : decode method_8_code 67 = .ok (.goto 4, 3) := by decide +kernel
def RM10 : Room := { frames := 1, cells := 0, slots := 0, locals := 16 }
def fSome_0 (p4 : Int32) (vs : List Int32) (vt : List Int32) (vr : List Int32) : Int32 := (if (fFrom_0 p4 (0 : Int32) vs vt vr) = (0 : Int32) then (if (fFrom_0 p4 (1 : Int32) vs vt vr) = (0 : Int32) then (if (fFrom_0 p4 (2 : Int32) vs vt vr) = (0 : Int32) then (if (fFrom_0 p4 (3 : Int32) vs vt vr) = (0 : Int32) then (if (fFrom_0 p4 (4 : Int32) vs vt vr) = (0 : Int32) then (if (fFrom_0 p4 (5 : Int32) vs vt vr) = (0 : Int32) then (0 : Int32) else (1 : Int32)) else (1 : Int32)) else (1 : Int32)) else (1 : Int32)) else (1 : Int32)) else (1 : Int32))
theorem own_ef10 (m : MethodId) (a1 : Addr) (a2 : Addr) (a3 : Addr) (p4 : Int32) : entryFrame m #[(.ref a1), (.ref a2), (.ref a3), (.int p4)] 4 = mkF m 0 #[.val (.ref a1), .val (.ref a2), .val (.ref a3), .val (.int p4)] [] := by first | (simp [entryFrame, mkF, argsToLocals, Value.category]; done) | rfl
set_option maxRecDepth 65536 in
set_option maxHeartbeats 40000000 in
theorem rm10 (l : Launch) (Z : State) (a0 : Array Value) (hw : ∀ d ∈ tables_1, d.before a0 Z = true) (ws : List Jvm.Cond) (a1 : Addr) (a2 : Addr) (a3 : Addr) (p4 : Int32) (vs : List Int32) (vt : List Int32) (vr : List Int32) (h0 : Heap) (n0 : Nat) (Z0 : n0 ≤ h0.size) (A_a1 : Ar Z h0 a1 .int vs) (A_a2 : Ar Z h0 a2 .int vt) (A_a3 : Ar Z h0 a3 .boolean vr) (hs : vs.length = 6) (ht : vt.length = 6) (hr : vr.length = 4) (hbv : Bd4 4 vs) : MetQ l Z (⟨"com/example/workflow_soundness/workflowsoundness/analysis/GraphReachedPinLaw", "some", "([I[I[ZI)Z"⟩ : MethodName) (Jvm.Cond.code (⟨"com/example/workflow_soundness/workflowsoundness/analysis/GraphReachedPinLaw", "some", "([I[I[ZI)Z"⟩ : MethodName) method_8_code 4 (some .boolean) :: ws) RM10 #[(.ref a1), (.ref a2), (.ref a3), (.int p4)] h0 (fun v h L => Fr n0 L ∧ h = h0 ∧ v = some (.int (fSome_0 p4 vs vt vr))) := by
  refine MetFree.of_bodySF (plainFor_of_name own_pn0) hisR ?_
  intro p e s m args below meth c s₁ Bd hml0 hP hK
  obtain ⟨rfl, hZ, hh⟩ := hP
  have hx := Bd.exec
  have hby := Bd.bytes
  have hml : c.maxLocals = 4 := hml0
  have hown : s.vm.findClass "com/example/workflow_soundness/workflowsoundness/analysis/GraphReachedPinLaw" = some m.cls := findClass_of_methodNamed Bd.named
  have hnm := (name_of_methodNamed Bd.named Bd.method).1
  have hlk : meth.locks = false := BodyLoose.notSynchronized Bd
  have X0 : Stand p l e RM10 s m #[(.ref a1), (.ref a2), (.ref a3), (.int p4)] below meth c s₁ [] 0 0 := Stand.of_body Bd
  have e0 : s₁.heap = h0 := by rw [← hh, Bd.state]; rfl
  have N0 := Fr.nil n0
  suffices kk : Ends p e below (PostQ s 0 0 (fun v h L => Fr n0 L ∧ h = h0 ∧ v = some (.int (fSome_0 p4 vs vt vr)))) s₁ m 0 #[.val (.ref a1), .val (.ref a2), .val (.ref a3), .val (.int p4)] [] by
    obtain ⟨t, o, k1, k2, k3, k4⟩ := kk
    exact ⟨t, o, castTop (own_ef10 m a1 a2 a3 p4) k1, k2, k3, k4⟩
  refine eALoadN X0 hx (hb hby own_d10_0) rfl rfl rfl ?_
  refine eALoadN X0 hx (hb hby own_d10_1) rfl rfl rfl ?_
  refine eALoadN X0 hx (hb hby own_d10_2) rfl rfl rfl ?_
  refine eILoadN X0 hx (hb hby own_d10_3) rfl rfl ?_
  refine eIConst X0 hx (0 : Int32) (hb hby own_d10_4) rfl rfl ?_
  refine eCallS X0 hx hZ (y := (⟨"com/example/workflow_soundness/workflowsoundness/analysis/GraphReachedPinLaw", "inFrom", "([I[I[ZII)Z"⟩ : MethodName)) hown (hw _ (List.mem_of_getElem? (i := 42) rfl)) (hw _ (List.mem_of_getElem? (i := 43) rfl)) (hw _ (List.mem_of_getElem? (i := 3) rfl)) (hw _ (List.mem_of_getElem? (i := 44) rfl)) (by decide) e0 (rm11 l Z a0 hw [] a1 a2 a3 p4 (0 : Int32) vs vt vr h0 n0 Z0 A_a1 A_a2 A_a3 (own_lit hs (by decide) (by decide)) (own_lit ht (by decide) (by decide)) (own_lit hr (own_bd hbv (own_lit hs (by decide) (by decide))).1 (own_bd hbv (own_lit hs (by decide) (by decide))).2)) (argsL := [(.ref a1), (.ref a2), (.ref a3), (.int p4), (.int (0 : Int32))]) (rest := []) (lenOf own_pd1 rfl) rfl (by rw [hml]; rfl) 0 (by exact Nat.le_refl _) (by decide) (by decide) (by decide) (by decide) (hb hby own_d10_5) rfl (fun v1 T1 L1 q1 (X1 : Stand _ _ _ _ _ _ _ _ _ _ T1 _ 0 0) => ?_)
  obtain ⟨N1', e1, rfl⟩ := q1
  have N1 := Fr.app N0 N1'
  show Ends p e below _ T1 m 8 #[.val (.ref a1), .val (.ref a2), .val (.ref a3), .val (.int p4)] [(.int (fFrom_0 p4 (0 : Int32) vs vt vr))]
  show Ends p e below (PostQ s 0 0 (fun v h L => Fr n0 L ∧ h = h0 ∧ v = some (.int (if (fFrom_0 p4 (0 : Int32) vs vt vr) = (0 : Int32) then (if (fFrom_0 p4 (1 : Int32) vs vt vr) = (0 : Int32) then (if (fFrom_0 p4 (2 : Int32) vs vt vr) = (0 : Int32) then (if (fFrom_0 p4 (3 : Int32) vs vt vr) = (0 : Int32) then (if (fFrom_0 p4 (4 : Int32) vs vt vr) = (0 : Int32) then (if (fFrom_0 p4 (5 : Int32) vs vt vr) = (0 : Int32) then (0 : Int32) else (1 : Int32)) else (1 : Int32)) else (1 : Int32)) else (1 : Int32)) else (1 : Int32)) else (1 : Int32))))) T1 m 8 #[.val (.ref a1), .val (.ref a2), .val (.ref a3), .val (.int p4)] [(.int (fFrom_0 p4 (0 : Int32) vs vt vr))]
  by_cases c2 : (fFrom_0 p4 (0 : Int32) vs vt vr) = (0 : Int32)
  · rw [if_pos c2]
    refine eIfN X1 hx (hb hby own_d10_8) ((if0 _ _).trans (teq c2).2) rfl ?_
    refine eALoadN X1 hx (hb hby own_d10_11) rfl rfl rfl ?_
    refine eALoadN X1 hx (hb hby own_d10_12) rfl rfl rfl ?_
    refine eALoadN X1 hx (hb hby own_d10_13) rfl rfl rfl ?_
    refine eILoadN X1 hx (hb hby own_d10_14) rfl rfl ?_
    refine eIConst X1 hx (1 : Int32) (hb hby own_d10_15) rfl rfl ?_
    refine eCallS X1 hx hZ (y := (⟨"com/example/workflow_soundness/workflowsoundness/analysis/GraphReachedPinLaw", "inFrom", "([I[I[ZII)Z"⟩ : MethodName)) hown (hw _ (List.mem_of_getElem? (i := 42) rfl)) (hw _ (List.mem_of_getElem? (i := 43) rfl)) (hw _ (List.mem_of_getElem? (i := 3) rfl)) (hw _ (List.mem_of_getElem? (i := 44) rfl)) (by decide) e1 (rm11 l Z a0 hw [] a1 a2 a3 p4 (1 : Int32) vs vt vr h0 n0 Z0 A_a1 A_a2 A_a3 (own_lit hs (by decide) (by decide)) (own_lit ht (by decide) (by decide)) (own_lit hr (own_bd hbv (own_lit hs (by decide) (by decide))).1 (own_bd hbv (own_lit hs (by decide) (by decide))).2)) (argsL := [(.ref a1), (.ref a2), (.ref a3), (.int p4), (.int (1 : Int32))]) (rest := []) (lenOf own_pd1 rfl) rfl (by rw [hml]; rfl) 0 (by exact Nat.le_refl _) (by decide) (by decide) (by decide) (by decide) (hb hby own_d10_16) rfl (fun v3 T3 L3 q3 (X3 : Stand _ _ _ _ _ _ _ _ _ _ T3 _ 0 0) => ?_)
    obtain ⟨N3', e3, rfl⟩ := q3
    have N3 := Fr.app N1 N3'
    show Ends p e below _ T3 m 19 #[.val (.ref a1), .val (.ref a2), .val (.ref a3), .val (.int p4)] [(.int (fFrom_0 p4 (1 : Int32) vs vt vr))]
    show Ends p e below (PostQ s 0 0 (fun v h L => Fr n0 L ∧ h = h0 ∧ v = some (.int (if (fFrom_0 p4 (1 : Int32) vs vt vr) = (0 : Int32) then (if (fFrom_0 p4 (2 : Int32) vs vt vr) = (0 : Int32) then (if (fFrom_0 p4 (3 : Int32) vs vt vr) = (0 : Int32) then (if (fFrom_0 p4 (4 : Int32) vs vt vr) = (0 : Int32) then (if (fFrom_0 p4 (5 : Int32) vs vt vr) = (0 : Int32) then (0 : Int32) else (1 : Int32)) else (1 : Int32)) else (1 : Int32)) else (1 : Int32)) else (1 : Int32))))) T3 m 19 #[.val (.ref a1), .val (.ref a2), .val (.ref a3), .val (.int p4)] [(.int (fFrom_0 p4 (1 : Int32) vs vt vr))]
    by_cases c4 : (fFrom_0 p4 (1 : Int32) vs vt vr) = (0 : Int32)
    · rw [if_pos c4]
      refine eIfN X3 hx (hb hby own_d10_19) ((if0 _ _).trans (teq c4).2) rfl ?_
      refine eALoadN X3 hx (hb hby own_d10_22) rfl rfl rfl ?_
      refine eALoadN X3 hx (hb hby own_d10_23) rfl rfl rfl ?_
      refine eALoadN X3 hx (hb hby own_d10_24) rfl rfl rfl ?_
      refine eILoadN X3 hx (hb hby own_d10_25) rfl rfl ?_
      refine eIConst X3 hx (2 : Int32) (hb hby own_d10_26) rfl rfl ?_
      refine eCallS X3 hx hZ (y := (⟨"com/example/workflow_soundness/workflowsoundness/analysis/GraphReachedPinLaw", "inFrom", "([I[I[ZII)Z"⟩ : MethodName)) hown (hw _ (List.mem_of_getElem? (i := 42) rfl)) (hw _ (List.mem_of_getElem? (i := 43) rfl)) (hw _ (List.mem_of_getElem? (i := 3) rfl)) (hw _ (List.mem_of_getElem? (i := 44) rfl)) (by decide) e3 (rm11 l Z a0 hw [] a1 a2 a3 p4 (2 : Int32) vs vt vr h0 n0 Z0 A_a1 A_a2 A_a3 (own_lit hs (by decide) (by decide)) (own_lit ht (by decide) (by decide)) (own_lit hr (own_bd hbv (own_lit hs (by decide) (by decide))).1 (own_bd hbv (own_lit hs (by decide) (by decide))).2)) (argsL := [(.ref a1), (.ref a2), (.ref a3), (.int p4), (.int (2 : Int32))]) (rest := []) (lenOf own_pd1 rfl) rfl (by rw [hml]; rfl) 0 (by exact Nat.le_refl _) (by decide) (by decide) (by decide) (by decide) (hb hby own_d10_27) rfl (fun v5 T5 L5 q5 (X5 : Stand _ _ _ _ _ _ _ _ _ _ T5 _ 0 0) => ?_)
      obtain ⟨N5', e5, rfl⟩ := q5
      have N5 := Fr.app N3 N5'
      show Ends p e below _ T5 m 30 #[.val (.ref a1), .val (.ref a2), .val (.ref a3), .val (.int p4)] [(.int (fFrom_0 p4 (2 : Int32) vs vt vr))]
      show Ends p e below (PostQ s 0 0 (fun v h L => Fr n0 L ∧ h = h0 ∧ v = some (.int (if (fFrom_0 p4 (2 : Int32) vs vt vr) = (0 : Int32) then (if (fFrom_0 p4 (3 : Int32) vs vt vr) = (0 : Int32) then (if (fFrom_0 p4 (4 : Int32) vs vt vr) = (0 : Int32) then (if (fFrom_0 p4 (5 : Int32) vs vt vr) = (0 : Int32) then (0 : Int32) else (1 : Int32)) else (1 : Int32)) else (1 : Int32)) else (1 : Int32))))) T5 m 30 #[.val (.ref a1), .val (.ref a2), .val (.ref a3), .val (.int p4)] [(.int (fFrom_0 p4 (2 : Int32) vs vt vr))]
      by_cases c6 : (fFrom_0 p4 (2 : Int32) vs vt vr) = (0 : Int32)
      · rw [if_pos c6]
        refine eIfN X5 hx (hb hby own_d10_30) ((if0 _ _).trans (teq c6).2) rfl ?_
        refine eALoadN X5 hx (hb hby own_d10_33) rfl rfl rfl ?_
        refine eALoadN X5 hx (hb hby own_d10_34) rfl rfl rfl ?_
        refine eALoadN X5 hx (hb hby own_d10_35) rfl rfl rfl ?_
        refine eILoadN X5 hx (hb hby own_d10_36) rfl rfl ?_
        refine eIConst X5 hx (3 : Int32) (hb hby own_d10_37) rfl rfl ?_
        refine eCallS X5 hx hZ (y := (⟨"com/example/workflow_soundness/workflowsoundness/analysis/GraphReachedPinLaw", "inFrom", "([I[I[ZII)Z"⟩ : MethodName)) hown (hw _ (List.mem_of_getElem? (i := 42) rfl)) (hw _ (List.mem_of_getElem? (i := 43) rfl)) (hw _ (List.mem_of_getElem? (i := 3) rfl)) (hw _ (List.mem_of_getElem? (i := 44) rfl)) (by decide) e5 (rm11 l Z a0 hw [] a1 a2 a3 p4 (3 : Int32) vs vt vr h0 n0 Z0 A_a1 A_a2 A_a3 (own_lit hs (by decide) (by decide)) (own_lit ht (by decide) (by decide)) (own_lit hr (own_bd hbv (own_lit hs (by decide) (by decide))).1 (own_bd hbv (own_lit hs (by decide) (by decide))).2)) (argsL := [(.ref a1), (.ref a2), (.ref a3), (.int p4), (.int (3 : Int32))]) (rest := []) (lenOf own_pd1 rfl) rfl (by rw [hml]; rfl) 0 (by exact Nat.le_refl _) (by decide) (by decide) (by decide) (by decide) (hb hby own_d10_38) rfl (fun v7 T7 L7 q7 (X7 : Stand _ _ _ _ _ _ _ _ _ _ T7 _ 0 0) => ?_)
        obtain ⟨N7', e7, rfl⟩ := q7
        have N7 := Fr.app N5 N7'
        show Ends p e below _ T7 m 41 #[.val (.ref a1), .val (.ref a2), .val (.ref a3), .val (.int p4)] [(.int (fFrom_0 p4 (3 : Int32) vs vt vr))]
        show Ends p e below (PostQ s 0 0 (fun v h L => Fr n0 L ∧ h = h0 ∧ v = some (.int (if (fFrom_0 p4 (3 : Int32) vs vt vr) = (0 : Int32) then (if (fFrom_0 p4 (4 : Int32) vs vt vr) = (0 : Int32) then (if (fFrom_0 p4 (5 : Int32) vs vt vr) = (0 : Int32) then (0 : Int32) else (1 : Int32)) else (1 : Int32)) else (1 : Int32))))) T7 m 41 #[.val (.ref a1), .val (.ref a2), .val (.ref a3), .val (.int p4)] [(.int (fFrom_0 p4 (3 : Int32) vs vt vr))]
        by_cases c8 : (fFrom_0 p4 (3 : Int32) vs vt vr) = (0 : Int32)
        · rw [if_pos c8]
          refine eIfN X7 hx (hb hby own_d10_41) ((if0 _ _).trans (teq c8).2) rfl ?_
          refine eALoadN X7 hx (hb hby own_d10_44) rfl rfl rfl ?_
          refine eALoadN X7 hx (hb hby own_d10_45) rfl rfl rfl ?_
          refine eALoadN X7 hx (hb hby own_d10_46) rfl rfl rfl ?_
          refine eILoadN X7 hx (hb hby own_d10_47) rfl rfl ?_
          refine eIConst X7 hx (4 : Int32) (hb hby own_d10_48) rfl rfl ?_
          refine eCallS X7 hx hZ (y := (⟨"com/example/workflow_soundness/workflowsoundness/analysis/GraphReachedPinLaw", "inFrom", "([I[I[ZII)Z"⟩ : MethodName)) hown (hw _ (List.mem_of_getElem? (i := 42) rfl)) (hw _ (List.mem_of_getElem? (i := 43) rfl)) (hw _ (List.mem_of_getElem? (i := 3) rfl)) (hw _ (List.mem_of_getElem? (i := 44) rfl)) (by decide) e7 (rm11 l Z a0 hw [] a1 a2 a3 p4 (4 : Int32) vs vt vr h0 n0 Z0 A_a1 A_a2 A_a3 (own_lit hs (by decide) (by decide)) (own_lit ht (by decide) (by decide)) (own_lit hr (own_bd hbv (own_lit hs (by decide) (by decide))).1 (own_bd hbv (own_lit hs (by decide) (by decide))).2)) (argsL := [(.ref a1), (.ref a2), (.ref a3), (.int p4), (.int (4 : Int32))]) (rest := []) (lenOf own_pd1 rfl) rfl (by rw [hml]; rfl) 0 (by exact Nat.le_refl _) (by decide) (by decide) (by decide) (by decide) (hb hby own_d10_49) rfl (fun v9 T9 L9 q9 (X9 : Stand _ _ _ _ _ _ _ _ _ _ T9 _ 0 0) => ?_)
          obtain ⟨N9', e9, rfl⟩ := q9
          have N9 := Fr.app N7 N9'
          show Ends p e below _ T9 m 52 #[.val (.ref a1), .val (.ref a2), .val (.ref a3), .val (.int p4)] [(.int (fFrom_0 p4 (4 : Int32) vs vt vr))]
          show Ends p e below (PostQ s 0 0 (fun v h L => Fr n0 L ∧ h = h0 ∧ v = some (.int (if (fFrom_0 p4 (4 : Int32) vs vt vr) = (0 : Int32) then (if (fFrom_0 p4 (5 : Int32) vs vt vr) = (0 : Int32) then (0 : Int32) else (1 : Int32)) else (1 : Int32))))) T9 m 52 #[.val (.ref a1), .val (.ref a2), .val (.ref a3), .val (.int p4)] [(.int (fFrom_0 p4 (4 : Int32) vs vt vr))]
          by_cases c10 : (fFrom_0 p4 (4 : Int32) vs vt vr) = (0 : Int32)
          · rw [if_pos c10]
            refine eIfN X9 hx (hb hby own_d10_52) ((if0 _ _).trans (teq c10).2) rfl ?_
            refine eALoadN X9 hx (hb hby own_d10_55) rfl rfl rfl ?_
            refine eALoadN X9 hx (hb hby own_d10_56) rfl rfl rfl ?_
            refine eALoadN X9 hx (hb hby own_d10_57) rfl rfl rfl ?_
            refine eILoadN X9 hx (hb hby own_d10_58) rfl rfl ?_
            refine eIConst X9 hx (5 : Int32) (hb hby own_d10_59) rfl rfl ?_
            refine eCallS X9 hx hZ (y := (⟨"com/example/workflow_soundness/workflowsoundness/analysis/GraphReachedPinLaw", "inFrom", "([I[I[ZII)Z"⟩ : MethodName)) hown (hw _ (List.mem_of_getElem? (i := 42) rfl)) (hw _ (List.mem_of_getElem? (i := 43) rfl)) (hw _ (List.mem_of_getElem? (i := 3) rfl)) (hw _ (List.mem_of_getElem? (i := 44) rfl)) (by decide) e9 (rm11 l Z a0 hw [] a1 a2 a3 p4 (5 : Int32) vs vt vr h0 n0 Z0 A_a1 A_a2 A_a3 (own_lit hs (by decide) (by decide)) (own_lit ht (by decide) (by decide)) (own_lit hr (own_bd hbv (own_lit hs (by decide) (by decide))).1 (own_bd hbv (own_lit hs (by decide) (by decide))).2)) (argsL := [(.ref a1), (.ref a2), (.ref a3), (.int p4), (.int (5 : Int32))]) (rest := []) (lenOf own_pd1 rfl) rfl (by rw [hml]; rfl) 0 (by exact Nat.le_refl _) (by decide) (by decide) (by decide) (by decide) (hb hby own_d10_60) rfl (fun v11 T11 L11 q11 (X11 : Stand _ _ _ _ _ _ _ _ _ _ T11 _ 0 0) => ?_)
            obtain ⟨N11', e11, rfl⟩ := q11
            have N11 := Fr.app N9 N11'
            show Ends p e below _ T11 m 63 #[.val (.ref a1), .val (.ref a2), .val (.ref a3), .val (.int p4)] [(.int (fFrom_0 p4 (5 : Int32) vs vt vr))]
            show Ends p e below (PostQ s 0 0 (fun v h L => Fr n0 L ∧ h = h0 ∧ v = some (.int (if (fFrom_0 p4 (5 : Int32) vs vt vr) = (0 : Int32) then (0 : Int32) else (1 : Int32))))) T11 m 63 #[.val (.ref a1), .val (.ref a2), .val (.ref a3), .val (.int p4)] [(.int (fFrom_0 p4 (5 : Int32) vs vt vr))]
            by_cases c12 : (fFrom_0 p4 (5 : Int32) vs vt vr) = (0 : Int32)
            · rw [if_pos c12]
              refine eIfY X11 hx (hb hby own_d10_63) ((if0 _ _).trans (teq c12).1) (by decide) (pc' := 70) rfl ?_
              refine eIConst X11 hx (0 : Int32) (hb hby own_d10_70) rfl rfl ?_
              exact eRetN X11 hx (t := .boolean) Bd.returns (by simp) hlk (hb hby own_d10_71) (by decide) (by decide) (by rw [e11]; exact ⟨N11, rfl, rfl⟩)
            · rw [if_neg c12]
              refine eIfN X11 hx (hb hby own_d10_63) ((if0 _ _).trans (feq c12).1) rfl ?_
              refine eIConst X11 hx (1 : Int32) (hb hby own_d10_66) rfl rfl ?_
              refine eGoto X11 hx (hb hby own_d10_67) (by decide) (pc' := 71) rfl ?_
              exact eRetN X11 hx (t := .boolean) Bd.returns (by simp) hlk (hb hby own_d10_71) (by decide) (by decide) (by rw [e11]; exact ⟨N11, rfl, rfl⟩)
          · rw [if_neg c10]
            refine eIfY X9 hx (hb hby own_d10_52) ((if0 _ _).trans (feq c10).2) (by decide) (pc' := 66) rfl ?_
            refine eIConst X9 hx (1 : Int32) (hb hby own_d10_66) rfl rfl ?_
            refine eGoto X9 hx (hb hby own_d10_67) (by decide) (pc' := 71) rfl ?_
            exact eRetN X9 hx (t := .boolean) Bd.returns (by simp) hlk (hb hby own_d10_71) (by decide) (by decide) (by rw [e9]; exact ⟨N9, rfl, rfl⟩)
        · rw [if_neg c8]
          refine eIfY X7 hx (hb hby own_d10_41) ((if0 _ _).trans (feq c8).2) (by decide) (pc' := 66) rfl ?_
          refine eIConst X7 hx (1 : Int32) (hb hby own_d10_66) rfl rfl ?_
          refine eGoto X7 hx (hb hby own_d10_67) (by decide) (pc' := 71) rfl ?_
          exact eRetN X7 hx (t := .boolean) Bd.returns (by simp) hlk (hb hby own_d10_71) (by decide) (by decide) (by rw [e7]; exact ⟨N7, rfl, rfl⟩)
      · rw [if_neg c6]
        refine eIfY X5 hx (hb hby own_d10_30) ((if0 _ _).trans (feq c6).2) (by decide) (pc' := 66) rfl ?_
        refine eIConst X5 hx (1 : Int32) (hb hby own_d10_66) rfl rfl ?_
        refine eGoto X5 hx (hb hby own_d10_67) (by decide) (pc' := 71) rfl ?_
        exact eRetN X5 hx (t := .boolean) Bd.returns (by simp) hlk (hb hby own_d10_71) (by decide) (by decide) (by rw [e5]; exact ⟨N5, rfl, rfl⟩)
    · rw [if_neg c4]
      refine eIfY X3 hx (hb hby own_d10_19) ((if0 _ _).trans (feq c4).2) (by decide) (pc' := 66) rfl ?_
      refine eIConst X3 hx (1 : Int32) (hb hby own_d10_66) rfl rfl ?_
      refine eGoto X3 hx (hb hby own_d10_67) (by decide) (pc' := 71) rfl ?_
      exact eRetN X3 hx (t := .boolean) Bd.returns (by simp) hlk (hb hby own_d10_71) (by decide) (by decide) (by rw [e3]; exact ⟨N3, rfl, rfl⟩)
  · rw [if_neg c2]
    refine eIfY X1 hx (hb hby own_d10_8) ((if0 _ _).trans (feq c2).2) (by decide) (pc' := 66) rfl ?_
    refine eIConst X1 hx (1 : Int32) (hb hby own_d10_66) rfl rfl ?_
    refine eGoto X1 hx (hb hby own_d10_67) (by decide) (pc' := 71) rfl ?_
    exact eRetN X1 hx (t := .boolean) Bd.returns (by simp) hlk (hb hby own_d10_71) (by decide) (by decide) (by rw [e1]; exact ⟨N1, rfl, rfl⟩)
theorem own_d12_0 : decode method_10_code 0 = .ok (.aload_n 0, 1) := by decide +kernel
theorem own_d12_1 : decode method_10_code 1 = .ok (.aload_n 1, 1) := by decide +kernel
theorem own_d12_2 : decode method_10_code 2 = .ok (.aload_n 2, 1) := by decide +kernel
theorem own_d12_3 : decode method_10_code 3 = .ok (.iload_n 3, 1) := by decide +kernel
theorem own_d12_4 : decode method_10_code 4 = .ok (.iconst 0, 1) := by decide +kernel
theorem own_d12_5 : decode method_10_code 5 = .ok (.invokestatic 38, 3) := by decide +kernel
theorem own_d12_8 : decode method_10_code 8 = .ok (.ifCond .eq 62, 3) := by decide +kernel
theorem own_d12_70 : decode method_10_code 70 = .ok (.iconst 0, 1) := by decide +kernel
theorem own_d12_71 : decode method_10_code 71 = .ok (.ireturn, 1) := by decide +kernel
theorem own_d12_11 : decode method_10_code 11 = .ok (.aload_n 0, 1) := by decide +kernel
theorem own_d12_12 : decode method_10_code 12 = .ok (.aload_n 1, 1) := by decide +kernel
theorem own_d12_13 : decode method_10_code 13 = .ok (.aload_n 2, 1) := by decide +kernel
theorem own_d12_14 : decode method_10_code 14 = .ok (.iload_n 3, 1) := by decide +kernel
theorem own_d12_15 : decode method_10_code 15 = .ok (.iconst 1, 1) := by decide +kernel
theorem own_d12_16 : decode method_10_code 16 = .ok (.invokestatic 38, 3) := by decide +kernel
theorem own_d12_19 : decode method_10_code 19 = .ok (.ifCond .eq 51, 3) := by decide +kernel
theorem own_d12_22 : decode method_10_code 22 = .ok (.aload_n 0, 1) := by decide +kernel
theorem own_d12_23 : decode method_10_code 23 = .ok (.aload_n 1, 1) := by decide +kernel
theorem own_d12_24 : decode method_10_code 24 = .ok (.aload_n 2, 1) := by decide +kernel
theorem own_d12_25 : decode method_10_code 25 = .ok (.iload_n 3, 1) := by decide +kernel
theorem own_d12_26 : decode method_10_code 26 = .ok (.iconst 2, 1) := by decide +kernel
theorem own_d12_27 : decode method_10_code 27 = .ok (.invokestatic 38, 3) := by decide +kernel
theorem own_d12_30 : decode method_10_code 30 = .ok (.ifCond .eq 40, 3) := by decide +kernel
theorem own_d12_33 : decode method_10_code 33 = .ok (.aload_n 0, 1) := by decide +kernel
theorem own_d12_34 : decode method_10_code 34 = .ok (.aload_n 1, 1) := by decide +kernel
theorem own_d12_35 : decode method_10_code 35 = .ok (.aload_n 2, 1) := by decide +kernel
theorem own_d12_36 : decode method_10_code 36 = .ok (.iload_n 3, 1) := by decide +kernel
theorem own_d12_37 : decode method_10_code 37 = .ok (.iconst 3, 1) := by decide +kernel
theorem own_d12_38 : decode method_10_code 38 = .ok (.invokestatic 38, 3) := by decide +kernel
theorem own_d12_41 : decode method_10_code 41 = .ok (.ifCond .eq 29, 3) := by decide +kernel
theorem own_d12_44 : decode method_10_code 44 = .ok (.aload_n 0, 1) := by decide +kernel
theorem own_d12_45 : decode method_10_code 45 = .ok (.aload_n 1, 1) := by decide +kernel
theorem own_d12_46 : decode method_10_code 46 = .ok (.aload_n 2, 1) := by decide +kernel
theorem own_d12_47 : decode method_10_code 47 = .ok (.iload_n 3, 1) := by decide +kernel
theorem own_d12_48 : decode method_10_code 48 = .ok (.iconst 4, 1) := by decide +kernel
theorem own_d12_49 : decode method_10_code 49 = .ok (.invokestatic 38, 3) := by decide +kernel
theorem own_d12_52 : decode method_10_code 52 = .ok (.ifCond .eq 18, 3) := by decide +kernel
theorem own_d12_55 : decode method_10_code 55 = .ok (.aload_n 0, 1) := by decide +kernel
theorem own_d12_56 : decode method_10_code 56 = .ok (.aload_n 1, 1) := by decide +kernel
theorem own_d12_57 : decode method_10_code 57 = .ok (.aload_n 2, 1) := by decide +kernel
theorem own_d12_58 : decode method_10_code 58 = .ok (.iload_n 3, 1) := by decide +kernel
theorem own_d12_59 : decode method_10_code 59 = .ok (.iconst 5, 1) := by decide +kernel
theorem own_d12_60 : decode method_10_code 60 = .ok (.invokestatic 38, 3) := by decide +kernel
theorem own_d12_63 : decode method_10_code 63 = .ok (.ifCond .eq 7, 3) := by decide +kernel
theorem own_d12_66 : decode method_10_code 66 = .ok (.iconst 1, 1) := by decide +kernel
theorem own_d12_67 : decode method_10_code 67 = .ok (.goto 4, 3) := by decide +kernel
def RM12 : Room := { frames := 1, cells := 0, slots := 0, locals := 16 }
def fAll_0 (p4 : Int32) (vs : List Int32) (vt : List Int32) (vr : List Int32) : Int32 := (if (fEdge_0 p4 (0 : Int32) vs vt vr) = (0 : Int32) then (0 : Int32) else (if (fEdge_0 p4 (1 : Int32) vs vt vr) = (0 : Int32) then (0 : Int32) else (if (fEdge_0 p4 (2 : Int32) vs vt vr) = (0 : Int32) then (0 : Int32) else (if (fEdge_0 p4 (3 : Int32) vs vt vr) = (0 : Int32) then (0 : Int32) else (if (fEdge_0 p4 (4 : Int32) vs vt vr) = (0 : Int32) then (0 : Int32) else (if (fEdge_0 p4 (5 : Int32) vs vt vr) = (0 : Int32) then (0 : Int32) else (1 : Int32)))))))
theorem own_ef12 (m : MethodId) (a1 : Addr) (a2 : Addr) (a3 : Addr) (p4 : Int32) : entryFrame m #[(.ref a1), (.ref a2), (.ref a3), (.int p4)] 4 = mkF m 0 #[.val (.ref a1), .val (.ref a2), .val (.ref a3), .val (.int p4)] [] := by first | (simp [entryFrame, mkF, argsToLocals, Value.category]; done) | rfl
set_option maxRecDepth 65536 in
set_option maxHeartbeats 40000000 in
theorem rm12 (l : Launch) (Z : State) (a0 : Array Value) (hw : ∀ d ∈ tables_1, d.before a0 Z = true) (ws : List Jvm.Cond) (a1 : Addr) (a2 : Addr) (a3 : Addr) (p4 : Int32) (vs : List Int32) (vt : List Int32) (vr : List Int32) (h0 : Heap) (n0 : Nat) (Z0 : n0 ≤ h0.size) (A_a1 : Ar Z h0 a1 .int vs) (A_a2 : Ar Z h0 a2 .int vt) (A_a3 : Ar Z h0 a3 .boolean vr) (hs : vs.length = 6) (ht : vt.length = 6) (hr : vr.length = 4) (hbv : Bd4 4 vs) : MetQ l Z (⟨"com/example/workflow_soundness/workflowsoundness/analysis/GraphReachedPinLaw", "all", "([I[I[ZI)Z"⟩ : MethodName) (Jvm.Cond.code (⟨"com/example/workflow_soundness/workflowsoundness/analysis/GraphReachedPinLaw", "all", "([I[I[ZI)Z"⟩ : MethodName) method_10_code 4 (some .boolean) :: ws) RM12 #[(.ref a1), (.ref a2), (.ref a3), (.int p4)] h0 (fun v h L => Fr n0 L ∧ h = h0 ∧ v = some (.int (fAll_0 p4 vs vt vr))) := by
  refine MetFree.of_bodySF (plainFor_of_name own_pn0) hisR ?_
  intro p e s m args below meth c s₁ Bd hml0 hP hK
  obtain ⟨rfl, hZ, hh⟩ := hP
  have hx := Bd.exec
  have hby := Bd.bytes
  have hml : c.maxLocals = 4 := hml0
  have hown : s.vm.findClass "com/example/workflow_soundness/workflowsoundness/analysis/GraphReachedPinLaw" = some m.cls := findClass_of_methodNamed Bd.named
  have hnm := (name_of_methodNamed Bd.named Bd.method).1
  have hlk : meth.locks = false := BodyLoose.notSynchronized Bd
  have X0 : Stand p l e RM12 s m #[(.ref a1), (.ref a2), (.ref a3), (.int p4)] below meth c s₁ [] 0 0 := Stand.of_body Bd
  have e0 : s₁.heap = h0 := by rw [← hh, Bd.state]; rfl
  have N0 := Fr.nil n0
  suffices kk : Ends p e below (PostQ s 0 0 (fun v h L => Fr n0 L ∧ h = h0 ∧ v = some (.int (fAll_0 p4 vs vt vr)))) s₁ m 0 #[.val (.ref a1), .val (.ref a2), .val (.ref a3), .val (.int p4)] [] by
    obtain ⟨t, o, k1, k2, k3, k4⟩ := kk
    exact ⟨t, o, castTop (own_ef12 m a1 a2 a3 p4) k1, k2, k3, k4⟩
  refine eALoadN X0 hx (hb hby own_d12_0) rfl rfl rfl ?_
  refine eALoadN X0 hx (hb hby own_d12_1) rfl rfl rfl ?_
  refine eALoadN X0 hx (hb hby own_d12_2) rfl rfl rfl ?_
  refine eILoadN X0 hx (hb hby own_d12_3) rfl rfl ?_
  refine eIConst X0 hx (0 : Int32) (hb hby own_d12_4) rfl rfl ?_
  refine eCallS X0 hx hZ (y := (⟨"com/example/workflow_soundness/workflowsoundness/analysis/GraphReachedPinLaw", "okEdge", "([I[I[ZII)Z"⟩ : MethodName)) hown (hw _ (List.mem_of_getElem? (i := 48) rfl)) (hw _ (List.mem_of_getElem? (i := 49) rfl)) (hw _ (List.mem_of_getElem? (i := 3) rfl)) (hw _ (List.mem_of_getElem? (i := 50) rfl)) (by decide) e0 (rm13 l Z a0 hw [] a1 a2 a3 p4 (0 : Int32) vs vt vr h0 n0 Z0 A_a1 A_a2 A_a3 (own_lit hs (by decide) (by decide)) (own_lit ht (by decide) (by decide)) (own_lit hr (own_bd hbv (own_lit hs (by decide) (by decide))).1 (own_bd hbv (own_lit hs (by decide) (by decide))).2)) (argsL := [(.ref a1), (.ref a2), (.ref a3), (.int p4), (.int (0 : Int32))]) (rest := []) (lenOf own_pd1 rfl) rfl (by rw [hml]; rfl) 0 (by exact Nat.le_refl _) (by decide) (by decide) (by decide) (by decide) (hb hby own_d12_5) rfl (fun v1 T1 L1 q1 (X1 : Stand _ _ _ _ _ _ _ _ _ _ T1 _ 0 0) => ?_)
  obtain ⟨N1', e1, rfl⟩ := q1
  have N1 := Fr.app N0 N1'
  show Ends p e below _ T1 m 8 #[.val (.ref a1), .val (.ref a2), .val (.ref a3), .val (.int p4)] [(.int (fEdge_0 p4 (0 : Int32) vs vt vr))]
  show Ends p e below (PostQ s 0 0 (fun v h L => Fr n0 L ∧ h = h0 ∧ v = some (.int (if (fEdge_0 p4 (0 : Int32) vs vt vr) = (0 : Int32) then (0 : Int32) else (if (fEdge_0 p4 (1 : Int32) vs vt vr) = (0 : Int32) then (0 : Int32) else (if (fEdge_0 p4 (2 : Int32) vs vt vr) = (0 : Int32) then (0 : Int32) else (if (fEdge_0 p4 (3 : Int32) vs vt vr) = (0 : Int32) then (0 : Int32) else (if (fEdge_0 p4 (4 : Int32) vs vt vr) = (0 : Int32) then (0 : Int32) else (if (fEdge_0 p4 (5 : Int32) vs vt vr) = (0 : Int32) then (0 : Int32) else (1 : Int32)))))))))) T1 m 8 #[.val (.ref a1), .val (.ref a2), .val (.ref a3), .val (.int p4)] [(.int (fEdge_0 p4 (0 : Int32) vs vt vr))]
  by_cases c2 : (fEdge_0 p4 (0 : Int32) vs vt vr) = (0 : Int32)
  · rw [if_pos c2]
    refine eIfY X1 hx (hb hby own_d12_8) ((if0 _ _).trans (teq c2).1) (by decide) (pc' := 70) rfl ?_
    refine eIConst X1 hx (0 : Int32) (hb hby own_d12_70) rfl rfl ?_
    exact eRetN X1 hx (t := .boolean) Bd.returns (by simp) hlk (hb hby own_d12_71) (by decide) (by decide) (by rw [e1]; exact ⟨N1, rfl, rfl⟩)
  · rw [if_neg c2]
    refine eIfN X1 hx (hb hby own_d12_8) ((if0 _ _).trans (feq c2).1) rfl ?_
    refine eALoadN X1 hx (hb hby own_d12_11) rfl rfl rfl ?_
    refine eALoadN X1 hx (hb hby own_d12_12) rfl rfl rfl ?_
    refine eALoadN X1 hx (hb hby own_d12_13) rfl rfl rfl ?_
    refine eILoadN X1 hx (hb hby own_d12_14) rfl rfl ?_
    refine eIConst X1 hx (1 : Int32) (hb hby own_d12_15) rfl rfl ?_
    refine eCallS X1 hx hZ (y := (⟨"com/example/workflow_soundness/workflowsoundness/analysis/GraphReachedPinLaw", "okEdge", "([I[I[ZII)Z"⟩ : MethodName)) hown (hw _ (List.mem_of_getElem? (i := 48) rfl)) (hw _ (List.mem_of_getElem? (i := 49) rfl)) (hw _ (List.mem_of_getElem? (i := 3) rfl)) (hw _ (List.mem_of_getElem? (i := 50) rfl)) (by decide) e1 (rm13 l Z a0 hw [] a1 a2 a3 p4 (1 : Int32) vs vt vr h0 n0 Z0 A_a1 A_a2 A_a3 (own_lit hs (by decide) (by decide)) (own_lit ht (by decide) (by decide)) (own_lit hr (own_bd hbv (own_lit hs (by decide) (by decide))).1 (own_bd hbv (own_lit hs (by decide) (by decide))).2)) (argsL := [(.ref a1), (.ref a2), (.ref a3), (.int p4), (.int (1 : Int32))]) (rest := []) (lenOf own_pd1 rfl) rfl (by rw [hml]; rfl) 0 (by exact Nat.le_refl _) (by decide) (by decide) (by decide) (by decide) (hb hby own_d12_16) rfl (fun v3 T3 L3 q3 (X3 : Stand _ _ _ _ _ _ _ _ _ _ T3 _ 0 0) => ?_)
    obtain ⟨N3', e3, rfl⟩ := q3
    have N3 := Fr.app N1 N3'
    show Ends p e below _ T3 m 19 #[.val (.ref a1), .val (.ref a2), .val (.ref a3), .val (.int p4)] [(.int (fEdge_0 p4 (1 : Int32) vs vt vr))]
    show Ends p e below (PostQ s 0 0 (fun v h L => Fr n0 L ∧ h = h0 ∧ v = some (.int (if (fEdge_0 p4 (1 : Int32) vs vt vr) = (0 : Int32) then (0 : Int32) else (if (fEdge_0 p4 (2 : Int32) vs vt vr) = (0 : Int32) then (0 : Int32) else (if (fEdge_0 p4 (3 : Int32) vs vt vr) = (0 : Int32) then (0 : Int32) else (if (fEdge_0 p4 (4 : Int32) vs vt vr) = (0 : Int32) then (0 : Int32) else (if (fEdge_0 p4 (5 : Int32) vs vt vr) = (0 : Int32) then (0 : Int32) else (1 : Int32))))))))) T3 m 19 #[.val (.ref a1), .val (.ref a2), .val (.ref a3), .val (.int p4)] [(.int (fEdge_0 p4 (1 : Int32) vs vt vr))]
    by_cases c4 : (fEdge_0 p4 (1 : Int32) vs vt vr) = (0 : Int32)
    · rw [if_pos c4]
      refine eIfY X3 hx (hb hby own_d12_19) ((if0 _ _).trans (teq c4).1) (by decide) (pc' := 70) rfl ?_
      refine eIConst X3 hx (0 : Int32) (hb hby own_d12_70) rfl rfl ?_
      exact eRetN X3 hx (t := .boolean) Bd.returns (by simp) hlk (hb hby own_d12_71) (by decide) (by decide) (by rw [e3]; exact ⟨N3, rfl, rfl⟩)
    · rw [if_neg c4]
      refine eIfN X3 hx (hb hby own_d12_19) ((if0 _ _).trans (feq c4).1) rfl ?_
      refine eALoadN X3 hx (hb hby own_d12_22) rfl rfl rfl ?_
      refine eALoadN X3 hx (hb hby own_d12_23) rfl rfl rfl ?_
      refine eALoadN X3 hx (hb hby own_d12_24) rfl rfl rfl ?_
      refine eILoadN X3 hx (hb hby own_d12_25) rfl rfl ?_
      refine eIConst X3 hx (2 : Int32) (hb hby own_d12_26) rfl rfl ?_
      refine eCallS X3 hx hZ (y := (⟨"com/example/workflow_soundness/workflowsoundness/analysis/GraphReachedPinLaw", "okEdge", "([I[I[ZII)Z"⟩ : MethodName)) hown (hw _ (List.mem_of_getElem? (i := 48) rfl)) (hw _ (List.mem_of_getElem? (i := 49) rfl)) (hw _ (List.mem_of_getElem? (i := 3) rfl)) (hw _ (List.mem_of_getElem? (i := 50) rfl)) (by decide) e3 (rm13 l Z a0 hw [] a1 a2 a3 p4 (2 : Int32) vs vt vr h0 n0 Z0 A_a1 A_a2 A_a3 (own_lit hs (by decide) (by decide)) (own_lit ht (by decide) (by decide)) (own_lit hr (own_bd hbv (own_lit hs (by decide) (by decide))).1 (own_bd hbv (own_lit hs (by decide) (by decide))).2)) (argsL := [(.ref a1), (.ref a2), (.ref a3), (.int p4), (.int (2 : Int32))]) (rest := []) (lenOf own_pd1 rfl) rfl (by rw [hml]; rfl) 0 (by exact Nat.le_refl _) (by decide) (by decide) (by decide) (by decide) (hb hby own_d12_27) rfl (fun v5 T5 L5 q5 (X5 : Stand _ _ _ _ _ _ _ _ _ _ T5 _ 0 0) => ?_)
      obtain ⟨N5', e5, rfl⟩ := q5
      have N5 := Fr.app N3 N5'
      show Ends p e below _ T5 m 30 #[.val (.ref a1), .val (.ref a2), .val (.ref a3), .val (.int p4)] [(.int (fEdge_0 p4 (2 : Int32) vs vt vr))]
      show Ends p e below (PostQ s 0 0 (fun v h L => Fr n0 L ∧ h = h0 ∧ v = some (.int (if (fEdge_0 p4 (2 : Int32) vs vt vr) = (0 : Int32) then (0 : Int32) else (if (fEdge_0 p4 (3 : Int32) vs vt vr) = (0 : Int32) then (0 : Int32) else (if (fEdge_0 p4 (4 : Int32) vs vt vr) = (0 : Int32) then (0 : Int32) else (if (fEdge_0 p4 (5 : Int32) vs vt vr) = (0 : Int32) then (0 : Int32) else (1 : Int32)))))))) T5 m 30 #[.val (.ref a1), .val (.ref a2), .val (.ref a3), .val (.int p4)] [(.int (fEdge_0 p4 (2 : Int32) vs vt vr))]
      by_cases c6 : (fEdge_0 p4 (2 : Int32) vs vt vr) = (0 : Int32)
      · rw [if_pos c6]
        refine eIfY X5 hx (hb hby own_d12_30) ((if0 _ _).trans (teq c6).1) (by decide) (pc' := 70) rfl ?_
        refine eIConst X5 hx (0 : Int32) (hb hby own_d12_70) rfl rfl ?_
        exact eRetN X5 hx (t := .boolean) Bd.returns (by simp) hlk (hb hby own_d12_71) (by decide) (by decide) (by rw [e5]; exact ⟨N5, rfl, rfl⟩)
      · rw [if_neg c6]
        refine eIfN X5 hx (hb hby own_d12_30) ((if0 _ _).trans (feq c6).1) rfl ?_
        refine eALoadN X5 hx (hb hby own_d12_33) rfl rfl rfl ?_
        refine eALoadN X5 hx (hb hby own_d12_34) rfl rfl rfl ?_
        refine eALoadN X5 hx (hb hby own_d12_35) rfl rfl rfl ?_
        refine eILoadN X5 hx (hb hby own_d12_36) rfl rfl ?_
        refine eIConst X5 hx (3 : Int32) (hb hby own_d12_37) rfl rfl ?_
        refine eCallS X5 hx hZ (y := (⟨"com/example/workflow_soundness/workflowsoundness/analysis/GraphReachedPinLaw", "okEdge", "([I[I[ZII)Z"⟩ : MethodName)) hown (hw _ (List.mem_of_getElem? (i := 48) rfl)) (hw _ (List.mem_of_getElem? (i := 49) rfl)) (hw _ (List.mem_of_getElem? (i := 3) rfl)) (hw _ (List.mem_of_getElem? (i := 50) rfl)) (by decide) e5 (rm13 l Z a0 hw [] a1 a2 a3 p4 (3 : Int32) vs vt vr h0 n0 Z0 A_a1 A_a2 A_a3 (own_lit hs (by decide) (by decide)) (own_lit ht (by decide) (by decide)) (own_lit hr (own_bd hbv (own_lit hs (by decide) (by decide))).1 (own_bd hbv (own_lit hs (by decide) (by decide))).2)) (argsL := [(.ref a1), (.ref a2), (.ref a3), (.int p4), (.int (3 : Int32))]) (rest := []) (lenOf own_pd1 rfl) rfl (by rw [hml]; rfl) 0 (by exact Nat.le_refl _) (by decide) (by decide) (by decide) (by decide) (hb hby own_d12_38) rfl (fun v7 T7 L7 q7 (X7 : Stand _ _ _ _ _ _ _ _ _ _ T7 _ 0 0) => ?_)
        obtain ⟨N7', e7, rfl⟩ := q7
        have N7 := Fr.app N5 N7'
        show Ends p e below _ T7 m 41 #[.val (.ref a1), .val (.ref a2), .val (.ref a3), .val (.int p4)] [(.int (fEdge_0 p4 (3 : Int32) vs vt vr))]
        show Ends p e below (PostQ s 0 0 (fun v h L => Fr n0 L ∧ h = h0 ∧ v = some (.int (if (fEdge_0 p4 (3 : Int32) vs vt vr) = (0 : Int32) then (0 : Int32) else (if (fEdge_0 p4 (4 : Int32) vs vt vr) = (0 : Int32) then (0 : Int32) else (if (fEdge_0 p4 (5 : Int32) vs vt vr) = (0 : Int32) then (0 : Int32) else (1 : Int32))))))) T7 m 41 #[.val (.ref a1), .val (.ref a2), .val (.ref a3), .val (.int p4)] [(.int (fEdge_0 p4 (3 : Int32) vs vt vr))]
        by_cases c8 : (fEdge_0 p4 (3 : Int32) vs vt vr) = (0 : Int32)
        · rw [if_pos c8]
          refine eIfY X7 hx (hb hby own_d12_41) ((if0 _ _).trans (teq c8).1) (by decide) (pc' := 70) rfl ?_
          refine eIConst X7 hx (0 : Int32) (hb hby own_d12_70) rfl rfl ?_
          exact eRetN X7 hx (t := .boolean) Bd.returns (by simp) hlk (hb hby own_d12_71) (by decide) (by decide) (by rw [e7]; exact ⟨N7, rfl, rfl⟩)
        · rw [if_neg c8]
          refine eIfN X7 hx (hb hby own_d12_41) ((if0 _ _).trans (feq c8).1) rfl ?_
          refine eALoadN X7 hx (hb hby own_d12_44) rfl rfl rfl ?_
          refine eALoadN X7 hx (hb hby own_d12_45) rfl rfl rfl ?_
          refine eALoadN X7 hx (hb hby own_d12_46) rfl rfl rfl ?_
          refine eILoadN X7 hx (hb hby own_d12_47) rfl rfl ?_
          refine eIConst X7 hx (4 : Int32) (hb hby own_d12_48) rfl rfl ?_
          refine eCallS X7 hx hZ (y := (⟨"com/example/workflow_soundness/workflowsoundness/analysis/GraphReachedPinLaw", "okEdge", "([I[I[ZII)Z"⟩ : MethodName)) hown (hw _ (List.mem_of_getElem? (i := 48) rfl)) (hw _ (List.mem_of_getElem? (i := 49) rfl)) (hw _ (List.mem_of_getElem? (i := 3) rfl)) (hw _ (List.mem_of_getElem? (i := 50) rfl)) (by decide) e7 (rm13 l Z a0 hw [] a1 a2 a3 p4 (4 : Int32) vs vt vr h0 n0 Z0 A_a1 A_a2 A_a3 (own_lit hs (by decide) (by decide)) (own_lit ht (by decide) (by decide)) (own_lit hr (own_bd hbv (own_lit hs (by decide) (by decide))).1 (own_bd hbv (own_lit hs (by decide) (by decide))).2)) (argsL := [(.ref a1), (.ref a2), (.ref a3), (.int p4), (.int (4 : Int32))]) (rest := []) (lenOf own_pd1 rfl) rfl (by rw [hml]; rfl) 0 (by exact Nat.le_refl _) (by decide) (by decide) (by decide) (by decide) (hb hby own_d12_49) rfl (fun v9 T9 L9 q9 (X9 : Stand _ _ _ _ _ _ _ _ _ _ T9 _ 0 0) => ?_)
          obtain ⟨N9', e9, rfl⟩ := q9
          have N9 := Fr.app N7 N9'
          show Ends p e below _ T9 m 52 #[.val (.ref a1), .val (.ref a2), .val (.ref a3), .val (.int p4)] [(.int (fEdge_0 p4 (4 : Int32) vs vt vr))]
          show Ends p e below (PostQ s 0 0 (fun v h L => Fr n0 L ∧ h = h0 ∧ v = some (.int (if (fEdge_0 p4 (4 : Int32) vs vt vr) = (0 : Int32) then (0 : Int32) else (if (fEdge_0 p4 (5 : Int32) vs vt vr) = (0 : Int32) then (0 : Int32) else (1 : Int32)))))) T9 m 52 #[.val (.ref a1), .val (.ref a2), .val (.ref a3), .val (.int p4)] [(.int (fEdge_0 p4 (4 : Int32) vs vt vr))]
          by_cases c10 : (fEdge_0 p4 (4 : Int32) vs vt vr) = (0 : Int32)
          · rw [if_pos c10]
            refine eIfY X9 hx (hb hby own_d12_52) ((if0 _ _).trans (teq c10).1) (by decide) (pc' := 70) rfl ?_
            refine eIConst X9 hx (0 : Int32) (hb hby own_d12_70) rfl rfl ?_
            exact eRetN X9 hx (t := .boolean) Bd.returns (by simp) hlk (hb hby own_d12_71) (by decide) (by decide) (by rw [e9]; exact ⟨N9, rfl, rfl⟩)
          · rw [if_neg c10]
            refine eIfN X9 hx (hb hby own_d12_52) ((if0 _ _).trans (feq c10).1) rfl ?_
            refine eALoadN X9 hx (hb hby own_d12_55) rfl rfl rfl ?_
            refine eALoadN X9 hx (hb hby own_d12_56) rfl rfl rfl ?_
            refine eALoadN X9 hx (hb hby own_d12_57) rfl rfl rfl ?_
            refine eILoadN X9 hx (hb hby own_d12_58) rfl rfl ?_
            refine eIConst X9 hx (5 : Int32) (hb hby own_d12_59) rfl rfl ?_
            refine eCallS X9 hx hZ (y := (⟨"com/example/workflow_soundness/workflowsoundness/analysis/GraphReachedPinLaw", "okEdge", "([I[I[ZII)Z"⟩ : MethodName)) hown (hw _ (List.mem_of_getElem? (i := 48) rfl)) (hw _ (List.mem_of_getElem? (i := 49) rfl)) (hw _ (List.mem_of_getElem? (i := 3) rfl)) (hw _ (List.mem_of_getElem? (i := 50) rfl)) (by decide) e9 (rm13 l Z a0 hw [] a1 a2 a3 p4 (5 : Int32) vs vt vr h0 n0 Z0 A_a1 A_a2 A_a3 (own_lit hs (by decide) (by decide)) (own_lit ht (by decide) (by decide)) (own_lit hr (own_bd hbv (own_lit hs (by decide) (by decide))).1 (own_bd hbv (own_lit hs (by decide) (by decide))).2)) (argsL := [(.ref a1), (.ref a2), (.ref a3), (.int p4), (.int (5 : Int32))]) (rest := []) (lenOf own_pd1 rfl) rfl (by rw [hml]; rfl) 0 (by exact Nat.le_refl _) (by decide) (by decide) (by decide) (by decide) (hb hby own_d12_60) rfl (fun v11 T11 L11 q11 (X11 : Stand _ _ _ _ _ _ _ _ _ _ T11 _ 0 0) => ?_)
            obtain ⟨N11', e11, rfl⟩ := q11
            have N11 := Fr.app N9 N11'
            show Ends p e below _ T11 m 63 #[.val (.ref a1), .val (.ref a2), .val (.ref a3), .val (.int p4)] [(.int (fEdge_0 p4 (5 : Int32) vs vt vr))]
            show Ends p e below (PostQ s 0 0 (fun v h L => Fr n0 L ∧ h = h0 ∧ v = some (.int (if (fEdge_0 p4 (5 : Int32) vs vt vr) = (0 : Int32) then (0 : Int32) else (1 : Int32))))) T11 m 63 #[.val (.ref a1), .val (.ref a2), .val (.ref a3), .val (.int p4)] [(.int (fEdge_0 p4 (5 : Int32) vs vt vr))]
            by_cases c12 : (fEdge_0 p4 (5 : Int32) vs vt vr) = (0 : Int32)
            · rw [if_pos c12]
              refine eIfY X11 hx (hb hby own_d12_63) ((if0 _ _).trans (teq c12).1) (by decide) (pc' := 70) rfl ?_
              refine eIConst X11 hx (0 : Int32) (hb hby own_d12_70) rfl rfl ?_
              exact eRetN X11 hx (t := .boolean) Bd.returns (by simp) hlk (hb hby own_d12_71) (by decide) (by decide) (by rw [e11]; exact ⟨N11, rfl, rfl⟩)
            · rw [if_neg c12]
              refine eIfN X11 hx (hb hby own_d12_63) ((if0 _ _).trans (feq c12).1) rfl ?_
              refine eIConst X11 hx (1 : Int32) (hb hby own_d12_66) rfl rfl ?_
              refine eGoto X11 hx (hb hby own_d12_67) (by decide) (pc' := 71) rfl ?_
              exact eRetN X11 hx (t := .boolean) Bd.returns (by simp) hlk (hb hby own_d12_71) (by decide) (by decide) (by rw [e11]; exact ⟨N11, rfl, rfl⟩)
theorem own_d7_0 : decode method_11_code 0 = .ok (.aload_n 3, 1) := by decide +kernel
theorem own_d7_1 : decode method_11_code 1 = .ok (.iload 4, 2) := by decide +kernel
theorem own_d7_3 : decode method_11_code 3 = .ok (.baload, 1) := by decide +kernel
theorem own_d7_4 : decode method_11_code 4 = .ok (.ifCond .eq 5, 3) := by decide +kernel
theorem own_d7_9 : decode method_11_code 9 = .ok (.aload_n 1, 1) := by decide +kernel
theorem own_d7_10 : decode method_11_code 10 = .ok (.iload 4, 2) := by decide +kernel
theorem own_d7_12 : decode method_11_code 12 = .ok (.invokestatic 41, 3) := by decide +kernel
theorem own_pd2 : parseMethodDescriptor "([II)Z" = some ⟨[(.array .int), .int], some .boolean⟩ := by decide +kernel
theorem own_d7_15 : decode method_11_code 15 = .ok (.ifCond .ne 5, 3) := by decide +kernel
theorem own_d7_18 : decode method_11_code 18 = .ok (.iconst 0, 1) := by decide +kernel
theorem own_d7_19 : decode method_11_code 19 = .ok (.ireturn, 1) := by decide +kernel
theorem own_d7_20 : decode method_11_code 20 = .ok (.aload_n 2, 1) := by decide +kernel
theorem own_d7_21 : decode method_11_code 21 = .ok (.iload 4, 2) := by decide +kernel
theorem own_d7_23 : decode method_11_code 23 = .ok (.baload, 1) := by decide +kernel
theorem own_d7_24 : decode method_11_code 24 = .ok (.ifCond .eq 14, 3) := by decide +kernel
theorem own_d7_38 : decode method_11_code 38 = .ok (.aload_n 0, 1) := by decide +kernel
theorem own_d7_39 : decode method_11_code 39 = .ok (.aload_n 1, 1) := by decide +kernel
theorem own_d7_40 : decode method_11_code 40 = .ok (.aload_n 3, 1) := by decide +kernel
theorem own_d7_41 : decode method_11_code 41 = .ok (.iload 4, 2) := by decide +kernel
theorem own_d7_43 : decode method_11_code 43 = .ok (.invokestatic 49, 3) := by decide +kernel
theorem own_pd3 : parseMethodDescriptor "([I[I[ZI)Z" = some ⟨[(.array .int), (.array .int), (.array .boolean), .int], some .boolean⟩ := by decide +kernel
theorem own_d7_46 : decode method_11_code 46 = .ok (.ireturn, 1) := by decide +kernel
theorem own_d7_27 : decode method_11_code 27 = .ok (.aload_n 0, 1) := by decide +kernel
theorem own_d7_28 : decode method_11_code 28 = .ok (.aload_n 1, 1) := by decide +kernel
theorem own_d7_29 : decode method_11_code 29 = .ok (.aload_n 3, 1) := by decide +kernel
theorem own_d7_30 : decode method_11_code 30 = .ok (.iload 4, 2) := by decide +kernel
theorem own_d7_32 : decode method_11_code 32 = .ok (.invokestatic 45, 3) := by decide +kernel
theorem own_d7_35 : decode method_11_code 35 = .ok (.goto 11, 3) := by decide +kernel
theorem own_d7_7 : decode method_11_code 7 = .ok (.iconst 1, 1) := by decide +kernel
theorem own_d7_8 : decode method_11_code 8 = .ok (.ireturn, 1) := by decide +kernel
def RM7 : Room := { frames := 2, cells := 0, slots := 0, locals := 31 }
def fNext_0 (p5 : Int32) (vs : List Int32) (vt : List Int32) (vw : List Int32) (vr : List Int32) : Int32 := (if (rd vr p5) = (0 : Int32) then (if (fHas_0 p5 vt) = (0 : Int32) then (0 : Int32) else (if (rd vw p5) = (0 : Int32) then (nar .boolean (fSome_0 p5 vs vt vr)) else (nar .boolean (fAll_0 p5 vs vt vr)))) else (1 : Int32))
theorem own_ef7 (m : MethodId) (a1 : Addr) (a2 : Addr) (a3 : Addr) (a4 : Addr) (p5 : Int32) : entryFrame m #[(.ref a1), (.ref a2), (.ref a3), (.ref a4), (.int p5)] 5 = mkF m 0 #[.val (.ref a1), .val (.ref a2), .val (.ref a3), .val (.ref a4), .val (.int p5)] [] := by first | (simp [entryFrame, mkF, argsToLocals, Value.category]; done) | rfl
set_option maxRecDepth 65536 in
set_option maxHeartbeats 40000000 in
theorem rm7 (l : Launch) (Z : State) (a0 : Array Value) (hw : ∀ d ∈ tables_1, d.before a0 Z = true) (ws : List Jvm.Cond) (a1 : Addr) (a2 : Addr) (a3 : Addr) (a4 : Addr) (p5 : Int32) (vs : List Int32) (vt : List Int32) (vw : List Int32) (vr : List Int32) (h0 : Heap) (n0 : Nat) (Z0 : n0 ≤ h0.size) (A_a1 : Ar Z h0 a1 .int vs) (A_a2 : Ar Z h0 a2 .int vt) (A_a3 : Ar Z h0 a3 .boolean vw) (A_a4 : Ar Z h0 a4 .boolean vr) (hs : vs.length = 6) (ht : vt.length = 6) (hr : vr.length = 4) (hbv : Bd4 4 vs) (hw4 : vw.length = 4) (hv : 0 ≤ p5.toInt ∧ p5.toInt < 4) : MetQ l Z (⟨"com/example/workflow_soundness/workflowsoundness/analysis/GraphReachedPinLaw", "next", "([I[I[Z[ZI)Z"⟩ : MethodName) (Jvm.Cond.code (⟨"com/example/workflow_soundness/workflowsoundness/analysis/GraphReachedPinLaw", "next", "([I[I[Z[ZI)Z"⟩ : MethodName) method_11_code 5 (some .boolean) :: ws) RM7 #[(.ref a1), (.ref a2), (.ref a3), (.ref a4), (.int p5)] h0 (fun v h L => Fr n0 L ∧ h = h0 ∧ v = some (.int (fNext_0 p5 vs vt vw vr))) := by
  refine MetFree.of_bodySF (plainFor_of_name own_pn0) hisR ?_
  intro p e s m args below meth c s₁ Bd hml0 hP hK
  obtain ⟨rfl, hZ, hh⟩ := hP
  have hx := Bd.exec
  have hby := Bd.bytes
  have hml : c.maxLocals = 5 := hml0
  have hown : s.vm.findClass "com/example/workflow_soundness/workflowsoundness/analysis/GraphReachedPinLaw" = some m.cls := findClass_of_methodNamed Bd.named
  have hnm := (name_of_methodNamed Bd.named Bd.method).1
  have hlk : meth.locks = false := BodyLoose.notSynchronized Bd
  have X0 : Stand p l e RM7 s m #[(.ref a1), (.ref a2), (.ref a3), (.ref a4), (.int p5)] below meth c s₁ [] 0 0 := Stand.of_body Bd
  have e0 : s₁.heap = h0 := by rw [← hh, Bd.state]; rfl
  have N0 := Fr.nil n0
  suffices kk : Ends p e below (PostQ s 0 0 (fun v h L => Fr n0 L ∧ h = h0 ∧ v = some (.int (fNext_0 p5 vs vt vw vr)))) s₁ m 0 #[.val (.ref a1), .val (.ref a2), .val (.ref a3), .val (.ref a4), .val (.int p5)] [] by
    obtain ⟨t, o, k1, k2, k3, k4⟩ := kk
    exact ⟨t, o, castTop (own_ef7 m a1 a2 a3 a4 p5) k1, k2, k3, k4⟩
  refine eALoadN X0 hx (hb hby own_d7_0) rfl rfl rfl ?_
  refine eILoad X0 hx (hb hby own_d7_1) rfl rfl ?_
  refine eZALoad X0 hx hZ e0 A_a4 (rd vr p5) rfl (own_lit hr hv.1 hv.2) (hb hby own_d7_3) rfl ?_
  show Ends p e below (PostQ s 0 0 (fun v h L => Fr n0 L ∧ h = h0 ∧ v = some (.int (if (rd vr p5) = (0 : Int32) then (if (fHas_0 p5 vt) = (0 : Int32) then (0 : Int32) else (if (rd vw p5) = (0 : Int32) then (nar .boolean (fSome_0 p5 vs vt vr)) else (nar .boolean (fAll_0 p5 vs vt vr)))) else (1 : Int32))))) s₁ m 4 #[.val (.ref a1), .val (.ref a2), .val (.ref a3), .val (.ref a4), .val (.int p5)] [(.int (rd vr p5))]
  by_cases c1 : (rd vr p5) = (0 : Int32)
  · rw [if_pos c1]
    refine eIfY X0 hx (hb hby own_d7_4) ((if0 _ _).trans (teq c1).1) (by decide) (pc' := 9) rfl ?_
    refine eALoadN X0 hx (hb hby own_d7_9) rfl rfl rfl ?_
    refine eILoad X0 hx (hb hby own_d7_10) rfl rfl ?_
    refine eCallS X0 hx hZ (y := (⟨"com/example/workflow_soundness/workflowsoundness/analysis/GraphReachedPinLaw", "hasIn", "([II)Z"⟩ : MethodName)) hown (hw _ (List.mem_of_getElem? (i := 33) rfl)) (hw _ (List.mem_of_getElem? (i := 34) rfl)) (hw _ (List.mem_of_getElem? (i := 3) rfl)) (hw _ (List.mem_of_getElem? (i := 35) rfl)) (by decide) e0 (rm8 l Z a0 hw [] a2 p5 vt h0 n0 Z0 A_a2 ht) (argsL := [(.ref a2), (.int p5)]) (rest := []) (lenOf own_pd2 rfl) rfl (by rw [hml]; rfl) 0 (by exact Nat.le_refl _) (by decide) (by decide) (by decide) (by decide) (hb hby own_d7_12) rfl (fun v2 T2 L2 q2 (X2 : Stand _ _ _ _ _ _ _ _ _ _ T2 _ 0 0) => ?_)
    obtain ⟨N2', e2, rfl⟩ := q2
    have N2 := Fr.app N0 N2'
    show Ends p e below _ T2 m 15 #[.val (.ref a1), .val (.ref a2), .val (.ref a3), .val (.ref a4), .val (.int p5)] [(.int (fHas_0 p5 vt))]
    show Ends p e below (PostQ s 0 0 (fun v h L => Fr n0 L ∧ h = h0 ∧ v = some (.int (if (fHas_0 p5 vt) = (0 : Int32) then (0 : Int32) else (if (rd vw p5) = (0 : Int32) then (nar .boolean (fSome_0 p5 vs vt vr)) else (nar .boolean (fAll_0 p5 vs vt vr))))))) T2 m 15 #[.val (.ref a1), .val (.ref a2), .val (.ref a3), .val (.ref a4), .val (.int p5)] [(.int (fHas_0 p5 vt))]
    by_cases c3 : (fHas_0 p5 vt) = (0 : Int32)
    · rw [if_pos c3]
      refine eIfN X2 hx (hb hby own_d7_15) ((if0 _ _).trans (teq c3).2) rfl ?_
      refine eIConst X2 hx (0 : Int32) (hb hby own_d7_18) rfl rfl ?_
      exact eRetN X2 hx (t := .boolean) Bd.returns (by simp) hlk (hb hby own_d7_19) (by decide) (by decide) (by rw [e2]; exact ⟨N2, rfl, rfl⟩)
    · rw [if_neg c3]
      refine eIfY X2 hx (hb hby own_d7_15) ((if0 _ _).trans (feq c3).2) (by decide) (pc' := 20) rfl ?_
      refine eALoadN X2 hx (hb hby own_d7_20) rfl rfl rfl ?_
      refine eILoad X2 hx (hb hby own_d7_21) rfl rfl ?_
      refine eZALoad X2 hx hZ e2 A_a3 (rd vw p5) rfl (own_lit hw4 hv.1 hv.2) (hb hby own_d7_23) rfl ?_
      show Ends p e below (PostQ s 0 0 (fun v h L => Fr n0 L ∧ h = h0 ∧ v = some (.int (if (rd vw p5) = (0 : Int32) then (nar .boolean (fSome_0 p5 vs vt vr)) else (nar .boolean (fAll_0 p5 vs vt vr)))))) T2 m 24 #[.val (.ref a1), .val (.ref a2), .val (.ref a3), .val (.ref a4), .val (.int p5)] [(.int (rd vw p5))]
      by_cases c4 : (rd vw p5) = (0 : Int32)
      · rw [if_pos c4]
        refine eIfY X2 hx (hb hby own_d7_24) ((if0 _ _).trans (teq c4).1) (by decide) (pc' := 38) rfl ?_
        refine eALoadN X2 hx (hb hby own_d7_38) rfl rfl rfl ?_
        refine eALoadN X2 hx (hb hby own_d7_39) rfl rfl rfl ?_
        refine eALoadN X2 hx (hb hby own_d7_40) rfl rfl rfl ?_
        refine eILoad X2 hx (hb hby own_d7_41) rfl rfl ?_
        refine eCallS X2 hx hZ (y := (⟨"com/example/workflow_soundness/workflowsoundness/analysis/GraphReachedPinLaw", "some", "([I[I[ZI)Z"⟩ : MethodName)) hown (hw _ (List.mem_of_getElem? (i := 39) rfl)) (hw _ (List.mem_of_getElem? (i := 40) rfl)) (hw _ (List.mem_of_getElem? (i := 3) rfl)) (hw _ (List.mem_of_getElem? (i := 41) rfl)) (by decide) e2 (rm10 l Z a0 hw [] a1 a2 a4 p5 vs vt vr h0 n0 Z0 A_a1 A_a2 A_a4 hs ht hr hbv) (argsL := [(.ref a1), (.ref a2), (.ref a4), (.int p5)]) (rest := []) (lenOf own_pd3 rfl) rfl (by rw [hml]; rfl) 0 (by exact Nat.le_refl _) (by decide) (by decide) (by decide) (by decide) (hb hby own_d7_43) rfl (fun v5 T5 L5 q5 (X5 : Stand _ _ _ _ _ _ _ _ _ _ T5 _ 0 0) => ?_)
        obtain ⟨N5', e5, rfl⟩ := q5
        have N5 := Fr.app N2 N5'
        show Ends p e below _ T5 m 46 #[.val (.ref a1), .val (.ref a2), .val (.ref a3), .val (.ref a4), .val (.int p5)] [(.int (fSome_0 p5 vs vt vr))]
        exact eRetN X5 hx (t := .boolean) Bd.returns (by simp) hlk (hb hby own_d7_46) (by decide) (by decide) (by rw [e5]; exact ⟨N5, rfl, rfl⟩)
      · rw [if_neg c4]
        refine eIfN X2 hx (hb hby own_d7_24) ((if0 _ _).trans (feq c4).1) rfl ?_
        refine eALoadN X2 hx (hb hby own_d7_27) rfl rfl rfl ?_
        refine eALoadN X2 hx (hb hby own_d7_28) rfl rfl rfl ?_
        refine eALoadN X2 hx (hb hby own_d7_29) rfl rfl rfl ?_
        refine eILoad X2 hx (hb hby own_d7_30) rfl rfl ?_
        refine eCallS X2 hx hZ (y := (⟨"com/example/workflow_soundness/workflowsoundness/analysis/GraphReachedPinLaw", "all", "([I[I[ZI)Z"⟩ : MethodName)) hown (hw _ (List.mem_of_getElem? (i := 45) rfl)) (hw _ (List.mem_of_getElem? (i := 46) rfl)) (hw _ (List.mem_of_getElem? (i := 3) rfl)) (hw _ (List.mem_of_getElem? (i := 47) rfl)) (by decide) e2 (rm12 l Z a0 hw [] a1 a2 a4 p5 vs vt vr h0 n0 Z0 A_a1 A_a2 A_a4 hs ht hr hbv) (argsL := [(.ref a1), (.ref a2), (.ref a4), (.int p5)]) (rest := []) (lenOf own_pd3 rfl) rfl (by rw [hml]; rfl) 0 (by exact Nat.le_refl _) (by decide) (by decide) (by decide) (by decide) (hb hby own_d7_32) rfl (fun v6 T6 L6 q6 (X6 : Stand _ _ _ _ _ _ _ _ _ _ T6 _ 0 0) => ?_)
        obtain ⟨N6', e6, rfl⟩ := q6
        have N6 := Fr.app N2 N6'
        show Ends p e below _ T6 m 35 #[.val (.ref a1), .val (.ref a2), .val (.ref a3), .val (.ref a4), .val (.int p5)] [(.int (fAll_0 p5 vs vt vr))]
        refine eGoto X6 hx (hb hby own_d7_35) (by decide) (pc' := 46) rfl ?_
        exact eRetN X6 hx (t := .boolean) Bd.returns (by simp) hlk (hb hby own_d7_46) (by decide) (by decide) (by rw [e6]; exact ⟨N6, rfl, rfl⟩)
  · rw [if_neg c1]
    refine eIfN X0 hx (hb hby own_d7_4) ((if0 _ _).trans (feq c1).1) rfl ?_
    refine eIConst X0 hx (1 : Int32) (hb hby own_d7_7) rfl rfl ?_
    exact eRetN X0 hx (t := .boolean) Bd.returns (by simp) hlk (hb hby own_d7_8) (by decide) (by decide) (by rw [e0]; exact ⟨N0, rfl, rfl⟩)
theorem own_d6_0 : decode method_12_code 0 = .ok (.iconst 4, 1) := by decide +kernel
theorem own_d6_1 : decode method_12_code 1 = .ok (.newarray .boolean, 2) := by decide +kernel
theorem own_d6_3 : decode method_12_code 3 = .ok (.dup, 1) := by decide +kernel
theorem own_d6_4 : decode method_12_code 4 = .ok (.iconst 0, 1) := by decide +kernel
theorem own_d6_5 : decode method_12_code 5 = .ok (.aload_n 0, 1) := by decide +kernel
theorem own_d6_6 : decode method_12_code 6 = .ok (.aload_n 1, 1) := by decide +kernel
theorem own_d6_7 : decode method_12_code 7 = .ok (.aload_n 2, 1) := by decide +kernel
theorem own_d6_8 : decode method_12_code 8 = .ok (.aload_n 3, 1) := by decide +kernel
theorem own_d6_9 : decode method_12_code 9 = .ok (.iconst 0, 1) := by decide +kernel
theorem own_d6_10 : decode method_12_code 10 = .ok (.invokestatic 52, 3) := by decide +kernel
theorem own_pd4 : parseMethodDescriptor "([I[I[Z[ZI)Z" = some ⟨[(.array .int), (.array .int), (.array .boolean), (.array .boolean), .int], some .boolean⟩ := by decide +kernel
theorem own_d6_13 : decode method_12_code 13 = .ok (.bastore, 1) := by decide +kernel
theorem own_d6_14 : decode method_12_code 14 = .ok (.dup, 1) := by decide +kernel
theorem own_d6_15 : decode method_12_code 15 = .ok (.iconst 1, 1) := by decide +kernel
theorem own_d6_16 : decode method_12_code 16 = .ok (.aload_n 0, 1) := by decide +kernel
theorem own_d6_17 : decode method_12_code 17 = .ok (.aload_n 1, 1) := by decide +kernel
theorem own_d6_18 : decode method_12_code 18 = .ok (.aload_n 2, 1) := by decide +kernel
theorem own_d6_19 : decode method_12_code 19 = .ok (.aload_n 3, 1) := by decide +kernel
theorem own_d6_20 : decode method_12_code 20 = .ok (.iconst 1, 1) := by decide +kernel
theorem own_d6_21 : decode method_12_code 21 = .ok (.invokestatic 52, 3) := by decide +kernel
theorem own_d6_24 : decode method_12_code 24 = .ok (.bastore, 1) := by decide +kernel
theorem own_d6_25 : decode method_12_code 25 = .ok (.dup, 1) := by decide +kernel
theorem own_d6_26 : decode method_12_code 26 = .ok (.iconst 2, 1) := by decide +kernel
theorem own_d6_27 : decode method_12_code 27 = .ok (.aload_n 0, 1) := by decide +kernel
theorem own_d6_28 : decode method_12_code 28 = .ok (.aload_n 1, 1) := by decide +kernel
theorem own_d6_29 : decode method_12_code 29 = .ok (.aload_n 2, 1) := by decide +kernel
theorem own_d6_30 : decode method_12_code 30 = .ok (.aload_n 3, 1) := by decide +kernel
theorem own_d6_31 : decode method_12_code 31 = .ok (.iconst 2, 1) := by decide +kernel
theorem own_d6_32 : decode method_12_code 32 = .ok (.invokestatic 52, 3) := by decide +kernel
theorem own_d6_35 : decode method_12_code 35 = .ok (.bastore, 1) := by decide +kernel
theorem own_d6_36 : decode method_12_code 36 = .ok (.dup, 1) := by decide +kernel
theorem own_d6_37 : decode method_12_code 37 = .ok (.iconst 3, 1) := by decide +kernel
theorem own_d6_38 : decode method_12_code 38 = .ok (.aload_n 0, 1) := by decide +kernel
theorem own_d6_39 : decode method_12_code 39 = .ok (.aload_n 1, 1) := by decide +kernel
theorem own_d6_40 : decode method_12_code 40 = .ok (.aload_n 2, 1) := by decide +kernel
theorem own_d6_41 : decode method_12_code 41 = .ok (.aload_n 3, 1) := by decide +kernel
theorem own_d6_42 : decode method_12_code 42 = .ok (.iconst 3, 1) := by decide +kernel
theorem own_d6_43 : decode method_12_code 43 = .ok (.invokestatic 52, 3) := by decide +kernel
theorem own_d6_46 : decode method_12_code 46 = .ok (.bastore, 1) := by decide +kernel
theorem own_d6_47 : decode method_12_code 47 = .ok (.areturn, 1) := by decide +kernel
def RM6 : Room := { frames := 3, cells := 1, slots := 4, locals := 50 }
def fStep_0 (vs : List Int32) (vt : List Int32) (vw : List Int32) (vr : List Int32) : (List Int32) := [(nar .boolean (fNext_0 (0 : Int32) vs vt vw vr)), (nar .boolean (fNext_0 (1 : Int32) vs vt vw vr)), (nar .boolean (fNext_0 (2 : Int32) vs vt vw vr)), (nar .boolean (fNext_0 (3 : Int32) vs vt vw vr))]
theorem own_ef6 (m : MethodId) (a1 : Addr) (a2 : Addr) (a3 : Addr) (a4 : Addr) : entryFrame m #[(.ref a1), (.ref a2), (.ref a3), (.ref a4)] 4 = mkF m 0 #[.val (.ref a1), .val (.ref a2), .val (.ref a3), .val (.ref a4)] [] := by first | (simp [entryFrame, mkF, argsToLocals, Value.category]; done) | rfl
set_option maxRecDepth 65536 in
set_option maxHeartbeats 40000000 in
theorem rm6 (l : Launch) (Z : State) (a0 : Array Value) (hw : ∀ d ∈ tables_1, d.before a0 Z = true) (ws : List Jvm.Cond) (a1 : Addr) (a2 : Addr) (a3 : Addr) (a4 : Addr) (vs : List Int32) (vt : List Int32) (vw : List Int32) (vr : List Int32) (h0 : Heap) (n0 : Nat) (Z0 : n0 ≤ h0.size) (A_a1 : Ar Z h0 a1 .int vs) (A_a2 : Ar Z h0 a2 .int vt) (A_a3 : Ar Z h0 a3 .boolean vw) (A_a4 : Ar Z h0 a4 .boolean vr) (hs : vs.length = 6) (ht : vt.length = 6) (hr : vr.length = 4) (hbv : Bd4 4 vs) (hw4 : vw.length = 4) : MetQ l Z (⟨"com/example/workflow_soundness/workflowsoundness/analysis/GraphReachedPinLaw", "step", "([I[I[Z[Z)[Z"⟩ : MethodName) (Jvm.Cond.code (⟨"com/example/workflow_soundness/workflowsoundness/analysis/GraphReachedPinLaw", "step", "([I[I[Z[Z)[Z"⟩ : MethodName) method_12_code 4 (some (.array .boolean)) :: ws) RM6 #[(.ref a1), (.ref a2), (.ref a3), (.ref a4)] h0 (fun v h L => Fr n0 L ∧ Keep h0 h [] ∧ ∃ (c1 : Addr), h0.size ≤ c1 ∧ v = some (.ref c1) ∧ Ar Z h a1 .int vs ∧ Ar Z h a2 .int vt ∧ Ar Z h a3 .boolean vw ∧ Ar Z h a4 .boolean vr ∧ Ar Z h c1 .boolean (fStep_0 vs vt vw vr)) := by
  refine MetFree.of_bodySF (plainFor_of_name own_pn0) hisR ?_
  intro p e s m args below meth c s₁ Bd hml0 hP hK
  obtain ⟨rfl, hZ, hh⟩ := hP
  have hx := Bd.exec
  have hby := Bd.bytes
  have hml : c.maxLocals = 4 := hml0
  have hown : s.vm.findClass "com/example/workflow_soundness/workflowsoundness/analysis/GraphReachedPinLaw" = some m.cls := findClass_of_methodNamed Bd.named
  have hnm := (name_of_methodNamed Bd.named Bd.method).1
  have hlk : meth.locks = false := BodyLoose.notSynchronized Bd
  have X0 : Stand p l e RM6 s m #[(.ref a1), (.ref a2), (.ref a3), (.ref a4)] below meth c s₁ [] 0 0 := Stand.of_body Bd
  have e0 : s₁.heap = h0 := by rw [← hh, Bd.state]; rfl
  have N0 := Fr.nil n0
  have K0 := Keep.refl h0 []
  suffices kk : Ends p e below (PostQ s 1 4 (fun v h L => Fr n0 L ∧ Keep h0 h [] ∧ ∃ (c1 : Addr), h0.size ≤ c1 ∧ v = some (.ref c1) ∧ Ar Z h a1 .int vs ∧ Ar Z h a2 .int vt ∧ Ar Z h a3 .boolean vw ∧ Ar Z h a4 .boolean vr ∧ Ar Z h c1 .boolean (fStep_0 vs vt vw vr))) s₁ m 0 #[.val (.ref a1), .val (.ref a2), .val (.ref a3), .val (.ref a4)] [] by
    obtain ⟨t, o, k1, k2, k3, k4⟩ := kk
    exact ⟨t, o, castTop (own_ef6 m a1 a2 a3 a4) k1, k2, k3, k4⟩
  refine eIConst X0 hx (4 : Int32) (hb hby own_d6_0) rfl rfl ?_
  refine eNewA X0 hx hZ rfl rfl (hw _ (List.mem_of_getElem? (i := 5) rfl)) e0 (hb hby own_d6_1) (by decide) (cap := 4) (by decide) (by decide) (by decide) (by decide) rfl (fun T1 h1 ad1 g1 X1 e1 E1 A1 => ?_)
  have ne_a1_ad1 : a1 ≠ ad1 := Nat.ne_of_lt (Nat.lt_of_lt_of_le A_a1.lt (Nat.le_of_eq g1.symm))
  have ne_a2_ad1 : a2 ≠ ad1 := Nat.ne_of_lt (Nat.lt_of_lt_of_le A_a2.lt (Nat.le_of_eq g1.symm))
  have ne_a3_ad1 : a3 ≠ ad1 := Nat.ne_of_lt (Nat.lt_of_lt_of_le A_a3.lt (Nat.le_of_eq g1.symm))
  have ne_a4_ad1 : a4 ≠ ad1 := Nat.ne_of_lt (Nat.lt_of_lt_of_le A_a4.lt (Nat.le_of_eq g1.symm))
  have A_a1 := A_a1.ext E1
  have A_a2 := A_a2.ext E1
  have A_a3 := A_a3.ext E1
  have A_a4 := A_a4.ext E1
  have Z1 := Nat.le_trans Z0 E1.1
  have ge_ad1 : n0 ≤ ad1 := Nat.le_trans Z0 (Nat.le_of_eq g1.symm)
  have gk_ad1 : h0.size ≤ ad1 := Nat.le_trans K0.1 (Nat.le_of_eq g1.symm)
  have K1 : Keep h0 h1 [] := K0.ext E1
  have A1 : Ar Z h1 ad1 .boolean [(0 : Int32), (0 : Int32), (0 : Int32), (0 : Int32)] := A1
  refine eDup X1 hx (hb hby own_d6_3) rfl rfl ?_
  refine eIConst X1 hx (0 : Int32) (hb hby own_d6_4) rfl rfl ?_
  refine eALoadN X1 hx (hb hby own_d6_5) rfl rfl rfl ?_
  refine eALoadN X1 hx (hb hby own_d6_6) rfl rfl rfl ?_
  refine eALoadN X1 hx (hb hby own_d6_7) rfl rfl rfl ?_
  refine eALoadN X1 hx (hb hby own_d6_8) rfl rfl rfl ?_
  refine eIConst X1 hx (0 : Int32) (hb hby own_d6_9) rfl rfl ?_
  refine eCallS X1 hx hZ (y := (⟨"com/example/workflow_soundness/workflowsoundness/analysis/GraphReachedPinLaw", "next", "([I[I[Z[ZI)Z"⟩ : MethodName)) hown (hw _ (List.mem_of_getElem? (i := 30) rfl)) (hw _ (List.mem_of_getElem? (i := 31) rfl)) (hw _ (List.mem_of_getElem? (i := 3) rfl)) (hw _ (List.mem_of_getElem? (i := 32) rfl)) (by decide) e1 (rm7 l Z a0 hw [] a1 a2 a3 a4 (0 : Int32) vs vt vw vr h1 n0 Z1 A_a1 A_a2 A_a3 A_a4 hs ht hr hbv hw4 (by decide)) (argsL := [(.ref a1), (.ref a2), (.ref a3), (.ref a4), (.int (0 : Int32))]) (rest := [(.int (0 : Int32)), (.ref ad1), (.ref ad1)]) (lenOf own_pd4 rfl) rfl (by rw [hml]; rfl) 3 (by exact Nat.le_refl _) (by decide) (by decide) (by decide) (by decide) (hb hby own_d6_10) rfl (fun v2 T2 L2 q2 (X2 : Stand _ _ _ _ _ _ _ _ _ _ T2 _ 1 4) => ?_)
  obtain ⟨N2', e2, rfl⟩ := q2
  have N2 := Fr.app N0 N2'
  show Ends p e below _ T2 m 13 #[.val (.ref a1), .val (.ref a2), .val (.ref a3), .val (.ref a4)] [(.int (fNext_0 (0 : Int32) vs vt vw vr)), (.int (0 : Int32)), (.ref ad1), (.ref ad1)]
  refine eZAStore X2 hx hZ e2 A1 (inbL (n := 4) rfl (by decide)) (hb hby own_d6_13) rfl (fun T3 h3 X3 e3 W3 B3 => ?_)
  have A_a1 := A_a1.other W3 ne_a1_ad1
  have A_a2 := A_a2.other W3 ne_a2_ad1
  have A_a3 := A_a3.other W3 ne_a3_ad1
  have A_a4 := A_a4.other W3 ne_a4_ad1
  have A1 : Ar Z h3 ad1 .boolean [(nar .boolean (fNext_0 (0 : Int32) vs vt vw vr)), (0 : Int32), (0 : Int32), (0 : Int32)] := B3
  have N3 := Fr.snoc X3 N2 ge_ad1
  have Z3 := Nat.le_trans Z1 (Keep.of_wr W3).1
  have K3 : Keep h0 h3 [] := K1.wr W3 (Or.inr gk_ad1)
  refine eDup X3 hx (hb hby own_d6_14) rfl rfl ?_
  refine eIConst X3 hx (1 : Int32) (hb hby own_d6_15) rfl rfl ?_
  refine eALoadN X3 hx (hb hby own_d6_16) rfl rfl rfl ?_
  refine eALoadN X3 hx (hb hby own_d6_17) rfl rfl rfl ?_
  refine eALoadN X3 hx (hb hby own_d6_18) rfl rfl rfl ?_
  refine eALoadN X3 hx (hb hby own_d6_19) rfl rfl rfl ?_
  refine eIConst X3 hx (1 : Int32) (hb hby own_d6_20) rfl rfl ?_
  refine eCallS X3 hx hZ (y := (⟨"com/example/workflow_soundness/workflowsoundness/analysis/GraphReachedPinLaw", "next", "([I[I[Z[ZI)Z"⟩ : MethodName)) hown (hw _ (List.mem_of_getElem? (i := 30) rfl)) (hw _ (List.mem_of_getElem? (i := 31) rfl)) (hw _ (List.mem_of_getElem? (i := 3) rfl)) (hw _ (List.mem_of_getElem? (i := 32) rfl)) (by decide) e3 (rm7 l Z a0 hw [] a1 a2 a3 a4 (1 : Int32) vs vt vw vr h3 n0 Z3 A_a1 A_a2 A_a3 A_a4 hs ht hr hbv hw4 (by decide)) (argsL := [(.ref a1), (.ref a2), (.ref a3), (.ref a4), (.int (1 : Int32))]) (rest := [(.int (1 : Int32)), (.ref ad1), (.ref ad1)]) (lenOf own_pd4 rfl) rfl (by rw [hml]; rfl) 3 (by exact Nat.le_refl _) (by decide) (by decide) (by decide) (by decide) (hb hby own_d6_21) rfl (fun v4 T4 L4 q4 (X4 : Stand _ _ _ _ _ _ _ _ _ _ T4 _ 1 4) => ?_)
  obtain ⟨N4', e4, rfl⟩ := q4
  have N4 := Fr.app N3 N4'
  show Ends p e below _ T4 m 24 #[.val (.ref a1), .val (.ref a2), .val (.ref a3), .val (.ref a4)] [(.int (fNext_0 (1 : Int32) vs vt vw vr)), (.int (1 : Int32)), (.ref ad1), (.ref ad1)]
  refine eZAStore X4 hx hZ e4 A1 (inbL (n := 4) rfl (by decide)) (hb hby own_d6_24) rfl (fun T5 h5 X5 e5 W5 B5 => ?_)
  have A_a1 := A_a1.other W5 ne_a1_ad1
  have A_a2 := A_a2.other W5 ne_a2_ad1
  have A_a3 := A_a3.other W5 ne_a3_ad1
  have A_a4 := A_a4.other W5 ne_a4_ad1
  have A1 : Ar Z h5 ad1 .boolean [(nar .boolean (fNext_0 (0 : Int32) vs vt vw vr)), (nar .boolean (fNext_0 (1 : Int32) vs vt vw vr)), (0 : Int32), (0 : Int32)] := B5
  have N5 := Fr.snoc X5 N4 ge_ad1
  have Z5 := Nat.le_trans Z3 (Keep.of_wr W5).1
  have K5 : Keep h0 h5 [] := K3.wr W5 (Or.inr gk_ad1)
  refine eDup X5 hx (hb hby own_d6_25) rfl rfl ?_
  refine eIConst X5 hx (2 : Int32) (hb hby own_d6_26) rfl rfl ?_
  refine eALoadN X5 hx (hb hby own_d6_27) rfl rfl rfl ?_
  refine eALoadN X5 hx (hb hby own_d6_28) rfl rfl rfl ?_
  refine eALoadN X5 hx (hb hby own_d6_29) rfl rfl rfl ?_
  refine eALoadN X5 hx (hb hby own_d6_30) rfl rfl rfl ?_
  refine eIConst X5 hx (2 : Int32) (hb hby own_d6_31) rfl rfl ?_
  refine eCallS X5 hx hZ (y := (⟨"com/example/workflow_soundness/workflowsoundness/analysis/GraphReachedPinLaw", "next", "([I[I[Z[ZI)Z"⟩ : MethodName)) hown (hw _ (List.mem_of_getElem? (i := 30) rfl)) (hw _ (List.mem_of_getElem? (i := 31) rfl)) (hw _ (List.mem_of_getElem? (i := 3) rfl)) (hw _ (List.mem_of_getElem? (i := 32) rfl)) (by decide) e5 (rm7 l Z a0 hw [] a1 a2 a3 a4 (2 : Int32) vs vt vw vr h5 n0 Z5 A_a1 A_a2 A_a3 A_a4 hs ht hr hbv hw4 (by decide)) (argsL := [(.ref a1), (.ref a2), (.ref a3), (.ref a4), (.int (2 : Int32))]) (rest := [(.int (2 : Int32)), (.ref ad1), (.ref ad1)]) (lenOf own_pd4 rfl) rfl (by rw [hml]; rfl) 3 (by exact Nat.le_refl _) (by decide) (by decide) (by decide) (by decide) (hb hby own_d6_32) rfl (fun v6 T6 L6 q6 (X6 : Stand _ _ _ _ _ _ _ _ _ _ T6 _ 1 4) => ?_)
  obtain ⟨N6', e6, rfl⟩ := q6
  have N6 := Fr.app N5 N6'
  show Ends p e below _ T6 m 35 #[.val (.ref a1), .val (.ref a2), .val (.ref a3), .val (.ref a4)] [(.int (fNext_0 (2 : Int32) vs vt vw vr)), (.int (2 : Int32)), (.ref ad1), (.ref ad1)]
  refine eZAStore X6 hx hZ e6 A1 (inbL (n := 4) rfl (by decide)) (hb hby own_d6_35) rfl (fun T7 h7 X7 e7 W7 B7 => ?_)
  have A_a1 := A_a1.other W7 ne_a1_ad1
  have A_a2 := A_a2.other W7 ne_a2_ad1
  have A_a3 := A_a3.other W7 ne_a3_ad1
  have A_a4 := A_a4.other W7 ne_a4_ad1
  have A1 : Ar Z h7 ad1 .boolean [(nar .boolean (fNext_0 (0 : Int32) vs vt vw vr)), (nar .boolean (fNext_0 (1 : Int32) vs vt vw vr)), (nar .boolean (fNext_0 (2 : Int32) vs vt vw vr)), (0 : Int32)] := B7
  have N7 := Fr.snoc X7 N6 ge_ad1
  have Z7 := Nat.le_trans Z5 (Keep.of_wr W7).1
  have K7 : Keep h0 h7 [] := K5.wr W7 (Or.inr gk_ad1)
  refine eDup X7 hx (hb hby own_d6_36) rfl rfl ?_
  refine eIConst X7 hx (3 : Int32) (hb hby own_d6_37) rfl rfl ?_
  refine eALoadN X7 hx (hb hby own_d6_38) rfl rfl rfl ?_
  refine eALoadN X7 hx (hb hby own_d6_39) rfl rfl rfl ?_
  refine eALoadN X7 hx (hb hby own_d6_40) rfl rfl rfl ?_
  refine eALoadN X7 hx (hb hby own_d6_41) rfl rfl rfl ?_
  refine eIConst X7 hx (3 : Int32) (hb hby own_d6_42) rfl rfl ?_
  refine eCallS X7 hx hZ (y := (⟨"com/example/workflow_soundness/workflowsoundness/analysis/GraphReachedPinLaw", "next", "([I[I[Z[ZI)Z"⟩ : MethodName)) hown (hw _ (List.mem_of_getElem? (i := 30) rfl)) (hw _ (List.mem_of_getElem? (i := 31) rfl)) (hw _ (List.mem_of_getElem? (i := 3) rfl)) (hw _ (List.mem_of_getElem? (i := 32) rfl)) (by decide) e7 (rm7 l Z a0 hw [] a1 a2 a3 a4 (3 : Int32) vs vt vw vr h7 n0 Z7 A_a1 A_a2 A_a3 A_a4 hs ht hr hbv hw4 (by decide)) (argsL := [(.ref a1), (.ref a2), (.ref a3), (.ref a4), (.int (3 : Int32))]) (rest := [(.int (3 : Int32)), (.ref ad1), (.ref ad1)]) (lenOf own_pd4 rfl) rfl (by rw [hml]; rfl) 3 (by exact Nat.le_refl _) (by decide) (by decide) (by decide) (by decide) (hb hby own_d6_43) rfl (fun v8 T8 L8 q8 (X8 : Stand _ _ _ _ _ _ _ _ _ _ T8 _ 1 4) => ?_)
  obtain ⟨N8', e8, rfl⟩ := q8
  have N8 := Fr.app N7 N8'
  show Ends p e below _ T8 m 46 #[.val (.ref a1), .val (.ref a2), .val (.ref a3), .val (.ref a4)] [(.int (fNext_0 (3 : Int32) vs vt vw vr)), (.int (3 : Int32)), (.ref ad1), (.ref ad1)]
  refine eZAStore X8 hx hZ e8 A1 (inbL (n := 4) rfl (by decide)) (hb hby own_d6_46) rfl (fun T9 h9 X9 e9 W9 B9 => ?_)
  have A_a1 := A_a1.other W9 ne_a1_ad1
  have A_a2 := A_a2.other W9 ne_a2_ad1
  have A_a3 := A_a3.other W9 ne_a3_ad1
  have A_a4 := A_a4.other W9 ne_a4_ad1
  have A1 : Ar Z h9 ad1 .boolean [(nar .boolean (fNext_0 (0 : Int32) vs vt vw vr)), (nar .boolean (fNext_0 (1 : Int32) vs vt vw vr)), (nar .boolean (fNext_0 (2 : Int32) vs vt vw vr)), (nar .boolean (fNext_0 (3 : Int32) vs vt vw vr))] := B9
  have N9 := Fr.snoc X9 N8 ge_ad1
  have Z9 := Nat.le_trans Z7 (Keep.of_wr W9).1
  have K9 : Keep h0 h9 [] := K7.wr W9 (Or.inr gk_ad1)
  exact eRetA X9 hx Bd.returns rfl rfl rfl hlk (hb hby own_d6_47) (by decide) (by decide) (by rw [e9]; exact ⟨N9, K9, ad1, gk_ad1, rfl, A_a1, A_a2, A_a3, A_a4, A1⟩)
theorem own_pn1 : plainName "com/example/workflow_soundness/workflowsoundness/analysis/Graph" = true := by first | (simp [plainName, overriddenIn]; done) | decide +kernel
theorem own_d3_0 : decode prog_23_method_1_code 0 = .ok (.aload_n 0, 1) := by decide +kernel
theorem own_d3_1 : decode prog_23_method_1_code 1 = .ok (.invokespecial 1, 3) := by decide +kernel
theorem own_d3_4 : decode prog_23_method_1_code 4 = .ok (.aload_n 0, 1) := by decide +kernel
theorem own_d3_5 : decode prog_23_method_1_code 5 = .ok (.aload_n 1, 1) := by decide +kernel
theorem own_d3_6 : decode prog_23_method_1_code 6 = .ok (.putfield 7, 3) := by decide +kernel
theorem own_d3_9 : decode prog_23_method_1_code 9 = .ok (.aload_n 0, 1) := by decide +kernel
theorem own_d3_10 : decode prog_23_method_1_code 10 = .ok (.aload_n 2, 1) := by decide +kernel
theorem own_d3_11 : decode prog_23_method_1_code 11 = .ok (.putfield 13, 3) := by decide +kernel
theorem own_d3_14 : decode prog_23_method_1_code 14 = .ok (.return_, 1) := by decide +kernel
def RM3 : Room := { frames := 1, cells := 0, slots := 0, locals := 12 }
theorem own_ef3 (m : MethodId) (a1 : Addr) (a2 : Addr) (a3 : Addr) : entryFrame m #[(.ref a1), (.ref a2), (.ref a3)] 3 = mkF m 0 #[.val (.ref a1), .val (.ref a2), .val (.ref a3)] [] := by first | (simp [entryFrame, mkF, argsToLocals, Value.category]; done) | rfl
set_option maxRecDepth 65536 in
set_option maxHeartbeats 40000000 in
theorem rm3 (l : Launch) (Z : State) (a0 : Array Value) (hw : ∀ d ∈ tables_1, d.before a0 Z = true) (ws : List Jvm.Cond) (a1 : Addr) (a2 : Addr) (a3 : Addr) (h0 : Heap) (n0 : Nat) (Z0 : n0 ≤ h0.size) (E_a1 : Exa Z h0 a1 "com/example/workflow_soundness/workflowsoundness/analysis/Graph") (F_a1__first : Fld Z h0 a1 "com/example/workflow_soundness/workflowsoundness/analysis/Graph" "_first" "[I" .null) (F_a1__targets : Fld Z h0 a1 "com/example/workflow_soundness/workflowsoundness/analysis/Graph" "_targets" "[I" .null) (ge_a1 : n0 ≤ a1) : MetQ l Z (⟨"com/example/workflow_soundness/workflowsoundness/analysis/Graph", "<init>", "([I[I)V"⟩ : MethodName) (Jvm.Cond.code (⟨"com/example/workflow_soundness/workflowsoundness/analysis/Graph", "<init>", "([I[I)V"⟩ : MethodName) prog_23_method_1_code 3 none :: ws) RM3 #[(.ref a1), (.ref a2), (.ref a3)] h0 (fun v h L => Fr n0 L ∧ Keep h0 h [a1] ∧ v = none ∧ Exa Z h a1 "com/example/workflow_soundness/workflowsoundness/analysis/Graph" ∧ Fld Z h a1 "com/example/workflow_soundness/workflowsoundness/analysis/Graph" "_first" "[I" (.ref a2) ∧ Fld Z h a1 "com/example/workflow_soundness/workflowsoundness/analysis/Graph" "_targets" "[I" (.ref a3)) := by
  refine MetFree.of_bodySF (plainFor_of_name own_pn1) hisR ?_
  intro p e s m args below meth c s₁ Bd hml0 hP hK
  obtain ⟨rfl, hZ, hh⟩ := hP
  have hx := Bd.exec
  have hby := Bd.bytes
  have hml : c.maxLocals = 3 := hml0
  have hown : s.vm.findClass "com/example/workflow_soundness/workflowsoundness/analysis/Graph" = some m.cls := findClass_of_methodNamed Bd.named
  have hnm := (name_of_methodNamed Bd.named Bd.method).1
  have hlk : meth.locks = false := BodyLoose.notSynchronized Bd
  have X0 : Stand p l e RM3 s m #[(.ref a1), (.ref a2), (.ref a3)] below meth c s₁ [] 0 0 := Stand.of_body Bd
  have e0 : s₁.heap = h0 := by rw [← hh, Bd.state]; rfl
  have N0 := Fr.nil n0
  have K0 := Keep.refl h0 [a1]
  suffices kk : Ends p e below (PostQ s 0 0 (fun v h L => Fr n0 L ∧ Keep h0 h [a1] ∧ v = none ∧ Exa Z h a1 "com/example/workflow_soundness/workflowsoundness/analysis/Graph" ∧ Fld Z h a1 "com/example/workflow_soundness/workflowsoundness/analysis/Graph" "_first" "[I" (.ref a2) ∧ Fld Z h a1 "com/example/workflow_soundness/workflowsoundness/analysis/Graph" "_targets" "[I" (.ref a3))) s₁ m 0 #[.val (.ref a1), .val (.ref a2), .val (.ref a3)] [] by
    obtain ⟨t, o, k1, k2, k3, k4⟩ := kk
    exact ⟨t, o, castTop (own_ef3 m a1 a2 a3) k1, k2, k3, k4⟩
  refine eALoadN X0 hx (hb hby own_d3_0) rfl rfl rfl ?_
  refine eInitO X0 hx hZ hown (hw _ (List.mem_of_getElem? (i := 15) rfl)) (hw _ (List.mem_of_getElem? (i := 16) rfl)) (hw _ (List.mem_of_getElem? (i := 17) rfl)) e0 (by rw [hml]; rfl) (hb hby own_d3_1) (by decide) 0 (by exact Nat.le_refl _) (by decide) rfl (fun T1 X1 e1 => ?_)
  refine eALoadN X1 hx (hb hby own_d3_4) rfl rfl rfl ?_
  refine eALoadN X1 hx (hb hby own_d3_5) rfl rfl rfl ?_
  refine ePutF X1 hx hZ hown (hw _ (List.mem_of_getElem? (i := 18) rfl)) Via.refl e1 F_a1__first E_a1 (Or.inr ⟨(hw _ (List.mem_of_getElem? (i := 19) rfl)), rfl, hnm⟩) (hw _ (List.mem_of_getElem? (i := 10) rfl)) (ty := (.array .int)) (by decide) rfl rfl (hb hby own_d3_6) rfl (fun T2 h2 X2 e2 W2 => ?_)
  have E_a1 := E_a1.wr W2
  have F_a1__targets := F_a1__targets.other W2 (Or.inr (slot_ne (Or.inr (hw _ (List.mem_of_getElem? (i := 21) rfl))) (Or.inr (hw _ (List.mem_of_getElem? (i := 19) rfl))) (by decide) (t := (.array .int)) (t' := (.array .int)) (by decide) (by decide)))
  have F_a1__first := F_a1__first.same W2
  have N2 := Fr.snoc X2 N0 ge_a1
  have Z2 := Nat.le_trans Z0 (Keep.of_wr W2).1
  have K2 : Keep h0 h2 [a1] := K0.wr W2 (Or.inl (List.mem_of_getElem? (i := 0) rfl))
  refine eALoadN X2 hx (hb hby own_d3_9) rfl rfl rfl ?_
  refine eALoadN X2 hx (hb hby own_d3_10) rfl rfl rfl ?_
  refine ePutF X2 hx hZ hown (hw _ (List.mem_of_getElem? (i := 20) rfl)) Via.refl e2 F_a1__targets E_a1 (Or.inr ⟨(hw _ (List.mem_of_getElem? (i := 21) rfl)), rfl, hnm⟩) (hw _ (List.mem_of_getElem? (i := 10) rfl)) (ty := (.array .int)) (by decide) rfl rfl (hb hby own_d3_11) rfl (fun T3 h3 X3 e3 W3 => ?_)
  have E_a1 := E_a1.wr W3
  have F_a1__first := F_a1__first.other W3 (Or.inr (slot_ne (Or.inr (hw _ (List.mem_of_getElem? (i := 19) rfl))) (Or.inr (hw _ (List.mem_of_getElem? (i := 21) rfl))) (by decide) (t := (.array .int)) (t' := (.array .int)) (by decide) (by decide)))
  have F_a1__targets := F_a1__targets.same W3
  have N3 := Fr.snoc X3 N2 ge_a1
  have Z3 := Nat.le_trans Z2 (Keep.of_wr W3).1
  have K3 : Keep h0 h3 [a1] := K2.wr W3 (Or.inl (List.mem_of_getElem? (i := 0) rfl))
  exact eRetV X3 hx Bd.returns hlk (hb hby own_d3_14) (by decide) (by decide) (by rw [e3]; exact ⟨N3, K3, rfl, E_a1, F_a1__first, F_a1__targets⟩)
/-- the queue and the marks: as many marks as places of the queue are used -/
def BQ (r q : List Int32) (n : Int32) : Prop := r.length = 4 ∧ q.length = 4 ∧ Bd4 2 r ∧ Bd4 4 q ∧ n.toInt = (r.map Int32.toInt).sum
theorem own_four {x : Int32} (h : 0 ≤ x.toInt ∧ x.toInt < 4) : x = 0 ∨ x = 1 ∨ x = 2 ∨ x = 3 := by
  simp only [← Int32.toInt_inj, Int32.reduceToInt]; omega
theorem own_l4 {r : List Int32} (h : r.length = 4) : ∃ a b c d, r = [a, b, c, d] := by
  match r, h with
  | [a, b, c, d], _ => exact ⟨a, b, c, d, rfl⟩
theorem own_bqn {r q : List Int32} {n : Int32} (B : BQ r q n) : 0 ≤ n.toInt ∧ n.toInt ≤ 4 := by
  obtain ⟨h1, h2, h3, h4, h5⟩ := B
  obtain ⟨a, b, c, d, rfl⟩ := own_l4 h1
  have ha := h3 a (by simp)
  have hb := h3 b (by simp)
  have hc := h3 c (by simp)
  have hd := h3 d (by simp)
  simp only [List.map_cons, List.map_nil, List.sum_cons, List.sum_nil] at h5
  omega
theorem own_bq {r q : List Int32} {n x : Int32} (B : BQ r q n) (hx : 0 ≤ x.toInt ∧ x.toInt < 4) (c : rd r x = 0) : n.toInt < 4 ∧ (n + 1).toInt = n.toInt + 1 ∧ BQ (wr r x 1) (wr q n x) (n + 1) := by
  have hn := own_bqn B
  obtain ⟨h1, h2, h3, h4, h5⟩ := B
  obtain ⟨a, b, c', d, rfl⟩ := own_l4 h1
  have ha := h3 a (by simp)
  have hb := h3 b (by simp)
  have hc := h3 c' (by simp)
  have hd := h3 d (by simp)
  have e := c_iadd n 1
  have re := rng32 (n + 1)
  simp only [List.map_cons, List.map_nil, List.sum_cons, List.sum_nil, Int32.reduceToInt] at h5 e
  have k : n.toInt < 4 ∧ ((wr [a, b, c', d] x 1).map Int32.toInt).sum = n.toInt + 1 := by
    rcases own_four hx with rfl | rfl | rfl | rfl
    · have : a = 0 := c
      subst this
      refine ⟨by simp only [Int32.reduceToInt] at h5; omega, ?_⟩
      show (([1, b, c', d] : List Int32).map Int32.toInt).sum = _
      simp only [List.map_cons, List.map_nil, List.sum_cons, List.sum_nil, Int32.reduceToInt] at h5 ⊢; omega
    · have : b = 0 := c
      subst this
      refine ⟨by simp only [Int32.reduceToInt] at h5; omega, ?_⟩
      show (([a, 1, c', d] : List Int32).map Int32.toInt).sum = _
      simp only [List.map_cons, List.map_nil, List.sum_cons, List.sum_nil, Int32.reduceToInt] at h5 ⊢; omega
    · have : c' = 0 := c
      subst this
      refine ⟨by simp only [Int32.reduceToInt] at h5; omega, ?_⟩
      show (([a, b, 1, d] : List Int32).map Int32.toInt).sum = _
      simp only [List.map_cons, List.map_nil, List.sum_cons, List.sum_nil, Int32.reduceToInt] at h5 ⊢; omega
    · have : d = 0 := c
      subst this
      refine ⟨by simp only [Int32.reduceToInt] at h5; omega, ?_⟩
      show (([a, b, c', 1] : List Int32).map Int32.toInt).sum = _
      simp only [List.map_cons, List.map_nil, List.sum_cons, List.sum_nil, Int32.reduceToInt] at h5 ⊢; omega
  refine ⟨k.1, by omega, by rw [own_wl]; exact h1, by rw [own_wl]; exact h2, own_bdw h3 (by decide), own_bdw h4 hx, ?_⟩
  rw [k.2]; omega
theorem own_z4 (k : Int) (h : 0 < k) : Bd4 k [(0 : Int32), (0 : Int32), (0 : Int32), (0 : Int32)] := by
  intro x hx
  have : x = 0 := by simpa using hx
  rw [this]; exact ⟨by decide, h⟩
theorem own_turn {i n : Int32} {k : Nat} (hk : (n.toInt - i.toInt).toNat < k + 1) (c : i < n) : (n.toInt - (i + 1).toInt).toNat < k := by
  have := own_up c
  simp only [Int32.lt_iff_toInt_lt] at c
  omega
theorem own_pos {i n : Int32} (h : 0 ≤ i.toInt) (c : i < n) : 0 ≤ (i + 1).toInt := by
  have := own_up c
  omega
theorem own_turnC {i n : Int32} {k : Nat} (hk : (4 - i.toInt).toNat < k + 1) (hn : n.toInt ≤ 4) (c : i < n) : (4 - (i + 1).toInt).toNat < k := by
  have := own_up c
  simp only [Int32.lt_iff_toInt_lt] at c
  omega
theorem own_inl {vs : List Int32} {i n : Int32} (h : 0 ≤ i.toInt) (c : i < n) (hn : n.toInt ≤ vs.length) : InB vs i := by
  simp only [Int32.lt_iff_toInt_lt] at c
  exact own_inb h (by omega)
theorem own_n1 {x : Int32} (h : 0 ≤ x.toInt ∧ x.toInt < 4) : 0 ≤ (x + 1).toInt ∧ (x + 1).toInt < 5 := by
  rcases own_four h with rfl | rfl | rfl | rfl <;> decide
theorem own_ofn {vs : List Int32} (h : vs.length ≤ 3) : (Int32.ofNat vs.length).toInt = vs.length := Int32.toInt_ofNat_of_lt (by omega)
theorem own_d5_0 : decode prog_23_method_11_code 0 = .ok (.aload_n 0, 1) := by decide +kernel
theorem own_d5_1 : decode prog_23_method_11_code 1 = .ok (.getfield 7, 3) := by decide +kernel
theorem own_d5_4 : decode prog_23_method_11_code 4 = .ok (.arraylength, 1) := by decide +kernel
theorem own_d5_5 : decode prog_23_method_11_code 5 = .ok (.iconst 1, 1) := by decide +kernel
theorem own_d5_6 : decode prog_23_method_11_code 6 = .ok (.isub, 1) := by decide +kernel
theorem own_d5_7 : decode prog_23_method_11_code 7 = .ok (.newarray .boolean, 2) := by decide +kernel
theorem own_d5_9 : decode prog_23_method_11_code 9 = .ok (.astore_n 3, 1) := by decide +kernel
theorem own_d5_10 : decode prog_23_method_11_code 10 = .ok (.aload_n 3, 1) := by decide +kernel
theorem own_d5_11 : decode prog_23_method_11_code 11 = .ok (.arraylength, 1) := by decide +kernel
theorem own_d5_12 : decode prog_23_method_11_code 12 = .ok (.newarray .int, 2) := by decide +kernel
theorem own_d5_14 : decode prog_23_method_11_code 14 = .ok (.astore 4, 2) := by decide +kernel
theorem own_d5_16 : decode prog_23_method_11_code 16 = .ok (.iconst 0, 1) := by decide +kernel
theorem own_d5_17 : decode prog_23_method_11_code 17 = .ok (.istore 5, 2) := by decide +kernel
theorem own_d5_19 : decode prog_23_method_11_code 19 = .ok (.aload_n 2, 1) := by decide +kernel
theorem own_d5_20 : decode prog_23_method_11_code 20 = .ok (.astore 6, 2) := by decide +kernel
theorem own_d5_22 : decode prog_23_method_11_code 22 = .ok (.aload 6, 2) := by decide +kernel
theorem own_d5_24 : decode prog_23_method_11_code 24 = .ok (.arraylength, 1) := by decide +kernel
theorem own_d5_25 : decode prog_23_method_11_code 25 = .ok (.istore 7, 2) := by decide +kernel
theorem own_d5_27 : decode prog_23_method_11_code 27 = .ok (.iconst 0, 1) := by decide +kernel
theorem own_d5_28 : decode prog_23_method_11_code 28 = .ok (.istore 8, 2) := by decide +kernel
theorem own_d5_30 : decode prog_23_method_11_code 30 = .ok (.iload 8, 2) := by decide +kernel
theorem own_d5_32 : decode prog_23_method_11_code 32 = .ok (.iload 7, 2) := by decide +kernel
theorem own_d5_34 : decode prog_23_method_11_code 34 = .ok (.if_icmp .ge 38, 3) := by decide +kernel
theorem own_d5_37 : decode prog_23_method_11_code 37 = .ok (.aload 6, 2) := by decide +kernel
theorem own_d5_39 : decode prog_23_method_11_code 39 = .ok (.iload 8, 2) := by decide +kernel
theorem own_d5_41 : decode prog_23_method_11_code 41 = .ok (.iaload, 1) := by decide +kernel
theorem own_d5_42 : decode prog_23_method_11_code 42 = .ok (.istore 9, 2) := by decide +kernel
theorem own_d5_44 : decode prog_23_method_11_code 44 = .ok (.aload_n 3, 1) := by decide +kernel
theorem own_d5_45 : decode prog_23_method_11_code 45 = .ok (.iload 9, 2) := by decide +kernel
theorem own_d5_47 : decode prog_23_method_11_code 47 = .ok (.baload, 1) := by decide +kernel
theorem own_d5_48 : decode prog_23_method_11_code 48 = .ok (.ifCond .ne 18, 3) := by decide +kernel
theorem own_d5_51 : decode prog_23_method_11_code 51 = .ok (.aload_n 3, 1) := by decide +kernel
theorem own_d5_52 : decode prog_23_method_11_code 52 = .ok (.iload 9, 2) := by decide +kernel
theorem own_d5_54 : decode prog_23_method_11_code 54 = .ok (.iconst 1, 1) := by decide +kernel
theorem own_d5_55 : decode prog_23_method_11_code 55 = .ok (.bastore, 1) := by decide +kernel
theorem own_d5_56 : decode prog_23_method_11_code 56 = .ok (.aload 4, 2) := by decide +kernel
theorem own_d5_58 : decode prog_23_method_11_code 58 = .ok (.iload 5, 2) := by decide +kernel
theorem own_d5_60 : decode prog_23_method_11_code 60 = .ok (.iinc 5 1, 3) := by decide +kernel
theorem own_d5_63 : decode prog_23_method_11_code 63 = .ok (.iload 9, 2) := by decide +kernel
theorem own_d5_65 : decode prog_23_method_11_code 65 = .ok (.iastore, 1) := by decide +kernel
theorem own_d5_66 : decode prog_23_method_11_code 66 = .ok (.iinc 8 1, 3) := by decide +kernel
theorem own_d5_69 : decode prog_23_method_11_code 69 = .ok (.goto (-39), 3) := by decide +kernel
theorem own_d5_72 : decode prog_23_method_11_code 72 = .ok (.aload_n 3, 1) := by decide +kernel
theorem own_d5_73 : decode prog_23_method_11_code 73 = .ok (.arraylength, 1) := by decide +kernel
theorem own_d5_74 : decode prog_23_method_11_code 74 = .ok (.newarray .int, 2) := by decide +kernel
theorem own_d5_76 : decode prog_23_method_11_code 76 = .ok (.astore 6, 2) := by decide +kernel
theorem own_d5_78 : decode prog_23_method_11_code 78 = .ok (.aload_n 0, 1) := by decide +kernel
theorem own_d5_79 : decode prog_23_method_11_code 79 = .ok (.getfield 13, 3) := by decide +kernel
theorem own_d5_82 : decode prog_23_method_11_code 82 = .ok (.astore 7, 2) := by decide +kernel
theorem own_d5_84 : decode prog_23_method_11_code 84 = .ok (.aload 7, 2) := by decide +kernel
theorem own_d5_86 : decode prog_23_method_11_code 86 = .ok (.arraylength, 1) := by decide +kernel
theorem own_d5_87 : decode prog_23_method_11_code 87 = .ok (.istore 8, 2) := by decide +kernel
theorem own_d5_89 : decode prog_23_method_11_code 89 = .ok (.iconst 0, 1) := by decide +kernel
theorem own_d5_90 : decode prog_23_method_11_code 90 = .ok (.istore 9, 2) := by decide +kernel
theorem own_d5_92 : decode prog_23_method_11_code 92 = .ok (.iload 9, 2) := by decide +kernel
theorem own_d5_94 : decode prog_23_method_11_code 94 = .ok (.iload 8, 2) := by decide +kernel
theorem own_d5_96 : decode prog_23_method_11_code 96 = .ok (.if_icmp .ge 32, 3) := by decide +kernel
theorem own_d5_99 : decode prog_23_method_11_code 99 = .ok (.aload 7, 2) := by decide +kernel
theorem own_d5_101 : decode prog_23_method_11_code 101 = .ok (.iload 9, 2) := by decide +kernel
theorem own_d5_103 : decode prog_23_method_11_code 103 = .ok (.iaload, 1) := by decide +kernel
theorem own_d5_104 : decode prog_23_method_11_code 104 = .ok (.istore 10, 2) := by decide +kernel
theorem own_d5_106 : decode prog_23_method_11_code 106 = .ok (.aload_n 1, 1) := by decide +kernel
theorem own_d5_107 : decode prog_23_method_11_code 107 = .ok (.iload 10, 2) := by decide +kernel
theorem own_d5_109 : decode prog_23_method_11_code 109 = .ok (.baload, 1) := by decide +kernel
theorem own_d5_110 : decode prog_23_method_11_code 110 = .ok (.ifCond .eq 12, 3) := by decide +kernel
theorem own_d5_122 : decode prog_23_method_11_code 122 = .ok (.iinc 9 1, 3) := by decide +kernel
theorem own_d5_125 : decode prog_23_method_11_code 125 = .ok (.goto (-33), 3) := by decide +kernel
theorem own_d5_113 : decode prog_23_method_11_code 113 = .ok (.aload 6, 2) := by decide +kernel
theorem own_d5_115 : decode prog_23_method_11_code 115 = .ok (.iload 10, 2) := by decide +kernel
theorem own_d5_117 : decode prog_23_method_11_code 117 = .ok (.dup2, 1) := by decide +kernel
theorem own_d5_118 : decode prog_23_method_11_code 118 = .ok (.iaload, 1) := by decide +kernel
theorem own_d5_119 : decode prog_23_method_11_code 119 = .ok (.iconst 1, 1) := by decide +kernel
theorem own_d5_120 : decode prog_23_method_11_code 120 = .ok (.iadd, 1) := by decide +kernel
theorem own_d5_121 : decode prog_23_method_11_code 121 = .ok (.iastore, 1) := by decide +kernel
theorem own_d5_128 : decode prog_23_method_11_code 128 = .ok (.iconst 0, 1) := by decide +kernel
theorem own_d5_129 : decode prog_23_method_11_code 129 = .ok (.istore 7, 2) := by decide +kernel
theorem own_d5_131 : decode prog_23_method_11_code 131 = .ok (.iload 7, 2) := by decide +kernel
theorem own_d5_133 : decode prog_23_method_11_code 133 = .ok (.iload 5, 2) := by decide +kernel
theorem own_d5_135 : decode prog_23_method_11_code 135 = .ok (.if_icmp .ge 99, 3) := by decide +kernel
theorem own_d5_138 : decode prog_23_method_11_code 138 = .ok (.aload 4, 2) := by decide +kernel
theorem own_d5_140 : decode prog_23_method_11_code 140 = .ok (.iload 7, 2) := by decide +kernel
theorem own_d5_142 : decode prog_23_method_11_code 142 = .ok (.iaload, 1) := by decide +kernel
theorem own_d5_143 : decode prog_23_method_11_code 143 = .ok (.istore 8, 2) := by decide +kernel
theorem own_d5_145 : decode prog_23_method_11_code 145 = .ok (.aload_n 0, 1) := by decide +kernel
theorem own_d5_146 : decode prog_23_method_11_code 146 = .ok (.getfield 7, 3) := by decide +kernel
theorem own_d5_149 : decode prog_23_method_11_code 149 = .ok (.iload 8, 2) := by decide +kernel
theorem own_d5_151 : decode prog_23_method_11_code 151 = .ok (.iaload, 1) := by decide +kernel
theorem own_d5_152 : decode prog_23_method_11_code 152 = .ok (.istore 9, 2) := by decide +kernel
theorem own_d5_154 : decode prog_23_method_11_code 154 = .ok (.iload 9, 2) := by decide +kernel
theorem own_d5_156 : decode prog_23_method_11_code 156 = .ok (.aload_n 0, 1) := by decide +kernel
theorem own_d5_157 : decode prog_23_method_11_code 157 = .ok (.getfield 7, 3) := by decide +kernel
theorem own_d5_160 : decode prog_23_method_11_code 160 = .ok (.iload 8, 2) := by decide +kernel
theorem own_d5_162 : decode prog_23_method_11_code 162 = .ok (.iconst 1, 1) := by decide +kernel
theorem own_d5_163 : decode prog_23_method_11_code 163 = .ok (.iadd, 1) := by decide +kernel
theorem own_d5_164 : decode prog_23_method_11_code 164 = .ok (.iaload, 1) := by decide +kernel
theorem own_d5_165 : decode prog_23_method_11_code 165 = .ok (.if_icmp .ge 63, 3) := by decide +kernel
theorem own_d5_168 : decode prog_23_method_11_code 168 = .ok (.aload_n 0, 1) := by decide +kernel
theorem own_d5_169 : decode prog_23_method_11_code 169 = .ok (.getfield 13, 3) := by decide +kernel
theorem own_d5_172 : decode prog_23_method_11_code 172 = .ok (.iload 9, 2) := by decide +kernel
theorem own_d5_174 : decode prog_23_method_11_code 174 = .ok (.iaload, 1) := by decide +kernel
theorem own_d5_175 : decode prog_23_method_11_code 175 = .ok (.istore 10, 2) := by decide +kernel
theorem own_d5_177 : decode prog_23_method_11_code 177 = .ok (.aload_n 3, 1) := by decide +kernel
theorem own_d5_178 : decode prog_23_method_11_code 178 = .ok (.iload 10, 2) := by decide +kernel
theorem own_d5_180 : decode prog_23_method_11_code 180 = .ok (.baload, 1) := by decide +kernel
theorem own_d5_181 : decode prog_23_method_11_code 181 = .ok (.ifCond .ne 41, 3) := by decide +kernel
theorem own_d5_184 : decode prog_23_method_11_code 184 = .ok (.aload_n 1, 1) := by decide +kernel
theorem own_d5_185 : decode prog_23_method_11_code 185 = .ok (.iload 10, 2) := by decide +kernel
theorem own_d5_187 : decode prog_23_method_11_code 187 = .ok (.baload, 1) := by decide +kernel
theorem own_d5_188 : decode prog_23_method_11_code 188 = .ok (.ifCond .eq 19, 3) := by decide +kernel
theorem own_d5_207 : decode prog_23_method_11_code 207 = .ok (.aload_n 3, 1) := by decide +kernel
theorem own_d5_208 : decode prog_23_method_11_code 208 = .ok (.iload 10, 2) := by decide +kernel
theorem own_d5_210 : decode prog_23_method_11_code 210 = .ok (.iconst 1, 1) := by decide +kernel
theorem own_d5_211 : decode prog_23_method_11_code 211 = .ok (.bastore, 1) := by decide +kernel
theorem own_d5_212 : decode prog_23_method_11_code 212 = .ok (.aload 4, 2) := by decide +kernel
theorem own_d5_214 : decode prog_23_method_11_code 214 = .ok (.iload 5, 2) := by decide +kernel
theorem own_d5_216 : decode prog_23_method_11_code 216 = .ok (.iinc 5 1, 3) := by decide +kernel
theorem own_d5_219 : decode prog_23_method_11_code 219 = .ok (.iload 10, 2) := by decide +kernel
theorem own_d5_221 : decode prog_23_method_11_code 221 = .ok (.iastore, 1) := by decide +kernel
theorem own_d5_222 : decode prog_23_method_11_code 222 = .ok (.iinc 9 1, 3) := by decide +kernel
theorem own_d5_225 : decode prog_23_method_11_code 225 = .ok (.goto (-71), 3) := by decide +kernel
theorem own_d5_191 : decode prog_23_method_11_code 191 = .ok (.aload 6, 2) := by decide +kernel
theorem own_d5_193 : decode prog_23_method_11_code 193 = .ok (.iload 10, 2) := by decide +kernel
theorem own_d5_195 : decode prog_23_method_11_code 195 = .ok (.dup2, 1) := by decide +kernel
theorem own_d5_196 : decode prog_23_method_11_code 196 = .ok (.iaload, 1) := by decide +kernel
theorem own_d5_197 : decode prog_23_method_11_code 197 = .ok (.iconst 1, 1) := by decide +kernel
theorem own_d5_198 : decode prog_23_method_11_code 198 = .ok (.isub, 1) := by decide +kernel
theorem own_d5_199 : decode prog_23_method_11_code 199 = .ok (.dup_x2, 1) := by decide +kernel
theorem own_d5_200 : decode prog_23_method_11_code 200 = .ok (.iastore, 1) := by decide +kernel
theorem own_d5_201 : decode prog_23_method_11_code 201 = .ok (.ifCond .le 6, 3) := by decide +kernel
theorem own_d5_204 : decode prog_23_method_11_code 204 = .ok (.goto 18, 3) := by decide +kernel
theorem own_d5_228 : decode prog_23_method_11_code 228 = .ok (.iinc 7 1, 3) := by decide +kernel
theorem own_d5_231 : decode prog_23_method_11_code 231 = .ok (.goto (-100), 3) := by decide +kernel
theorem own_d5_234 : decode prog_23_method_11_code 234 = .ok (.aload_n 3, 1) := by decide +kernel
theorem own_d5_235 : decode prog_23_method_11_code 235 = .ok (.areturn, 1) := by decide +kernel
def RM5 : Room := { frames := 0, cells := 3, slots := 12, locals := 0 }
def fRe_154 (g23 : Int32 → Int32 → Int32 → Int32 → List Int32 → List Int32 → List Int32 → (List Int32)) (vF : List Int32) (vT : List Int32) (vW : List Int32) (v7_25 : Int32) (vs30 : List Int32) : Nat → Int32 → Int32 → List Int32 → List Int32 → List Int32 → (List Int32)
  | 0, v5_35, v9_36, vs38, vs39, vs40 => []
  | k34 + 1, v5_35, v9_36, vs38, vs39, vs40 => (if v9_36 < (rd vF ((rd vs30 v7_25) + (1 : Int32))) then (if (rd vs38 (rd vT v9_36)) = (0 : Int32) then (if (rd vW (rd vT v9_36)) = (0 : Int32) then (fRe_154 g23 vF vT vW v7_25 vs30 k34 (v5_35 + (1 : Int32)) (v9_36 + (1 : Int32)) (wr vs38 (rd vT v9_36) (1 : Int32)) (wr vs39 v5_35 (rd vT v9_36)) vs40) else (if (0 : Int32) < ((rd vs40 (rd vT v9_36)) - (1 : Int32)) then (fRe_154 g23 vF vT vW v7_25 vs30 k34 v5_35 (v9_36 + (1 : Int32)) vs38 vs39 (wr vs40 (rd vT v9_36) ((rd vs40 (rd vT v9_36)) - (1 : Int32)))) else (fRe_154 g23 vF vT vW v7_25 vs30 k34 (v5_35 + (1 : Int32)) (v9_36 + (1 : Int32)) (wr vs38 (rd vT v9_36) (1 : Int32)) (wr vs39 v5_35 (rd vT v9_36)) (wr vs40 (rd vT v9_36) ((rd vs40 (rd vT v9_36)) - (1 : Int32)))))) else (fRe_154 g23 vF vT vW v7_25 vs30 k34 v5_35 (v9_36 + (1 : Int32)) vs38 vs39 vs40)) else (g23 v5_35 (v7_25 + (1 : Int32)) (rd vs30 v7_25) v9_36 vs38 vs39 vs40))
def fRe_131 (vF : List Int32) (vT : List Int32) (vW : List Int32) : Nat → Int32 → Int32 → Int32 → Int32 → List Int32 → List Int32 → List Int32 → (List Int32)
  | 0, v5_24, v7_25, v8_26, v9_27, vs29, vs30, vs31 => []
  | k23 + 1, v5_24, v7_25, v8_26, v9_27, vs29, vs30, vs31 => (if v7_25 < v5_24 then (fRe_154 (fun y0 y1 y2 y3 y4 y5 y6 => (fRe_131 vF vT vW k23 y0 y1 y2 y3 y4 y5 y6)) vF vT vW v7_25 vs30 7 v5_24 (rd vF (rd vs30 v7_25)) vs29 vs30 vs31) else vs29)
def fRe_92 (vF : List Int32) (vT : List Int32) (vW : List Int32) (v5_5 : Int32) (vs8 : List Int32) (vs9 : List Int32) : Nat → Int32 → List Int32 → (List Int32)
  | 0, v9_17, vs19 => []
  | k16 + 1, v9_17, vs19 => (if v9_17 < (6 : Int32) then (if (rd vW (rd vT v9_17)) = (0 : Int32) then (fRe_92 vF vT vW v5_5 vs8 vs9 k16 (v9_17 + (1 : Int32)) vs19) else (fRe_92 vF vT vW v5_5 vs8 vs9 k16 (v9_17 + (1 : Int32)) (wr vs19 (rd vT v9_17) ((rd vs19 (rd vT v9_17)) + (1 : Int32))))) else (fRe_131 vF vT vW 5 v5_5 (0 : Int32) (6 : Int32) v9_17 vs8 vs9 vs19))
def fRe_30 (vF : List Int32) (vT : List Int32) (vW : List Int32) (vS : List Int32) : Nat → Int32 → Int32 → List Int32 → List Int32 → (List Int32)
  | 0, v5_5, v8_6, vs8, vs9 => []
  | k4 + 1, v5_5, v8_6, vs8, vs9 => (if v8_6 < (Int32.ofNat vS.length) then (if (rd vs8 (rd vS v8_6)) = (0 : Int32) then (fRe_30 vF vT vW vS k4 (v5_5 + (1 : Int32)) (v8_6 + (1 : Int32)) (wr vs8 (rd vS v8_6) (1 : Int32)) (wr vs9 v5_5 (rd vS v8_6))) else (fRe_30 vF vT vW vS k4 v5_5 (v8_6 + (1 : Int32)) vs8 vs9)) else (fRe_92 vF vT vW v5_5 vs8 vs9 7 (0 : Int32) [(0 : Int32), (0 : Int32), (0 : Int32), (0 : Int32)]))
def fRe_0 (vF : List Int32) (vT : List Int32) (vW : List Int32) (vS : List Int32) : (List Int32) := (fRe_30 vF vT vW vS 4 (0 : Int32) (0 : Int32) [(0 : Int32), (0 : Int32), (0 : Int32), (0 : Int32)] [(0 : Int32), (0 : Int32), (0 : Int32), (0 : Int32)])
theorem own_ef5 (m : MethodId) (a1 : Addr) (a2 : Addr) (a3 : Addr) : entryFrame m #[(.ref a1), (.ref a2), (.ref a3)] 11 = mkF m 0 #[.val (.ref a1), .val (.ref a2), .val (.ref a3), .unset, .unset, .unset, .unset, .unset, .unset, .unset, .unset] [] := by first | (simp [entryFrame, mkF, argsToLocals, Value.category]; done) | rfl
set_option maxRecDepth 65536 in
set_option maxHeartbeats 40000000 in
theorem rm5 (l : Launch) (Z : State) (a0 : Array Value) (hw : ∀ d ∈ tables_1, d.before a0 Z = true) (ws : List Jvm.Cond) (a1 : Addr) (a2 : Addr) (a3 : Addr) (b1 : Addr) (b2 : Addr) (vF : List Int32) (vT : List Int32) (vW : List Int32) (vS : List Int32) (h0 : Heap) (n0 : Nat) (Z0 : n0 ≤ h0.size) (F_a1__first : Fld Z h0 a1 "com/example/workflow_soundness/workflowsoundness/analysis/Graph" "_first" "[I" (.ref b1)) (F_a1__targets : Fld Z h0 a1 "com/example/workflow_soundness/workflowsoundness/analysis/Graph" "_targets" "[I" (.ref b2)) (A_b1 : Ar Z h0 b1 .int vF) (A_b2 : Ar Z h0 b2 .int vT) (A_a2 : Ar Z h0 a2 .boolean vW) (A_a3 : Ar Z h0 a3 .int vS) (hFl : vF.length = 5) (hFv : Bd4 7 vF) (hTl : vT.length = 6) (hTv : Bd4 4 vT) (hWl : vW.length = 4) (hSl : vS.length ≤ 3) (hSv : Bd4 4 vS) : MetQ l Z (⟨"com/example/workflow_soundness/workflowsoundness/analysis/Graph", "reached", "([Z[I)[Z"⟩ : MethodName) (Jvm.Cond.code (⟨"com/example/workflow_soundness/workflowsoundness/analysis/Graph", "reached", "([Z[I)[Z"⟩ : MethodName) prog_23_method_11_code 11 (some (.array .boolean)) :: ws) RM5 #[(.ref a1), (.ref a2), (.ref a3)] h0 (fun v h L => Fr n0 L ∧ Keep h0 h [] ∧ ∃ (c1 : Addr), h0.size ≤ c1 ∧ v = some (.ref c1) ∧ Fld Z h a1 "com/example/workflow_soundness/workflowsoundness/analysis/Graph" "_first" "[I" (.ref b1) ∧ Fld Z h a1 "com/example/workflow_soundness/workflowsoundness/analysis/Graph" "_targets" "[I" (.ref b2) ∧ Ar Z h b1 .int vF ∧ Ar Z h b2 .int vT ∧ Ar Z h a2 .boolean vW ∧ Ar Z h a3 .int vS ∧ Ar Z h c1 .boolean (fRe_0 vF vT vW vS)) := by
  refine MetFree.of_bodySF (plainFor_of_name own_pn1) hisR ?_
  intro p e s m args below meth c s₁ Bd hml0 hP hK
  obtain ⟨rfl, hZ, hh⟩ := hP
  have hx := Bd.exec
  have hby := Bd.bytes
  have hml : c.maxLocals = 11 := hml0
  have hown : s.vm.findClass "com/example/workflow_soundness/workflowsoundness/analysis/Graph" = some m.cls := findClass_of_methodNamed Bd.named
  have hnm := (name_of_methodNamed Bd.named Bd.method).1
  have hlk : meth.locks = false := BodyLoose.notSynchronized Bd
  have X0 : Stand p l e RM5 s m #[(.ref a1), (.ref a2), (.ref a3)] below meth c s₁ [] 0 0 := Stand.of_body Bd
  have e0 : s₁.heap = h0 := by rw [← hh, Bd.state]; rfl
  have N0 := Fr.nil n0
  have K0 := Keep.refl h0 []
  suffices kk : Ends p e below (PostQ s 3 12 (fun v h L => Fr n0 L ∧ Keep h0 h [] ∧ ∃ (c1 : Addr), h0.size ≤ c1 ∧ v = some (.ref c1) ∧ Fld Z h a1 "com/example/workflow_soundness/workflowsoundness/analysis/Graph" "_first" "[I" (.ref b1) ∧ Fld Z h a1 "com/example/workflow_soundness/workflowsoundness/analysis/Graph" "_targets" "[I" (.ref b2) ∧ Ar Z h b1 .int vF ∧ Ar Z h b2 .int vT ∧ Ar Z h a2 .boolean vW ∧ Ar Z h a3 .int vS ∧ Ar Z h c1 .boolean (fRe_0 vF vT vW vS))) s₁ m 0 #[.val (.ref a1), .val (.ref a2), .val (.ref a3), .unset, .unset, .unset, .unset, .unset, .unset, .unset, .unset] [] by
    obtain ⟨t, o, k1, k2, k3, k4⟩ := kk
    exact ⟨t, o, castTop (own_ef5 m a1 a2 a3) k1, k2, k3, k4⟩
  refine eALoadN X0 hx (hb hby own_d5_0) rfl rfl rfl ?_
  refine eGetF X0 hx hZ hown (hw _ (List.mem_of_getElem? (i := 18) rfl)) Via.refl e0 F_a1__first (hb hby own_d5_1) rfl (fun T1 X1 e1 => ?_)
  refine eLen X1 hx hZ e1 A_b1 (5 : Int32) (by rw [hFl]; rfl) (hb hby own_d5_4) rfl ?_
  refine eIConst X1 hx (1 : Int32) (hb hby own_d5_5) rfl rfl ?_
  refine eISub X1 hx (hb hby own_d5_6) rfl ?_
  show Ends p e below _ T1 m 7 #[.val (.ref a1), .val (.ref a2), .val (.ref a3), .unset, .unset, .unset, .unset, .unset, .unset, .unset, .unset] [(.int (4 : Int32))]
  refine eNewA X1 hx hZ rfl rfl (hw _ (List.mem_of_getElem? (i := 5) rfl)) e1 (hb hby own_d5_7) (by decide) (cap := 4) (by decide) (by decide) (by decide) (by decide) rfl (fun T2 h2 ad2 g2 X2 e2 E2 A2 => ?_)
  have ne_a1_ad2 : a1 ≠ ad2 := Nat.ne_of_lt (Nat.lt_of_lt_of_le F_a1__first.lt (Nat.le_of_eq g2.symm))
  have ne_a2_ad2 : a2 ≠ ad2 := Nat.ne_of_lt (Nat.lt_of_lt_of_le A_a2.lt (Nat.le_of_eq g2.symm))
  have ne_a3_ad2 : a3 ≠ ad2 := Nat.ne_of_lt (Nat.lt_of_lt_of_le A_a3.lt (Nat.le_of_eq g2.symm))
  have ne_b1_ad2 : b1 ≠ ad2 := Nat.ne_of_lt (Nat.lt_of_lt_of_le A_b1.lt (Nat.le_of_eq g2.symm))
  have ne_b2_ad2 : b2 ≠ ad2 := Nat.ne_of_lt (Nat.lt_of_lt_of_le A_b2.lt (Nat.le_of_eq g2.symm))
  have F_a1__first := F_a1__first.ext E2
  have F_a1__targets := F_a1__targets.ext E2
  have A_b1 := A_b1.ext E2
  have A_b2 := A_b2.ext E2
  have A_a2 := A_a2.ext E2
  have A_a3 := A_a3.ext E2
  have Z2 := Nat.le_trans Z0 E2.1
  have ge_ad2 : n0 ≤ ad2 := Nat.le_trans Z0 (Nat.le_of_eq g2.symm)
  have gk_ad2 : h0.size ≤ ad2 := Nat.le_trans K0.1 (Nat.le_of_eq g2.symm)
  have K2 : Keep h0 h2 [] := K0.ext E2
  have A2 : Ar Z h2 ad2 .boolean [(0 : Int32), (0 : Int32), (0 : Int32), (0 : Int32)] := A2
  refine eAStoreN X2 hx (hb hby own_d5_9) rfl (L' := #[.val (.ref a1), .val (.ref a2), .val (.ref a3), .val (.ref ad2), .unset, .unset, .unset, .unset, .unset, .unset, .unset]) rfl rfl ?_
  refine eALoadN X2 hx (hb hby own_d5_10) rfl rfl rfl ?_
  refine eLen X2 hx hZ e2 A2 (4 : Int32) rfl (hb hby own_d5_11) rfl ?_
  refine eNewA X2 hx hZ rfl rfl (hw _ (List.mem_of_getElem? (i := 0) rfl)) e2 (hb hby own_d5_12) (by decide) (cap := 4) (by decide) (by decide) (by decide) (by decide) rfl (fun T3 h3 ad3 g3 X3 e3 E3 A3 => ?_)
  have ne_a1_ad3 : a1 ≠ ad3 := Nat.ne_of_lt (Nat.lt_of_lt_of_le F_a1__first.lt (Nat.le_of_eq g3.symm))
  have ne_a2_ad3 : a2 ≠ ad3 := Nat.ne_of_lt (Nat.lt_of_lt_of_le A_a2.lt (Nat.le_of_eq g3.symm))
  have ne_a3_ad3 : a3 ≠ ad3 := Nat.ne_of_lt (Nat.lt_of_lt_of_le A_a3.lt (Nat.le_of_eq g3.symm))
  have ne_ad2_ad3 : ad2 ≠ ad3 := Nat.ne_of_lt (Nat.lt_of_lt_of_le A2.lt (Nat.le_of_eq g3.symm))
  have ne_b1_ad3 : b1 ≠ ad3 := Nat.ne_of_lt (Nat.lt_of_lt_of_le A_b1.lt (Nat.le_of_eq g3.symm))
  have ne_b2_ad3 : b2 ≠ ad3 := Nat.ne_of_lt (Nat.lt_of_lt_of_le A_b2.lt (Nat.le_of_eq g3.symm))
  have F_a1__first := F_a1__first.ext E3
  have F_a1__targets := F_a1__targets.ext E3
  have A_b1 := A_b1.ext E3
  have A_b2 := A_b2.ext E3
  have A_a2 := A_a2.ext E3
  have A_a3 := A_a3.ext E3
  have A2 := A2.ext E3
  have Z3 := Nat.le_trans Z2 E3.1
  have ge_ad3 : n0 ≤ ad3 := Nat.le_trans Z2 (Nat.le_of_eq g3.symm)
  have gk_ad3 : h0.size ≤ ad3 := Nat.le_trans K2.1 (Nat.le_of_eq g3.symm)
  have K3 : Keep h0 h3 [] := K2.ext E3
  have A3 : Ar Z h3 ad3 .int [(0 : Int32), (0 : Int32), (0 : Int32), (0 : Int32)] := A3
  refine eAStore X3 hx (hb hby own_d5_14) rfl (L' := #[.val (.ref a1), .val (.ref a2), .val (.ref a3), .val (.ref ad2), .val (.ref ad3), .unset, .unset, .unset, .unset, .unset, .unset]) rfl rfl ?_
  refine eIConst X3 hx (0 : Int32) (hb hby own_d5_16) rfl rfl ?_
  refine eIStore X3 hx (hb hby own_d5_17) (L' := #[.val (.ref a1), .val (.ref a2), .val (.ref a3), .val (.ref ad2), .val (.ref ad3), .val (.int (0 : Int32)), .unset, .unset, .unset, .unset, .unset]) rfl rfl ?_
  refine eALoadN X3 hx (hb hby own_d5_19) rfl rfl rfl ?_
  refine eAStore X3 hx (hb hby own_d5_20) rfl (L' := #[.val (.ref a1), .val (.ref a2), .val (.ref a3), .val (.ref ad2), .val (.ref ad3), .val (.int (0 : Int32)), .val (.ref a3), .unset, .unset, .unset, .unset]) rfl rfl ?_
  refine eALoad X3 hx (hb hby own_d5_22) rfl rfl rfl ?_
  refine eLen X3 hx hZ e3 A_a3 (Int32.ofNat vS.length) rfl (hb hby own_d5_24) rfl ?_
  refine eIStore X3 hx (hb hby own_d5_25) (L' := #[.val (.ref a1), .val (.ref a2), .val (.ref a3), .val (.ref ad2), .val (.ref ad3), .val (.int (0 : Int32)), .val (.ref a3), .val (.int (Int32.ofNat vS.length)), .unset, .unset, .unset]) rfl rfl ?_
  refine eIConst X3 hx (0 : Int32) (hb hby own_d5_27) rfl rfl ?_
  refine eIStore X3 hx (hb hby own_d5_28) (L' := #[.val (.ref a1), .val (.ref a2), .val (.ref a3), .val (.ref ad2), .val (.ref ad3), .val (.int (0 : Int32)), .val (.ref a3), .val (.int (Int32.ofNat vS.length)), .val (.int (0 : Int32)), .unset, .unset]) rfl rfl ?_
  have LP4 : ∀ (k4 : Nat) (v5_5 : Int32) (v8_6 : Int32) (z9_7 : Slot) (vs8 : List Int32) (vs9 : List Int32) (hL4 : Heap) (T4 : State) (locs4 : List Loc) (hkA : ((Int32.ofNat vS.length).toInt - v8_6.toInt).toNat < k4) (h0A : 0 ≤ v8_6.toInt) (BA : BQ vs8 vs9 v5_5) (ho_z9_7 : One z9_7) (X4 : Stand p l e RM5 s m #[(.ref a1), (.ref a2), (.ref a3)] below meth c T4 locs4 2 8) (N4 : Fr n0 locs4) (e4 : T4.heap = hL4) (Z4 : n0 ≤ hL4.size) (K4 : Keep h0 hL4 []) (F_a1__first : Fld Z hL4 a1 "com/example/workflow_soundness/workflowsoundness/analysis/Graph" "_first" "[I" (.ref b1)) (F_a1__targets : Fld Z hL4 a1 "com/example/workflow_soundness/workflowsoundness/analysis/Graph" "_targets" "[I" (.ref b2)) (A_b1 : Ar Z hL4 b1 .int vF) (A_b2 : Ar Z hL4 b2 .int vT) (A_a2 : Ar Z hL4 a2 .boolean vW) (A_a3 : Ar Z hL4 a3 .int vS) (A2 : Ar Z hL4 ad2 .boolean vs8) (A3 : Ar Z hL4 ad3 .int vs9), Ends p e below (PostQ s 3 12 (fun v h L => Fr n0 L ∧ Keep h0 h [] ∧ ∃ (c1 : Addr), h0.size ≤ c1 ∧ v = some (.ref c1) ∧ Fld Z h a1 "com/example/workflow_soundness/workflowsoundness/analysis/Graph" "_first" "[I" (.ref b1) ∧ Fld Z h a1 "com/example/workflow_soundness/workflowsoundness/analysis/Graph" "_targets" "[I" (.ref b2) ∧ Ar Z h b1 .int vF ∧ Ar Z h b2 .int vT ∧ Ar Z h a2 .boolean vW ∧ Ar Z h a3 .int vS ∧ Ar Z h c1 .boolean (fRe_30 vF vT vW vS k4 v5_5 v8_6 vs8 vs9))) T4 m 30 #[.val (.ref a1), .val (.ref a2), .val (.ref a3), .val (.ref ad2), .val (.ref ad3), .val (.int v5_5), .val (.ref a3), .val (.int (Int32.ofNat vS.length)), .val (.int v8_6), z9_7, .unset] [] := by
    intro k4
    induction k4 with
    | zero => intro v5_5 v8_6 z9_7 vs8 vs9 hL4 T4 locs4 hkA h0A BA ho_z9_7 X4 N4 e4 Z4 K4 F_a1__first F_a1__targets A_b1 A_b2 A_a2 A_a3 A2 A3; exact absurd hkA (Nat.not_lt_zero _)
    | succ k4 ih4 =>
      intro v5_5 v8_6 z9_7 vs8 vs9 hL4 T4 locs4 hkA h0A BA ho_z9_7 X4 N4 e4 Z4 K4 F_a1__first F_a1__targets A_b1 A_b2 A_a2 A_a3 A2 A3
      refine eILoad X4 hx (hb hby own_d5_30) rfl rfl ?_
      refine eILoad X4 hx (hb hby own_d5_32) rfl rfl ?_
      show Ends p e below (PostQ s 3 12 (fun v h L => Fr n0 L ∧ Keep h0 h [] ∧ ∃ (c1 : Addr), h0.size ≤ c1 ∧ v = some (.ref c1) ∧ Fld Z h a1 "com/example/workflow_soundness/workflowsoundness/analysis/Graph" "_first" "[I" (.ref b1) ∧ Fld Z h a1 "com/example/workflow_soundness/workflowsoundness/analysis/Graph" "_targets" "[I" (.ref b2) ∧ Ar Z h b1 .int vF ∧ Ar Z h b2 .int vT ∧ Ar Z h a2 .boolean vW ∧ Ar Z h a3 .int vS ∧ Ar Z h c1 .boolean (if v8_6 < (Int32.ofNat vS.length) then (if (rd vs8 (rd vS v8_6)) = (0 : Int32) then (fRe_30 vF vT vW vS k4 (v5_5 + (1 : Int32)) (v8_6 + (1 : Int32)) (wr vs8 (rd vS v8_6) (1 : Int32)) (wr vs9 v5_5 (rd vS v8_6))) else (fRe_30 vF vT vW vS k4 v5_5 (v8_6 + (1 : Int32)) vs8 vs9)) else (fRe_92 vF vT vW v5_5 vs8 vs9 7 (0 : Int32) [(0 : Int32), (0 : Int32), (0 : Int32), (0 : Int32)])))) T4 m 34 #[.val (.ref a1), .val (.ref a2), .val (.ref a3), .val (.ref ad2), .val (.ref ad3), .val (.int v5_5), .val (.ref a3), .val (.int (Int32.ofNat vS.length)), .val (.int v8_6), z9_7, .unset] [(.int (Int32.ofNat vS.length)), (.int v8_6)]
      by_cases c10 : v8_6 < (Int32.ofNat vS.length)
      · rw [if_pos c10]
        refine eIcmpN X4 hx (hb hby own_d5_34) (tlt c10).2.1 rfl ?_
        refine eALoad X4 hx (hb hby own_d5_37) rfl rfl rfl ?_
        refine eILoad X4 hx (hb hby own_d5_39) rfl rfl ?_
        refine eIALoad X4 hx hZ e4 A_a3 (rd vS v8_6) rfl (own_inl h0A c10 (by rw [own_ofn hSl]; exact Int.le_refl _)) (hb hby own_d5_41) rfl ?_
        refine eIStore X4 hx (hb hby own_d5_42) (L' := #[.val (.ref a1), .val (.ref a2), .val (.ref a3), .val (.ref ad2), .val (.ref ad3), .val (.int v5_5), .val (.ref a3), .val (.int (Int32.ofNat vS.length)), .val (.int v8_6), .val (.int (rd vS v8_6)), .unset]) (by rcases ho_z9_7 with rfl | ⟨w, rfl, hw⟩ <;> first | rfl | (cases w <;> first | rfl | (simp [Value.category] at hw))) rfl ?_
        refine eALoadN X4 hx (hb hby own_d5_44) rfl rfl rfl ?_
        refine eILoad X4 hx (hb hby own_d5_45) rfl rfl ?_
        refine eZALoad X4 hx hZ e4 A2 (rd vs8 (rd vS v8_6)) rfl (own_lit BA.1 (own_bd hSv (own_inl h0A c10 (by rw [own_ofn hSl]; exact Int.le_refl _))).1 (own_bd hSv (own_inl h0A c10 (by rw [own_ofn hSl]; exact Int.le_refl _))).2) (hb hby own_d5_47) rfl ?_
        show Ends p e below (PostQ s 3 12 (fun v h L => Fr n0 L ∧ Keep h0 h [] ∧ ∃ (c1 : Addr), h0.size ≤ c1 ∧ v = some (.ref c1) ∧ Fld Z h a1 "com/example/workflow_soundness/workflowsoundness/analysis/Graph" "_first" "[I" (.ref b1) ∧ Fld Z h a1 "com/example/workflow_soundness/workflowsoundness/analysis/Graph" "_targets" "[I" (.ref b2) ∧ Ar Z h b1 .int vF ∧ Ar Z h b2 .int vT ∧ Ar Z h a2 .boolean vW ∧ Ar Z h a3 .int vS ∧ Ar Z h c1 .boolean (if (rd vs8 (rd vS v8_6)) = (0 : Int32) then (fRe_30 vF vT vW vS k4 (v5_5 + (1 : Int32)) (v8_6 + (1 : Int32)) (wr vs8 (rd vS v8_6) (1 : Int32)) (wr vs9 v5_5 (rd vS v8_6))) else (fRe_30 vF vT vW vS k4 v5_5 (v8_6 + (1 : Int32)) vs8 vs9)))) T4 m 48 #[.val (.ref a1), .val (.ref a2), .val (.ref a3), .val (.ref ad2), .val (.ref ad3), .val (.int v5_5), .val (.ref a3), .val (.int (Int32.ofNat vS.length)), .val (.int v8_6), .val (.int (rd vS v8_6)), .unset] [(.int (rd vs8 (rd vS v8_6)))]
        by_cases c11 : (rd vs8 (rd vS v8_6)) = (0 : Int32)
        · rw [if_pos c11]
          refine eIfN X4 hx (hb hby own_d5_48) ((if0 _ _).trans (teq c11).2) rfl ?_
          refine eALoadN X4 hx (hb hby own_d5_51) rfl rfl rfl ?_
          refine eILoad X4 hx (hb hby own_d5_52) rfl rfl ?_
          refine eIConst X4 hx (1 : Int32) (hb hby own_d5_54) rfl rfl ?_
          refine eZAStore X4 hx hZ e4 A2 (own_lit BA.1 (own_bd hSv (own_inl h0A c10 (by rw [own_ofn hSl]; exact Int.le_refl _))).1 (own_bd hSv (own_inl h0A c10 (by rw [own_ofn hSl]; exact Int.le_refl _))).2) (hb hby own_d5_55) rfl (fun T12 h12 X12 e12 W12 B12 => ?_)
          have F_a1__first := F_a1__first.other W12 (Or.inl ne_a1_ad2)
          have F_a1__targets := F_a1__targets.other W12 (Or.inl ne_a1_ad2)
          have A_b1 := A_b1.other W12 ne_b1_ad2
          have A_b2 := A_b2.other W12 ne_b2_ad2
          have A_a2 := A_a2.other W12 ne_a2_ad2
          have A_a3 := A_a3.other W12 ne_a3_ad2
          have A3 := A3.other W12 (Ne.symm ne_ad2_ad3)
          have A2 : Ar Z h12 ad2 .boolean (wr vs8 (rd vS v8_6) (1 : Int32)) := B12
          have N12 := Fr.snoc X12 N4 ge_ad2
          have Z12 := Nat.le_trans Z4 (Keep.of_wr W12).1
          have K12 : Keep h0 h12 [] := K4.wr W12 (Or.inr gk_ad2)
          refine eALoad X12 hx (hb hby own_d5_56) rfl rfl rfl ?_
          refine eILoad X12 hx (hb hby own_d5_58) rfl rfl ?_
          refine eIInc X12 hx (1 : Int32) (hb hby own_d5_60) rfl rfl (L' := #[.val (.ref a1), .val (.ref a2), .val (.ref a3), .val (.ref ad2), .val (.ref ad3), .val (.int (v5_5 + (1 : Int32))), .val (.ref a3), .val (.int (Int32.ofNat vS.length)), .val (.int v8_6), .val (.int (rd vS v8_6)), .unset]) rfl rfl ?_
          refine eILoad X12 hx (hb hby own_d5_63) rfl rfl ?_
          refine eIAStore X12 hx hZ e12 A3 (own_lit BA.2.1 (own_bqn BA).1 (own_bq BA (own_bd hSv (own_inl h0A c10 (by rw [own_ofn hSl]; exact Int.le_refl _))) c11).1) (hb hby own_d5_65) rfl (fun T13 h13 X13 e13 W13 B13 => ?_)
          have F_a1__first := F_a1__first.other W13 (Or.inl ne_a1_ad3)
          have F_a1__targets := F_a1__targets.other W13 (Or.inl ne_a1_ad3)
          have A_b1 := A_b1.other W13 ne_b1_ad3
          have A_b2 := A_b2.other W13 ne_b2_ad3
          have A_a2 := A_a2.other W13 ne_a2_ad3
          have A_a3 := A_a3.other W13 ne_a3_ad3
          have A2 := A2.other W13 ne_ad2_ad3
          have A3 : Ar Z h13 ad3 .int (wr vs9 v5_5 (rd vS v8_6)) := B13
          have N13 := Fr.snoc X13 N12 ge_ad3
          have Z13 := Nat.le_trans Z12 (Keep.of_wr W13).1
          have K13 : Keep h0 h13 [] := K12.wr W13 (Or.inr gk_ad3)
          refine eIInc X13 hx (1 : Int32) (hb hby own_d5_66) rfl rfl (L' := #[.val (.ref a1), .val (.ref a2), .val (.ref a3), .val (.ref ad2), .val (.ref ad3), .val (.int (v5_5 + (1 : Int32))), .val (.ref a3), .val (.int (Int32.ofNat vS.length)), .val (.int (v8_6 + (1 : Int32))), .val (.int (rd vS v8_6)), .unset]) rfl rfl ?_
          refine eGoto X13 hx (hb hby own_d5_69) (by decide) (pc' := 30) rfl ?_
          exact ih4 (v5_5 + (1 : Int32)) (v8_6 + (1 : Int32)) (.val (.int (rd vS v8_6))) (wr vs8 (rd vS v8_6) (1 : Int32)) (wr vs9 v5_5 (rd vS v8_6)) _ _ _ (own_turn hkA c10) (own_pos h0A c10) (own_bq BA (own_bd hSv (own_inl h0A c10 (by rw [own_ofn hSl]; exact Int.le_refl _))) c11).2.2 (One.val rfl) X13 N13 e13 Z13 K13 F_a1__first F_a1__targets A_b1 A_b2 A_a2 A_a3 A2 A3
        · rw [if_neg c11]
          refine eIfY X4 hx (hb hby own_d5_48) ((if0 _ _).trans (feq c11).2) (by decide) (pc' := 66) rfl ?_
          refine eIInc X4 hx (1 : Int32) (hb hby own_d5_66) rfl rfl (L' := #[.val (.ref a1), .val (.ref a2), .val (.ref a3), .val (.ref ad2), .val (.ref ad3), .val (.int v5_5), .val (.ref a3), .val (.int (Int32.ofNat vS.length)), .val (.int (v8_6 + (1 : Int32))), .val (.int (rd vS v8_6)), .unset]) rfl rfl ?_
          refine eGoto X4 hx (hb hby own_d5_69) (by decide) (pc' := 30) rfl ?_
          exact ih4 v5_5 (v8_6 + (1 : Int32)) (.val (.int (rd vS v8_6))) vs8 vs9 _ _ _ (own_turn hkA c10) (own_pos h0A c10) BA (One.val rfl) X4 N4 e4 Z4 K4 F_a1__first F_a1__targets A_b1 A_b2 A_a2 A_a3 A2 A3
      · rw [if_neg c10]
        refine eIcmpY X4 hx (hb hby own_d5_34) (flt c10).2.1 (by decide) (pc' := 72) rfl ?_
        refine eALoadN X4 hx (hb hby own_d5_72) rfl rfl rfl ?_
        refine eLen X4 hx hZ e4 A2 (4 : Int32) (by rw [BA.1]; rfl) (hb hby own_d5_73) rfl ?_
        refine eNewA X4 hx hZ rfl rfl (hw _ (List.mem_of_getElem? (i := 0) rfl)) e4 (hb hby own_d5_74) (by decide) (cap := 4) (by decide) (by decide) (by decide) (by decide) rfl (fun T14 h14 ad14 g14 X14 e14 E14 A14 => ?_)
        have ne_a1_ad14 : a1 ≠ ad14 := Nat.ne_of_lt (Nat.lt_of_lt_of_le F_a1__first.lt (Nat.le_of_eq g14.symm))
        have ne_a2_ad14 : a2 ≠ ad14 := Nat.ne_of_lt (Nat.lt_of_lt_of_le A_a2.lt (Nat.le_of_eq g14.symm))
        have ne_a3_ad14 : a3 ≠ ad14 := Nat.ne_of_lt (Nat.lt_of_lt_of_le A_a3.lt (Nat.le_of_eq g14.symm))
        have ne_ad2_ad14 : ad2 ≠ ad14 := Nat.ne_of_lt (Nat.lt_of_lt_of_le A2.lt (Nat.le_of_eq g14.symm))
        have ne_ad3_ad14 : ad3 ≠ ad14 := Nat.ne_of_lt (Nat.lt_of_lt_of_le A3.lt (Nat.le_of_eq g14.symm))
        have ne_b1_ad14 : b1 ≠ ad14 := Nat.ne_of_lt (Nat.lt_of_lt_of_le A_b1.lt (Nat.le_of_eq g14.symm))
        have ne_b2_ad14 : b2 ≠ ad14 := Nat.ne_of_lt (Nat.lt_of_lt_of_le A_b2.lt (Nat.le_of_eq g14.symm))
        have F_a1__first := F_a1__first.ext E14
        have F_a1__targets := F_a1__targets.ext E14
        have A_b1 := A_b1.ext E14
        have A_b2 := A_b2.ext E14
        have A_a2 := A_a2.ext E14
        have A_a3 := A_a3.ext E14
        have A2 := A2.ext E14
        have A3 := A3.ext E14
        have Z14 := Nat.le_trans Z4 E14.1
        have ge_ad14 : n0 ≤ ad14 := Nat.le_trans Z4 (Nat.le_of_eq g14.symm)
        have gk_ad14 : h0.size ≤ ad14 := Nat.le_trans K4.1 (Nat.le_of_eq g14.symm)
        have K14 : Keep h0 h14 [] := K4.ext E14
        have A14 : Ar Z h14 ad14 .int [(0 : Int32), (0 : Int32), (0 : Int32), (0 : Int32)] := A14
        refine eAStore X14 hx (hb hby own_d5_76) rfl (L' := #[.val (.ref a1), .val (.ref a2), .val (.ref a3), .val (.ref ad2), .val (.ref ad3), .val (.int v5_5), .val (.ref ad14), .val (.int (Int32.ofNat vS.length)), .val (.int v8_6), z9_7, .unset]) rfl rfl ?_
        refine eALoadN X14 hx (hb hby own_d5_78) rfl rfl rfl ?_
        refine eGetF X14 hx hZ hown (hw _ (List.mem_of_getElem? (i := 20) rfl)) Via.refl e14 F_a1__targets (hb hby own_d5_79) rfl (fun T15 X15 e15 => ?_)
        refine eAStore X15 hx (hb hby own_d5_82) rfl (L' := #[.val (.ref a1), .val (.ref a2), .val (.ref a3), .val (.ref ad2), .val (.ref ad3), .val (.int v5_5), .val (.ref ad14), .val (.ref b2), .val (.int v8_6), z9_7, .unset]) rfl rfl ?_
        refine eALoad X15 hx (hb hby own_d5_84) rfl rfl rfl ?_
        refine eLen X15 hx hZ e15 A_b2 (6 : Int32) (by rw [hTl]; rfl) (hb hby own_d5_86) rfl ?_
        refine eIStore X15 hx (hb hby own_d5_87) (L' := #[.val (.ref a1), .val (.ref a2), .val (.ref a3), .val (.ref ad2), .val (.ref ad3), .val (.int v5_5), .val (.ref ad14), .val (.ref b2), .val (.int (6 : Int32)), z9_7, .unset]) rfl rfl ?_
        refine eIConst X15 hx (0 : Int32) (hb hby own_d5_89) rfl rfl ?_
        refine eIStore X15 hx (hb hby own_d5_90) (L' := #[.val (.ref a1), .val (.ref a2), .val (.ref a3), .val (.ref ad2), .val (.ref ad3), .val (.int v5_5), .val (.ref ad14), .val (.ref b2), .val (.int (6 : Int32)), .val (.int (0 : Int32)), .unset]) (by rcases ho_z9_7 with rfl | ⟨w, rfl, hw⟩ <;> first | rfl | (cases w <;> first | rfl | (simp [Value.category] at hw))) rfl ?_
        have LP16 : ∀ (k16 : Nat) (v9_17 : Int32) (z10_18 : Slot) (vs19 : List Int32) (hL16 : Heap) (T16 : State) (locs16 : List Loc) (hkB : ((6 : Int32).toInt - v9_17.toInt).toNat < k16) (h0B : 0 ≤ v9_17.toInt) (hlB : vs19.length = 4) (ho_z10_18 : One z10_18) (X16 : Stand p l e RM5 s m #[(.ref a1), (.ref a2), (.ref a3)] below meth c T16 locs16 3 12) (N16 : Fr n0 locs16) (e16 : T16.heap = hL16) (Z16 : n0 ≤ hL16.size) (K16 : Keep h0 hL16 []) (F_a1__first : Fld Z hL16 a1 "com/example/workflow_soundness/workflowsoundness/analysis/Graph" "_first" "[I" (.ref b1)) (F_a1__targets : Fld Z hL16 a1 "com/example/workflow_soundness/workflowsoundness/analysis/Graph" "_targets" "[I" (.ref b2)) (A_b1 : Ar Z hL16 b1 .int vF) (A_b2 : Ar Z hL16 b2 .int vT) (A_a2 : Ar Z hL16 a2 .boolean vW) (A_a3 : Ar Z hL16 a3 .int vS) (A2 : Ar Z hL16 ad2 .boolean vs8) (A3 : Ar Z hL16 ad3 .int vs9) (A14 : Ar Z hL16 ad14 .int vs19), Ends p e below (PostQ s 3 12 (fun v h L => Fr n0 L ∧ Keep h0 h [] ∧ ∃ (c1 : Addr), h0.size ≤ c1 ∧ v = some (.ref c1) ∧ Fld Z h a1 "com/example/workflow_soundness/workflowsoundness/analysis/Graph" "_first" "[I" (.ref b1) ∧ Fld Z h a1 "com/example/workflow_soundness/workflowsoundness/analysis/Graph" "_targets" "[I" (.ref b2) ∧ Ar Z h b1 .int vF ∧ Ar Z h b2 .int vT ∧ Ar Z h a2 .boolean vW ∧ Ar Z h a3 .int vS ∧ Ar Z h c1 .boolean (fRe_92 vF vT vW v5_5 vs8 vs9 k16 v9_17 vs19))) T16 m 92 #[.val (.ref a1), .val (.ref a2), .val (.ref a3), .val (.ref ad2), .val (.ref ad3), .val (.int v5_5), .val (.ref ad14), .val (.ref b2), .val (.int (6 : Int32)), .val (.int v9_17), z10_18] [] := by
          intro k16
          induction k16 with
          | zero => intro v9_17 z10_18 vs19 hL16 T16 locs16 hkB h0B hlB ho_z10_18 X16 N16 e16 Z16 K16 F_a1__first F_a1__targets A_b1 A_b2 A_a2 A_a3 A2 A3 A14; exact absurd hkB (Nat.not_lt_zero _)
          | succ k16 ih16 =>
            intro v9_17 z10_18 vs19 hL16 T16 locs16 hkB h0B hlB ho_z10_18 X16 N16 e16 Z16 K16 F_a1__first F_a1__targets A_b1 A_b2 A_a2 A_a3 A2 A3 A14
            refine eILoad X16 hx (hb hby own_d5_92) rfl rfl ?_
            refine eILoad X16 hx (hb hby own_d5_94) rfl rfl ?_
            show Ends p e below (PostQ s 3 12 (fun v h L => Fr n0 L ∧ Keep h0 h [] ∧ ∃ (c1 : Addr), h0.size ≤ c1 ∧ v = some (.ref c1) ∧ Fld Z h a1 "com/example/workflow_soundness/workflowsoundness/analysis/Graph" "_first" "[I" (.ref b1) ∧ Fld Z h a1 "com/example/workflow_soundness/workflowsoundness/analysis/Graph" "_targets" "[I" (.ref b2) ∧ Ar Z h b1 .int vF ∧ Ar Z h b2 .int vT ∧ Ar Z h a2 .boolean vW ∧ Ar Z h a3 .int vS ∧ Ar Z h c1 .boolean (if v9_17 < (6 : Int32) then (if (rd vW (rd vT v9_17)) = (0 : Int32) then (fRe_92 vF vT vW v5_5 vs8 vs9 k16 (v9_17 + (1 : Int32)) vs19) else (fRe_92 vF vT vW v5_5 vs8 vs9 k16 (v9_17 + (1 : Int32)) (wr vs19 (rd vT v9_17) ((rd vs19 (rd vT v9_17)) + (1 : Int32))))) else (fRe_131 vF vT vW 5 v5_5 (0 : Int32) (6 : Int32) v9_17 vs8 vs9 vs19)))) T16 m 96 #[.val (.ref a1), .val (.ref a2), .val (.ref a3), .val (.ref ad2), .val (.ref ad3), .val (.int v5_5), .val (.ref ad14), .val (.ref b2), .val (.int (6 : Int32)), .val (.int v9_17), z10_18] [(.int (6 : Int32)), (.int v9_17)]
            by_cases c20 : v9_17 < (6 : Int32)
            · rw [if_pos c20]
              refine eIcmpN X16 hx (hb hby own_d5_96) (tlt c20).2.1 rfl ?_
              refine eALoad X16 hx (hb hby own_d5_99) rfl rfl rfl ?_
              refine eILoad X16 hx (hb hby own_d5_101) rfl rfl ?_
              refine eIALoad X16 hx hZ e16 A_b2 (rd vT v9_17) rfl (own_inl h0B c20 (by rw [hTl]; decide)) (hb hby own_d5_103) rfl ?_
              refine eIStore X16 hx (hb hby own_d5_104) (L' := #[.val (.ref a1), .val (.ref a2), .val (.ref a3), .val (.ref ad2), .val (.ref ad3), .val (.int v5_5), .val (.ref ad14), .val (.ref b2), .val (.int (6 : Int32)), .val (.int v9_17), .val (.int (rd vT v9_17))]) (by rcases ho_z10_18 with rfl | ⟨w, rfl, hw⟩ <;> first | rfl | (cases w <;> first | rfl | (simp [Value.category] at hw))) rfl ?_
              refine eALoadN X16 hx (hb hby own_d5_106) rfl rfl rfl ?_
              refine eILoad X16 hx (hb hby own_d5_107) rfl rfl ?_
              refine eZALoad X16 hx hZ e16 A_a2 (rd vW (rd vT v9_17)) rfl (own_lit hWl (own_bd hTv (own_inl h0B c20 (by rw [hTl]; decide))).1 (own_bd hTv (own_inl h0B c20 (by rw [hTl]; decide))).2) (hb hby own_d5_109) rfl ?_
              show Ends p e below (PostQ s 3 12 (fun v h L => Fr n0 L ∧ Keep h0 h [] ∧ ∃ (c1 : Addr), h0.size ≤ c1 ∧ v = some (.ref c1) ∧ Fld Z h a1 "com/example/workflow_soundness/workflowsoundness/analysis/Graph" "_first" "[I" (.ref b1) ∧ Fld Z h a1 "com/example/workflow_soundness/workflowsoundness/analysis/Graph" "_targets" "[I" (.ref b2) ∧ Ar Z h b1 .int vF ∧ Ar Z h b2 .int vT ∧ Ar Z h a2 .boolean vW ∧ Ar Z h a3 .int vS ∧ Ar Z h c1 .boolean (if (rd vW (rd vT v9_17)) = (0 : Int32) then (fRe_92 vF vT vW v5_5 vs8 vs9 k16 (v9_17 + (1 : Int32)) vs19) else (fRe_92 vF vT vW v5_5 vs8 vs9 k16 (v9_17 + (1 : Int32)) (wr vs19 (rd vT v9_17) ((rd vs19 (rd vT v9_17)) + (1 : Int32))))))) T16 m 110 #[.val (.ref a1), .val (.ref a2), .val (.ref a3), .val (.ref ad2), .val (.ref ad3), .val (.int v5_5), .val (.ref ad14), .val (.ref b2), .val (.int (6 : Int32)), .val (.int v9_17), .val (.int (rd vT v9_17))] [(.int (rd vW (rd vT v9_17)))]
              by_cases c21 : (rd vW (rd vT v9_17)) = (0 : Int32)
              · rw [if_pos c21]
                refine eIfY X16 hx (hb hby own_d5_110) ((if0 _ _).trans (teq c21).1) (by decide) (pc' := 122) rfl ?_
                refine eIInc X16 hx (1 : Int32) (hb hby own_d5_122) rfl rfl (L' := #[.val (.ref a1), .val (.ref a2), .val (.ref a3), .val (.ref ad2), .val (.ref ad3), .val (.int v5_5), .val (.ref ad14), .val (.ref b2), .val (.int (6 : Int32)), .val (.int (v9_17 + (1 : Int32))), .val (.int (rd vT v9_17))]) rfl rfl ?_
                refine eGoto X16 hx (hb hby own_d5_125) (by decide) (pc' := 92) rfl ?_
                exact ih16 (v9_17 + (1 : Int32)) (.val (.int (rd vT v9_17))) vs19 _ _ _ (own_turn hkB c20) (own_pos h0B c20) (by first | exact hlB | (simp only [own_wl]; exact hlB)) (One.val rfl) X16 N16 e16 Z16 K16 F_a1__first F_a1__targets A_b1 A_b2 A_a2 A_a3 A2 A3 A14
              · rw [if_neg c21]
                refine eIfN X16 hx (hb hby own_d5_110) ((if0 _ _).trans (feq c21).1) rfl ?_
                refine eALoad X16 hx (hb hby own_d5_113) rfl rfl rfl ?_
                refine eILoad X16 hx (hb hby own_d5_115) rfl rfl ?_
                refine eDup2 X16 hx (hb hby own_d5_117) rfl rfl rfl ?_
                refine eIALoad X16 hx hZ e16 A14 (rd vs19 (rd vT v9_17)) rfl (own_lit hlB (own_bd hTv (own_inl h0B c20 (by rw [hTl]; decide))).1 (own_bd hTv (own_inl h0B c20 (by rw [hTl]; decide))).2) (hb hby own_d5_118) rfl ?_
                refine eIConst X16 hx (1 : Int32) (hb hby own_d5_119) rfl rfl ?_
                refine eIAdd X16 hx (hb hby own_d5_120) rfl ?_
                refine eIAStore X16 hx hZ e16 A14 (own_lit hlB (own_bd hTv (own_inl h0B c20 (by rw [hTl]; decide))).1 (own_bd hTv (own_inl h0B c20 (by rw [hTl]; decide))).2) (hb hby own_d5_121) rfl (fun T22 h22 X22 e22 W22 B22 => ?_)
                have F_a1__first := F_a1__first.other W22 (Or.inl ne_a1_ad14)
                have F_a1__targets := F_a1__targets.other W22 (Or.inl ne_a1_ad14)
                have A_b1 := A_b1.other W22 ne_b1_ad14
                have A_b2 := A_b2.other W22 ne_b2_ad14
                have A_a2 := A_a2.other W22 ne_a2_ad14
                have A_a3 := A_a3.other W22 ne_a3_ad14
                have A2 := A2.other W22 ne_ad2_ad14
                have A3 := A3.other W22 ne_ad3_ad14
                have A14 : Ar Z h22 ad14 .int (wr vs19 (rd vT v9_17) ((rd vs19 (rd vT v9_17)) + (1 : Int32))) := B22
                have N22 := Fr.snoc X22 N16 ge_ad14
                have Z22 := Nat.le_trans Z16 (Keep.of_wr W22).1
                have K22 : Keep h0 h22 [] := K16.wr W22 (Or.inr gk_ad14)
                refine eIInc X22 hx (1 : Int32) (hb hby own_d5_122) rfl rfl (L' := #[.val (.ref a1), .val (.ref a2), .val (.ref a3), .val (.ref ad2), .val (.ref ad3), .val (.int v5_5), .val (.ref ad14), .val (.ref b2), .val (.int (6 : Int32)), .val (.int (v9_17 + (1 : Int32))), .val (.int (rd vT v9_17))]) rfl rfl ?_
                refine eGoto X22 hx (hb hby own_d5_125) (by decide) (pc' := 92) rfl ?_
                exact ih16 (v9_17 + (1 : Int32)) (.val (.int (rd vT v9_17))) (wr vs19 (rd vT v9_17) ((rd vs19 (rd vT v9_17)) + (1 : Int32))) _ _ _ (own_turn hkB c20) (own_pos h0B c20) (by first | exact hlB | (simp only [own_wl]; exact hlB)) (One.val rfl) X22 N22 e22 Z22 K22 F_a1__first F_a1__targets A_b1 A_b2 A_a2 A_a3 A2 A3 A14
            · rw [if_neg c20]
              refine eIcmpY X16 hx (hb hby own_d5_96) (flt c20).2.1 (by decide) (pc' := 128) rfl ?_
              refine eIConst X16 hx (0 : Int32) (hb hby own_d5_128) rfl rfl ?_
              refine eIStore X16 hx (hb hby own_d5_129) (L' := #[.val (.ref a1), .val (.ref a2), .val (.ref a3), .val (.ref ad2), .val (.ref ad3), .val (.int v5_5), .val (.ref ad14), .val (.int (0 : Int32)), .val (.int (6 : Int32)), .val (.int v9_17), z10_18]) rfl rfl ?_
              have LP23 : ∀ (k23 : Nat) (v5_24 : Int32) (v7_25 : Int32) (v8_26 : Int32) (v9_27 : Int32) (z10_28 : Slot) (vs29 : List Int32) (vs30 : List Int32) (vs31 : List Int32) (hL23 : Heap) (T23 : State) (locs23 : List Loc) (hkC : (4 - v7_25.toInt).toNat < k23) (h0C : 0 ≤ v7_25.toInt) (BC : BQ vs29 vs30 v5_24) (NC : vs31.length = 4) (ho_z10_28 : One z10_28) (X23 : Stand p l e RM5 s m #[(.ref a1), (.ref a2), (.ref a3)] below meth c T23 locs23 3 12) (N23 : Fr n0 locs23) (e23 : T23.heap = hL23) (Z23 : n0 ≤ hL23.size) (K23 : Keep h0 hL23 []) (F_a1__first : Fld Z hL23 a1 "com/example/workflow_soundness/workflowsoundness/analysis/Graph" "_first" "[I" (.ref b1)) (F_a1__targets : Fld Z hL23 a1 "com/example/workflow_soundness/workflowsoundness/analysis/Graph" "_targets" "[I" (.ref b2)) (A_b1 : Ar Z hL23 b1 .int vF) (A_b2 : Ar Z hL23 b2 .int vT) (A_a2 : Ar Z hL23 a2 .boolean vW) (A_a3 : Ar Z hL23 a3 .int vS) (A2 : Ar Z hL23 ad2 .boolean vs29) (A3 : Ar Z hL23 ad3 .int vs30) (A14 : Ar Z hL23 ad14 .int vs31), Ends p e below (PostQ s 3 12 (fun v h L => Fr n0 L ∧ Keep h0 h [] ∧ ∃ (c1 : Addr), h0.size ≤ c1 ∧ v = some (.ref c1) ∧ Fld Z h a1 "com/example/workflow_soundness/workflowsoundness/analysis/Graph" "_first" "[I" (.ref b1) ∧ Fld Z h a1 "com/example/workflow_soundness/workflowsoundness/analysis/Graph" "_targets" "[I" (.ref b2) ∧ Ar Z h b1 .int vF ∧ Ar Z h b2 .int vT ∧ Ar Z h a2 .boolean vW ∧ Ar Z h a3 .int vS ∧ Ar Z h c1 .boolean (fRe_131 vF vT vW k23 v5_24 v7_25 v8_26 v9_27 vs29 vs30 vs31))) T23 m 131 #[.val (.ref a1), .val (.ref a2), .val (.ref a3), .val (.ref ad2), .val (.ref ad3), .val (.int v5_24), .val (.ref ad14), .val (.int v7_25), .val (.int v8_26), .val (.int v9_27), z10_28] [] := by
                intro k23
                induction k23 with
                | zero => intro v5_24 v7_25 v8_26 v9_27 z10_28 vs29 vs30 vs31 hL23 T23 locs23 hkC h0C BC NC ho_z10_28 X23 N23 e23 Z23 K23 F_a1__first F_a1__targets A_b1 A_b2 A_a2 A_a3 A2 A3 A14; exact absurd hkC (Nat.not_lt_zero _)
                | succ k23 ih23 =>
                  intro v5_24 v7_25 v8_26 v9_27 z10_28 vs29 vs30 vs31 hL23 T23 locs23 hkC h0C BC NC ho_z10_28 X23 N23 e23 Z23 K23 F_a1__first F_a1__targets A_b1 A_b2 A_a2 A_a3 A2 A3 A14
                  refine eILoad X23 hx (hb hby own_d5_131) rfl rfl ?_
                  refine eILoad X23 hx (hb hby own_d5_133) rfl rfl ?_
                  show Ends p e below (PostQ s 3 12 (fun v h L => Fr n0 L ∧ Keep h0 h [] ∧ ∃ (c1 : Addr), h0.size ≤ c1 ∧ v = some (.ref c1) ∧ Fld Z h a1 "com/example/workflow_soundness/workflowsoundness/analysis/Graph" "_first" "[I" (.ref b1) ∧ Fld Z h a1 "com/example/workflow_soundness/workflowsoundness/analysis/Graph" "_targets" "[I" (.ref b2) ∧ Ar Z h b1 .int vF ∧ Ar Z h b2 .int vT ∧ Ar Z h a2 .boolean vW ∧ Ar Z h a3 .int vS ∧ Ar Z h c1 .boolean (if v7_25 < v5_24 then (fRe_154 (fun y0 y1 y2 y3 y4 y5 y6 => (fRe_131 vF vT vW k23 y0 y1 y2 y3 y4 y5 y6)) vF vT vW v7_25 vs30 7 v5_24 (rd vF (rd vs30 v7_25)) vs29 vs30 vs31) else vs29))) T23 m 135 #[.val (.ref a1), .val (.ref a2), .val (.ref a3), .val (.ref ad2), .val (.ref ad3), .val (.int v5_24), .val (.ref ad14), .val (.int v7_25), .val (.int v8_26), .val (.int v9_27), z10_28] [(.int v5_24), (.int v7_25)]
                  by_cases c32 : v7_25 < v5_24
                  · rw [if_pos c32]
                    refine eIcmpN X23 hx (hb hby own_d5_135) (tlt c32).2.1 rfl ?_
                    refine eALoad X23 hx (hb hby own_d5_138) rfl rfl rfl ?_
                    refine eILoad X23 hx (hb hby own_d5_140) rfl rfl ?_
                    refine eIALoad X23 hx hZ e23 A3 (rd vs30 v7_25) rfl (own_inl h0C c32 (by rw [BC.2.1]; exact (own_bqn BC).2)) (hb hby own_d5_142) rfl ?_
                    refine eIStore X23 hx (hb hby own_d5_143) (L' := #[.val (.ref a1), .val (.ref a2), .val (.ref a3), .val (.ref ad2), .val (.ref ad3), .val (.int v5_24), .val (.ref ad14), .val (.int v7_25), .val (.int (rd vs30 v7_25)), .val (.int v9_27), z10_28]) rfl rfl ?_
                    refine eALoadN X23 hx (hb hby own_d5_145) rfl rfl rfl ?_
                    refine eGetF X23 hx hZ hown (hw _ (List.mem_of_getElem? (i := 18) rfl)) Via.refl e23 F_a1__first (hb hby own_d5_146) rfl (fun T33 X33 e33 => ?_)
                    refine eILoad X33 hx (hb hby own_d5_149) rfl rfl ?_
                    refine eIALoad X33 hx hZ e33 A_b1 (rd vF (rd vs30 v7_25)) rfl (own_inb (own_bd BC.2.2.2.1 (own_inl h0C c32 (by rw [BC.2.1]; exact (own_bqn BC).2))).1 (by rw [hFl]; have := (own_bd BC.2.2.2.1 (own_inl h0C c32 (by rw [BC.2.1]; exact (own_bqn BC).2))).2; omega)) (hb hby own_d5_151) rfl ?_
                    refine eIStore X33 hx (hb hby own_d5_152) (L' := #[.val (.ref a1), .val (.ref a2), .val (.ref a3), .val (.ref ad2), .val (.ref ad3), .val (.int v5_24), .val (.ref ad14), .val (.int v7_25), .val (.int (rd vs30 v7_25)), .val (.int (rd vF (rd vs30 v7_25))), z10_28]) rfl rfl ?_
                    have LP34 : ∀ (k34 : Nat) (v5_35 : Int32) (v9_36 : Int32) (z10_37 : Slot) (vs38 : List Int32) (vs39 : List Int32) (vs40 : List Int32) (hL34 : Heap) (T34 : State) (locs34 : List Loc) (hkD : ((rd vF ((rd vs30 v7_25) + (1 : Int32))).toInt - v9_36.toInt).toNat < k34) (h0D : 0 ≤ v9_36.toInt) (BD : BQ vs38 vs39 v5_35) (ND : vs40.length = 4) (ho_z10_37 : One z10_37) (X34 : Stand p l e RM5 s m #[(.ref a1), (.ref a2), (.ref a3)] below meth c T34 locs34 3 12) (N34 : Fr n0 locs34) (e34 : T34.heap = hL34) (Z34 : n0 ≤ hL34.size) (K34 : Keep h0 hL34 []) (F_a1__first : Fld Z hL34 a1 "com/example/workflow_soundness/workflowsoundness/analysis/Graph" "_first" "[I" (.ref b1)) (F_a1__targets : Fld Z hL34 a1 "com/example/workflow_soundness/workflowsoundness/analysis/Graph" "_targets" "[I" (.ref b2)) (A_b1 : Ar Z hL34 b1 .int vF) (A_b2 : Ar Z hL34 b2 .int vT) (A_a2 : Ar Z hL34 a2 .boolean vW) (A_a3 : Ar Z hL34 a3 .int vS) (A2 : Ar Z hL34 ad2 .boolean vs38) (A3 : Ar Z hL34 ad3 .int vs39) (A14 : Ar Z hL34 ad14 .int vs40), Ends p e below (PostQ s 3 12 (fun v h L => Fr n0 L ∧ Keep h0 h [] ∧ ∃ (c1 : Addr), h0.size ≤ c1 ∧ v = some (.ref c1) ∧ Fld Z h a1 "com/example/workflow_soundness/workflowsoundness/analysis/Graph" "_first" "[I" (.ref b1) ∧ Fld Z h a1 "com/example/workflow_soundness/workflowsoundness/analysis/Graph" "_targets" "[I" (.ref b2) ∧ Ar Z h b1 .int vF ∧ Ar Z h b2 .int vT ∧ Ar Z h a2 .boolean vW ∧ Ar Z h a3 .int vS ∧ Ar Z h c1 .boolean (fRe_154 (fun y0 y1 y2 y3 y4 y5 y6 => (fRe_131 vF vT vW k23 y0 y1 y2 y3 y4 y5 y6)) vF vT vW v7_25 vs30 k34 v5_35 v9_36 vs38 vs39 vs40))) T34 m 154 #[.val (.ref a1), .val (.ref a2), .val (.ref a3), .val (.ref ad2), .val (.ref ad3), .val (.int v5_35), .val (.ref ad14), .val (.int v7_25), .val (.int (rd vs30 v7_25)), .val (.int v9_36), z10_37] [] := by
                      intro k34
                      induction k34 with
                      | zero => intro v5_35 v9_36 z10_37 vs38 vs39 vs40 hL34 T34 locs34 hkD h0D BD ND ho_z10_37 X34 N34 e34 Z34 K34 F_a1__first F_a1__targets A_b1 A_b2 A_a2 A_a3 A2 A3 A14; exact absurd hkD (Nat.not_lt_zero _)
                      | succ k34 ih34 =>
                        intro v5_35 v9_36 z10_37 vs38 vs39 vs40 hL34 T34 locs34 hkD h0D BD ND ho_z10_37 X34 N34 e34 Z34 K34 F_a1__first F_a1__targets A_b1 A_b2 A_a2 A_a3 A2 A3 A14
                        refine eILoad X34 hx (hb hby own_d5_154) rfl rfl ?_
                        refine eALoadN X34 hx (hb hby own_d5_156) rfl rfl rfl ?_
                        refine eGetF X34 hx hZ hown (hw _ (List.mem_of_getElem? (i := 18) rfl)) Via.refl e34 F_a1__first (hb hby own_d5_157) rfl (fun T41 X41 e41 => ?_)
                        refine eILoad X41 hx (hb hby own_d5_160) rfl rfl ?_
                        refine eIConst X41 hx (1 : Int32) (hb hby own_d5_162) rfl rfl ?_
                        refine eIAdd X41 hx (hb hby own_d5_163) rfl ?_
                        refine eIALoad X41 hx hZ e41 A_b1 (rd vF ((rd vs30 v7_25) + (1 : Int32))) rfl (own_lit hFl (own_n1 (own_bd BC.2.2.2.1 (own_inl h0C c32 (by rw [BC.2.1]; exact (own_bqn BC).2)))).1 (own_n1 (own_bd BC.2.2.2.1 (own_inl h0C c32 (by rw [BC.2.1]; exact (own_bqn BC).2)))).2) (hb hby own_d5_164) rfl ?_
                        show Ends p e below (PostQ s 3 12 (fun v h L => Fr n0 L ∧ Keep h0 h [] ∧ ∃ (c1 : Addr), h0.size ≤ c1 ∧ v = some (.ref c1) ∧ Fld Z h a1 "com/example/workflow_soundness/workflowsoundness/analysis/Graph" "_first" "[I" (.ref b1) ∧ Fld Z h a1 "com/example/workflow_soundness/workflowsoundness/analysis/Graph" "_targets" "[I" (.ref b2) ∧ Ar Z h b1 .int vF ∧ Ar Z h b2 .int vT ∧ Ar Z h a2 .boolean vW ∧ Ar Z h a3 .int vS ∧ Ar Z h c1 .boolean (if v9_36 < (rd vF ((rd vs30 v7_25) + (1 : Int32))) then (if (rd vs38 (rd vT v9_36)) = (0 : Int32) then (if (rd vW (rd vT v9_36)) = (0 : Int32) then (fRe_154 (fun y0 y1 y2 y3 y4 y5 y6 => (fRe_131 vF vT vW k23 y0 y1 y2 y3 y4 y5 y6)) vF vT vW v7_25 vs30 k34 (v5_35 + (1 : Int32)) (v9_36 + (1 : Int32)) (wr vs38 (rd vT v9_36) (1 : Int32)) (wr vs39 v5_35 (rd vT v9_36)) vs40) else (if (0 : Int32) < ((rd vs40 (rd vT v9_36)) - (1 : Int32)) then (fRe_154 (fun y0 y1 y2 y3 y4 y5 y6 => (fRe_131 vF vT vW k23 y0 y1 y2 y3 y4 y5 y6)) vF vT vW v7_25 vs30 k34 v5_35 (v9_36 + (1 : Int32)) vs38 vs39 (wr vs40 (rd vT v9_36) ((rd vs40 (rd vT v9_36)) - (1 : Int32)))) else (fRe_154 (fun y0 y1 y2 y3 y4 y5 y6 => (fRe_131 vF vT vW k23 y0 y1 y2 y3 y4 y5 y6)) vF vT vW v7_25 vs30 k34 (v5_35 + (1 : Int32)) (v9_36 + (1 : Int32)) (wr vs38 (rd vT v9_36) (1 : Int32)) (wr vs39 v5_35 (rd vT v9_36)) (wr vs40 (rd vT v9_36) ((rd vs40 (rd vT v9_36)) - (1 : Int32)))))) else (fRe_154 (fun y0 y1 y2 y3 y4 y5 y6 => (fRe_131 vF vT vW k23 y0 y1 y2 y3 y4 y5 y6)) vF vT vW v7_25 vs30 k34 v5_35 (v9_36 + (1 : Int32)) vs38 vs39 vs40)) else (fRe_131 vF vT vW k23 v5_35 (v7_25 + (1 : Int32)) (rd vs30 v7_25) v9_36 vs38 vs39 vs40)))) T41 m 165 #[.val (.ref a1), .val (.ref a2), .val (.ref a3), .val (.ref ad2), .val (.ref ad3), .val (.int v5_35), .val (.ref ad14), .val (.int v7_25), .val (.int (rd vs30 v7_25)), .val (.int v9_36), z10_37] [(.int (rd vF ((rd vs30 v7_25) + (1 : Int32)))), (.int v9_36)]
                        by_cases c42 : v9_36 < (rd vF ((rd vs30 v7_25) + (1 : Int32)))
                        · rw [if_pos c42]
                          refine eIcmpN X41 hx (hb hby own_d5_165) (tlt c42).2.1 rfl ?_
                          refine eALoadN X41 hx (hb hby own_d5_168) rfl rfl rfl ?_
                          refine eGetF X41 hx hZ hown (hw _ (List.mem_of_getElem? (i := 20) rfl)) Via.refl e41 F_a1__targets (hb hby own_d5_169) rfl (fun T43 X43 e43 => ?_)
                          refine eILoad X43 hx (hb hby own_d5_172) rfl rfl ?_
                          refine eIALoad X43 hx hZ e43 A_b2 (rd vT v9_36) rfl (own_inl h0D c42 (by rw [hTl]; exact Int.le_of_lt_add_one (own_bd hFv (own_lit hFl (own_n1 (own_bd BC.2.2.2.1 (own_inl h0C c32 (by rw [BC.2.1]; exact (own_bqn BC).2)))).1 (own_n1 (own_bd BC.2.2.2.1 (own_inl h0C c32 (by rw [BC.2.1]; exact (own_bqn BC).2)))).2)).2)) (hb hby own_d5_174) rfl ?_
                          refine eIStore X43 hx (hb hby own_d5_175) (L' := #[.val (.ref a1), .val (.ref a2), .val (.ref a3), .val (.ref ad2), .val (.ref ad3), .val (.int v5_35), .val (.ref ad14), .val (.int v7_25), .val (.int (rd vs30 v7_25)), .val (.int v9_36), .val (.int (rd vT v9_36))]) (by rcases ho_z10_37 with rfl | ⟨w, rfl, hw⟩ <;> first | rfl | (cases w <;> first | rfl | (simp [Value.category] at hw))) rfl ?_
                          refine eALoadN X43 hx (hb hby own_d5_177) rfl rfl rfl ?_
                          refine eILoad X43 hx (hb hby own_d5_178) rfl rfl ?_
                          refine eZALoad X43 hx hZ e43 A2 (rd vs38 (rd vT v9_36)) rfl (own_lit BD.1 (own_bd hTv (own_inl h0D c42 (by rw [hTl]; exact Int.le_of_lt_add_one (own_bd hFv (own_lit hFl (own_n1 (own_bd BC.2.2.2.1 (own_inl h0C c32 (by rw [BC.2.1]; exact (own_bqn BC).2)))).1 (own_n1 (own_bd BC.2.2.2.1 (own_inl h0C c32 (by rw [BC.2.1]; exact (own_bqn BC).2)))).2)).2))).1 (own_bd hTv (own_inl h0D c42 (by rw [hTl]; exact Int.le_of_lt_add_one (own_bd hFv (own_lit hFl (own_n1 (own_bd BC.2.2.2.1 (own_inl h0C c32 (by rw [BC.2.1]; exact (own_bqn BC).2)))).1 (own_n1 (own_bd BC.2.2.2.1 (own_inl h0C c32 (by rw [BC.2.1]; exact (own_bqn BC).2)))).2)).2))).2) (hb hby own_d5_180) rfl ?_
                          show Ends p e below (PostQ s 3 12 (fun v h L => Fr n0 L ∧ Keep h0 h [] ∧ ∃ (c1 : Addr), h0.size ≤ c1 ∧ v = some (.ref c1) ∧ Fld Z h a1 "com/example/workflow_soundness/workflowsoundness/analysis/Graph" "_first" "[I" (.ref b1) ∧ Fld Z h a1 "com/example/workflow_soundness/workflowsoundness/analysis/Graph" "_targets" "[I" (.ref b2) ∧ Ar Z h b1 .int vF ∧ Ar Z h b2 .int vT ∧ Ar Z h a2 .boolean vW ∧ Ar Z h a3 .int vS ∧ Ar Z h c1 .boolean (if (rd vs38 (rd vT v9_36)) = (0 : Int32) then (if (rd vW (rd vT v9_36)) = (0 : Int32) then (fRe_154 (fun y0 y1 y2 y3 y4 y5 y6 => (fRe_131 vF vT vW k23 y0 y1 y2 y3 y4 y5 y6)) vF vT vW v7_25 vs30 k34 (v5_35 + (1 : Int32)) (v9_36 + (1 : Int32)) (wr vs38 (rd vT v9_36) (1 : Int32)) (wr vs39 v5_35 (rd vT v9_36)) vs40) else (if (0 : Int32) < ((rd vs40 (rd vT v9_36)) - (1 : Int32)) then (fRe_154 (fun y0 y1 y2 y3 y4 y5 y6 => (fRe_131 vF vT vW k23 y0 y1 y2 y3 y4 y5 y6)) vF vT vW v7_25 vs30 k34 v5_35 (v9_36 + (1 : Int32)) vs38 vs39 (wr vs40 (rd vT v9_36) ((rd vs40 (rd vT v9_36)) - (1 : Int32)))) else (fRe_154 (fun y0 y1 y2 y3 y4 y5 y6 => (fRe_131 vF vT vW k23 y0 y1 y2 y3 y4 y5 y6)) vF vT vW v7_25 vs30 k34 (v5_35 + (1 : Int32)) (v9_36 + (1 : Int32)) (wr vs38 (rd vT v9_36) (1 : Int32)) (wr vs39 v5_35 (rd vT v9_36)) (wr vs40 (rd vT v9_36) ((rd vs40 (rd vT v9_36)) - (1 : Int32)))))) else (fRe_154 (fun y0 y1 y2 y3 y4 y5 y6 => (fRe_131 vF vT vW k23 y0 y1 y2 y3 y4 y5 y6)) vF vT vW v7_25 vs30 k34 v5_35 (v9_36 + (1 : Int32)) vs38 vs39 vs40)))) T43 m 181 #[.val (.ref a1), .val (.ref a2), .val (.ref a3), .val (.ref ad2), .val (.ref ad3), .val (.int v5_35), .val (.ref ad14), .val (.int v7_25), .val (.int (rd vs30 v7_25)), .val (.int v9_36), .val (.int (rd vT v9_36))] [(.int (rd vs38 (rd vT v9_36)))]
                          by_cases c44 : (rd vs38 (rd vT v9_36)) = (0 : Int32)
                          · rw [if_pos c44]
                            refine eIfN X43 hx (hb hby own_d5_181) ((if0 _ _).trans (teq c44).2) rfl ?_
                            refine eALoadN X43 hx (hb hby own_d5_184) rfl rfl rfl ?_
                            refine eILoad X43 hx (hb hby own_d5_185) rfl rfl ?_
                            refine eZALoad X43 hx hZ e43 A_a2 (rd vW (rd vT v9_36)) rfl (own_lit hWl (own_bd hTv (own_inl h0D c42 (by rw [hTl]; exact Int.le_of_lt_add_one (own_bd hFv (own_lit hFl (own_n1 (own_bd BC.2.2.2.1 (own_inl h0C c32 (by rw [BC.2.1]; exact (own_bqn BC).2)))).1 (own_n1 (own_bd BC.2.2.2.1 (own_inl h0C c32 (by rw [BC.2.1]; exact (own_bqn BC).2)))).2)).2))).1 (own_bd hTv (own_inl h0D c42 (by rw [hTl]; exact Int.le_of_lt_add_one (own_bd hFv (own_lit hFl (own_n1 (own_bd BC.2.2.2.1 (own_inl h0C c32 (by rw [BC.2.1]; exact (own_bqn BC).2)))).1 (own_n1 (own_bd BC.2.2.2.1 (own_inl h0C c32 (by rw [BC.2.1]; exact (own_bqn BC).2)))).2)).2))).2) (hb hby own_d5_187) rfl ?_
                            show Ends p e below (PostQ s 3 12 (fun v h L => Fr n0 L ∧ Keep h0 h [] ∧ ∃ (c1 : Addr), h0.size ≤ c1 ∧ v = some (.ref c1) ∧ Fld Z h a1 "com/example/workflow_soundness/workflowsoundness/analysis/Graph" "_first" "[I" (.ref b1) ∧ Fld Z h a1 "com/example/workflow_soundness/workflowsoundness/analysis/Graph" "_targets" "[I" (.ref b2) ∧ Ar Z h b1 .int vF ∧ Ar Z h b2 .int vT ∧ Ar Z h a2 .boolean vW ∧ Ar Z h a3 .int vS ∧ Ar Z h c1 .boolean (if (rd vW (rd vT v9_36)) = (0 : Int32) then (fRe_154 (fun y0 y1 y2 y3 y4 y5 y6 => (fRe_131 vF vT vW k23 y0 y1 y2 y3 y4 y5 y6)) vF vT vW v7_25 vs30 k34 (v5_35 + (1 : Int32)) (v9_36 + (1 : Int32)) (wr vs38 (rd vT v9_36) (1 : Int32)) (wr vs39 v5_35 (rd vT v9_36)) vs40) else (if (0 : Int32) < ((rd vs40 (rd vT v9_36)) - (1 : Int32)) then (fRe_154 (fun y0 y1 y2 y3 y4 y5 y6 => (fRe_131 vF vT vW k23 y0 y1 y2 y3 y4 y5 y6)) vF vT vW v7_25 vs30 k34 v5_35 (v9_36 + (1 : Int32)) vs38 vs39 (wr vs40 (rd vT v9_36) ((rd vs40 (rd vT v9_36)) - (1 : Int32)))) else (fRe_154 (fun y0 y1 y2 y3 y4 y5 y6 => (fRe_131 vF vT vW k23 y0 y1 y2 y3 y4 y5 y6)) vF vT vW v7_25 vs30 k34 (v5_35 + (1 : Int32)) (v9_36 + (1 : Int32)) (wr vs38 (rd vT v9_36) (1 : Int32)) (wr vs39 v5_35 (rd vT v9_36)) (wr vs40 (rd vT v9_36) ((rd vs40 (rd vT v9_36)) - (1 : Int32)))))))) T43 m 188 #[.val (.ref a1), .val (.ref a2), .val (.ref a3), .val (.ref ad2), .val (.ref ad3), .val (.int v5_35), .val (.ref ad14), .val (.int v7_25), .val (.int (rd vs30 v7_25)), .val (.int v9_36), .val (.int (rd vT v9_36))] [(.int (rd vW (rd vT v9_36)))]
                            by_cases c45 : (rd vW (rd vT v9_36)) = (0 : Int32)
                            · rw [if_pos c45]
                              refine eIfY X43 hx (hb hby own_d5_188) ((if0 _ _).trans (teq c45).1) (by decide) (pc' := 207) rfl ?_
                              refine eALoadN X43 hx (hb hby own_d5_207) rfl rfl rfl ?_
                              refine eILoad X43 hx (hb hby own_d5_208) rfl rfl ?_
                              refine eIConst X43 hx (1 : Int32) (hb hby own_d5_210) rfl rfl ?_
                              refine eZAStore X43 hx hZ e43 A2 (own_lit BD.1 (own_bd hTv (own_inl h0D c42 (by rw [hTl]; exact Int.le_of_lt_add_one (own_bd hFv (own_lit hFl (own_n1 (own_bd BC.2.2.2.1 (own_inl h0C c32 (by rw [BC.2.1]; exact (own_bqn BC).2)))).1 (own_n1 (own_bd BC.2.2.2.1 (own_inl h0C c32 (by rw [BC.2.1]; exact (own_bqn BC).2)))).2)).2))).1 (own_bd hTv (own_inl h0D c42 (by rw [hTl]; exact Int.le_of_lt_add_one (own_bd hFv (own_lit hFl (own_n1 (own_bd BC.2.2.2.1 (own_inl h0C c32 (by rw [BC.2.1]; exact (own_bqn BC).2)))).1 (own_n1 (own_bd BC.2.2.2.1 (own_inl h0C c32 (by rw [BC.2.1]; exact (own_bqn BC).2)))).2)).2))).2) (hb hby own_d5_211) rfl (fun T46 h46 X46 e46 W46 B46 => ?_)
                              have F_a1__first := F_a1__first.other W46 (Or.inl ne_a1_ad2)
                              have F_a1__targets := F_a1__targets.other W46 (Or.inl ne_a1_ad2)
                              have A_b1 := A_b1.other W46 ne_b1_ad2
                              have A_b2 := A_b2.other W46 ne_b2_ad2
                              have A_a2 := A_a2.other W46 ne_a2_ad2
                              have A_a3 := A_a3.other W46 ne_a3_ad2
                              have A3 := A3.other W46 (Ne.symm ne_ad2_ad3)
                              have A14 := A14.other W46 (Ne.symm ne_ad2_ad14)
                              have A2 : Ar Z h46 ad2 .boolean (wr vs38 (rd vT v9_36) (1 : Int32)) := B46
                              have N46 := Fr.snoc X46 N34 ge_ad2
                              have Z46 := Nat.le_trans Z34 (Keep.of_wr W46).1
                              have K46 : Keep h0 h46 [] := K34.wr W46 (Or.inr gk_ad2)
                              refine eALoad X46 hx (hb hby own_d5_212) rfl rfl rfl ?_
                              refine eILoad X46 hx (hb hby own_d5_214) rfl rfl ?_
                              refine eIInc X46 hx (1 : Int32) (hb hby own_d5_216) rfl rfl (L' := #[.val (.ref a1), .val (.ref a2), .val (.ref a3), .val (.ref ad2), .val (.ref ad3), .val (.int (v5_35 + (1 : Int32))), .val (.ref ad14), .val (.int v7_25), .val (.int (rd vs30 v7_25)), .val (.int v9_36), .val (.int (rd vT v9_36))]) rfl rfl ?_
                              refine eILoad X46 hx (hb hby own_d5_219) rfl rfl ?_
                              refine eIAStore X46 hx hZ e46 A3 (own_lit BD.2.1 (own_bqn BD).1 (own_bq BD (own_bd hTv (own_inl h0D c42 (by rw [hTl]; exact Int.le_of_lt_add_one (own_bd hFv (own_lit hFl (own_n1 (own_bd BC.2.2.2.1 (own_inl h0C c32 (by rw [BC.2.1]; exact (own_bqn BC).2)))).1 (own_n1 (own_bd BC.2.2.2.1 (own_inl h0C c32 (by rw [BC.2.1]; exact (own_bqn BC).2)))).2)).2))) c44).1) (hb hby own_d5_221) rfl (fun T47 h47 X47 e47 W47 B47 => ?_)
                              have F_a1__first := F_a1__first.other W47 (Or.inl ne_a1_ad3)
                              have F_a1__targets := F_a1__targets.other W47 (Or.inl ne_a1_ad3)
                              have A_b1 := A_b1.other W47 ne_b1_ad3
                              have A_b2 := A_b2.other W47 ne_b2_ad3
                              have A_a2 := A_a2.other W47 ne_a2_ad3
                              have A_a3 := A_a3.other W47 ne_a3_ad3
                              have A2 := A2.other W47 ne_ad2_ad3
                              have A14 := A14.other W47 (Ne.symm ne_ad3_ad14)
                              have A3 : Ar Z h47 ad3 .int (wr vs39 v5_35 (rd vT v9_36)) := B47
                              have N47 := Fr.snoc X47 N46 ge_ad3
                              have Z47 := Nat.le_trans Z46 (Keep.of_wr W47).1
                              have K47 : Keep h0 h47 [] := K46.wr W47 (Or.inr gk_ad3)
                              refine eIInc X47 hx (1 : Int32) (hb hby own_d5_222) rfl rfl (L' := #[.val (.ref a1), .val (.ref a2), .val (.ref a3), .val (.ref ad2), .val (.ref ad3), .val (.int (v5_35 + (1 : Int32))), .val (.ref ad14), .val (.int v7_25), .val (.int (rd vs30 v7_25)), .val (.int (v9_36 + (1 : Int32))), .val (.int (rd vT v9_36))]) rfl rfl ?_
                              refine eGoto X47 hx (hb hby own_d5_225) (by decide) (pc' := 154) rfl ?_
                              exact ih34 (v5_35 + (1 : Int32)) (v9_36 + (1 : Int32)) (.val (.int (rd vT v9_36))) (wr vs38 (rd vT v9_36) (1 : Int32)) (wr vs39 v5_35 (rd vT v9_36)) vs40 _ _ _ (own_turn hkD c42) (own_pos h0D c42) (own_bq BD (own_bd hTv (own_inl h0D c42 (by rw [hTl]; exact Int.le_of_lt_add_one (own_bd hFv (own_lit hFl (own_n1 (own_bd BC.2.2.2.1 (own_inl h0C c32 (by rw [BC.2.1]; exact (own_bqn BC).2)))).1 (own_n1 (own_bd BC.2.2.2.1 (own_inl h0C c32 (by rw [BC.2.1]; exact (own_bqn BC).2)))).2)).2))) c44).2.2 (by first | exact ND | (simp only [own_wl]; exact ND)) (One.val rfl) X47 N47 e47 Z47 K47 F_a1__first F_a1__targets A_b1 A_b2 A_a2 A_a3 A2 A3 A14
                            · rw [if_neg c45]
                              refine eIfN X43 hx (hb hby own_d5_188) ((if0 _ _).trans (feq c45).1) rfl ?_
                              refine eALoad X43 hx (hb hby own_d5_191) rfl rfl rfl ?_
                              refine eILoad X43 hx (hb hby own_d5_193) rfl rfl ?_
                              refine eDup2 X43 hx (hb hby own_d5_195) rfl rfl rfl ?_
                              refine eIALoad X43 hx hZ e43 A14 (rd vs40 (rd vT v9_36)) rfl (own_lit ND (own_bd hTv (own_inl h0D c42 (by rw [hTl]; exact Int.le_of_lt_add_one (own_bd hFv (own_lit hFl (own_n1 (own_bd BC.2.2.2.1 (own_inl h0C c32 (by rw [BC.2.1]; exact (own_bqn BC).2)))).1 (own_n1 (own_bd BC.2.2.2.1 (own_inl h0C c32 (by rw [BC.2.1]; exact (own_bqn BC).2)))).2)).2))).1 (own_bd hTv (own_inl h0D c42 (by rw [hTl]; exact Int.le_of_lt_add_one (own_bd hFv (own_lit hFl (own_n1 (own_bd BC.2.2.2.1 (own_inl h0C c32 (by rw [BC.2.1]; exact (own_bqn BC).2)))).1 (own_n1 (own_bd BC.2.2.2.1 (own_inl h0C c32 (by rw [BC.2.1]; exact (own_bqn BC).2)))).2)).2))).2) (hb hby own_d5_196) rfl ?_
                              refine eIConst X43 hx (1 : Int32) (hb hby own_d5_197) rfl rfl ?_
                              refine eISub X43 hx (hb hby own_d5_198) rfl ?_
                              refine eDupX2 X43 hx (hb hby own_d5_199) rfl rfl rfl rfl ?_
                              refine eIAStore X43 hx hZ e43 A14 (own_lit ND (own_bd hTv (own_inl h0D c42 (by rw [hTl]; exact Int.le_of_lt_add_one (own_bd hFv (own_lit hFl (own_n1 (own_bd BC.2.2.2.1 (own_inl h0C c32 (by rw [BC.2.1]; exact (own_bqn BC).2)))).1 (own_n1 (own_bd BC.2.2.2.1 (own_inl h0C c32 (by rw [BC.2.1]; exact (own_bqn BC).2)))).2)).2))).1 (own_bd hTv (own_inl h0D c42 (by rw [hTl]; exact Int.le_of_lt_add_one (own_bd hFv (own_lit hFl (own_n1 (own_bd BC.2.2.2.1 (own_inl h0C c32 (by rw [BC.2.1]; exact (own_bqn BC).2)))).1 (own_n1 (own_bd BC.2.2.2.1 (own_inl h0C c32 (by rw [BC.2.1]; exact (own_bqn BC).2)))).2)).2))).2) (hb hby own_d5_200) rfl (fun T48 h48 X48 e48 W48 B48 => ?_)
                              have F_a1__first := F_a1__first.other W48 (Or.inl ne_a1_ad14)
                              have F_a1__targets := F_a1__targets.other W48 (Or.inl ne_a1_ad14)
                              have A_b1 := A_b1.other W48 ne_b1_ad14
                              have A_b2 := A_b2.other W48 ne_b2_ad14
                              have A_a2 := A_a2.other W48 ne_a2_ad14
                              have A_a3 := A_a3.other W48 ne_a3_ad14
                              have A2 := A2.other W48 ne_ad2_ad14
                              have A3 := A3.other W48 ne_ad3_ad14
                              have A14 : Ar Z h48 ad14 .int (wr vs40 (rd vT v9_36) ((rd vs40 (rd vT v9_36)) - (1 : Int32))) := B48
                              have N48 := Fr.snoc X48 N34 ge_ad14
                              have Z48 := Nat.le_trans Z34 (Keep.of_wr W48).1
                              have K48 : Keep h0 h48 [] := K34.wr W48 (Or.inr gk_ad14)
                              show Ends p e below (PostQ s 3 12 (fun v h L => Fr n0 L ∧ Keep h0 h [] ∧ ∃ (c1 : Addr), h0.size ≤ c1 ∧ v = some (.ref c1) ∧ Fld Z h a1 "com/example/workflow_soundness/workflowsoundness/analysis/Graph" "_first" "[I" (.ref b1) ∧ Fld Z h a1 "com/example/workflow_soundness/workflowsoundness/analysis/Graph" "_targets" "[I" (.ref b2) ∧ Ar Z h b1 .int vF ∧ Ar Z h b2 .int vT ∧ Ar Z h a2 .boolean vW ∧ Ar Z h a3 .int vS ∧ Ar Z h c1 .boolean (if (0 : Int32) < ((rd vs40 (rd vT v9_36)) - (1 : Int32)) then (fRe_154 (fun y0 y1 y2 y3 y4 y5 y6 => (fRe_131 vF vT vW k23 y0 y1 y2 y3 y4 y5 y6)) vF vT vW v7_25 vs30 k34 v5_35 (v9_36 + (1 : Int32)) vs38 vs39 (wr vs40 (rd vT v9_36) ((rd vs40 (rd vT v9_36)) - (1 : Int32)))) else (fRe_154 (fun y0 y1 y2 y3 y4 y5 y6 => (fRe_131 vF vT vW k23 y0 y1 y2 y3 y4 y5 y6)) vF vT vW v7_25 vs30 k34 (v5_35 + (1 : Int32)) (v9_36 + (1 : Int32)) (wr vs38 (rd vT v9_36) (1 : Int32)) (wr vs39 v5_35 (rd vT v9_36)) (wr vs40 (rd vT v9_36) ((rd vs40 (rd vT v9_36)) - (1 : Int32))))))) T48 m 201 #[.val (.ref a1), .val (.ref a2), .val (.ref a3), .val (.ref ad2), .val (.ref ad3), .val (.int v5_35), .val (.ref ad14), .val (.int v7_25), .val (.int (rd vs30 v7_25)), .val (.int v9_36), .val (.int (rd vT v9_36))] [(.int ((rd vs40 (rd vT v9_36)) - (1 : Int32)))]
                              by_cases c49 : (0 : Int32) < ((rd vs40 (rd vT v9_36)) - (1 : Int32))
                              · rw [if_pos c49]
                                refine eIfN X48 hx (hb hby own_d5_201) ((if0 _ _).trans (tlt c49).2.2.2) rfl ?_
                                refine eGoto X48 hx (hb hby own_d5_204) (by decide) (pc' := 222) rfl ?_
                                refine eIInc X48 hx (1 : Int32) (hb hby own_d5_222) rfl rfl (L' := #[.val (.ref a1), .val (.ref a2), .val (.ref a3), .val (.ref ad2), .val (.ref ad3), .val (.int v5_35), .val (.ref ad14), .val (.int v7_25), .val (.int (rd vs30 v7_25)), .val (.int (v9_36 + (1 : Int32))), .val (.int (rd vT v9_36))]) rfl rfl ?_
                                refine eGoto X48 hx (hb hby own_d5_225) (by decide) (pc' := 154) rfl ?_
                                exact ih34 v5_35 (v9_36 + (1 : Int32)) (.val (.int (rd vT v9_36))) vs38 vs39 (wr vs40 (rd vT v9_36) ((rd vs40 (rd vT v9_36)) - (1 : Int32))) _ _ _ (own_turn hkD c42) (own_pos h0D c42) BD (by first | exact ND | (simp only [own_wl]; exact ND)) (One.val rfl) X48 N48 e48 Z48 K48 F_a1__first F_a1__targets A_b1 A_b2 A_a2 A_a3 A2 A3 A14
                              · rw [if_neg c49]
                                refine eIfY X48 hx (hb hby own_d5_201) ((if0 _ _).trans (flt c49).2.2.2) (by decide) (pc' := 207) rfl ?_
                                refine eALoadN X48 hx (hb hby own_d5_207) rfl rfl rfl ?_
                                refine eILoad X48 hx (hb hby own_d5_208) rfl rfl ?_
                                refine eIConst X48 hx (1 : Int32) (hb hby own_d5_210) rfl rfl ?_
                                refine eZAStore X48 hx hZ e48 A2 (own_lit BD.1 (own_bd hTv (own_inl h0D c42 (by rw [hTl]; exact Int.le_of_lt_add_one (own_bd hFv (own_lit hFl (own_n1 (own_bd BC.2.2.2.1 (own_inl h0C c32 (by rw [BC.2.1]; exact (own_bqn BC).2)))).1 (own_n1 (own_bd BC.2.2.2.1 (own_inl h0C c32 (by rw [BC.2.1]; exact (own_bqn BC).2)))).2)).2))).1 (own_bd hTv (own_inl h0D c42 (by rw [hTl]; exact Int.le_of_lt_add_one (own_bd hFv (own_lit hFl (own_n1 (own_bd BC.2.2.2.1 (own_inl h0C c32 (by rw [BC.2.1]; exact (own_bqn BC).2)))).1 (own_n1 (own_bd BC.2.2.2.1 (own_inl h0C c32 (by rw [BC.2.1]; exact (own_bqn BC).2)))).2)).2))).2) (hb hby own_d5_211) rfl (fun T50 h50 X50 e50 W50 B50 => ?_)
                                have F_a1__first := F_a1__first.other W50 (Or.inl ne_a1_ad2)
                                have F_a1__targets := F_a1__targets.other W50 (Or.inl ne_a1_ad2)
                                have A_b1 := A_b1.other W50 ne_b1_ad2
                                have A_b2 := A_b2.other W50 ne_b2_ad2
                                have A_a2 := A_a2.other W50 ne_a2_ad2
                                have A_a3 := A_a3.other W50 ne_a3_ad2
                                have A3 := A3.other W50 (Ne.symm ne_ad2_ad3)
                                have A14 := A14.other W50 (Ne.symm ne_ad2_ad14)
                                have A2 : Ar Z h50 ad2 .boolean (wr vs38 (rd vT v9_36) (1 : Int32)) := B50
                                have N50 := Fr.snoc X50 N48 ge_ad2
                                have Z50 := Nat.le_trans Z48 (Keep.of_wr W50).1
                                have K50 : Keep h0 h50 [] := K48.wr W50 (Or.inr gk_ad2)
                                refine eALoad X50 hx (hb hby own_d5_212) rfl rfl rfl ?_
                                refine eILoad X50 hx (hb hby own_d5_214) rfl rfl ?_
                                refine eIInc X50 hx (1 : Int32) (hb hby own_d5_216) rfl rfl (L' := #[.val (.ref a1), .val (.ref a2), .val (.ref a3), .val (.ref ad2), .val (.ref ad3), .val (.int (v5_35 + (1 : Int32))), .val (.ref ad14), .val (.int v7_25), .val (.int (rd vs30 v7_25)), .val (.int v9_36), .val (.int (rd vT v9_36))]) rfl rfl ?_
                                refine eILoad X50 hx (hb hby own_d5_219) rfl rfl ?_
                                refine eIAStore X50 hx hZ e50 A3 (own_lit BD.2.1 (own_bqn BD).1 (own_bq BD (own_bd hTv (own_inl h0D c42 (by rw [hTl]; exact Int.le_of_lt_add_one (own_bd hFv (own_lit hFl (own_n1 (own_bd BC.2.2.2.1 (own_inl h0C c32 (by rw [BC.2.1]; exact (own_bqn BC).2)))).1 (own_n1 (own_bd BC.2.2.2.1 (own_inl h0C c32 (by rw [BC.2.1]; exact (own_bqn BC).2)))).2)).2))) c44).1) (hb hby own_d5_221) rfl (fun T51 h51 X51 e51 W51 B51 => ?_)
                                have F_a1__first := F_a1__first.other W51 (Or.inl ne_a1_ad3)
                                have F_a1__targets := F_a1__targets.other W51 (Or.inl ne_a1_ad3)
                                have A_b1 := A_b1.other W51 ne_b1_ad3
                                have A_b2 := A_b2.other W51 ne_b2_ad3
                                have A_a2 := A_a2.other W51 ne_a2_ad3
                                have A_a3 := A_a3.other W51 ne_a3_ad3
                                have A2 := A2.other W51 ne_ad2_ad3
                                have A14 := A14.other W51 (Ne.symm ne_ad3_ad14)
                                have A3 : Ar Z h51 ad3 .int (wr vs39 v5_35 (rd vT v9_36)) := B51
                                have N51 := Fr.snoc X51 N50 ge_ad3
                                have Z51 := Nat.le_trans Z50 (Keep.of_wr W51).1
                                have K51 : Keep h0 h51 [] := K50.wr W51 (Or.inr gk_ad3)
                                refine eIInc X51 hx (1 : Int32) (hb hby own_d5_222) rfl rfl (L' := #[.val (.ref a1), .val (.ref a2), .val (.ref a3), .val (.ref ad2), .val (.ref ad3), .val (.int (v5_35 + (1 : Int32))), .val (.ref ad14), .val (.int v7_25), .val (.int (rd vs30 v7_25)), .val (.int (v9_36 + (1 : Int32))), .val (.int (rd vT v9_36))]) rfl rfl ?_
                                refine eGoto X51 hx (hb hby own_d5_225) (by decide) (pc' := 154) rfl ?_
                                exact ih34 (v5_35 + (1 : Int32)) (v9_36 + (1 : Int32)) (.val (.int (rd vT v9_36))) (wr vs38 (rd vT v9_36) (1 : Int32)) (wr vs39 v5_35 (rd vT v9_36)) (wr vs40 (rd vT v9_36) ((rd vs40 (rd vT v9_36)) - (1 : Int32))) _ _ _ (own_turn hkD c42) (own_pos h0D c42) (own_bq BD (own_bd hTv (own_inl h0D c42 (by rw [hTl]; exact Int.le_of_lt_add_one (own_bd hFv (own_lit hFl (own_n1 (own_bd BC.2.2.2.1 (own_inl h0C c32 (by rw [BC.2.1]; exact (own_bqn BC).2)))).1 (own_n1 (own_bd BC.2.2.2.1 (own_inl h0C c32 (by rw [BC.2.1]; exact (own_bqn BC).2)))).2)).2))) c44).2.2 (by first | exact ND | (simp only [own_wl]; exact ND)) (One.val rfl) X51 N51 e51 Z51 K51 F_a1__first F_a1__targets A_b1 A_b2 A_a2 A_a3 A2 A3 A14
                          · rw [if_neg c44]
                            refine eIfY X43 hx (hb hby own_d5_181) ((if0 _ _).trans (feq c44).2) (by decide) (pc' := 222) rfl ?_
                            refine eIInc X43 hx (1 : Int32) (hb hby own_d5_222) rfl rfl (L' := #[.val (.ref a1), .val (.ref a2), .val (.ref a3), .val (.ref ad2), .val (.ref ad3), .val (.int v5_35), .val (.ref ad14), .val (.int v7_25), .val (.int (rd vs30 v7_25)), .val (.int (v9_36 + (1 : Int32))), .val (.int (rd vT v9_36))]) rfl rfl ?_
                            refine eGoto X43 hx (hb hby own_d5_225) (by decide) (pc' := 154) rfl ?_
                            exact ih34 v5_35 (v9_36 + (1 : Int32)) (.val (.int (rd vT v9_36))) vs38 vs39 vs40 _ _ _ (own_turn hkD c42) (own_pos h0D c42) BD (by first | exact ND | (simp only [own_wl]; exact ND)) (One.val rfl) X43 N34 e43 Z34 K34 F_a1__first F_a1__targets A_b1 A_b2 A_a2 A_a3 A2 A3 A14
                        · rw [if_neg c42]
                          refine eIcmpY X41 hx (hb hby own_d5_165) (flt c42).2.1 (by decide) (pc' := 228) rfl ?_
                          refine eIInc X41 hx (1 : Int32) (hb hby own_d5_228) rfl rfl (L' := #[.val (.ref a1), .val (.ref a2), .val (.ref a3), .val (.ref ad2), .val (.ref ad3), .val (.int v5_35), .val (.ref ad14), .val (.int (v7_25 + (1 : Int32))), .val (.int (rd vs30 v7_25)), .val (.int v9_36), z10_37]) rfl rfl ?_
                          refine eGoto X41 hx (hb hby own_d5_231) (by decide) (pc' := 131) rfl ?_
                          exact ih23 v5_35 (v7_25 + (1 : Int32)) (rd vs30 v7_25) v9_36 z10_37 vs38 vs39 vs40 _ _ _ (own_turnC hkC (own_bqn BC).2 c32) (own_pos h0C c32) BD ND ho_z10_37 X41 N34 e41 Z34 K34 F_a1__first F_a1__targets A_b1 A_b2 A_a2 A_a3 A2 A3 A14
                    exact LP34 7 v5_24 (rd vF (rd vs30 v7_25)) z10_28 vs29 vs30 vs31 _ _ _ (by have h1 := (own_bd hFv (own_lit hFl (own_n1 (own_bd BC.2.2.2.1 (own_inl h0C c32 (by rw [BC.2.1]; exact (own_bqn BC).2)))).1 (own_n1 (own_bd BC.2.2.2.1 (own_inl h0C c32 (by rw [BC.2.1]; exact (own_bqn BC).2)))).2)); have h2 := (own_bd hFv (own_inb (j := (rd vs30 v7_25)) (own_bd BC.2.2.2.1 (own_inl h0C c32 (by rw [BC.2.1]; exact (own_bqn BC).2))).1 (by rw [hFl]; have := (own_bd BC.2.2.2.1 (own_inl h0C c32 (by rw [BC.2.1]; exact (own_bqn BC).2))).2; omega))); omega) (own_bd hFv (own_inb (own_bd BC.2.2.2.1 (own_inl h0C c32 (by rw [BC.2.1]; exact (own_bqn BC).2))).1 (by rw [hFl]; have := (own_bd BC.2.2.2.1 (own_inl h0C c32 (by rw [BC.2.1]; exact (own_bqn BC).2))).2; omega))).1 BC NC ho_z10_28 X33 N23 e33 Z23 K23 F_a1__first F_a1__targets A_b1 A_b2 A_a2 A_a3 A2 A3 A14
                  · rw [if_neg c32]
                    refine eIcmpY X23 hx (hb hby own_d5_135) (flt c32).2.1 (by decide) (pc' := 234) rfl ?_
                    refine eALoadN X23 hx (hb hby own_d5_234) rfl rfl rfl ?_
                    exact eRetA X23 hx Bd.returns rfl rfl rfl hlk (hb hby own_d5_235) (by decide) (by decide) (by rw [e23]; exact ⟨N23, K23, ad2, gk_ad2, rfl, F_a1__first, F_a1__targets, A_b1, A_b2, A_a2, A_a3, A2⟩)
              exact LP23 5 v5_5 (0 : Int32) (6 : Int32) v9_17 z10_18 vs8 vs9 vs19 _ _ _ (by decide) (by decide) BA hlB ho_z10_18 X16 N16 e16 Z16 K16 F_a1__first F_a1__targets A_b1 A_b2 A_a2 A_a3 A2 A3 A14
        exact LP16 7 (0 : Int32) (.unset) [(0 : Int32), (0 : Int32), (0 : Int32), (0 : Int32)] _ _ _ (by decide) (by decide) rfl One.u X15 N4 e15 Z14 K14 F_a1__first F_a1__targets A_b1 A_b2 A_a2 A_a3 A2 A3 A14
  exact LP4 4 (0 : Int32) (0 : Int32) (.unset) [(0 : Int32), (0 : Int32), (0 : Int32), (0 : Int32)] [(0 : Int32), (0 : Int32), (0 : Int32), (0 : Int32)] _ _ _ (by rw [own_ofn hSl]; simp only [Int32.reduceToInt]; omega) (by decide) ⟨rfl, rfl, own_z4 _ (by decide), own_z4 _ (by decide), by decide⟩ One.u X3 N0 e3 Z3 K3 F_a1__first F_a1__targets A_b1 A_b2 A_a2 A_a3 A2 A3
theorem own_cut (p : Int32) : let a := (p &&& (7 : Int32)) % (7 : Int32); 0 ≤ a.toInt ∧ a.toInt ≤ 6 ∧ ¬ ((7 : Int32) - a = 0) := by
  intro a
  have h1 := c_mask p 7 3 (by decide) (by decide)
  have h2 : a.toInt = _ := (c_irem (p &&& 7) 7 7 (by decide)).1 (by omega)
  have h3 := c_isub 7 a
  have r := rng32 (7 - a)
  refine ⟨by omega, by omega, fun h => ?_⟩
  rw [h] at h3
  simp only [Int32.reduceToInt] at h3
  omega
theorem own_cut2 (a y : Int32) (ha : 0 ≤ a.toInt ∧ a.toInt ≤ 6) : let b := a + (y &&& (7 : Int32)) % ((7 : Int32) - a); a.toInt ≤ b.toInt ∧ b.toInt ≤ 6 ∧ ¬ ((7 : Int32) - b = 0) := by
  intro b
  have h1 := c_mask y 7 3 (by decide) (by decide)
  have h3 := c_isub 7 a
  have r3 := rng32 (7 - a)
  simp only [Int32.reduceToInt] at h3
  have h4 := (c_iremV (y &&& 7) (7 - a)).1 (by omega) (by omega)
  have h5 := c_iadd a ((y &&& 7) % (7 - a))
  have r5 := rng32 (a + (y &&& 7) % (7 - a))
  have e : b.toInt = (a + (y &&& 7) % (7 - a)).toInt := rfl
  have h6 := c_isub 7 b
  have r6 := rng32 (7 - b)
  refine ⟨by omega, by omega, fun h => ?_⟩
  rw [h] at h6
  simp only [Int32.reduceToInt] at h6
  omega
def Cuts (a b c : Int32) : Prop := 0 ≤ a.toInt ∧ a.toInt ≤ b.toInt ∧ b.toInt ≤ c.toInt ∧ c.toInt ≤ 6
theorem own_cuts (p : Int32) : Cuts ((p &&& (7 : Int32)) % (7 : Int32)) (((p &&& (7 : Int32)) % (7 : Int32)) + ((((p.toUInt32 >>> ((3 : Int32) &&& 31).toUInt32).toInt32) &&& (7 : Int32)) % ((7 : Int32) - ((p &&& (7 : Int32)) % (7 : Int32))))) ((((p &&& (7 : Int32)) % (7 : Int32)) + ((((p.toUInt32 >>> ((3 : Int32) &&& 31).toUInt32).toInt32) &&& (7 : Int32)) % ((7 : Int32) - ((p &&& (7 : Int32)) % (7 : Int32))))) + ((((p.toUInt32 >>> ((6 : Int32) &&& 31).toUInt32).toInt32) &&& (7 : Int32)) % ((7 : Int32) - (((p &&& (7 : Int32)) % (7 : Int32)) + ((((p.toUInt32 >>> ((3 : Int32) &&& 31).toUInt32).toInt32) &&& (7 : Int32)) % ((7 : Int32) - ((p &&& (7 : Int32)) % (7 : Int32)))))))) := by
  have h1 := own_cut p
  have h2 := own_cut2 ((p &&& (7 : Int32)) % (7 : Int32)) ((p.toUInt32 >>> ((3 : Int32) &&& 31).toUInt32).toInt32) ⟨h1.1, h1.2.1⟩
  have h3 := own_cut2 (((p &&& (7 : Int32)) % (7 : Int32)) + ((((p.toUInt32 >>> ((3 : Int32) &&& 31).toUInt32).toInt32) &&& (7 : Int32)) % ((7 : Int32) - ((p &&& (7 : Int32)) % (7 : Int32))))) ((p.toUInt32 >>> ((6 : Int32) &&& 31).toUInt32).toInt32) ⟨Int.le_trans h1.1 h2.1, h2.2.1⟩
  exact ⟨h1.1, h2.1, h3.1, h3.2.1⟩
theorem own_m3 (x : Int32) : 0 ≤ (x &&& (3 : Int32)).toInt ∧ (x &&& (3 : Int32)).toInt < 4 := by
  have := c_mask x 3 2 (by decide) (by decide)
  omega
theorem own_src (e a b c : Int32) : 0 ≤ (fSrc_0 e a b c).toInt ∧ (fSrc_0 e a b c).toInt < 4 := by
  unfold fSrc_0
  (repeat' split) <;> decide
theorem own_bd0 : Bd4 4 [] := fun x h => by cases h
theorem own_bdc {k : Int} {x : Int32} {v : List Int32} (h : 0 ≤ x.toInt ∧ x.toInt < k) (B : Bd4 k v) : Bd4 k (x :: v) := fun y hy => by
  rcases List.mem_cons.mp hy with rfl | hy
  · exact h
  · exact B y hy
theorem own_bdn {k : Int} : Bd4 k [] := fun x h => by cases h
theorem own_f7 {a b c : Int32} (h : Cuts a b c) : Bd4 7 [(0 : Int32), a, b, c, (6 : Int32)] := by
  unfold Cuts at h
  exact own_bdc (by decide) (own_bdc (by omega) (own_bdc (by omega) (own_bdc (by omega) (own_bdc (by decide) own_bdn))))
theorem own_t6 (p : Int32) : Bd4 4 [(p &&& (3 : Int32)), (((p.toUInt32 >>> ((2 : Int32) &&& 31).toUInt32).toInt32) &&& (3 : Int32)), (((p.toUInt32 >>> ((4 : Int32) &&& 31).toUInt32).toInt32) &&& (3 : Int32)), (((p.toUInt32 >>> ((6 : Int32) &&& 31).toUInt32).toInt32) &&& (3 : Int32)), (((p.toUInt32 >>> ((8 : Int32) &&& 31).toUInt32).toInt32) &&& (3 : Int32)), (((p.toUInt32 >>> ((10 : Int32) &&& 31).toUInt32).toInt32) &&& (3 : Int32))] :=
  own_bdc (own_m3 _) (own_bdc (own_m3 _) (own_bdc (own_m3 _) (own_bdc (own_m3 _) (own_bdc (own_m3 _) (own_bdc (own_m3 _) own_bdn)))))
theorem own_s6 (a b c : Int32) : Bd4 4 [(fSrc_0 (0 : Int32) a b c), (fSrc_0 (1 : Int32) a b c), (fSrc_0 (2 : Int32) a b c), (fSrc_0 (3 : Int32) a b c), (fSrc_0 (4 : Int32) a b c), (fSrc_0 (5 : Int32) a b c)] :=
  own_bdc (own_src _ _ _ _) (own_bdc (own_src _ _ _ _) (own_bdc (own_src _ _ _ _) (own_bdc (own_src _ _ _ _) (own_bdc (own_src _ _ _ _) (own_bdc (own_src _ _ _ _) own_bdn)))))
theorem own_gi {vs : List Int32} {n k : Int32} (h : (Int32.ofNat vs.length) = n) (hl : vs.length < 2 ^ 31) (h0 : 0 ≤ k.toInt) (h1 : k.toInt < n.toInt) : InB vs k := by
  have e : (Int32.ofNat vs.length).toInt = vs.length := Int32.toInt_ofNat_of_lt hl
  rw [h] at e
  exact own_inb h0 (by omega)
theorem own_pd5 : parseMethodDescriptor "(IIII)I" = some ⟨[.int, .int, .int, .int], some .int⟩ := by decide +kernel
theorem own_pd6 : parseMethodDescriptor "(IIIII)Z" = some ⟨[.int, .int, .int, .int, .int], some .boolean⟩ := by decide +kernel
theorem own_pd7 : parseMethodDescriptor "([I[I)V" = some ⟨[(.array .int), (.array .int)], none⟩ := by decide +kernel
theorem own_pd8 : parseMethodDescriptor "([Z[I)[Z" = some ⟨[(.array .boolean), (.array .int)], some (.array .boolean)⟩ := by decide +kernel
theorem own_pd9 : parseMethodDescriptor "([I[I[Z[Z)[Z" = some ⟨[(.array .int), (.array .int), (.array .boolean), (.array .boolean)], some (.array .boolean)⟩ := by decide +kernel
def f0_462 (vs26 : List Int32) (vs27 : List Int32) (vs46 : List Int32) (vs67 : List Int32) (vs68 : List Int32) : Int32 := (if (Int32.ofNat vs68.length) = (4 : Int32) then (if (rd vs68 (0 : Int32)) = (rd (fStep_0 vs27 vs26 vs46 (fStep_0 vs27 vs26 vs46 (fStep_0 vs27 vs26 vs46 vs67))) (0 : Int32)) then (if (rd vs68 (1 : Int32)) = (rd (fStep_0 vs27 vs26 vs46 (fStep_0 vs27 vs26 vs46 (fStep_0 vs27 vs26 vs46 vs67))) (1 : Int32)) then (if (rd vs68 (2 : Int32)) = (rd (fStep_0 vs27 vs26 vs46 (fStep_0 vs27 vs26 vs46 (fStep_0 vs27 vs26 vs46 vs67))) (2 : Int32)) then (if (rd vs68 (3 : Int32)) = (rd (fStep_0 vs27 vs26 vs46 (fStep_0 vs27 vs26 vs46 (fStep_0 vs27 vs26 vs46 vs67))) (3 : Int32)) then (1 : Int32) else (0 : Int32)) else (0 : Int32)) else (0 : Int32)) else (0 : Int32)) else (0 : Int32))
def f0_348 (v4_2 : Int32) (v5_3 : Int32) (v6_4 : Int32) (vs26 : List Int32) (vs27 : List Int32) (v10_42 : Int32) (v11_43 : Int32) (v12_44 : Int32) (v13_45 : Int32) (vs46 : List Int32) (vS : List Int32) : Int32 := (f0_462 vs26 vs27 vs46 [(nar .boolean (fIst_0 v10_42 v11_43 v12_44 v13_45 (0 : Int32))), (nar .boolean (fIst_0 v10_42 v11_43 v12_44 v13_45 (1 : Int32))), (nar .boolean (fIst_0 v10_42 v11_43 v12_44 v13_45 (2 : Int32))), (nar .boolean (fIst_0 v10_42 v11_43 v12_44 v13_45 (3 : Int32)))] (fRe_0 [(0 : Int32), v4_2, v5_3, v6_4, (6 : Int32)] vs26 vs46 vS))
def f0_272 (v4_2 : Int32) (v5_3 : Int32) (v6_4 : Int32) (vs26 : List Int32) (vs27 : List Int32) (v10_42 : Int32) (v11_43 : Int32) (v12_44 : Int32) (v13_45 : Int32) (vs46 : List Int32) : Int32 := (if v10_42 = (0 : Int32) then (f0_348 v4_2 v5_3 v6_4 vs26 vs27 v10_42 v11_43 v12_44 v13_45 vs46 []) else (if v10_42 = (1 : Int32) then (f0_348 v4_2 v5_3 v6_4 vs26 vs27 v10_42 v11_43 v12_44 v13_45 vs46 [v11_43]) else (if v10_42 = (2 : Int32) then (f0_348 v4_2 v5_3 v6_4 vs26 vs27 v10_42 v11_43 v12_44 v13_45 vs46 [v11_43, v12_44]) else (f0_348 v4_2 v5_3 v6_4 vs26 vs27 v10_42 v11_43 v12_44 v13_45 vs46 [v11_43, v12_44, v13_45]))))
def f0_242 (p4 : Int32) (v4_2 : Int32) (v5_3 : Int32) (v6_4 : Int32) (vs26 : List Int32) (vs27 : List Int32) (t29 : Int32) (t32 : Int32) (t35 : Int32) (t38 : Int32) : Int32 := (f0_272 v4_2 v5_3 v6_4 vs26 vs27 (p4 &&& (3 : Int32)) (((p4.toUInt32 >>> ((2 : Int32) &&& 31).toUInt32).toInt32) &&& (3 : Int32)) (((p4.toUInt32 >>> ((4 : Int32) &&& 31).toUInt32).toInt32) &&& (3 : Int32)) (((p4.toUInt32 >>> ((6 : Int32) &&& 31).toUInt32).toInt32) &&& (3 : Int32)) [(nar .boolean t29), (nar .boolean t32), (nar .boolean t35), (nar .boolean t38)])
def f0_227 (p3 : Int32) (p4 : Int32) (v4_2 : Int32) (v5_3 : Int32) (v6_4 : Int32) (vs26 : List Int32) (vs27 : List Int32) (t29 : Int32) (t32 : Int32) (t35 : Int32) : Int32 := (if (p3 &&& (8 : Int32)) = (0 : Int32) then (f0_242 p4 v4_2 v5_3 v6_4 vs26 vs27 t29 t32 t35 (0 : Int32)) else (f0_242 p4 v4_2 v5_3 v6_4 vs26 vs27 t29 t32 t35 (1 : Int32)))
def f0_213 (p3 : Int32) (p4 : Int32) (v4_2 : Int32) (v5_3 : Int32) (v6_4 : Int32) (vs26 : List Int32) (vs27 : List Int32) (t29 : Int32) (t32 : Int32) : Int32 := (if (p3 &&& (4 : Int32)) = (0 : Int32) then (f0_227 p3 p4 v4_2 v5_3 v6_4 vs26 vs27 t29 t32 (0 : Int32)) else (f0_227 p3 p4 v4_2 v5_3 v6_4 vs26 vs27 t29 t32 (1 : Int32)))
def f0_199 (p3 : Int32) (p4 : Int32) (v4_2 : Int32) (v5_3 : Int32) (v6_4 : Int32) (vs26 : List Int32) (vs27 : List Int32) (t29 : Int32) : Int32 := (if (p3 &&& (2 : Int32)) = (0 : Int32) then (f0_213 p3 p4 v4_2 v5_3 v6_4 vs26 vs27 t29 (0 : Int32)) else (f0_213 p3 p4 v4_2 v5_3 v6_4 vs26 vs27 t29 (1 : Int32)))
def f0_183 (p3 : Int32) (p4 : Int32) (v4_2 : Int32) (v5_3 : Int32) (v6_4 : Int32) (vs26 : List Int32) (vs27 : List Int32) : Int32 := (if (p3 &&& (1 : Int32)) = (0 : Int32) then (f0_199 p3 p4 v4_2 v5_3 v6_4 vs26 vs27 (0 : Int32)) else (f0_199 p3 p4 v4_2 v5_3 v6_4 vs26 vs27 (1 : Int32)))
def f0_44 (p2 : Int32) (p3 : Int32) (p4 : Int32) (v4_2 : Int32) (v5_3 : Int32) (v6_4 : Int32) : Int32 := (f0_183 p3 p4 v4_2 v5_3 v6_4 [(p2 &&& (3 : Int32)), (((p2.toUInt32 >>> ((2 : Int32) &&& 31).toUInt32).toInt32) &&& (3 : Int32)), (((p2.toUInt32 >>> ((4 : Int32) &&& 31).toUInt32).toInt32) &&& (3 : Int32)), (((p2.toUInt32 >>> ((6 : Int32) &&& 31).toUInt32).toInt32) &&& (3 : Int32)), (((p2.toUInt32 >>> ((8 : Int32) &&& 31).toUInt32).toInt32) &&& (3 : Int32)), (((p2.toUInt32 >>> ((10 : Int32) &&& 31).toUInt32).toInt32) &&& (3 : Int32))] [(fSrc_0 (0 : Int32) v4_2 v5_3 v6_4), (fSrc_0 (1 : Int32) v4_2 v5_3 v6_4), (fSrc_0 (2 : Int32) v4_2 v5_3 v6_4), (fSrc_0 (3 : Int32) v4_2 v5_3 v6_4), (fSrc_0 (4 : Int32) v4_2 v5_3 v6_4), (fSrc_0 (5 : Int32) v4_2 v5_3 v6_4)])
def f0_0 (p1 : Int32) (p2 : Int32) (p3 : Int32) (p4 : Int32) : Int32 := (f0_44 p2 p3 p4 ((p1 &&& (7 : Int32)) % (7 : Int32)) (((p1 &&& (7 : Int32)) % (7 : Int32)) + ((((p1.toUInt32 >>> ((3 : Int32) &&& 31).toUInt32).toInt32) &&& (7 : Int32)) % ((7 : Int32) - ((p1 &&& (7 : Int32)) % (7 : Int32))))) ((((p1 &&& (7 : Int32)) % (7 : Int32)) + ((((p1.toUInt32 >>> ((3 : Int32) &&& 31).toUInt32).toInt32) &&& (7 : Int32)) % ((7 : Int32) - ((p1 &&& (7 : Int32)) % (7 : Int32))))) + ((((p1.toUInt32 >>> ((6 : Int32) &&& 31).toUInt32).toInt32) &&& (7 : Int32)) % ((7 : Int32) - (((p1 &&& (7 : Int32)) % (7 : Int32)) + ((((p1.toUInt32 >>> ((3 : Int32) &&& 31).toUInt32).toInt32) &&& (7 : Int32)) % ((7 : Int32) - ((p1 &&& (7 : Int32)) % (7 : Int32)))))))))
theorem own_ef0 (m : MethodId) (p1 : Int32) (p2 : Int32) (p3 : Int32) (p4 : Int32) : entryFrame m #[(.int p1), (.int p2), (.int p3), (.int p4)] maxLocals = mkF m 0 #[.val (.int p1), .val (.int p2), .val (.int p3), .val (.int p4), .unset, .unset, .unset, .unset, .unset, .unset, .unset, .unset, .unset, .unset, .unset, .unset, .unset, .unset, .unset, .unset, .unset] [] := by first | (simp [entryFrame, mkF, argsToLocals, Value.category, maxLocals]; done) | rfl
set_option maxRecDepth 65536 in
set_option maxHeartbeats 40000000 in
theorem rm0 (l : Launch) (Z : State) (a0 : Array Value) (hw : ∀ d ∈ tables_1, d.before a0 Z = true) (ws : List Jvm.Cond) (p1 : Int32) (p2 : Int32) (p3 : Int32) (p4 : Int32) (h0 : Heap) (n0 : Nat) (Z0 : n0 ≤ h0.size) : MetC l Z x (Jvm.Cond.code x code maxLocals ret :: ws) room_1 #[(.int p1), (.int p2), (.int p3), (.int p4)] h0 40 192 (fun v h L => v = some (.int (f0_0 p1 p2 p3 p4)) ∧ Fr n0 L) := by
  refine MetFree.of_bodySF (plainFor_of_name own_pn0) hisR ?_
  intro p e s m args below meth c s₁ Bd hml0 hP hK
  obtain ⟨rfl, hZ, hh⟩ := hP
  have hx := Bd.exec
  have hby := Bd.bytes
  have hml : c.maxLocals = 21 := hml0
  have hown : s.vm.findClass "com/example/workflow_soundness/workflowsoundness/analysis/GraphReachedPinLaw" = some m.cls := findClass_of_methodNamed Bd.named
  have hnm := (name_of_methodNamed Bd.named Bd.method).1
  have hlk : meth.locks = false := BodyLoose.notSynchronized Bd
  have X0 : Stand p l e room_1 s m #[(.int p1), (.int p2), (.int p3), (.int p4)] below meth c s₁ [] 0 0 := Stand.of_body Bd
  have e0 : s₁.heap = h0 := by rw [← hh, Bd.state]; rfl
  have N0 := Fr.nil n0
  have hcA := own_cut p1
  have hcB := own_cut2 ((p1 &&& (7 : Int32)) % (7 : Int32)) ((p1.toUInt32 >>> ((3 : Int32) &&& 31).toUInt32).toInt32) ⟨hcA.1, hcA.2.1⟩
  suffices kk : Ends p e below (PVW s 40 192 n0 (f0_0 p1 p2 p3 p4)) s₁ m 0 #[.val (.int p1), .val (.int p2), .val (.int p3), .val (.int p4), .unset, .unset, .unset, .unset, .unset, .unset, .unset, .unset, .unset, .unset, .unset, .unset, .unset, .unset, .unset, .unset, .unset] [] by
    obtain ⟨t, o, k1, k2, k3, k4⟩ := kk
    exact ⟨t, o, castTop (own_ef0 m p1 p2 p3 p4) k1, k2, k3, k4⟩
  refine eILoadN X0 hx (hb hby at_0) rfl rfl ?_
  refine eBipush X0 hx (7 : Int32) (hb hby at_1) rfl rfl ?_
  refine eIAnd X0 hx (hb hby at_3) rfl ?_
  refine eBipush X0 hx (7 : Int32) (hb hby at_4) rfl rfl ?_
  refine eIRem X0 hx (hb hby at_6) (by decide) rfl ?_
  refine eIStore X0 hx (hb hby at_7) (L' := #[.val (.int p1), .val (.int p2), .val (.int p3), .val (.int p4), .val (.int ((p1 &&& (7 : Int32)) % (7 : Int32))), .unset, .unset, .unset, .unset, .unset, .unset, .unset, .unset, .unset, .unset, .unset, .unset, .unset, .unset, .unset, .unset]) rfl rfl ?_
  refine eILoad X0 hx (hb hby at_9) rfl rfl ?_
  refine eILoadN X0 hx (hb hby at_11) rfl rfl ?_
  refine eIConst X0 hx (3 : Int32) (hb hby at_12) rfl rfl ?_
  refine eIUshr X0 hx (hb hby at_13) rfl ?_
  refine eBipush X0 hx (7 : Int32) (hb hby at_14) rfl rfl ?_
  refine eIAnd X0 hx (hb hby at_16) rfl ?_
  refine eBipush X0 hx (7 : Int32) (hb hby at_17) rfl rfl ?_
  refine eILoad X0 hx (hb hby at_19) rfl rfl ?_
  refine eISub X0 hx (hb hby at_21) rfl ?_
  refine eIRem X0 hx (hb hby at_22) hcA.2.2 rfl ?_
  refine eIAdd X0 hx (hb hby at_23) rfl ?_
  refine eIStore X0 hx (hb hby at_24) (L' := #[.val (.int p1), .val (.int p2), .val (.int p3), .val (.int p4), .val (.int ((p1 &&& (7 : Int32)) % (7 : Int32))), .val (.int (((p1 &&& (7 : Int32)) % (7 : Int32)) + ((((p1.toUInt32 >>> ((3 : Int32) &&& 31).toUInt32).toInt32) &&& (7 : Int32)) % ((7 : Int32) - ((p1 &&& (7 : Int32)) % (7 : Int32)))))), .unset, .unset, .unset, .unset, .unset, .unset, .unset, .unset, .unset, .unset, .unset, .unset, .unset, .unset, .unset]) rfl rfl ?_
  refine eILoad X0 hx (hb hby at_26) rfl rfl ?_
  refine eILoadN X0 hx (hb hby at_28) rfl rfl ?_
  refine eBipush X0 hx (6 : Int32) (hb hby at_29) rfl rfl ?_
  refine eIUshr X0 hx (hb hby at_31) rfl ?_
  refine eBipush X0 hx (7 : Int32) (hb hby at_32) rfl rfl ?_
  refine eIAnd X0 hx (hb hby at_34) rfl ?_
  refine eBipush X0 hx (7 : Int32) (hb hby at_35) rfl rfl ?_
  refine eILoad X0 hx (hb hby at_37) rfl rfl ?_
  refine eISub X0 hx (hb hby at_39) rfl ?_
  refine eIRem X0 hx (hb hby at_40) hcB.2.2 rfl ?_
  refine eIAdd X0 hx (hb hby at_41) rfl ?_
  refine eIStore X0 hx (hb hby at_42) (L' := #[.val (.int p1), .val (.int p2), .val (.int p3), .val (.int p4), .val (.int ((p1 &&& (7 : Int32)) % (7 : Int32))), .val (.int (((p1 &&& (7 : Int32)) % (7 : Int32)) + ((((p1.toUInt32 >>> ((3 : Int32) &&& 31).toUInt32).toInt32) &&& (7 : Int32)) % ((7 : Int32) - ((p1 &&& (7 : Int32)) % (7 : Int32)))))), .val (.int ((((p1 &&& (7 : Int32)) % (7 : Int32)) + ((((p1.toUInt32 >>> ((3 : Int32) &&& 31).toUInt32).toInt32) &&& (7 : Int32)) % ((7 : Int32) - ((p1 &&& (7 : Int32)) % (7 : Int32))))) + ((((p1.toUInt32 >>> ((6 : Int32) &&& 31).toUInt32).toInt32) &&& (7 : Int32)) % ((7 : Int32) - (((p1 &&& (7 : Int32)) % (7 : Int32)) + ((((p1.toUInt32 >>> ((3 : Int32) &&& 31).toUInt32).toInt32) &&& (7 : Int32)) % ((7 : Int32) - ((p1 &&& (7 : Int32)) % (7 : Int32))))))))), .unset, .unset, .unset, .unset, .unset, .unset, .unset, .unset, .unset, .unset, .unset, .unset, .unset, .unset]) rfl rfl ?_
  have LP1 : ∀  (v4_2 : Int32) (v5_3 : Int32) (v6_4 : Int32) (T1 : State) (locs1 : List Loc) (hcu : Cuts v4_2 v5_3 v6_4) (X1 : Stand p l e room_1 s m #[(.int p1), (.int p2), (.int p3), (.int p4)] below meth c T1 locs1 0 0) (N1 : Fr n0 locs1) (e1 : T1.heap = h0), Ends p e below (PVW s 40 192 n0 (f0_44 p2 p3 p4 v4_2 v5_3 v6_4)) T1 m 44 #[.val (.int p1), .val (.int p2), .val (.int p3), .val (.int p4), .val (.int v4_2), .val (.int v5_3), .val (.int v6_4), .unset, .unset, .unset, .unset, .unset, .unset, .unset, .unset, .unset, .unset, .unset, .unset, .unset, .unset] [] := by
    intro v4_2 v5_3 v6_4 T1 locs1 hcu X1 N1 e1
    refine eBipush X1 hx (6 : Int32) (hb hby at_44) rfl rfl ?_
    refine eNewA X1 hx hZ rfl rfl (hw _ (List.mem_of_getElem? (i := 0) rfl)) e1 (hb hby at_46) (by decide) (cap := 6) (by decide) (by decide) (by decide) (by decide) rfl (fun T5 h5 ad5 g5 X5 e5 E5 A5 => ?_)
    have Z5 := Nat.le_trans Z0 E5.1
    have ge_ad5 : n0 ≤ ad5 := Nat.le_trans Z0 (Nat.le_of_eq g5.symm)
    have A5 : Ar Z h5 ad5 .int [(0 : Int32), (0 : Int32), (0 : Int32), (0 : Int32), (0 : Int32), (0 : Int32)] := A5
    refine eDup X5 hx (hb hby at_48) rfl rfl ?_
    refine eIConst X5 hx (0 : Int32) (hb hby at_49) rfl rfl ?_
    refine eILoadN X5 hx (hb hby at_50) rfl rfl ?_
    refine eIConst X5 hx (3 : Int32) (hb hby at_51) rfl rfl ?_
    refine eIAnd X5 hx (hb hby at_52) rfl ?_
    refine eIAStore X5 hx hZ e5 A5 (inbL (n := 6) rfl (by decide)) (hb hby at_53) rfl (fun T6 h6 X6 e6 W6 B6 => ?_)
    have A5 : Ar Z h6 ad5 .int [(p2 &&& (3 : Int32)), (0 : Int32), (0 : Int32), (0 : Int32), (0 : Int32), (0 : Int32)] := B6
    have N6 := Fr.snoc X6 N1 ge_ad5
    have Z6 := Nat.le_trans Z5 (Keep.of_wr W6).1
    refine eDup X6 hx (hb hby at_54) rfl rfl ?_
    refine eIConst X6 hx (1 : Int32) (hb hby at_55) rfl rfl ?_
    refine eILoadN X6 hx (hb hby at_56) rfl rfl ?_
    refine eIConst X6 hx (2 : Int32) (hb hby at_57) rfl rfl ?_
    refine eIUshr X6 hx (hb hby at_58) rfl ?_
    refine eIConst X6 hx (3 : Int32) (hb hby at_59) rfl rfl ?_
    refine eIAnd X6 hx (hb hby at_60) rfl ?_
    refine eIAStore X6 hx hZ e6 A5 (inbL (n := 6) rfl (by decide)) (hb hby at_61) rfl (fun T7 h7 X7 e7 W7 B7 => ?_)
    have A5 : Ar Z h7 ad5 .int [(p2 &&& (3 : Int32)), (((p2.toUInt32 >>> ((2 : Int32) &&& 31).toUInt32).toInt32) &&& (3 : Int32)), (0 : Int32), (0 : Int32), (0 : Int32), (0 : Int32)] := B7
    have N7 := Fr.snoc X7 N6 ge_ad5
    have Z7 := Nat.le_trans Z6 (Keep.of_wr W7).1
    refine eDup X7 hx (hb hby at_62) rfl rfl ?_
    refine eIConst X7 hx (2 : Int32) (hb hby at_63) rfl rfl ?_
    refine eILoadN X7 hx (hb hby at_64) rfl rfl ?_
    refine eIConst X7 hx (4 : Int32) (hb hby at_65) rfl rfl ?_
    refine eIUshr X7 hx (hb hby at_66) rfl ?_
    refine eIConst X7 hx (3 : Int32) (hb hby at_67) rfl rfl ?_
    refine eIAnd X7 hx (hb hby at_68) rfl ?_
    refine eIAStore X7 hx hZ e7 A5 (inbL (n := 6) rfl (by decide)) (hb hby at_69) rfl (fun T8 h8 X8 e8 W8 B8 => ?_)
    have A5 : Ar Z h8 ad5 .int [(p2 &&& (3 : Int32)), (((p2.toUInt32 >>> ((2 : Int32) &&& 31).toUInt32).toInt32) &&& (3 : Int32)), (((p2.toUInt32 >>> ((4 : Int32) &&& 31).toUInt32).toInt32) &&& (3 : Int32)), (0 : Int32), (0 : Int32), (0 : Int32)] := B8
    have N8 := Fr.snoc X8 N7 ge_ad5
    have Z8 := Nat.le_trans Z7 (Keep.of_wr W8).1
    refine eDup X8 hx (hb hby at_70) rfl rfl ?_
    refine eIConst X8 hx (3 : Int32) (hb hby at_71) rfl rfl ?_
    refine eILoadN X8 hx (hb hby at_72) rfl rfl ?_
    refine eBipush X8 hx (6 : Int32) (hb hby at_73) rfl rfl ?_
    refine eIUshr X8 hx (hb hby at_75) rfl ?_
    refine eIConst X8 hx (3 : Int32) (hb hby at_76) rfl rfl ?_
    refine eIAnd X8 hx (hb hby at_77) rfl ?_
    refine eIAStore X8 hx hZ e8 A5 (inbL (n := 6) rfl (by decide)) (hb hby at_78) rfl (fun T9 h9 X9 e9 W9 B9 => ?_)
    have A5 : Ar Z h9 ad5 .int [(p2 &&& (3 : Int32)), (((p2.toUInt32 >>> ((2 : Int32) &&& 31).toUInt32).toInt32) &&& (3 : Int32)), (((p2.toUInt32 >>> ((4 : Int32) &&& 31).toUInt32).toInt32) &&& (3 : Int32)), (((p2.toUInt32 >>> ((6 : Int32) &&& 31).toUInt32).toInt32) &&& (3 : Int32)), (0 : Int32), (0 : Int32)] := B9
    have N9 := Fr.snoc X9 N8 ge_ad5
    have Z9 := Nat.le_trans Z8 (Keep.of_wr W9).1
    refine eDup X9 hx (hb hby at_79) rfl rfl ?_
    refine eIConst X9 hx (4 : Int32) (hb hby at_80) rfl rfl ?_
    refine eILoadN X9 hx (hb hby at_81) rfl rfl ?_
    refine eBipush X9 hx (8 : Int32) (hb hby at_82) rfl rfl ?_
    refine eIUshr X9 hx (hb hby at_84) rfl ?_
    refine eIConst X9 hx (3 : Int32) (hb hby at_85) rfl rfl ?_
    refine eIAnd X9 hx (hb hby at_86) rfl ?_
    refine eIAStore X9 hx hZ e9 A5 (inbL (n := 6) rfl (by decide)) (hb hby at_87) rfl (fun T10 h10 X10 e10 W10 B10 => ?_)
    have A5 : Ar Z h10 ad5 .int [(p2 &&& (3 : Int32)), (((p2.toUInt32 >>> ((2 : Int32) &&& 31).toUInt32).toInt32) &&& (3 : Int32)), (((p2.toUInt32 >>> ((4 : Int32) &&& 31).toUInt32).toInt32) &&& (3 : Int32)), (((p2.toUInt32 >>> ((6 : Int32) &&& 31).toUInt32).toInt32) &&& (3 : Int32)), (((p2.toUInt32 >>> ((8 : Int32) &&& 31).toUInt32).toInt32) &&& (3 : Int32)), (0 : Int32)] := B10
    have N10 := Fr.snoc X10 N9 ge_ad5
    have Z10 := Nat.le_trans Z9 (Keep.of_wr W10).1
    refine eDup X10 hx (hb hby at_88) rfl rfl ?_
    refine eIConst X10 hx (5 : Int32) (hb hby at_89) rfl rfl ?_
    refine eILoadN X10 hx (hb hby at_90) rfl rfl ?_
    refine eBipush X10 hx (10 : Int32) (hb hby at_91) rfl rfl ?_
    refine eIUshr X10 hx (hb hby at_93) rfl ?_
    refine eIConst X10 hx (3 : Int32) (hb hby at_94) rfl rfl ?_
    refine eIAnd X10 hx (hb hby at_95) rfl ?_
    refine eIAStore X10 hx hZ e10 A5 (inbL (n := 6) rfl (by decide)) (hb hby at_96) rfl (fun T11 h11 X11 e11 W11 B11 => ?_)
    have A5 : Ar Z h11 ad5 .int [(p2 &&& (3 : Int32)), (((p2.toUInt32 >>> ((2 : Int32) &&& 31).toUInt32).toInt32) &&& (3 : Int32)), (((p2.toUInt32 >>> ((4 : Int32) &&& 31).toUInt32).toInt32) &&& (3 : Int32)), (((p2.toUInt32 >>> ((6 : Int32) &&& 31).toUInt32).toInt32) &&& (3 : Int32)), (((p2.toUInt32 >>> ((8 : Int32) &&& 31).toUInt32).toInt32) &&& (3 : Int32)), (((p2.toUInt32 >>> ((10 : Int32) &&& 31).toUInt32).toInt32) &&& (3 : Int32))] := B11
    have N11 := Fr.snoc X11 N10 ge_ad5
    have Z11 := Nat.le_trans Z10 (Keep.of_wr W11).1
    refine eAStore X11 hx (hb hby at_97) rfl (L' := #[.val (.int p1), .val (.int p2), .val (.int p3), .val (.int p4), .val (.int v4_2), .val (.int v5_3), .val (.int v6_4), .val (.ref ad5), .unset, .unset, .unset, .unset, .unset, .unset, .unset, .unset, .unset, .unset, .unset, .unset, .unset]) rfl rfl ?_
    refine eBipush X11 hx (6 : Int32) (hb hby at_99) rfl rfl ?_
    refine eNewA X11 hx hZ rfl rfl (hw _ (List.mem_of_getElem? (i := 0) rfl)) e11 (hb hby at_101) (by decide) (cap := 6) (by decide) (by decide) (by decide) (by decide) rfl (fun T12 h12 ad12 g12 X12 e12 E12 A12 => ?_)
    have ne_ad5_ad12 : ad5 ≠ ad12 := Nat.ne_of_lt (Nat.lt_of_lt_of_le A5.lt (Nat.le_of_eq g12.symm))
    have A5 := A5.ext E12
    have Z12 := Nat.le_trans Z11 E12.1
    have ge_ad12 : n0 ≤ ad12 := Nat.le_trans Z11 (Nat.le_of_eq g12.symm)
    have A12 : Ar Z h12 ad12 .int [(0 : Int32), (0 : Int32), (0 : Int32), (0 : Int32), (0 : Int32), (0 : Int32)] := A12
    refine eDup X12 hx (hb hby at_103) rfl rfl ?_
    refine eIConst X12 hx (0 : Int32) (hb hby at_104) rfl rfl ?_
    refine eIConst X12 hx (0 : Int32) (hb hby at_105) rfl rfl ?_
    refine eILoad X12 hx (hb hby at_106) rfl rfl ?_
    refine eILoad X12 hx (hb hby at_108) rfl rfl ?_
    refine eILoad X12 hx (hb hby at_110) rfl rfl ?_
    refine eCallS X12 hx hZ (y := (⟨"com/example/workflow_soundness/workflowsoundness/analysis/GraphReachedPinLaw", "src", "(IIII)I"⟩ : MethodName)) hown (hw _ (List.mem_of_getElem? (i := 1) rfl)) (hw _ (List.mem_of_getElem? (i := 2) rfl)) (hw _ (List.mem_of_getElem? (i := 3) rfl)) (hw _ (List.mem_of_getElem? (i := 4) rfl)) (by decide) e12 (rm1 l Z a0 hw [] (0 : Int32) v4_2 v5_3 v6_4 h12 n0 Z12) (argsL := [(.int (0 : Int32)), (.int v4_2), (.int v5_3), (.int v6_4)]) (rest := [(.int (0 : Int32)), (.ref ad12), (.ref ad12)]) (lenOf own_pd5 rfl) rfl (by rw [hml]; rfl) 3 (by exact Nat.le_refl _) (by decide) (by decide) (by decide) (by decide) (hb hby at_112) rfl (fun v13 T13 L13 q13 (X13 : Stand _ _ _ _ _ _ _ _ _ _ T13 _ 2 12) => ?_)
    obtain ⟨rfl, N13', e13⟩ := q13
    have N13 := Fr.app N11 N13'
    show Ends p e below _ T13 m 115 #[.val (.int p1), .val (.int p2), .val (.int p3), .val (.int p4), .val (.int v4_2), .val (.int v5_3), .val (.int v6_4), .val (.ref ad5), .unset, .unset, .unset, .unset, .unset, .unset, .unset, .unset, .unset, .unset, .unset, .unset, .unset] [(.int (fSrc_0 (0 : Int32) v4_2 v5_3 v6_4)), (.int (0 : Int32)), (.ref ad12), (.ref ad12)]
    refine eIAStore X13 hx hZ e13 A12 (inbL (n := 6) rfl (by decide)) (hb hby at_115) rfl (fun T14 h14 X14 e14 W14 B14 => ?_)
    have A5 := A5.other W14 ne_ad5_ad12
    have A12 : Ar Z h14 ad12 .int [(fSrc_0 (0 : Int32) v4_2 v5_3 v6_4), (0 : Int32), (0 : Int32), (0 : Int32), (0 : Int32), (0 : Int32)] := B14
    have N14 := Fr.snoc X14 N13 ge_ad12
    have Z14 := Nat.le_trans Z12 (Keep.of_wr W14).1
    refine eDup X14 hx (hb hby at_116) rfl rfl ?_
    refine eIConst X14 hx (1 : Int32) (hb hby at_117) rfl rfl ?_
    refine eIConst X14 hx (1 : Int32) (hb hby at_118) rfl rfl ?_
    refine eILoad X14 hx (hb hby at_119) rfl rfl ?_
    refine eILoad X14 hx (hb hby at_121) rfl rfl ?_
    refine eILoad X14 hx (hb hby at_123) rfl rfl ?_
    refine eCallS X14 hx hZ (y := (⟨"com/example/workflow_soundness/workflowsoundness/analysis/GraphReachedPinLaw", "src", "(IIII)I"⟩ : MethodName)) hown (hw _ (List.mem_of_getElem? (i := 1) rfl)) (hw _ (List.mem_of_getElem? (i := 2) rfl)) (hw _ (List.mem_of_getElem? (i := 3) rfl)) (hw _ (List.mem_of_getElem? (i := 4) rfl)) (by decide) e14 (rm1 l Z a0 hw [] (1 : Int32) v4_2 v5_3 v6_4 h14 n0 Z14) (argsL := [(.int (1 : Int32)), (.int v4_2), (.int v5_3), (.int v6_4)]) (rest := [(.int (1 : Int32)), (.ref ad12), (.ref ad12)]) (lenOf own_pd5 rfl) rfl (by rw [hml]; rfl) 3 (by exact Nat.le_refl _) (by decide) (by decide) (by decide) (by decide) (hb hby at_125) rfl (fun v15 T15 L15 q15 (X15 : Stand _ _ _ _ _ _ _ _ _ _ T15 _ 2 12) => ?_)
    obtain ⟨rfl, N15', e15⟩ := q15
    have N15 := Fr.app N14 N15'
    show Ends p e below _ T15 m 128 #[.val (.int p1), .val (.int p2), .val (.int p3), .val (.int p4), .val (.int v4_2), .val (.int v5_3), .val (.int v6_4), .val (.ref ad5), .unset, .unset, .unset, .unset, .unset, .unset, .unset, .unset, .unset, .unset, .unset, .unset, .unset] [(.int (fSrc_0 (1 : Int32) v4_2 v5_3 v6_4)), (.int (1 : Int32)), (.ref ad12), (.ref ad12)]
    refine eIAStore X15 hx hZ e15 A12 (inbL (n := 6) rfl (by decide)) (hb hby at_128) rfl (fun T16 h16 X16 e16 W16 B16 => ?_)
    have A5 := A5.other W16 ne_ad5_ad12
    have A12 : Ar Z h16 ad12 .int [(fSrc_0 (0 : Int32) v4_2 v5_3 v6_4), (fSrc_0 (1 : Int32) v4_2 v5_3 v6_4), (0 : Int32), (0 : Int32), (0 : Int32), (0 : Int32)] := B16
    have N16 := Fr.snoc X16 N15 ge_ad12
    have Z16 := Nat.le_trans Z14 (Keep.of_wr W16).1
    refine eDup X16 hx (hb hby at_129) rfl rfl ?_
    refine eIConst X16 hx (2 : Int32) (hb hby at_130) rfl rfl ?_
    refine eIConst X16 hx (2 : Int32) (hb hby at_131) rfl rfl ?_
    refine eILoad X16 hx (hb hby at_132) rfl rfl ?_
    refine eILoad X16 hx (hb hby at_134) rfl rfl ?_
    refine eILoad X16 hx (hb hby at_136) rfl rfl ?_
    refine eCallS X16 hx hZ (y := (⟨"com/example/workflow_soundness/workflowsoundness/analysis/GraphReachedPinLaw", "src", "(IIII)I"⟩ : MethodName)) hown (hw _ (List.mem_of_getElem? (i := 1) rfl)) (hw _ (List.mem_of_getElem? (i := 2) rfl)) (hw _ (List.mem_of_getElem? (i := 3) rfl)) (hw _ (List.mem_of_getElem? (i := 4) rfl)) (by decide) e16 (rm1 l Z a0 hw [] (2 : Int32) v4_2 v5_3 v6_4 h16 n0 Z16) (argsL := [(.int (2 : Int32)), (.int v4_2), (.int v5_3), (.int v6_4)]) (rest := [(.int (2 : Int32)), (.ref ad12), (.ref ad12)]) (lenOf own_pd5 rfl) rfl (by rw [hml]; rfl) 3 (by exact Nat.le_refl _) (by decide) (by decide) (by decide) (by decide) (hb hby at_138) rfl (fun v17 T17 L17 q17 (X17 : Stand _ _ _ _ _ _ _ _ _ _ T17 _ 2 12) => ?_)
    obtain ⟨rfl, N17', e17⟩ := q17
    have N17 := Fr.app N16 N17'
    show Ends p e below _ T17 m 141 #[.val (.int p1), .val (.int p2), .val (.int p3), .val (.int p4), .val (.int v4_2), .val (.int v5_3), .val (.int v6_4), .val (.ref ad5), .unset, .unset, .unset, .unset, .unset, .unset, .unset, .unset, .unset, .unset, .unset, .unset, .unset] [(.int (fSrc_0 (2 : Int32) v4_2 v5_3 v6_4)), (.int (2 : Int32)), (.ref ad12), (.ref ad12)]
    refine eIAStore X17 hx hZ e17 A12 (inbL (n := 6) rfl (by decide)) (hb hby at_141) rfl (fun T18 h18 X18 e18 W18 B18 => ?_)
    have A5 := A5.other W18 ne_ad5_ad12
    have A12 : Ar Z h18 ad12 .int [(fSrc_0 (0 : Int32) v4_2 v5_3 v6_4), (fSrc_0 (1 : Int32) v4_2 v5_3 v6_4), (fSrc_0 (2 : Int32) v4_2 v5_3 v6_4), (0 : Int32), (0 : Int32), (0 : Int32)] := B18
    have N18 := Fr.snoc X18 N17 ge_ad12
    have Z18 := Nat.le_trans Z16 (Keep.of_wr W18).1
    refine eDup X18 hx (hb hby at_142) rfl rfl ?_
    refine eIConst X18 hx (3 : Int32) (hb hby at_143) rfl rfl ?_
    refine eIConst X18 hx (3 : Int32) (hb hby at_144) rfl rfl ?_
    refine eILoad X18 hx (hb hby at_145) rfl rfl ?_
    refine eILoad X18 hx (hb hby at_147) rfl rfl ?_
    refine eILoad X18 hx (hb hby at_149) rfl rfl ?_
    refine eCallS X18 hx hZ (y := (⟨"com/example/workflow_soundness/workflowsoundness/analysis/GraphReachedPinLaw", "src", "(IIII)I"⟩ : MethodName)) hown (hw _ (List.mem_of_getElem? (i := 1) rfl)) (hw _ (List.mem_of_getElem? (i := 2) rfl)) (hw _ (List.mem_of_getElem? (i := 3) rfl)) (hw _ (List.mem_of_getElem? (i := 4) rfl)) (by decide) e18 (rm1 l Z a0 hw [] (3 : Int32) v4_2 v5_3 v6_4 h18 n0 Z18) (argsL := [(.int (3 : Int32)), (.int v4_2), (.int v5_3), (.int v6_4)]) (rest := [(.int (3 : Int32)), (.ref ad12), (.ref ad12)]) (lenOf own_pd5 rfl) rfl (by rw [hml]; rfl) 3 (by exact Nat.le_refl _) (by decide) (by decide) (by decide) (by decide) (hb hby at_151) rfl (fun v19 T19 L19 q19 (X19 : Stand _ _ _ _ _ _ _ _ _ _ T19 _ 2 12) => ?_)
    obtain ⟨rfl, N19', e19⟩ := q19
    have N19 := Fr.app N18 N19'
    show Ends p e below _ T19 m 154 #[.val (.int p1), .val (.int p2), .val (.int p3), .val (.int p4), .val (.int v4_2), .val (.int v5_3), .val (.int v6_4), .val (.ref ad5), .unset, .unset, .unset, .unset, .unset, .unset, .unset, .unset, .unset, .unset, .unset, .unset, .unset] [(.int (fSrc_0 (3 : Int32) v4_2 v5_3 v6_4)), (.int (3 : Int32)), (.ref ad12), (.ref ad12)]
    refine eIAStore X19 hx hZ e19 A12 (inbL (n := 6) rfl (by decide)) (hb hby at_154) rfl (fun T20 h20 X20 e20 W20 B20 => ?_)
    have A5 := A5.other W20 ne_ad5_ad12
    have A12 : Ar Z h20 ad12 .int [(fSrc_0 (0 : Int32) v4_2 v5_3 v6_4), (fSrc_0 (1 : Int32) v4_2 v5_3 v6_4), (fSrc_0 (2 : Int32) v4_2 v5_3 v6_4), (fSrc_0 (3 : Int32) v4_2 v5_3 v6_4), (0 : Int32), (0 : Int32)] := B20
    have N20 := Fr.snoc X20 N19 ge_ad12
    have Z20 := Nat.le_trans Z18 (Keep.of_wr W20).1
    refine eDup X20 hx (hb hby at_155) rfl rfl ?_
    refine eIConst X20 hx (4 : Int32) (hb hby at_156) rfl rfl ?_
    refine eIConst X20 hx (4 : Int32) (hb hby at_157) rfl rfl ?_
    refine eILoad X20 hx (hb hby at_158) rfl rfl ?_
    refine eILoad X20 hx (hb hby at_160) rfl rfl ?_
    refine eILoad X20 hx (hb hby at_162) rfl rfl ?_
    refine eCallS X20 hx hZ (y := (⟨"com/example/workflow_soundness/workflowsoundness/analysis/GraphReachedPinLaw", "src", "(IIII)I"⟩ : MethodName)) hown (hw _ (List.mem_of_getElem? (i := 1) rfl)) (hw _ (List.mem_of_getElem? (i := 2) rfl)) (hw _ (List.mem_of_getElem? (i := 3) rfl)) (hw _ (List.mem_of_getElem? (i := 4) rfl)) (by decide) e20 (rm1 l Z a0 hw [] (4 : Int32) v4_2 v5_3 v6_4 h20 n0 Z20) (argsL := [(.int (4 : Int32)), (.int v4_2), (.int v5_3), (.int v6_4)]) (rest := [(.int (4 : Int32)), (.ref ad12), (.ref ad12)]) (lenOf own_pd5 rfl) rfl (by rw [hml]; rfl) 3 (by exact Nat.le_refl _) (by decide) (by decide) (by decide) (by decide) (hb hby at_164) rfl (fun v21 T21 L21 q21 (X21 : Stand _ _ _ _ _ _ _ _ _ _ T21 _ 2 12) => ?_)
    obtain ⟨rfl, N21', e21⟩ := q21
    have N21 := Fr.app N20 N21'
    show Ends p e below _ T21 m 167 #[.val (.int p1), .val (.int p2), .val (.int p3), .val (.int p4), .val (.int v4_2), .val (.int v5_3), .val (.int v6_4), .val (.ref ad5), .unset, .unset, .unset, .unset, .unset, .unset, .unset, .unset, .unset, .unset, .unset, .unset, .unset] [(.int (fSrc_0 (4 : Int32) v4_2 v5_3 v6_4)), (.int (4 : Int32)), (.ref ad12), (.ref ad12)]
    refine eIAStore X21 hx hZ e21 A12 (inbL (n := 6) rfl (by decide)) (hb hby at_167) rfl (fun T22 h22 X22 e22 W22 B22 => ?_)
    have A5 := A5.other W22 ne_ad5_ad12
    have A12 : Ar Z h22 ad12 .int [(fSrc_0 (0 : Int32) v4_2 v5_3 v6_4), (fSrc_0 (1 : Int32) v4_2 v5_3 v6_4), (fSrc_0 (2 : Int32) v4_2 v5_3 v6_4), (fSrc_0 (3 : Int32) v4_2 v5_3 v6_4), (fSrc_0 (4 : Int32) v4_2 v5_3 v6_4), (0 : Int32)] := B22
    have N22 := Fr.snoc X22 N21 ge_ad12
    have Z22 := Nat.le_trans Z20 (Keep.of_wr W22).1
    refine eDup X22 hx (hb hby at_168) rfl rfl ?_
    refine eIConst X22 hx (5 : Int32) (hb hby at_169) rfl rfl ?_
    refine eIConst X22 hx (5 : Int32) (hb hby at_170) rfl rfl ?_
    refine eILoad X22 hx (hb hby at_171) rfl rfl ?_
    refine eILoad X22 hx (hb hby at_173) rfl rfl ?_
    refine eILoad X22 hx (hb hby at_175) rfl rfl ?_
    refine eCallS X22 hx hZ (y := (⟨"com/example/workflow_soundness/workflowsoundness/analysis/GraphReachedPinLaw", "src", "(IIII)I"⟩ : MethodName)) hown (hw _ (List.mem_of_getElem? (i := 1) rfl)) (hw _ (List.mem_of_getElem? (i := 2) rfl)) (hw _ (List.mem_of_getElem? (i := 3) rfl)) (hw _ (List.mem_of_getElem? (i := 4) rfl)) (by decide) e22 (rm1 l Z a0 hw [] (5 : Int32) v4_2 v5_3 v6_4 h22 n0 Z22) (argsL := [(.int (5 : Int32)), (.int v4_2), (.int v5_3), (.int v6_4)]) (rest := [(.int (5 : Int32)), (.ref ad12), (.ref ad12)]) (lenOf own_pd5 rfl) rfl (by rw [hml]; rfl) 3 (by exact Nat.le_refl _) (by decide) (by decide) (by decide) (by decide) (hb hby at_177) rfl (fun v23 T23 L23 q23 (X23 : Stand _ _ _ _ _ _ _ _ _ _ T23 _ 2 12) => ?_)
    obtain ⟨rfl, N23', e23⟩ := q23
    have N23 := Fr.app N22 N23'
    show Ends p e below _ T23 m 180 #[.val (.int p1), .val (.int p2), .val (.int p3), .val (.int p4), .val (.int v4_2), .val (.int v5_3), .val (.int v6_4), .val (.ref ad5), .unset, .unset, .unset, .unset, .unset, .unset, .unset, .unset, .unset, .unset, .unset, .unset, .unset] [(.int (fSrc_0 (5 : Int32) v4_2 v5_3 v6_4)), (.int (5 : Int32)), (.ref ad12), (.ref ad12)]
    refine eIAStore X23 hx hZ e23 A12 (inbL (n := 6) rfl (by decide)) (hb hby at_180) rfl (fun T24 h24 X24 e24 W24 B24 => ?_)
    have A5 := A5.other W24 ne_ad5_ad12
    have A12 : Ar Z h24 ad12 .int [(fSrc_0 (0 : Int32) v4_2 v5_3 v6_4), (fSrc_0 (1 : Int32) v4_2 v5_3 v6_4), (fSrc_0 (2 : Int32) v4_2 v5_3 v6_4), (fSrc_0 (3 : Int32) v4_2 v5_3 v6_4), (fSrc_0 (4 : Int32) v4_2 v5_3 v6_4), (fSrc_0 (5 : Int32) v4_2 v5_3 v6_4)] := B24
    have N24 := Fr.snoc X24 N23 ge_ad12
    have Z24 := Nat.le_trans Z22 (Keep.of_wr W24).1
    refine eAStore X24 hx (hb hby at_181) rfl (L' := #[.val (.int p1), .val (.int p2), .val (.int p3), .val (.int p4), .val (.int v4_2), .val (.int v5_3), .val (.int v6_4), .val (.ref ad5), .val (.ref ad12), .unset, .unset, .unset, .unset, .unset, .unset, .unset, .unset, .unset, .unset, .unset, .unset]) rfl rfl ?_
    have LP25 : ∀  (vs26 : List Int32) (vs27 : List Int32) (hL25 : Heap) (T25 : State) (locs25 : List Loc) (hT6 : vs26.length = 6) (hTb : Bd4 4 vs26) (hS6 : vs27.length = 6) (hSb : Bd4 4 vs27) (X25 : Stand p l e room_1 s m #[(.int p1), (.int p2), (.int p3), (.int p4)] below meth c T25 locs25 2 12) (N25 : Fr n0 locs25) (e25 : T25.heap = hL25) (Z25 : n0 ≤ hL25.size) (A5 : Ar Z hL25 ad5 .int vs26) (A12 : Ar Z hL25 ad12 .int vs27), Ends p e below (PVW s 40 192 n0 (f0_183 p3 p4 v4_2 v5_3 v6_4 vs26 vs27)) T25 m 183 #[.val (.int p1), .val (.int p2), .val (.int p3), .val (.int p4), .val (.int v4_2), .val (.int v5_3), .val (.int v6_4), .val (.ref ad5), .val (.ref ad12), .unset, .unset, .unset, .unset, .unset, .unset, .unset, .unset, .unset, .unset, .unset, .unset] [] := by
      intro vs26 vs27 hL25 T25 locs25 hT6 hTb hS6 hSb X25 N25 e25 Z25 A5 A12
      refine eIConst X25 hx (4 : Int32) (hb hby at_183) rfl rfl ?_
      refine eNewA X25 hx hZ rfl rfl (hw _ (List.mem_of_getElem? (i := 5) rfl)) e25 (hb hby at_184) (by decide) (cap := 4) (by decide) (by decide) (by decide) (by decide) rfl (fun T28 h28 ad28 g28 X28 e28 E28 A28 => ?_)
      have ne_ad12_ad28 : ad12 ≠ ad28 := Nat.ne_of_lt (Nat.lt_of_lt_of_le A12.lt (Nat.le_of_eq g28.symm))
      have ne_ad5_ad28 : ad5 ≠ ad28 := Nat.ne_of_lt (Nat.lt_of_lt_of_le A5.lt (Nat.le_of_eq g28.symm))
      have A5 := A5.ext E28
      have A12 := A12.ext E28
      have Z28 := Nat.le_trans Z25 E28.1
      have ge_ad28 : n0 ≤ ad28 := Nat.le_trans Z25 (Nat.le_of_eq g28.symm)
      have A28 : Ar Z h28 ad28 .boolean [(0 : Int32), (0 : Int32), (0 : Int32), (0 : Int32)] := A28
      refine eDup X28 hx (hb hby at_186) rfl rfl ?_
      refine eIConst X28 hx (0 : Int32) (hb hby at_187) rfl rfl ?_
      refine eILoadN X28 hx (hb hby at_188) rfl rfl ?_
      refine eIConst X28 hx (1 : Int32) (hb hby at_189) rfl rfl ?_
      refine eIAnd X28 hx (hb hby at_190) rfl ?_
      have K199_30 : ∀ (t29 : Int32) (T30 : State) (locs30 : List Loc), Stand p l e room_1 s m #[(.int p1), (.int p2), (.int p3), (.int p4)] below meth c T30 locs30 3 16 → Fr n0 locs30 → T30.heap = h28 → Ends p e below (PVW s 40 192 n0 (f0_199 p3 p4 v4_2 v5_3 v6_4 vs26 vs27 t29)) T30 m 199 #[.val (.int p1), .val (.int p2), .val (.int p3), .val (.int p4), .val (.int v4_2), .val (.int v5_3), .val (.int v6_4), .val (.ref ad5), .val (.ref ad12), .unset, .unset, .unset, .unset, .unset, .unset, .unset, .unset, .unset, .unset, .unset, .unset] [(.int t29), (.int (0 : Int32)), (.ref ad28), (.ref ad28)] := by
        intro t29 T30 locs30 X30 N30 e30
        refine eZAStore X30 hx hZ e30 A28 (inbL (n := 4) rfl (by decide)) (hb hby at_199) rfl (fun T31 h31 X31 e31 W31 B31 => ?_)
        have A5 := A5.other W31 ne_ad5_ad28
        have A12 := A12.other W31 ne_ad12_ad28
        have A28 : Ar Z h31 ad28 .boolean [(nar .boolean t29), (0 : Int32), (0 : Int32), (0 : Int32)] := B31
        have N31 := Fr.snoc X31 N30 ge_ad28
        have Z31 := Nat.le_trans Z28 (Keep.of_wr W31).1
        refine eDup X31 hx (hb hby at_200) rfl rfl ?_
        refine eIConst X31 hx (1 : Int32) (hb hby at_201) rfl rfl ?_
        refine eILoadN X31 hx (hb hby at_202) rfl rfl ?_
        refine eIConst X31 hx (2 : Int32) (hb hby at_203) rfl rfl ?_
        refine eIAnd X31 hx (hb hby at_204) rfl ?_
        have K213_33 : ∀ (t32 : Int32) (T33 : State) (locs33 : List Loc), Stand p l e room_1 s m #[(.int p1), (.int p2), (.int p3), (.int p4)] below meth c T33 locs33 3 16 → Fr n0 locs33 → T33.heap = h31 → Ends p e below (PVW s 40 192 n0 (f0_213 p3 p4 v4_2 v5_3 v6_4 vs26 vs27 t29 t32)) T33 m 213 #[.val (.int p1), .val (.int p2), .val (.int p3), .val (.int p4), .val (.int v4_2), .val (.int v5_3), .val (.int v6_4), .val (.ref ad5), .val (.ref ad12), .unset, .unset, .unset, .unset, .unset, .unset, .unset, .unset, .unset, .unset, .unset, .unset] [(.int t32), (.int (1 : Int32)), (.ref ad28), (.ref ad28)] := by
          intro t32 T33 locs33 X33 N33 e33
          refine eZAStore X33 hx hZ e33 A28 (inbL (n := 4) rfl (by decide)) (hb hby at_213) rfl (fun T34 h34 X34 e34 W34 B34 => ?_)
          have A5 := A5.other W34 ne_ad5_ad28
          have A12 := A12.other W34 ne_ad12_ad28
          have A28 : Ar Z h34 ad28 .boolean [(nar .boolean t29), (nar .boolean t32), (0 : Int32), (0 : Int32)] := B34
          have N34 := Fr.snoc X34 N33 ge_ad28
          have Z34 := Nat.le_trans Z31 (Keep.of_wr W34).1
          refine eDup X34 hx (hb hby at_214) rfl rfl ?_
          refine eIConst X34 hx (2 : Int32) (hb hby at_215) rfl rfl ?_
          refine eILoadN X34 hx (hb hby at_216) rfl rfl ?_
          refine eIConst X34 hx (4 : Int32) (hb hby at_217) rfl rfl ?_
          refine eIAnd X34 hx (hb hby at_218) rfl ?_
          have K227_36 : ∀ (t35 : Int32) (T36 : State) (locs36 : List Loc), Stand p l e room_1 s m #[(.int p1), (.int p2), (.int p3), (.int p4)] below meth c T36 locs36 3 16 → Fr n0 locs36 → T36.heap = h34 → Ends p e below (PVW s 40 192 n0 (f0_227 p3 p4 v4_2 v5_3 v6_4 vs26 vs27 t29 t32 t35)) T36 m 227 #[.val (.int p1), .val (.int p2), .val (.int p3), .val (.int p4), .val (.int v4_2), .val (.int v5_3), .val (.int v6_4), .val (.ref ad5), .val (.ref ad12), .unset, .unset, .unset, .unset, .unset, .unset, .unset, .unset, .unset, .unset, .unset, .unset] [(.int t35), (.int (2 : Int32)), (.ref ad28), (.ref ad28)] := by
            intro t35 T36 locs36 X36 N36 e36
            refine eZAStore X36 hx hZ e36 A28 (inbL (n := 4) rfl (by decide)) (hb hby at_227) rfl (fun T37 h37 X37 e37 W37 B37 => ?_)
            have A5 := A5.other W37 ne_ad5_ad28
            have A12 := A12.other W37 ne_ad12_ad28
            have A28 : Ar Z h37 ad28 .boolean [(nar .boolean t29), (nar .boolean t32), (nar .boolean t35), (0 : Int32)] := B37
            have N37 := Fr.snoc X37 N36 ge_ad28
            have Z37 := Nat.le_trans Z34 (Keep.of_wr W37).1
            refine eDup X37 hx (hb hby at_228) rfl rfl ?_
            refine eIConst X37 hx (3 : Int32) (hb hby at_229) rfl rfl ?_
            refine eILoadN X37 hx (hb hby at_230) rfl rfl ?_
            refine eBipush X37 hx (8 : Int32) (hb hby at_231) rfl rfl ?_
            refine eIAnd X37 hx (hb hby at_233) rfl ?_
            have K242_39 : ∀ (t38 : Int32) (T39 : State) (locs39 : List Loc), Stand p l e room_1 s m #[(.int p1), (.int p2), (.int p3), (.int p4)] below meth c T39 locs39 3 16 → Fr n0 locs39 → T39.heap = h37 → Ends p e below (PVW s 40 192 n0 (f0_242 p4 v4_2 v5_3 v6_4 vs26 vs27 t29 t32 t35 t38)) T39 m 242 #[.val (.int p1), .val (.int p2), .val (.int p3), .val (.int p4), .val (.int v4_2), .val (.int v5_3), .val (.int v6_4), .val (.ref ad5), .val (.ref ad12), .unset, .unset, .unset, .unset, .unset, .unset, .unset, .unset, .unset, .unset, .unset, .unset] [(.int t38), (.int (3 : Int32)), (.ref ad28), (.ref ad28)] := by
              intro t38 T39 locs39 X39 N39 e39
              refine eZAStore X39 hx hZ e39 A28 (inbL (n := 4) rfl (by decide)) (hb hby at_242) rfl (fun T40 h40 X40 e40 W40 B40 => ?_)
              have A5 := A5.other W40 ne_ad5_ad28
              have A12 := A12.other W40 ne_ad12_ad28
              have A28 : Ar Z h40 ad28 .boolean [(nar .boolean t29), (nar .boolean t32), (nar .boolean t35), (nar .boolean t38)] := B40
              have N40 := Fr.snoc X40 N39 ge_ad28
              have Z40 := Nat.le_trans Z37 (Keep.of_wr W40).1
              refine eAStore X40 hx (hb hby at_243) rfl (L' := #[.val (.int p1), .val (.int p2), .val (.int p3), .val (.int p4), .val (.int v4_2), .val (.int v5_3), .val (.int v6_4), .val (.ref ad5), .val (.ref ad12), .val (.ref ad28), .unset, .unset, .unset, .unset, .unset, .unset, .unset, .unset, .unset, .unset, .unset]) rfl rfl ?_
              refine eILoadN X40 hx (hb hby at_245) rfl rfl ?_
              refine eIConst X40 hx (3 : Int32) (hb hby at_246) rfl rfl ?_
              refine eIAnd X40 hx (hb hby at_247) rfl ?_
              refine eIStore X40 hx (hb hby at_248) (L' := #[.val (.int p1), .val (.int p2), .val (.int p3), .val (.int p4), .val (.int v4_2), .val (.int v5_3), .val (.int v6_4), .val (.ref ad5), .val (.ref ad12), .val (.ref ad28), .val (.int (p4 &&& (3 : Int32))), .unset, .unset, .unset, .unset, .unset, .unset, .unset, .unset, .unset, .unset]) rfl rfl ?_
              refine eILoadN X40 hx (hb hby at_250) rfl rfl ?_
              refine eIConst X40 hx (2 : Int32) (hb hby at_251) rfl rfl ?_
              refine eIUshr X40 hx (hb hby at_252) rfl ?_
              refine eIConst X40 hx (3 : Int32) (hb hby at_253) rfl rfl ?_
              refine eIAnd X40 hx (hb hby at_254) rfl ?_
              refine eIStore X40 hx (hb hby at_255) (L' := #[.val (.int p1), .val (.int p2), .val (.int p3), .val (.int p4), .val (.int v4_2), .val (.int v5_3), .val (.int v6_4), .val (.ref ad5), .val (.ref ad12), .val (.ref ad28), .val (.int (p4 &&& (3 : Int32))), .val (.int (((p4.toUInt32 >>> ((2 : Int32) &&& 31).toUInt32).toInt32) &&& (3 : Int32))), .unset, .unset, .unset, .unset, .unset, .unset, .unset, .unset, .unset]) rfl rfl ?_
              refine eILoadN X40 hx (hb hby at_257) rfl rfl ?_
              refine eIConst X40 hx (4 : Int32) (hb hby at_258) rfl rfl ?_
              refine eIUshr X40 hx (hb hby at_259) rfl ?_
              refine eIConst X40 hx (3 : Int32) (hb hby at_260) rfl rfl ?_
              refine eIAnd X40 hx (hb hby at_261) rfl ?_
              refine eIStore X40 hx (hb hby at_262) (L' := #[.val (.int p1), .val (.int p2), .val (.int p3), .val (.int p4), .val (.int v4_2), .val (.int v5_3), .val (.int v6_4), .val (.ref ad5), .val (.ref ad12), .val (.ref ad28), .val (.int (p4 &&& (3 : Int32))), .val (.int (((p4.toUInt32 >>> ((2 : Int32) &&& 31).toUInt32).toInt32) &&& (3 : Int32))), .val (.int (((p4.toUInt32 >>> ((4 : Int32) &&& 31).toUInt32).toInt32) &&& (3 : Int32))), .unset, .unset, .unset, .unset, .unset, .unset, .unset, .unset]) rfl rfl ?_
              refine eILoadN X40 hx (hb hby at_264) rfl rfl ?_
              refine eBipush X40 hx (6 : Int32) (hb hby at_265) rfl rfl ?_
              refine eIUshr X40 hx (hb hby at_267) rfl ?_
              refine eIConst X40 hx (3 : Int32) (hb hby at_268) rfl rfl ?_
              refine eIAnd X40 hx (hb hby at_269) rfl ?_
              refine eIStore X40 hx (hb hby at_270) (L' := #[.val (.int p1), .val (.int p2), .val (.int p3), .val (.int p4), .val (.int v4_2), .val (.int v5_3), .val (.int v6_4), .val (.ref ad5), .val (.ref ad12), .val (.ref ad28), .val (.int (p4 &&& (3 : Int32))), .val (.int (((p4.toUInt32 >>> ((2 : Int32) &&& 31).toUInt32).toInt32) &&& (3 : Int32))), .val (.int (((p4.toUInt32 >>> ((4 : Int32) &&& 31).toUInt32).toInt32) &&& (3 : Int32))), .val (.int (((p4.toUInt32 >>> ((6 : Int32) &&& 31).toUInt32).toInt32) &&& (3 : Int32))), .unset, .unset, .unset, .unset, .unset, .unset, .unset]) rfl rfl ?_
              have LP41 : ∀  (v10_42 : Int32) (v11_43 : Int32) (v12_44 : Int32) (v13_45 : Int32) (vs46 : List Int32) (hL41 : Heap) (T41 : State) (locs41 : List Loc) (hW4 : vs46.length = 4) (hst : (0 ≤ v11_43.toInt ∧ v11_43.toInt < 4) ∧ (0 ≤ v12_44.toInt ∧ v12_44.toInt < 4) ∧ (0 ≤ v13_45.toInt ∧ v13_45.toInt < 4)) (X41 : Stand p l e room_1 s m #[(.int p1), (.int p2), (.int p3), (.int p4)] below meth c T41 locs41 3 16) (N41 : Fr n0 locs41) (e41 : T41.heap = hL41) (Z41 : n0 ≤ hL41.size) (A5 : Ar Z hL41 ad5 .int vs26) (A12 : Ar Z hL41 ad12 .int vs27) (A28 : Ar Z hL41 ad28 .boolean vs46), Ends p e below (PVW s 40 192 n0 (f0_272 v4_2 v5_3 v6_4 vs26 vs27 v10_42 v11_43 v12_44 v13_45 vs46)) T41 m 272 #[.val (.int p1), .val (.int p2), .val (.int p3), .val (.int p4), .val (.int v4_2), .val (.int v5_3), .val (.int v6_4), .val (.ref ad5), .val (.ref ad12), .val (.ref ad28), .val (.int v10_42), .val (.int v11_43), .val (.int v12_44), .val (.int v13_45), .unset, .unset, .unset, .unset, .unset, .unset, .unset] [] := by
                intro v10_42 v11_43 v12_44 v13_45 vs46 hL41 T41 locs41 hW4 hst X41 N41 e41 Z41 A5 A12 A28
                have HJ47 : ∀ (aS : Addr) (vS : List Int32) (hJ47 : Heap) (T47 : State) (locs47 : List Loc) (hSl : vS.length ≤ 3) (hSv : Bd4 4 vS) (X47 : Stand p l e room_1 s m #[(.int p1), (.int p2), (.int p3), (.int p4)] below meth c T47 locs47 4 19) (N47 : Fr n0 locs47) (e47 : T47.heap = hJ47) (Z47 : n0 ≤ hJ47.size) (A5 : Ar Z hJ47 ad5 .int vs26) (A12 : Ar Z hJ47 ad12 .int vs27) (A28 : Ar Z hJ47 ad28 .boolean vs46) (A_st : Ar Z hJ47 aS .int vS), Ends p e below (PVW s 40 192 n0 (f0_348 v4_2 v5_3 v6_4 vs26 vs27 v10_42 v11_43 v12_44 v13_45 vs46 vS)) T47 m 348 #[.val (.int p1), .val (.int p2), .val (.int p3), .val (.int p4), .val (.int v4_2), .val (.int v5_3), .val (.int v6_4), .val (.ref ad5), .val (.ref ad12), .val (.ref ad28), .val (.int v10_42), .val (.int v11_43), .val (.int v12_44), .val (.int v13_45), .val (.ref aS), .unset, .unset, .unset, .unset, .unset, .unset] [] := by
                  intro aS vS hJ47 T47 locs47 hSl hSv X47 N47 e47 Z47 A5 A12 A28 A_st
                  refine eIConst X47 hx (4 : Int32) (hb hby at_348) rfl rfl ?_
                  refine eNewA X47 hx hZ rfl rfl (hw _ (List.mem_of_getElem? (i := 5) rfl)) e47 (hb hby at_349) (by decide) (cap := 4) (by decide) (by decide) (by decide) (by decide) rfl (fun T48 h48 ad48 g48 X48 e48 E48 A48 => ?_)
                  have ne_aS_ad48 : aS ≠ ad48 := Nat.ne_of_lt (Nat.lt_of_lt_of_le A_st.lt (Nat.le_of_eq g48.symm))
                  have ne_ad12_ad48 : ad12 ≠ ad48 := Nat.ne_of_lt (Nat.lt_of_lt_of_le A12.lt (Nat.le_of_eq g48.symm))
                  have ne_ad28_ad48 : ad28 ≠ ad48 := Nat.ne_of_lt (Nat.lt_of_lt_of_le A28.lt (Nat.le_of_eq g48.symm))
                  have ne_ad5_ad48 : ad5 ≠ ad48 := Nat.ne_of_lt (Nat.lt_of_lt_of_le A5.lt (Nat.le_of_eq g48.symm))
                  have A5 := A5.ext E48
                  have A12 := A12.ext E48
                  have A28 := A28.ext E48
                  have A_st := A_st.ext E48
                  have Z48 := Nat.le_trans Z47 E48.1
                  have ge_ad48 : n0 ≤ ad48 := Nat.le_trans Z47 (Nat.le_of_eq g48.symm)
                  have A48 : Ar Z h48 ad48 .boolean [(0 : Int32), (0 : Int32), (0 : Int32), (0 : Int32)] := A48
                  refine eDup X48 hx (hb hby at_351) rfl rfl ?_
                  refine eIConst X48 hx (0 : Int32) (hb hby at_352) rfl rfl ?_
                  refine eILoad X48 hx (hb hby at_353) rfl rfl ?_
                  refine eILoad X48 hx (hb hby at_355) rfl rfl ?_
                  refine eILoad X48 hx (hb hby at_357) rfl rfl ?_
                  refine eILoad X48 hx (hb hby at_359) rfl rfl ?_
                  refine eIConst X48 hx (0 : Int32) (hb hby at_361) rfl rfl ?_
                  refine eCallS X48 hx hZ (y := (⟨"com/example/workflow_soundness/workflowsoundness/analysis/GraphReachedPinLaw", "isStart", "(IIIII)Z"⟩ : MethodName)) hown (hw _ (List.mem_of_getElem? (i := 6) rfl)) (hw _ (List.mem_of_getElem? (i := 7) rfl)) (hw _ (List.mem_of_getElem? (i := 3) rfl)) (hw _ (List.mem_of_getElem? (i := 8) rfl)) (by decide) e48 (rm2 l Z a0 hw [] v10_42 v11_43 v12_44 v13_45 (0 : Int32) h48 n0 Z48) (argsL := [(.int v10_42), (.int v11_43), (.int v12_44), (.int v13_45), (.int (0 : Int32))]) (rest := [(.int (0 : Int32)), (.ref ad48), (.ref ad48)]) (lenOf own_pd6 rfl) rfl (by rw [hml]; rfl) 3 (by exact Nat.le_refl _) (by decide) (by decide) (by decide) (by decide) (hb hby at_362) rfl (fun v49 T49 L49 q49 (X49 : Stand _ _ _ _ _ _ _ _ _ _ T49 _ 5 23) => ?_)
                  obtain ⟨rfl, N49', e49⟩ := q49
                  have N49 := Fr.app N47 N49'
                  show Ends p e below _ T49 m 365 #[.val (.int p1), .val (.int p2), .val (.int p3), .val (.int p4), .val (.int v4_2), .val (.int v5_3), .val (.int v6_4), .val (.ref ad5), .val (.ref ad12), .val (.ref ad28), .val (.int v10_42), .val (.int v11_43), .val (.int v12_44), .val (.int v13_45), .val (.ref aS), .unset, .unset, .unset, .unset, .unset, .unset] [(.int (fIst_0 v10_42 v11_43 v12_44 v13_45 (0 : Int32))), (.int (0 : Int32)), (.ref ad48), (.ref ad48)]
                  refine eZAStore X49 hx hZ e49 A48 (inbL (n := 4) rfl (by decide)) (hb hby at_365) rfl (fun T50 h50 X50 e50 W50 B50 => ?_)
                  have A5 := A5.other W50 ne_ad5_ad48
                  have A12 := A12.other W50 ne_ad12_ad48
                  have A28 := A28.other W50 ne_ad28_ad48
                  have A_st := A_st.other W50 ne_aS_ad48
                  have A48 : Ar Z h50 ad48 .boolean [(nar .boolean (fIst_0 v10_42 v11_43 v12_44 v13_45 (0 : Int32))), (0 : Int32), (0 : Int32), (0 : Int32)] := B50
                  have N50 := Fr.snoc X50 N49 ge_ad48
                  have Z50 := Nat.le_trans Z48 (Keep.of_wr W50).1
                  refine eDup X50 hx (hb hby at_366) rfl rfl ?_
                  refine eIConst X50 hx (1 : Int32) (hb hby at_367) rfl rfl ?_
                  refine eILoad X50 hx (hb hby at_368) rfl rfl ?_
                  refine eILoad X50 hx (hb hby at_370) rfl rfl ?_
                  refine eILoad X50 hx (hb hby at_372) rfl rfl ?_
                  refine eILoad X50 hx (hb hby at_374) rfl rfl ?_
                  refine eIConst X50 hx (1 : Int32) (hb hby at_376) rfl rfl ?_
                  refine eCallS X50 hx hZ (y := (⟨"com/example/workflow_soundness/workflowsoundness/analysis/GraphReachedPinLaw", "isStart", "(IIIII)Z"⟩ : MethodName)) hown (hw _ (List.mem_of_getElem? (i := 6) rfl)) (hw _ (List.mem_of_getElem? (i := 7) rfl)) (hw _ (List.mem_of_getElem? (i := 3) rfl)) (hw _ (List.mem_of_getElem? (i := 8) rfl)) (by decide) e50 (rm2 l Z a0 hw [] v10_42 v11_43 v12_44 v13_45 (1 : Int32) h50 n0 Z50) (argsL := [(.int v10_42), (.int v11_43), (.int v12_44), (.int v13_45), (.int (1 : Int32))]) (rest := [(.int (1 : Int32)), (.ref ad48), (.ref ad48)]) (lenOf own_pd6 rfl) rfl (by rw [hml]; rfl) 3 (by exact Nat.le_refl _) (by decide) (by decide) (by decide) (by decide) (hb hby at_377) rfl (fun v51 T51 L51 q51 (X51 : Stand _ _ _ _ _ _ _ _ _ _ T51 _ 5 23) => ?_)
                  obtain ⟨rfl, N51', e51⟩ := q51
                  have N51 := Fr.app N50 N51'
                  show Ends p e below _ T51 m 380 #[.val (.int p1), .val (.int p2), .val (.int p3), .val (.int p4), .val (.int v4_2), .val (.int v5_3), .val (.int v6_4), .val (.ref ad5), .val (.ref ad12), .val (.ref ad28), .val (.int v10_42), .val (.int v11_43), .val (.int v12_44), .val (.int v13_45), .val (.ref aS), .unset, .unset, .unset, .unset, .unset, .unset] [(.int (fIst_0 v10_42 v11_43 v12_44 v13_45 (1 : Int32))), (.int (1 : Int32)), (.ref ad48), (.ref ad48)]
                  refine eZAStore X51 hx hZ e51 A48 (inbL (n := 4) rfl (by decide)) (hb hby at_380) rfl (fun T52 h52 X52 e52 W52 B52 => ?_)
                  have A5 := A5.other W52 ne_ad5_ad48
                  have A12 := A12.other W52 ne_ad12_ad48
                  have A28 := A28.other W52 ne_ad28_ad48
                  have A_st := A_st.other W52 ne_aS_ad48
                  have A48 : Ar Z h52 ad48 .boolean [(nar .boolean (fIst_0 v10_42 v11_43 v12_44 v13_45 (0 : Int32))), (nar .boolean (fIst_0 v10_42 v11_43 v12_44 v13_45 (1 : Int32))), (0 : Int32), (0 : Int32)] := B52
                  have N52 := Fr.snoc X52 N51 ge_ad48
                  have Z52 := Nat.le_trans Z50 (Keep.of_wr W52).1
                  refine eDup X52 hx (hb hby at_381) rfl rfl ?_
                  refine eIConst X52 hx (2 : Int32) (hb hby at_382) rfl rfl ?_
                  refine eILoad X52 hx (hb hby at_383) rfl rfl ?_
                  refine eILoad X52 hx (hb hby at_385) rfl rfl ?_
                  refine eILoad X52 hx (hb hby at_387) rfl rfl ?_
                  refine eILoad X52 hx (hb hby at_389) rfl rfl ?_
                  refine eIConst X52 hx (2 : Int32) (hb hby at_391) rfl rfl ?_
                  refine eCallS X52 hx hZ (y := (⟨"com/example/workflow_soundness/workflowsoundness/analysis/GraphReachedPinLaw", "isStart", "(IIIII)Z"⟩ : MethodName)) hown (hw _ (List.mem_of_getElem? (i := 6) rfl)) (hw _ (List.mem_of_getElem? (i := 7) rfl)) (hw _ (List.mem_of_getElem? (i := 3) rfl)) (hw _ (List.mem_of_getElem? (i := 8) rfl)) (by decide) e52 (rm2 l Z a0 hw [] v10_42 v11_43 v12_44 v13_45 (2 : Int32) h52 n0 Z52) (argsL := [(.int v10_42), (.int v11_43), (.int v12_44), (.int v13_45), (.int (2 : Int32))]) (rest := [(.int (2 : Int32)), (.ref ad48), (.ref ad48)]) (lenOf own_pd6 rfl) rfl (by rw [hml]; rfl) 3 (by exact Nat.le_refl _) (by decide) (by decide) (by decide) (by decide) (hb hby at_392) rfl (fun v53 T53 L53 q53 (X53 : Stand _ _ _ _ _ _ _ _ _ _ T53 _ 5 23) => ?_)
                  obtain ⟨rfl, N53', e53⟩ := q53
                  have N53 := Fr.app N52 N53'
                  show Ends p e below _ T53 m 395 #[.val (.int p1), .val (.int p2), .val (.int p3), .val (.int p4), .val (.int v4_2), .val (.int v5_3), .val (.int v6_4), .val (.ref ad5), .val (.ref ad12), .val (.ref ad28), .val (.int v10_42), .val (.int v11_43), .val (.int v12_44), .val (.int v13_45), .val (.ref aS), .unset, .unset, .unset, .unset, .unset, .unset] [(.int (fIst_0 v10_42 v11_43 v12_44 v13_45 (2 : Int32))), (.int (2 : Int32)), (.ref ad48), (.ref ad48)]
                  refine eZAStore X53 hx hZ e53 A48 (inbL (n := 4) rfl (by decide)) (hb hby at_395) rfl (fun T54 h54 X54 e54 W54 B54 => ?_)
                  have A5 := A5.other W54 ne_ad5_ad48
                  have A12 := A12.other W54 ne_ad12_ad48
                  have A28 := A28.other W54 ne_ad28_ad48
                  have A_st := A_st.other W54 ne_aS_ad48
                  have A48 : Ar Z h54 ad48 .boolean [(nar .boolean (fIst_0 v10_42 v11_43 v12_44 v13_45 (0 : Int32))), (nar .boolean (fIst_0 v10_42 v11_43 v12_44 v13_45 (1 : Int32))), (nar .boolean (fIst_0 v10_42 v11_43 v12_44 v13_45 (2 : Int32))), (0 : Int32)] := B54
                  have N54 := Fr.snoc X54 N53 ge_ad48
                  have Z54 := Nat.le_trans Z52 (Keep.of_wr W54).1
                  refine eDup X54 hx (hb hby at_396) rfl rfl ?_
                  refine eIConst X54 hx (3 : Int32) (hb hby at_397) rfl rfl ?_
                  refine eILoad X54 hx (hb hby at_398) rfl rfl ?_
                  refine eILoad X54 hx (hb hby at_400) rfl rfl ?_
                  refine eILoad X54 hx (hb hby at_402) rfl rfl ?_
                  refine eILoad X54 hx (hb hby at_404) rfl rfl ?_
                  refine eIConst X54 hx (3 : Int32) (hb hby at_406) rfl rfl ?_
                  refine eCallS X54 hx hZ (y := (⟨"com/example/workflow_soundness/workflowsoundness/analysis/GraphReachedPinLaw", "isStart", "(IIIII)Z"⟩ : MethodName)) hown (hw _ (List.mem_of_getElem? (i := 6) rfl)) (hw _ (List.mem_of_getElem? (i := 7) rfl)) (hw _ (List.mem_of_getElem? (i := 3) rfl)) (hw _ (List.mem_of_getElem? (i := 8) rfl)) (by decide) e54 (rm2 l Z a0 hw [] v10_42 v11_43 v12_44 v13_45 (3 : Int32) h54 n0 Z54) (argsL := [(.int v10_42), (.int v11_43), (.int v12_44), (.int v13_45), (.int (3 : Int32))]) (rest := [(.int (3 : Int32)), (.ref ad48), (.ref ad48)]) (lenOf own_pd6 rfl) rfl (by rw [hml]; rfl) 3 (by exact Nat.le_refl _) (by decide) (by decide) (by decide) (by decide) (hb hby at_407) rfl (fun v55 T55 L55 q55 (X55 : Stand _ _ _ _ _ _ _ _ _ _ T55 _ 5 23) => ?_)
                  obtain ⟨rfl, N55', e55⟩ := q55
                  have N55 := Fr.app N54 N55'
                  show Ends p e below _ T55 m 410 #[.val (.int p1), .val (.int p2), .val (.int p3), .val (.int p4), .val (.int v4_2), .val (.int v5_3), .val (.int v6_4), .val (.ref ad5), .val (.ref ad12), .val (.ref ad28), .val (.int v10_42), .val (.int v11_43), .val (.int v12_44), .val (.int v13_45), .val (.ref aS), .unset, .unset, .unset, .unset, .unset, .unset] [(.int (fIst_0 v10_42 v11_43 v12_44 v13_45 (3 : Int32))), (.int (3 : Int32)), (.ref ad48), (.ref ad48)]
                  refine eZAStore X55 hx hZ e55 A48 (inbL (n := 4) rfl (by decide)) (hb hby at_410) rfl (fun T56 h56 X56 e56 W56 B56 => ?_)
                  have A5 := A5.other W56 ne_ad5_ad48
                  have A12 := A12.other W56 ne_ad12_ad48
                  have A28 := A28.other W56 ne_ad28_ad48
                  have A_st := A_st.other W56 ne_aS_ad48
                  have A48 : Ar Z h56 ad48 .boolean [(nar .boolean (fIst_0 v10_42 v11_43 v12_44 v13_45 (0 : Int32))), (nar .boolean (fIst_0 v10_42 v11_43 v12_44 v13_45 (1 : Int32))), (nar .boolean (fIst_0 v10_42 v11_43 v12_44 v13_45 (2 : Int32))), (nar .boolean (fIst_0 v10_42 v11_43 v12_44 v13_45 (3 : Int32)))] := B56
                  have N56 := Fr.snoc X56 N55 ge_ad48
                  have Z56 := Nat.le_trans Z54 (Keep.of_wr W56).1
                  refine eAStore X56 hx (hb hby at_411) rfl (L' := #[.val (.int p1), .val (.int p2), .val (.int p3), .val (.int p4), .val (.int v4_2), .val (.int v5_3), .val (.int v6_4), .val (.ref ad5), .val (.ref ad12), .val (.ref ad28), .val (.int v10_42), .val (.int v11_43), .val (.int v12_44), .val (.int v13_45), .val (.ref aS), .val (.ref ad48), .unset, .unset, .unset, .unset, .unset]) rfl rfl ?_
                  refine eNewO X56 hx hZ hown (hw _ (List.mem_of_getElem? (i := 9) rfl)) (hw _ (List.mem_of_getElem? (i := 10) rfl)) (hw _ (List.mem_of_getElem? (i := 11) rfl)) e56 (hb hby at_413) (by decide) (by decide) rfl (fun T57 h57 ad57 g57 X57 e57 E57 A57 D57 => ?_)
                  have ne_aS_ad57 : aS ≠ ad57 := Nat.ne_of_lt (Nat.lt_of_lt_of_le A_st.lt (Nat.le_of_eq g57.symm))
                  have ne_ad12_ad57 : ad12 ≠ ad57 := Nat.ne_of_lt (Nat.lt_of_lt_of_le A12.lt (Nat.le_of_eq g57.symm))
                  have ne_ad28_ad57 : ad28 ≠ ad57 := Nat.ne_of_lt (Nat.lt_of_lt_of_le A28.lt (Nat.le_of_eq g57.symm))
                  have ne_ad48_ad57 : ad48 ≠ ad57 := Nat.ne_of_lt (Nat.lt_of_lt_of_le A48.lt (Nat.le_of_eq g57.symm))
                  have ne_ad5_ad57 : ad5 ≠ ad57 := Nat.ne_of_lt (Nat.lt_of_lt_of_le A5.lt (Nat.le_of_eq g57.symm))
                  have A5 := A5.ext E57
                  have A12 := A12.ext E57
                  have A28 := A28.ext E57
                  have A_st := A_st.ext E57
                  have A48 := A48.ext E57
                  have Z57 := Nat.le_trans Z56 E57.1
                  have ge_ad57 : n0 ≤ ad57 := Nat.le_trans Z56 (Nat.le_of_eq g57.symm)
                  have F57__first : Fld Z h57 ad57 "com/example/workflow_soundness/workflowsoundness/analysis/Graph" "_first" "[I" .null := D57 (Or.inr (hw _ (List.mem_of_getElem? (i := 19) rfl))) (ty := (.array .int)) (by decide)
                  have F57__targets : Fld Z h57 ad57 "com/example/workflow_soundness/workflowsoundness/analysis/Graph" "_targets" "[I" .null := D57 (Or.inr (hw _ (List.mem_of_getElem? (i := 21) rfl))) (ty := (.array .int)) (by decide)
                  refine eDup X57 hx (hb hby at_416) rfl rfl ?_
                  refine eIConst X57 hx (5 : Int32) (hb hby at_417) rfl rfl ?_
                  refine eNewA X57 hx hZ rfl rfl (hw _ (List.mem_of_getElem? (i := 0) rfl)) e57 (hb hby at_418) (by decide) (cap := 5) (by decide) (by decide) (by decide) (by decide) rfl (fun T58 h58 ad58 g58 X58 e58 E58 A58 => ?_)
                  have ne_aS_ad58 : aS ≠ ad58 := Nat.ne_of_lt (Nat.lt_of_lt_of_le A_st.lt (Nat.le_of_eq g58.symm))
                  have ne_ad12_ad58 : ad12 ≠ ad58 := Nat.ne_of_lt (Nat.lt_of_lt_of_le A12.lt (Nat.le_of_eq g58.symm))
                  have ne_ad28_ad58 : ad28 ≠ ad58 := Nat.ne_of_lt (Nat.lt_of_lt_of_le A28.lt (Nat.le_of_eq g58.symm))
                  have ne_ad48_ad58 : ad48 ≠ ad58 := Nat.ne_of_lt (Nat.lt_of_lt_of_le A48.lt (Nat.le_of_eq g58.symm))
                  have ne_ad5_ad58 : ad5 ≠ ad58 := Nat.ne_of_lt (Nat.lt_of_lt_of_le A5.lt (Nat.le_of_eq g58.symm))
                  have ne_ad57_ad58 : ad57 ≠ ad58 := Nat.ne_of_lt (Nat.lt_of_lt_of_le A57.lt (Nat.le_of_eq g58.symm))
                  have A5 := A5.ext E58
                  have A12 := A12.ext E58
                  have A28 := A28.ext E58
                  have A_st := A_st.ext E58
                  have A48 := A48.ext E58
                  have A57 := A57.ext E58
                  have F57__first := F57__first.ext E58
                  have F57__targets := F57__targets.ext E58
                  have Z58 := Nat.le_trans Z57 E58.1
                  have ge_ad58 : n0 ≤ ad58 := Nat.le_trans Z57 (Nat.le_of_eq g58.symm)
                  have A58 : Ar Z h58 ad58 .int [(0 : Int32), (0 : Int32), (0 : Int32), (0 : Int32), (0 : Int32)] := A58
                  refine eDup X58 hx (hb hby at_420) rfl rfl ?_
                  refine eIConst X58 hx (0 : Int32) (hb hby at_421) rfl rfl ?_
                  refine eIConst X58 hx (0 : Int32) (hb hby at_422) rfl rfl ?_
                  refine eIAStore X58 hx hZ e58 A58 (inbL (n := 5) rfl (by decide)) (hb hby at_423) rfl (fun T59 h59 X59 e59 W59 B59 => ?_)
                  have A5 := A5.other W59 ne_ad5_ad58
                  have A12 := A12.other W59 ne_ad12_ad58
                  have A28 := A28.other W59 ne_ad28_ad58
                  have A_st := A_st.other W59 ne_aS_ad58
                  have A48 := A48.other W59 ne_ad48_ad58
                  have A57 := A57.wr W59
                  have F57__first := F57__first.other W59 (Or.inl ne_ad57_ad58)
                  have F57__targets := F57__targets.other W59 (Or.inl ne_ad57_ad58)
                  have A58 : Ar Z h59 ad58 .int [(0 : Int32), (0 : Int32), (0 : Int32), (0 : Int32), (0 : Int32)] := B59
                  have N59 := Fr.snoc X59 N56 ge_ad58
                  have Z59 := Nat.le_trans Z58 (Keep.of_wr W59).1
                  refine eDup X59 hx (hb hby at_424) rfl rfl ?_
                  refine eIConst X59 hx (1 : Int32) (hb hby at_425) rfl rfl ?_
                  refine eILoad X59 hx (hb hby at_426) rfl rfl ?_
                  refine eIAStore X59 hx hZ e59 A58 (inbL (n := 5) rfl (by decide)) (hb hby at_428) rfl (fun T60 h60 X60 e60 W60 B60 => ?_)
                  have A5 := A5.other W60 ne_ad5_ad58
                  have A12 := A12.other W60 ne_ad12_ad58
                  have A28 := A28.other W60 ne_ad28_ad58
                  have A_st := A_st.other W60 ne_aS_ad58
                  have A48 := A48.other W60 ne_ad48_ad58
                  have A57 := A57.wr W60
                  have F57__first := F57__first.other W60 (Or.inl ne_ad57_ad58)
                  have F57__targets := F57__targets.other W60 (Or.inl ne_ad57_ad58)
                  have A58 : Ar Z h60 ad58 .int [(0 : Int32), v4_2, (0 : Int32), (0 : Int32), (0 : Int32)] := B60
                  have N60 := Fr.snoc X60 N59 ge_ad58
                  have Z60 := Nat.le_trans Z59 (Keep.of_wr W60).1
                  refine eDup X60 hx (hb hby at_429) rfl rfl ?_
                  refine eIConst X60 hx (2 : Int32) (hb hby at_430) rfl rfl ?_
                  refine eILoad X60 hx (hb hby at_431) rfl rfl ?_
                  refine eIAStore X60 hx hZ e60 A58 (inbL (n := 5) rfl (by decide)) (hb hby at_433) rfl (fun T61 h61 X61 e61 W61 B61 => ?_)
                  have A5 := A5.other W61 ne_ad5_ad58
                  have A12 := A12.other W61 ne_ad12_ad58
                  have A28 := A28.other W61 ne_ad28_ad58
                  have A_st := A_st.other W61 ne_aS_ad58
                  have A48 := A48.other W61 ne_ad48_ad58
                  have A57 := A57.wr W61
                  have F57__first := F57__first.other W61 (Or.inl ne_ad57_ad58)
                  have F57__targets := F57__targets.other W61 (Or.inl ne_ad57_ad58)
                  have A58 : Ar Z h61 ad58 .int [(0 : Int32), v4_2, v5_3, (0 : Int32), (0 : Int32)] := B61
                  have N61 := Fr.snoc X61 N60 ge_ad58
                  have Z61 := Nat.le_trans Z60 (Keep.of_wr W61).1
                  refine eDup X61 hx (hb hby at_434) rfl rfl ?_
                  refine eIConst X61 hx (3 : Int32) (hb hby at_435) rfl rfl ?_
                  refine eILoad X61 hx (hb hby at_436) rfl rfl ?_
                  refine eIAStore X61 hx hZ e61 A58 (inbL (n := 5) rfl (by decide)) (hb hby at_438) rfl (fun T62 h62 X62 e62 W62 B62 => ?_)
                  have A5 := A5.other W62 ne_ad5_ad58
                  have A12 := A12.other W62 ne_ad12_ad58
                  have A28 := A28.other W62 ne_ad28_ad58
                  have A_st := A_st.other W62 ne_aS_ad58
                  have A48 := A48.other W62 ne_ad48_ad58
                  have A57 := A57.wr W62
                  have F57__first := F57__first.other W62 (Or.inl ne_ad57_ad58)
                  have F57__targets := F57__targets.other W62 (Or.inl ne_ad57_ad58)
                  have A58 : Ar Z h62 ad58 .int [(0 : Int32), v4_2, v5_3, v6_4, (0 : Int32)] := B62
                  have N62 := Fr.snoc X62 N61 ge_ad58
                  have Z62 := Nat.le_trans Z61 (Keep.of_wr W62).1
                  refine eDup X62 hx (hb hby at_439) rfl rfl ?_
                  refine eIConst X62 hx (4 : Int32) (hb hby at_440) rfl rfl ?_
                  refine eBipush X62 hx (6 : Int32) (hb hby at_441) rfl rfl ?_
                  refine eIAStore X62 hx hZ e62 A58 (inbL (n := 5) rfl (by decide)) (hb hby at_443) rfl (fun T63 h63 X63 e63 W63 B63 => ?_)
                  have A5 := A5.other W63 ne_ad5_ad58
                  have A12 := A12.other W63 ne_ad12_ad58
                  have A28 := A28.other W63 ne_ad28_ad58
                  have A_st := A_st.other W63 ne_aS_ad58
                  have A48 := A48.other W63 ne_ad48_ad58
                  have A57 := A57.wr W63
                  have F57__first := F57__first.other W63 (Or.inl ne_ad57_ad58)
                  have F57__targets := F57__targets.other W63 (Or.inl ne_ad57_ad58)
                  have A58 : Ar Z h63 ad58 .int [(0 : Int32), v4_2, v5_3, v6_4, (6 : Int32)] := B63
                  have N63 := Fr.snoc X63 N62 ge_ad58
                  have Z63 := Nat.le_trans Z62 (Keep.of_wr W63).1
                  refine eALoad X63 hx (hb hby at_444) rfl rfl rfl ?_
                  refine eCallI X63 hx hZ (y := (⟨"com/example/workflow_soundness/workflowsoundness/analysis/Graph", "<init>", "([I[I)V"⟩ : MethodName)) (a := ad57) rfl hown (hw _ (List.mem_of_getElem? (i := 12) rfl)) (hw _ (List.mem_of_getElem? (i := 13) rfl)) (hw _ (List.mem_of_getElem? (i := 11) rfl)) (hw _ (List.mem_of_getElem? (i := 14) rfl)) (by decide) e63 (rm3 l Z a0 hw [] ad57 ad58 ad5 h63 n0 Z63 A57 F57__first F57__targets ge_ad57) (argsL := [(.ref ad58), (.ref ad5)]) (rest := [(.ref ad57)]) (lenOf own_pd7 rfl) rfl (by rw [hml]; rfl) 1 (by exact Nat.le_refl _) (by decide) (by decide) (by decide) (by decide) (hb hby at_446) rfl (fun v64 T64 L64 q64 (X64 : Stand _ _ _ _ _ _ _ _ _ _ T64 _ 7 30) => ?_)
                  obtain ⟨N64', K64', rfl, R64_0, R64_1, R64_2⟩ := q64
                  have N64 := Fr.app N63 N64'
                  have A5 := A5.keep K64' (ninS ne_ad5_ad57 nin0)
                  have A12 := A12.keep K64' (ninS ne_ad12_ad57 nin0)
                  have A28 := A28.keep K64' (ninS ne_ad28_ad57 nin0)
                  have A_st := A_st.keep K64' (ninS ne_aS_ad57 nin0)
                  have A48 := A48.keep K64' (ninS ne_ad48_ad57 nin0)
                  have A57 := A57.keep K64'
                  have A58 := A58.keep K64' (ninS (Ne.symm ne_ad57_ad58) nin0)
                  have A57 := R64_0
                  have F57__first : Fld Z T64.heap ad57 "com/example/workflow_soundness/workflowsoundness/analysis/Graph" "_first" "[I" (.ref ad58) := R64_1
                  have F57__targets : Fld Z T64.heap ad57 "com/example/workflow_soundness/workflowsoundness/analysis/Graph" "_targets" "[I" (.ref ad5) := R64_2
                  have Z64 := Nat.le_trans Z63 K64'.1
                  show Ends p e below _ T64 m 449 #[.val (.int p1), .val (.int p2), .val (.int p3), .val (.int p4), .val (.int v4_2), .val (.int v5_3), .val (.int v6_4), .val (.ref ad5), .val (.ref ad12), .val (.ref ad28), .val (.int v10_42), .val (.int v11_43), .val (.int v12_44), .val (.int v13_45), .val (.ref aS), .val (.ref ad48), .unset, .unset, .unset, .unset, .unset] [(.ref ad57)]
                  refine eAStore X64 hx (hb hby at_449) rfl (L' := #[.val (.int p1), .val (.int p2), .val (.int p3), .val (.int p4), .val (.int v4_2), .val (.int v5_3), .val (.int v6_4), .val (.ref ad5), .val (.ref ad12), .val (.ref ad28), .val (.int v10_42), .val (.int v11_43), .val (.int v12_44), .val (.int v13_45), .val (.ref aS), .val (.ref ad48), .val (.ref ad57), .unset, .unset, .unset, .unset]) rfl rfl ?_
                  refine eALoad X64 hx (hb hby at_451) rfl rfl rfl ?_
                  refine eALoad X64 hx (hb hby at_453) rfl rfl rfl ?_
                  refine eALoad X64 hx (hb hby at_455) rfl rfl rfl ?_
                  refine eCallV X64 hx hZ (y := (⟨"com/example/workflow_soundness/workflowsoundness/analysis/Graph", "reached", "([Z[I)[Z"⟩ : MethodName)) hown (hw _ (List.mem_of_getElem? (i := 22) rfl)) (hw _ (List.mem_of_getElem? (i := 23) rfl)) (hw _ (List.mem_of_getElem? (i := 25) rfl)) (hw _ (List.mem_of_getElem? (i := 24) rfl)) (hw _ (List.mem_of_getElem? (i := 11) rfl)) (hw _ (List.mem_of_getElem? (i := 26) rfl)) (by decide) rfl A57 (rm5 l Z a0 hw [] ad57 ad28 aS ad58 ad5 [(0 : Int32), v4_2, v5_3, v6_4, (6 : Int32)] vs26 vs46 vS T64.heap n0 Z64 F57__first F57__targets A58 A5 A28 A_st rfl (own_f7 hcu) hT6 hTb hW4 hSl hSv) (argsL := [(.ref ad28), (.ref aS)]) (rest := []) (lenOf own_pd8 rfl) rfl (by rw [hml]; rfl) 0 (by exact Nat.le_refl _) (by decide) (by decide) (by decide) (by decide) (hb hby at_457) rfl (fun v65 T65 L65 q65 (X65 : Stand _ _ _ _ _ _ _ _ _ _ T65 _ 10 42) => ?_)
                  obtain ⟨N65', K65', b65_0, g65_0, rfl, R65_0, R65_1, R65_2, R65_3, R65_4, R65_5, U65_0⟩ := q65
                  have N65 := Fr.app N64 N65'
                  have ne_aS_b65_0 : aS ≠ b65_0 := Nat.ne_of_lt (Nat.lt_of_lt_of_le A_st.lt g65_0)
                  have ne_ad12_b65_0 : ad12 ≠ b65_0 := Nat.ne_of_lt (Nat.lt_of_lt_of_le A12.lt g65_0)
                  have ne_ad28_b65_0 : ad28 ≠ b65_0 := Nat.ne_of_lt (Nat.lt_of_lt_of_le A28.lt g65_0)
                  have ne_ad48_b65_0 : ad48 ≠ b65_0 := Nat.ne_of_lt (Nat.lt_of_lt_of_le A48.lt g65_0)
                  have ne_ad5_b65_0 : ad5 ≠ b65_0 := Nat.ne_of_lt (Nat.lt_of_lt_of_le A5.lt g65_0)
                  have ne_ad57_b65_0 : ad57 ≠ b65_0 := Nat.ne_of_lt (Nat.lt_of_lt_of_le A57.lt g65_0)
                  have ne_ad58_b65_0 : ad58 ≠ b65_0 := Nat.ne_of_lt (Nat.lt_of_lt_of_le A58.lt g65_0)
                  have ge_b65_0 : n0 ≤ b65_0 := Nat.le_trans Z64 g65_0
                  have A5 := A5.keep K65' nin0
                  have A12 := A12.keep K65' nin0
                  have A28 := A28.keep K65' nin0
                  have A_st := A_st.keep K65' nin0
                  have A48 := A48.keep K65' nin0
                  have A57 := A57.keep K65'
                  have F57__first := F57__first.keep K65' nin0
                  have F57__targets := F57__targets.keep K65' nin0
                  have A58 := A58.keep K65' nin0
                  have F57__first : Fld Z T65.heap ad57 "com/example/workflow_soundness/workflowsoundness/analysis/Graph" "_first" "[I" (.ref ad58) := R65_0
                  have F57__targets : Fld Z T65.heap ad57 "com/example/workflow_soundness/workflowsoundness/analysis/Graph" "_targets" "[I" (.ref ad5) := R65_1
                  have A58 : Ar Z T65.heap ad58 .int [(0 : Int32), v4_2, v5_3, v6_4, (6 : Int32)] := R65_2
                  have A5 : Ar Z T65.heap ad5 .int vs26 := R65_3
                  have A28 : Ar Z T65.heap ad28 .boolean vs46 := R65_4
                  have A_st : Ar Z T65.heap aS .int vS := R65_5
                  have U65_0 : Ar Z T65.heap b65_0 .boolean (fRe_0 [(0 : Int32), v4_2, v5_3, v6_4, (6 : Int32)] vs26 vs46 vS) := U65_0
                  have Z65 := Nat.le_trans Z64 K65'.1
                  show Ends p e below _ T65 m 460 #[.val (.int p1), .val (.int p2), .val (.int p3), .val (.int p4), .val (.int v4_2), .val (.int v5_3), .val (.int v6_4), .val (.ref ad5), .val (.ref ad12), .val (.ref ad28), .val (.int v10_42), .val (.int v11_43), .val (.int v12_44), .val (.int v13_45), .val (.ref aS), .val (.ref ad48), .val (.ref ad57), .unset, .unset, .unset, .unset] [(.ref b65_0)]
                  refine eAStore X65 hx (hb hby at_460) rfl (L' := #[.val (.int p1), .val (.int p2), .val (.int p3), .val (.int p4), .val (.int v4_2), .val (.int v5_3), .val (.int v6_4), .val (.ref ad5), .val (.ref ad12), .val (.ref ad28), .val (.int v10_42), .val (.int v11_43), .val (.int v12_44), .val (.int v13_45), .val (.ref aS), .val (.ref ad48), .val (.ref ad57), .val (.ref b65_0), .unset, .unset, .unset]) rfl rfl ?_
                  have LP66 : ∀  (vs67 : List Int32) (vs68 : List Int32) (hL66 : Heap) (T66 : State) (locs66 : List Loc) (hR4 : vs67.length = 4) (X66 : Stand p l e room_1 s m #[(.int p1), (.int p2), (.int p3), (.int p4)] below meth c T66 locs66 10 42) (N66 : Fr n0 locs66) (e66 : T66.heap = hL66) (Z66 : n0 ≤ hL66.size) (A5 : Ar Z hL66 ad5 .int vs26) (A12 : Ar Z hL66 ad12 .int vs27) (A28 : Ar Z hL66 ad28 .boolean vs46) (A_st : Ar Z hL66 aS .int vS) (A48 : Ar Z hL66 ad48 .boolean vs67) (A57 : Exa Z hL66 ad57 "com/example/workflow_soundness/workflowsoundness/analysis/Graph") (F57__first : Fld Z hL66 ad57 "com/example/workflow_soundness/workflowsoundness/analysis/Graph" "_first" "[I" (.ref ad58)) (F57__targets : Fld Z hL66 ad57 "com/example/workflow_soundness/workflowsoundness/analysis/Graph" "_targets" "[I" (.ref ad5)) (A58 : Ar Z hL66 ad58 .int [(0 : Int32), v4_2, v5_3, v6_4, (6 : Int32)]) (U65_0 : Ar Z hL66 b65_0 .boolean vs68), Ends p e below (PVW s 40 192 n0 (f0_462 vs26 vs27 vs46 vs67 vs68)) T66 m 462 #[.val (.int p1), .val (.int p2), .val (.int p3), .val (.int p4), .val (.int v4_2), .val (.int v5_3), .val (.int v6_4), .val (.ref ad5), .val (.ref ad12), .val (.ref ad28), .val (.int v10_42), .val (.int v11_43), .val (.int v12_44), .val (.int v13_45), .val (.ref aS), .val (.ref ad48), .val (.ref ad57), .val (.ref b65_0), .unset, .unset, .unset] [] := by
                    intro vs67 vs68 hL66 T66 locs66 hR4 X66 N66 e66 Z66 A5 A12 A28 A_st A48 A57 F57__first F57__targets A58 U65_0
                    refine eALoad X66 hx (hb hby at_462) rfl rfl rfl ?_
                    refine eALoad X66 hx (hb hby at_464) rfl rfl rfl ?_
                    refine eALoad X66 hx (hb hby at_466) rfl rfl rfl ?_
                    refine eALoad X66 hx (hb hby at_468) rfl rfl rfl ?_
                    refine eCallS X66 hx hZ (y := (⟨"com/example/workflow_soundness/workflowsoundness/analysis/GraphReachedPinLaw", "step", "([I[I[Z[Z)[Z"⟩ : MethodName)) hown (hw _ (List.mem_of_getElem? (i := 27) rfl)) (hw _ (List.mem_of_getElem? (i := 28) rfl)) (hw _ (List.mem_of_getElem? (i := 3) rfl)) (hw _ (List.mem_of_getElem? (i := 29) rfl)) (by decide) e66 (rm6 l Z a0 hw [] ad12 ad5 ad28 ad48 vs27 vs26 vs46 vs67 hL66 n0 Z66 A12 A5 A28 A48 hS6 hT6 hR4 hSb hW4) (argsL := [(.ref ad12), (.ref ad5), (.ref ad28), (.ref ad48)]) (rest := []) (lenOf own_pd9 rfl) rfl (by rw [hml]; rfl) 0 (by exact Nat.le_refl _) (by decide) (by decide) (by decide) (by decide) (hb hby at_470) rfl (fun v69 T69 L69 q69 (X69 : Stand _ _ _ _ _ _ _ _ _ _ T69 _ 11 46) => ?_)
                    obtain ⟨N69', K69', b69_0, g69_0, rfl, R69_0, R69_1, R69_2, R69_3, U69_0⟩ := q69
                    have N69 := Fr.app N66 N69'
                    have ne_aS_b69_0 : aS ≠ b69_0 := Nat.ne_of_lt (Nat.lt_of_lt_of_le A_st.lt g69_0)
                    have ne_ad12_b69_0 : ad12 ≠ b69_0 := Nat.ne_of_lt (Nat.lt_of_lt_of_le A12.lt g69_0)
                    have ne_ad28_b69_0 : ad28 ≠ b69_0 := Nat.ne_of_lt (Nat.lt_of_lt_of_le A28.lt g69_0)
                    have ne_ad48_b69_0 : ad48 ≠ b69_0 := Nat.ne_of_lt (Nat.lt_of_lt_of_le A48.lt g69_0)
                    have ne_ad5_b69_0 : ad5 ≠ b69_0 := Nat.ne_of_lt (Nat.lt_of_lt_of_le A5.lt g69_0)
                    have ne_ad57_b69_0 : ad57 ≠ b69_0 := Nat.ne_of_lt (Nat.lt_of_lt_of_le A57.lt g69_0)
                    have ne_ad58_b69_0 : ad58 ≠ b69_0 := Nat.ne_of_lt (Nat.lt_of_lt_of_le A58.lt g69_0)
                    have ne_b65_0_b69_0 : b65_0 ≠ b69_0 := Nat.ne_of_lt (Nat.lt_of_lt_of_le U65_0.lt g69_0)
                    have ge_b69_0 : n0 ≤ b69_0 := Nat.le_trans Z66 g69_0
                    have A5 := A5.keep K69' nin0
                    have A12 := A12.keep K69' nin0
                    have A28 := A28.keep K69' nin0
                    have A_st := A_st.keep K69' nin0
                    have A48 := A48.keep K69' nin0
                    have A57 := A57.keep K69'
                    have F57__first := F57__first.keep K69' nin0
                    have F57__targets := F57__targets.keep K69' nin0
                    have A58 := A58.keep K69' nin0
                    have U65_0 := U65_0.keep K69' nin0
                    have A12 : Ar Z T69.heap ad12 .int vs27 := R69_0
                    have A5 : Ar Z T69.heap ad5 .int vs26 := R69_1
                    have A28 : Ar Z T69.heap ad28 .boolean vs46 := R69_2
                    have A48 : Ar Z T69.heap ad48 .boolean vs67 := R69_3
                    have U69_0 : Ar Z T69.heap b69_0 .boolean (fStep_0 vs27 vs26 vs46 vs67) := U69_0
                    have Z69 := Nat.le_trans Z66 K69'.1
                    show Ends p e below _ T69 m 473 #[.val (.int p1), .val (.int p2), .val (.int p3), .val (.int p4), .val (.int v4_2), .val (.int v5_3), .val (.int v6_4), .val (.ref ad5), .val (.ref ad12), .val (.ref ad28), .val (.int v10_42), .val (.int v11_43), .val (.int v12_44), .val (.int v13_45), .val (.ref aS), .val (.ref ad48), .val (.ref ad57), .val (.ref b65_0), .unset, .unset, .unset] [(.ref b69_0)]
                    refine eAStore X69 hx (hb hby at_473) rfl (L' := #[.val (.int p1), .val (.int p2), .val (.int p3), .val (.int p4), .val (.int v4_2), .val (.int v5_3), .val (.int v6_4), .val (.ref ad5), .val (.ref ad12), .val (.ref ad28), .val (.int v10_42), .val (.int v11_43), .val (.int v12_44), .val (.int v13_45), .val (.ref aS), .val (.ref ad48), .val (.ref ad57), .val (.ref b65_0), .val (.ref b69_0), .unset, .unset]) rfl rfl ?_
                    refine eALoad X69 hx (hb hby at_475) rfl rfl rfl ?_
                    refine eALoad X69 hx (hb hby at_477) rfl rfl rfl ?_
                    refine eALoad X69 hx (hb hby at_479) rfl rfl rfl ?_
                    refine eALoad X69 hx (hb hby at_481) rfl rfl rfl ?_
                    refine eCallS X69 hx hZ (y := (⟨"com/example/workflow_soundness/workflowsoundness/analysis/GraphReachedPinLaw", "step", "([I[I[Z[Z)[Z"⟩ : MethodName)) hown (hw _ (List.mem_of_getElem? (i := 27) rfl)) (hw _ (List.mem_of_getElem? (i := 28) rfl)) (hw _ (List.mem_of_getElem? (i := 3) rfl)) (hw _ (List.mem_of_getElem? (i := 29) rfl)) (by decide) rfl (rm6 l Z a0 hw [] ad12 ad5 ad28 b69_0 vs27 vs26 vs46 (fStep_0 vs27 vs26 vs46 vs67) T69.heap n0 Z69 A12 A5 A28 U69_0 hS6 hT6 rfl hSb hW4) (argsL := [(.ref ad12), (.ref ad5), (.ref ad28), (.ref b69_0)]) (rest := []) (lenOf own_pd9 rfl) rfl (by rw [hml]; rfl) 0 (by exact Nat.le_refl _) (by decide) (by decide) (by decide) (by decide) (hb hby at_483) rfl (fun v70 T70 L70 q70 (X70 : Stand _ _ _ _ _ _ _ _ _ _ T70 _ 12 50) => ?_)
                    obtain ⟨N70', K70', b70_0, g70_0, rfl, R70_0, R70_1, R70_2, R70_3, U70_0⟩ := q70
                    have N70 := Fr.app N69 N70'
                    have ne_aS_b70_0 : aS ≠ b70_0 := Nat.ne_of_lt (Nat.lt_of_lt_of_le A_st.lt g70_0)
                    have ne_ad12_b70_0 : ad12 ≠ b70_0 := Nat.ne_of_lt (Nat.lt_of_lt_of_le A12.lt g70_0)
                    have ne_ad28_b70_0 : ad28 ≠ b70_0 := Nat.ne_of_lt (Nat.lt_of_lt_of_le A28.lt g70_0)
                    have ne_ad48_b70_0 : ad48 ≠ b70_0 := Nat.ne_of_lt (Nat.lt_of_lt_of_le A48.lt g70_0)
                    have ne_ad5_b70_0 : ad5 ≠ b70_0 := Nat.ne_of_lt (Nat.lt_of_lt_of_le A5.lt g70_0)
                    have ne_ad57_b70_0 : ad57 ≠ b70_0 := Nat.ne_of_lt (Nat.lt_of_lt_of_le A57.lt g70_0)
                    have ne_ad58_b70_0 : ad58 ≠ b70_0 := Nat.ne_of_lt (Nat.lt_of_lt_of_le A58.lt g70_0)
                    have ne_b65_0_b70_0 : b65_0 ≠ b70_0 := Nat.ne_of_lt (Nat.lt_of_lt_of_le U65_0.lt g70_0)
                    have ne_b69_0_b70_0 : b69_0 ≠ b70_0 := Nat.ne_of_lt (Nat.lt_of_lt_of_le U69_0.lt g70_0)
                    have ge_b70_0 : n0 ≤ b70_0 := Nat.le_trans Z69 g70_0
                    have A5 := A5.keep K70' nin0
                    have A12 := A12.keep K70' nin0
                    have A28 := A28.keep K70' nin0
                    have A_st := A_st.keep K70' nin0
                    have A48 := A48.keep K70' nin0
                    have A57 := A57.keep K70'
                    have F57__first := F57__first.keep K70' nin0
                    have F57__targets := F57__targets.keep K70' nin0
                    have A58 := A58.keep K70' nin0
                    have U65_0 := U65_0.keep K70' nin0
                    have U69_0 := U69_0.keep K70' nin0
                    have A12 : Ar Z T70.heap ad12 .int vs27 := R70_0
                    have A5 : Ar Z T70.heap ad5 .int vs26 := R70_1
                    have A28 : Ar Z T70.heap ad28 .boolean vs46 := R70_2
                    have U69_0 : Ar Z T70.heap b69_0 .boolean (fStep_0 vs27 vs26 vs46 vs67) := R70_3
                    have U70_0 : Ar Z T70.heap b70_0 .boolean (fStep_0 vs27 vs26 vs46 (fStep_0 vs27 vs26 vs46 vs67)) := U70_0
                    have Z70 := Nat.le_trans Z69 K70'.1
                    show Ends p e below _ T70 m 486 #[.val (.int p1), .val (.int p2), .val (.int p3), .val (.int p4), .val (.int v4_2), .val (.int v5_3), .val (.int v6_4), .val (.ref ad5), .val (.ref ad12), .val (.ref ad28), .val (.int v10_42), .val (.int v11_43), .val (.int v12_44), .val (.int v13_45), .val (.ref aS), .val (.ref ad48), .val (.ref ad57), .val (.ref b65_0), .val (.ref b69_0), .unset, .unset] [(.ref b70_0)]
                    refine eAStore X70 hx (hb hby at_486) rfl (L' := #[.val (.int p1), .val (.int p2), .val (.int p3), .val (.int p4), .val (.int v4_2), .val (.int v5_3), .val (.int v6_4), .val (.ref ad5), .val (.ref ad12), .val (.ref ad28), .val (.int v10_42), .val (.int v11_43), .val (.int v12_44), .val (.int v13_45), .val (.ref aS), .val (.ref ad48), .val (.ref ad57), .val (.ref b65_0), .val (.ref b69_0), .val (.ref b70_0), .unset]) rfl rfl ?_
                    refine eALoad X70 hx (hb hby at_488) rfl rfl rfl ?_
                    refine eALoad X70 hx (hb hby at_490) rfl rfl rfl ?_
                    refine eALoad X70 hx (hb hby at_492) rfl rfl rfl ?_
                    refine eALoad X70 hx (hb hby at_494) rfl rfl rfl ?_
                    refine eCallS X70 hx hZ (y := (⟨"com/example/workflow_soundness/workflowsoundness/analysis/GraphReachedPinLaw", "step", "([I[I[Z[Z)[Z"⟩ : MethodName)) hown (hw _ (List.mem_of_getElem? (i := 27) rfl)) (hw _ (List.mem_of_getElem? (i := 28) rfl)) (hw _ (List.mem_of_getElem? (i := 3) rfl)) (hw _ (List.mem_of_getElem? (i := 29) rfl)) (by decide) rfl (rm6 l Z a0 hw [] ad12 ad5 ad28 b70_0 vs27 vs26 vs46 (fStep_0 vs27 vs26 vs46 (fStep_0 vs27 vs26 vs46 vs67)) T70.heap n0 Z70 A12 A5 A28 U70_0 hS6 hT6 rfl hSb hW4) (argsL := [(.ref ad12), (.ref ad5), (.ref ad28), (.ref b70_0)]) (rest := []) (lenOf own_pd9 rfl) rfl (by rw [hml]; rfl) 0 (by exact Nat.le_refl _) (by decide) (by decide) (by decide) (by decide) (hb hby at_496) rfl (fun v71 T71 L71 q71 (X71 : Stand _ _ _ _ _ _ _ _ _ _ T71 _ 13 54) => ?_)
                    obtain ⟨N71', K71', b71_0, g71_0, rfl, R71_0, R71_1, R71_2, R71_3, U71_0⟩ := q71
                    have N71 := Fr.app N70 N71'
                    have ne_aS_b71_0 : aS ≠ b71_0 := Nat.ne_of_lt (Nat.lt_of_lt_of_le A_st.lt g71_0)
                    have ne_ad12_b71_0 : ad12 ≠ b71_0 := Nat.ne_of_lt (Nat.lt_of_lt_of_le A12.lt g71_0)
                    have ne_ad28_b71_0 : ad28 ≠ b71_0 := Nat.ne_of_lt (Nat.lt_of_lt_of_le A28.lt g71_0)
                    have ne_ad48_b71_0 : ad48 ≠ b71_0 := Nat.ne_of_lt (Nat.lt_of_lt_of_le A48.lt g71_0)
                    have ne_ad5_b71_0 : ad5 ≠ b71_0 := Nat.ne_of_lt (Nat.lt_of_lt_of_le A5.lt g71_0)
                    have ne_ad57_b71_0 : ad57 ≠ b71_0 := Nat.ne_of_lt (Nat.lt_of_lt_of_le A57.lt g71_0)
                    have ne_ad58_b71_0 : ad58 ≠ b71_0 := Nat.ne_of_lt (Nat.lt_of_lt_of_le A58.lt g71_0)
                    have ne_b65_0_b71_0 : b65_0 ≠ b71_0 := Nat.ne_of_lt (Nat.lt_of_lt_of_le U65_0.lt g71_0)
                    have ne_b69_0_b71_0 : b69_0 ≠ b71_0 := Nat.ne_of_lt (Nat.lt_of_lt_of_le U69_0.lt g71_0)
                    have ne_b70_0_b71_0 : b70_0 ≠ b71_0 := Nat.ne_of_lt (Nat.lt_of_lt_of_le U70_0.lt g71_0)
                    have ge_b71_0 : n0 ≤ b71_0 := Nat.le_trans Z70 g71_0
                    have A5 := A5.keep K71' nin0
                    have A12 := A12.keep K71' nin0
                    have A28 := A28.keep K71' nin0
                    have A_st := A_st.keep K71' nin0
                    have A48 := A48.keep K71' nin0
                    have A57 := A57.keep K71'
                    have F57__first := F57__first.keep K71' nin0
                    have F57__targets := F57__targets.keep K71' nin0
                    have A58 := A58.keep K71' nin0
                    have U65_0 := U65_0.keep K71' nin0
                    have U69_0 := U69_0.keep K71' nin0
                    have U70_0 := U70_0.keep K71' nin0
                    have A12 : Ar Z T71.heap ad12 .int vs27 := R71_0
                    have A5 : Ar Z T71.heap ad5 .int vs26 := R71_1
                    have A28 : Ar Z T71.heap ad28 .boolean vs46 := R71_2
                    have U70_0 : Ar Z T71.heap b70_0 .boolean (fStep_0 vs27 vs26 vs46 (fStep_0 vs27 vs26 vs46 vs67)) := R71_3
                    have U71_0 : Ar Z T71.heap b71_0 .boolean (fStep_0 vs27 vs26 vs46 (fStep_0 vs27 vs26 vs46 (fStep_0 vs27 vs26 vs46 vs67))) := U71_0
                    have Z71 := Nat.le_trans Z70 K71'.1
                    show Ends p e below _ T71 m 499 #[.val (.int p1), .val (.int p2), .val (.int p3), .val (.int p4), .val (.int v4_2), .val (.int v5_3), .val (.int v6_4), .val (.ref ad5), .val (.ref ad12), .val (.ref ad28), .val (.int v10_42), .val (.int v11_43), .val (.int v12_44), .val (.int v13_45), .val (.ref aS), .val (.ref ad48), .val (.ref ad57), .val (.ref b65_0), .val (.ref b69_0), .val (.ref b70_0), .unset] [(.ref b71_0)]
                    refine eAStore X71 hx (hb hby at_499) rfl (L' := #[.val (.int p1), .val (.int p2), .val (.int p3), .val (.int p4), .val (.int v4_2), .val (.int v5_3), .val (.int v6_4), .val (.ref ad5), .val (.ref ad12), .val (.ref ad28), .val (.int v10_42), .val (.int v11_43), .val (.int v12_44), .val (.int v13_45), .val (.ref aS), .val (.ref ad48), .val (.ref ad57), .val (.ref b65_0), .val (.ref b69_0), .val (.ref b70_0), .val (.ref b71_0)]) rfl rfl ?_
                    refine eALoad X71 hx (hb hby at_501) rfl rfl rfl ?_
                    refine eLen X71 hx hZ rfl U65_0 (Int32.ofNat vs68.length) rfl (hb hby at_503) rfl ?_
                    refine eIConst X71 hx (4 : Int32) (hb hby at_504) rfl rfl ?_
                    show Ends p e below (PVW s 40 192 n0 (if (Int32.ofNat vs68.length) = (4 : Int32) then (if (rd vs68 (0 : Int32)) = (rd (fStep_0 vs27 vs26 vs46 (fStep_0 vs27 vs26 vs46 (fStep_0 vs27 vs26 vs46 vs67))) (0 : Int32)) then (if (rd vs68 (1 : Int32)) = (rd (fStep_0 vs27 vs26 vs46 (fStep_0 vs27 vs26 vs46 (fStep_0 vs27 vs26 vs46 vs67))) (1 : Int32)) then (if (rd vs68 (2 : Int32)) = (rd (fStep_0 vs27 vs26 vs46 (fStep_0 vs27 vs26 vs46 (fStep_0 vs27 vs26 vs46 vs67))) (2 : Int32)) then (if (rd vs68 (3 : Int32)) = (rd (fStep_0 vs27 vs26 vs46 (fStep_0 vs27 vs26 vs46 (fStep_0 vs27 vs26 vs46 vs67))) (3 : Int32)) then (1 : Int32) else (0 : Int32)) else (0 : Int32)) else (0 : Int32)) else (0 : Int32)) else (0 : Int32))) T71 m 505 #[.val (.int p1), .val (.int p2), .val (.int p3), .val (.int p4), .val (.int v4_2), .val (.int v5_3), .val (.int v6_4), .val (.ref ad5), .val (.ref ad12), .val (.ref ad28), .val (.int v10_42), .val (.int v11_43), .val (.int v12_44), .val (.int v13_45), .val (.ref aS), .val (.ref ad48), .val (.ref ad57), .val (.ref b65_0), .val (.ref b69_0), .val (.ref b70_0), .val (.ref b71_0)] [(.int (4 : Int32)), (.int (Int32.ofNat vs68.length))]
                    by_cases c72 : (Int32.ofNat vs68.length) = (4 : Int32)
                    · rw [if_pos c72]
                      refine eIcmpN X71 hx (hb hby at_505) (teq c72).2 rfl ?_
                      refine eALoad X71 hx (hb hby at_508) rfl rfl rfl ?_
                      refine eIConst X71 hx (0 : Int32) (hb hby at_510) rfl rfl ?_
                      refine eZALoad X71 hx hZ rfl U65_0 (rd vs68 (0 : Int32)) rfl (own_gi c72 (Ar.small U65_0) (by decide) (by decide)) (hb hby at_511) rfl ?_
                      refine eALoad X71 hx (hb hby at_512) rfl rfl rfl ?_
                      refine eIConst X71 hx (0 : Int32) (hb hby at_514) rfl rfl ?_
                      refine eZALoad X71 hx hZ rfl U71_0 (rd (fStep_0 vs27 vs26 vs46 (fStep_0 vs27 vs26 vs46 (fStep_0 vs27 vs26 vs46 vs67))) (0 : Int32)) rfl (inbL (n := 4) rfl (by decide)) (hb hby at_515) rfl ?_
                      show Ends p e below (PVW s 40 192 n0 (if (rd vs68 (0 : Int32)) = (rd (fStep_0 vs27 vs26 vs46 (fStep_0 vs27 vs26 vs46 (fStep_0 vs27 vs26 vs46 vs67))) (0 : Int32)) then (if (rd vs68 (1 : Int32)) = (rd (fStep_0 vs27 vs26 vs46 (fStep_0 vs27 vs26 vs46 (fStep_0 vs27 vs26 vs46 vs67))) (1 : Int32)) then (if (rd vs68 (2 : Int32)) = (rd (fStep_0 vs27 vs26 vs46 (fStep_0 vs27 vs26 vs46 (fStep_0 vs27 vs26 vs46 vs67))) (2 : Int32)) then (if (rd vs68 (3 : Int32)) = (rd (fStep_0 vs27 vs26 vs46 (fStep_0 vs27 vs26 vs46 (fStep_0 vs27 vs26 vs46 vs67))) (3 : Int32)) then (1 : Int32) else (0 : Int32)) else (0 : Int32)) else (0 : Int32)) else (0 : Int32))) T71 m 516 #[.val (.int p1), .val (.int p2), .val (.int p3), .val (.int p4), .val (.int v4_2), .val (.int v5_3), .val (.int v6_4), .val (.ref ad5), .val (.ref ad12), .val (.ref ad28), .val (.int v10_42), .val (.int v11_43), .val (.int v12_44), .val (.int v13_45), .val (.ref aS), .val (.ref ad48), .val (.ref ad57), .val (.ref b65_0), .val (.ref b69_0), .val (.ref b70_0), .val (.ref b71_0)] [(.int (rd (fStep_0 vs27 vs26 vs46 (fStep_0 vs27 vs26 vs46 (fStep_0 vs27 vs26 vs46 vs67))) (0 : Int32))), (.int (rd vs68 (0 : Int32)))]
                      by_cases c73 : (rd vs68 (0 : Int32)) = (rd (fStep_0 vs27 vs26 vs46 (fStep_0 vs27 vs26 vs46 (fStep_0 vs27 vs26 vs46 vs67))) (0 : Int32))
                      · rw [if_pos c73]
                        refine eIcmpN X71 hx (hb hby at_516) (teq c73).2 rfl ?_
                        refine eALoad X71 hx (hb hby at_519) rfl rfl rfl ?_
                        refine eIConst X71 hx (1 : Int32) (hb hby at_521) rfl rfl ?_
                        refine eZALoad X71 hx hZ rfl U65_0 (rd vs68 (1 : Int32)) rfl (own_gi c72 (Ar.small U65_0) (by decide) (by decide)) (hb hby at_522) rfl ?_
                        refine eALoad X71 hx (hb hby at_523) rfl rfl rfl ?_
                        refine eIConst X71 hx (1 : Int32) (hb hby at_525) rfl rfl ?_
                        refine eZALoad X71 hx hZ rfl U71_0 (rd (fStep_0 vs27 vs26 vs46 (fStep_0 vs27 vs26 vs46 (fStep_0 vs27 vs26 vs46 vs67))) (1 : Int32)) rfl (inbL (n := 4) rfl (by decide)) (hb hby at_526) rfl ?_
                        show Ends p e below (PVW s 40 192 n0 (if (rd vs68 (1 : Int32)) = (rd (fStep_0 vs27 vs26 vs46 (fStep_0 vs27 vs26 vs46 (fStep_0 vs27 vs26 vs46 vs67))) (1 : Int32)) then (if (rd vs68 (2 : Int32)) = (rd (fStep_0 vs27 vs26 vs46 (fStep_0 vs27 vs26 vs46 (fStep_0 vs27 vs26 vs46 vs67))) (2 : Int32)) then (if (rd vs68 (3 : Int32)) = (rd (fStep_0 vs27 vs26 vs46 (fStep_0 vs27 vs26 vs46 (fStep_0 vs27 vs26 vs46 vs67))) (3 : Int32)) then (1 : Int32) else (0 : Int32)) else (0 : Int32)) else (0 : Int32))) T71 m 527 #[.val (.int p1), .val (.int p2), .val (.int p3), .val (.int p4), .val (.int v4_2), .val (.int v5_3), .val (.int v6_4), .val (.ref ad5), .val (.ref ad12), .val (.ref ad28), .val (.int v10_42), .val (.int v11_43), .val (.int v12_44), .val (.int v13_45), .val (.ref aS), .val (.ref ad48), .val (.ref ad57), .val (.ref b65_0), .val (.ref b69_0), .val (.ref b70_0), .val (.ref b71_0)] [(.int (rd (fStep_0 vs27 vs26 vs46 (fStep_0 vs27 vs26 vs46 (fStep_0 vs27 vs26 vs46 vs67))) (1 : Int32))), (.int (rd vs68 (1 : Int32)))]
                        by_cases c74 : (rd vs68 (1 : Int32)) = (rd (fStep_0 vs27 vs26 vs46 (fStep_0 vs27 vs26 vs46 (fStep_0 vs27 vs26 vs46 vs67))) (1 : Int32))
                        · rw [if_pos c74]
                          refine eIcmpN X71 hx (hb hby at_527) (teq c74).2 rfl ?_
                          refine eALoad X71 hx (hb hby at_530) rfl rfl rfl ?_
                          refine eIConst X71 hx (2 : Int32) (hb hby at_532) rfl rfl ?_
                          refine eZALoad X71 hx hZ rfl U65_0 (rd vs68 (2 : Int32)) rfl (own_gi c72 (Ar.small U65_0) (by decide) (by decide)) (hb hby at_533) rfl ?_
                          refine eALoad X71 hx (hb hby at_534) rfl rfl rfl ?_
                          refine eIConst X71 hx (2 : Int32) (hb hby at_536) rfl rfl ?_
                          refine eZALoad X71 hx hZ rfl U71_0 (rd (fStep_0 vs27 vs26 vs46 (fStep_0 vs27 vs26 vs46 (fStep_0 vs27 vs26 vs46 vs67))) (2 : Int32)) rfl (inbL (n := 4) rfl (by decide)) (hb hby at_537) rfl ?_
                          show Ends p e below (PVW s 40 192 n0 (if (rd vs68 (2 : Int32)) = (rd (fStep_0 vs27 vs26 vs46 (fStep_0 vs27 vs26 vs46 (fStep_0 vs27 vs26 vs46 vs67))) (2 : Int32)) then (if (rd vs68 (3 : Int32)) = (rd (fStep_0 vs27 vs26 vs46 (fStep_0 vs27 vs26 vs46 (fStep_0 vs27 vs26 vs46 vs67))) (3 : Int32)) then (1 : Int32) else (0 : Int32)) else (0 : Int32))) T71 m 538 #[.val (.int p1), .val (.int p2), .val (.int p3), .val (.int p4), .val (.int v4_2), .val (.int v5_3), .val (.int v6_4), .val (.ref ad5), .val (.ref ad12), .val (.ref ad28), .val (.int v10_42), .val (.int v11_43), .val (.int v12_44), .val (.int v13_45), .val (.ref aS), .val (.ref ad48), .val (.ref ad57), .val (.ref b65_0), .val (.ref b69_0), .val (.ref b70_0), .val (.ref b71_0)] [(.int (rd (fStep_0 vs27 vs26 vs46 (fStep_0 vs27 vs26 vs46 (fStep_0 vs27 vs26 vs46 vs67))) (2 : Int32))), (.int (rd vs68 (2 : Int32)))]
                          by_cases c75 : (rd vs68 (2 : Int32)) = (rd (fStep_0 vs27 vs26 vs46 (fStep_0 vs27 vs26 vs46 (fStep_0 vs27 vs26 vs46 vs67))) (2 : Int32))
                          · rw [if_pos c75]
                            refine eIcmpN X71 hx (hb hby at_538) (teq c75).2 rfl ?_
                            refine eALoad X71 hx (hb hby at_541) rfl rfl rfl ?_
                            refine eIConst X71 hx (3 : Int32) (hb hby at_543) rfl rfl ?_
                            refine eZALoad X71 hx hZ rfl U65_0 (rd vs68 (3 : Int32)) rfl (own_gi c72 (Ar.small U65_0) (by decide) (by decide)) (hb hby at_544) rfl ?_
                            refine eALoad X71 hx (hb hby at_545) rfl rfl rfl ?_
                            refine eIConst X71 hx (3 : Int32) (hb hby at_547) rfl rfl ?_
                            refine eZALoad X71 hx hZ rfl U71_0 (rd (fStep_0 vs27 vs26 vs46 (fStep_0 vs27 vs26 vs46 (fStep_0 vs27 vs26 vs46 vs67))) (3 : Int32)) rfl (inbL (n := 4) rfl (by decide)) (hb hby at_548) rfl ?_
                            show Ends p e below (PVW s 40 192 n0 (if (rd vs68 (3 : Int32)) = (rd (fStep_0 vs27 vs26 vs46 (fStep_0 vs27 vs26 vs46 (fStep_0 vs27 vs26 vs46 vs67))) (3 : Int32)) then (1 : Int32) else (0 : Int32))) T71 m 549 #[.val (.int p1), .val (.int p2), .val (.int p3), .val (.int p4), .val (.int v4_2), .val (.int v5_3), .val (.int v6_4), .val (.ref ad5), .val (.ref ad12), .val (.ref ad28), .val (.int v10_42), .val (.int v11_43), .val (.int v12_44), .val (.int v13_45), .val (.ref aS), .val (.ref ad48), .val (.ref ad57), .val (.ref b65_0), .val (.ref b69_0), .val (.ref b70_0), .val (.ref b71_0)] [(.int (rd (fStep_0 vs27 vs26 vs46 (fStep_0 vs27 vs26 vs46 (fStep_0 vs27 vs26 vs46 vs67))) (3 : Int32))), (.int (rd vs68 (3 : Int32)))]
                            by_cases c76 : (rd vs68 (3 : Int32)) = (rd (fStep_0 vs27 vs26 vs46 (fStep_0 vs27 vs26 vs46 (fStep_0 vs27 vs26 vs46 vs67))) (3 : Int32))
                            · rw [if_pos c76]
                              refine eIcmpN X71 hx (hb hby at_549) (teq c76).2 rfl ?_
                              refine eIConst X71 hx (1 : Int32) (hb hby at_552) rfl rfl ?_
                              refine eGoto X71 hx (hb hby at_553) (by decide) (pc' := 557) rfl ?_
                              exact eRetN X71 hx (t := .boolean) Bd.returns (by simp) hlk (hb hby at_557) (by decide) (by decide) ⟨rfl, N71⟩
                            · rw [if_neg c76]
                              refine eIcmpY X71 hx (hb hby at_549) (feq c76).2 (by decide) (pc' := 556) rfl ?_
                              refine eIConst X71 hx (0 : Int32) (hb hby at_556) rfl rfl ?_
                              exact eRetN X71 hx (t := .boolean) Bd.returns (by simp) hlk (hb hby at_557) (by decide) (by decide) ⟨rfl, N71⟩
                          · rw [if_neg c75]
                            refine eIcmpY X71 hx (hb hby at_538) (feq c75).2 (by decide) (pc' := 556) rfl ?_
                            refine eIConst X71 hx (0 : Int32) (hb hby at_556) rfl rfl ?_
                            exact eRetN X71 hx (t := .boolean) Bd.returns (by simp) hlk (hb hby at_557) (by decide) (by decide) ⟨rfl, N71⟩
                        · rw [if_neg c74]
                          refine eIcmpY X71 hx (hb hby at_527) (feq c74).2 (by decide) (pc' := 556) rfl ?_
                          refine eIConst X71 hx (0 : Int32) (hb hby at_556) rfl rfl ?_
                          exact eRetN X71 hx (t := .boolean) Bd.returns (by simp) hlk (hb hby at_557) (by decide) (by decide) ⟨rfl, N71⟩
                      · rw [if_neg c73]
                        refine eIcmpY X71 hx (hb hby at_516) (feq c73).2 (by decide) (pc' := 556) rfl ?_
                        refine eIConst X71 hx (0 : Int32) (hb hby at_556) rfl rfl ?_
                        exact eRetN X71 hx (t := .boolean) Bd.returns (by simp) hlk (hb hby at_557) (by decide) (by decide) ⟨rfl, N71⟩
                    · rw [if_neg c72]
                      refine eIcmpY X71 hx (hb hby at_505) (feq c72).2 (by decide) (pc' := 556) rfl ?_
                      refine eIConst X71 hx (0 : Int32) (hb hby at_556) rfl rfl ?_
                      exact eRetN X71 hx (t := .boolean) Bd.returns (by simp) hlk (hb hby at_557) (by decide) (by decide) ⟨rfl, N71⟩
                  exact LP66 [(nar .boolean (fIst_0 v10_42 v11_43 v12_44 v13_45 (0 : Int32))), (nar .boolean (fIst_0 v10_42 v11_43 v12_44 v13_45 (1 : Int32))), (nar .boolean (fIst_0 v10_42 v11_43 v12_44 v13_45 (2 : Int32))), (nar .boolean (fIst_0 v10_42 v11_43 v12_44 v13_45 (3 : Int32)))] (fRe_0 [(0 : Int32), v4_2, v5_3, v6_4, (6 : Int32)] vs26 vs46 vS) _ _ _ rfl X65 N65 rfl Z65 A5 A12 A28 A_st A48 A57 F57__first F57__targets A58 U65_0
                refine eILoad X41 hx (hb hby at_272) rfl rfl ?_
                show Ends p e below (PVW s 40 192 n0 (if v10_42 = (0 : Int32) then (f0_348 v4_2 v5_3 v6_4 vs26 vs27 v10_42 v11_43 v12_44 v13_45 vs46 []) else (if v10_42 = (1 : Int32) then (f0_348 v4_2 v5_3 v6_4 vs26 vs27 v10_42 v11_43 v12_44 v13_45 vs46 [v11_43]) else (if v10_42 = (2 : Int32) then (f0_348 v4_2 v5_3 v6_4 vs26 vs27 v10_42 v11_43 v12_44 v13_45 vs46 [v11_43, v12_44]) else (f0_348 v4_2 v5_3 v6_4 vs26 vs27 v10_42 v11_43 v12_44 v13_45 vs46 [v11_43, v12_44, v13_45]))))) T41 m 274 #[.val (.int p1), .val (.int p2), .val (.int p3), .val (.int p4), .val (.int v4_2), .val (.int v5_3), .val (.int v6_4), .val (.ref ad5), .val (.ref ad12), .val (.ref ad28), .val (.int v10_42), .val (.int v11_43), .val (.int v12_44), .val (.int v13_45), .unset, .unset, .unset, .unset, .unset, .unset, .unset] [(.int v10_42)]
                by_cases c77 : v10_42 = (0 : Int32)
                · rw [if_pos c77]
                  refine eIfN X41 hx (hb hby at_274) ((if0 _ _).trans (teq c77).2) rfl ?_
                  refine eIConst X41 hx (0 : Int32) (hb hby at_277) rfl rfl ?_
                  refine eNewA X41 hx hZ rfl rfl (hw _ (List.mem_of_getElem? (i := 0) rfl)) e41 (hb hby at_278) (by decide) (cap := 0) (by decide) (by decide) (by decide) (by decide) rfl (fun T78 h78 ad78 g78 X78 e78 E78 A78 => ?_)
                  have ne_ad12_ad78 : ad12 ≠ ad78 := Nat.ne_of_lt (Nat.lt_of_lt_of_le A12.lt (Nat.le_of_eq g78.symm))
                  have ne_ad28_ad78 : ad28 ≠ ad78 := Nat.ne_of_lt (Nat.lt_of_lt_of_le A28.lt (Nat.le_of_eq g78.symm))
                  have ne_ad5_ad78 : ad5 ≠ ad78 := Nat.ne_of_lt (Nat.lt_of_lt_of_le A5.lt (Nat.le_of_eq g78.symm))
                  have A5 := A5.ext E78
                  have A12 := A12.ext E78
                  have A28 := A28.ext E78
                  have Z78 := Nat.le_trans Z41 E78.1
                  have ge_ad78 : n0 ≤ ad78 := Nat.le_trans Z41 (Nat.le_of_eq g78.symm)
                  have A78 : Ar Z h78 ad78 .int [] := A78
                  refine eAStore X78 hx (hb hby at_280) rfl (L' := #[.val (.int p1), .val (.int p2), .val (.int p3), .val (.int p4), .val (.int v4_2), .val (.int v5_3), .val (.int v6_4), .val (.ref ad5), .val (.ref ad12), .val (.ref ad28), .val (.int v10_42), .val (.int v11_43), .val (.int v12_44), .val (.int v13_45), .val (.ref ad78), .unset, .unset, .unset, .unset, .unset, .unset]) rfl rfl ?_
                  refine eGoto X78 hx (hb hby at_282) (by decide) (pc' := 348) rfl ?_
                  exact HJ47 ad78 [] _ _ _ (Nat.le_of_ble_eq_true rfl) own_bdn (X78.more (by decide) (by decide)) N41 e78 Z78 A5 A12 A28 A78
                · rw [if_neg c77]
                  refine eIfY X41 hx (hb hby at_274) ((if0 _ _).trans (feq c77).2) (by decide) (pc' := 285) rfl ?_
                  refine eILoad X41 hx (hb hby at_285) rfl rfl ?_
                  refine eIConst X41 hx (1 : Int32) (hb hby at_287) rfl rfl ?_
                  show Ends p e below (PVW s 40 192 n0 (if v10_42 = (1 : Int32) then (f0_348 v4_2 v5_3 v6_4 vs26 vs27 v10_42 v11_43 v12_44 v13_45 vs46 [v11_43]) else (if v10_42 = (2 : Int32) then (f0_348 v4_2 v5_3 v6_4 vs26 vs27 v10_42 v11_43 v12_44 v13_45 vs46 [v11_43, v12_44]) else (f0_348 v4_2 v5_3 v6_4 vs26 vs27 v10_42 v11_43 v12_44 v13_45 vs46 [v11_43, v12_44, v13_45])))) T41 m 288 #[.val (.int p1), .val (.int p2), .val (.int p3), .val (.int p4), .val (.int v4_2), .val (.int v5_3), .val (.int v6_4), .val (.ref ad5), .val (.ref ad12), .val (.ref ad28), .val (.int v10_42), .val (.int v11_43), .val (.int v12_44), .val (.int v13_45), .unset, .unset, .unset, .unset, .unset, .unset, .unset] [(.int (1 : Int32)), (.int v10_42)]
                  by_cases c79 : v10_42 = (1 : Int32)
                  · rw [if_pos c79]
                    refine eIcmpN X41 hx (hb hby at_288) (teq c79).2 rfl ?_
                    refine eIConst X41 hx (1 : Int32) (hb hby at_291) rfl rfl ?_
                    refine eNewA X41 hx hZ rfl rfl (hw _ (List.mem_of_getElem? (i := 0) rfl)) e41 (hb hby at_292) (by decide) (cap := 1) (by decide) (by decide) (by decide) (by decide) rfl (fun T80 h80 ad80 g80 X80 e80 E80 A80 => ?_)
                    have ne_ad12_ad80 : ad12 ≠ ad80 := Nat.ne_of_lt (Nat.lt_of_lt_of_le A12.lt (Nat.le_of_eq g80.symm))
                    have ne_ad28_ad80 : ad28 ≠ ad80 := Nat.ne_of_lt (Nat.lt_of_lt_of_le A28.lt (Nat.le_of_eq g80.symm))
                    have ne_ad5_ad80 : ad5 ≠ ad80 := Nat.ne_of_lt (Nat.lt_of_lt_of_le A5.lt (Nat.le_of_eq g80.symm))
                    have A5 := A5.ext E80
                    have A12 := A12.ext E80
                    have A28 := A28.ext E80
                    have Z80 := Nat.le_trans Z41 E80.1
                    have ge_ad80 : n0 ≤ ad80 := Nat.le_trans Z41 (Nat.le_of_eq g80.symm)
                    have A80 : Ar Z h80 ad80 .int [(0 : Int32)] := A80
                    refine eDup X80 hx (hb hby at_294) rfl rfl ?_
                    refine eIConst X80 hx (0 : Int32) (hb hby at_295) rfl rfl ?_
                    refine eILoad X80 hx (hb hby at_296) rfl rfl ?_
                    refine eIAStore X80 hx hZ e80 A80 (inbL (n := 1) rfl (by decide)) (hb hby at_298) rfl (fun T81 h81 X81 e81 W81 B81 => ?_)
                    have A5 := A5.other W81 ne_ad5_ad80
                    have A12 := A12.other W81 ne_ad12_ad80
                    have A28 := A28.other W81 ne_ad28_ad80
                    have A80 : Ar Z h81 ad80 .int [v11_43] := B81
                    have N81 := Fr.snoc X81 N41 ge_ad80
                    have Z81 := Nat.le_trans Z80 (Keep.of_wr W81).1
                    refine eAStore X81 hx (hb hby at_299) rfl (L' := #[.val (.int p1), .val (.int p2), .val (.int p3), .val (.int p4), .val (.int v4_2), .val (.int v5_3), .val (.int v6_4), .val (.ref ad5), .val (.ref ad12), .val (.ref ad28), .val (.int v10_42), .val (.int v11_43), .val (.int v12_44), .val (.int v13_45), .val (.ref ad80), .unset, .unset, .unset, .unset, .unset, .unset]) rfl rfl ?_
                    refine eGoto X81 hx (hb hby at_301) (by decide) (pc' := 348) rfl ?_
                    exact HJ47 ad80 [v11_43] _ _ _ (Nat.le_of_ble_eq_true rfl) (own_bdc hst.1 own_bdn) (X81.more (by decide) (by decide)) N81 e81 Z81 A5 A12 A28 A80
                  · rw [if_neg c79]
                    refine eIcmpY X41 hx (hb hby at_288) (feq c79).2 (by decide) (pc' := 304) rfl ?_
                    refine eILoad X41 hx (hb hby at_304) rfl rfl ?_
                    refine eIConst X41 hx (2 : Int32) (hb hby at_306) rfl rfl ?_
                    show Ends p e below (PVW s 40 192 n0 (if v10_42 = (2 : Int32) then (f0_348 v4_2 v5_3 v6_4 vs26 vs27 v10_42 v11_43 v12_44 v13_45 vs46 [v11_43, v12_44]) else (f0_348 v4_2 v5_3 v6_4 vs26 vs27 v10_42 v11_43 v12_44 v13_45 vs46 [v11_43, v12_44, v13_45]))) T41 m 307 #[.val (.int p1), .val (.int p2), .val (.int p3), .val (.int p4), .val (.int v4_2), .val (.int v5_3), .val (.int v6_4), .val (.ref ad5), .val (.ref ad12), .val (.ref ad28), .val (.int v10_42), .val (.int v11_43), .val (.int v12_44), .val (.int v13_45), .unset, .unset, .unset, .unset, .unset, .unset, .unset] [(.int (2 : Int32)), (.int v10_42)]
                    by_cases c82 : v10_42 = (2 : Int32)
                    · rw [if_pos c82]
                      refine eIcmpN X41 hx (hb hby at_307) (teq c82).2 rfl ?_
                      refine eIConst X41 hx (2 : Int32) (hb hby at_310) rfl rfl ?_
                      refine eNewA X41 hx hZ rfl rfl (hw _ (List.mem_of_getElem? (i := 0) rfl)) e41 (hb hby at_311) (by decide) (cap := 2) (by decide) (by decide) (by decide) (by decide) rfl (fun T83 h83 ad83 g83 X83 e83 E83 A83 => ?_)
                      have ne_ad12_ad83 : ad12 ≠ ad83 := Nat.ne_of_lt (Nat.lt_of_lt_of_le A12.lt (Nat.le_of_eq g83.symm))
                      have ne_ad28_ad83 : ad28 ≠ ad83 := Nat.ne_of_lt (Nat.lt_of_lt_of_le A28.lt (Nat.le_of_eq g83.symm))
                      have ne_ad5_ad83 : ad5 ≠ ad83 := Nat.ne_of_lt (Nat.lt_of_lt_of_le A5.lt (Nat.le_of_eq g83.symm))
                      have A5 := A5.ext E83
                      have A12 := A12.ext E83
                      have A28 := A28.ext E83
                      have Z83 := Nat.le_trans Z41 E83.1
                      have ge_ad83 : n0 ≤ ad83 := Nat.le_trans Z41 (Nat.le_of_eq g83.symm)
                      have A83 : Ar Z h83 ad83 .int [(0 : Int32), (0 : Int32)] := A83
                      refine eDup X83 hx (hb hby at_313) rfl rfl ?_
                      refine eIConst X83 hx (0 : Int32) (hb hby at_314) rfl rfl ?_
                      refine eILoad X83 hx (hb hby at_315) rfl rfl ?_
                      refine eIAStore X83 hx hZ e83 A83 (inbL (n := 2) rfl (by decide)) (hb hby at_317) rfl (fun T84 h84 X84 e84 W84 B84 => ?_)
                      have A5 := A5.other W84 ne_ad5_ad83
                      have A12 := A12.other W84 ne_ad12_ad83
                      have A28 := A28.other W84 ne_ad28_ad83
                      have A83 : Ar Z h84 ad83 .int [v11_43, (0 : Int32)] := B84
                      have N84 := Fr.snoc X84 N41 ge_ad83
                      have Z84 := Nat.le_trans Z83 (Keep.of_wr W84).1
                      refine eDup X84 hx (hb hby at_318) rfl rfl ?_
                      refine eIConst X84 hx (1 : Int32) (hb hby at_319) rfl rfl ?_
                      refine eILoad X84 hx (hb hby at_320) rfl rfl ?_
                      refine eIAStore X84 hx hZ e84 A83 (inbL (n := 2) rfl (by decide)) (hb hby at_322) rfl (fun T85 h85 X85 e85 W85 B85 => ?_)
                      have A5 := A5.other W85 ne_ad5_ad83
                      have A12 := A12.other W85 ne_ad12_ad83
                      have A28 := A28.other W85 ne_ad28_ad83
                      have A83 : Ar Z h85 ad83 .int [v11_43, v12_44] := B85
                      have N85 := Fr.snoc X85 N84 ge_ad83
                      have Z85 := Nat.le_trans Z84 (Keep.of_wr W85).1
                      refine eAStore X85 hx (hb hby at_323) rfl (L' := #[.val (.int p1), .val (.int p2), .val (.int p3), .val (.int p4), .val (.int v4_2), .val (.int v5_3), .val (.int v6_4), .val (.ref ad5), .val (.ref ad12), .val (.ref ad28), .val (.int v10_42), .val (.int v11_43), .val (.int v12_44), .val (.int v13_45), .val (.ref ad83), .unset, .unset, .unset, .unset, .unset, .unset]) rfl rfl ?_
                      refine eGoto X85 hx (hb hby at_325) (by decide) (pc' := 348) rfl ?_
                      exact HJ47 ad83 [v11_43, v12_44] _ _ _ (Nat.le_of_ble_eq_true rfl) (own_bdc hst.1 (own_bdc hst.2.1 own_bdn)) (X85.more (by decide) (by decide)) N85 e85 Z85 A5 A12 A28 A83
                    · rw [if_neg c82]
                      refine eIcmpY X41 hx (hb hby at_307) (feq c82).2 (by decide) (pc' := 328) rfl ?_
                      refine eIConst X41 hx (3 : Int32) (hb hby at_328) rfl rfl ?_
                      refine eNewA X41 hx hZ rfl rfl (hw _ (List.mem_of_getElem? (i := 0) rfl)) e41 (hb hby at_329) (by decide) (cap := 3) (by decide) (by decide) (by decide) (by decide) rfl (fun T86 h86 ad86 g86 X86 e86 E86 A86 => ?_)
                      have ne_ad12_ad86 : ad12 ≠ ad86 := Nat.ne_of_lt (Nat.lt_of_lt_of_le A12.lt (Nat.le_of_eq g86.symm))
                      have ne_ad28_ad86 : ad28 ≠ ad86 := Nat.ne_of_lt (Nat.lt_of_lt_of_le A28.lt (Nat.le_of_eq g86.symm))
                      have ne_ad5_ad86 : ad5 ≠ ad86 := Nat.ne_of_lt (Nat.lt_of_lt_of_le A5.lt (Nat.le_of_eq g86.symm))
                      have A5 := A5.ext E86
                      have A12 := A12.ext E86
                      have A28 := A28.ext E86
                      have Z86 := Nat.le_trans Z41 E86.1
                      have ge_ad86 : n0 ≤ ad86 := Nat.le_trans Z41 (Nat.le_of_eq g86.symm)
                      have A86 : Ar Z h86 ad86 .int [(0 : Int32), (0 : Int32), (0 : Int32)] := A86
                      refine eDup X86 hx (hb hby at_331) rfl rfl ?_
                      refine eIConst X86 hx (0 : Int32) (hb hby at_332) rfl rfl ?_
                      refine eILoad X86 hx (hb hby at_333) rfl rfl ?_
                      refine eIAStore X86 hx hZ e86 A86 (inbL (n := 3) rfl (by decide)) (hb hby at_335) rfl (fun T87 h87 X87 e87 W87 B87 => ?_)
                      have A5 := A5.other W87 ne_ad5_ad86
                      have A12 := A12.other W87 ne_ad12_ad86
                      have A28 := A28.other W87 ne_ad28_ad86
                      have A86 : Ar Z h87 ad86 .int [v11_43, (0 : Int32), (0 : Int32)] := B87
                      have N87 := Fr.snoc X87 N41 ge_ad86
                      have Z87 := Nat.le_trans Z86 (Keep.of_wr W87).1
                      refine eDup X87 hx (hb hby at_336) rfl rfl ?_
                      refine eIConst X87 hx (1 : Int32) (hb hby at_337) rfl rfl ?_
                      refine eILoad X87 hx (hb hby at_338) rfl rfl ?_
                      refine eIAStore X87 hx hZ e87 A86 (inbL (n := 3) rfl (by decide)) (hb hby at_340) rfl (fun T88 h88 X88 e88 W88 B88 => ?_)
                      have A5 := A5.other W88 ne_ad5_ad86
                      have A12 := A12.other W88 ne_ad12_ad86
                      have A28 := A28.other W88 ne_ad28_ad86
                      have A86 : Ar Z h88 ad86 .int [v11_43, v12_44, (0 : Int32)] := B88
                      have N88 := Fr.snoc X88 N87 ge_ad86
                      have Z88 := Nat.le_trans Z87 (Keep.of_wr W88).1
                      refine eDup X88 hx (hb hby at_341) rfl rfl ?_
                      refine eIConst X88 hx (2 : Int32) (hb hby at_342) rfl rfl ?_
                      refine eILoad X88 hx (hb hby at_343) rfl rfl ?_
                      refine eIAStore X88 hx hZ e88 A86 (inbL (n := 3) rfl (by decide)) (hb hby at_345) rfl (fun T89 h89 X89 e89 W89 B89 => ?_)
                      have A5 := A5.other W89 ne_ad5_ad86
                      have A12 := A12.other W89 ne_ad12_ad86
                      have A28 := A28.other W89 ne_ad28_ad86
                      have A86 : Ar Z h89 ad86 .int [v11_43, v12_44, v13_45] := B89
                      have N89 := Fr.snoc X89 N88 ge_ad86
                      have Z89 := Nat.le_trans Z88 (Keep.of_wr W89).1
                      refine eAStore X89 hx (hb hby at_346) rfl (L' := #[.val (.int p1), .val (.int p2), .val (.int p3), .val (.int p4), .val (.int v4_2), .val (.int v5_3), .val (.int v6_4), .val (.ref ad5), .val (.ref ad12), .val (.ref ad28), .val (.int v10_42), .val (.int v11_43), .val (.int v12_44), .val (.int v13_45), .val (.ref ad86), .unset, .unset, .unset, .unset, .unset, .unset]) rfl rfl ?_
                      exact HJ47 ad86 [v11_43, v12_44, v13_45] _ _ _ (Nat.le_of_ble_eq_true rfl) (own_bdc hst.1 (own_bdc hst.2.1 (own_bdc hst.2.2 own_bdn))) (X89.more (by decide) (by decide)) N89 e89 Z89 A5 A12 A28 A86
              exact LP41 (p4 &&& (3 : Int32)) (((p4.toUInt32 >>> ((2 : Int32) &&& 31).toUInt32).toInt32) &&& (3 : Int32)) (((p4.toUInt32 >>> ((4 : Int32) &&& 31).toUInt32).toInt32) &&& (3 : Int32)) (((p4.toUInt32 >>> ((6 : Int32) &&& 31).toUInt32).toInt32) &&& (3 : Int32)) [(nar .boolean t29), (nar .boolean t32), (nar .boolean t35), (nar .boolean t38)] _ _ _ rfl ⟨own_m3 _, own_m3 _, own_m3 _⟩ X40 N40 e40 Z40 A5 A12 A28
            show Ends p e below (PVW s 40 192 n0 (if (p3 &&& (8 : Int32)) = (0 : Int32) then (f0_242 p4 v4_2 v5_3 v6_4 vs26 vs27 t29 t32 t35 (0 : Int32)) else (f0_242 p4 v4_2 v5_3 v6_4 vs26 vs27 t29 t32 t35 (1 : Int32)))) T37 m 234 #[.val (.int p1), .val (.int p2), .val (.int p3), .val (.int p4), .val (.int v4_2), .val (.int v5_3), .val (.int v6_4), .val (.ref ad5), .val (.ref ad12), .unset, .unset, .unset, .unset, .unset, .unset, .unset, .unset, .unset, .unset, .unset, .unset] [(.int (p3 &&& (8 : Int32))), (.int (3 : Int32)), (.ref ad28), (.ref ad28)]
            by_cases c90 : (p3 &&& (8 : Int32)) = (0 : Int32)
            · rw [if_pos c90]
              refine eIfY X37 hx (hb hby at_234) ((if0 _ _).trans (teq c90).1) (by decide) (pc' := 241) rfl ?_
              refine eIConst X37 hx (0 : Int32) (hb hby at_241) rfl rfl ?_
              exact K242_39 (0 : Int32) T37 _ X37 N37 e37
            · rw [if_neg c90]
              refine eIfN X37 hx (hb hby at_234) ((if0 _ _).trans (feq c90).1) rfl ?_
              refine eIConst X37 hx (1 : Int32) (hb hby at_237) rfl rfl ?_
              refine eGoto X37 hx (hb hby at_238) (by decide) (pc' := 242) rfl ?_
              exact K242_39 (1 : Int32) T37 _ X37 N37 e37
          show Ends p e below (PVW s 40 192 n0 (if (p3 &&& (4 : Int32)) = (0 : Int32) then (f0_227 p3 p4 v4_2 v5_3 v6_4 vs26 vs27 t29 t32 (0 : Int32)) else (f0_227 p3 p4 v4_2 v5_3 v6_4 vs26 vs27 t29 t32 (1 : Int32)))) T34 m 219 #[.val (.int p1), .val (.int p2), .val (.int p3), .val (.int p4), .val (.int v4_2), .val (.int v5_3), .val (.int v6_4), .val (.ref ad5), .val (.ref ad12), .unset, .unset, .unset, .unset, .unset, .unset, .unset, .unset, .unset, .unset, .unset, .unset] [(.int (p3 &&& (4 : Int32))), (.int (2 : Int32)), (.ref ad28), (.ref ad28)]
          by_cases c91 : (p3 &&& (4 : Int32)) = (0 : Int32)
          · rw [if_pos c91]
            refine eIfY X34 hx (hb hby at_219) ((if0 _ _).trans (teq c91).1) (by decide) (pc' := 226) rfl ?_
            refine eIConst X34 hx (0 : Int32) (hb hby at_226) rfl rfl ?_
            exact K227_36 (0 : Int32) T34 _ X34 N34 e34
          · rw [if_neg c91]
            refine eIfN X34 hx (hb hby at_219) ((if0 _ _).trans (feq c91).1) rfl ?_
            refine eIConst X34 hx (1 : Int32) (hb hby at_222) rfl rfl ?_
            refine eGoto X34 hx (hb hby at_223) (by decide) (pc' := 227) rfl ?_
            exact K227_36 (1 : Int32) T34 _ X34 N34 e34
        show Ends p e below (PVW s 40 192 n0 (if (p3 &&& (2 : Int32)) = (0 : Int32) then (f0_213 p3 p4 v4_2 v5_3 v6_4 vs26 vs27 t29 (0 : Int32)) else (f0_213 p3 p4 v4_2 v5_3 v6_4 vs26 vs27 t29 (1 : Int32)))) T31 m 205 #[.val (.int p1), .val (.int p2), .val (.int p3), .val (.int p4), .val (.int v4_2), .val (.int v5_3), .val (.int v6_4), .val (.ref ad5), .val (.ref ad12), .unset, .unset, .unset, .unset, .unset, .unset, .unset, .unset, .unset, .unset, .unset, .unset] [(.int (p3 &&& (2 : Int32))), (.int (1 : Int32)), (.ref ad28), (.ref ad28)]
        by_cases c92 : (p3 &&& (2 : Int32)) = (0 : Int32)
        · rw [if_pos c92]
          refine eIfY X31 hx (hb hby at_205) ((if0 _ _).trans (teq c92).1) (by decide) (pc' := 212) rfl ?_
          refine eIConst X31 hx (0 : Int32) (hb hby at_212) rfl rfl ?_
          exact K213_33 (0 : Int32) T31 _ X31 N31 e31
        · rw [if_neg c92]
          refine eIfN X31 hx (hb hby at_205) ((if0 _ _).trans (feq c92).1) rfl ?_
          refine eIConst X31 hx (1 : Int32) (hb hby at_208) rfl rfl ?_
          refine eGoto X31 hx (hb hby at_209) (by decide) (pc' := 213) rfl ?_
          exact K213_33 (1 : Int32) T31 _ X31 N31 e31
      show Ends p e below (PVW s 40 192 n0 (if (p3 &&& (1 : Int32)) = (0 : Int32) then (f0_199 p3 p4 v4_2 v5_3 v6_4 vs26 vs27 (0 : Int32)) else (f0_199 p3 p4 v4_2 v5_3 v6_4 vs26 vs27 (1 : Int32)))) T28 m 191 #[.val (.int p1), .val (.int p2), .val (.int p3), .val (.int p4), .val (.int v4_2), .val (.int v5_3), .val (.int v6_4), .val (.ref ad5), .val (.ref ad12), .unset, .unset, .unset, .unset, .unset, .unset, .unset, .unset, .unset, .unset, .unset, .unset] [(.int (p3 &&& (1 : Int32))), (.int (0 : Int32)), (.ref ad28), (.ref ad28)]
      by_cases c93 : (p3 &&& (1 : Int32)) = (0 : Int32)
      · rw [if_pos c93]
        refine eIfY X28 hx (hb hby at_191) ((if0 _ _).trans (teq c93).1) (by decide) (pc' := 198) rfl ?_
        refine eIConst X28 hx (0 : Int32) (hb hby at_198) rfl rfl ?_
        exact K199_30 (0 : Int32) T28 _ X28 N25 e28
      · rw [if_neg c93]
        refine eIfN X28 hx (hb hby at_191) ((if0 _ _).trans (feq c93).1) rfl ?_
        refine eIConst X28 hx (1 : Int32) (hb hby at_194) rfl rfl ?_
        refine eGoto X28 hx (hb hby at_195) (by decide) (pc' := 199) rfl ?_
        exact K199_30 (1 : Int32) T28 _ X28 N25 e28
    exact LP25 [(p2 &&& (3 : Int32)), (((p2.toUInt32 >>> ((2 : Int32) &&& 31).toUInt32).toInt32) &&& (3 : Int32)), (((p2.toUInt32 >>> ((4 : Int32) &&& 31).toUInt32).toInt32) &&& (3 : Int32)), (((p2.toUInt32 >>> ((6 : Int32) &&& 31).toUInt32).toInt32) &&& (3 : Int32)), (((p2.toUInt32 >>> ((8 : Int32) &&& 31).toUInt32).toInt32) &&& (3 : Int32)), (((p2.toUInt32 >>> ((10 : Int32) &&& 31).toUInt32).toInt32) &&& (3 : Int32))] [(fSrc_0 (0 : Int32) v4_2 v5_3 v6_4), (fSrc_0 (1 : Int32) v4_2 v5_3 v6_4), (fSrc_0 (2 : Int32) v4_2 v5_3 v6_4), (fSrc_0 (3 : Int32) v4_2 v5_3 v6_4), (fSrc_0 (4 : Int32) v4_2 v5_3 v6_4), (fSrc_0 (5 : Int32) v4_2 v5_3 v6_4)] _ _ _ rfl (own_t6 p2) rfl (own_s6 _ _ _) X24 N24 e24 Z24 A5 A12
  exact LP1 ((p1 &&& (7 : Int32)) % (7 : Int32)) (((p1 &&& (7 : Int32)) % (7 : Int32)) + ((((p1.toUInt32 >>> ((3 : Int32) &&& 31).toUInt32).toInt32) &&& (7 : Int32)) % ((7 : Int32) - ((p1 &&& (7 : Int32)) % (7 : Int32))))) ((((p1 &&& (7 : Int32)) % (7 : Int32)) + ((((p1.toUInt32 >>> ((3 : Int32) &&& 31).toUInt32).toInt32) &&& (7 : Int32)) % ((7 : Int32) - ((p1 &&& (7 : Int32)) % (7 : Int32))))) + ((((p1.toUInt32 >>> ((6 : Int32) &&& 31).toUInt32).toInt32) &&& (7 : Int32)) % ((7 : Int32) - (((p1 &&& (7 : Int32)) % (7 : Int32)) + ((((p1.toUInt32 >>> ((3 : Int32) &&& 31).toUInt32).toInt32) &&& (7 : Int32)) % ((7 : Int32) - ((p1 &&& (7 : Int32)) % (7 : Int32)))))))) _ _ (own_cuts p1) X0 N0 e0
def E6 (x : Int32) : Prop := 0 ≤ x.toInt ∧ x.toInt < 6
def V4 (x : Int32) : Prop := 0 ≤ x.toInt ∧ x.toInt < 4
def On (r : List Int32) (v : Int32) : Prop := ¬ (rd r v = 0)
theorem own_six {x : Int32} (h : E6 x) : x = 0 ∨ x = 1 ∨ x = 2 ∨ x = 3 ∨ x = 4 ∨ x = 5 := by
  unfold E6 at h
  simp only [← Int32.toInt_inj, Int32.reduceToInt]; omega
theorem own_e0 : E6 0 := by unfold E6; decide
theorem own_e1 : E6 1 := by unfold E6; decide
theorem own_e2 : E6 2 := by unfold E6; decide
theorem own_e3 : E6 3 := by unfold E6; decide
theorem own_e4 : E6 4 := by unfold E6; decide
theorem own_e5 : E6 5 := by unfold E6; decide
theorem own_rw {l : List Int32} (hl : l.length = 4) {i j x : Int32} (hi : V4 i) (hj : V4 j) : rd (wr l i x) j = if j = i then x else rd l j := by
  obtain ⟨a, b, c, d, rfl⟩ := own_l4 hl
  rcases own_four hi with rfl | rfl | rfl | rfl <;> rcases own_four hj with rfl | rfl | rfl | rfl <;> rfl
theorem own_rwe {l : List Int32} (hl : l.length = 4) {i x : Int32} (hi : V4 i) : rd (wr l i x) i = x := by rw [own_rw hl hi hi, if_pos rfl]
theorem own_rwn {l : List Int32} (hl : l.length = 4) {i j x : Int32} (hi : V4 i) (hj : V4 j) (h : ¬ j = i) : rd (wr l i x) j = rd l j := by rw [own_rw hl hi hj, if_neg h]
/-- what next() says -/
def Nx (S T W r : List Int32) (v : Int32) : Prop := On r v ∨ ((∃ e, E6 e ∧ rd T e = v) ∧ ((On W v ∧ ∀ e, E6 e → rd T e = v → On r (rd S e)) ∨ (¬ On W v ∧ ∃ e, E6 e ∧ rd T e = v ∧ On r (rd S e))))
theorem own_from (v e : Int32) (S T r : List Int32) : fFrom_0 v e S T r = 0 ↔ ¬ (rd T e = v ∧ On r (rd S e)) := by
  unfold fFrom_0 On
  split
  · rename_i h
    split
    · rename_i h2; simp [h, h2]
    · rename_i h2; simp [h, h2]
  · rename_i h; simp [h]
theorem own_edge (v e : Int32) (S T r : List Int32) : fEdge_0 v e S T r = 0 ↔ ¬ (rd T e = v → On r (rd S e)) := by
  unfold fEdge_0 On
  split
  · rename_i h
    split
    · rename_i h2; simp [h, h2]
    · rename_i h2; simp [h, h2]
  · rename_i h; simp [h]
theorem own_into (v e : Int32) (T : List Int32) : fInto_0 v e T = 0 ↔ ¬ rd T e = v := by
  unfold fInto_0
  split <;> simp [*]
theorem own_all6 {P : Int32 → Prop} (h0 : P 0) (h1 : P 1) (h2 : P 2) (h3 : P 3) (h4 : P 4) (h5 : P 5) : ∀ e, E6 e → P e := by
  intro e he
  rcases own_six he with rfl | rfl | rfl | rfl | rfl | rfl <;> assumption
theorem own_ifs {P : Int32 → Prop} (a : Int32 → Int32) (ha : ∀ e, a e = 0 ↔ ¬ P e) : ((if a 0 = 0 then if a 1 = 0 then if a 2 = 0 then if a 3 = 0 then if a 4 = 0 then if a 5 = 0 then (0 : Int32) else 1 else 1 else 1 else 1 else 1 else 1) = 0 ∧ ∀ e, E6 e → ¬ P e) ∨ ((if a 0 = 0 then if a 1 = 0 then if a 2 = 0 then if a 3 = 0 then if a 4 = 0 then if a 5 = 0 then (0 : Int32) else 1 else 1 else 1 else 1 else 1 else 1) = 1 ∧ ∃ e, E6 e ∧ P e) := by
  by_cases h0 : a 0 = 0
  · rw [if_pos h0]
    by_cases h1 : a 1 = 0
    · rw [if_pos h1]
      by_cases h2 : a 2 = 0
      · rw [if_pos h2]
        by_cases h3 : a 3 = 0
        · rw [if_pos h3]
          by_cases h4 : a 4 = 0
          · rw [if_pos h4]
            by_cases h5 : a 5 = 0
            · rw [if_pos h5]
              exact Or.inl ⟨rfl, own_all6 ((ha _).mp h0) ((ha _).mp h1) ((ha _).mp h2) ((ha _).mp h3) ((ha _).mp h4) ((ha _).mp h5)⟩
            · rw [if_neg h5]; exact Or.inr ⟨rfl, 5, own_e5, Classical.byContradiction fun q => h5 ((ha _).mpr q)⟩
          · rw [if_neg h4]; exact Or.inr ⟨rfl, 4, own_e4, Classical.byContradiction fun q => h4 ((ha _).mpr q)⟩
        · rw [if_neg h3]; exact Or.inr ⟨rfl, 3, own_e3, Classical.byContradiction fun q => h3 ((ha _).mpr q)⟩
      · rw [if_neg h2]; exact Or.inr ⟨rfl, 2, own_e2, Classical.byContradiction fun q => h2 ((ha _).mpr q)⟩
    · rw [if_neg h1]; exact Or.inr ⟨rfl, 1, own_e1, Classical.byContradiction fun q => h1 ((ha _).mpr q)⟩
  · rw [if_neg h0]; exact Or.inr ⟨rfl, 0, own_e0, Classical.byContradiction fun q => h0 ((ha _).mpr q)⟩
theorem own_some (v : Int32) (S T r : List Int32) : (fSome_0 v S T r = 0 ∧ ∀ e, E6 e → ¬ (rd T e = v ∧ On r (rd S e))) ∨ (fSome_0 v S T r = 1 ∧ ∃ e, E6 e ∧ (rd T e = v ∧ On r (rd S e))) := own_ifs (fun e => fFrom_0 v e S T r) (fun e => own_from v e S T r)
theorem own_has (v : Int32) (T : List Int32) : (fHas_0 v T = 0 ∧ ∀ e, E6 e → ¬ rd T e = v) ∨ (fHas_0 v T = 1 ∧ ∃ e, E6 e ∧ rd T e = v) := own_ifs (fun e => fInto_0 v e T) (fun e => own_into v e T)
theorem own_all (v : Int32) (S T r : List Int32) : (fAll_0 v S T r = 0 ∧ ∃ e, E6 e ∧ ¬ (rd T e = v → On r (rd S e))) ∨ (fAll_0 v S T r = 1 ∧ ∀ e, E6 e → (rd T e = v → On r (rd S e))) := by
  unfold fAll_0
  have ha := fun e => own_edge v e S T r
  by_cases h0 : fEdge_0 v 0 S T r = 0
  · rw [if_pos h0]; exact Or.inl ⟨rfl, 0, own_e0, (ha _).mp h0⟩
  rw [if_neg h0]
  by_cases h1 : fEdge_0 v 1 S T r = 0
  · rw [if_pos h1]; exact Or.inl ⟨rfl, 1, own_e1, (ha _).mp h1⟩
  rw [if_neg h1]
  by_cases h2 : fEdge_0 v 2 S T r = 0
  · rw [if_pos h2]; exact Or.inl ⟨rfl, 2, own_e2, (ha _).mp h2⟩
  rw [if_neg h2]
  by_cases h3 : fEdge_0 v 3 S T r = 0
  · rw [if_pos h3]; exact Or.inl ⟨rfl, 3, own_e3, (ha _).mp h3⟩
  rw [if_neg h3]
  by_cases h4 : fEdge_0 v 4 S T r = 0
  · rw [if_pos h4]; exact Or.inl ⟨rfl, 4, own_e4, (ha _).mp h4⟩
  rw [if_neg h4]
  by_cases h5 : fEdge_0 v 5 S T r = 0
  · rw [if_pos h5]; exact Or.inl ⟨rfl, 5, own_e5, (ha _).mp h5⟩
  rw [if_neg h5]
  have k : ∀ e, ¬ fEdge_0 v e S T r = 0 → (rd T e = v → On r (rd S e)) := fun e h => Classical.byContradiction fun q => h ((ha e).mpr q)
  exact Or.inr ⟨rfl, own_all6 (k _ h0) (k _ h1) (k _ h2) (k _ h3) (k _ h4) (k _ h5)⟩
theorem own_nb0 : nar .boolean 0 = 0 := by decide
theorem own_nb1 : nar .boolean 1 = 1 := by decide
theorem own_next (v : Int32) (S T W r : List Int32) : (fNext_0 v S T W r = 0 ∧ ¬ Nx S T W r v) ∨ (fNext_0 v S T W r = 1 ∧ Nx S T W r v) := by
  unfold fNext_0
  by_cases h : rd r v = 0
  · rw [if_pos h]
    have hn : ¬ On r v := fun q => q h
    rcases own_has v T with ⟨e1, e2⟩ | ⟨e1, e2⟩
    · rw [e1, if_pos rfl]
      refine Or.inl ⟨rfl, fun q => ?_⟩
      rcases q with q | ⟨⟨e, q1, q2⟩, -⟩
      · exact hn q
      · exact e2 e q1 q2
    · rw [e1, if_neg (by decide)]
      by_cases hw : rd W v = 0
      · rw [if_pos hw]
        have hwn : ¬ On W v := fun q => q hw
        rcases own_some v S T r with ⟨s1, s2⟩ | ⟨s1, s2⟩
        · rw [s1, own_nb0]
          refine Or.inl ⟨rfl, fun q => ?_⟩
          rcases q with q | ⟨-, ⟨q, -⟩ | ⟨-, e, q1, q2⟩⟩
          · exact hn q
          · exact hwn q
          · exact s2 e q1 q2
        · rw [s1, own_nb1]
          exact Or.inr ⟨rfl, Or.inr ⟨e2, Or.inr ⟨hwn, s2⟩⟩⟩
      · rw [if_neg hw]
        rcases own_all v S T r with ⟨s1, e, s2, s3⟩ | ⟨s1, s2⟩
        · rw [s1, own_nb0]
          refine Or.inl ⟨rfl, fun q => ?_⟩
          rcases q with q | ⟨-, ⟨-, q⟩ | ⟨q, -⟩⟩
          · exact hn q
          · exact s3 (q e s2)
          · exact q hw
        · rw [s1, own_nb1]
          exact Or.inr ⟨rfl, Or.inr ⟨e2, Or.inl ⟨hw, s2⟩⟩⟩
  · rw [if_neg h]
    exact Or.inr ⟨rfl, Or.inl h⟩
theorem own_nnb (v : Int32) (S T W r : List Int32) : nar .boolean (fNext_0 v S T W r) = fNext_0 v S T W r := by
  rcases own_next v S T W r with ⟨h, -⟩ | ⟨h, -⟩ <;> rw [h] <;> decide
theorem own_stp (S T W r : List Int32) {v : Int32} (hv : V4 v) : rd (fStep_0 S T W r) v = fNext_0 v S T W r := by
  unfold fStep_0
  simp only [own_nnb]
  rcases own_four hv with rfl | rfl | rfl | rfl <;> rfl
theorem own_stpN (S T W r : List Int32) {v : Int32} (hv : V4 v) : On (fStep_0 S T W r) v ↔ Nx S T W r v := by
  unfold On
  rw [own_stp S T W r hv]
  rcases own_next v S T W r with ⟨h, q⟩ | ⟨h, q⟩
  · rw [h]; exact ⟨fun z => absurd rfl z, fun z => absurd z q⟩
  · rw [h]; exact ⟨fun _ => q, fun _ => by decide⟩
def Sk (S T W r0 : List Int32) : Nat → List Int32
  | 0 => r0
  | k + 1 => fStep_0 S T W (Sk S T W r0 k)
theorem own_sk1 (S T W r0 : List Int32) (k : Nat) {v : Int32} (hv : V4 v) (h : On (Sk S T W r0 k) v) : On (Sk S T W r0 (k + 1)) v := (own_stpN S T W _ hv).mpr (Or.inl h)
theorem own_skm (S T W r0 : List Int32) {k k' : Nat} (hk : k ≤ k') {v : Int32} (hv : V4 v) (h : On (Sk S T W r0 k) v) : On (Sk S T W r0 k') v := by
  induction hk with
  | refl => exact h
  | step _ ih => exact own_sk1 S T W r0 _ hv ih
theorem own_nxm {S T W r r' : List Int32} (hS : ∀ e, E6 e → V4 (rd S e)) (m : ∀ v, V4 v → On r v → On r' v) {v : Int32} (hv : V4 v) (h : Nx S T W r v) : Nx S T W r' v := by
  rcases h with h | ⟨h1, ⟨h2, h3⟩ | ⟨h2, e, h3, h4, h5⟩⟩
  · exact Or.inl (m v hv h)
  · exact Or.inr ⟨h1, Or.inl ⟨h2, fun e he ht => m _ (hS e he) (h3 e he ht)⟩⟩
  · exact Or.inr ⟨h1, Or.inr ⟨h2, e, h3, h4, m _ (hS e h3) h5⟩⟩
def cn (P : Int32 → Bool) : Int := (if P 0 then 1 else 0) + (if P 1 then 1 else 0) + (if P 2 then 1 else 0) + (if P 3 then 1 else 0) + (if P 4 then 1 else 0) + (if P 5 then 1 else 0)
def eT (T : List Int32) (v : Int32) : Int32 → Bool := fun x => decide (rd T x = v)
def pT (T : List Int32) (v : Int32) (P : Int32 → Bool) : Int32 → Bool := fun x => P x && decide (rd T x = v)
def upd (P : Int32 → Bool) (e : Int32) : Int32 → Bool := fun x => P x || decide (x = e)
theorem own_tle (p d : Bool) : (if (p && d) then (1 : Int) else 0) ≤ (if d then 1 else 0) := by cases p <;> cases d <;> decide
theorem own_tlt (d : Bool) (hd : d = true) : (if (false && d) then (1 : Int) else 0) + 1 ≤ (if d then 1 else 0) := by subst hd; decide
theorem own_cnU (T : List Int32) (v : Int32) (P : Int32 → Bool) {e : Int32} (he : E6 e) (hP : P e = false) : cn (pT T v (upd P e)) = cn (pT T v P) + (if rd T e = v then 1 else 0) := by
  rcases own_six he with rfl | rfl | rfl | rfl | rfl | rfl <;> simp [cn, pT, upd, hP] <;> omega
theorem own_cnF (T : List Int32) (v : Int32) : cn (pT T v (fun _ => false)) = 0 := by simp [cn, pT]
theorem own_cnle (T : List Int32) (v : Int32) (P : Int32 → Bool) : cn (pT T v P) ≤ cn (eT T v) := by
  have h0 := own_tle (P 0) (decide (rd T 0 = v))
  have h1 := own_tle (P 1) (decide (rd T 1 = v))
  have h2 := own_tle (P 2) (decide (rd T 2 = v))
  have h3 := own_tle (P 3) (decide (rd T 3 = v))
  have h4 := own_tle (P 4) (decide (rd T 4 = v))
  have h5 := own_tle (P 5) (decide (rd T 5 = v))
  unfold cn pT eT
  omega
theorem own_cnlt (T : List Int32) (v : Int32) (P : Int32 → Bool) {x : Int32} (hx : E6 x) (hT : rd T x = v) (hP : P x = false) : cn (pT T v P) < cn (eT T v) := by
  have h0 := own_tle (P 0) (decide (rd T 0 = v))
  have h1 := own_tle (P 1) (decide (rd T 1 = v))
  have h2 := own_tle (P 2) (decide (rd T 2 = v))
  have h3 := own_tle (P 3) (decide (rd T 3 = v))
  have h4 := own_tle (P 4) (decide (rd T 4 = v))
  have h5 := own_tle (P 5) (decide (rd T 5 = v))
  have k := own_tlt (decide (rd T x = v)) (decide_eq_true hT)
  rw [← hP] at k
  unfold cn pT eT
  rcases own_six hx with rfl | rfl | rfl | rfl | rfl | rfl <;> omega
theorem own_cnE {T : List Int32} {v : Int32} {P : Int32 → Bool} (h : cn (pT T v P) = cn (eT T v)) : ∀ x, E6 x → rd T x = v → P x = true := by
  intro x hx hT
  cases hP : P x with
  | true => rfl
  | false => have := own_cnlt T v P hx hT hP; omega
theorem own_cneq {T : List Int32} {v : Int32} {P : Int32 → Bool} (h : ∀ x, E6 x → rd T x = v → P x = true) : cn (pT T v P) = cn (eT T v) := by
  have k : ∀ x, E6 x → (P x && decide (rd T x = v)) = decide (rd T x = v) := by
    intro x hx
    by_cases q : rd T x = v
    · rw [h x hx q]; simp
    · simp [q]
  unfold cn pT eT
  rw [k 0 own_e0, k 1 own_e1, k 2 own_e2, k 3 own_e3, k 4 own_e4, k 5 own_e5]
theorem own_cnpos {T : List Int32} {v : Int32} (h : ∃ e, E6 e ∧ rd T e = v) : 0 < cn (eT T v) := by
  obtain ⟨e, he, ht⟩ := h
  have := own_cnlt T v (fun _ => false) he ht rfl
  rw [own_cnF] at this
  exact this
theorem own_cn6 (P : Int32 → Bool) : 0 ≤ cn P ∧ cn P ≤ 6 := by
  unfold cn
  (repeat' split) <;> omega
/-- the marks and the queue -/
def MQ (S T W r0 z : List Int32) (n : Int32) (r q : List Int32) : Prop := BQ r q n ∧
  (∀ v, V4 v → (On r v ↔ ∃ j : Int32, 0 ≤ j.toInt ∧ j.toInt < n.toInt ∧ rd q j = v)) ∧
  (∀ i j : Int32, 0 ≤ i.toInt → i.toInt < j.toInt → j.toInt < n.toInt → ¬ rd q i = rd q j) ∧
  (∀ j : Int32, 0 ≤ j.toInt → j.toInt < n.toInt → On (Sk S T W r0 j.toInt.toNat) (rd q j)) ∧
  (∀ v, V4 v → On z v → On r v)
/-- what is still needed -/
def NdI (T W : List Int32) (P : Int32 → Bool) (r N : List Int32) : Prop := N.length = 4 ∧
  (∀ v, V4 v → On W v → ¬ On r v → (rd N v).toInt = cn (eT T v) - cn (pT T v P) ∧ ((∃ e, E6 e ∧ rd T e = v) → 0 < (rd N v).toInt)) ∧
  (∀ v, V4 v → ¬ On W v → ¬ On r v → ∀ e, E6 e → P e = true → ¬ rd T e = v)
theorem own_onw {r : List Int32} (hr : r.length = 4) {t v : Int32} (ht : V4 t) (hv : V4 v) : On (wr r t 1) v ↔ (v = t ∨ On r v) := by
  unfold On
  rw [own_rw hr ht hv]
  by_cases h : v = t
  · rw [if_pos h]; exact ⟨fun _ => Or.inl h, fun _ => by decide⟩
  · rw [if_neg h]; exact ⟨fun q => Or.inr q, fun q => q.elim (fun z => absurd z h) id⟩
theorem own_qv {r q : List Int32} {n j : Int32} (B : BQ r q n) (h0 : 0 ≤ j.toInt) (h1 : j.toInt < n.toInt) : V4 j ∧ V4 (rd q j) := by
  have hn := own_bqn B
  have hj : V4 j := ⟨h0, by omega⟩
  exact ⟨hj, own_bd B.2.2.2.1 (own_lit B.2.1 hj.1 (by have := hj.2; omega))⟩
theorem MQ.add {S T W r0 z : List Int32} {n : Int32} {r q : List Int32} (M : MQ S T W r0 z n r q) {t : Int32} (ht : V4 t) (hn : ¬ On r t) (hs : On (Sk S T W r0 n.toInt.toNat) t) : (n + 1).toInt = n.toInt + 1 ∧ MQ S T W r0 z (n + 1) (wr r t 1) (wr q n t) ∧ ∀ j : Int32, 0 ≤ j.toInt → j.toInt < n.toInt → rd (wr q n t) j = rd q j := by
  obtain ⟨B, m3, m4, m7, m9⟩ := M
  have hz : rd r t = 0 := Classical.byContradiction hn
  obtain ⟨b1, b2, B'⟩ := own_bq B ht hz
  have hb := own_bqn B
  have hnV : V4 n := ⟨hb.1, b1⟩
  have old : ∀ j : Int32, 0 ≤ j.toInt → j.toInt < n.toInt → rd (wr q n t) j = rd q j := by
    intro j h0 h1
    exact own_rwn B.2.1 hnV ⟨h0, by omega⟩ (fun e => by rw [e] at h1; omega)
  have new : rd (wr q n t) n = t := own_rwe B.2.1 hnV
  have jc : ∀ j : Int32, 0 ≤ j.toInt → j.toInt < (n + 1).toInt → j.toInt < n.toInt ∨ j = n := by
    intro j h0 h1
    by_cases e : j.toInt = n.toInt
    · exact Or.inr (Int32.toInt_inj.mp e)
    · exact Or.inl (by omega)
  refine ⟨b2, ⟨B', ?_, ?_, ?_, ?_⟩, old⟩
  · intro v hv
    rw [own_onw B.1 ht hv, m3 v hv]
    constructor
    · rintro (rfl | ⟨j, h0, h1, h2⟩)
      · exact ⟨n, hb.1, by omega, new⟩
      · exact ⟨j, h0, by omega, by rw [old j h0 h1]; exact h2⟩
    · rintro ⟨j, h0, h1, h2⟩
      rcases jc j h0 h1 with h | rfl
      · exact Or.inr ⟨j, h0, h, by rw [← old j h0 h]; exact h2⟩
      · exact Or.inl (h2.symm.trans new)
  · intro i j h0 h1 h2
    rcases jc j (by omega) h2 with h | rfl
    · rw [old i h0 (by omega), old j (by omega) h]; exact m4 i j h0 h1 h
    · rw [old i h0 h1, new]
      intro e
      exact hn ((m3 t ht).mpr ⟨i, h0, h1, e⟩)
  · intro j h0 h1
    rcases jc j h0 h1 with h | rfl
    · rw [old j h0 h]; exact m7 j h0 h
    · rw [new]; exact hs
  · intro v hv h
    exact (own_onw B.1 ht hv).mpr (Or.inr (m9 v hv h))
theorem own_updT {P : Int32 → Bool} {e x : Int32} (h : upd P e x = true) : P x = true ∨ x = e := by
  unfold upd at h
  rcases Bool.or_eq_true_iff.mp h with h | h
  · exact Or.inl h
  · exact Or.inr (of_decide_eq_true h)
theorem own_updI {P : Int32 → Bool} {e x : Int32} (h : P x = true ∨ x = e) : upd P e x = true := by
  unfold upd
  rcases h with h | h
  · rw [h]; rfl
  · rw [decide_eq_true h]; exact Bool.or_true _
theorem NdI.same {T W : List Int32} {P : Int32 → Bool} {r N : List Int32} (D : NdI T W P r N) {e : Int32} (he : E6 e) (hP : P e = false) (ho : On r (rd T e)) : NdI T W (upd P e) r N := by
  obtain ⟨d1, d2, d3⟩ := D
  refine ⟨d1, fun v hv hw hn => ?_, fun v hv hw hn x hx hp ht => ?_⟩
  · have hne : ¬ rd T e = v := fun q => hn (q ▸ ho)
    rw [own_cnU T v P he hP, if_neg hne, Int.add_zero]
    exact d2 v hv hw hn
  · rcases own_updT hp with h | h
    · exact d3 v hv hw hn x hx h ht
    · rw [h] at ht; exact hn (ht ▸ ho)
theorem NdI.mark {T W : List Int32} {P : Int32 → Bool} {r N : List Int32} (hr : r.length = 4) (D : NdI T W P r N) {e : Int32} (he : E6 e) (hP : P e = false) (hv : V4 (rd T e)) : NdI T W (upd P e) (wr r (rd T e) 1) N := by
  obtain ⟨d1, d2, d3⟩ := D
  refine ⟨d1, fun v hv' hw hn => ?_, fun v hv' hw hn x hx hp ht => ?_⟩
  · rw [own_onw hr hv hv'] at hn
    have hne : ¬ rd T e = v := fun q => hn (Or.inl q.symm)
    rw [own_cnU T v P he hP, if_neg hne, Int.add_zero]
    exact d2 v hv' hw (fun q => hn (Or.inr q))
  · rw [own_onw hr hv hv'] at hn
    rcases own_updT hp with h | h
    · exact d3 v hv' hw (fun q => hn (Or.inr q)) x hx h ht
    · rw [h] at ht; exact hn (Or.inl ht.symm)
theorem own_dec1 {x : Int32} (h : 0 < x.toInt) : (x - 1).toInt = x.toInt - 1 := by
  have a := c_isub x 1
  have r := rng32 (x - 1)
  have r2 := rng32 x
  simp only [Int32.reduceToInt] at a
  omega
theorem NdI.down {T W : List Int32} {P : Int32 → Bool} {r N : List Int32} (D : NdI T W P r N) {e : Int32} (he : E6 e) (hP : P e = false) (hv : V4 (rd T e)) (hw : On W (rd T e)) (hn : ¬ On r (rd T e)) (hp : (0 : Int32) < rd N (rd T e) - 1) : NdI T W (upd P e) r (wr N (rd T e) (rd N (rd T e) - 1)) := by
  obtain ⟨d1, d2, d3⟩ := D
  have k := d2 _ hv hw hn
  have k2 := k.2 ⟨e, he, rfl⟩
  refine ⟨by rw [own_wl]; exact d1, fun v hv' hw' hn' => ?_, fun v hv' hw' hn' x hx hp' ht => ?_⟩
  · rw [own_cnU T v P he hP, own_rw d1 hv hv']
    by_cases q : v = rd T e
    · subst q
      rw [if_pos rfl, if_pos rfl]
      rw [Int32.lt_iff_toInt_lt] at hp
      simp only [Int32.reduceToInt] at hp
      refine ⟨?_, fun _ => hp⟩
      rw [own_dec1 k2, k.1]; omega
    · rw [if_neg q, if_neg (fun z => q z.symm), Int.add_zero]
      exact d2 v hv' hw' hn'
  · rcases own_updT hp' with h | h
    · exact d3 v hv' hw' hn' x hx h ht
    · rw [h] at ht; rw [← ht] at hw'; exact hw' hw
theorem NdI.last {T W : List Int32} {P : Int32 → Bool} {r N : List Int32} (hr : r.length = 4) (D : NdI T W P r N) {e : Int32} (he : E6 e) (hP : P e = false) (hv : V4 (rd T e)) (hw : On W (rd T e)) (hn : ¬ On r (rd T e)) (hp : ¬ (0 : Int32) < rd N (rd T e) - 1) :
    NdI T W (upd P e) (wr r (rd T e) 1) (wr N (rd T e) (rd N (rd T e) - 1)) ∧ ∀ x, E6 x → rd T x = rd T e → upd P e x = true := by
  have D' := NdI.mark hr D he hP hv
  obtain ⟨d1, d2, d3⟩ := D
  have k := d2 _ hv hw hn
  have k2 := k.2 ⟨e, he, rfl⟩
  rw [Int32.lt_iff_toInt_lt] at hp
  simp only [Int32.reduceToInt] at hp
  rw [own_dec1 k2] at hp
  refine ⟨⟨by rw [own_wl]; exact d1, fun v hv' hw' hn' => ?_, D'.2.2⟩, ?_⟩
  · have q : ¬ v = rd T e := fun z => hn' ((own_onw hr hv hv').mpr (Or.inl z))
    rw [own_rwn d1 hv hv' q]
    exact D'.2.1 v hv' hw' hn'
  · apply own_cnE
    have u := own_cnU T (rd T e) P he hP
    rw [if_pos rfl] at u
    have l := own_cnle T (rd T e) (upd P e)
    omega
/-- the edges of a node are those between its first and the next one's first -/
def FS (F S : List Int32) : Prop := ∀ u, V4 u → (0 ≤ (rd F u).toInt ∧ (rd F u).toInt ≤ (rd F (u + 1)).toInt ∧ (rd F (u + 1)).toInt ≤ 6) ∧ ∀ e, E6 e → (rd S e = u ↔ ((rd F u).toInt ≤ e.toInt ∧ e.toInt < (rd F (u + 1)).toInt))
/-- between two turns of the outer loop -/
def OutI (S T W r0 : List Int32) (h : Int32) (P : Int32 → Bool) (n : Int32) (r q N : List Int32) : Prop := MQ S T W r0 r0 n r q ∧ NdI T W P r N ∧ (0 ≤ h.toInt ∧ h.toInt ≤ n.toInt) ∧
  (∀ x, E6 x → P x = true → ∃ j : Int32, 0 ≤ j.toInt ∧ j.toInt < h.toInt ∧ rd q j = rd S x) ∧
  (∀ (j x : Int32), 0 ≤ j.toInt → j.toInt < h.toInt → E6 x → rd S x = rd q j → P x = true)
/-- within a turn -/
def InI (S T W r0 : List Int32) (h u : Int32) (P : Int32 → Bool) (n e : Int32) (r q N : List Int32) : Prop := MQ S T W r0 r0 n r q ∧ NdI T W P r N ∧ (0 ≤ h.toInt ∧ h.toInt < n.toInt ∧ rd q h = u) ∧ 0 ≤ e.toInt ∧
  (∀ x, E6 x → P x = true → ∃ j : Int32, 0 ≤ j.toInt ∧ j.toInt ≤ h.toInt ∧ rd q j = rd S x) ∧
  (∀ (j x : Int32), 0 ≤ j.toInt → j.toInt < h.toInt → E6 x → rd S x = rd q j → P x = true) ∧
  (∀ x, E6 x → rd S x = u → (P x = true ↔ x.toInt < e.toInt))
theorem own_e1' {e : Int32} (h : e.toInt < 6) (h0 : 0 ≤ e.toInt) : (e + 1).toInt = e.toInt + 1 := by
  have a := c_iadd e 1
  have r := rng32 (e + 1)
  simp only [Int32.reduceToInt] at a
  omega
/-- one edge more is done: the bookkeeping of which edges are done -/
theorem own_edgeK {S : List Int32} {h u e : Int32} {P : Int32 → Bool} {q q' : List Int32} (he : E6 e) (hs : rd S e = u) (hq : rd q h = u) (h0 : 0 ≤ h.toInt) (old : ∀ j : Int32, 0 ≤ j.toInt → j.toInt ≤ h.toInt → rd q' j = rd q j)
    (i5 : ∀ x, E6 x → P x = true → ∃ j : Int32, 0 ≤ j.toInt ∧ j.toInt ≤ h.toInt ∧ rd q j = rd S x) (i6 : ∀ (j x : Int32), 0 ≤ j.toInt → j.toInt < h.toInt → E6 x → rd S x = rd q j → P x = true) (i7 : ∀ x, E6 x → rd S x = u → (P x = true ↔ x.toInt < e.toInt)) :
    (∀ x, E6 x → upd P e x = true → ∃ j : Int32, 0 ≤ j.toInt ∧ j.toInt ≤ h.toInt ∧ rd q' j = rd S x) ∧ (∀ (j x : Int32), 0 ≤ j.toInt → j.toInt < h.toInt → E6 x → rd S x = rd q' j → upd P e x = true) ∧ (∀ x, E6 x → rd S x = u → (upd P e x = true ↔ x.toInt < (e + 1).toInt)) := by
  have e1 := own_e1' he.2 he.1
  refine ⟨fun x hx hp => ?_, fun j x j0 j1 hx ht => ?_, fun x hx ht => ?_⟩
  · rcases own_updT hp with k | k
    · obtain ⟨j, j0, j1, j2⟩ := i5 x hx k
      exact ⟨j, j0, j1, by rw [old j j0 j1]; exact j2⟩
    · refine ⟨h, h0, Int.le_refl _, ?_⟩
      rw [old h h0 (Int.le_refl _), k, hs]; exact hq
  · rw [old j j0 (by omega)] at ht
    exact own_updI (Or.inl (i6 j x j0 j1 hx ht))
  · constructor
    · intro hp
      rcases own_updT hp with k | k
      · have := (i7 x hx ht).mp k; omega
      · rw [k]; omega
    · intro hl
      by_cases k : x.toInt = e.toInt
      · exact own_updI (Or.inr (Int32.toInt_inj.mp k))
      · exact own_updI (Or.inl ((i7 x hx ht).mpr (by omega)))
theorem own_bb (h : Bool) (q : ¬ h = true) : h = false := by cases h; rfl; exact absurd rfl q
theorem own_inner {F S T W r0 : List Int32} (fs : FS F S) (hT : ∀ e, E6 e → V4 (rd T e)) (hS : ∀ e, E6 e → V4 (rd S e)) (g : Int32 → Int32 → Int32 → Int32 → List Int32 → List Int32 → List Int32 → List Int32) (h : Int32) (qh : List Int32) (hu : V4 (rd qh h)) :
    ∀ (k : Nat) (n e : Int32) (r q N : List Int32) (P : Int32 → Bool), InI S T W r0 h (rd qh h) P n e r q N → (rd F (rd qh h)).toInt ≤ e.toInt → ((rd F (rd qh h + 1)).toInt - e.toInt).toNat < k →
      ∃ (n' e' : Int32) (r' q' N' : List Int32) (P' : Int32 → Bool), OutI S T W r0 (h + 1) P' n' r' q' N' ∧ (h + 1).toInt = h.toInt + 1 ∧ fRe_154 g F T W h qh k n e r q N = g n' (h + 1) (rd qh h) e' r' q' N' := by
  intro k
  induction k with
  | zero => intro n e r q N P _ _ hk; exact absurd hk (Nat.not_lt_zero _)
  | succ k ih =>
    intro n e r q N P I hf hk
    obtain ⟨M, D, ⟨h0, h1, h2⟩, he0, i5, i6, i7⟩ := I
    obtain ⟨⟨f1, f2, f3⟩, f4⟩ := fs _ hu
    have hn := own_bqn M.1
    by_cases c : e < rd F (rd qh h + 1)
    · have c' := c
      rw [Int32.lt_iff_toInt_lt] at c'
      have hE : E6 e := ⟨he0, by omega⟩
      have e1 := own_e1' hE.2 hE.1
      have hk' : ((rd F (rd qh h + 1)).toInt - (e + 1).toInt).toNat < k := by omega
      have hs : rd S e = rd qh h := (f4 e hE).mpr ⟨hf, c'⟩
      · have hP : P e = false := own_bb _ (fun q => by have := (i7 e hE hs).mp q; omega)
        have ht := hT e hE
        have same := own_edgeK hE hs h2 h0 (fun j _ _ => rfl) i5 i6 i7
        by_cases c1 : rd r (rd T e) = 0
        · have hn1 : ¬ On r (rd T e) := fun z => z c1
          -- it may be marked
          have add : On (Sk S T W r0 n.toInt.toNat) (rd T e) → ∀ N', NdI T W (upd P e) (wr r (rd T e) 1) N' → ∃ (n' e' : Int32) (r' q' N'' : List Int32) (P' : Int32 → Bool), OutI S T W r0 (h + 1) P' n' r' q' N'' ∧ (h + 1).toInt = h.toInt + 1 ∧ fRe_154 g F T W h qh k (n + 1) (e + 1) (wr r (rd T e) 1) (wr q n (rd T e)) N' = g n' (h + 1) (rd qh h) e' r' q' N'' := by
            intro hsk N' hN
            obtain ⟨a1, a2, a3⟩ := MQ.add M ht hn1 hsk
            have kk := own_edgeK hE hs h2 h0 (q' := wr q n (rd T e)) (fun j j0 j1 => a3 j j0 (by omega)) i5 i6 i7
            exact ih _ _ _ _ _ _ ⟨a2, hN, ⟨h0, by omega, by rw [a3 h h0 h1]; exact h2⟩, by omega, kk.1, kk.2.1, kk.2.2⟩ (by omega) hk'
          have skh : On (Sk S T W r0 h.toInt.toNat) (rd S e) := by rw [hs, ← h2]; exact M.2.2.2.1 h h0 h1
          have up : Nx S T W (Sk S T W r0 h.toInt.toNat) (rd T e) → On (Sk S T W r0 n.toInt.toNat) (rd T e) := fun z =>
            own_skm S T W r0 (k := h.toInt.toNat + 1) (by omega) ht ((own_stpN S T W _ ht).mpr z)
          by_cases c2 : rd W (rd T e) = 0
          · have eq : fRe_154 g F T W h qh (k + 1) n e r q N = fRe_154 g F T W h qh k (n + 1) (e + 1) (wr r (rd T e) 1) (wr q n (rd T e)) N := by
              show (if e < rd F (rd qh h + 1) then _ else _) = _
              rw [if_pos c, if_pos c1, if_pos c2]
            rw [eq]
            exact add (up (Or.inr ⟨⟨e, hE, rfl⟩, Or.inr ⟨fun z => z c2, e, hE, rfl, skh⟩⟩)) N (NdI.mark M.1.1 D hE hP ht)
          · by_cases c3 : (0 : Int32) < rd N (rd T e) - 1
            · have eq : fRe_154 g F T W h qh (k + 1) n e r q N = fRe_154 g F T W h qh k n (e + 1) r q (wr N (rd T e) (rd N (rd T e) - 1)) := by
                show (if e < rd F (rd qh h + 1) then _ else _) = _
                rw [if_pos c, if_pos c1, if_neg c2, if_pos c3]
              rw [eq]
              exact ih _ _ _ _ _ _ ⟨M, NdI.down D hE hP ht c2 hn1 c3, ⟨h0, h1, h2⟩, by omega, same.1, same.2.1, same.2.2⟩ (by omega) hk'
            · have eq : fRe_154 g F T W h qh (k + 1) n e r q N = fRe_154 g F T W h qh k (n + 1) (e + 1) (wr r (rd T e) 1) (wr q n (rd T e)) (wr N (rd T e) (rd N (rd T e) - 1)) := by
                show (if e < rd F (rd qh h + 1) then _ else _) = _
                rw [if_pos c, if_pos c1, if_neg c2, if_neg c3]
              rw [eq]
              obtain ⟨l1, l2⟩ := NdI.last M.1.1 D hE hP ht c2 hn1 c3
              refine add (up (Or.inr ⟨⟨e, hE, rfl⟩, Or.inl ⟨c2, fun x hx hxt => ?_⟩⟩)) _ l1
              obtain ⟨j, j0, j1, j2⟩ := same.1 x hx (l2 x hx hxt)
              rw [← j2]
              exact own_skm S T W r0 (by omega) (own_qv M.1 j0 (by omega)).2 (M.2.2.2.1 j j0 (by omega))
        · have eq : fRe_154 g F T W h qh (k + 1) n e r q N = fRe_154 g F T W h qh k n (e + 1) r q N := by
            show (if e < rd F (rd qh h + 1) then _ else _) = _
            rw [if_pos c, if_neg c1]
          rw [eq]
          exact ih _ _ _ _ _ _ ⟨M, NdI.same D hE hP c1, ⟨h0, h1, h2⟩, by omega, same.1, same.2.1, same.2.2⟩ (by omega) hk'
    · have c' := c
      rw [Int32.lt_iff_toInt_lt] at c'
      have h3 : (h + 1).toInt = h.toInt + 1 := own_e1' (by omega) h0
      refine ⟨n, e, r, q, N, P, ⟨M, D, ⟨by omega, by omega⟩, fun x hx hp => ?_, fun j x j0 j1 hx hxt => ?_⟩, h3, ?_⟩
      · obtain ⟨j, j0, j1, j2⟩ := i5 x hx hp
        exact ⟨j, j0, by omega, j2⟩
      · by_cases q1 : j.toInt = h.toInt
        · have q2 : j = h := Int32.toInt_inj.mp q1
          rw [q2, h2] at hxt
          have := (f4 x hx).mp hxt
          exact (i7 x hx hxt).mpr (by omega)
        · exact i6 j x j0 (by omega) hx hxt
      · show (if e < rd F (rd qh h + 1) then _ else _) = _
        rw [if_neg c]
def FinI (S T W r0 r : List Int32) : Prop := (∃ n q, MQ S T W r0 r0 n r q) ∧ ∀ v, V4 v → Nx S T W r v → On r v
theorem own_outer {F S T W r0 : List Int32} (fs : FS F S) (hT : ∀ e, E6 e → V4 (rd T e)) (hS : ∀ e, E6 e → V4 (rd S e)) :
    ∀ (k : Nat) (n h v8 v9 : Int32) (r q N : List Int32) (P : Int32 → Bool), OutI S T W r0 h P n r q N → (4 - h.toInt).toNat < k → FinI S T W r0 (fRe_131 F T W k n h v8 v9 r q N) := by
  intro k
  induction k with
  | zero => intro n h v8 v9 r q N P _ hk; exact absurd hk (Nat.not_lt_zero _)
  | succ k ih =>
    intro n h v8 v9 r q N P O hk
    obtain ⟨M, D, ⟨h0, h1⟩, o4, o5⟩ := O
    have hn := own_bqn M.1
    by_cases c : h < n
    · have c' := c
      rw [Int32.lt_iff_toInt_lt] at c'
      have hu : V4 (rd q h) := (own_qv M.1 h0 c').2
      obtain ⟨⟨f1, f2, f3⟩, f4⟩ := fs _ hu
      obtain ⟨n', e', r', q', N', P', O', hh, eq⟩ := own_inner fs hT hS (fun y0 y1 y2 y3 y4 y5 y6 => fRe_131 F T W k y0 y1 y2 y3 y4 y5 y6) h q hu 7 n (rd F (rd q h)) r q N P
        ⟨M, D, ⟨h0, c', rfl⟩, f1, fun x hx hp => by obtain ⟨j, j0, j1, j2⟩ := o4 x hx hp; exact ⟨j, j0, by omega, j2⟩, o5, fun x hx hxt => by
          constructor
          · intro hp
            obtain ⟨j, j0, j1, j2⟩ := o4 x hx hp
            exact absurd (j2.trans hxt) (M.2.2.1 j h j0 j1 c')
          · intro hl
            have := (f4 x hx).mp hxt
            omega⟩ (Int.le_refl _) (by omega)
      have e1 : fRe_131 F T W (k + 1) n h v8 v9 r q N = fRe_131 F T W k n' (h + 1) (rd q h) e' r' q' N' := by
        show (if h < n then _ else _) = _
        rw [if_pos c]
        exact eq
      rw [e1]
      exact ih _ _ _ _ _ _ _ _ O' (by omega)
    · have c' := c
      rw [Int32.lt_iff_toInt_lt] at c'
      have e1 : fRe_131 F T W (k + 1) n h v8 v9 r q N = r := by
        show (if h < n then _ else _) = _
        rw [if_neg c]
      rw [e1]
      refine ⟨⟨n, q, M⟩, fun v hv hx => ?_⟩
      have pr : ∀ x, E6 x → On r (rd S x) → P x = true := by
        intro x hx hr
        obtain ⟨j, j0, j1, j2⟩ := (M.2.1 _ (hS x hx)).mp hr
        exact o5 j x j0 (by omega) hx j2.symm
      refine Classical.byContradiction fun hn' => ?_
      rcases hx with hx | ⟨h2, ⟨hw, h3⟩ | ⟨hw, x, h3, h4, h5⟩⟩
      · exact hn' hx
      · have d := D.2.1 v hv hw hn'
        have p0 := d.2 h2
        have := own_cneq (P := P) (T := T) (v := v) (fun x hx hxt => pr x hx (h3 x hx hxt))
        omega
      · exact D.2.2 v hv hw hn' x h3 (pr x h3 h5) h4
theorem own_cnc {P Q : Int32 → Bool} (h : ∀ x, E6 x → P x = Q x) : cn P = cn Q := by
  unfold cn
  rw [h 0 own_e0, h 1 own_e1, h 2 own_e2, h 3 own_e3, h 4 own_e4, h 5 own_e5]
def ltb (i : Int32) : Int32 → Bool := fun x => decide (x.toInt < i.toInt)
theorem own_ltu {T : List Int32} {v i : Int32} (hi : E6 i) : cn (pT T v (ltb (i + 1))) = cn (pT T v (ltb i)) + (if rd T i = v then 1 else 0) := by
  have e1 := own_e1' hi.2 hi.1
  rw [← own_cnU T v (ltb i) hi (by simp [ltb])]
  apply own_cnc
  intro x hx
  have : ltb (i + 1) x = upd (ltb i) i x := by
    unfold ltb upd
    by_cases q : x = i
    · subst q
      rw [decide_eq_true (show x.toInt < (x + 1).toInt by omega), decide_eq_true (show x = x from rfl), Bool.or_true]
    · have q' : ¬ x.toInt = i.toInt := fun z => q (Int32.toInt_inj.mp z)
      rw [decide_eq_false q, Bool.or_false]
      exact decide_eq_decide.mpr (by omega)
  unfold pT
  rw [this]
theorem own_inc1 {x : Int32} (h0 : 0 ≤ x.toInt) (h : x.toInt < 100) : (x + 1).toInt = x.toInt + 1 := by
  have a := c_iadd x 1
  have r := rng32 (x + 1)
  simp only [Int32.reduceToInt] at a
  omega
theorem own_count {F T W : List Int32} (hT : ∀ e, E6 e → V4 (rd T e)) (n : Int32) (r q : List Int32) :
    ∀ (k : Nat) (i : Int32) (N : List Int32), 0 ≤ i.toInt → i.toInt ≤ 6 → (6 - i.toInt).toNat < k → N.length = 4 → (∀ v, V4 v → On W v → (rd N v).toInt = cn (pT T v (ltb i))) →
      ∃ (N' : List Int32) (v9 : Int32), N'.length = 4 ∧ (∀ v, V4 v → On W v → (rd N' v).toInt = cn (eT T v)) ∧ fRe_92 F T W n r q k i N = fRe_131 F T W 5 n 0 6 v9 r q N' := by
  intro k
  induction k with
  | zero => intro i N _ _ hk; exact absurd hk (Nat.not_lt_zero _)
  | succ k ih =>
    intro i N i0 i6 hk hl hN
    by_cases c : i < 6
    · have c' := c
      rw [Int32.lt_iff_toInt_lt] at c'
      simp only [Int32.reduceToInt] at c'
      have hE : E6 i := ⟨i0, c'⟩
      have e1 := own_e1' c' i0
      by_cases c1 : rd W (rd T i) = 0
      · have eq : fRe_92 F T W n r q (k + 1) i N = fRe_92 F T W n r q k (i + 1) N := by
          show (if i < 6 then _ else _) = _
          rw [if_pos c, if_pos c1]
        rw [eq]
        refine ih _ _ (by omega) (by omega) (by omega) hl (fun v hv hw => ?_)
        have : ¬ rd T i = v := fun z => hw (z ▸ c1)
        rw [own_ltu hE, if_neg this, Int.add_zero]
        exact hN v hv hw
      · have eq : fRe_92 F T W n r q (k + 1) i N = fRe_92 F T W n r q k (i + 1) (wr N (rd T i) (rd N (rd T i) + 1)) := by
          show (if i < 6 then _ else _) = _
          rw [if_pos c, if_neg c1]
        rw [eq]
        refine ih _ _ (by omega) (by omega) (by omega) (by rw [own_wl]; exact hl) (fun v hv hw => ?_)
        rw [own_ltu hE, own_rw hl (hT i hE) hv]
        by_cases q1 : v = rd T i
        · subst q1
          rw [if_pos rfl, if_pos rfl]
          have k1 := hN _ hv hw
          have k2 := own_cn6 (pT T (rd T i) (ltb i))
          rw [own_inc1 (by omega) (by omega), k1]
        · rw [if_neg q1, if_neg (fun z => q1 z.symm), Int.add_zero]
          exact hN v hv hw
    · have c' := c
      rw [Int32.lt_iff_toInt_lt] at c'
      simp only [Int32.reduceToInt] at c'
      refine ⟨N, i, hl, fun v hv hw => ?_, ?_⟩
      · rw [hN v hv hw]
        exact own_cneq (fun x hx _ => decide_eq_true (by have := hx.2; omega))
      · show (if i < 6 then _ else _) = _
        rw [if_neg c]
theorem own_begin {F S T W r0 z St : List Int32} (hl : St.length ≤ 3) (hSt : ∀ i : Int32, 0 ≤ i.toInt → i.toInt < St.length → V4 (rd St i) ∧ On r0 (rd St i)) :
    ∀ (k : Nat) (n i : Int32) (r q : List Int32), 0 ≤ i.toInt → (St.length - i.toInt).toNat < k → MQ S T W r0 z n r q → (∀ j : Int32, 0 ≤ j.toInt → j.toInt < i.toInt → j.toInt < St.length → On r (rd St j)) →
      ∃ (n' : Int32) (r' q' : List Int32), MQ S T W r0 z n' r' q' ∧ (∀ j : Int32, 0 ≤ j.toInt → j.toInt < St.length → On r' (rd St j)) ∧ fRe_30 F T W St k n i r q = fRe_92 F T W n' r' q' 7 0 [0, 0, 0, 0] := by
  have hL : (Int32.ofNat St.length).toInt = St.length := own_ofn hl
  intro k
  induction k with
  | zero => intro n i r q _ hk; exact absurd hk (Nat.not_lt_zero _)
  | succ k ih =>
    intro n i r q i0 hk M hd
    by_cases c : i < Int32.ofNat St.length
    · have c' := c
      rw [Int32.lt_iff_toInt_lt, hL] at c'
      have e1 := own_inc1 i0 (by omega)
      obtain ⟨s1, s2⟩ := hSt i i0 c'
      by_cases c1 : rd r (rd St i) = 0
      · have eq : fRe_30 F T W St (k + 1) n i r q = fRe_30 F T W St k (n + 1) (i + 1) (wr r (rd St i) 1) (wr q n (rd St i)) := by
          show (if i < Int32.ofNat St.length then _ else _) = _
          rw [if_pos c, if_pos c1]
        rw [eq]
        obtain ⟨a1, a2, a3⟩ := MQ.add M s1 (fun z => z c1) (own_skm S T W r0 (Nat.zero_le _) s1 s2)
        refine ih _ _ _ _ (by omega) (by omega) a2 (fun j j0 j1 j2 => ?_)
        rw [own_onw M.1.1 s1 (hSt j j0 j2).1]
        by_cases q1 : j.toInt = i.toInt
        · rw [Int32.toInt_inj.mp q1]; exact Or.inl rfl
        · exact Or.inr (hd j j0 (by omega) j2)
      · have eq : fRe_30 F T W St (k + 1) n i r q = fRe_30 F T W St k n (i + 1) r q := by
          show (if i < Int32.ofNat St.length then _ else _) = _
          rw [if_pos c, if_neg c1]
        rw [eq]
        refine ih _ _ _ _ (by omega) (by omega) M (fun j j0 j1 j2 => ?_)
        by_cases q1 : j.toInt = i.toInt
        · rw [Int32.toInt_inj.mp q1]; exact c1
        · exact hd j j0 (by omega) j2
    · have c' := c
      rw [Int32.lt_iff_toInt_lt, hL] at c'
      refine ⟨n, r, q, M, fun j j0 j1 => hd j j0 (by omega) j1, ?_⟩
      show (if i < Int32.ofNat St.length then _ else _) = _
      rw [if_neg c]
theorem own_zero {v : Int32} (hv : V4 v) : ¬ On [(0 : Int32), 0, 0, 0] v := by
  intro h
  apply h
  rcases own_four hv with rfl | rfl | rfl | rfl <;> rfl
theorem own_reach {F S T W r0 St : List Int32} (fs : FS F S) (hT : ∀ e, E6 e → V4 (rd T e)) (hS : ∀ e, E6 e → V4 (rd S e)) (hl : St.length ≤ 3) (hSt : ∀ i : Int32, 0 ≤ i.toInt → i.toInt < St.length → V4 (rd St i) ∧ On r0 (rd St i)) (hr0 : ∀ v, V4 v → On r0 v → ∃ i : Int32, 0 ≤ i.toInt ∧ i.toInt < St.length ∧ rd St i = v) :
    FinI S T W r0 (fRe_0 F T W St) := by
  have M0 : MQ S T W r0 [(0 : Int32), 0, 0, 0] 0 [(0 : Int32), 0, 0, 0] [(0 : Int32), 0, 0, 0] :=
    ⟨⟨rfl, rfl, own_z4 _ (by decide), own_z4 _ (by decide), by decide⟩, fun v hv => ⟨fun h => absurd h (own_zero hv), fun ⟨j, j0, j1, _⟩ => by simp only [Int32.reduceToInt] at j1; omega⟩, fun i j i0 ij j1 => by simp only [Int32.reduceToInt] at j1; omega, fun j j0 j1 => by simp only [Int32.reduceToInt] at j1; omega, fun v hv h => h⟩
  obtain ⟨n, r, q, M, hall, eq⟩ := own_begin (F := F) hl hSt 4 0 0 [(0 : Int32), 0, 0, 0] [(0 : Int32), 0, 0, 0] (by decide) (by simp only [Int32.reduceToInt]; omega) M0 (fun j j0 j1 => by simp only [Int32.reduceToInt] at j1; omega)
  obtain ⟨N, v9, nl, hN, eq2⟩ := own_count (F := F) (W := W) hT n r q 7 0 [(0 : Int32), 0, 0, 0] (by decide) (by decide) (by decide) rfl (fun v hv _ => by
    rw [show cn (pT T v (ltb 0)) = cn (pT T v (fun _ => false)) from own_cnc (fun x hx => by unfold pT ltb; rw [decide_eq_false (by have := hx.1; simp only [Int32.reduceToInt]; omega)]), own_cnF]
    rcases own_four hv with rfl | rfl | rfl | rfl <;> rfl)
  have M' : MQ S T W r0 r0 n r q := ⟨M.1, M.2.1, M.2.2.1, M.2.2.2.1, fun v hv h => by
    obtain ⟨i, i0, i1, rfl⟩ := hr0 v hv h
    exact hall i i0 i1⟩
  have e : fRe_0 F T W St = fRe_131 F T W 5 n 0 6 v9 r q N := eq.trans eq2
  rw [e]
  refine own_outer fs hT hS 5 n 0 6 v9 r q N (fun _ => false) ⟨M', ⟨nl, fun v hv hw hn => ?_, fun v hv hw hn x hx hp => Bool.noConfusion hp⟩, ⟨by decide, (own_bqn M.1).1⟩, fun x hx hp => Bool.noConfusion hp, fun j x j0 j1 => absurd (Int.lt_of_le_of_lt j0 j1) (by decide)⟩ (by decide)
  rw [own_cnF, hN v hv hw]
  exact ⟨by omega, own_cnpos⟩
theorem own_same {S T W r0 r : List Int32} (hS : ∀ e, E6 e → V4 (rd S e)) (h : FinI S T W r0 r) : r.length = 4 ∧ ∀ v, V4 v → rd r v = rd (fStep_0 S T W (fStep_0 S T W (fStep_0 S T W r0))) v := by
  obtain ⟨⟨n, q, M⟩, cl⟩ := h
  have hn := own_bqn M.1
  refine ⟨M.1.1, fun v hv => ?_⟩
  have up : ∀ (k : Nat) v, V4 v → On (Sk S T W r0 k) v → On r v := by
    intro k
    induction k with
    | zero => intro v hv h; exact M.2.2.2.2 v hv h
    | succ k ih => intro v hv h; exact cl v hv (own_nxm hS ih hv ((own_stpN S T W _ hv).mp h))
  have down : On r v → On (Sk S T W r0 3) v := by
    intro h
    obtain ⟨j, j0, j1, j2⟩ := (M.2.1 v hv).mp h
    exact own_skm S T W r0 (by omega) hv (j2 ▸ M.2.2.2.1 j j0 j1)
  have r01 := own_bd M.1.2.2.1 (own_lit M.1.1 hv.1 (by have := hv.2; omega))
  show rd r v = rd (fStep_0 S T W (Sk S T W r0 2)) v
  rw [own_stp S T W _ hv]
  rcases own_next v S T W (Sk S T W r0 2) with ⟨e, hx⟩ | ⟨e, hx⟩
  · rw [e]
    refine Classical.byContradiction fun z => ?_
    exact hx ((own_stpN S T W _ hv).mp (down z))
  · rw [e]
    have o : ¬ rd r v = 0 := up 3 v hv ((own_stpN S T W _ hv).mpr hx)
    apply Int32.toInt_inj.mp
    have : ¬ (rd r v).toInt = 0 := fun z => o (Int32.toInt_inj.mp z)
    simp only [Int32.reduceToInt]
    omega
theorem own_srcs (a b c : Int32) : ∀ e, E6 e → rd [(fSrc_0 (0 : Int32) a b c), (fSrc_0 (1 : Int32) a b c), (fSrc_0 (2 : Int32) a b c), (fSrc_0 (3 : Int32) a b c), (fSrc_0 (4 : Int32) a b c), (fSrc_0 (5 : Int32) a b c)] e = fSrc_0 e a b c := own_all6 rfl rfl rfl rfl rfl rfl
theorem own_fs {a b c : Int32} (h : Cuts a b c) : FS [(0 : Int32), a, b, c, (6 : Int32)] [(fSrc_0 (0 : Int32) a b c), (fSrc_0 (1 : Int32) a b c), (fSrc_0 (2 : Int32) a b c), (fSrc_0 (3 : Int32) a b c), (fSrc_0 (4 : Int32) a b c), (fSrc_0 (5 : Int32) a b c)] := by
  obtain ⟨h1, h2, h3, h4⟩ := h
  have z : (0 : Int32).toInt = 0 := by decide
  have s : (6 : Int32).toInt = 6 := by decide
  have k : ∀ (e : Int32), (fSrc_0 e a b c = 0 ∧ e.toInt < a.toInt) ∨ (fSrc_0 e a b c = 1 ∧ ¬ e.toInt < a.toInt ∧ e.toInt < b.toInt) ∨ (fSrc_0 e a b c = 2 ∧ ¬ e.toInt < b.toInt ∧ e.toInt < c.toInt) ∨ (fSrc_0 e a b c = 3 ∧ ¬ e.toInt < c.toInt) := by
    intro e
    unfold fSrc_0
    simp only [Int32.lt_iff_toInt_lt]
    split
    · exact Or.inl ⟨rfl, by assumption⟩
    · split
      · exact Or.inr (Or.inl ⟨rfl, by assumption, by assumption⟩)
      · split
        · exact Or.inr (Or.inr (Or.inl ⟨rfl, by assumption, by assumption⟩))
        · exact Or.inr (Or.inr (Or.inr ⟨rfl, by assumption⟩))
  intro u hu
  rcases own_four hu with rfl | rfl | rfl | rfl
  · show (0 ≤ (0 : Int32).toInt ∧ (0 : Int32).toInt ≤ a.toInt ∧ a.toInt ≤ 6) ∧ ∀ e, E6 e → (_ = _ ↔ ((0 : Int32).toInt ≤ e.toInt ∧ e.toInt < a.toInt))
    refine ⟨by rw [z]; omega, fun e he => ?_⟩
    rw [own_srcs a b c e he, z]
    have := he.1
    rcases k e with ⟨q, w⟩ | ⟨q, w⟩ | ⟨q, w⟩ | ⟨q, w⟩ <;> rw [q]
    · exact ⟨fun _ => ⟨this, w⟩, fun _ => rfl⟩
    all_goals exact ⟨fun x => absurd x (by decide), fun x => by exfalso; omega⟩
  · show (0 ≤ a.toInt ∧ a.toInt ≤ b.toInt ∧ b.toInt ≤ 6) ∧ ∀ e, E6 e → (_ = _ ↔ (a.toInt ≤ e.toInt ∧ e.toInt < b.toInt))
    refine ⟨by omega, fun e he => ?_⟩
    rw [own_srcs a b c e he]
    rcases k e with ⟨q, w⟩ | ⟨q, w⟩ | ⟨q, w⟩ | ⟨q, w⟩ <;> rw [q]
    · exact ⟨fun x => absurd x (by decide), fun x => by exfalso; omega⟩
    · exact ⟨fun _ => ⟨by omega, w.2⟩, fun _ => rfl⟩
    all_goals exact ⟨fun x => absurd x (by decide), fun x => by exfalso; omega⟩
  · show (0 ≤ b.toInt ∧ b.toInt ≤ c.toInt ∧ c.toInt ≤ 6) ∧ ∀ e, E6 e → (_ = _ ↔ (b.toInt ≤ e.toInt ∧ e.toInt < c.toInt))
    refine ⟨by omega, fun e he => ?_⟩
    rw [own_srcs a b c e he]
    rcases k e with ⟨q, w⟩ | ⟨q, w⟩ | ⟨q, w⟩ | ⟨q, w⟩ <;> rw [q]
    · exact ⟨fun x => absurd x (by decide), fun x => by exfalso; omega⟩
    · exact ⟨fun x => absurd x (by decide), fun x => by exfalso; omega⟩
    · exact ⟨fun _ => ⟨by omega, w.2⟩, fun _ => rfl⟩
    · exact ⟨fun x => absurd x (by decide), fun x => by exfalso; omega⟩
  · show (0 ≤ c.toInt ∧ c.toInt ≤ (6 : Int32).toInt ∧ (6 : Int32).toInt ≤ 6) ∧ ∀ e, E6 e → (_ = _ ↔ (c.toInt ≤ e.toInt ∧ e.toInt < (6 : Int32).toInt))
    rw [s]
    refine ⟨by omega, fun e he => ?_⟩
    rw [own_srcs a b c e he]
    have := he.2
    rcases k e with ⟨q, w⟩ | ⟨q, w⟩ | ⟨q, w⟩ | ⟨q, w⟩ <;> rw [q]
    · exact ⟨fun x => absurd x (by decide), fun x => by exfalso; omega⟩
    · exact ⟨fun x => absurd x (by decide), fun x => by exfalso; omega⟩
    · exact ⟨fun x => absurd x (by decide), fun x => by exfalso; omega⟩
    · exact ⟨fun _ => ⟨by omega, this⟩, fun _ => rfl⟩
theorem own_462 {S T W r0 G : List Int32} (h1 : G.length = 4) (h2 : ∀ v, V4 v → rd G v = rd (fStep_0 S T W (fStep_0 S T W (fStep_0 S T W r0))) v) : f0_462 T S W r0 G = 1 := by
  unfold f0_462
  have v0 : V4 0 := by unfold V4; decide
  have v1 : V4 1 := by unfold V4; decide
  have v2 : V4 2 := by unfold V4; decide
  have v3 : V4 3 := by unfold V4; decide
  rw [if_pos (by rw [h1]; rfl), if_pos (h2 0 v0), if_pos (h2 1 v1), if_pos (h2 2 v2), if_pos (h2 3 v3)]
def R0 (n s0 s1 s2 : Int32) : List Int32 := [(nar .boolean (fIst_0 n s0 s1 s2 (0 : Int32))), (nar .boolean (fIst_0 n s0 s1 s2 (1 : Int32))), (nar .boolean (fIst_0 n s0 s1 s2 (2 : Int32))), (nar .boolean (fIst_0 n s0 s1 s2 (3 : Int32)))]
theorem own_r0 (n s0 s1 s2 : Int32) {v : Int32} (hv : V4 v) : rd (R0 n s0 s1 s2) v = nar .boolean (fIst_0 n s0 s1 s2 v) := by
  rcases own_four hv with rfl | rfl | rfl | rfl <;> rfl
theorem own_348 {a b c n s0 s1 s2 : Int32} {T W St : List Int32} (h : Cuts a b c) (t6 : T.length = 6) (tb : Bd4 4 T) (hl : St.length ≤ 3) (hSt : ∀ i : Int32, 0 ≤ i.toInt → i.toInt < St.length → V4 (rd St i) ∧ On (R0 n s0 s1 s2) (rd St i)) (hr0 : ∀ v, V4 v → On (R0 n s0 s1 s2) v → ∃ i : Int32, 0 ≤ i.toInt ∧ i.toInt < St.length ∧ rd St i = v) :
    f0_348 a b c T [(fSrc_0 (0 : Int32) a b c), (fSrc_0 (1 : Int32) a b c), (fSrc_0 (2 : Int32) a b c), (fSrc_0 (3 : Int32) a b c), (fSrc_0 (4 : Int32) a b c), (fSrc_0 (5 : Int32) a b c)] n s0 s1 s2 W St = 1 := by
  have hT : ∀ e, E6 e → V4 (rd T e) := fun e he => own_bd tb (own_lit t6 he.1 (by have := he.2; omega))
  have hS : ∀ e, E6 e → V4 (rd [(fSrc_0 (0 : Int32) a b c), (fSrc_0 (1 : Int32) a b c), (fSrc_0 (2 : Int32) a b c), (fSrc_0 (3 : Int32) a b c), (fSrc_0 (4 : Int32) a b c), (fSrc_0 (5 : Int32) a b c)] e) := fun e he => by rw [own_srcs a b c e he]; exact own_src e a b c
  obtain ⟨g1, g2⟩ := own_same hS (own_reach (W := W) (own_fs h) hT hS hl hSt hr0)
  exact own_462 g1 g2
theorem own_ist {n s0 s1 s2 v : Int32} (L : List Int32) (h : (n = 0 ∧ L = []) ∨ (n = 1 ∧ L = [s0]) ∨ (n = 2 ∧ L = [s0, s1]) ∨ (n = 3 ∧ L = [s0, s1, s2])) : ¬ (nar .boolean (fIst_0 n s0 s1 s2 v) = 0) ↔ v ∈ L := by
  have b0 : ∀ p : Prop, ∀ [Decidable p], (¬ nar .boolean (if p then (1 : Int32) else 0) = 0) ↔ p := by
    intro p _
    by_cases hp : p
    · rw [if_pos hp]; exact ⟨fun _ => hp, fun _ => by decide⟩
    · rw [if_neg hp]; exact ⟨fun q => absurd (by decide) q, fun q => absurd q hp⟩
  have l : ∀ x : Int32, (if s0 = v then (1 : Int32) else x) = if s0 = v then 1 else x := fun _ => rfl
  rcases h with ⟨rfl, rfl⟩ | ⟨rfl, rfl⟩ | ⟨rfl, rfl⟩ | ⟨rfl, rfl⟩
  · have e : fIst_0 0 s0 s1 s2 v = 0 := rfl
    rw [e]; simp [own_nb0]
  · have e : fIst_0 1 s0 s1 s2 v = if s0 = v then 1 else 0 := rfl
    rw [e, b0]; simp [eq_comm]
  · have e : fIst_0 2 s0 s1 s2 v = if s0 = v then 1 else if s1 = v then 1 else 0 := rfl
    rw [e]
    by_cases q : s0 = v
    · rw [if_pos q]; simp [q, own_nb1]
    · rw [if_neg q, b0]
      have q' : ¬ v = s0 := fun z => q z.symm
      simp [q', eq_comm]
  · have e : fIst_0 3 s0 s1 s2 v = if s0 = v then 1 else if s1 = v then 1 else if s2 = v then 1 else 0 := rfl
    rw [e]
    by_cases q : s0 = v
    · rw [if_pos q]; simp [q, own_nb1]
    · rw [if_neg q]
      by_cases q2 : s1 = v
      · rw [if_pos q2]; simp [q2, own_nb1]
      · rw [if_neg q2, b0]
        have q' : ¬ v = s0 := fun z => q z.symm
        have q2' : ¬ v = s1 := fun z => q2 z.symm
        simp only [List.mem_cons, List.not_mem_nil, or_false, q', q2', false_or]
        exact eq_comm
theorem own_mem {L : List Int32} (hl : L.length ≤ 3) {v : Int32} (h : v ∈ L) : ∃ i : Int32, 0 ≤ i.toInt ∧ i.toInt < L.length ∧ rd L i = v := by
  match L, hl, h with
  | [a], _, h => exact ⟨0, by decide, by simp only [Int32.reduceToInt, List.length_cons, List.length_nil]; omega, by simp only [List.mem_cons, List.not_mem_nil, or_false] at h; rw [h]; rfl⟩
  | [a, b], _, h =>
    simp only [List.mem_cons, List.not_mem_nil, or_false] at h
    rcases h with rfl | rfl
    · exact ⟨0, by decide, by simp only [Int32.reduceToInt, List.length_cons, List.length_nil]; omega, rfl⟩
    · exact ⟨1, by decide, by simp only [Int32.reduceToInt, List.length_cons, List.length_nil]; omega, rfl⟩
  | [a, b, c], _, h =>
    simp only [List.mem_cons, List.not_mem_nil, or_false] at h
    rcases h with rfl | rfl | rfl
    · exact ⟨0, by decide, by simp only [Int32.reduceToInt, List.length_cons, List.length_nil]; omega, rfl⟩
    · exact ⟨1, by decide, by simp only [Int32.reduceToInt, List.length_cons, List.length_nil]; omega, rfl⟩
    · exact ⟨2, by decide, by simp only [Int32.reduceToInt, List.length_cons, List.length_nil]; omega, rfl⟩
theorem own_272 {a b c n s0 s1 s2 : Int32} {T W : List Int32} (h : Cuts a b c) (t6 : T.length = 6) (tb : Bd4 4 T) (hn : V4 n) (h0 : V4 s0) (h1 : V4 s1) (h2 : V4 s2) :
    f0_272 a b c T [(fSrc_0 (0 : Int32) a b c), (fSrc_0 (1 : Int32) a b c), (fSrc_0 (2 : Int32) a b c), (fSrc_0 (3 : Int32) a b c), (fSrc_0 (4 : Int32) a b c), (fSrc_0 (5 : Int32) a b c)] n s0 s1 s2 W = 1 := by
  have go : ∀ St : List Int32, ((n = 0 ∧ St = []) ∨ (n = 1 ∧ St = [s0]) ∨ (n = 2 ∧ St = [s0, s1]) ∨ (n = 3 ∧ St = [s0, s1, s2])) → f0_348 a b c T [(fSrc_0 (0 : Int32) a b c), (fSrc_0 (1 : Int32) a b c), (fSrc_0 (2 : Int32) a b c), (fSrc_0 (3 : Int32) a b c), (fSrc_0 (4 : Int32) a b c), (fSrc_0 (5 : Int32) a b c)] n s0 s1 s2 W St = 1 := by
    intro St hc
    have hl : St.length ≤ 3 := by rcases hc with ⟨-, rfl⟩ | ⟨-, rfl⟩ | ⟨-, rfl⟩ | ⟨-, rfl⟩ <;> simp
    have hb : Bd4 4 St := by
      rcases hc with ⟨-, rfl⟩ | ⟨-, rfl⟩ | ⟨-, rfl⟩ | ⟨-, rfl⟩
      · exact own_bdn
      · exact own_bdc h0 own_bdn
      · exact own_bdc h0 (own_bdc h1 own_bdn)
      · exact own_bdc h0 (own_bdc h1 (own_bdc h2 own_bdn))
    refine own_348 h t6 tb hl (fun i i0 i1 => ?_) (fun v hv ho => ?_)
    · have hI := own_inb i0 i1
      have hv := own_bd hb hI
      refine ⟨hv, ?_⟩
      unfold On
      rw [own_r0 _ _ _ _ hv]
      exact (own_ist St hc).mpr (own_rdm hI)
    · unfold On at ho
      rw [own_r0 _ _ _ _ hv] at ho
      exact own_mem hl ((own_ist St hc).mp ho)
  unfold f0_272
  by_cases c0 : n = 0
  · rw [if_pos c0]; exact go _ (Or.inl ⟨c0, rfl⟩)
  rw [if_neg c0]
  by_cases c1 : n = 1
  · rw [if_pos c1]; exact go _ (Or.inr (Or.inl ⟨c1, rfl⟩))
  rw [if_neg c1]
  by_cases c2 : n = 2
  · rw [if_pos c2]; exact go _ (Or.inr (Or.inr (Or.inl ⟨c2, rfl⟩)))
  rw [if_neg c2]
  refine go _ (Or.inr (Or.inr (Or.inr ⟨?_, rfl⟩)))
  rcases own_four hn with q | q | q | q
  · exact absurd q c0
  · exact absurd q c1
  · exact absurd q c2
  · exact q
theorem law_eq (p1 p2 p3 p4 : Int32) : f0_0 p1 p2 p3 p4 = 1 := by
  unfold f0_0 f0_44 f0_183 f0_199 f0_213 f0_227 f0_242
  simp only [own_272 (own_cuts p1) rfl (own_t6 p2) (own_m3 _) (own_m3 _) (own_m3 _) (own_m3 _), ite_self]
set_option maxRecDepth 65536 in
set_option maxHeartbeats 40000000 in
theorem comes_1 {Post : Tables → Env → Array Value → State → Outcome → State → Prop} (hpost : ∀ tb e args s v u, (limb_1_1.after args s (.returned v) u = true ∧ limb_1_2.after args s (.returned v) u = true ∧ True) → FrameEnd s (.returned v) u (Jvm.fieldLocs frame_1_writes args s ++ Jvm.arrayLocs frame_1_arrays args s ++ Jvm.staticLocs frame_1_statics s) 40 192 → Post tb e args s (.returned v) u) :
    ArmFor flags0 classFile x code maxLocals ret World_1 tables_1 room_1 Calls_1 rest_1 Pre_1 Post := by
  intro l hfl _ _ p e ha hc hk s m args below hf hA hF happ hP
  obtain ⟨hcalls, hrest, hpre⟩ := hP
  obtain ⟨-, -, -, hnamed, -, -, -, hat⟩ := (Spec.applies_iff hf).mp happ
  obtain ⟨hg, hn⟩ := and_e (Cond.before_iff.mp (show (Jvm.Cond.and given_1 narrow_1).before args s = true from hpre))
  obtain ⟨g1, g2⟩ := and_e hg
  obtain ⟨g3, g4⟩ := and_e g2
  obtain ⟨g5, g6⟩ := and_e g4
  obtain ⟨g7, g8⟩ := and_e g6
  obtain ⟨w0, w1, w2, w3, rfl⟩ : ∃ w0 w1 w2 w3 : Value, args = #[w0, w1, w2, w3] := by
    have hs : args.size = 4 := by simpa [Cond.value, given_1] using g1
    obtain ⟨L⟩ := args
    match L, hs with
    | [w0, w1, w2, w3], _ => exact ⟨w0, w1, w2, w3, rfl⟩
  have hw := fun d (hd : d ∈ tables_1) => atoms_spec (ws := Jvm.Cond.code x code maxLocals ret :: tables_1) hat d (List.mem_cons_of_mem _ hd)
  have hfit : Fit s := fun {y c} hc i hi => by
    obtain ⟨ha, rfl⟩ := Array.getElem?_eq_some_iff.mp hc
    have q := List.all_eq_true.mp ((Array.all_eq_true_iff_forall_mem.mp hF) _ (Array.getElem_mem ha)) i (List.mem_range.mpr hi)
    simpa [Array.getElem?_eq_getElem hi] using q
  obtain ⟨i0, ei0⟩ := is_v g3
  obtain rfl : w0 = (.int i0) := Option.some.inj ei0
  obtain ⟨i1, ei1⟩ := is_v g5
  obtain rfl : w1 = (.int i1) := Option.some.inj ei1
  obtain ⟨i2, ei2⟩ := is_v g7
  obtain rfl : w2 = (.int i2) := Option.some.inj ei2
  obtain ⟨i3, ei3⟩ := is_v g8
  obtain rfl : w3 = (.int i3) := Option.some.inj ei3
  obtain ⟨n, o, h1, h2, h3, _, L, rfl, ⟨hv, N⟩, hq⟩ := rm0 l s _ hw tables_1 i0 i1 i2 i3 s.heap s.heap.size (Nat.le_refl _) p e ha hc hk s m _ below hf ((Spec.applies_iff_loose hf).mp happ).1 ⟨rfl, State.Warmed39.refl s, rfl⟩ trivial
  rw [law_eq] at hv
  subst hv
  refine ⟨n, _, h1, h2, h3, hpost _ _ _ _ _ _ ⟨Cond.after_iff.mpr rfl, Cond.after_iff.mpr (eq_i res_at (Term.int_eval (1)) rfl), trivial⟩ ⟨hq.1, hq.2.1, (hq.2.2.sift fun y hy => Or.inr (N y hy)).mono (by decide) (by decide)⟩⟩
theorem main_1_1 : Claimed_1_1 := comes_1 fun _ _ _ _ _ _ h hF => ⟨h.1, hF⟩
theorem main_1_2 : Claimed_1_2 := comes_1 fun _ _ _ _ _ _ h hF => ⟨h.2.1, hF⟩
end Jvm.Pilot.@@N@@
namespace Jvm.Pilot.@@N@@
open Jvm Jvm.ClassFile Sem Op Lib Jvm.Free Jvm.Stand Jvm.Pilot.@@N@@.Jvm.D
/-! MADE BY PROGRAM (witnessworld.py) out of the Statement's table words and the real class files: 11 classes; the members and pool entries that the words name. The judged class is class 1, her method 1. -/
namespace start1
open Jvm.ClassFile
def u (s : String) : CpInfo := .utf8 (stringToUtf16 s)
/-- a pool by its gaps: so many unusable entries, then the entry; so many at the end -/
def gap : Nat → List CpInfo → List CpInfo
  | 0, r => r
  | n + 1, r => .unusable :: gap n r
def poolList (es : List (Nat × CpInfo)) (last : Nat) : List CpInfo := es.foldr (fun e r => gap e.1 (e.2 :: r)) (gap last [])
def pool (es : List (Nat × CpInfo)) (last : Nat) : Array CpInfo := ⟨poolList es last⟩
def fileOf (pool : Array CpInfo) (this : Nat) (attrs : Array Attribute := #[]) (ms : Array MethodInfo := #[]) (fl : Nat := 33) (sup : Nat := 0) (ifs : Array Nat := #[]) (fds : Array FieldInfo := #[]) : ClassFile where
  minorVersion := 0
  majorVersion := 65
  constantPool := pool
  accessFlags := fl
  thisClass := this
  superClass := sup
  interfaces := ifs
  fields := fds
  methods := ms
  attributes := attrs
def plain (name : String) (sup : Option ClassId) : Class where
  name := name
  kind := .ordinary
  loader := none
  accessFlags := 33
  super := sup
  interfaces := #[]
  cf := none
  fields := #[]
  methods := #[]
  instanceTypes := #[]
  staticTypes := #[]
  resolved := #[]
  callSites := []
  init := .initialized
  statics := none
  mirror := none

def pool0 : Array CpInfo := pool [(5, u "<init>"), (0, u "()V"), (1, .class_ 10), (1, u "java/lang/Object")] 113

def k0c0 : Code := { maxStack := 0, maxLocals := 1, code := object_method_1_code, exceptionTable := #[], attributes := #[] }
def k0m0 : Method := { name := "<init>", desc := "()V", sig := { parameters := [], returnType := none }, accessFlags := 1, code := some k0c0 }
/-- java/lang/Object -/
def k0 : Class := { plain "java/lang/Object" none with
  accessFlags := 33
  interfaces := #[]
  cf := some (fileOf pool0 8 #[] #[{ accessFlags := 1, nameIndex := 5, descriptorIndex := 6, attributes := #[] }] 33 0 #[] #[])
  fields := #[]
  methods := #[k0m0]
  instanceTypes := #[]
  staticTypes := #[]
  resolved := Array.replicate 124 none
  statics := none }

def pool1 : Array CpInfo := pool [(2, .class_ 4), (1, u "java/lang/Object"), (0, u "<init>"), (0, u "()V"), (0, .methodref 8 9), (0, .class_ 10), (0, .nameAndType 11 12), (0, u "com/example/workflow_soundness/workflowsoundness/analysis/GraphReachedPinLaw"), (0, u "src"), (0, u "(IIII)I"), (0, .methodref 8 14), (0, .nameAndType 15 16), (0, u "isStart"), (0, u "(IIIII)Z"), (0, .class_ 18), (0, u "com/example/workflow_soundness/workflowsoundness/analysis/Graph"), (0, .methodref 17 20), (0, .nameAndType 5 21), (0, u "([I[I)V"), (0, .methodref 17 23), (0, .nameAndType 24 25), (0, u "reached"), (0, u "([Z[I)[Z"), (0, .methodref 8 27), (0, .nameAndType 28 29), (0, u "step"), (0, u "([I[I[Z[Z)[Z"), (0, .methodref 8 31), (0, .nameAndType 32 33), (0, u "into"), (0, u "([III)Z"), (0, .methodref 8 35), (0, .nameAndType 36 37), (0, u "inFrom"), (0, u "([I[I[ZII)Z"), (0, .methodref 8 39), (0, .nameAndType 40 37), (0, u "okEdge"), (0, .methodref 8 42), (0, .nameAndType 43 44), (0, u "hasIn"), (0, u "([II)Z"), (0, .methodref 8 46), (0, .nameAndType 47 48), (0, u "all"), (0, u "([I[I[ZI)Z"), (0, .methodref 8 50), (0, .nameAndType 51 48), (0, u "some"), (0, .methodref 8 53), (0, .nameAndType 54 55), (0, u "next"), (0, u "([I[I[Z[ZI)Z"), (2, u "law"), (0, u "(IIII)Z")] 7

def k1m0 : Method := { name := "<init>", desc := "()V", sig := { parameters := [], returnType := none }, accessFlags := 1, code := none }
def k1c1 : Code := { maxStack := 8, maxLocals := 21, code := code, exceptionTable := #[], attributes := #[] }
def k1m1 : Method := { name := "law", desc := "(IIII)Z", sig := { parameters := [.int, .int, .int, .int], returnType := some .boolean }, accessFlags := 9, code := some k1c1 }
def k1c2 : Code := { maxStack := 2, maxLocals := 4, code := method_3_code, exceptionTable := #[], attributes := #[] }
def k1m2 : Method := { name := "src", desc := "(IIII)I", sig := { parameters := [.int, .int, .int, .int], returnType := some .int }, accessFlags := 10, code := some k1c2 }
def k1c3 : Code := { maxStack := 2, maxLocals := 5, code := method_4_code, exceptionTable := #[], attributes := #[] }
def k1m3 : Method := { name := "isStart", desc := "(IIIII)Z", sig := { parameters := [.int, .int, .int, .int, .int], returnType := some .boolean }, accessFlags := 10, code := some k1c3 }
def k1c4 : Code := { maxStack := 2, maxLocals := 3, code := method_5_code, exceptionTable := #[], attributes := #[] }
def k1m4 : Method := { name := "into", desc := "([III)Z", sig := { parameters := [(.array .int), .int, .int], returnType := some .boolean }, accessFlags := 10, code := some k1c4 }
def k1c5 : Code := { maxStack := 3, maxLocals := 2, code := method_6_code, exceptionTable := #[], attributes := #[] }
def k1m5 : Method := { name := "hasIn", desc := "([II)Z", sig := { parameters := [(.array .int), .int], returnType := some .boolean }, accessFlags := 10, code := some k1c5 }
def k1c6 : Code := { maxStack := 3, maxLocals := 5, code := method_7_code, exceptionTable := #[], attributes := #[] }
def k1m6 : Method := { name := "inFrom", desc := "([I[I[ZII)Z", sig := { parameters := [(.array .int), (.array .int), (.array .boolean), .int, .int], returnType := some .boolean }, accessFlags := 10, code := some k1c6 }
def k1c7 : Code := { maxStack := 5, maxLocals := 4, code := method_8_code, exceptionTable := #[], attributes := #[] }
def k1m7 : Method := { name := "some", desc := "([I[I[ZI)Z", sig := { parameters := [(.array .int), (.array .int), (.array .boolean), .int], returnType := some .boolean }, accessFlags := 10, code := some k1c7 }
def k1c8 : Code := { maxStack := 3, maxLocals := 5, code := method_9_code, exceptionTable := #[], attributes := #[] }
def k1m8 : Method := { name := "okEdge", desc := "([I[I[ZII)Z", sig := { parameters := [(.array .int), (.array .int), (.array .boolean), .int, .int], returnType := some .boolean }, accessFlags := 10, code := some k1c8 }
def k1c9 : Code := { maxStack := 5, maxLocals := 4, code := method_10_code, exceptionTable := #[], attributes := #[] }
def k1m9 : Method := { name := "all", desc := "([I[I[ZI)Z", sig := { parameters := [(.array .int), (.array .int), (.array .boolean), .int], returnType := some .boolean }, accessFlags := 10, code := some k1c9 }
def k1c10 : Code := { maxStack := 4, maxLocals := 5, code := method_11_code, exceptionTable := #[], attributes := #[] }
def k1m10 : Method := { name := "next", desc := "([I[I[Z[ZI)Z", sig := { parameters := [(.array .int), (.array .int), (.array .boolean), (.array .boolean), .int], returnType := some .boolean }, accessFlags := 10, code := some k1c10 }
def k1c11 : Code := { maxStack := 8, maxLocals := 4, code := method_12_code, exceptionTable := #[], attributes := #[] }
def k1m11 : Method := { name := "step", desc := "([I[I[Z[Z)[Z", sig := { parameters := [(.array .int), (.array .int), (.array .boolean), (.array .boolean)], returnType := some (.array .boolean) }, accessFlags := 10, code := some k1c11 }
/-- com/example/workflow_soundness/workflowsoundness/analysis/GraphReachedPinLaw -/
def k1 : Class := { plain "com/example/workflow_soundness/workflowsoundness/analysis/GraphReachedPinLaw" (some 0) with
  accessFlags := 49
  interfaces := #[]
  cf := some (fileOf pool1 8 #[] #[{ accessFlags := 1, nameIndex := 5, descriptorIndex := 6, attributes := #[] }, { accessFlags := 9, nameIndex := 58, descriptorIndex := 59, attributes := #[] }, { accessFlags := 10, nameIndex := 11, descriptorIndex := 12, attributes := #[] }, { accessFlags := 10, nameIndex := 15, descriptorIndex := 16, attributes := #[] }, { accessFlags := 10, nameIndex := 32, descriptorIndex := 33, attributes := #[] }, { accessFlags := 10, nameIndex := 43, descriptorIndex := 44, attributes := #[] }, { accessFlags := 10, nameIndex := 36, descriptorIndex := 37, attributes := #[] }, { accessFlags := 10, nameIndex := 51, descriptorIndex := 48, attributes := #[] }, { accessFlags := 10, nameIndex := 40, descriptorIndex := 37, attributes := #[] }, { accessFlags := 10, nameIndex := 47, descriptorIndex := 48, attributes := #[] }, { accessFlags := 10, nameIndex := 54, descriptorIndex := 55, attributes := #[] }, { accessFlags := 10, nameIndex := 28, descriptorIndex := 29, attributes := #[] }] 49 2 #[] #[])
  fields := #[]
  methods := #[k1m0, k1m1, k1m2, k1m3, k1m4, k1m5, k1m6, k1m7, k1m8, k1m9, k1m10, k1m11]
  instanceTypes := #[]
  staticTypes := #[]
  resolved := Array.replicate 67 none
  statics := none }

def pool2 : Array CpInfo := pool [(1, .methodref 2 3), (0, .class_ 4), (0, .nameAndType 5 6), (0, u "java/lang/Object"), (0, u "<init>"), (0, u "()V"), (0, .fieldref 8 9), (0, .class_ 10), (0, .nameAndType 11 12), (0, u "com/example/workflow_soundness/workflowsoundness/analysis/Graph"), (0, u "_first"), (0, u "[I"), (0, .fieldref 8 14), (0, .nameAndType 15 12), (0, u "_targets"), (8, u "([I[I)V"), (62, u "reached"), (0, u "([Z[I)[Z"), (22, .class_ 112), (0, u "com/example/workflow_soundness/workflowsoundness/analysis/Graph$Builder")] 3

def k2c0 : Code := { maxStack := 2, maxLocals := 3, code := prog_23_method_1_code, exceptionTable := #[], attributes := #[] }
def k2m0 : Method := { name := "<init>", desc := "([I[I)V", sig := { parameters := [(.array .int), (.array .int)], returnType := none }, accessFlags := 0, code := some k2c0 }
def k2c1 : Code := { maxStack := 4, maxLocals := 11, code := prog_23_method_11_code, exceptionTable := #[], attributes := #[] }
def k2m1 : Method := { name := "reached", desc := "([Z[I)[Z", sig := { parameters := [(.array .boolean), (.array .int)], returnType := some (.array .boolean) }, accessFlags := 128, code := some k2c1 }
/-- com/example/workflow_soundness/workflowsoundness/analysis/Graph -/
def k2 : Class := { plain "com/example/workflow_soundness/workflowsoundness/analysis/Graph" (some 0) with
  accessFlags := 48
  interfaces := #[]
  cf := some (fileOf pool2 8 #[.nestMembers #[111]] #[{ accessFlags := 0, nameIndex := 5, descriptorIndex := 24, attributes := #[] }, { accessFlags := 128, nameIndex := 87, descriptorIndex := 88, attributes := #[] }] 48 2 #[] #[{ accessFlags := 18, nameIndex := 11, descriptorIndex := 12, attributes := #[] }, { accessFlags := 18, nameIndex := 15, descriptorIndex := 12, attributes := #[] }])
  fields := #[{ name := "_first", type := (.array .int), accessFlags := 18, slot := 0, constantValue := 0 }, { name := "_targets", type := (.array .int), accessFlags := 18, slot := 1, constantValue := 0 }]
  methods := #[k2m0, k2m1]
  instanceTypes := #[(.array .int), (.array .int)]
  staticTypes := #[]
  resolved := Array.replicate 116 none
  statics := none }

def pool3 : Array CpInfo := pool [(1, u "java/lang/Cloneable"), (0, .class_ 1), (0, u "java/lang/Object"), (0, .class_ 3)] 3

/-- java/lang/Cloneable -/
def k3 : Class := { plain "java/lang/Cloneable" (some 0) with
  accessFlags := 1537
  interfaces := #[]
  cf := some (fileOf pool3 2 #[] #[] 1537 4 #[] #[])
  fields := #[]
  methods := #[]
  instanceTypes := #[]
  staticTypes := #[]
  resolved := Array.replicate 8 none
  statics := none }

def pool4 : Array CpInfo := pool [(1, u "java/io/Serializable"), (0, .class_ 1), (0, u "java/lang/Object"), (0, .class_ 3)] 3

/-- java/io/Serializable -/
def k4 : Class := { plain "java/io/Serializable" (some 0) with
  accessFlags := 1537
  interfaces := #[]
  cf := some (fileOf pool4 2 #[] #[] 1537 4 #[] #[])
  fields := #[]
  methods := #[]
  instanceTypes := #[]
  staticTypes := #[]
  resolved := Array.replicate 8 none
  statics := none }

/-- the primitive boolean -/
def k5 : Class := { plain "boolean" none with kind := .primitive 'Z', accessFlags := 0x411 }
/-- [Z -/
def k6 : Class := { plain "[Z" (some 0) with kind := .array 5 .boolean, interfaces := #[3, 4], accessFlags := 1041 }

/-- the primitive byte -/
def k7 : Class := { plain "byte" none with kind := .primitive 'B', accessFlags := 0x411 }
/-- [B -/
def k8 : Class := { plain "[B" (some 0) with kind := .array 7 .byte, interfaces := #[3, 4], accessFlags := 1041 }

/-- the primitive int -/
def k9 : Class := { plain "int" none with kind := .primitive 'I', accessFlags := 0x411 }
/-- [I -/
def k10 : Class := { plain "[I" (some 0) with kind := .array 9 .int, interfaces := #[3, 4], accessFlags := 1041 }

def heap : Heap := #[]
def classes : Array Class := #[k0, k1, k2, k3, k4, k5, k6, k7, k8, k9, k10]
def interned : List (Array UInt16 × Addr) := []
def slotsUsed : Nat := 0
def theMethod : MethodId := ⟨1, 1⟩
def args0 : Array Value := #[.int 83, .int 400, .int 5, .int 27]
def aboutOver (below : List Frame) : State where
  vm := { classes := classes, interned := interned.toArray }
  heap := heap
  slotsUsed := slotsUsed
  threads := #[{ frames := .invoking theMethod args0 :: below }]
def below0 : List Frame := [.native { method := ⟨0, 0⟩, args := #[] }]
def about1 : State := aboutOver below0
def p0 : Program := .bare "" "" ""
def e0 : Env := launch0.env 0 0 0
theorem w_frames : about1.frames = Frame.invoking theMethod args0 :: below0 := rfl
set_option maxRecDepth 65536 in
theorem w_args : argsFit about1.vm theMethod args0 = true := by decide +kernel
set_option maxRecDepth 65536 in
theorem w_heap : heapFits about1 = true := by decide +kernel
set_option maxRecDepth 65536 in
theorem w_runnable : about1.curStatus? = some .runnable := by decide +kernel
set_option maxRecDepth 65536 in
theorem w_alone : about1.alone = true := by decide +kernel
set_option maxRecDepth 65536 in
theorem w_named : about1.methodNamed? x = some theMethod := by decide +kernel
set_option maxRecDepth 65536 in
theorem w_hears : about1.hears theMethod below0 = true := by decide +kernel
set_option maxRecDepth 65536 in
theorem w_ripe : about1.ripe theMethod args0 below0 = true := by decide +kernel
theorem w_running : about1.status = .running := rfl
set_option maxRecDepth 65536 in
theorem w_room : about1.hasRoom e0.platform room_1 = true :=
  launch0.hasRoom_least _ room_1 (by decide +kernel) (by decide +kernel) (by decide +kernel) (by decide +kernel) (by decide +kernel) (by decide +kernel)
theorem allAtoms_all (ts : List Jvm.Cond) (a : Array Jvm.Value) (st : Jvm.State) : (allAtoms ts).before a st = ts.all (fun c => c.before a st) := by
  induction ts with
  | nil => rfl
  | cons c t ih =>
    show (Jvm.Cond.and c (allAtoms t)).before a st = _
    rw [Jvm.Cond.before_and, ih, List.all_cons]
def words1 : List Jvm.Cond := Jvm.Cond.code x code maxLocals ret :: tables_1
/-- a 'code' word, met by the world's own term for the bytes: nothing is compared byte by byte -/
theorem code_word {y : MethodName} {bytes : ByteArray} {mx : Nat} {rt : Option FieldType} {a : Array Value} {s : State} {m : MethodId} {meth : Method} {c : Code} (h1 : s.methodNamed? y = some m) (h2 : s.vm.method? m = some meth) (h3 : meth.code = some c) (h4 : c.code = bytes)
    (h5 : (c.maxLocals == mx && c.exceptionTable.isEmpty && decide (c.maxStack ≤ mostOperands) && decide (meth.sig.returnType = rt) && !meth.locks && decide (parseMethodDescriptor y.desc = some meth.sig)) = true) : (Jvm.Cond.code y bytes mx rt).before a s = true := by
  simp only [Bool.and_eq_true, beq_iff_eq, Bool.not_eq_true', decide_eq_true_eq] at h5
  obtain ⟨⟨⟨⟨⟨g1, g2⟩, g3⟩, g4⟩, g5⟩, g6⟩ := h5
  simp [Cond.before, Cond.holds, Cond.value, h1, h2, h3, h4, g1, g2, g3, g4, g5, g6]
def isCode : Jvm.Cond → Bool
  | .code _ _ _ _ => true
  | _ => false
theorem all_split {L : List Jvm.Cond} {P : Jvm.Cond → Bool} (h1 : L.all (fun c => isCode c || P c) = true) (h2 : ∀ c ∈ L.filter isCode, P c = true) : L.all P = true := by
  refine List.all_eq_true.mpr fun c hc => ?_
  have h := List.all_eq_true.mp h1 c hc
  rcases Bool.eq_false_or_eq_true (isCode c) with hi | hi
  · exact h2 c (List.mem_filter.mpr ⟨hc, hi⟩)
  · simpa [hi] using h
set_option maxRecDepth 65536 in
theorem w_c0 : (Jvm.Cond.code x code maxLocals ret).before args0 about1 = true := code_word (m := ⟨1, 1⟩) (meth := k1m1) (c := k1c1) (by decide +kernel) rfl rfl rfl (by decide +kernel)
set_option maxRecDepth 65536 in
theorem w_c1 : (Jvm.Cond.code ({ cls := "com/example/workflow_soundness/workflowsoundness/analysis/GraphReachedPinLaw", name := "src", desc := "(IIII)I" } : Jvm.MethodName) method_3_code (4 : Nat) (Option.some Jvm.ClassFile.FieldType.int)).before args0 about1 = true := code_word (m := ⟨1, 2⟩) (meth := k1m2) (c := k1c2) (by decide +kernel) rfl rfl rfl (by decide +kernel)
set_option maxRecDepth 65536 in
theorem w_c2 : (Jvm.Cond.code ({ cls := "com/example/workflow_soundness/workflowsoundness/analysis/GraphReachedPinLaw", name := "isStart", desc := "(IIIII)Z" } : Jvm.MethodName) method_4_code (5 : Nat) (Option.some Jvm.ClassFile.FieldType.boolean)).before args0 about1 = true := code_word (m := ⟨1, 3⟩) (meth := k1m3) (c := k1c3) (by decide +kernel) rfl rfl rfl (by decide +kernel)
set_option maxRecDepth 65536 in
theorem w_c3 : (Jvm.Cond.code ({ cls := "com/example/workflow_soundness/workflowsoundness/analysis/Graph", name := "<init>", desc := "([I[I)V" } : Jvm.MethodName) prog_23_method_1_code (3 : Nat) (Option.none : Option Jvm.ClassFile.FieldType)).before args0 about1 = true := code_word (m := ⟨2, 0⟩) (meth := k2m0) (c := k2c0) (by decide +kernel) rfl rfl rfl (by decide +kernel)
set_option maxRecDepth 65536 in
theorem w_c4 : (Jvm.Cond.code ({ cls := "java/lang/Object", name := "<init>", desc := "()V" } : Jvm.MethodName) object_method_1_code (1 : Nat) (Option.none : Option Jvm.ClassFile.FieldType)).before args0 about1 = true := code_word (m := ⟨0, 0⟩) (meth := k0m0) (c := k0c0) (by decide +kernel) rfl rfl rfl (by decide +kernel)
set_option maxRecDepth 65536 in
theorem w_c5 : (Jvm.Cond.code ({ cls := "com/example/workflow_soundness/workflowsoundness/analysis/Graph", name := "reached", desc := "([Z[I)[Z" } : Jvm.MethodName) prog_23_method_11_code (11 : Nat) (Option.some (Jvm.ClassFile.FieldType.array Jvm.ClassFile.FieldType.boolean))).before args0 about1 = true := code_word (m := ⟨2, 1⟩) (meth := k2m1) (c := k2c1) (by decide +kernel) rfl rfl rfl (by decide +kernel)
set_option maxRecDepth 65536 in
theorem w_c6 : (Jvm.Cond.code ({ cls := "com/example/workflow_soundness/workflowsoundness/analysis/GraphReachedPinLaw", name := "step", desc := "([I[I[Z[Z)[Z" } : Jvm.MethodName) method_12_code (4 : Nat) (Option.some (Jvm.ClassFile.FieldType.array Jvm.ClassFile.FieldType.boolean))).before args0 about1 = true := code_word (m := ⟨1, 11⟩) (meth := k1m11) (c := k1c11) (by decide +kernel) rfl rfl rfl (by decide +kernel)
set_option maxRecDepth 65536 in
theorem w_c7 : (Jvm.Cond.code ({ cls := "com/example/workflow_soundness/workflowsoundness/analysis/GraphReachedPinLaw", name := "next", desc := "([I[I[Z[ZI)Z" } : Jvm.MethodName) method_11_code (5 : Nat) (Option.some Jvm.ClassFile.FieldType.boolean)).before args0 about1 = true := code_word (m := ⟨1, 10⟩) (meth := k1m10) (c := k1c10) (by decide +kernel) rfl rfl rfl (by decide +kernel)
set_option maxRecDepth 65536 in
theorem w_c8 : (Jvm.Cond.code ({ cls := "com/example/workflow_soundness/workflowsoundness/analysis/GraphReachedPinLaw", name := "hasIn", desc := "([II)Z" } : Jvm.MethodName) method_6_code (2 : Nat) (Option.some Jvm.ClassFile.FieldType.boolean)).before args0 about1 = true := code_word (m := ⟨1, 5⟩) (meth := k1m5) (c := k1c5) (by decide +kernel) rfl rfl rfl (by decide +kernel)
set_option maxRecDepth 65536 in
theorem w_c9 : (Jvm.Cond.code ({ cls := "com/example/workflow_soundness/workflowsoundness/analysis/GraphReachedPinLaw", name := "into", desc := "([III)Z" } : Jvm.MethodName) method_5_code (3 : Nat) (Option.some Jvm.ClassFile.FieldType.boolean)).before args0 about1 = true := code_word (m := ⟨1, 4⟩) (meth := k1m4) (c := k1c4) (by decide +kernel) rfl rfl rfl (by decide +kernel)
set_option maxRecDepth 65536 in
theorem w_c10 : (Jvm.Cond.code ({ cls := "com/example/workflow_soundness/workflowsoundness/analysis/GraphReachedPinLaw", name := "some", desc := "([I[I[ZI)Z" } : Jvm.MethodName) method_8_code (4 : Nat) (Option.some Jvm.ClassFile.FieldType.boolean)).before args0 about1 = true := code_word (m := ⟨1, 7⟩) (meth := k1m7) (c := k1c7) (by decide +kernel) rfl rfl rfl (by decide +kernel)
set_option maxRecDepth 65536 in
theorem w_c11 : (Jvm.Cond.code ({ cls := "com/example/workflow_soundness/workflowsoundness/analysis/GraphReachedPinLaw", name := "inFrom", desc := "([I[I[ZII)Z" } : Jvm.MethodName) method_7_code (5 : Nat) (Option.some Jvm.ClassFile.FieldType.boolean)).before args0 about1 = true := code_word (m := ⟨1, 6⟩) (meth := k1m6) (c := k1c6) (by decide +kernel) rfl rfl rfl (by decide +kernel)
set_option maxRecDepth 65536 in
theorem w_c12 : (Jvm.Cond.code ({ cls := "com/example/workflow_soundness/workflowsoundness/analysis/GraphReachedPinLaw", name := "all", desc := "([I[I[ZI)Z" } : Jvm.MethodName) method_10_code (4 : Nat) (Option.some Jvm.ClassFile.FieldType.boolean)).before args0 about1 = true := code_word (m := ⟨1, 9⟩) (meth := k1m9) (c := k1c9) (by decide +kernel) rfl rfl rfl (by decide +kernel)
set_option maxRecDepth 65536 in
theorem w_c13 : (Jvm.Cond.code ({ cls := "com/example/workflow_soundness/workflowsoundness/analysis/GraphReachedPinLaw", name := "okEdge", desc := "([I[I[ZII)Z" } : Jvm.MethodName) method_9_code (5 : Nat) (Option.some Jvm.ClassFile.FieldType.boolean)).before args0 about1 = true := code_word (m := ⟨1, 8⟩) (meth := k1m8) (c := k1c8) (by decide +kernel) rfl rfl rfl (by decide +kernel)
def codes1 : List Jvm.Cond := [Jvm.Cond.code x code maxLocals ret, Jvm.Cond.code ({ cls := "com/example/workflow_soundness/workflowsoundness/analysis/GraphReachedPinLaw", name := "src", desc := "(IIII)I" } : Jvm.MethodName) method_3_code (4 : Nat) (Option.some Jvm.ClassFile.FieldType.int), Jvm.Cond.code ({ cls := "com/example/workflow_soundness/workflowsoundness/analysis/GraphReachedPinLaw", name := "isStart", desc := "(IIIII)Z" } : Jvm.MethodName) method_4_code (5 : Nat) (Option.some Jvm.ClassFile.FieldType.boolean), Jvm.Cond.code ({ cls := "com/example/workflow_soundness/workflowsoundness/analysis/Graph", name := "<init>", desc := "([I[I)V" } : Jvm.MethodName) prog_23_method_1_code (3 : Nat) (Option.none : Option Jvm.ClassFile.FieldType), Jvm.Cond.code ({ cls := "java/lang/Object", name := "<init>", desc := "()V" } : Jvm.MethodName) object_method_1_code (1 : Nat) (Option.none : Option Jvm.ClassFile.FieldType), Jvm.Cond.code ({ cls := "com/example/workflow_soundness/workflowsoundness/analysis/Graph", name := "reached", desc := "([Z[I)[Z" } : Jvm.MethodName) prog_23_method_11_code (11 : Nat) (Option.some (Jvm.ClassFile.FieldType.array Jvm.ClassFile.FieldType.boolean)), Jvm.Cond.code ({ cls := "com/example/workflow_soundness/workflowsoundness/analysis/GraphReachedPinLaw", name := "step", desc := "([I[I[Z[Z)[Z" } : Jvm.MethodName) method_12_code (4 : Nat) (Option.some (Jvm.ClassFile.FieldType.array Jvm.ClassFile.FieldType.boolean)), Jvm.Cond.code ({ cls := "com/example/workflow_soundness/workflowsoundness/analysis/GraphReachedPinLaw", name := "next", desc := "([I[I[Z[ZI)Z" } : Jvm.MethodName) method_11_code (5 : Nat) (Option.some Jvm.ClassFile.FieldType.boolean), Jvm.Cond.code ({ cls := "com/example/workflow_soundness/workflowsoundness/analysis/GraphReachedPinLaw", name := "hasIn", desc := "([II)Z" } : Jvm.MethodName) method_6_code (2 : Nat) (Option.some Jvm.ClassFile.FieldType.boolean), Jvm.Cond.code ({ cls := "com/example/workflow_soundness/workflowsoundness/analysis/GraphReachedPinLaw", name := "into", desc := "([III)Z" } : Jvm.MethodName) method_5_code (3 : Nat) (Option.some Jvm.ClassFile.FieldType.boolean), Jvm.Cond.code ({ cls := "com/example/workflow_soundness/workflowsoundness/analysis/GraphReachedPinLaw", name := "some", desc := "([I[I[ZI)Z" } : Jvm.MethodName) method_8_code (4 : Nat) (Option.some Jvm.ClassFile.FieldType.boolean), Jvm.Cond.code ({ cls := "com/example/workflow_soundness/workflowsoundness/analysis/GraphReachedPinLaw", name := "inFrom", desc := "([I[I[ZII)Z" } : Jvm.MethodName) method_7_code (5 : Nat) (Option.some Jvm.ClassFile.FieldType.boolean), Jvm.Cond.code ({ cls := "com/example/workflow_soundness/workflowsoundness/analysis/GraphReachedPinLaw", name := "all", desc := "([I[I[ZI)Z" } : Jvm.MethodName) method_10_code (4 : Nat) (Option.some Jvm.ClassFile.FieldType.boolean), Jvm.Cond.code ({ cls := "com/example/workflow_soundness/workflowsoundness/analysis/GraphReachedPinLaw", name := "okEdge", desc := "([I[I[ZII)Z" } : Jvm.MethodName) method_9_code (5 : Nat) (Option.some Jvm.ClassFile.FieldType.boolean)]
set_option maxRecDepth 65536 in
theorem codes_eq : words1.filter isCode = codes1 := rfl
theorem w_codes : ∀ c ∈ words1.filter isCode, c.before args0 about1 = true := by
  rw [codes_eq]
  intro c hc
  simp only [codes1, List.mem_cons, List.not_mem_nil, or_false] at hc
  rcases hc with rfl | rfl | rfl | rfl | rfl | rfl | rfl | rfl | rfl | rfl | rfl | rfl | rfl | rfl
  · exact w_c0
  · exact w_c1
  · exact w_c2
  · exact w_c3
  · exact w_c4
  · exact w_c5
  · exact w_c6
  · exact w_c7
  · exact w_c8
  · exact w_c9
  · exact w_c10
  · exact w_c11
  · exact w_c12
  · exact w_c13
set_option maxRecDepth 65536 in
theorem w_t1 : (words1.take 24).all (fun c => isCode c || c.before args0 about1) = true := by decide +kernel
set_option maxRecDepth 65536 in
theorem w_t2 : ((words1.drop 24).take 24).all (fun c => isCode c || c.before args0 about1) = true := by decide +kernel
set_option maxRecDepth 65536 in
theorem w_t3 : ((words1.drop 24).drop 24).all (fun c => isCode c || c.before args0 about1) = true := by decide +kernel
theorem w_tables : (allAtoms (Jvm.Cond.code x code maxLocals ret :: tables_1)).before args0 about1 = true := by
  rw [allAtoms_all]
  show words1.all (fun c => c.before args0 about1) = true
  refine all_split ?_ w_codes
  rw [← List.take_append_drop 24 words1, List.all_append, w_t1, ← List.take_append_drop 24 (words1.drop 24), List.all_append, w_t2, w_t3]
  rfl
set_option maxRecDepth 65536 in
theorem w_case : (Jvm.Cond.and given_1 narrow_1).before args0 about1 = true := by decide +kernel
theorem w_applies : (headSpec (Jvm.Cond.code x code maxLocals ret :: tables_1) room_1).applies x e0.platform about1 = true :=
  (Spec.applies_iff w_frames).mpr ⟨w_running, w_runnable, w_alone, w_named, w_hears, w_ripe, w_room, w_tables⟩
theorem atStart : AtStart classFile x code maxLocals ret World_1 tables_1 room_1 Calls_1 rest_1 Pre_1 launch0 p0 e0 about1 theMethod args0 below0 :=
  ⟨lists_1, trivial, launch0.admits_env _ _ _, launch0.least_env, fairChoices_fair.cas, fairChoices_fair.clock, w_frames, w_args, w_heap, w_applies, trivial, trivial, w_case⟩
end start1
theorem witness_1 : WitnessClaimed_1 := ⟨start1.p0, start1.e0, start1.about1, start1.theMethod, start1.args0, start1.below0, start1.atStart⟩
end Jvm.Pilot.@@N@@
