import JvmDerived
import JvmDerived.Pilot.@@N@@Statement
import JvmDerived.Pilot.@@N@@Code
set_option linter.unusedVariables false
set_option linter.unusedSimpArgs false
namespace Jvm.Pilot.@@N@@
open Jvm Jvm.ClassFile Sem Op Lib Jvm.Free Jvm.Stand Jvm.LawKit Jvm.RoadKit Bundle Jvm.Pilot.@@N@@.Jvm.D

/-! own layer: a run that ends well, step by step (every lemma here is of this text) -/
section Own
variable {p : Program} {l : Launch} {e : Env} {R : Room} {s : State} {m : MethodId} {args : Array Value} {below : List Frame} {meth : Method} {c : Code} {T : State} {locs : List Loc} {cells slots : Nat} {P : State → Outcome → Prop} {pc pc' pc1 : Nat} {L L' : Array Slot} {S : List Value} {Z : State} {a0 : Array Value} {h : Heap}
/-- from this frame the run ends, and P holds of the end -/
def Ends (p : Program) (e : Env) (below : List Frame) (P : State → Outcome → Prop) (T : State) (m : MethodId) (pc : Nat) (L : Array Slot) (S : List Value) : Prop :=
  ∃ t o, Steps p.tables e below (T.setTop (mkF m pc L S)) t ∧ t.status = .running ∧ Ended t below o ∧ P t o
theorem Ends.of {T' : State} {S' : List Value} (k : Ends p e below P T' m pc' L' S') (h : ∀ target, Steps p.tables e below (T'.setTop (mkF m pc' L' S')) target → Steps p.tables e below (T.setTop (mkF m pc L S)) target) : Ends p e below P T m pc L S := by
  obtain ⟨t, o, h1, h2⟩ := k; exact ⟨t, o, h _ h1, h2⟩
theorem eILoadN (X : Stand p l e R s m args below meth c T locs cells slots) (hx : p.tables.exec = Jvm.exec) {k : Fin 4} {v : Int32} (hd : decode c.code pc = .ok (.iload_n k, 1)) (hl : L[k.val]? = some (.val (.int v))) (hp : pc + 1 = pc') (kk : Ends p e below P T m pc' L (.int v :: S)) : Ends p e below P T m pc L S := by
  subst hp; exact kk.of fun t h => XS.iloadN X.here hx rfl hd hl h
theorem eILoad (X : Stand p l e R s m args below meth c T locs cells slots) (hx : p.tables.exec = Jvm.exec) {k : Nat} {v : Int32} (hd : decode c.code pc = .ok (.iload k, 2)) (hl : L[k]? = some (.val (.int v))) (hp : pc + 2 = pc') (kk : Ends p e below P T m pc' L (.int v :: S)) : Ends p e below P T m pc L S := by
  subst hp; exact kk.of fun t h => XS.iload X.here hx rfl hd hl h
theorem eLLoadN (X : Stand p l e R s m args below meth c T locs cells slots) (hx : p.tables.exec = Jvm.exec) {k : Fin 4} {v : Int64} (hd : decode c.code pc = .ok (.lload_n k, 1)) (hl : L[k.val]? = some (.val (.long v))) (hp : pc + 1 = pc') (kk : Ends p e below P T m pc' L (.long v :: S)) : Ends p e below P T m pc L S := by
  subst hp; exact kk.of fun t h => XT.lloadN X.here hx rfl hd hl h
theorem eLLoad (X : Stand p l e R s m args below meth c T locs cells slots) (hx : p.tables.exec = Jvm.exec) {k : Nat} {v : Int64} (hd : decode c.code pc = .ok (.lload k, 2)) (hl : L[k]? = some (.val (.long v))) (hp : pc + 2 = pc') (kk : Ends p e below P T m pc' L (.long v :: S)) : Ends p e below P T m pc L S := by
  subst hp; exact kk.of fun t h => XT.lload X.here hx rfl hd hl h
theorem eALoadN (X : Stand p l e R s m args below meth c T locs cells slots) (hx : p.tables.exec = Jvm.exec) {k : Fin 4} {v : Value} (hd : decode c.code pc = .ok (.aload_n k, 1)) (hl : L[k.val]? = some (.val v)) (hv : v.isRef = true) (hp : pc + 1 = pc') (kk : Ends p e below P T m pc' L (v :: S)) : Ends p e below P T m pc L S := by
  subst hp; exact kk.of fun t h => XS.aloadN X.here hx rfl hd hl hv h
theorem eALoad (X : Stand p l e R s m args below meth c T locs cells slots) (hx : p.tables.exec = Jvm.exec) {k : Nat} {v : Value} (hd : decode c.code pc = .ok (.aload k, 2)) (hl : L[k]? = some (.val v)) (hv : v.isRef = true) (hp : pc + 2 = pc') (kk : Ends p e below P T m pc' L (v :: S)) : Ends p e below P T m pc L S := by
  subst hp; exact kk.of fun t h => XS.aload X.here hx rfl hd hl hv h
theorem eIStoreN (X : Stand p l e R s m args below meth c T locs cells slots) (hx : p.tables.exec = Jvm.exec) {k : Fin 4} {v : Int32} (hd : decode c.code pc = .ok (.istore_n k, 1)) (hl : storeLocals L k.val (.int v) = some L') (hp : pc + 1 = pc') (kk : Ends p e below P T m pc' L' S) : Ends p e below P T m pc L (.int v :: S) := by
  subst hp; exact kk.of fun t h => XS.istoreN X.here hx rfl hd rfl hl h
theorem eIStore (X : Stand p l e R s m args below meth c T locs cells slots) (hx : p.tables.exec = Jvm.exec) {k : Nat} {v : Int32} (hd : decode c.code pc = .ok (.istore k, 2)) (hl : storeLocals L k (.int v) = some L') (hp : pc + 2 = pc') (kk : Ends p e below P T m pc' L' S) : Ends p e below P T m pc L (.int v :: S) := by
  subst hp; exact kk.of fun t h => XS.istore X.here hx rfl hd rfl hl h
theorem eLStoreN (X : Stand p l e R s m args below meth c T locs cells slots) (hx : p.tables.exec = Jvm.exec) {k : Fin 4} {v : Int64} (hd : decode c.code pc = .ok (.lstore_n k, 1)) (hl : storeLocals L k.val (.long v) = some L') (hp : pc + 1 = pc') (kk : Ends p e below P T m pc' L' S) : Ends p e below P T m pc L (.long v :: S) := by
  subst hp; exact kk.of fun t h => XT.lstoreN X.here hx rfl hd rfl hl h
theorem eLStore (X : Stand p l e R s m args below meth c T locs cells slots) (hx : p.tables.exec = Jvm.exec) {k : Nat} {v : Int64} (hd : decode c.code pc = .ok (.lstore k, 2)) (hl : storeLocals L k (.long v) = some L') (hp : pc + 2 = pc') (kk : Ends p e below P T m pc' L' S) : Ends p e below P T m pc L (.long v :: S) := by
  subst hp; exact kk.of fun t h => XT.lstore X.here hx rfl hd rfl hl h
theorem eAStoreN (X : Stand p l e R s m args below meth c T locs cells slots) (hx : p.tables.exec = Jvm.exec) {k : Fin 4} {v : Value} (hd : decode c.code pc = .ok (.astore_n k, 1)) (hv : v.isRef = true) (hl : storeLocals L k.val v = some L') (hp : pc + 1 = pc') (kk : Ends p e below P T m pc' L' S) : Ends p e below P T m pc L (v :: S) := by
  subst hp; exact kk.of fun t h => XS.astoreN X.here hx rfl hd rfl hv hl h
theorem eAStore (X : Stand p l e R s m args below meth c T locs cells slots) (hx : p.tables.exec = Jvm.exec) {k : Nat} {v : Value} (hd : decode c.code pc = .ok (.astore k, 2)) (hv : v.isRef = true) (hl : storeLocals L k v = some L') (hp : pc + 2 = pc') (kk : Ends p e below P T m pc' L' S) : Ends p e below P T m pc L (v :: S) := by
  subst hp; exact kk.of fun t h => XS.astore X.here hx rfl hd rfl hv hl h
theorem eIConst (X : Stand p l e R s m args below meth c T locs cells slots) (hx : p.tables.exec = Jvm.exec) {i : Int} (v : Int32) (hd : decode c.code pc = .ok (.iconst i, 1)) (hv : Int32.ofInt i = v) (hp : pc + 1 = pc') (kk : Ends p e below P T m pc' L (.int v :: S)) : Ends p e below P T m pc L S := by
  subst hp hv; exact kk.of fun t h => XS.iconst X.here hx rfl hd h
theorem eBipush (X : Stand p l e R s m args below meth c T locs cells slots) (hx : p.tables.exec = Jvm.exec) {i : Int} (v : Int32) (hd : decode c.code pc = .ok (.bipush i, 2)) (hv : (Int8.ofInt i).toInt32 = v) (hp : pc + 2 = pc') (kk : Ends p e below P T m pc' L (.int v :: S)) : Ends p e below P T m pc L S := by
  subst hp hv; exact kk.of fun t h => XS.bipush X.here hx rfl hd h
theorem eSipush (X : Stand p l e R s m args below meth c T locs cells slots) (hx : p.tables.exec = Jvm.exec) {i : Int} (v : Int32) (hd : decode c.code pc = .ok (.sipush i, 3)) (hv : (Int16.ofInt i).toInt32 = v) (hp : pc + 3 = pc') (kk : Ends p e below P T m pc' L (.int v :: S)) : Ends p e below P T m pc L S := by
  subst hp hv; exact kk.of fun t h => XS.sipush X.here hx rfl hd h
theorem eLConst (X : Stand p l e R s m args below meth c T locs cells slots) (hx : p.tables.exec = Jvm.exec) {k : Fin 2} (v : Int64) (hd : decode c.code pc = .ok (.lconst k, 1)) (hv : Int64.ofNat k = v) (hp : pc + 1 = pc') (kk : Ends p e below P T m pc' L (.long v :: S)) : Ends p e below P T m pc L S := by
  subst hp; exact kk.of fun t h => XT.lconstV X.here hx rfl v hd hv h
theorem eNull (X : Stand p l e R s m args below meth c T locs cells slots) (hx : p.tables.exec = Jvm.exec) (hd : decode c.code pc = .ok (.aconst_null, 1)) (hp : pc + 1 = pc') (kk : Ends p e below P T m pc' L (.null :: S)) : Ends p e below P T m pc L S := by
  subst hp; exact kk.of fun t h => XS.aconstNull X.here hx rfl hd h
theorem eLdcI (X : Stand p l e R s m args below meth c T locs cells slots) (hx : p.tables.exec = Jvm.exec) (hZ : Z.Warmed39 s.vm) {own : String} {index : Nat} {v : Int32} (hown : s.vm.findClass own = some m.cls) (w : (Cond.constant own index v).before a0 Z = true) (hd : decode c.code pc = .ok (.ldc index, 2)) (hp : pc + 2 = pc') (kk : Ends p e below P T m pc' L (.int v :: S)) : Ends p e below P T m pc L S := by
  subst hp; exact kk.of fun t h => X.ldcI hx hown (mvT hZ w) rfl hd h
theorem eLdcWI (X : Stand p l e R s m args below meth c T locs cells slots) (hx : p.tables.exec = Jvm.exec) (hZ : Z.Warmed39 s.vm) {own : String} {index : Nat} {v : Int32} (hown : s.vm.findClass own = some m.cls) (w : (Cond.constant own index v).before a0 Z = true) (hd : decode c.code pc = .ok (.ldc_w index, 3)) (hp : pc + 3 = pc') (kk : Ends p e below P T m pc' L (.int v :: S)) : Ends p e below P T m pc L S := by
  subst hp; exact kk.of fun t h => X.ldcWI hx hown (mvT hZ w) rfl hd h
theorem eLdc2J (X : Stand p l e R s m args below meth c T locs cells slots) (hx : p.tables.exec = Jvm.exec) (hZ : Z.Warmed39 s.vm) {own : String} {index : Nat} {v : Int64} (hown : s.vm.findClass own = some m.cls) (w : (Cond.constantLong own index v).before a0 Z = true) (hd : decode c.code pc = .ok (.ldc2_w index, 3)) (hp : pc + 3 = pc') (kk : Ends p e below P T m pc' L (.long v :: S)) : Ends p e below P T m pc L S := by
  subst hp; exact kk.of fun t h => X.ldc2J hx hown (mvT hZ w) rfl hd h
theorem eIAdd (X : Stand p l e R s m args below meth c T locs cells slots) (hx : p.tables.exec = Jvm.exec) {x y : Int32} (hd : decode c.code pc = .ok (.iadd, 1)) (hp : pc + 1 = pc') (kk : Ends p e below P T m pc' L (.int (x + y) :: S)) : Ends p e below P T m pc L (.int y :: .int x :: S) := by
  subst hp; exact kk.of fun t h => XS.iadd X.here hx rfl hd rfl h
theorem eISub (X : Stand p l e R s m args below meth c T locs cells slots) (hx : p.tables.exec = Jvm.exec) {x y : Int32} (hd : decode c.code pc = .ok (.isub, 1)) (hp : pc + 1 = pc') (kk : Ends p e below P T m pc' L (.int (x - y) :: S)) : Ends p e below P T m pc L (.int y :: .int x :: S) := by
  subst hp; exact kk.of fun t h => XS.isub X.here hx rfl hd rfl h
theorem eIMul (X : Stand p l e R s m args below meth c T locs cells slots) (hx : p.tables.exec = Jvm.exec) {x y : Int32} (hd : decode c.code pc = .ok (.imul, 1)) (hp : pc + 1 = pc') (kk : Ends p e below P T m pc' L (.int (x * y) :: S)) : Ends p e below P T m pc L (.int y :: .int x :: S) := by
  subst hp; exact kk.of fun t h => XS.imul X.here hx rfl hd rfl h
theorem eIAnd (X : Stand p l e R s m args below meth c T locs cells slots) (hx : p.tables.exec = Jvm.exec) {x y : Int32} (hd : decode c.code pc = .ok (.iand, 1)) (hp : pc + 1 = pc') (kk : Ends p e below P T m pc' L (.int (x &&& y) :: S)) : Ends p e below P T m pc L (.int y :: .int x :: S) := by
  subst hp; exact kk.of fun t h => XS.iand X.here hx rfl hd rfl h
theorem eIDiv (X : Stand p l e R s m args below meth c T locs cells slots) (hx : p.tables.exec = Jvm.exec) {x y : Int32} (hd : decode c.code pc = .ok (.idiv, 1)) (hy : y ≠ 0) (hp : pc + 1 = pc') (kk : Ends p e below P T m pc' L (.int (x / y) :: S)) : Ends p e below P T m pc L (.int y :: .int x :: S) := by
  subst hp; exact kk.of fun t h => XS.idiv X.here hx rfl hd rfl hy h
theorem eIRem (X : Stand p l e R s m args below meth c T locs cells slots) (hx : p.tables.exec = Jvm.exec) {x y : Int32} (hd : decode c.code pc = .ok (.irem, 1)) (hy : y ≠ 0) (hp : pc + 1 = pc') (kk : Ends p e below P T m pc' L (.int (x % y) :: S)) : Ends p e below P T m pc L (.int y :: .int x :: S) := by
  subst hp; exact kk.of fun t h => iremM X hx rfl hd rfl hy h
theorem eIShr (X : Stand p l e R s m args below meth c T locs cells slots) (hx : p.tables.exec = Jvm.exec) {x y : Int32} (hd : decode c.code pc = .ok (.ishr, 1)) (hp : pc + 1 = pc') (kk : Ends p e below P T m pc' L (.int (x >>> (y &&& 31)) :: S)) : Ends p e below P T m pc L (.int y :: .int x :: S) := by
  subst hp; exact kk.of fun t h => XS.ishr X.here hx rfl hd rfl h
theorem eIUshr (X : Stand p l e R s m args below meth c T locs cells slots) (hx : p.tables.exec = Jvm.exec) {x y : Int32} (hd : decode c.code pc = .ok (.iushr, 1)) (hp : pc + 1 = pc') (kk : Ends p e below P T m pc' L (.int ((x.toUInt32 >>> (y &&& 31).toUInt32).toInt32) :: S)) : Ends p e below P T m pc L (.int y :: .int x :: S) := by
  subst hp; exact kk.of fun t h => XS.iushr X.here hx rfl hd rfl h
theorem eI2C (X : Stand p l e R s m args below meth c T locs cells slots) (hx : p.tables.exec = Jvm.exec) {x : Int32} (hd : decode c.code pc = .ok (.i2c, 1)) (hp : pc + 1 = pc') (kk : Ends p e below P T m pc' L (.int (x.toUInt32.toUInt16.toUInt32.toInt32) :: S)) : Ends p e below P T m pc L (.int x :: S) := by
  subst hp; exact kk.of fun t h => XS.i2c X.here hx rfl hd rfl h
theorem eI2B (X : Stand p l e R s m args below meth c T locs cells slots) (hx : p.tables.exec = Jvm.exec) {x : Int32} (hd : decode c.code pc = .ok (.i2b, 1)) (hp : pc + 1 = pc') (kk : Ends p e below P T m pc' L (.int (x.toInt8.toInt32) :: S)) : Ends p e below P T m pc L (.int x :: S) := by
  subst hp; exact kk.of fun t h => XS.i2b X.here hx rfl hd rfl h
theorem eI2L (X : Stand p l e R s m args below meth c T locs cells slots) (hx : p.tables.exec = Jvm.exec) {x : Int32} (hd : decode c.code pc = .ok (.i2l, 1)) (hp : pc + 1 = pc') (kk : Ends p e below P T m pc' L (.long (x.toInt64) :: S)) : Ends p e below P T m pc L (.int x :: S) := by
  subst hp; exact kk.of fun t h => XS.i2l X.here hx rfl hd rfl h
theorem eLAdd (X : Stand p l e R s m args below meth c T locs cells slots) (hx : p.tables.exec = Jvm.exec) {x y : Int64} (hd : decode c.code pc = .ok (.ladd, 1)) (hp : pc + 1 = pc') (kk : Ends p e below P T m pc' L (.long (x + y) :: S)) : Ends p e below P T m pc L (.long y :: .long x :: S) := by
  subst hp; exact kk.of fun t h => XS.ladd X.here hx rfl hd rfl h
theorem eLSub (X : Stand p l e R s m args below meth c T locs cells slots) (hx : p.tables.exec = Jvm.exec) {x y : Int64} (hd : decode c.code pc = .ok (.lsub, 1)) (hp : pc + 1 = pc') (kk : Ends p e below P T m pc' L (.long (x - y) :: S)) : Ends p e below P T m pc L (.long y :: .long x :: S) := by
  subst hp; exact kk.of fun t h => XS.lsub X.here hx rfl hd rfl h
theorem eLAnd (X : Stand p l e R s m args below meth c T locs cells slots) (hx : p.tables.exec = Jvm.exec) {x y : Int64} (hd : decode c.code pc = .ok (.land, 1)) (hp : pc + 1 = pc') (kk : Ends p e below P T m pc' L (.long (x &&& y) :: S)) : Ends p e below P T m pc L (.long y :: .long x :: S) := by
  subst hp; exact kk.of fun t h => XS.land X.here hx rfl hd rfl h
theorem eLOr (X : Stand p l e R s m args below meth c T locs cells slots) (hx : p.tables.exec = Jvm.exec) {x y : Int64} (hd : decode c.code pc = .ok (.lor, 1)) (hp : pc + 1 = pc') (kk : Ends p e below P T m pc' L (.long (x ||| y) :: S)) : Ends p e below P T m pc L (.long y :: .long x :: S) := by
  subst hp; exact kk.of fun t h => XS.lor X.here hx rfl hd rfl h
theorem eLShl (X : Stand p l e R s m args below meth c T locs cells slots) (hx : p.tables.exec = Jvm.exec) {x : Int64} {y : Int32} (hd : decode c.code pc = .ok (.lshl, 1)) (hp : pc + 1 = pc') (kk : Ends p e below P T m pc' L (.long (x <<< (y &&& 0x3f).toInt64) :: S)) : Ends p e below P T m pc L (.int y :: .long x :: S) := by
  subst hp; exact kk.of fun t h => XS.lshl X.here hx rfl hd rfl h
theorem eLShr (X : Stand p l e R s m args below meth c T locs cells slots) (hx : p.tables.exec = Jvm.exec) {x : Int64} {y : Int32} (hd : decode c.code pc = .ok (.lshr, 1)) (hp : pc + 1 = pc') (kk : Ends p e below P T m pc' L (.long (x >>> (y &&& 0x3f).toInt64) :: S)) : Ends p e below P T m pc L (.int y :: .long x :: S) := by
  subst hp; exact kk.of fun t h => XS.lshr X.here hx rfl hd rfl h
theorem eLDiv (X : Stand p l e R s m args below meth c T locs cells slots) (hx : p.tables.exec = Jvm.exec) {x y : Int64} (hd : decode c.code pc = .ok (.ldiv, 1)) (hy : y ≠ 0) (hp : pc + 1 = pc') (kk : Ends p e below P T m pc' L (.long (x / y) :: S)) : Ends p e below P T m pc L (.long y :: .long x :: S) := by
  subst hp; exact kk.of fun t h => XT.ldiv X.here hx rfl hd rfl hy h
theorem eLRem (X : Stand p l e R s m args below meth c T locs cells slots) (hx : p.tables.exec = Jvm.exec) {x y : Int64} (hd : decode c.code pc = .ok (.lrem, 1)) (hy : y ≠ 0) (hp : pc + 1 = pc') (kk : Ends p e below P T m pc' L (.long (x % y) :: S)) : Ends p e below P T m pc L (.long y :: .long x :: S) := by
  subst hp; exact kk.of fun t h => XT.lrem X.here hx rfl hd rfl hy (by first | exact h | (rw [lrem_mod]; exact h))
theorem eLNeg (X : Stand p l e R s m args below meth c T locs cells slots) (hx : p.tables.exec = Jvm.exec) {x : Int64} (hd : decode c.code pc = .ok (.lneg, 1)) (hp : pc + 1 = pc') (kk : Ends p e below P T m pc' L (.long (-x) :: S)) : Ends p e below P T m pc L (.long x :: S) := by
  subst hp; exact kk.of fun t h => XT.lneg X.here hx rfl hd rfl h
theorem eLCmp (X : Stand p l e R s m args below meth c T locs cells slots) (hx : p.tables.exec = Jvm.exec) {x y : Int64} (hd : decode c.code pc = .ok (.lcmp, 1)) (hp : pc + 1 = pc') (kk : Ends p e below P T m pc' L (.int (XT.cmpL x y) :: S)) : Ends p e below P T m pc L (.long y :: .long x :: S) := by
  subst hp; exact kk.of fun t h => XT.lcmp X.here hx rfl hd rfl h
theorem eDup (X : Stand p l e R s m args below meth c T locs cells slots) (hx : p.tables.exec = Jvm.exec) {v : Value} (hd : decode c.code pc = .ok (.dup, 1)) (hc : v.category = 1) (hp : pc + 1 = pc') (kk : Ends p e below P T m pc' L (v :: v :: S)) : Ends p e below P T m pc L (v :: S) := by
  subst hp; exact kk.of fun t h => XS.dup X.here hx rfl hd rfl hc h
theorem ePop (X : Stand p l e R s m args below meth c T locs cells slots) (hx : p.tables.exec = Jvm.exec) {v : Value} (hd : decode c.code pc = .ok (.pop, 1)) (hc : v.category = 1) (hp : pc + 1 = pc') (kk : Ends p e below P T m pc' L S) : Ends p e below P T m pc L (v :: S) := by
  subst hp; exact kk.of fun t h => XT.pop X.here hx rfl hd rfl hc h
theorem eDupX1 (X : Stand p l e R s m args below meth c T locs cells slots) (hx : p.tables.exec = Jvm.exec) {v w : Value} (hd : decode c.code pc = .ok (.dup_x1, 1)) (hc : v.category = 1) (hc' : w.category = 1) (hp : pc + 1 = pc') (kk : Ends p e below P T m pc' L (v :: w :: v :: S)) : Ends p e below P T m pc L (v :: w :: S) := by
  subst hp; exact kk.of fun t h => XT.dupX1 X.here hx rfl hd rfl hc hc' h
theorem eDup2 (X : Stand p l e R s m args below meth c T locs cells slots) (hx : p.tables.exec = Jvm.exec) {v w : Value} (hd : decode c.code pc = .ok (.dup2, 1)) (hc : v.category = 1) (hc' : w.category = 1) (hp : pc + 1 = pc') (kk : Ends p e below P T m pc' L (v :: w :: v :: w :: S)) : Ends p e below P T m pc L (v :: w :: S) := by
  subst hp; exact kk.of fun t h => XT.dup2 X.here hx rfl hd rfl hc hc' h
theorem eDupX2 (X : Stand p l e R s m args below meth c T locs cells slots) (hx : p.tables.exec = Jvm.exec) {v w u : Value} (hd : decode c.code pc = .ok (.dup_x2, 1)) (hc : v.category = 1) (hc' : w.category = 1) (hc2 : u.category = 1) (hp : pc + 1 = pc') (kk : Ends p e below P T m pc' L (v :: w :: u :: v :: S)) : Ends p e below P T m pc L (v :: w :: u :: S) := by
  subst hp
  refine kk.of fun t h => ?_
  jvm_step X.here [X.here.top, hx, hd, hc, hc', hc2]
  exact h
theorem eIInc (X : Stand p l e R s m args below meth c T locs cells slots) (hx : p.tables.exec = Jvm.exec) {k : Nat} {cst : Int} {x : Int32} (v : Int32) (hd : decode c.code pc = .ok (.iinc k cst, 3)) (hv : Int32.ofInt cst = v) (hl : L[k]? = some (.val (.int x))) (hl' : storeLocals L k (.int (x + v)) = some L') (hp : pc + 3 = pc') (kk : Ends p e below P T m pc' L' S) : Ends p e below P T m pc L S := by
  subst hp hv; exact kk.of fun t h => XS.iinc X.here hx rfl hd hl hl' h
theorem eGoto (X : Stand p l e R s m args below meth c T locs cells slots) (hx : p.tables.exec = Jvm.exec) {o : Int} (hd : decode c.code pc = .ok (.goto o, 3)) (ho : 0 ≤ (pc : Int) + o) (hp : ((pc : Int) + o).toNat = pc') (kk : Ends p e below P T m pc' L S) : Ends p e below P T m pc L S :=
  kk.of fun t h => XS.goto X.here hx rfl rfl hd ho hp h
theorem eIfY (X : Stand p l e R s m args below meth c T locs cells slots) (hx : p.tables.exec = Jvm.exec) {cd : ClassFile.Cond} {x : Int32} {o : Int} (hd : decode c.code pc = .ok (.ifCond cd o, 3)) (hc : ifCond.holds cd x = true) (ho : 0 ≤ (pc : Int) + o) (hp : ((pc : Int) + o).toNat = pc') (kk : Ends p e below P T m pc' L S) : Ends p e below P T m pc L (.int x :: S) :=
  kk.of fun t h => XS.ifYes X.here hx rfl rfl hd rfl hc ho hp h
theorem eIfN (X : Stand p l e R s m args below meth c T locs cells slots) (hx : p.tables.exec = Jvm.exec) {cd : ClassFile.Cond} {x : Int32} {o : Int} (hd : decode c.code pc = .ok (.ifCond cd o, 3)) (hc : ifCond.holds cd x = false) (hp : pc + 3 = pc') (kk : Ends p e below P T m pc' L S) : Ends p e below P T m pc L (.int x :: S) := by
  subst hp; exact kk.of fun t h => XS.ifNo X.here hx rfl hd rfl hc h
theorem eIcmpY (X : Stand p l e R s m args below meth c T locs cells slots) (hx : p.tables.exec = Jvm.exec) {cd : ClassFile.Cond} {x y : Int32} {o : Int} (hd : decode c.code pc = .ok (.if_icmp cd o, 3)) (hc : if_icmp.holds cd x y = true) (ho : 0 ≤ (pc : Int) + o) (hp : ((pc : Int) + o).toNat = pc') (kk : Ends p e below P T m pc' L S) : Ends p e below P T m pc L (.int y :: .int x :: S) :=
  kk.of fun t h => XS.icmpYes X.here hx rfl rfl hd rfl hc ho hp h
theorem eIcmpN (X : Stand p l e R s m args below meth c T locs cells slots) (hx : p.tables.exec = Jvm.exec) {cd : ClassFile.Cond} {x y : Int32} {o : Int} (hd : decode c.code pc = .ok (.if_icmp cd o, 3)) (hc : if_icmp.holds cd x y = false) (hp : pc + 3 = pc') (kk : Ends p e below P T m pc' L S) : Ends p e below P T m pc L (.int y :: .int x :: S) := by
  subst hp; exact kk.of fun t h => XS.icmpNo X.here hx rfl hd rfl hc h
/-! steps that read or write the heap -/
theorem eGetF (X : Stand p l e R s m args below meth c T locs cells slots) (hx : p.tables.exec = Jvm.exec) (hZ : Z.Warmed39 s.vm) {own R0 O n d : String} {index : Nat} (hown : s.vm.findClass own = some m.cls) (w : (Cond.fieldLink own index R0 n d).before a0 Z = true) (via : Via Z R0 O n d) (eT : T.heap = h) {a : Addr} {v : Value} (F : Fld Z h a O n d v) (hd : decode c.code pc = .ok (.getfield index, 3)) (hp : pc + 3 = pc')
    (kk : ∀ T', Stand p l e R s m args below meth c T' locs cells slots → T'.heap = h → Ends p e below P T' m pc' L (v :: S)) : Ends p e below P T m pc L (.ref a :: S) := by
  subst hp
  obtain ⟨T', X', e', st⟩ := getF X hx hZ hown (host := "") (Or.inl w) via eT F (g := mkF m pc L (.ref a :: S)) rfl rfl hd
  exact (kk T' X' e').of st
theorem ePutF (X : Stand p l e R s m args below meth c T locs cells slots) (hx : p.tables.exec = Jvm.exec) (hZ : Z.Warmed39 s.vm) {own R0 O n d C : String} {index kk0 : Nat} {ty : FieldType} (hown : s.vm.findClass own = some m.cls) (w : (Cond.fieldLink own index R0 n d).before a0 Z = true) (via : Via Z R0 O n d) (eT : T.heap = h) {a : Addr} {v old : Value} (F : Fld Z h a O n d old) (E : Exa Z h a C) (La : (Cond.lays C O n d).before a0 Z = true ∨ ((Cond.laysFinal C O n d).before a0 Z = true ∧ own = O ∧ meth.name = "<init>")) (wi : (Cond.instantiable C kk0).before a0 Z = true) (hty : parseFieldDescriptor d = some ty) (hn : narrow ty v = v) (hf : fits ty v = true) (hd : decode c.code pc = .ok (.putfield index, 3)) (hp : pc + 3 = pc')
    (kk : ∀ T' h', Stand p l e R s m args below meth c T' (locs ++ [⟨a, Jvm.RoadKit.slotOf Z O n d⟩]) cells slots → T'.heap = h' → Wr h h' a (Jvm.RoadKit.slotOf Z O n d) v → Ends p e below P T' m pc' L S) : Ends p e below P T m pc L (v :: .ref a :: S) := by
  subst hp
  obtain ⟨T', h', X', e', W, st⟩ := putF X hx hZ hown (host := "") (Or.inl w) via eT F E La wi hty hn hf (g := mkF m pc L (v :: .ref a :: S)) rfl rfl hd
  exact (kk T' h' X' e' W).of st
theorem eNewO (X : Stand p l e R s m args below meth c T locs cells slots) (hx : p.tables.exec = Jvm.exec) (hZ : Z.Warmed39 s.vm) {own C : String} {index n : Nat} (hown : s.vm.findClass own = some m.cls) (w : (Cond.classLink own index C).before a0 Z = true) (wi : (Cond.instantiable C n).before a0 Z = true) (wz : (Cond.initialized C).before a0 Z = true) (eT : T.heap = h) (hd : decode c.code pc = .ok (.new index, 3)) (hc : cells + 1 ≤ R.cells) (hl : slots + n ≤ R.slots) (hp : pc + 3 = pc')
    (kk : ∀ T' h' a, a = h.size → Stand p l e R s m args below meth c T' locs (cells + 1) (slots + n) → T'.heap = h' → Ext h h' → Exa Z h' a C → (∀ {O nm d : String} {ty : FieldType}, Laid Z a0 C O nm d → parseFieldDescriptor d = some ty → Fld Z h' a O nm d (defaultValue ty)) → Ends p e below P T' m pc' L (.ref a :: S)) : Ends p e below P T m pc L S := by
  subst hp
  obtain ⟨T', h', X', e', E, A, D, -, st⟩ := newO X hx hZ hown w wi wz eT (g := mkF m pc L S) rfl hd hc hl
  exact (kk T' h' _ rfl X' e' E A D).of st
theorem eInitO (X : Stand p l e R s m args below meth c T locs cells slots) (hx : p.tables.exec = Jvm.exec) (hZ : Z.Warmed39 s.vm) {own : String} {idx : Nat} (hown : s.vm.findClass own = some m.cls) (w1 : (Cond.methodLink own idx Lib.objectInit).before a0 Z = true) (w2 : (Cond.instanceMethod Lib.objectInit).before a0 Z = true) (w3 : (Cond.code Lib.objectInit object_method_1_code 1 none).before a0 Z = true) (eT : T.heap = h) (hsize : L.size = c.maxLocals) {a : Addr} (hd : decode c.code pc = .ok (.invokespecial idx, 3)) (hf : 1 ≤ R.frames) (W : Nat) (hW : 2 * 0 + (S.map fun v => v.category).sum ≤ W) (hl : W + 12 ≤ R.locals) (hp : pc + 3 = pc')
    (kk : ∀ T', Stand p l e R s m args below meth c T' locs cells slots → T'.heap = h → Ends p e below P T' m pc' L S) : Ends p e below P T m pc L (.ref a :: S) := by
  subst hp
  obtain ⟨T', X', e', st⟩ := initO X hx hZ hown w1 w2 w3 eT (g := mkF m pc L (.ref a :: S)) rfl hsize rfl hd hf hW hl
  exact (kk T' X' e').of st
theorem eGetS (X : Stand p l e R s m args below meth c T locs cells slots) (hx : p.tables.exec = Jvm.exec) (hZ : Z.Warmed39 s.vm) {own O n d : String} {index : Nat} (hown : s.vm.findClass own = some m.cls) (w : (Cond.fieldLink own index O n d).before a0 Z = true) (eT : T.heap = h) {v : Value} (F : Sta Z h O n d v) (hd : decode c.code pc = .ok (.getstatic index, 3)) (hp : pc + 3 = pc')
    (kk : ∀ T', Stand p l e R s m args below meth c T' locs cells slots → T'.heap = h → Ends p e below P T' m pc' L (v :: S)) : Ends p e below P T m pc L S := by
  subst hp
  obtain ⟨T', X', e', st⟩ := getS X hx hZ (host := "") hown w Via.refl eT F (g := mkF m pc L S) rfl hd
  exact (kk T' X' e').of st
theorem Sta.keep1 {h' : Heap} {a : Addr} {C C' n d : String} {v : Value} (F : Sta Z h C n d v) (K : Keep h h' [a]) (E : Exa Z h a C') : Sta Z h' C n d v := by
  obtain ⟨cf, i, k, f, st, cell, h1, h2, h3, h4, h5, h6, h7⟩ := F
  obtain ⟨c2, k2, e1, e2, e3, e4, e5⟩ := E
  refine ⟨cf, i, k, f, st, cell, h1, h2, h3, h4, K.2.1 st cell h5 (fun q => ?_), h6, h7⟩
  cases List.mem_singleton.mp q
  cases h5.symm.trans e1
  rw [h6] at e4; cases e4
/-! an array of ints, booleans, chars, bytes: its list of values -/
def Ar (Z : State) (h : Heap) (a : Addr) (ty : FieldType) (vs : List Int32) : Prop := ∃ cl : Cell, Arr Z h a cl ty ∧ cl.slots = (vs.map Value.int).toArray ∧ vs.length < 2 ^ 31
def InB (vs : List Int32) (j : Int32) : Prop := ¬ j < 0 ∧ j.toNatClampNeg < vs.length
def rd (vs : List Int32) (j : Int32) : Int32 := vs.getD j.toNatClampNeg 0
def wr (vs : List Int32) (j x : Int32) : List Int32 := vs.set j.toNatClampNeg x
variable {h' : Heap} {a b : Addr} {ty : FieldType} {vs : List Int32}
theorem inbL {j : Int32} {n : Nat} (hl : vs.length = n) (h : ¬ j < 0 ∧ j.toNatClampNeg < n) : InB vs j := ⟨h.1, hl ▸ h.2⟩
theorem Ar.lt (F : Ar Z h a ty vs) : a < h.size := by obtain ⟨cl, A, -⟩ := F; exact A.lt
theorem Ar.small (F : Ar Z h a ty vs) : vs.length < 2 ^ 31 := by obtain ⟨cl, A, e1, e2⟩ := F; exact e2
theorem Ar.ext (F : Ar Z h a ty vs) (E : Ext h h') : Ar Z h' a ty vs := by obtain ⟨cl, A, r⟩ := F; exact ⟨cl, A.ext E, r⟩
theorem Ar.other {sl : Nat} {v : Value} (F : Ar Z h b ty vs) (W : Wr h h' a sl v) (q : b ≠ a) : Ar Z h' b ty vs := by obtain ⟨cl, A, r⟩ := F; exact ⟨cl, A.other W q, r⟩
theorem Ar.keep {ws : List Addr} (F : Ar Z h a ty vs) (K : Keep h h' ws) (q : a ∉ ws) : Ar Z h' a ty vs := by obtain ⟨cl, A, r⟩ := F; exact ⟨cl, ⟨K.2.1 a cl A.1 q, A.2⟩, r⟩
theorem Ar.same {j x : Int32} (F : Ar Z h a ty vs) (W : Wr h h' a j.toNatClampNeg (.int x)) : Ar Z h' a ty (wr vs j x) := by
  obtain ⟨cl, A, e1, e2⟩ := F
  refine ⟨_, A.same W, ?_, by simpa [wr] using e2⟩
  show cl.slots.setIfInBounds _ _ = _
  rw [e1, wr, List.map_set]
  simp
theorem Ar.new {k : ClassId} {n : Int32} (A : Arr Z h a (newA k ty n) ty) (hn : ¬ n < 0) (hd : defaultValue ty = .int 0) : Ar Z h a ty (List.replicate n.toNatClampNeg 0) := by
  refine ⟨_, A, ?_, by simpa using (back32 hn).2⟩
  show Array.replicate n.toNatClampNeg (defaultValue ty) = _
  rw [hd, List.map_replicate]
  simp
theorem Ar.inb {cl : Cell} {j : Int32} (e1 : cl.slots = (vs.map Value.int).toArray) (q : InB vs j) : ¬ (j < 0 ∨ cl.slots.size ≤ j.toNatClampNeg) := by
  rw [e1]; simp only [List.size_toArray, List.length_map]
  exact fun z => z.elim q.1 (fun y => by have := q.2; omega)
theorem Ar.get {cl : Cell} {j : Int32} (e1 : cl.slots = (vs.map Value.int).toArray) (q : InB vs j) : cl.slots[j.toNatClampNeg]? = some (.int (rd vs j)) := by
  rw [e1]; have := q.2
  simp [rd, List.getElem?_eq_getElem this, List.getD_eq_getElem?_getD]
theorem eLen (X : Stand p l e R s m args below meth c T locs cells slots) (hx : p.tables.exec = Jvm.exec) (hZ : Z.Warmed39 s.vm) (eT : T.heap = h) (F : Ar Z h a ty vs) (n : Int32) (hn : Int32.ofNat vs.length = n) (hd : decode c.code pc = .ok (.arraylength, 1)) (hp : pc + 1 = pc') (kk : Ends p e below P T m pc' L (.int n :: S)) : Ends p e below P T m pc L (.ref a :: S) := by
  subst hp hn
  obtain ⟨cl, A, e1, e2⟩ := F
  refine kk.of fun t k => X.arraylength hx (by rw [eT]; exact A.1) (State.isArrayOf_alike hZ.alike A.2.1) (g := mkF m pc L (.ref a :: S)) rfl rfl hd _ ?_
  rw [e1]; simp only [List.size_toArray, List.length_map]; exact k
theorem eIALoad (X : Stand p l e R s m args below meth c T locs cells slots) (hx : p.tables.exec = Jvm.exec) (hZ : Z.Warmed39 s.vm) (eT : T.heap = h) (F : Ar Z h a .int vs) {j : Int32} (v : Int32) (hv : rd vs j = v) (q : InB vs j) (hd : decode c.code pc = .ok (.iaload, 1)) (hp : pc + 1 = pc') (kk : Ends p e below P T m pc' L (.int v :: S)) : Ends p e below P T m pc L (.int j :: .ref a :: S) := by
  subst hp hv
  obtain ⟨cl, A, e1, e2⟩ := F
  exact kk.of fun t k => X.iaload hx (by rw [eT]; exact A.1) (State.isArrayOf_alike hZ.alike A.2.1) A.2.2 (Ar.inb e1 q) (Ar.get e1 q) (g := mkF m pc L (.int j :: .ref a :: S)) rfl rfl hd _ k
theorem eCALoad (X : Stand p l e R s m args below meth c T locs cells slots) (hx : p.tables.exec = Jvm.exec) (hZ : Z.Warmed39 s.vm) (eT : T.heap = h) (F : Ar Z h a .char vs) {j : Int32} (v : Int32) (hv : rd vs j = v) (q : InB vs j) (hd : decode c.code pc = .ok (.caload, 1)) (hp : pc + 1 = pc') (kk : Ends p e below P T m pc' L (.int v :: S)) : Ends p e below P T m pc L (.int j :: .ref a :: S) := by
  subst hp hv
  obtain ⟨cl, A, e1, e2⟩ := F
  exact kk.of fun t k => X.caload hx (by rw [eT]; exact A.1) (State.isArrayOf_alike hZ.alike A.2.1) A.2.2 (Ar.inb e1 q) (Ar.get e1 q) (g := mkF m pc L (.int j :: .ref a :: S)) rfl rfl hd _ k
theorem eZALoad (X : Stand p l e R s m args below meth c T locs cells slots) (hx : p.tables.exec = Jvm.exec) (hZ : Z.Warmed39 s.vm) (eT : T.heap = h) (F : Ar Z h a .boolean vs) {j : Int32} (v : Int32) (hv : rd vs j = v) (q : InB vs j) (hd : decode c.code pc = .ok (.baload, 1)) (hp : pc + 1 = pc') (kk : Ends p e below P T m pc' L (.int v :: S)) : Ends p e below P T m pc L (.int j :: .ref a :: S) := by
  subst hp hv
  obtain ⟨cl, A, e1, e2⟩ := F
  exact kk.of fun t k => X.baloadBooleans hx (by rw [eT]; exact A.1) (State.isArrayOf_alike hZ.alike A.2.1) A.2.2 (Ar.inb e1 q) (Ar.get e1 q) (g := mkF m pc L (.int j :: .ref a :: S)) rfl rfl hd _ k
theorem eIAStore (X : Stand p l e R s m args below meth c T locs cells slots) (hx : p.tables.exec = Jvm.exec) (hZ : Z.Warmed39 s.vm) (eT : T.heap = h) (F : Ar Z h a .int vs) {j x : Int32} (q : InB vs j) (hd : decode c.code pc = .ok (.iastore, 1)) (hp : pc + 1 = pc')
    (kk : ∀ T' h', Stand p l e R s m args below meth c T' (locs ++ [⟨a, j.toNatClampNeg⟩]) cells slots → T'.heap = h' → Wr h h' a j.toNatClampNeg (.int x) → Ar Z h' a .int (wr vs j x) → Ends p e below P T' m pc' L S) : Ends p e below P T m pc L (.int x :: .int j :: .ref a :: S) := by
  subst hp
  have F0 := F
  obtain ⟨cl, A, e1, e2⟩ := F
  obtain ⟨T', h', X', e', W, st⟩ := stI X hx hZ eT A (Ar.inb e1 q) (g := mkF m pc L (.int x :: .int j :: .ref a :: S)) rfl rfl hd
  exact (kk T' h' X' e' W (F0.same W)).of st
theorem eCAStore (X : Stand p l e R s m args below meth c T locs cells slots) (hx : p.tables.exec = Jvm.exec) (hZ : Z.Warmed39 s.vm) (eT : T.heap = h) (F : Ar Z h a .char vs) {j x : Int32} (q : InB vs j) (hd : decode c.code pc = .ok (.castore, 1)) (hp : pc + 1 = pc')
    (kk : ∀ T' h', Stand p l e R s m args below meth c T' (locs ++ [⟨a, j.toNatClampNeg⟩]) cells slots → T'.heap = h' → Wr h h' a j.toNatClampNeg (.int (nar .char x)) → Ar Z h' a .char (wr vs j (nar .char x)) → Ends p e below P T' m pc' L S) : Ends p e below P T m pc L (.int x :: .int j :: .ref a :: S) := by
  subst hp
  have F0 := F
  obtain ⟨cl, A, e1, e2⟩ := F
  obtain ⟨T', h', X', e', W, st⟩ := stC X hx hZ eT A (Ar.inb e1 q) (g := mkF m pc L (.int x :: .int j :: .ref a :: S)) rfl rfl hd
  exact (kk T' h' X' e' W (F0.same W)).of st
theorem eZAStore (X : Stand p l e R s m args below meth c T locs cells slots) (hx : p.tables.exec = Jvm.exec) (hZ : Z.Warmed39 s.vm) (eT : T.heap = h) (F : Ar Z h a .boolean vs) {j x : Int32} (q : InB vs j) (hd : decode c.code pc = .ok (.bastore, 1)) (hp : pc + 1 = pc')
    (kk : ∀ T' h', Stand p l e R s m args below meth c T' (locs ++ [⟨a, j.toNatClampNeg⟩]) cells slots → T'.heap = h' → Wr h h' a j.toNatClampNeg (.int (nar .boolean x)) → Ar Z h' a .boolean (wr vs j (nar .boolean x)) → Ends p e below P T' m pc' L S) : Ends p e below P T m pc L (.int x :: .int j :: .ref a :: S) := by
  subst hp
  have F0 := F
  obtain ⟨cl, A, e1, e2⟩ := F
  obtain ⟨T', h', X', e', W, st⟩ := stZ X hx hZ eT A (Ar.inb e1 q) (g := mkF m pc L (.int x :: .int j :: .ref a :: S)) rfl rfl hd
  exact (kk T' h' X' e' W (F0.same W)).of st
theorem eNewA (X : Stand p l e R s m args below meth c T locs cells slots) (hx : p.tables.exec = Jvm.exec) (hZ : Z.Warmed39 s.vm) {aty : ArrayType} (hty : newarray.typeOf aty = ty) (hdf : defaultValue ty = .int 0) (w : (Cond.arrayClass ty).before a0 Z = true) (eT : T.heap = h) (hd : decode c.code pc = .ok (.newarray aty, 2)) {n : Int32} (hn : ¬ n < 0) {cap : Nat} (hcap : n.toNatClampNeg ≤ cap) (hb : cap * 8 ≤ 536870912) (hc : cells + 1 ≤ R.cells) (hl : slots + cap ≤ R.slots) (hp : pc + 2 = pc')
    (kk : ∀ T' h' a, a = h.size → Stand p l e R s m args below meth c T' locs (cells + 1) (slots + cap) → T'.heap = h' → Ext h h' → Ar Z h' a ty (List.replicate n.toNatClampNeg 0) → Ends p e below P T' m pc' L (.ref a :: S)) : Ends p e below P T m pc L (.int n :: S) := by
  subst hp hty
  obtain ⟨T', h', cA, X', e', E, A, st⟩ := newP X hx hZ w eT (g := mkF m pc L (.int n :: S)) rfl hd rfl hn hcap hb hc hl
  exact (kk T' h' _ rfl X' e' E (Ar.new A hn hdf)).of st
theorem eNewE (X : Stand p l e R s m args below meth c T locs cells slots) (hx : p.tables.exec = Jvm.exec) (hZ : Z.Warmed39 s.vm) {aty : ArrayType} (hty : newarray.typeOf aty = ty) (hdf : defaultValue ty = .int 0) (w : (Cond.arrayClass ty).before a0 Z = true) (eT : T.heap = h) (hd : decode c.code pc = .ok (.newarray aty, 2)) {n : Int32} (hn : ¬ n < 0) {cap : Nat} (hcap : n.toNatClampNeg ≤ cap) (hb : cap * 8 ≤ 536870912) (hc : cells + 1 ≤ R.cells) (hl : slots + cap ≤ R.slots) (ad : String) (had : "[" ++ ty.toString = ad) (hp : pc + 2 = pc')
    (kk : ∀ T' h' a, a = h.size → Stand p l e R s m args below meth c T' locs (cells + 1) (slots + cap) → T'.heap = h' → Ext h h' → Ar Z h' a ty (List.replicate n.toNatClampNeg 0) → Exa Z h' a ad → Ends p e below P T' m pc' L (.ref a :: S)) : Ends p e below P T m pc L (.int n :: S) := by
  subst hp hty
  obtain ⟨T', h', cA, X', e', E, A, Ex, st⟩ := newPE X hx hZ w eT (g := mkF m pc L (.int n :: S)) rfl hd rfl hn hcap hb hc hl had
  exact (kk T' h' _ rfl X' e' E (Ar.new A hn hdf) Ex).of st
theorem eCast (X : Stand p l e R s m args below meth c T locs cells slots) (hx : p.tables.exec = Jvm.exec) (hZ : Z.Warmed39 s.vm) {own K : String} {index : Nat} (hown : s.vm.findClass own = some m.cls) (w : (Cond.classLink own index K).before a0 Z = true) (eT : T.heap = h) (F : Ins Z h a K true) (hd : decode c.code pc = .ok (.checkcast index, 3)) (hp : pc + 3 = pc')
    (kk : ∀ T', Stand p l e R s m args below meth c T' locs cells slots → T'.heap = h → Ends p e below P T' m pc' L (.ref a :: S)) : Ends p e below P T m pc L (.ref a :: S) := by
  subst hp
  obtain ⟨T', X', e', st⟩ := castY X hx hZ hown w eT F (g := mkF m pc L (.ref a :: S)) rfl rfl hd
  exact (kk T' X' e').of st
theorem eNonNullY (X : Stand p l e R s m args below meth c T locs cells slots) (hx : p.tables.exec = Jvm.exec) {o : Int} (hd : decode c.code pc = .ok (.ifnonnull o, 3)) (ho : 0 ≤ (pc : Int) + o) (hp : ((pc : Int) + o).toNat = pc') (kk : Ends p e below P T m pc' L S) : Ends p e below P T m pc L (.ref a :: S) :=
  kk.of fun t h => XT.ifnonnullYes X.here hx rfl rfl hd rfl ho hp h
theorem eNonNullN (X : Stand p l e R s m args below meth c T locs cells slots) (hx : p.tables.exec = Jvm.exec) {o : Int} (hd : decode c.code pc = .ok (.ifnonnull o, 3)) (hp : pc + 3 = pc') (kk : Ends p e below P T m pc' L S) : Ends p e below P T m pc L (.null :: S) := by
  subst hp; exact kk.of fun t h => XT.ifnonnullNo X.here hx rfl hd rfl h
theorem eNullY (X : Stand p l e R s m args below meth c T locs cells slots) (hx : p.tables.exec = Jvm.exec) {o : Int} (hd : decode c.code pc = .ok (.ifnull o, 3)) (ho : 0 ≤ (pc : Int) + o) (hp : ((pc : Int) + o).toNat = pc') (kk : Ends p e below P T m pc' L S) : Ends p e below P T m pc L (.null :: S) :=
  kk.of fun t h => XS.ifnullYes X.here hx rfl rfl hd rfl ho hp h
theorem eNullN (X : Stand p l e R s m args below meth c T locs cells slots) (hx : p.tables.exec = Jvm.exec) {o : Int} (hd : decode c.code pc = .ok (.ifnull o, 3)) (hp : pc + 3 = pc') (kk : Ends p e below P T m pc' L S) : Ends p e below P T m pc L (.ref a :: S) := by
  subst hp; exact kk.of fun t h => XS.ifnullNo X.here hx rfl hd rfl h
theorem eTsw (X : Stand p l e R s m args below meth c T locs cells slots) (hx : p.tables.exec = Jvm.exec) {dflt low high : Int} {offs : Array Int} {len : Nat} {o : Int} {i : Int32} (hd : decode c.code pc = .ok (.tableswitch dflt low high offs, len)) (hin : ¬ (i.toInt < low ∨ i.toInt > high)) (hoff : offs[(i.toInt - low).toNat]? = some o) (ho : 0 ≤ (pc : Int) + o) (hp : ((pc : Int) + o).toNat = pc') (kk : Ends p e below P T m pc' L S) : Ends p e below P T m pc L (.int i :: S) :=
  kk.of fun t h => XS.tswIn X.here hx rfl rfl hd rfl hin hoff ho hp h
theorem eLsw (X : Stand p l e R s m args below meth c T locs cells slots) (hx : p.tables.exec = Jvm.exec) {dflt : Int} {a1 o1 a2 o2 : Int} {len : Nat} {o : Int} {i : Int32} (hd : decode c.code pc = .ok (.lookupswitch dflt #[(a1, o1), (a2, o2)], len)) (hso : a1 < a2) (hoff : (if a1 = i.toInt then o1 else if a2 = i.toInt then o2 else dflt) = o) (ho : 0 ≤ (pc : Int) + o) (hp : ((pc : Int) + o).toNat = pc') (kk : Ends p e below P T m pc' L S) : Ends p e below P T m pc L (.int i :: S) := by
  subst hp hoff
  refine kk.of fun t h => ?_
  by_cases h1 : a1 = i.toInt
  · simp only [h1, if_true] at h ho
    jvm_step X.here [X.here.top, hx, hd, hso, h1, ho, lookupswitch.wp_chain, lookupswitch.offset_cons, lookupswitch.offset_nil]
    exact ⟨by rw [← h1]; exact hso, h⟩
  · by_cases h2 : a2 = i.toInt
    · simp only [h1, h2, if_true, if_false] at h ho
      jvm_step X.here [X.here.top, hx, hd, hso, h1, h2, ho, lookupswitch.wp_chain, lookupswitch.offset_cons, lookupswitch.offset_nil]
      exact ⟨by rw [← h2]; exact hso, h⟩
    · simp only [h1, h2, if_false] at h ho
      jvm_step X.here [X.here.top, hx, hd, hso, h1, h2, ho, lookupswitch.wp_chain, lookupswitch.offset_cons, lookupswitch.offset_nil]
      exact h
/-! calls -/
def PostQ (s : State) (C D : Nat) (Q : Option Value → Heap → List Loc → Prop) : State → Outcome → Prop := fun t o => ∃ v L, o = .returned v ∧ Q v t.heap L ∧ FrameEnd s o t L C D
abbrev MetC (l : Launch) (Z : State) (y : MethodName) (ws : List Jvm.Cond) (rm : Room) (as' : Array Value) (h : Heap) (C D : Nat) (Q : Option Value → Heap → List Loc → Prop) : Prop :=
  MetFree l y (head1 ws rm) (fun a U => a = as' ∧ Z.Warmed39 U.vm ∧ U.heap = h) (fun _ _ _ _ _ => True) (fun _ U o U' => PostQ U C D Q U' o)
abbrev MetQ (l : Launch) (Z : State) (y : MethodName) (ws : List Jvm.Cond) (rm : Room) (as' : Array Value) (h : Heap) (Q : Option Value → Heap → List Loc → Prop) : Prop :=
  MetFree l y (head1 ws rm) (fun a U => a = as' ∧ Z.Warmed39 U.vm ∧ U.heap = h) (fun _ _ _ _ _ => True) (fun _ U o U' => PostQ U rm.cells rm.slots Q U' o)
theorem eCallS (X : Stand p l e R s m args below meth c T locs cells slots) (hx : p.tables.exec = Jvm.exec) (hZ : Z.Warmed39 s.vm) {own : String} {index : Nat} {y : MethodName} {bytes : ByteArray} {maxL : Nat} {ret : Option FieldType} (hown : s.vm.findClass own = some m.cls) (w1 : (Cond.methodLink own index y).before a0 Z = true) (w2 : (Cond.static y).before a0 Z = true) (w3 : (Cond.initialized y.cls).before a0 Z = true) (w4 : (Cond.code y bytes maxL ret).before a0 Z = true) (hy : y.cls ≠ "java/lang/invoke/MethodHandle" ∧ y.cls ≠ "java/lang/invoke/VarHandle") (eT : T.heap = h) {rm : Room} {Q : Option Value → Heap → List Loc → Prop} {argsL rest : List Value} (hM : MetQ l Z y [Cond.code y bytes maxL ret] rm argsL.toArray h Q) (hlen : ∀ sig, parseMethodDescriptor y.desc = some sig → argsL.length = sig.parameters.length) (hS : S = argsL.reverse ++ rest) (hsize : L.size = c.maxLocals) (W : Nat) (hW : 2 * 0 + (rest.map fun v => v.category).sum ≤ W) (hf : rm.frames + 1 ≤ R.frames) (hl : W + (maxL + 11) + rm.locals ≤ R.locals) (hc : cells + rm.cells ≤ R.cells) (hs : slots + rm.slots ≤ R.slots) (hd : decode c.code pc = .ok (.invokestatic index, 3)) (hp : pc + 3 = pc')
    (kk : ∀ v T' L', Q v T'.heap L' → Stand p l e R s m args below meth c T' (locs ++ L') (cells + rm.cells) (slots + rm.slots) → Ends p e below P T' m pc' L (v.toList ++ rest)) : Ends p e below P T m pc L S := by
  subst hp hS
  obtain ⟨v, _, ⟨T1, L1, k1, n1⟩, -, X1, ⟨Lc, hQ, l1, y1, z1⟩, st⟩ := Jvm.LawKit.callS X hx (y := y) hown (mvT hZ w1) (mvT hZ w2) (mvT hZ w3) (mvT hZ w4) hy (backOf (W := W) (Q := Q) hM hZ w4 w3 hf hl) (g := mkF m pc L (argsL.reverse ++ rest)) rfl hsize (argsL := argsL) (rest := rest) hlen rfl hW hd (fun _ _ => ⟨rfl, eT, hc, hs⟩)
  dsimp only [Pt.U, Pt.locs, Pt.cells, Pt.slots] at X1 l1 y1 z1 st hQ
  subst l1 y1 z1
  exact (kk v T1 Lc hQ X1).of st
theorem eCallI (X : Stand p l e R s m args below meth c T locs cells slots) (hx : p.tables.exec = Jvm.exec) (hZ : Z.Warmed39 s.vm) {own : String} {index : Nat} {y : MethodName} {bytes : ByteArray} {maxL : Nat} (hy1 : y.name = "<init>") (hown : s.vm.findClass own = some m.cls) (w1 : (Cond.methodLink own index y).before a0 Z = true) (w2 : (Cond.instanceMethod y).before a0 Z = true) (w3 : (Cond.initialized y.cls).before a0 Z = true) (w4 : (Cond.code y bytes maxL none).before a0 Z = true) (hy : y.cls ≠ "java/lang/invoke/MethodHandle" ∧ y.cls ≠ "java/lang/invoke/VarHandle") (eT : T.heap = h) {rm : Room} {Q : Option Value → Heap → List Loc → Prop} {argsL rest : List Value} (hM : MetQ l Z y [Cond.code y bytes maxL none] rm (.ref a :: argsL).toArray h Q) (hlen : ∀ sig, parseMethodDescriptor y.desc = some sig → argsL.length = sig.parameters.length) (hS : S = argsL.reverse ++ .ref a :: rest) (hsize : L.size = c.maxLocals) (W : Nat) (hW : 2 * 0 + (rest.map fun v => v.category).sum ≤ W) (hf : rm.frames + 1 ≤ R.frames) (hl : W + (maxL + 11) + rm.locals ≤ R.locals) (hc : cells + rm.cells ≤ R.cells) (hs : slots + rm.slots ≤ R.slots) (hd : decode c.code pc = .ok (.invokespecial index, 3)) (hp : pc + 3 = pc')
    (kk : ∀ v T' L', Q v T'.heap L' → Stand p l e R s m args below meth c T' (locs ++ L') (cells + rm.cells) (slots + rm.slots) → Ends p e below P T' m pc' L (v.toList ++ rest)) : Ends p e below P T m pc L S := by
  subst hp hS
  obtain ⟨v, _, ⟨T1, L1, k1, n1⟩, -, X1, ⟨Lc, hQ, l1, y1, z1⟩, st⟩ := X.specialBack hx (y := y) hy1 hown (mvT hZ w1) (mvT hZ w2) (mvT hZ w4) hy (backOf (W := W) (Q := Q) hM hZ w4 w3 hf hl) (g := mkF m pc L (argsL.reverse ++ .ref a :: rest)) rfl hsize (Steps.refl _) (a := a) (argsL := argsL) (rest := rest) hlen rfl hW hd (fun _ _ => ⟨rfl, eT, hc, hs⟩)
  dsimp only [Pt.U, Pt.locs, Pt.cells, Pt.slots] at X1 l1 y1 z1 st hQ
  subst l1 y1 z1
  exact (kk v T1 Lc hQ X1).of fun t k => st.trans k
theorem eCallV (X : Stand p l e R s m args below meth c T locs cells slots) (hx : p.tables.exec = Jvm.exec) (hZ : Z.Warmed39 s.vm) {own C : String} {index : Nat} {y : MethodName} {bytes : ByteArray} {maxL : Nat} {ret : Option FieldType} (hown : s.vm.findClass own = some m.cls) (w1 : (Cond.methodLink own index y).before a0 Z = true) (w2 : (Cond.declares y).before a0 Z = true) (w5 : (Cond.selects C y y).before a0 Z = true) (w6 : (Cond.instanceMethod y).before a0 Z = true) (w3 : (Cond.initialized y.cls).before a0 Z = true) (w4 : (Cond.code y bytes maxL ret).before a0 Z = true) (hy : y.cls ≠ "java/lang/invoke/MethodHandle" ∧ y.cls ≠ "java/lang/invoke/VarHandle") (eT : T.heap = h) (E : Exa Z h a C) {rm : Room} {Q : Option Value → Heap → List Loc → Prop} {argsL rest : List Value} (hM : MetQ l Z y [Cond.code y bytes maxL ret] rm (.ref a :: argsL).toArray h Q) (hlen : ∀ sig, parseMethodDescriptor y.desc = some sig → argsL.length = sig.parameters.length) (hS : S = argsL.reverse ++ .ref a :: rest) (hsize : L.size = c.maxLocals) (W : Nat) (hW : 2 * 0 + (rest.map fun v => v.category).sum ≤ W) (hf : rm.frames + 1 ≤ R.frames) (hl : W + (maxL + 11) + rm.locals ≤ R.locals) (hc : cells + rm.cells ≤ R.cells) (hs : slots + rm.slots ≤ R.slots) (hd : decode c.code pc = .ok (.invokevirtual index, 3)) (hp : pc + 3 = pc')
    (kk : ∀ v T' L', Q v T'.heap L' → Stand p l e R s m args below meth c T' (locs ++ L') (cells + rm.cells) (slots + rm.slots) → Ends p e below P T' m pc' L (v.toList ++ rest)) : Ends p e below P T m pc L S := by
  subst hp hS
  obtain ⟨cq, kq, q1, q2, q3⟩ := isOf hZ eT E
  obtain ⟨v, _, ⟨T1, L1, k1, n1⟩, -, X1, ⟨Lc, hQ, l1, y1, z1⟩, st⟩ := X.virtualBack hx (y := y) (z := y) hown (mvT hZ w1) (mvT hZ w2) (notFace_of_selects (args := #[]) (mvT hZ w5)) (mvT hZ w5) (mvT hZ w6) hy (backOf (W := W) (Q := Q) hM hZ w4 w3 hf hl) q1 q3 (g := mkF m pc L (argsL.reverse ++ .ref a :: rest)) rfl hsize (Steps.refl _) (argsL := argsL) (rest := rest) hlen rfl hW hd (fun _ _ => ⟨rfl, eT, hc, hs⟩)
  dsimp only [Pt.U, Pt.locs, Pt.cells, Pt.slots] at X1 l1 y1 z1 st hQ
  subst l1 y1 z1
  exact (kk v T1 Lc hQ X1).of fun t k => st.trans k
/-! returns -/
theorem eEnd (X : Stand p l e R s m args below meth c T locs cells slots) (hlk : meth.locks = false) {C D : Nat} {Q : Option Value → Heap → List Loc → Prop} {v : Option Value} (hv : meth.sig.returnType = none → v = none) (hC : cells ≤ C) (hD : slots ≤ D) (hq : Q v T.heap locs)
    (st : ∀ fs, (∀ (f : JFrame) (acts : List Action), f.method = m → f.locked = none → f.entered = [] → (doReturn e (T.setTop f) acts v).1 = T.setFrames fs) → Steps p.tables e below (T.setTop (mkF m pc L S)) (T.setFrames fs)) : Ends p e below (PostQ s C D Q) T m pc L S := by
  obtain ⟨fs, hr, hrun, hended, hW, hsame⟩ := X.leave (v := v) hv hlk
  exact ⟨_, _, st fs hr, hrun, hended, v, locs, rfl, hq, ⟨_, rfl⟩, hW, hsame.mono hC hD⟩
theorem eRetN (X : Stand p l e R s m args below meth c T locs cells slots) (hx : p.tables.exec = Jvm.exec) {t : FieldType} {z : Int32} (hret : meth.sig.returnType = some t) (ht : t = .boolean ∨ t = .byte ∨ t = .char ∨ t = .short) (hlk : meth.locks = false) (hd : decode c.code pc = .ok (.ireturn, 1)) {C D : Nat} {Q : Option Value → Heap → List Loc → Prop} (hC : cells ≤ C) (hD : slots ≤ D) (hq : Q (some (.int (nar t z))) T.heap locs) : Ends p e below (PostQ s C D Q) T m pc L (.int z :: S) :=
  eEnd X hlk (fun h => by rw [hret] at h; cases h) hC hD hq fun fs hr => retN X hx hret ht hd hr
theorem eRetO (X : Stand p l e R s m args below meth c T locs cells slots) (hx : p.tables.exec = Jvm.exec) {t : FieldType} {w : Value} {i : Instr} (hret : meth.sig.returnType = some t) (hn : narrow t w = w) (hi : (i = .ireturn ∧ (t = .int ∨ t = .boolean ∨ t = .byte ∨ t = .char ∨ t = .short) ∧ ∃ z, w = .int z) ∨ (i = .lreturn ∧ t = .long ∧ ∃ z, w = .long z) ∨ (i = .dreturn ∧ t = .double ∧ ∃ z, w = .double z) ∨ (i = .freturn ∧ t = .float ∧ ∃ z, w = .float z) ∨ (i = .areturn ∧ t.isReference = true ∧ w.isRef = true)) (hlk : meth.locks = false) (hd : decode c.code pc = .ok (i, 1)) {C D : Nat} {Q : Option Value → Heap → List Loc → Prop} (hC : cells ≤ C) (hD : slots ≤ D) (hq : Q (some w) T.heap locs) : Ends p e below (PostQ s C D Q) T m pc L (w :: S) :=
  eEnd X hlk (fun h => by rw [hret] at h; cases h) hC hD hq fun fs hr => retOut X hx hret hn hi hd hr
theorem eRetI (X : Stand p l e R s m args below meth c T locs cells slots) (hx : p.tables.exec = Jvm.exec) {z : Int32} (hret : meth.sig.returnType = some .int) (hlk : meth.locks = false) (hd : decode c.code pc = .ok (.ireturn, 1)) {C D : Nat} {Q : Option Value → Heap → List Loc → Prop} (hC : cells ≤ C) (hD : slots ≤ D) (hq : Q (some (.int z)) T.heap locs) : Ends p e below (PostQ s C D Q) T m pc L (.int z :: S) :=
  eRetO X hx hret rfl (Or.inl ⟨rfl, Or.inl rfl, z, rfl⟩) hlk hd hC hD hq
theorem eRetL (X : Stand p l e R s m args below meth c T locs cells slots) (hx : p.tables.exec = Jvm.exec) {z : Int64} (hret : meth.sig.returnType = some .long) (hlk : meth.locks = false) (hd : decode c.code pc = .ok (.lreturn, 1)) {C D : Nat} {Q : Option Value → Heap → List Loc → Prop} (hC : cells ≤ C) (hD : slots ≤ D) (hq : Q (some (.long z)) T.heap locs) : Ends p e below (PostQ s C D Q) T m pc L (.long z :: S) :=
  eRetO X hx hret rfl (Or.inr (Or.inl ⟨rfl, rfl, z, rfl⟩)) hlk hd hC hD hq
theorem eRetA (X : Stand p l e R s m args below meth c T locs cells slots) (hx : p.tables.exec = Jvm.exec) {t : FieldType} {w : Value} (hret : meth.sig.returnType = some t) (ht : t.isReference = true) (hn : narrow t w = w) (hw : w.isRef = true) (hlk : meth.locks = false) (hd : decode c.code pc = .ok (.areturn, 1)) {C D : Nat} {Q : Option Value → Heap → List Loc → Prop} (hC : cells ≤ C) (hD : slots ≤ D) (hq : Q (some w) T.heap locs) : Ends p e below (PostQ s C D Q) T m pc L (w :: S) :=
  eRetO X hx hret hn (Or.inr (Or.inr (Or.inr (Or.inr ⟨rfl, ht, hw⟩)))) hlk hd hC hD hq
theorem eRetV (X : Stand p l e R s m args below meth c T locs cells slots) (hx : p.tables.exec = Jvm.exec) (hret : meth.sig.returnType = none) (hlk : meth.locks = false) (hd : decode c.code pc = .ok (.return_, 1)) {C D : Nat} {Q : Option Value → Heap → List Loc → Prop} (hC : cells ≤ C) (hD : slots ≤ D) (hq : Q none T.heap locs) : Ends p e below (PostQ s C D Q) T m pc L [] :=
  eEnd X hlk (fun _ => rfl) hC hD hq fun fs hr => X.returnOut hx hret hd hr
abbrev PVI (s : State) (C D n0 : Nat) (h0 : Heap) (r : Int32) : State → Outcome → Prop := PostQ s C D (fun v h L => v = some (.int r) ∧ Fr n0 L ∧ h = h0)
abbrev PVL (s : State) (C D n0 : Nat) (h0 : Heap) (r : Int64) : State → Outcome → Prop := PostQ s C D (fun v h L => v = some (.long r) ∧ Fr n0 L ∧ h = h0)
abbrev PVW (s : State) (C D n0 : Nat) (r : Int32) : State → Outcome → Prop := PostQ s C D (fun v h L => v = some (.int r) ∧ Fr n0 L)
end Own

theorem own_inb {vs : List Int32} {j : Int32} (h0 : 0 ≤ j.toInt) (h1 : j.toInt < vs.length) : InB vs j := by
  refine ⟨?_, ?_⟩
  · rw [Int32.lt_iff_toInt_lt]; simp only [Int32.reduceToInt]; omega
  · simp only [Int32.toNatClampNeg]; omega
theorem own_ne16 {vs : List Int32} {w : Int32} (h : vs.length = 16) (hw : ¬ (w = Int32.ofNat 16)) : ¬ (w = (Int32.ofNat vs.length)) := h ▸ hw
theorem own_wl (vs : List Int32) (j x : Int32) : (wr vs j x).length = vs.length := by simp [wr]
/-- parents have lower numbers -/
def Dec (vs : List Int32) : Prop := vs.length = 16 ∧ ∀ j : Int32, 0 ≤ j.toInt → j.toInt < 5 → (rd vs j).toInt < j.toInt
def own_st (vs : List Int32) : Nat → Int32 → Int
  | 0, _ => 0
  | k + 1, x => if rd vs x < 0 then 0 else own_st vs k (rd vs x) + 1
theorem own_st_fuel {vs : List Int32} (D : Dec vs) : ∀ (k k' : Nat) (x : Int32), 0 ≤ x.toInt → x.toInt < 5 → x.toInt.toNat < k → x.toInt.toNat < k' → own_st vs k x = own_st vs k' x := by
  intro k
  induction k with
  | zero => intro k' x _ _ h _; omega
  | succ k ih =>
    intro k' x h0 h5 h1 h2
    cases k' with
    | zero => omega
    | succ k' =>
      unfold own_st
      split
      · rfl
      · rename_i c
        simp only [Int32.lt_iff_toInt_lt, Int32.reduceToInt] at c
        have d := D.2 x h0 h5
        rw [ih k' (rd vs x) (by omega) (by omega) (by omega) (by omega)]
/-- how many steps lead from x to its root -/
def own_S (vs : List Int32) (x : Int32) : Int := own_st vs 5 x
theorem own_S_end {vs : List Int32} {x : Int32} (c : rd vs x < 0) : own_S vs x = 0 := by
  unfold own_S own_st; rw [if_pos c]
theorem own_S_go {vs : List Int32} (D : Dec vs) {x : Int32} (h0 : 0 ≤ x.toInt) (h5 : x.toInt < 5) (c : ¬ rd vs x < 0) : own_S vs x = own_S vs (rd vs x) + 1 := by
  have d := D.2 x h0 h5
  have e : own_S vs x = own_st vs 4 (rd vs x) + 1 := by unfold own_S; show (if rd vs x < 0 then 0 else own_st vs 4 (rd vs x) + 1) = _; rw [if_neg c]
  simp only [Int32.lt_iff_toInt_lt, Int32.reduceToInt] at c
  rw [e]; unfold own_S
  rw [own_st_fuel D 4 5 (rd vs x) (by omega) (by omega) (by omega) (by omega)]
theorem own_S_nn {vs : List Int32} (x : Int32) : 0 ≤ own_S vs x := by
  have h : ∀ k y, 0 ≤ own_st vs k y := by
    intro k; induction k with
    | zero => intro y; exact Int.le_refl 0
    | succ k ih => intro y; unfold own_st; split; exact Int.le_refl 0; have := ih (rd vs y); omega
  exact h 5 x
theorem own_S_le {vs : List Int32} (D : Dec vs) : ∀ (k : Nat) (x : Int32), x.toInt.toNat < k → 0 ≤ x.toInt → x.toInt < 5 → own_S vs x ≤ x.toInt := by
  intro k
  induction k with
  | zero => intro x h; omega
  | succ k ih =>
    intro x h h0 h5
    by_cases c : rd vs x < 0
    · rw [own_S_end c]; exact h0
    · have d := D.2 x h0 h5
      rw [own_S_go D h0 h5 c]
      simp only [Int32.lt_iff_toInt_lt, Int32.reduceToInt] at c
      have := ih (rd vs x) (by omega) (by omega) (by omega)
      omega
theorem own_go {vs : List Int32} (D : Dec vs) {x : Int32} {k : Nat} (hk : x.toInt.toNat < k + 1) (ha : 0 ≤ x.toInt ∧ x.toInt < 5) (c : ¬ rd vs x < 0) : (rd vs x).toInt.toNat < k ∧ 0 ≤ (rd vs x).toInt ∧ (rd vs x).toInt < 5 := by
  have d := D.2 x ha.1 ha.2
  simp only [Int32.lt_iff_toInt_lt, Int32.reduceToInt] at c
  omega
theorem own_cnt {vs : List Int32} (D : Dec vs) {x n q : Int32} (ha : 0 ≤ x.toInt ∧ x.toInt < 5) (hq : 0 ≤ q.toInt ∧ q.toInt < 5) (hc : 0 ≤ n.toInt ∧ n.toInt + own_S vs x = own_S vs q) (c : ¬ rd vs x < 0) : 0 ≤ (n + 1).toInt ∧ (n + 1).toInt + own_S vs (rd vs x) = own_S vs q := by
  have e := own_S_go D ha.1 ha.2 c
  have u := own_S_le D 5 q (by omega) hq.1 hq.2
  have v := own_S_nn (vs := vs) (rd vs x)
  have a := c_iadd n 1
  have r := rng32 (n + 1)
  simp only [Int32.reduceToInt] at a
  omega
theorem own_fin {vs : List Int32} (D : Dec vs) {x n q : Int32} (hq : 0 ≤ q.toInt ∧ q.toInt < 5) (hc : 0 ≤ n.toInt ∧ n.toInt + own_S vs x = own_S vs q) (c : rd vs x < 0) : n.toInt = own_S vs q ∧ ¬ n < 0 ∧ n.toNatClampNeg ≤ 4 := by
  have e := own_S_end c
  have u := own_S_le D 5 q (by omega) hq.1 hq.2
  refine ⟨by omega, ?_, ?_⟩
  · rw [Int32.lt_iff_toInt_lt]; simp only [Int32.reduceToInt]; omega
  · simp only [Int32.toNatClampNeg]; omega
theorem own_rep (n : Int32) (h : ¬ n < 0) : ((List.replicate n.toNatClampNeg (0 : Int32)).length : Int) = n.toInt := by
  rw [Int32.lt_iff_toInt_lt] at h
  simp only [Int32.reduceToInt] at h
  simp only [List.length_replicate, Int32.toNatClampNeg]
  omega
theorem own_dn {vs : List Int32} (D : Dec vs) {x n : Int32} (ha : 0 ≤ x.toInt ∧ x.toInt < 5) (hs : n.toInt = own_S vs x) (c : ¬ rd vs x < 0) : (n + -1).toInt = own_S vs (rd vs x) ∧ 0 ≤ (n + -1).toInt ∧ (n + -1).toInt < n.toInt := by
  have e := own_S_go D ha.1 ha.2 c
  have v := own_S_nn (vs := vs) (rd vs x)
  have u := own_S_le D 5 x (by omega) ha.1 ha.2
  have a := c_iadd n (-1)
  have r := rng32 (n + -1)
  simp only [Int32.reduceToInt] at a
  omega
theorem own_dnb {vs : List Int32} (D : Dec vs) {x n : Int32} (ha : 0 ≤ x.toInt ∧ x.toInt < 5) (hs : n.toInt = own_S vs x) (c : ¬ rd vs x < 0) {L : Int} (h : n.toInt ≤ L) : (n + -1).toInt < L := by
  have := own_dn D ha hs c
  omega
theorem own_lt5 {x : Int32} (h : 0 ≤ x.toInt ∧ x.toInt < 5) : x.toInt.toNat < 5 := by omega
theorem own_zs (z : Int) : (0 : Int32).toInt + z = z := by simp only [Int32.reduceToInt]; omega
theorem own_in5 {vs : List Int32} {x : Int32} (ha : 0 ≤ x.toInt ∧ x.toInt < 5) (h : vs.length = 16) : InB vs x := own_inb ha.1 (by omega)
theorem own_pn0 : plainName "com/example/workflow_soundness/workflowsoundness/analysis/SearchTree" = true := by first | (simp [plainName, overriddenIn]; done) | decide +kernel
theorem own_d1_0 : decode prog_58_method_1_code 0 = .ok (.aload_n 0, 1) := by decide +kernel
theorem own_d1_1 : decode prog_58_method_1_code 1 = .ok (.invokespecial 3, 3) := by decide +kernel
theorem own_d1_4 : decode prog_58_method_1_code 4 = .ok (.aload_n 0, 1) := by decide +kernel
theorem own_d1_5 : decode prog_58_method_1_code 5 = .ok (.bipush 16, 2) := by decide +kernel
theorem own_d1_7 : decode prog_58_method_1_code 7 = .ok (.newarray .int, 2) := by decide +kernel
theorem own_d1_9 : decode prog_58_method_1_code 9 = .ok (.putfield 9, 3) := by decide +kernel
theorem own_d1_12 : decode prog_58_method_1_code 12 = .ok (.aload_n 0, 1) := by decide +kernel
theorem own_d1_13 : decode prog_58_method_1_code 13 = .ok (.bipush 16, 2) := by decide +kernel
theorem own_d1_15 : decode prog_58_method_1_code 15 = .ok (.newarray .int, 2) := by decide +kernel
theorem own_d1_17 : decode prog_58_method_1_code 17 = .ok (.putfield 15, 3) := by decide +kernel
theorem own_d1_20 : decode prog_58_method_1_code 20 = .ok (.return_, 1) := by decide +kernel
def RM1 : Room := { frames := 1, cells := 2, slots := 32, locals := 12 }
def fNew_0  : (List Int32) × (List Int32) := ([(0 : Int32), (0 : Int32), (0 : Int32), (0 : Int32), (0 : Int32), (0 : Int32), (0 : Int32), (0 : Int32), (0 : Int32), (0 : Int32), (0 : Int32), (0 : Int32), (0 : Int32), (0 : Int32), (0 : Int32), (0 : Int32)], [(0 : Int32), (0 : Int32), (0 : Int32), (0 : Int32), (0 : Int32), (0 : Int32), (0 : Int32), (0 : Int32), (0 : Int32), (0 : Int32), (0 : Int32), (0 : Int32), (0 : Int32), (0 : Int32), (0 : Int32), (0 : Int32)])
theorem own_ef1 (m : MethodId) (a1 : Addr) : entryFrame m #[(.ref a1)] 1 = mkF m 0 #[.val (.ref a1)] [] := by first | (simp [entryFrame, mkF, argsToLocals, Value.category]; done) | rfl
set_option maxRecDepth 65536 in
set_option maxHeartbeats 40000000 in
theorem rm1 (l : Launch) (Z : State) (a0 : Array Value) (hw : ∀ d ∈ tables_1, d.before a0 Z = true) (ws : List Jvm.Cond) (a1 : Addr) (w1 : Int32) (h0 : Heap) (n0 : Nat) (Z0 : n0 ≤ h0.size) (E_a1 : Exa Z h0 a1 "com/example/workflow_soundness/workflowsoundness/analysis/SearchTree") (F_a1__parents : Fld Z h0 a1 "com/example/workflow_soundness/workflowsoundness/analysis/SearchTree" "_parents" "[I" .null) (F_a1__transitions : Fld Z h0 a1 "com/example/workflow_soundness/workflowsoundness/analysis/SearchTree" "_transitions" "[I" .null) (F_a1__nodes : Fld Z h0 a1 "com/example/workflow_soundness/workflowsoundness/analysis/SearchTree" "_nodes" "I" (.int w1)) (ge_a1 : n0 ≤ a1) : MetQ l Z (⟨"com/example/workflow_soundness/workflowsoundness/analysis/SearchTree", "<init>", "()V"⟩ : MethodName) (Jvm.Cond.code (⟨"com/example/workflow_soundness/workflowsoundness/analysis/SearchTree", "<init>", "()V"⟩ : MethodName) prog_58_method_1_code 1 none :: ws) RM1 #[(.ref a1)] h0 (fun v h L => Fr n0 L ∧ Keep h0 h [a1] ∧ ∃ (b1 : Addr) (b2 : Addr), h0.size ≤ b1 ∧ h0.size ≤ b2 ∧ b2 ≠ b1 ∧ v = none ∧ Exa Z h a1 "com/example/workflow_soundness/workflowsoundness/analysis/SearchTree" ∧ Fld Z h a1 "com/example/workflow_soundness/workflowsoundness/analysis/SearchTree" "_parents" "[I" (.ref b1) ∧ Fld Z h a1 "com/example/workflow_soundness/workflowsoundness/analysis/SearchTree" "_transitions" "[I" (.ref b2) ∧ Fld Z h a1 "com/example/workflow_soundness/workflowsoundness/analysis/SearchTree" "_nodes" "I" (.int w1) ∧ Ar Z h b1 .int ((fNew_0)).1 ∧ Ar Z h b2 .int ((fNew_0)).2) := by
  refine MetFree.of_bodySF (plainFor_of_name own_pn0) hisR ?_
  intro p e s m args below meth c s₁ Bd hml0 hP hK
  obtain ⟨rfl, hZ, hh⟩ := hP
  have hx := Bd.exec
  have hby := Bd.bytes
  have hml : c.maxLocals = 1 := hml0
  have hown : s.vm.findClass "com/example/workflow_soundness/workflowsoundness/analysis/SearchTree" = some m.cls := findClass_of_methodNamed Bd.named
  have hnm := (name_of_methodNamed Bd.named Bd.method).1
  have hlk : meth.locks = false := BodyLoose.notSynchronized Bd
  have X0 : Stand p l e RM1 s m #[(.ref a1)] below meth c s₁ [] 0 0 := Stand.of_body Bd
  have e0 : s₁.heap = h0 := by rw [← hh, Bd.state]; rfl
  have N0 := Fr.nil n0
  have K0 := Keep.refl h0 [a1]
  suffices kk : Ends p e below (PostQ s 2 32 (fun v h L => Fr n0 L ∧ Keep h0 h [a1] ∧ ∃ (b1 : Addr) (b2 : Addr), h0.size ≤ b1 ∧ h0.size ≤ b2 ∧ b2 ≠ b1 ∧ v = none ∧ Exa Z h a1 "com/example/workflow_soundness/workflowsoundness/analysis/SearchTree" ∧ Fld Z h a1 "com/example/workflow_soundness/workflowsoundness/analysis/SearchTree" "_parents" "[I" (.ref b1) ∧ Fld Z h a1 "com/example/workflow_soundness/workflowsoundness/analysis/SearchTree" "_transitions" "[I" (.ref b2) ∧ Fld Z h a1 "com/example/workflow_soundness/workflowsoundness/analysis/SearchTree" "_nodes" "I" (.int w1) ∧ Ar Z h b1 .int ((fNew_0)).1 ∧ Ar Z h b2 .int ((fNew_0)).2)) s₁ m 0 #[.val (.ref a1)] [] by
    obtain ⟨t, o, k1, k2, k3, k4⟩ := kk
    exact ⟨t, o, castTop (own_ef1 m a1) k1, k2, k3, k4⟩
  refine eALoadN X0 hx (hb hby own_d1_0) rfl rfl rfl ?_
  refine eInitO X0 hx hZ hown (hw _ (List.mem_of_getElem? (i := 8) rfl)) (hw _ (List.mem_of_getElem? (i := 9) rfl)) (hw _ (List.mem_of_getElem? (i := 10) rfl)) e0 (by rw [hml]; rfl) (hb hby own_d1_1) (by decide) 0 (by exact Nat.le_refl _) (by decide) rfl (fun T1 X1 e1 => ?_)
  refine eALoadN X1 hx (hb hby own_d1_4) rfl rfl rfl ?_
  refine eBipush X1 hx (16 : Int32) (hb hby own_d1_5) rfl rfl ?_
  refine eNewA X1 hx hZ rfl rfl (hw _ (List.mem_of_getElem? (i := 0) rfl)) e1 (hb hby own_d1_7) (by decide) (cap := 16) (by decide) (by decide) (by decide) (by decide) rfl (fun T2 h2 ad2 g2 X2 e2 E2 A2 => ?_)
  have ne_a1_ad2 : a1 ≠ ad2 := Nat.ne_of_lt (Nat.lt_of_lt_of_le E_a1.lt (Nat.le_of_eq g2.symm))
  have E_a1 := E_a1.ext E2
  have F_a1__parents := F_a1__parents.ext E2
  have F_a1__transitions := F_a1__transitions.ext E2
  have F_a1__nodes := F_a1__nodes.ext E2
  have Z2 := Nat.le_trans Z0 E2.1
  have ge_ad2 : n0 ≤ ad2 := Nat.le_trans Z0 (Nat.le_of_eq g2.symm)
  have gk_ad2 : h0.size ≤ ad2 := Nat.le_trans K0.1 (Nat.le_of_eq g2.symm)
  have K2 : Keep h0 h2 [a1] := K0.ext E2
  have A2 : Ar Z h2 ad2 .int [(0 : Int32), (0 : Int32), (0 : Int32), (0 : Int32), (0 : Int32), (0 : Int32), (0 : Int32), (0 : Int32), (0 : Int32), (0 : Int32), (0 : Int32), (0 : Int32), (0 : Int32), (0 : Int32), (0 : Int32), (0 : Int32)] := A2
  refine ePutF X2 hx hZ hown (hw _ (List.mem_of_getElem? (i := 11) rfl)) Via.refl e2 F_a1__parents E_a1 (Or.inl (hw _ (List.mem_of_getElem? (i := 12) rfl))) (hw _ (List.mem_of_getElem? (i := 3) rfl)) (ty := (.array .int)) (by decide) rfl rfl (hb hby own_d1_9) rfl (fun T3 h3 X3 e3 W3 => ?_)
  have E_a1 := E_a1.wr W3
  have F_a1__transitions := F_a1__transitions.other W3 (Or.inr (slot_ne (Or.inl (hw _ (List.mem_of_getElem? (i := 14) rfl))) (Or.inl (hw _ (List.mem_of_getElem? (i := 12) rfl))) (by decide) (t := (.array .int)) (t' := (.array .int)) (by decide) (by decide)))
  have F_a1__nodes := F_a1__nodes.other W3 (Or.inr (slot_ne (Or.inl (hw _ (List.mem_of_getElem? (i := 21) rfl))) (Or.inl (hw _ (List.mem_of_getElem? (i := 12) rfl))) (by decide) (t := .int) (t' := (.array .int)) (by decide) (by decide)))
  have A2 := A2.other W3 (Ne.symm ne_a1_ad2)
  have F_a1__parents := F_a1__parents.same W3
  have N3 := Fr.snoc X3 N0 ge_a1
  have Z3 := Nat.le_trans Z2 (Keep.of_wr W3).1
  have K3 : Keep h0 h3 [a1] := K2.wr W3 (Or.inl (List.mem_of_getElem? (i := 0) rfl))
  refine eALoadN X3 hx (hb hby own_d1_12) rfl rfl rfl ?_
  refine eBipush X3 hx (16 : Int32) (hb hby own_d1_13) rfl rfl ?_
  refine eNewA X3 hx hZ rfl rfl (hw _ (List.mem_of_getElem? (i := 0) rfl)) e3 (hb hby own_d1_15) (by decide) (cap := 16) (by decide) (by decide) (by decide) (by decide) rfl (fun T4 h4 ad4 g4 X4 e4 E4 A4 => ?_)
  have ne_a1_ad4 : a1 ≠ ad4 := Nat.ne_of_lt (Nat.lt_of_lt_of_le E_a1.lt (Nat.le_of_eq g4.symm))
  have ne_ad2_ad4 : ad2 ≠ ad4 := Nat.ne_of_lt (Nat.lt_of_lt_of_le A2.lt (Nat.le_of_eq g4.symm))
  have E_a1 := E_a1.ext E4
  have F_a1__parents := F_a1__parents.ext E4
  have F_a1__transitions := F_a1__transitions.ext E4
  have F_a1__nodes := F_a1__nodes.ext E4
  have A2 := A2.ext E4
  have Z4 := Nat.le_trans Z3 E4.1
  have ge_ad4 : n0 ≤ ad4 := Nat.le_trans Z3 (Nat.le_of_eq g4.symm)
  have gk_ad4 : h0.size ≤ ad4 := Nat.le_trans K3.1 (Nat.le_of_eq g4.symm)
  have K4 : Keep h0 h4 [a1] := K3.ext E4
  have A4 : Ar Z h4 ad4 .int [(0 : Int32), (0 : Int32), (0 : Int32), (0 : Int32), (0 : Int32), (0 : Int32), (0 : Int32), (0 : Int32), (0 : Int32), (0 : Int32), (0 : Int32), (0 : Int32), (0 : Int32), (0 : Int32), (0 : Int32), (0 : Int32)] := A4
  refine ePutF X4 hx hZ hown (hw _ (List.mem_of_getElem? (i := 13) rfl)) Via.refl e4 F_a1__transitions E_a1 (Or.inl (hw _ (List.mem_of_getElem? (i := 14) rfl))) (hw _ (List.mem_of_getElem? (i := 3) rfl)) (ty := (.array .int)) (by decide) rfl rfl (hb hby own_d1_17) rfl (fun T5 h5 X5 e5 W5 => ?_)
  have E_a1 := E_a1.wr W5
  have F_a1__parents := F_a1__parents.other W5 (Or.inr (slot_ne (Or.inl (hw _ (List.mem_of_getElem? (i := 12) rfl))) (Or.inl (hw _ (List.mem_of_getElem? (i := 14) rfl))) (by decide) (t := (.array .int)) (t' := (.array .int)) (by decide) (by decide)))
  have F_a1__nodes := F_a1__nodes.other W5 (Or.inr (slot_ne (Or.inl (hw _ (List.mem_of_getElem? (i := 21) rfl))) (Or.inl (hw _ (List.mem_of_getElem? (i := 14) rfl))) (by decide) (t := .int) (t' := (.array .int)) (by decide) (by decide)))
  have A2 := A2.other W5 (Ne.symm ne_a1_ad2)
  have A4 := A4.other W5 (Ne.symm ne_a1_ad4)
  have F_a1__transitions := F_a1__transitions.same W5
  have N5 := Fr.snoc X5 N3 ge_a1
  have Z5 := Nat.le_trans Z4 (Keep.of_wr W5).1
  have K5 : Keep h0 h5 [a1] := K4.wr W5 (Or.inl (List.mem_of_getElem? (i := 0) rfl))
  exact eRetV X5 hx Bd.returns hlk (hb hby own_d1_20) (by decide) (by decide) (by rw [e5]; exact ⟨N5, K5, ad2, ad4, gk_ad2, gk_ad4, (Ne.symm ne_ad2_ad4), rfl, E_a1, F_a1__parents, F_a1__transitions, F_a1__nodes, A2, A4⟩)
theorem own_d3_0 : decode prog_58_method_2_code 0 = .ok (.aload_n 0, 1) := by decide +kernel
theorem own_d3_1 : decode prog_58_method_2_code 1 = .ok (.getfield 18, 3) := by decide +kernel
theorem own_d3_4 : decode prog_58_method_2_code 4 = .ok (.aload_n 0, 1) := by decide +kernel
theorem own_d3_5 : decode prog_58_method_2_code 5 = .ok (.getfield 9, 3) := by decide +kernel
theorem own_d3_8 : decode prog_58_method_2_code 8 = .ok (.arraylength, 1) := by decide +kernel
theorem own_d3_9 : decode prog_58_method_2_code 9 = .ok (.if_icmp .ne 25, 3) := by decide +kernel
theorem own_d3_34 : decode prog_58_method_2_code 34 = .ok (.aload_n 0, 1) := by decide +kernel
theorem own_d3_35 : decode prog_58_method_2_code 35 = .ok (.getfield 9, 3) := by decide +kernel
theorem own_d3_38 : decode prog_58_method_2_code 38 = .ok (.aload_n 0, 1) := by decide +kernel
theorem own_d3_39 : decode prog_58_method_2_code 39 = .ok (.getfield 18, 3) := by decide +kernel
theorem own_d3_42 : decode prog_58_method_2_code 42 = .ok (.iload_n 1, 1) := by decide +kernel
theorem own_d3_43 : decode prog_58_method_2_code 43 = .ok (.iastore, 1) := by decide +kernel
theorem own_d3_44 : decode prog_58_method_2_code 44 = .ok (.aload_n 0, 1) := by decide +kernel
theorem own_d3_45 : decode prog_58_method_2_code 45 = .ok (.getfield 15, 3) := by decide +kernel
theorem own_d3_48 : decode prog_58_method_2_code 48 = .ok (.aload_n 0, 1) := by decide +kernel
theorem own_d3_49 : decode prog_58_method_2_code 49 = .ok (.getfield 18, 3) := by decide +kernel
theorem own_d3_52 : decode prog_58_method_2_code 52 = .ok (.iload_n 2, 1) := by decide +kernel
theorem own_d3_53 : decode prog_58_method_2_code 53 = .ok (.iastore, 1) := by decide +kernel
theorem own_d3_54 : decode prog_58_method_2_code 54 = .ok (.aload_n 0, 1) := by decide +kernel
theorem own_d3_55 : decode prog_58_method_2_code 55 = .ok (.dup, 1) := by decide +kernel
theorem own_d3_56 : decode prog_58_method_2_code 56 = .ok (.getfield 18, 3) := by decide +kernel
theorem own_d3_59 : decode prog_58_method_2_code 59 = .ok (.dup_x1, 1) := by decide +kernel
theorem own_d3_60 : decode prog_58_method_2_code 60 = .ok (.iconst 1, 1) := by decide +kernel
theorem own_d3_61 : decode prog_58_method_2_code 61 = .ok (.iadd, 1) := by decide +kernel
theorem own_d3_62 : decode prog_58_method_2_code 62 = .ok (.putfield 18, 3) := by decide +kernel
theorem own_d3_65 : decode prog_58_method_2_code 65 = .ok (.ireturn, 1) := by decide +kernel
def RM3 : Room := { frames := 0, cells := 0, slots := 0, locals := 0 }
def fAdd_0 (p2 : Int32) (p3 : Int32) (w1 : Int32) (vs1 : List Int32) (vs2 : List Int32) : Int32 × Int32 × (List Int32) × (List Int32) := (w1, (w1 + (1 : Int32)), (wr vs1 w1 p2), (wr vs2 w1 p3))
theorem own_ef3 (m : MethodId) (a1 : Addr) (p2 : Int32) (p3 : Int32) : entryFrame m #[(.ref a1), (.int p2), (.int p3)] 3 = mkF m 0 #[.val (.ref a1), .val (.int p2), .val (.int p3)] [] := by first | (simp [entryFrame, mkF, argsToLocals, Value.category]; done) | rfl
set_option maxRecDepth 65536 in
set_option maxHeartbeats 40000000 in
theorem rm3 (l : Launch) (Z : State) (a0 : Array Value) (hw : ∀ d ∈ tables_1, d.before a0 Z = true) (ws : List Jvm.Cond) (a1 : Addr) (p2 : Int32) (p3 : Int32) (b1 : Addr) (b2 : Addr) (w1 : Int32) (vs1 : List Int32) (vs2 : List Int32) (h0 : Heap) (n0 : Nat) (Z0 : n0 ≤ h0.size) (E_a1 : Exa Z h0 a1 "com/example/workflow_soundness/workflowsoundness/analysis/SearchTree") (F_a1__parents : Fld Z h0 a1 "com/example/workflow_soundness/workflowsoundness/analysis/SearchTree" "_parents" "[I" (.ref b1)) (F_a1__transitions : Fld Z h0 a1 "com/example/workflow_soundness/workflowsoundness/analysis/SearchTree" "_transitions" "[I" (.ref b2)) (F_a1__nodes : Fld Z h0 a1 "com/example/workflow_soundness/workflowsoundness/analysis/SearchTree" "_nodes" "I" (.int w1)) (A_b1 : Ar Z h0 b1 .int vs1) (A_b2 : Ar Z h0 b2 .int vs2) (ge_a1 : n0 ≤ a1) (ge_b1 : n0 ≤ b1) (ge_b2 : n0 ≤ b2) (ne_a1_b1 : a1 ≠ b1) (ne_a1_b2 : a1 ≠ b2) (ne_b1_b2 : b1 ≠ b2) (hne : ¬ (w1 = (Int32.ofNat vs1.length))) (hi1 : InB vs1 w1) (hi2 : InB vs2 w1) : MetQ l Z (⟨"com/example/workflow_soundness/workflowsoundness/analysis/SearchTree", "add", "(II)I"⟩ : MethodName) (Jvm.Cond.code (⟨"com/example/workflow_soundness/workflowsoundness/analysis/SearchTree", "add", "(II)I"⟩ : MethodName) prog_58_method_2_code 3 (some .int) :: ws) RM3 #[(.ref a1), (.int p2), (.int p3)] h0 (fun v h L => Fr n0 L ∧ Keep h0 h [a1, b1, b2] ∧ v = some (.int ((fAdd_0 p2 p3 w1 vs1 vs2)).1) ∧ Exa Z h a1 "com/example/workflow_soundness/workflowsoundness/analysis/SearchTree" ∧ Fld Z h a1 "com/example/workflow_soundness/workflowsoundness/analysis/SearchTree" "_parents" "[I" (.ref b1) ∧ Fld Z h a1 "com/example/workflow_soundness/workflowsoundness/analysis/SearchTree" "_transitions" "[I" (.ref b2) ∧ Fld Z h a1 "com/example/workflow_soundness/workflowsoundness/analysis/SearchTree" "_nodes" "I" (.int ((fAdd_0 p2 p3 w1 vs1 vs2)).2.1) ∧ Ar Z h b1 .int ((fAdd_0 p2 p3 w1 vs1 vs2)).2.2.1 ∧ Ar Z h b2 .int ((fAdd_0 p2 p3 w1 vs1 vs2)).2.2.2) := by
  refine MetFree.of_bodySF (plainFor_of_name own_pn0) hisR ?_
  intro p e s m args below meth c s₁ Bd hml0 hP hK
  obtain ⟨rfl, hZ, hh⟩ := hP
  have hx := Bd.exec
  have hby := Bd.bytes
  have hml : c.maxLocals = 3 := hml0
  have hown : s.vm.findClass "com/example/workflow_soundness/workflowsoundness/analysis/SearchTree" = some m.cls := findClass_of_methodNamed Bd.named
  have hnm := (name_of_methodNamed Bd.named Bd.method).1
  have hlk : meth.locks = false := BodyLoose.notSynchronized Bd
  have X0 : Stand p l e RM3 s m #[(.ref a1), (.int p2), (.int p3)] below meth c s₁ [] 0 0 := Stand.of_body Bd
  have e0 : s₁.heap = h0 := by rw [← hh, Bd.state]; rfl
  have N0 := Fr.nil n0
  have K0 := Keep.refl h0 [a1, b1, b2]
  suffices kk : Ends p e below (PostQ s 0 0 (fun v h L => Fr n0 L ∧ Keep h0 h [a1, b1, b2] ∧ v = some (.int ((fAdd_0 p2 p3 w1 vs1 vs2)).1) ∧ Exa Z h a1 "com/example/workflow_soundness/workflowsoundness/analysis/SearchTree" ∧ Fld Z h a1 "com/example/workflow_soundness/workflowsoundness/analysis/SearchTree" "_parents" "[I" (.ref b1) ∧ Fld Z h a1 "com/example/workflow_soundness/workflowsoundness/analysis/SearchTree" "_transitions" "[I" (.ref b2) ∧ Fld Z h a1 "com/example/workflow_soundness/workflowsoundness/analysis/SearchTree" "_nodes" "I" (.int ((fAdd_0 p2 p3 w1 vs1 vs2)).2.1) ∧ Ar Z h b1 .int ((fAdd_0 p2 p3 w1 vs1 vs2)).2.2.1 ∧ Ar Z h b2 .int ((fAdd_0 p2 p3 w1 vs1 vs2)).2.2.2)) s₁ m 0 #[.val (.ref a1), .val (.int p2), .val (.int p3)] [] by
    obtain ⟨t, o, k1, k2, k3, k4⟩ := kk
    exact ⟨t, o, castTop (own_ef3 m a1 p2 p3) k1, k2, k3, k4⟩
  refine eALoadN X0 hx (hb hby own_d3_0) rfl rfl rfl ?_
  refine eGetF X0 hx hZ hown (hw _ (List.mem_of_getElem? (i := 20) rfl)) Via.refl e0 F_a1__nodes (hb hby own_d3_1) rfl (fun T1 X1 e1 => ?_)
  refine eALoadN X1 hx (hb hby own_d3_4) rfl rfl rfl ?_
  refine eGetF X1 hx hZ hown (hw _ (List.mem_of_getElem? (i := 11) rfl)) Via.refl e1 F_a1__parents (hb hby own_d3_5) rfl (fun T2 X2 e2 => ?_)
  refine eLen X2 hx hZ e2 A_b1 (Int32.ofNat vs1.length) rfl (hb hby own_d3_8) rfl ?_
  refine eIcmpY X2 hx (hb hby own_d3_9) (feq hne).2 (by decide) (pc' := 34) rfl ?_
  refine eALoadN X2 hx (hb hby own_d3_34) rfl rfl rfl ?_
  refine eGetF X2 hx hZ hown (hw _ (List.mem_of_getElem? (i := 11) rfl)) Via.refl e2 F_a1__parents (hb hby own_d3_35) rfl (fun T3 X3 e3 => ?_)
  refine eALoadN X3 hx (hb hby own_d3_38) rfl rfl rfl ?_
  refine eGetF X3 hx hZ hown (hw _ (List.mem_of_getElem? (i := 20) rfl)) Via.refl e3 F_a1__nodes (hb hby own_d3_39) rfl (fun T4 X4 e4 => ?_)
  refine eILoadN X4 hx (hb hby own_d3_42) rfl rfl ?_
  refine eIAStore X4 hx hZ e4 A_b1 hi1 (hb hby own_d3_43) rfl (fun T5 h5 X5 e5 W5 B5 => ?_)
  have E_a1 := E_a1.wr W5
  have F_a1__parents := F_a1__parents.other W5 (Or.inl ne_a1_b1)
  have F_a1__transitions := F_a1__transitions.other W5 (Or.inl ne_a1_b1)
  have F_a1__nodes := F_a1__nodes.other W5 (Or.inl ne_a1_b1)
  have A_b2 := A_b2.other W5 (Ne.symm ne_b1_b2)
  have A_b1 : Ar Z h5 b1 .int (wr vs1 w1 p2) := B5
  have N5 := Fr.snoc X5 N0 ge_b1
  have Z5 := Nat.le_trans Z0 (Keep.of_wr W5).1
  have K5 : Keep h0 h5 [a1, b1, b2] := K0.wr W5 (Or.inl (List.mem_of_getElem? (i := 1) rfl))
  refine eALoadN X5 hx (hb hby own_d3_44) rfl rfl rfl ?_
  refine eGetF X5 hx hZ hown (hw _ (List.mem_of_getElem? (i := 13) rfl)) Via.refl e5 F_a1__transitions (hb hby own_d3_45) rfl (fun T6 X6 e6 => ?_)
  refine eALoadN X6 hx (hb hby own_d3_48) rfl rfl rfl ?_
  refine eGetF X6 hx hZ hown (hw _ (List.mem_of_getElem? (i := 20) rfl)) Via.refl e6 F_a1__nodes (hb hby own_d3_49) rfl (fun T7 X7 e7 => ?_)
  refine eILoadN X7 hx (hb hby own_d3_52) rfl rfl ?_
  refine eIAStore X7 hx hZ e7 A_b2 hi2 (hb hby own_d3_53) rfl (fun T8 h8 X8 e8 W8 B8 => ?_)
  have E_a1 := E_a1.wr W8
  have F_a1__parents := F_a1__parents.other W8 (Or.inl ne_a1_b2)
  have F_a1__transitions := F_a1__transitions.other W8 (Or.inl ne_a1_b2)
  have F_a1__nodes := F_a1__nodes.other W8 (Or.inl ne_a1_b2)
  have A_b1 := A_b1.other W8 ne_b1_b2
  have A_b2 : Ar Z h8 b2 .int (wr vs2 w1 p3) := B8
  have N8 := Fr.snoc X8 N5 ge_b2
  have Z8 := Nat.le_trans Z5 (Keep.of_wr W8).1
  have K8 : Keep h0 h8 [a1, b1, b2] := K5.wr W8 (Or.inl (List.mem_of_getElem? (i := 2) rfl))
  refine eALoadN X8 hx (hb hby own_d3_54) rfl rfl rfl ?_
  refine eDup X8 hx (hb hby own_d3_55) rfl rfl ?_
  refine eGetF X8 hx hZ hown (hw _ (List.mem_of_getElem? (i := 20) rfl)) Via.refl e8 F_a1__nodes (hb hby own_d3_56) rfl (fun T9 X9 e9 => ?_)
  refine eDupX1 X9 hx (hb hby own_d3_59) rfl rfl rfl ?_
  refine eIConst X9 hx (1 : Int32) (hb hby own_d3_60) rfl rfl ?_
  refine eIAdd X9 hx (hb hby own_d3_61) rfl ?_
  refine ePutF X9 hx hZ hown (hw _ (List.mem_of_getElem? (i := 20) rfl)) Via.refl e9 F_a1__nodes E_a1 (Or.inl (hw _ (List.mem_of_getElem? (i := 21) rfl))) (hw _ (List.mem_of_getElem? (i := 3) rfl)) (ty := .int) (by decide) rfl rfl (hb hby own_d3_62) rfl (fun T10 h10 X10 e10 W10 => ?_)
  have E_a1 := E_a1.wr W10
  have F_a1__parents := F_a1__parents.other W10 (Or.inr (slot_ne (Or.inl (hw _ (List.mem_of_getElem? (i := 12) rfl))) (Or.inl (hw _ (List.mem_of_getElem? (i := 21) rfl))) (by decide) (t := (.array .int)) (t' := .int) (by decide) (by decide)))
  have F_a1__transitions := F_a1__transitions.other W10 (Or.inr (slot_ne (Or.inl (hw _ (List.mem_of_getElem? (i := 14) rfl))) (Or.inl (hw _ (List.mem_of_getElem? (i := 21) rfl))) (by decide) (t := (.array .int)) (t' := .int) (by decide) (by decide)))
  have A_b1 := A_b1.other W10 (Ne.symm ne_a1_b1)
  have A_b2 := A_b2.other W10 (Ne.symm ne_a1_b2)
  have F_a1__nodes := F_a1__nodes.same W10
  have N10 := Fr.snoc X10 N8 ge_a1
  have Z10 := Nat.le_trans Z8 (Keep.of_wr W10).1
  have K10 : Keep h0 h10 [a1, b1, b2] := K8.wr W10 (Or.inl (List.mem_of_getElem? (i := 0) rfl))
  exact eRetI X10 hx Bd.returns hlk (hb hby own_d3_65) (by decide) (by decide) (by rw [e10]; exact ⟨N10, K10, rfl, E_a1, F_a1__parents, F_a1__transitions, F_a1__nodes, A_b1, A_b2⟩)
theorem own_d4_0 : decode prog_58_method_4_code 0 = .ok (.iconst 0, 1) := by decide +kernel
theorem own_d4_1 : decode prog_58_method_4_code 1 = .ok (.istore_n 2, 1) := by decide +kernel
theorem own_d4_2 : decode prog_58_method_4_code 2 = .ok (.iload_n 1, 1) := by decide +kernel
theorem own_d4_3 : decode prog_58_method_4_code 3 = .ok (.istore_n 3, 1) := by decide +kernel
theorem own_d4_4 : decode prog_58_method_4_code 4 = .ok (.aload_n 0, 1) := by decide +kernel
theorem own_d4_5 : decode prog_58_method_4_code 5 = .ok (.getfield 9, 3) := by decide +kernel
theorem own_d4_8 : decode prog_58_method_4_code 8 = .ok (.iload_n 3, 1) := by decide +kernel
theorem own_d4_9 : decode prog_58_method_4_code 9 = .ok (.iaload, 1) := by decide +kernel
theorem own_d4_10 : decode prog_58_method_4_code 10 = .ok (.ifCond .lt 16, 3) := by decide +kernel
theorem own_d4_26 : decode prog_58_method_4_code 26 = .ok (.iload_n 2, 1) := by decide +kernel
theorem own_d4_27 : decode prog_58_method_4_code 27 = .ok (.newarray .int, 2) := by decide +kernel
theorem own_d4_29 : decode prog_58_method_4_code 29 = .ok (.astore_n 3, 1) := by decide +kernel
theorem own_d4_30 : decode prog_58_method_4_code 30 = .ok (.iload_n 1, 1) := by decide +kernel
theorem own_d4_31 : decode prog_58_method_4_code 31 = .ok (.istore 4, 2) := by decide +kernel
theorem own_d4_33 : decode prog_58_method_4_code 33 = .ok (.aload_n 0, 1) := by decide +kernel
theorem own_d4_34 : decode prog_58_method_4_code 34 = .ok (.getfield 9, 3) := by decide +kernel
theorem own_d4_37 : decode prog_58_method_4_code 37 = .ok (.iload 4, 2) := by decide +kernel
theorem own_d4_39 : decode prog_58_method_4_code 39 = .ok (.iaload, 1) := by decide +kernel
theorem own_d4_40 : decode prog_58_method_4_code 40 = .ok (.ifCond .lt 28, 3) := by decide +kernel
theorem own_d4_68 : decode prog_58_method_4_code 68 = .ok (.aload_n 3, 1) := by decide +kernel
theorem own_d4_69 : decode prog_58_method_4_code 69 = .ok (.areturn, 1) := by decide +kernel
theorem own_d4_43 : decode prog_58_method_4_code 43 = .ok (.aload_n 3, 1) := by decide +kernel
theorem own_d4_44 : decode prog_58_method_4_code 44 = .ok (.iinc 2 (-1), 3) := by decide +kernel
theorem own_d4_47 : decode prog_58_method_4_code 47 = .ok (.iload_n 2, 1) := by decide +kernel
theorem own_d4_48 : decode prog_58_method_4_code 48 = .ok (.aload_n 0, 1) := by decide +kernel
theorem own_d4_49 : decode prog_58_method_4_code 49 = .ok (.getfield 15, 3) := by decide +kernel
theorem own_d4_52 : decode prog_58_method_4_code 52 = .ok (.iload 4, 2) := by decide +kernel
theorem own_d4_54 : decode prog_58_method_4_code 54 = .ok (.iaload, 1) := by decide +kernel
theorem own_d4_55 : decode prog_58_method_4_code 55 = .ok (.iastore, 1) := by decide +kernel
theorem own_d4_56 : decode prog_58_method_4_code 56 = .ok (.aload_n 0, 1) := by decide +kernel
theorem own_d4_57 : decode prog_58_method_4_code 57 = .ok (.getfield 9, 3) := by decide +kernel
theorem own_d4_60 : decode prog_58_method_4_code 60 = .ok (.iload 4, 2) := by decide +kernel
theorem own_d4_62 : decode prog_58_method_4_code 62 = .ok (.iaload, 1) := by decide +kernel
theorem own_d4_63 : decode prog_58_method_4_code 63 = .ok (.istore 4, 2) := by decide +kernel
theorem own_d4_65 : decode prog_58_method_4_code 65 = .ok (.goto (-32), 3) := by decide +kernel
theorem own_d4_13 : decode prog_58_method_4_code 13 = .ok (.iinc 2 1, 3) := by decide +kernel
theorem own_d4_16 : decode prog_58_method_4_code 16 = .ok (.aload_n 0, 1) := by decide +kernel
theorem own_d4_17 : decode prog_58_method_4_code 17 = .ok (.getfield 9, 3) := by decide +kernel
theorem own_d4_20 : decode prog_58_method_4_code 20 = .ok (.iload_n 3, 1) := by decide +kernel
theorem own_d4_21 : decode prog_58_method_4_code 21 = .ok (.iaload, 1) := by decide +kernel
theorem own_d4_22 : decode prog_58_method_4_code 22 = .ok (.istore_n 3, 1) := by decide +kernel
theorem own_d4_23 : decode prog_58_method_4_code 23 = .ok (.goto (-19), 3) := by decide +kernel
def RM4 : Room := { frames := 0, cells := 1, slots := 4, locals := 0 }
def fPath_33 (vs1 : List Int32) (vs2 : List Int32) : Nat → Int32 → Int32 → List Int32 → (List Int32)
  | 0, v2_8, v4_9, vs10 => vs10
  | k7 + 1, v2_8, v4_9, vs10 => (if (rd vs1 v4_9) < (0 : Int32) then vs10 else (fPath_33 vs1 vs2 k7 (v2_8 + (-1 : Int32)) (rd vs1 v4_9) (wr vs10 (v2_8 + (-1 : Int32)) (rd vs2 v4_9))))
def fPath_4 (p2 : Int32) (vs1 : List Int32) (vs2 : List Int32) : Nat → Int32 → Int32 → (List Int32)
  | 0, v2_2, v3_3 => []
  | k1 + 1, v2_2, v3_3 => (if (rd vs1 v3_3) < (0 : Int32) then (fPath_33 vs1 vs2 5 v2_2 p2 (List.replicate v2_2.toNatClampNeg 0)) else (fPath_4 p2 vs1 vs2 k1 (v2_2 + (1 : Int32)) (rd vs1 v3_3)))
def fPath_0 (p2 : Int32) (vs1 : List Int32) (vs2 : List Int32) : (List Int32) := (fPath_4 p2 vs1 vs2 5 (0 : Int32) p2)
theorem own_ef4 (m : MethodId) (a1 : Addr) (p2 : Int32) : entryFrame m #[(.ref a1), (.int p2)] 5 = mkF m 0 #[.val (.ref a1), .val (.int p2), .unset, .unset, .unset] [] := by first | (simp [entryFrame, mkF, argsToLocals, Value.category]; done) | rfl
set_option maxRecDepth 65536 in
set_option maxHeartbeats 40000000 in
theorem rm4 (l : Launch) (Z : State) (a0 : Array Value) (hw : ∀ d ∈ tables_1, d.before a0 Z = true) (ws : List Jvm.Cond) (a1 : Addr) (p2 : Int32) (b1 : Addr) (b2 : Addr) (w1 : Int32) (vs1 : List Int32) (vs2 : List Int32) (h0 : Heap) (n0 : Nat) (Z0 : n0 ≤ h0.size) (E_a1 : Exa Z h0 a1 "com/example/workflow_soundness/workflowsoundness/analysis/SearchTree") (F_a1__parents : Fld Z h0 a1 "com/example/workflow_soundness/workflowsoundness/analysis/SearchTree" "_parents" "[I" (.ref b1)) (F_a1__transitions : Fld Z h0 a1 "com/example/workflow_soundness/workflowsoundness/analysis/SearchTree" "_transitions" "[I" (.ref b2)) (F_a1__nodes : Fld Z h0 a1 "com/example/workflow_soundness/workflowsoundness/analysis/SearchTree" "_nodes" "I" (.int w1)) (A_b1 : Ar Z h0 b1 .int vs1) (A_b2 : Ar Z h0 b2 .int vs2) (D : Dec vs1) (hl2 : vs2.length = 16) (hq : 0 ≤ p2.toInt ∧ p2.toInt < 5) : MetQ l Z (⟨"com/example/workflow_soundness/workflowsoundness/analysis/SearchTree", "path", "(I)[I"⟩ : MethodName) (Jvm.Cond.code (⟨"com/example/workflow_soundness/workflowsoundness/analysis/SearchTree", "path", "(I)[I"⟩ : MethodName) prog_58_method_4_code 5 (some (.array .int)) :: ws) RM4 #[(.ref a1), (.int p2)] h0 (fun v h L => Fr n0 L ∧ Keep h0 h [] ∧ ∃ (c1 : Addr), h0.size ≤ c1 ∧ v = some (.ref c1) ∧ Exa Z h a1 "com/example/workflow_soundness/workflowsoundness/analysis/SearchTree" ∧ Fld Z h a1 "com/example/workflow_soundness/workflowsoundness/analysis/SearchTree" "_parents" "[I" (.ref b1) ∧ Fld Z h a1 "com/example/workflow_soundness/workflowsoundness/analysis/SearchTree" "_transitions" "[I" (.ref b2) ∧ Fld Z h a1 "com/example/workflow_soundness/workflowsoundness/analysis/SearchTree" "_nodes" "I" (.int w1) ∧ Ar Z h b1 .int vs1 ∧ Ar Z h b2 .int vs2 ∧ Ar Z h c1 .int (fPath_0 p2 vs1 vs2)) := by
  refine MetFree.of_bodySF (plainFor_of_name own_pn0) hisR ?_
  intro p e s m args below meth c s₁ Bd hml0 hP hK
  obtain ⟨rfl, hZ, hh⟩ := hP
  have hx := Bd.exec
  have hby := Bd.bytes
  have hml : c.maxLocals = 5 := hml0
  have hown : s.vm.findClass "com/example/workflow_soundness/workflowsoundness/analysis/SearchTree" = some m.cls := findClass_of_methodNamed Bd.named
  have hnm := (name_of_methodNamed Bd.named Bd.method).1
  have hlk : meth.locks = false := BodyLoose.notSynchronized Bd
  have X0 : Stand p l e RM4 s m #[(.ref a1), (.int p2)] below meth c s₁ [] 0 0 := Stand.of_body Bd
  have e0 : s₁.heap = h0 := by rw [← hh, Bd.state]; rfl
  have N0 := Fr.nil n0
  have K0 := Keep.refl h0 []
  suffices kk : Ends p e below (PostQ s 1 4 (fun v h L => Fr n0 L ∧ Keep h0 h [] ∧ ∃ (c1 : Addr), h0.size ≤ c1 ∧ v = some (.ref c1) ∧ Exa Z h a1 "com/example/workflow_soundness/workflowsoundness/analysis/SearchTree" ∧ Fld Z h a1 "com/example/workflow_soundness/workflowsoundness/analysis/SearchTree" "_parents" "[I" (.ref b1) ∧ Fld Z h a1 "com/example/workflow_soundness/workflowsoundness/analysis/SearchTree" "_transitions" "[I" (.ref b2) ∧ Fld Z h a1 "com/example/workflow_soundness/workflowsoundness/analysis/SearchTree" "_nodes" "I" (.int w1) ∧ Ar Z h b1 .int vs1 ∧ Ar Z h b2 .int vs2 ∧ Ar Z h c1 .int (fPath_0 p2 vs1 vs2))) s₁ m 0 #[.val (.ref a1), .val (.int p2), .unset, .unset, .unset] [] by
    obtain ⟨t, o, k1, k2, k3, k4⟩ := kk
    exact ⟨t, o, castTop (own_ef4 m a1 p2) k1, k2, k3, k4⟩
  refine eIConst X0 hx (0 : Int32) (hb hby own_d4_0) rfl rfl ?_
  refine eIStoreN X0 hx (hb hby own_d4_1) (L' := #[.val (.ref a1), .val (.int p2), .val (.int (0 : Int32)), .unset, .unset]) rfl rfl ?_
  refine eILoadN X0 hx (hb hby own_d4_2) rfl rfl ?_
  refine eIStoreN X0 hx (hb hby own_d4_3) (L' := #[.val (.ref a1), .val (.int p2), .val (.int (0 : Int32)), .val (.int p2), .unset]) rfl rfl ?_
  have LP1 : ∀ (k1 : Nat) (v2_2 : Int32) (v3_3 : Int32) (T1 : State) (locs1 : List Loc) (hk : v3_3.toInt.toNat < k1) (ha : 0 ≤ v3_3.toInt ∧ v3_3.toInt < 5) (hc : 0 ≤ v2_2.toInt ∧ v2_2.toInt + own_S vs1 v3_3 = own_S vs1 p2) (X1 : Stand p l e RM4 s m #[(.ref a1), (.int p2)] below meth c T1 locs1 0 0) (N1 : Fr n0 locs1) (e1 : T1.heap = h0), Ends p e below (PostQ s 1 4 (fun v h L => Fr n0 L ∧ Keep h0 h [] ∧ ∃ (c1 : Addr), h0.size ≤ c1 ∧ v = some (.ref c1) ∧ Exa Z h a1 "com/example/workflow_soundness/workflowsoundness/analysis/SearchTree" ∧ Fld Z h a1 "com/example/workflow_soundness/workflowsoundness/analysis/SearchTree" "_parents" "[I" (.ref b1) ∧ Fld Z h a1 "com/example/workflow_soundness/workflowsoundness/analysis/SearchTree" "_transitions" "[I" (.ref b2) ∧ Fld Z h a1 "com/example/workflow_soundness/workflowsoundness/analysis/SearchTree" "_nodes" "I" (.int w1) ∧ Ar Z h b1 .int vs1 ∧ Ar Z h b2 .int vs2 ∧ Ar Z h c1 .int (fPath_4 p2 vs1 vs2 k1 v2_2 v3_3))) T1 m 4 #[.val (.ref a1), .val (.int p2), .val (.int v2_2), .val (.int v3_3), .unset] [] := by
    intro k1
    induction k1 with
    | zero => intro v2_2 v3_3 T1 locs1 hk ha hc X1 N1 e1; exact absurd hk (Nat.not_lt_zero _)
    | succ k1 ih1 =>
      intro v2_2 v3_3 T1 locs1 hk ha hc X1 N1 e1
      refine eALoadN X1 hx (hb hby own_d4_4) rfl rfl rfl ?_
      refine eGetF X1 hx hZ hown (hw _ (List.mem_of_getElem? (i := 11) rfl)) Via.refl e1 F_a1__parents (hb hby own_d4_5) rfl (fun T4 X4 e4 => ?_)
      refine eILoadN X4 hx (hb hby own_d4_8) rfl rfl ?_
      refine eIALoad X4 hx hZ e4 A_b1 (rd vs1 v3_3) rfl (own_in5 ha D.1) (hb hby own_d4_9) rfl ?_
      show Ends p e below (PostQ s 1 4 (fun v h L => Fr n0 L ∧ Keep h0 h [] ∧ ∃ (c1 : Addr), h0.size ≤ c1 ∧ v = some (.ref c1) ∧ Exa Z h a1 "com/example/workflow_soundness/workflowsoundness/analysis/SearchTree" ∧ Fld Z h a1 "com/example/workflow_soundness/workflowsoundness/analysis/SearchTree" "_parents" "[I" (.ref b1) ∧ Fld Z h a1 "com/example/workflow_soundness/workflowsoundness/analysis/SearchTree" "_transitions" "[I" (.ref b2) ∧ Fld Z h a1 "com/example/workflow_soundness/workflowsoundness/analysis/SearchTree" "_nodes" "I" (.int w1) ∧ Ar Z h b1 .int vs1 ∧ Ar Z h b2 .int vs2 ∧ Ar Z h c1 .int (if (rd vs1 v3_3) < (0 : Int32) then (fPath_33 vs1 vs2 5 v2_2 p2 (List.replicate v2_2.toNatClampNeg 0)) else (fPath_4 p2 vs1 vs2 k1 (v2_2 + (1 : Int32)) (rd vs1 v3_3))))) T4 m 10 #[.val (.ref a1), .val (.int p2), .val (.int v2_2), .val (.int v3_3), .unset] [(.int (rd vs1 v3_3))]
      by_cases c5 : (rd vs1 v3_3) < (0 : Int32)
      · rw [if_pos c5]
        refine eIfY X4 hx (hb hby own_d4_10) ((if0 _ _).trans (tlt c5).1) (by decide) (pc' := 26) rfl ?_
        refine eILoadN X4 hx (hb hby own_d4_26) rfl rfl ?_
        refine eNewA X4 hx hZ rfl rfl (hw _ (List.mem_of_getElem? (i := 0) rfl)) e4 (hb hby own_d4_27) (own_fin D hq hc c5).2.1 (cap := 4) (own_fin D hq hc c5).2.2 (by decide) (by decide) (by decide) rfl (fun T6 h6 ad6 g6 X6 e6 E6 A6 => ?_)
        have ne_a1_ad6 : a1 ≠ ad6 := Nat.ne_of_lt (Nat.lt_of_lt_of_le E_a1.lt (Nat.le_of_eq g6.symm))
        have ne_b1_ad6 : b1 ≠ ad6 := Nat.ne_of_lt (Nat.lt_of_lt_of_le A_b1.lt (Nat.le_of_eq g6.symm))
        have ne_b2_ad6 : b2 ≠ ad6 := Nat.ne_of_lt (Nat.lt_of_lt_of_le A_b2.lt (Nat.le_of_eq g6.symm))
        have E_a1 := E_a1.ext E6
        have F_a1__parents := F_a1__parents.ext E6
        have F_a1__transitions := F_a1__transitions.ext E6
        have F_a1__nodes := F_a1__nodes.ext E6
        have A_b1 := A_b1.ext E6
        have A_b2 := A_b2.ext E6
        have Z6 := Nat.le_trans Z0 E6.1
        have ge_ad6 : n0 ≤ ad6 := Nat.le_trans Z0 (Nat.le_of_eq g6.symm)
        have gk_ad6 : h0.size ≤ ad6 := Nat.le_trans K0.1 (Nat.le_of_eq g6.symm)
        have K6 : Keep h0 h6 [] := K0.ext E6
        have A6 : Ar Z h6 ad6 .int (List.replicate v2_2.toNatClampNeg 0) := A6
        refine eAStoreN X6 hx (hb hby own_d4_29) rfl (L' := #[.val (.ref a1), .val (.int p2), .val (.int v2_2), .val (.ref ad6), .unset]) rfl rfl ?_
        refine eILoadN X6 hx (hb hby own_d4_30) rfl rfl ?_
        refine eIStore X6 hx (hb hby own_d4_31) (L' := #[.val (.ref a1), .val (.int p2), .val (.int v2_2), .val (.ref ad6), .val (.int p2)]) rfl rfl ?_
        have LP7 : ∀ (k7 : Nat) (v2_8 : Int32) (v4_9 : Int32) (vs10 : List Int32) (hL7 : Heap) (T7 : State) (locs7 : List Loc) (hk2 : v4_9.toInt.toNat < k7) (ha2 : 0 ≤ v4_9.toInt ∧ v4_9.toInt < 5) (hs2 : v2_8.toInt = own_S vs1 v4_9) (hb2 : v2_8.toInt ≤ vs10.length) (X7 : Stand p l e RM4 s m #[(.ref a1), (.int p2)] below meth c T7 locs7 1 4) (N7 : Fr n0 locs7) (e7 : T7.heap = hL7) (Z7 : n0 ≤ hL7.size) (K7 : Keep h0 hL7 []) (E_a1 : Exa Z hL7 a1 "com/example/workflow_soundness/workflowsoundness/analysis/SearchTree") (F_a1__parents : Fld Z hL7 a1 "com/example/workflow_soundness/workflowsoundness/analysis/SearchTree" "_parents" "[I" (.ref b1)) (F_a1__transitions : Fld Z hL7 a1 "com/example/workflow_soundness/workflowsoundness/analysis/SearchTree" "_transitions" "[I" (.ref b2)) (F_a1__nodes : Fld Z hL7 a1 "com/example/workflow_soundness/workflowsoundness/analysis/SearchTree" "_nodes" "I" (.int w1)) (A_b1 : Ar Z hL7 b1 .int vs1) (A_b2 : Ar Z hL7 b2 .int vs2) (A6 : Ar Z hL7 ad6 .int vs10), Ends p e below (PostQ s 1 4 (fun v h L => Fr n0 L ∧ Keep h0 h [] ∧ ∃ (c1 : Addr), h0.size ≤ c1 ∧ v = some (.ref c1) ∧ Exa Z h a1 "com/example/workflow_soundness/workflowsoundness/analysis/SearchTree" ∧ Fld Z h a1 "com/example/workflow_soundness/workflowsoundness/analysis/SearchTree" "_parents" "[I" (.ref b1) ∧ Fld Z h a1 "com/example/workflow_soundness/workflowsoundness/analysis/SearchTree" "_transitions" "[I" (.ref b2) ∧ Fld Z h a1 "com/example/workflow_soundness/workflowsoundness/analysis/SearchTree" "_nodes" "I" (.int w1) ∧ Ar Z h b1 .int vs1 ∧ Ar Z h b2 .int vs2 ∧ Ar Z h c1 .int (fPath_33 vs1 vs2 k7 v2_8 v4_9 vs10))) T7 m 33 #[.val (.ref a1), .val (.int p2), .val (.int v2_8), .val (.ref ad6), .val (.int v4_9)] [] := by
          intro k7
          induction k7 with
          | zero => intro v2_8 v4_9 vs10 hL7 T7 locs7 hk2 ha2 hs2 hb2 X7 N7 e7 Z7 K7 E_a1 F_a1__parents F_a1__transitions F_a1__nodes A_b1 A_b2 A6; exact absurd hk2 (Nat.not_lt_zero _)
          | succ k7 ih7 =>
            intro v2_8 v4_9 vs10 hL7 T7 locs7 hk2 ha2 hs2 hb2 X7 N7 e7 Z7 K7 E_a1 F_a1__parents F_a1__transitions F_a1__nodes A_b1 A_b2 A6
            refine eALoadN X7 hx (hb hby own_d4_33) rfl rfl rfl ?_
            refine eGetF X7 hx hZ hown (hw _ (List.mem_of_getElem? (i := 11) rfl)) Via.refl e7 F_a1__parents (hb hby own_d4_34) rfl (fun T11 X11 e11 => ?_)
            refine eILoad X11 hx (hb hby own_d4_37) rfl rfl ?_
            refine eIALoad X11 hx hZ e11 A_b1 (rd vs1 v4_9) rfl (own_in5 ha2 D.1) (hb hby own_d4_39) rfl ?_
            show Ends p e below (PostQ s 1 4 (fun v h L => Fr n0 L ∧ Keep h0 h [] ∧ ∃ (c1 : Addr), h0.size ≤ c1 ∧ v = some (.ref c1) ∧ Exa Z h a1 "com/example/workflow_soundness/workflowsoundness/analysis/SearchTree" ∧ Fld Z h a1 "com/example/workflow_soundness/workflowsoundness/analysis/SearchTree" "_parents" "[I" (.ref b1) ∧ Fld Z h a1 "com/example/workflow_soundness/workflowsoundness/analysis/SearchTree" "_transitions" "[I" (.ref b2) ∧ Fld Z h a1 "com/example/workflow_soundness/workflowsoundness/analysis/SearchTree" "_nodes" "I" (.int w1) ∧ Ar Z h b1 .int vs1 ∧ Ar Z h b2 .int vs2 ∧ Ar Z h c1 .int (if (rd vs1 v4_9) < (0 : Int32) then vs10 else (fPath_33 vs1 vs2 k7 (v2_8 + (-1 : Int32)) (rd vs1 v4_9) (wr vs10 (v2_8 + (-1 : Int32)) (rd vs2 v4_9)))))) T11 m 40 #[.val (.ref a1), .val (.int p2), .val (.int v2_8), .val (.ref ad6), .val (.int v4_9)] [(.int (rd vs1 v4_9))]
            by_cases c12 : (rd vs1 v4_9) < (0 : Int32)
            · rw [if_pos c12]
              refine eIfY X11 hx (hb hby own_d4_40) ((if0 _ _).trans (tlt c12).1) (by decide) (pc' := 68) rfl ?_
              refine eALoadN X11 hx (hb hby own_d4_68) rfl rfl rfl ?_
              exact eRetA X11 hx Bd.returns rfl rfl rfl hlk (hb hby own_d4_69) (by decide) (by decide) (by rw [e11]; exact ⟨N7, K7, ad6, gk_ad6, rfl, E_a1, F_a1__parents, F_a1__transitions, F_a1__nodes, A_b1, A_b2, A6⟩)
            · rw [if_neg c12]
              refine eIfN X11 hx (hb hby own_d4_40) ((if0 _ _).trans (flt c12).1) rfl ?_
              refine eALoadN X11 hx (hb hby own_d4_43) rfl rfl rfl ?_
              refine eIInc X11 hx (-1 : Int32) (hb hby own_d4_44) rfl rfl (L' := #[.val (.ref a1), .val (.int p2), .val (.int (v2_8 + (-1 : Int32))), .val (.ref ad6), .val (.int v4_9)]) rfl rfl ?_
              refine eILoadN X11 hx (hb hby own_d4_47) rfl rfl ?_
              refine eALoadN X11 hx (hb hby own_d4_48) rfl rfl rfl ?_
              refine eGetF X11 hx hZ hown (hw _ (List.mem_of_getElem? (i := 13) rfl)) Via.refl e11 F_a1__transitions (hb hby own_d4_49) rfl (fun T13 X13 e13 => ?_)
              refine eILoad X13 hx (hb hby own_d4_52) rfl rfl ?_
              refine eIALoad X13 hx hZ e13 A_b2 (rd vs2 v4_9) rfl (own_in5 ha2 hl2) (hb hby own_d4_54) rfl ?_
              refine eIAStore X13 hx hZ e13 A6 (own_inb (own_dn D ha2 hs2 c12).2.1 (own_dnb D ha2 hs2 c12 hb2)) (hb hby own_d4_55) rfl (fun T14 h14 X14 e14 W14 B14 => ?_)
              have E_a1 := E_a1.wr W14
              have F_a1__parents := F_a1__parents.other W14 (Or.inl ne_a1_ad6)
              have F_a1__transitions := F_a1__transitions.other W14 (Or.inl ne_a1_ad6)
              have F_a1__nodes := F_a1__nodes.other W14 (Or.inl ne_a1_ad6)
              have A_b1 := A_b1.other W14 ne_b1_ad6
              have A_b2 := A_b2.other W14 ne_b2_ad6
              have A6 : Ar Z h14 ad6 .int (wr vs10 (v2_8 + (-1 : Int32)) (rd vs2 v4_9)) := B14
              have N14 := Fr.snoc X14 N7 ge_ad6
              have Z14 := Nat.le_trans Z7 (Keep.of_wr W14).1
              have K14 : Keep h0 h14 [] := K7.wr W14 (Or.inr gk_ad6)
              refine eALoadN X14 hx (hb hby own_d4_56) rfl rfl rfl ?_
              refine eGetF X14 hx hZ hown (hw _ (List.mem_of_getElem? (i := 11) rfl)) Via.refl e14 F_a1__parents (hb hby own_d4_57) rfl (fun T15 X15 e15 => ?_)
              refine eILoad X15 hx (hb hby own_d4_60) rfl rfl ?_
              refine eIALoad X15 hx hZ e15 A_b1 (rd vs1 v4_9) rfl (own_in5 ha2 D.1) (hb hby own_d4_62) rfl ?_
              refine eIStore X15 hx (hb hby own_d4_63) (L' := #[.val (.ref a1), .val (.int p2), .val (.int (v2_8 + (-1 : Int32))), .val (.ref ad6), .val (.int (rd vs1 v4_9))]) rfl rfl ?_
              refine eGoto X15 hx (hb hby own_d4_65) (by decide) (pc' := 33) rfl ?_
              exact ih7 (v2_8 + (-1 : Int32)) (rd vs1 v4_9) (wr vs10 (v2_8 + (-1 : Int32)) (rd vs2 v4_9)) _ _ _ (own_go D hk2 ha2 c12).1 (own_go D hk2 ha2 c12).2 (own_dn D ha2 hs2 c12).1 (by rw [own_wl]; exact Int.le_of_lt (own_dnb D ha2 hs2 c12 hb2)) X15 N14 e15 Z14 K14 E_a1 F_a1__parents F_a1__transitions F_a1__nodes A_b1 A_b2 A6
        exact LP7 5 v2_2 p2 (List.replicate v2_2.toNatClampNeg 0) _ _ _ (own_lt5 hq) hq (own_fin D hq hc c5).1 (by rw [own_rep _ (own_fin D hq hc c5).2.1]; exact Int.le_refl _) X6 N1 e6 Z6 K6 E_a1 F_a1__parents F_a1__transitions F_a1__nodes A_b1 A_b2 A6
      · rw [if_neg c5]
        refine eIfN X4 hx (hb hby own_d4_10) ((if0 _ _).trans (flt c5).1) rfl ?_
        refine eIInc X4 hx (1 : Int32) (hb hby own_d4_13) rfl rfl (L' := #[.val (.ref a1), .val (.int p2), .val (.int (v2_2 + (1 : Int32))), .val (.int v3_3), .unset]) rfl rfl ?_
        refine eALoadN X4 hx (hb hby own_d4_16) rfl rfl rfl ?_
        refine eGetF X4 hx hZ hown (hw _ (List.mem_of_getElem? (i := 11) rfl)) Via.refl e4 F_a1__parents (hb hby own_d4_17) rfl (fun T16 X16 e16 => ?_)
        refine eILoadN X16 hx (hb hby own_d4_20) rfl rfl ?_
        refine eIALoad X16 hx hZ e16 A_b1 (rd vs1 v3_3) rfl (own_in5 ha D.1) (hb hby own_d4_21) rfl ?_
        refine eIStoreN X16 hx (hb hby own_d4_22) (L' := #[.val (.ref a1), .val (.int p2), .val (.int (v2_2 + (1 : Int32))), .val (.int (rd vs1 v3_3)), .unset]) rfl rfl ?_
        refine eGoto X16 hx (hb hby own_d4_23) (by decide) (pc' := 4) rfl ?_
        exact ih1 (v2_2 + (1 : Int32)) (rd vs1 v3_3) _ _ (own_go D hk ha c5).1 (own_go D hk ha c5).2 (own_cnt D ha hq hc c5) X16 N1 e16
  exact LP1 5 (0 : Int32) p2 _ _ (own_lt5 hq) hq ⟨by decide, own_zs _⟩ X0 N0 e0
def Dec5 (vs : List Int32) : Prop := vs.length = 5 ∧ ∀ j : Int32, 0 ≤ j.toInt → j.toInt < 5 → (rd vs j).toInt < j.toInt
theorem own_five (P : Int32 → Prop) (h0 : P 0) (h1 : P 1) (h2 : P 2) (h3 : P 3) (h4 : P 4) : ∀ j : Int32, 0 ≤ j.toInt → j.toInt < 5 → P j := by
  intro j a b
  have : j = 0 ∨ j = 1 ∨ j = 2 ∨ j = 3 ∨ j = 4 := by simp only [← Int32.toInt_inj, Int32.reduceToInt]; omega
  rcases this with rfl | rfl | rfl | rfl | rfl <;> assumption
theorem own_r0 (a b c d e : Int32) : rd [a, b, c, d, e] 0 = a ∧ rd [a, b, c, d, e] 1 = b ∧ rd [a, b, c, d, e] 2 = c ∧ rd [a, b, c, d, e] 3 = d ∧ rd [a, b, c, d, e] 4 = e := ⟨rfl, rfl, rfl, rfl, rfl⟩
theorem own_dec5 (p : Int32) : Dec5 [(-1 : Int32), ((p &&& (1 : Int32)) - (1 : Int32)), (((((p.toUInt32 >>> ((1 : Int32) &&& 31).toUInt32).toInt32) &&& (3 : Int32)) % (3 : Int32)) - (1 : Int32)), ((((p.toUInt32 >>> ((3 : Int32) &&& 31).toUInt32).toInt32) &&& (3 : Int32)) - (1 : Int32)), (((((p.toUInt32 >>> ((5 : Int32) &&& 31).toUInt32).toInt32) &&& (7 : Int32)) % (5 : Int32)) - (1 : Int32))] := by
  refine ⟨rfl, ?_⟩
  have m1 := c_mask p 1 1 (by decide) (by decide)
  have m2 := c_mask ((p.toUInt32 >>> ((1 : Int32) &&& 31).toUInt32).toInt32) 3 2 (by decide) (by decide)
  have m3 := c_mask ((p.toUInt32 >>> ((3 : Int32) &&& 31).toUInt32).toInt32) 3 2 (by decide) (by decide)
  have m4 := c_mask ((p.toUInt32 >>> ((5 : Int32) &&& 31).toUInt32).toInt32) 7 3 (by decide) (by decide)
  generalize (p &&& 1) = u1 at *
  generalize (((p.toUInt32 >>> ((1 : Int32) &&& 31).toUInt32).toInt32) &&& 3) = u2 at *
  generalize (((p.toUInt32 >>> ((3 : Int32) &&& 31).toUInt32).toInt32) &&& 3) = u3 at *
  generalize (((p.toUInt32 >>> ((5 : Int32) &&& 31).toUInt32).toInt32) &&& 7) = u4 at *
  have r2 := (c_irem u2 3 3 (by decide)).1 (by omega)
  have r4 := (c_irem u4 5 5 (by decide)).1 (by omega)
  have s1 := c_isub u1 1
  have s2 := c_isub (u2 % 3) 1
  have s3 := c_isub u3 1
  have s4 := c_isub (u4 % 5) 1
  have t1 := rng32 (u1 - 1)
  have t2 := rng32 (u2 % 3 - 1)
  have t3 := rng32 (u3 - 1)
  have t4 := rng32 (u4 % 5 - 1)
  simp only [Int32.reduceToInt] at s1 s2 s3 s4
  obtain ⟨e0, e1, e2, e3, e4⟩ := own_r0 (-1) (u1 - 1) (u2 % 3 - 1) (u3 - 1) (u4 % 5 - 1)
  refine own_five _ ?_ ?_ ?_ ?_ ?_
  · rw [e0]; decide
  · rw [e1]; simp only [Int32.reduceToInt]; omega
  · rw [e2]; simp only [Int32.reduceToInt]; omega
  · rw [e3]; simp only [Int32.reduceToInt]; omega
  · rw [e4]; simp only [Int32.reduceToInt]; omega
theorem own_q (p6 : Int32) : 0 ≤ ((p6 &&& (2147483647 : Int32)) % (5 : Int32)).toInt ∧ ((p6 &&& (2147483647 : Int32)) % (5 : Int32)).toInt < 5 := by
  have h1 := c_mask p6 2147483647 31 (by decide) (by decide)
  have h2 := (c_irem (p6 &&& 2147483647) 5 5 (by decide)).1 (by omega)
  omega
theorem own_p5 {vs : List Int32} (hP : Dec5 vs) {x : Int32} (h : 0 ≤ x.toInt ∧ x.toInt < 5) (c : ¬ rd vs x < 0) : 0 ≤ (rd vs x).toInt ∧ (rd vs x).toInt < 5 := by
  have d := hP.2 x h.1 h.2
  simp only [Int32.lt_iff_toInt_lt, Int32.reduceToInt] at c
  omega
/-- the tree's array behind five adds -/
def T16 (v : List Int32) : List Int32 := [(rd v (0 : Int32)), (rd v (1 : Int32)), (rd v (2 : Int32)), (rd v (3 : Int32)), (rd v (4 : Int32)), (0 : Int32), (0 : Int32), (0 : Int32), (0 : Int32), (0 : Int32), (0 : Int32), (0 : Int32), (0 : Int32), (0 : Int32), (0 : Int32), (0 : Int32)]
theorem own_t16 (v : List Int32) : ∀ j : Int32, 0 ≤ j.toInt → j.toInt < 5 → rd (T16 v) j = rd v j := own_five _ rfl rfl rfl rfl rfl
theorem own_dec16 {v : List Int32} (hP : Dec5 v) : Dec (T16 v) := ⟨rfl, fun j a b => by rw [own_t16 v j a b]; exact hP.2 j a b⟩
theorem own_gi {vs : List Int32} {n k : Int32} (h : (Int32.ofNat vs.length) = n) (hl : vs.length < 2 ^ 31) (h0 : 0 ≤ k.toInt) (h1 : k.toInt < n.toInt) : InB vs k := by
  have e : (Int32.ofNat vs.length).toInt = vs.length := Int32.toInt_ofNat_of_lt hl
  rw [h] at e
  exact own_inb h0 (by omega)
theorem own_pn1 : plainName "com/example/workflow_soundness/workflowsoundness/analysis/SearchTreePathPinLaw" = true := by first | (simp [plainName, overriddenIn]; done) | decide +kernel
theorem own_pd0 : parseMethodDescriptor "()V" = some ⟨[], none⟩ := by decide +kernel
theorem own_pd1 : parseMethodDescriptor "(II)I" = some ⟨[.int, .int], some .int⟩ := by decide +kernel
theorem own_pd2 : parseMethodDescriptor "(I)[I" = some ⟨[.int], some (.array .int)⟩ := by decide +kernel
def f0_265 (p6 : Int32) (vs22 : List Int32) (vs23 : List Int32) (vs33 : List Int32) : Int32 := (if (rd vs22 ((p6 &&& (2147483647 : Int32)) % (5 : Int32))) < (0 : Int32) then (if (Int32.ofNat vs33.length) = (0 : Int32) then (1 : Int32) else (0 : Int32)) else (if (rd vs22 (rd vs22 ((p6 &&& (2147483647 : Int32)) % (5 : Int32)))) < (0 : Int32) then (if (Int32.ofNat vs33.length) = (1 : Int32) then (if (rd vs33 (0 : Int32)) = (rd vs23 ((p6 &&& (2147483647 : Int32)) % (5 : Int32))) then (1 : Int32) else (0 : Int32)) else (0 : Int32)) else (if (rd vs22 (rd vs22 (rd vs22 ((p6 &&& (2147483647 : Int32)) % (5 : Int32))))) < (0 : Int32) then (if (Int32.ofNat vs33.length) = (2 : Int32) then (if (rd vs33 (0 : Int32)) = (rd vs23 (rd vs22 ((p6 &&& (2147483647 : Int32)) % (5 : Int32)))) then (if (rd vs33 (1 : Int32)) = (rd vs23 ((p6 &&& (2147483647 : Int32)) % (5 : Int32))) then (1 : Int32) else (0 : Int32)) else (0 : Int32)) else (0 : Int32)) else (if (rd vs22 (rd vs22 (rd vs22 (rd vs22 ((p6 &&& (2147483647 : Int32)) % (5 : Int32)))))) < (0 : Int32) then (if (Int32.ofNat vs33.length) = (3 : Int32) then (if (rd vs33 (0 : Int32)) = (rd vs23 (rd vs22 (rd vs22 ((p6 &&& (2147483647 : Int32)) % (5 : Int32))))) then (if (rd vs33 (1 : Int32)) = (rd vs23 (rd vs22 ((p6 &&& (2147483647 : Int32)) % (5 : Int32)))) then (if (rd vs33 (2 : Int32)) = (rd vs23 ((p6 &&& (2147483647 : Int32)) % (5 : Int32))) then (1 : Int32) else (0 : Int32)) else (0 : Int32)) else (0 : Int32)) else (0 : Int32)) else (if (Int32.ofNat vs33.length) = (4 : Int32) then (if (rd vs33 (0 : Int32)) = (rd vs23 (rd vs22 (rd vs22 (rd vs22 ((p6 &&& (2147483647 : Int32)) % (5 : Int32)))))) then (if (rd vs33 (1 : Int32)) = (rd vs23 (rd vs22 (rd vs22 ((p6 &&& (2147483647 : Int32)) % (5 : Int32))))) then (if (rd vs33 (2 : Int32)) = (rd vs23 (rd vs22 ((p6 &&& (2147483647 : Int32)) % (5 : Int32)))) then (if (rd vs33 (3 : Int32)) = (rd vs23 ((p6 &&& (2147483647 : Int32)) % (5 : Int32))) then (1 : Int32) else (0 : Int32)) else (0 : Int32)) else (0 : Int32)) else (0 : Int32)) else (0 : Int32))))))
def f0_141 (p6 : Int32) (vs22 : List Int32) (vs23 : List Int32) : Int32 := (f0_265 p6 vs22 vs23 (fPath_0 ((p6 &&& (2147483647 : Int32)) % (5 : Int32)) [(rd vs22 (0 : Int32)), (rd vs22 (1 : Int32)), (rd vs22 (2 : Int32)), (rd vs22 (3 : Int32)), (rd vs22 (4 : Int32)), (0 : Int32), (0 : Int32), (0 : Int32), (0 : Int32), (0 : Int32), (0 : Int32), (0 : Int32), (0 : Int32), (0 : Int32), (0 : Int32), (0 : Int32)] [(rd vs23 (0 : Int32)), (rd vs23 (1 : Int32)), (rd vs23 (2 : Int32)), (rd vs23 (3 : Int32)), (rd vs23 (4 : Int32)), (0 : Int32), (0 : Int32), (0 : Int32), (0 : Int32), (0 : Int32), (0 : Int32), (0 : Int32), (0 : Int32), (0 : Int32), (0 : Int32), (0 : Int32)]))
def f0_131 (p1 : Int32) (p6 : Int32) (t9 : Int32) (t12 : Int32) (t15 : Int32) (t18 : Int32) : Int32 := (f0_141 p6 [(-1 : Int32), ((p1 &&& (1 : Int32)) - (1 : Int32)), (((((p1.toUInt32 >>> ((1 : Int32) &&& 31).toUInt32).toInt32) &&& (3 : Int32)) % (3 : Int32)) - (1 : Int32)), ((((p1.toUInt32 >>> ((3 : Int32) &&& 31).toUInt32).toInt32) &&& (3 : Int32)) - (1 : Int32)), (((((p1.toUInt32 >>> ((5 : Int32) &&& 31).toUInt32).toInt32) &&& (7 : Int32)) % (5 : Int32)) - (1 : Int32))] [(-1 : Int32), t9, t12, t15, t18])
def f0_114 (p1 : Int32) (p5 : Int32) (p6 : Int32) (t9 : Int32) (t12 : Int32) (t15 : Int32) : Int32 := (if (((((p1.toUInt32 >>> ((5 : Int32) &&& 31).toUInt32).toInt32) &&& (7 : Int32)) % (5 : Int32)) - (1 : Int32)) < (0 : Int32) then (f0_131 p1 p6 t9 t12 t15 (-1 : Int32)) else (f0_131 p1 p6 t9 t12 t15 p5))
def f0_98 (p1 : Int32) (p4 : Int32) (p5 : Int32) (p6 : Int32) (t9 : Int32) (t12 : Int32) : Int32 := (if ((((p1.toUInt32 >>> ((3 : Int32) &&& 31).toUInt32).toInt32) &&& (3 : Int32)) - (1 : Int32)) < (0 : Int32) then (f0_114 p1 p5 p6 t9 t12 (-1 : Int32)) else (f0_114 p1 p5 p6 t9 t12 p4))
def f0_82 (p1 : Int32) (p3 : Int32) (p4 : Int32) (p5 : Int32) (p6 : Int32) (t9 : Int32) : Int32 := (if (((((p1.toUInt32 >>> ((1 : Int32) &&& 31).toUInt32).toInt32) &&& (3 : Int32)) % (3 : Int32)) - (1 : Int32)) < (0 : Int32) then (f0_98 p1 p4 p5 p6 t9 (-1 : Int32)) else (f0_98 p1 p4 p5 p6 t9 p3))
def f0_0 (p1 : Int32) (p2 : Int32) (p3 : Int32) (p4 : Int32) (p5 : Int32) (p6 : Int32) : Int32 := (if ((p1 &&& (1 : Int32)) - (1 : Int32)) < (0 : Int32) then (f0_82 p1 p3 p4 p5 p6 (-1 : Int32)) else (f0_82 p1 p3 p4 p5 p6 p2))
theorem own_ef0 (m : MethodId) (p1 : Int32) (p2 : Int32) (p3 : Int32) (p4 : Int32) (p5 : Int32) (p6 : Int32) : entryFrame m #[(.int p1), (.int p2), (.int p3), (.int p4), (.int p5), (.int p6)] maxLocals = mkF m 0 #[.val (.int p1), .val (.int p2), .val (.int p3), .val (.int p4), .val (.int p5), .val (.int p6), .unset, .unset, .unset, .unset, .unset, .unset, .unset, .unset, .unset, .unset, .unset, .unset, .unset] [] := by first | (simp [entryFrame, mkF, argsToLocals, Value.category, maxLocals]; done) | rfl
set_option maxRecDepth 65536 in
set_option maxHeartbeats 40000000 in
theorem rm0 (l : Launch) (Z : State) (a0 : Array Value) (hw : ∀ d ∈ tables_1, d.before a0 Z = true) (ws : List Jvm.Cond) (p1 : Int32) (p2 : Int32) (p3 : Int32) (p4 : Int32) (p5 : Int32) (p6 : Int32) (h0 : Heap) (n0 : Nat) (Z0 : n0 ≤ h0.size) : MetC l Z x (Jvm.Cond.code x code maxLocals ret :: ws) room_1 #[(.int p1), (.int p2), (.int p3), (.int p4), (.int p5), (.int p6)] h0 24 192 (fun v h L => v = some (.int (f0_0 p1 p2 p3 p4 p5 p6)) ∧ Fr n0 L) := by
  refine MetFree.of_bodySF (plainFor_of_name own_pn1) hisR ?_
  intro p e s m args below meth c s₁ Bd hml0 hP hK
  obtain ⟨rfl, hZ, hh⟩ := hP
  have hx := Bd.exec
  have hby := Bd.bytes
  have hml : c.maxLocals = 19 := hml0
  have hown : s.vm.findClass "com/example/workflow_soundness/workflowsoundness/analysis/SearchTreePathPinLaw" = some m.cls := findClass_of_methodNamed Bd.named
  have hnm := (name_of_methodNamed Bd.named Bd.method).1
  have hlk : meth.locks = false := BodyLoose.notSynchronized Bd
  have X0 : Stand p l e room_1 s m #[(.int p1), (.int p2), (.int p3), (.int p4), (.int p5), (.int p6)] below meth c s₁ [] 0 0 := Stand.of_body Bd
  have e0 : s₁.heap = h0 := by rw [← hh, Bd.state]; rfl
  have N0 := Fr.nil n0
  suffices kk : Ends p e below (PVW s 24 192 n0 (f0_0 p1 p2 p3 p4 p5 p6)) s₁ m 0 #[.val (.int p1), .val (.int p2), .val (.int p3), .val (.int p4), .val (.int p5), .val (.int p6), .unset, .unset, .unset, .unset, .unset, .unset, .unset, .unset, .unset, .unset, .unset, .unset, .unset] [] by
    obtain ⟨t, o, k1, k2, k3, k4⟩ := kk
    exact ⟨t, o, castTop (own_ef0 m p1 p2 p3 p4 p5 p6) k1, k2, k3, k4⟩
  refine eIConst X0 hx (5 : Int32) (hb hby at_0) rfl rfl ?_
  refine eNewA X0 hx hZ rfl rfl (hw _ (List.mem_of_getElem? (i := 0) rfl)) e0 (hb hby at_1) (by decide) (cap := 5) (by decide) (by decide) (by decide) (by decide) rfl (fun T1 h1 ad1 g1 X1 e1 E1 A1 => ?_)
  have Z1 := Nat.le_trans Z0 E1.1
  have ge_ad1 : n0 ≤ ad1 := Nat.le_trans Z0 (Nat.le_of_eq g1.symm)
  have A1 : Ar Z h1 ad1 .int [(0 : Int32), (0 : Int32), (0 : Int32), (0 : Int32), (0 : Int32)] := A1
  refine eAStore X1 hx (hb hby at_3) rfl (L' := #[.val (.int p1), .val (.int p2), .val (.int p3), .val (.int p4), .val (.int p5), .val (.int p6), .val (.ref ad1), .unset, .unset, .unset, .unset, .unset, .unset, .unset, .unset, .unset, .unset, .unset, .unset]) rfl rfl ?_
  refine eIConst X1 hx (5 : Int32) (hb hby at_5) rfl rfl ?_
  refine eNewA X1 hx hZ rfl rfl (hw _ (List.mem_of_getElem? (i := 0) rfl)) e1 (hb hby at_6) (by decide) (cap := 5) (by decide) (by decide) (by decide) (by decide) rfl (fun T2 h2 ad2 g2 X2 e2 E2 A2 => ?_)
  have ne_ad1_ad2 : ad1 ≠ ad2 := Nat.ne_of_lt (Nat.lt_of_lt_of_le A1.lt (Nat.le_of_eq g2.symm))
  have A1 := A1.ext E2
  have Z2 := Nat.le_trans Z1 E2.1
  have ge_ad2 : n0 ≤ ad2 := Nat.le_trans Z1 (Nat.le_of_eq g2.symm)
  have A2 : Ar Z h2 ad2 .int [(0 : Int32), (0 : Int32), (0 : Int32), (0 : Int32), (0 : Int32)] := A2
  refine eAStore X2 hx (hb hby at_8) rfl (L' := #[.val (.int p1), .val (.int p2), .val (.int p3), .val (.int p4), .val (.int p5), .val (.int p6), .val (.ref ad1), .val (.ref ad2), .unset, .unset, .unset, .unset, .unset, .unset, .unset, .unset, .unset, .unset, .unset]) rfl rfl ?_
  refine eALoad X2 hx (hb hby at_10) rfl rfl rfl ?_
  refine eIConst X2 hx (0 : Int32) (hb hby at_12) rfl rfl ?_
  refine eIConst X2 hx (-1 : Int32) (hb hby at_13) rfl rfl ?_
  refine eIAStore X2 hx hZ e2 A1 (inbL (n := 5) rfl (by decide)) (hb hby at_14) rfl (fun T3 h3 X3 e3 W3 B3 => ?_)
  have A2 := A2.other W3 (Ne.symm ne_ad1_ad2)
  have A1 : Ar Z h3 ad1 .int [(-1 : Int32), (0 : Int32), (0 : Int32), (0 : Int32), (0 : Int32)] := B3
  have N3 := Fr.snoc X3 N0 ge_ad1
  have Z3 := Nat.le_trans Z2 (Keep.of_wr W3).1
  refine eALoad X3 hx (hb hby at_15) rfl rfl rfl ?_
  refine eIConst X3 hx (0 : Int32) (hb hby at_17) rfl rfl ?_
  refine eIConst X3 hx (-1 : Int32) (hb hby at_18) rfl rfl ?_
  refine eIAStore X3 hx hZ e3 A2 (inbL (n := 5) rfl (by decide)) (hb hby at_19) rfl (fun T4 h4 X4 e4 W4 B4 => ?_)
  have A1 := A1.other W4 ne_ad1_ad2
  have A2 : Ar Z h4 ad2 .int [(-1 : Int32), (0 : Int32), (0 : Int32), (0 : Int32), (0 : Int32)] := B4
  have N4 := Fr.snoc X4 N3 ge_ad2
  have Z4 := Nat.le_trans Z3 (Keep.of_wr W4).1
  refine eALoad X4 hx (hb hby at_20) rfl rfl rfl ?_
  refine eIConst X4 hx (1 : Int32) (hb hby at_22) rfl rfl ?_
  refine eILoadN X4 hx (hb hby at_23) rfl rfl ?_
  refine eIConst X4 hx (1 : Int32) (hb hby at_24) rfl rfl ?_
  refine eIAnd X4 hx (hb hby at_25) rfl ?_
  refine eIConst X4 hx (1 : Int32) (hb hby at_26) rfl rfl ?_
  refine eISub X4 hx (hb hby at_27) rfl ?_
  refine eIAStore X4 hx hZ e4 A1 (inbL (n := 5) rfl (by decide)) (hb hby at_28) rfl (fun T5 h5 X5 e5 W5 B5 => ?_)
  have A2 := A2.other W5 (Ne.symm ne_ad1_ad2)
  have A1 : Ar Z h5 ad1 .int [(-1 : Int32), ((p1 &&& (1 : Int32)) - (1 : Int32)), (0 : Int32), (0 : Int32), (0 : Int32)] := B5
  have N5 := Fr.snoc X5 N4 ge_ad1
  have Z5 := Nat.le_trans Z4 (Keep.of_wr W5).1
  refine eALoad X5 hx (hb hby at_29) rfl rfl rfl ?_
  refine eIConst X5 hx (2 : Int32) (hb hby at_31) rfl rfl ?_
  refine eILoadN X5 hx (hb hby at_32) rfl rfl ?_
  refine eIConst X5 hx (1 : Int32) (hb hby at_33) rfl rfl ?_
  refine eIUshr X5 hx (hb hby at_34) rfl ?_
  refine eIConst X5 hx (3 : Int32) (hb hby at_35) rfl rfl ?_
  refine eIAnd X5 hx (hb hby at_36) rfl ?_
  refine eIConst X5 hx (3 : Int32) (hb hby at_37) rfl rfl ?_
  refine eIRem X5 hx (hb hby at_38) (by decide) rfl ?_
  refine eIConst X5 hx (1 : Int32) (hb hby at_39) rfl rfl ?_
  refine eISub X5 hx (hb hby at_40) rfl ?_
  refine eIAStore X5 hx hZ e5 A1 (inbL (n := 5) rfl (by decide)) (hb hby at_41) rfl (fun T6 h6 X6 e6 W6 B6 => ?_)
  have A2 := A2.other W6 (Ne.symm ne_ad1_ad2)
  have A1 : Ar Z h6 ad1 .int [(-1 : Int32), ((p1 &&& (1 : Int32)) - (1 : Int32)), (((((p1.toUInt32 >>> ((1 : Int32) &&& 31).toUInt32).toInt32) &&& (3 : Int32)) % (3 : Int32)) - (1 : Int32)), (0 : Int32), (0 : Int32)] := B6
  have N6 := Fr.snoc X6 N5 ge_ad1
  have Z6 := Nat.le_trans Z5 (Keep.of_wr W6).1
  refine eALoad X6 hx (hb hby at_42) rfl rfl rfl ?_
  refine eIConst X6 hx (3 : Int32) (hb hby at_44) rfl rfl ?_
  refine eILoadN X6 hx (hb hby at_45) rfl rfl ?_
  refine eIConst X6 hx (3 : Int32) (hb hby at_46) rfl rfl ?_
  refine eIUshr X6 hx (hb hby at_47) rfl ?_
  refine eIConst X6 hx (3 : Int32) (hb hby at_48) rfl rfl ?_
  refine eIAnd X6 hx (hb hby at_49) rfl ?_
  refine eIConst X6 hx (1 : Int32) (hb hby at_50) rfl rfl ?_
  refine eISub X6 hx (hb hby at_51) rfl ?_
  refine eIAStore X6 hx hZ e6 A1 (inbL (n := 5) rfl (by decide)) (hb hby at_52) rfl (fun T7 h7 X7 e7 W7 B7 => ?_)
  have A2 := A2.other W7 (Ne.symm ne_ad1_ad2)
  have A1 : Ar Z h7 ad1 .int [(-1 : Int32), ((p1 &&& (1 : Int32)) - (1 : Int32)), (((((p1.toUInt32 >>> ((1 : Int32) &&& 31).toUInt32).toInt32) &&& (3 : Int32)) % (3 : Int32)) - (1 : Int32)), ((((p1.toUInt32 >>> ((3 : Int32) &&& 31).toUInt32).toInt32) &&& (3 : Int32)) - (1 : Int32)), (0 : Int32)] := B7
  have N7 := Fr.snoc X7 N6 ge_ad1
  have Z7 := Nat.le_trans Z6 (Keep.of_wr W7).1
  refine eALoad X7 hx (hb hby at_53) rfl rfl rfl ?_
  refine eIConst X7 hx (4 : Int32) (hb hby at_55) rfl rfl ?_
  refine eILoadN X7 hx (hb hby at_56) rfl rfl ?_
  refine eIConst X7 hx (5 : Int32) (hb hby at_57) rfl rfl ?_
  refine eIUshr X7 hx (hb hby at_58) rfl ?_
  refine eBipush X7 hx (7 : Int32) (hb hby at_59) rfl rfl ?_
  refine eIAnd X7 hx (hb hby at_61) rfl ?_
  refine eIConst X7 hx (5 : Int32) (hb hby at_62) rfl rfl ?_
  refine eIRem X7 hx (hb hby at_63) (by decide) rfl ?_
  refine eIConst X7 hx (1 : Int32) (hb hby at_64) rfl rfl ?_
  refine eISub X7 hx (hb hby at_65) rfl ?_
  refine eIAStore X7 hx hZ e7 A1 (inbL (n := 5) rfl (by decide)) (hb hby at_66) rfl (fun T8 h8 X8 e8 W8 B8 => ?_)
  have A2 := A2.other W8 (Ne.symm ne_ad1_ad2)
  have A1 : Ar Z h8 ad1 .int [(-1 : Int32), ((p1 &&& (1 : Int32)) - (1 : Int32)), (((((p1.toUInt32 >>> ((1 : Int32) &&& 31).toUInt32).toInt32) &&& (3 : Int32)) % (3 : Int32)) - (1 : Int32)), ((((p1.toUInt32 >>> ((3 : Int32) &&& 31).toUInt32).toInt32) &&& (3 : Int32)) - (1 : Int32)), (((((p1.toUInt32 >>> ((5 : Int32) &&& 31).toUInt32).toInt32) &&& (7 : Int32)) % (5 : Int32)) - (1 : Int32))] := B8
  have N8 := Fr.snoc X8 N7 ge_ad1
  have Z8 := Nat.le_trans Z7 (Keep.of_wr W8).1
  refine eALoad X8 hx (hb hby at_67) rfl rfl rfl ?_
  refine eIConst X8 hx (1 : Int32) (hb hby at_69) rfl rfl ?_
  refine eALoad X8 hx (hb hby at_70) rfl rfl rfl ?_
  refine eIConst X8 hx (1 : Int32) (hb hby at_72) rfl rfl ?_
  refine eIALoad X8 hx hZ e8 A1 ((p1 &&& (1 : Int32)) - (1 : Int32)) rfl (inbL (n := 5) rfl (by decide)) (hb hby at_73) rfl ?_
  have K82_10 : ∀ (t9 : Int32) (T10 : State) (locs10 : List Loc), Stand p l e room_1 s m #[(.int p1), (.int p2), (.int p3), (.int p4), (.int p5), (.int p6)] below meth c T10 locs10 2 10 → Fr n0 locs10 → T10.heap = h8 → Ends p e below (PVW s 24 192 n0 (f0_82 p1 p3 p4 p5 p6 t9)) T10 m 82 #[.val (.int p1), .val (.int p2), .val (.int p3), .val (.int p4), .val (.int p5), .val (.int p6), .val (.ref ad1), .val (.ref ad2), .unset, .unset, .unset, .unset, .unset, .unset, .unset, .unset, .unset, .unset, .unset] [(.int t9), (.int (1 : Int32)), (.ref ad2)] := by
    intro t9 T10 locs10 X10 N10 e10
    refine eIAStore X10 hx hZ e10 A2 (inbL (n := 5) rfl (by decide)) (hb hby at_82) rfl (fun T11 h11 X11 e11 W11 B11 => ?_)
    have A1 := A1.other W11 ne_ad1_ad2
    have A2 : Ar Z h11 ad2 .int [(-1 : Int32), t9, (0 : Int32), (0 : Int32), (0 : Int32)] := B11
    have N11 := Fr.snoc X11 N10 ge_ad2
    have Z11 := Nat.le_trans Z8 (Keep.of_wr W11).1
    refine eALoad X11 hx (hb hby at_83) rfl rfl rfl ?_
    refine eIConst X11 hx (2 : Int32) (hb hby at_85) rfl rfl ?_
    refine eALoad X11 hx (hb hby at_86) rfl rfl rfl ?_
    refine eIConst X11 hx (2 : Int32) (hb hby at_88) rfl rfl ?_
    refine eIALoad X11 hx hZ e11 A1 (((((p1.toUInt32 >>> ((1 : Int32) &&& 31).toUInt32).toInt32) &&& (3 : Int32)) % (3 : Int32)) - (1 : Int32)) rfl (inbL (n := 5) rfl (by decide)) (hb hby at_89) rfl ?_
    have K98_13 : ∀ (t12 : Int32) (T13 : State) (locs13 : List Loc), Stand p l e room_1 s m #[(.int p1), (.int p2), (.int p3), (.int p4), (.int p5), (.int p6)] below meth c T13 locs13 2 10 → Fr n0 locs13 → T13.heap = h11 → Ends p e below (PVW s 24 192 n0 (f0_98 p1 p4 p5 p6 t9 t12)) T13 m 98 #[.val (.int p1), .val (.int p2), .val (.int p3), .val (.int p4), .val (.int p5), .val (.int p6), .val (.ref ad1), .val (.ref ad2), .unset, .unset, .unset, .unset, .unset, .unset, .unset, .unset, .unset, .unset, .unset] [(.int t12), (.int (2 : Int32)), (.ref ad2)] := by
      intro t12 T13 locs13 X13 N13 e13
      refine eIAStore X13 hx hZ e13 A2 (inbL (n := 5) rfl (by decide)) (hb hby at_98) rfl (fun T14 h14 X14 e14 W14 B14 => ?_)
      have A1 := A1.other W14 ne_ad1_ad2
      have A2 : Ar Z h14 ad2 .int [(-1 : Int32), t9, t12, (0 : Int32), (0 : Int32)] := B14
      have N14 := Fr.snoc X14 N13 ge_ad2
      have Z14 := Nat.le_trans Z11 (Keep.of_wr W14).1
      refine eALoad X14 hx (hb hby at_99) rfl rfl rfl ?_
      refine eIConst X14 hx (3 : Int32) (hb hby at_101) rfl rfl ?_
      refine eALoad X14 hx (hb hby at_102) rfl rfl rfl ?_
      refine eIConst X14 hx (3 : Int32) (hb hby at_104) rfl rfl ?_
      refine eIALoad X14 hx hZ e14 A1 ((((p1.toUInt32 >>> ((3 : Int32) &&& 31).toUInt32).toInt32) &&& (3 : Int32)) - (1 : Int32)) rfl (inbL (n := 5) rfl (by decide)) (hb hby at_105) rfl ?_
      have K114_16 : ∀ (t15 : Int32) (T16 : State) (locs16 : List Loc), Stand p l e room_1 s m #[(.int p1), (.int p2), (.int p3), (.int p4), (.int p5), (.int p6)] below meth c T16 locs16 2 10 → Fr n0 locs16 → T16.heap = h14 → Ends p e below (PVW s 24 192 n0 (f0_114 p1 p5 p6 t9 t12 t15)) T16 m 114 #[.val (.int p1), .val (.int p2), .val (.int p3), .val (.int p4), .val (.int p5), .val (.int p6), .val (.ref ad1), .val (.ref ad2), .unset, .unset, .unset, .unset, .unset, .unset, .unset, .unset, .unset, .unset, .unset] [(.int t15), (.int (3 : Int32)), (.ref ad2)] := by
        intro t15 T16 locs16 X16 N16 e16
        refine eIAStore X16 hx hZ e16 A2 (inbL (n := 5) rfl (by decide)) (hb hby at_114) rfl (fun T17 h17 X17 e17 W17 B17 => ?_)
        have A1 := A1.other W17 ne_ad1_ad2
        have A2 : Ar Z h17 ad2 .int [(-1 : Int32), t9, t12, t15, (0 : Int32)] := B17
        have N17 := Fr.snoc X17 N16 ge_ad2
        have Z17 := Nat.le_trans Z14 (Keep.of_wr W17).1
        refine eALoad X17 hx (hb hby at_115) rfl rfl rfl ?_
        refine eIConst X17 hx (4 : Int32) (hb hby at_117) rfl rfl ?_
        refine eALoad X17 hx (hb hby at_118) rfl rfl rfl ?_
        refine eIConst X17 hx (4 : Int32) (hb hby at_120) rfl rfl ?_
        refine eIALoad X17 hx hZ e17 A1 (((((p1.toUInt32 >>> ((5 : Int32) &&& 31).toUInt32).toInt32) &&& (7 : Int32)) % (5 : Int32)) - (1 : Int32)) rfl (inbL (n := 5) rfl (by decide)) (hb hby at_121) rfl ?_
        have K131_19 : ∀ (t18 : Int32) (T19 : State) (locs19 : List Loc), Stand p l e room_1 s m #[(.int p1), (.int p2), (.int p3), (.int p4), (.int p5), (.int p6)] below meth c T19 locs19 2 10 → Fr n0 locs19 → T19.heap = h17 → Ends p e below (PVW s 24 192 n0 (f0_131 p1 p6 t9 t12 t15 t18)) T19 m 131 #[.val (.int p1), .val (.int p2), .val (.int p3), .val (.int p4), .val (.int p5), .val (.int p6), .val (.ref ad1), .val (.ref ad2), .unset, .unset, .unset, .unset, .unset, .unset, .unset, .unset, .unset, .unset, .unset] [(.int t18), (.int (4 : Int32)), (.ref ad2)] := by
          intro t18 T19 locs19 X19 N19 e19
          refine eIAStore X19 hx hZ e19 A2 (inbL (n := 5) rfl (by decide)) (hb hby at_131) rfl (fun T20 h20 X20 e20 W20 B20 => ?_)
          have A1 := A1.other W20 ne_ad1_ad2
          have A2 : Ar Z h20 ad2 .int [(-1 : Int32), t9, t12, t15, t18] := B20
          have N20 := Fr.snoc X20 N19 ge_ad2
          have Z20 := Nat.le_trans Z17 (Keep.of_wr W20).1
          refine eILoad X20 hx (hb hby at_132) rfl rfl ?_
          refine eLdcI X20 hx hZ hown (v := (2147483647 : Int32)) (hw _ (List.mem_of_getElem? (i := 1) rfl)) (hb hby at_134) rfl ?_
          refine eIAnd X20 hx (hb hby at_136) rfl ?_
          refine eIConst X20 hx (5 : Int32) (hb hby at_137) rfl rfl ?_
          refine eIRem X20 hx (hb hby at_138) (by decide) rfl ?_
          refine eIStore X20 hx (hb hby at_139) (L' := #[.val (.int p1), .val (.int p2), .val (.int p3), .val (.int p4), .val (.int p5), .val (.int p6), .val (.ref ad1), .val (.ref ad2), .val (.int ((p6 &&& (2147483647 : Int32)) % (5 : Int32))), .unset, .unset, .unset, .unset, .unset, .unset, .unset, .unset, .unset, .unset]) rfl rfl ?_
          have LP21 : ∀  (vs22 : List Int32) (vs23 : List Int32) (hL21 : Heap) (T21 : State) (locs21 : List Loc) (hP : Dec5 vs22) (hT : vs23.length = 5) (X21 : Stand p l e room_1 s m #[(.int p1), (.int p2), (.int p3), (.int p4), (.int p5), (.int p6)] below meth c T21 locs21 2 10) (N21 : Fr n0 locs21) (e21 : T21.heap = hL21) (Z21 : n0 ≤ hL21.size) (A1 : Ar Z hL21 ad1 .int vs22) (A2 : Ar Z hL21 ad2 .int vs23), Ends p e below (PVW s 24 192 n0 (f0_141 p6 vs22 vs23)) T21 m 141 #[.val (.int p1), .val (.int p2), .val (.int p3), .val (.int p4), .val (.int p5), .val (.int p6), .val (.ref ad1), .val (.ref ad2), .val (.int ((p6 &&& (2147483647 : Int32)) % (5 : Int32))), .unset, .unset, .unset, .unset, .unset, .unset, .unset, .unset, .unset, .unset] [] := by
            intro vs22 vs23 hL21 T21 locs21 hP hT X21 N21 e21 Z21 A1 A2
            refine eNewO X21 hx hZ hown (hw _ (List.mem_of_getElem? (i := 2) rfl)) (hw _ (List.mem_of_getElem? (i := 3) rfl)) (hw _ (List.mem_of_getElem? (i := 4) rfl)) e21 (hb hby at_141) (by decide) (by decide) rfl (fun T24 h24 ad24 g24 X24 e24 E24 A24 D24 => ?_)
            have ne_ad1_ad24 : ad1 ≠ ad24 := Nat.ne_of_lt (Nat.lt_of_lt_of_le A1.lt (Nat.le_of_eq g24.symm))
            have ne_ad2_ad24 : ad2 ≠ ad24 := Nat.ne_of_lt (Nat.lt_of_lt_of_le A2.lt (Nat.le_of_eq g24.symm))
            have A1 := A1.ext E24
            have A2 := A2.ext E24
            have Z24 := Nat.le_trans Z21 E24.1
            have ge_ad24 : n0 ≤ ad24 := Nat.le_trans Z21 (Nat.le_of_eq g24.symm)
            have F24__parents : Fld Z h24 ad24 "com/example/workflow_soundness/workflowsoundness/analysis/SearchTree" "_parents" "[I" .null := D24 (Or.inl (hw _ (List.mem_of_getElem? (i := 12) rfl))) (ty := (.array .int)) (by decide)
            have F24__transitions : Fld Z h24 ad24 "com/example/workflow_soundness/workflowsoundness/analysis/SearchTree" "_transitions" "[I" .null := D24 (Or.inl (hw _ (List.mem_of_getElem? (i := 14) rfl))) (ty := (.array .int)) (by decide)
            have F24__nodes : Fld Z h24 ad24 "com/example/workflow_soundness/workflowsoundness/analysis/SearchTree" "_nodes" "I" (.int (0 : Int32)) := D24 (Or.inl (hw _ (List.mem_of_getElem? (i := 21) rfl))) (ty := .int) (by decide)
            refine eDup X24 hx (hb hby at_144) rfl rfl ?_
            refine eCallI X24 hx hZ (y := (⟨"com/example/workflow_soundness/workflowsoundness/analysis/SearchTree", "<init>", "()V"⟩ : MethodName)) (a := ad24) rfl hown (hw _ (List.mem_of_getElem? (i := 5) rfl)) (hw _ (List.mem_of_getElem? (i := 6) rfl)) (hw _ (List.mem_of_getElem? (i := 4) rfl)) (hw _ (List.mem_of_getElem? (i := 7) rfl)) (by decide) e24 (rm1 l Z a0 hw [] ad24 (0 : Int32) h24 n0 Z24 A24 F24__parents F24__transitions F24__nodes ge_ad24) (argsL := []) (rest := [(.ref ad24)]) (lenOf own_pd0 rfl) rfl (by rw [hml]; rfl) 1 (by exact Nat.le_refl _) (by decide) (by decide) (by decide) (by decide) (hb hby at_145) rfl (fun v25 T25 L25 q25 (X25 : Stand _ _ _ _ _ _ _ _ _ _ T25 _ 5 45) => ?_)
            obtain ⟨N25', K25', b25_0, b25_1, g25_0, g25_1, m25_1_0, rfl, R25_0, R25_1, R25_2, R25_3, U25_0, U25_1⟩ := q25
            have N25 := Fr.app N21 N25'
            have ne_ad1_b25_0 : ad1 ≠ b25_0 := Nat.ne_of_lt (Nat.lt_of_lt_of_le A1.lt g25_0)
            have ne_ad2_b25_0 : ad2 ≠ b25_0 := Nat.ne_of_lt (Nat.lt_of_lt_of_le A2.lt g25_0)
            have ne_ad24_b25_0 : ad24 ≠ b25_0 := Nat.ne_of_lt (Nat.lt_of_lt_of_le A24.lt g25_0)
            have ge_b25_0 : n0 ≤ b25_0 := Nat.le_trans Z24 g25_0
            have ne_ad1_b25_1 : ad1 ≠ b25_1 := Nat.ne_of_lt (Nat.lt_of_lt_of_le A1.lt g25_1)
            have ne_ad2_b25_1 : ad2 ≠ b25_1 := Nat.ne_of_lt (Nat.lt_of_lt_of_le A2.lt g25_1)
            have ne_ad24_b25_1 : ad24 ≠ b25_1 := Nat.ne_of_lt (Nat.lt_of_lt_of_le A24.lt g25_1)
            have ge_b25_1 : n0 ≤ b25_1 := Nat.le_trans Z24 g25_1
            have A1 := A1.keep K25' (ninS ne_ad1_ad24 nin0)
            have A2 := A2.keep K25' (ninS ne_ad2_ad24 nin0)
            have A24 := A24.keep K25'
            have A24 := R25_0
            have F24__parents : Fld Z T25.heap ad24 "com/example/workflow_soundness/workflowsoundness/analysis/SearchTree" "_parents" "[I" (.ref b25_0) := R25_1
            have F24__transitions : Fld Z T25.heap ad24 "com/example/workflow_soundness/workflowsoundness/analysis/SearchTree" "_transitions" "[I" (.ref b25_1) := R25_2
            have F24__nodes : Fld Z T25.heap ad24 "com/example/workflow_soundness/workflowsoundness/analysis/SearchTree" "_nodes" "I" (.int (0 : Int32)) := R25_3
            have U25_0 : Ar Z T25.heap b25_0 .int [(0 : Int32), (0 : Int32), (0 : Int32), (0 : Int32), (0 : Int32), (0 : Int32), (0 : Int32), (0 : Int32), (0 : Int32), (0 : Int32), (0 : Int32), (0 : Int32), (0 : Int32), (0 : Int32), (0 : Int32), (0 : Int32)] := U25_0
            have U25_1 : Ar Z T25.heap b25_1 .int [(0 : Int32), (0 : Int32), (0 : Int32), (0 : Int32), (0 : Int32), (0 : Int32), (0 : Int32), (0 : Int32), (0 : Int32), (0 : Int32), (0 : Int32), (0 : Int32), (0 : Int32), (0 : Int32), (0 : Int32), (0 : Int32)] := U25_1
            have Z25 := Nat.le_trans Z24 K25'.1
            show Ends p e below _ T25 m 148 #[.val (.int p1), .val (.int p2), .val (.int p3), .val (.int p4), .val (.int p5), .val (.int p6), .val (.ref ad1), .val (.ref ad2), .val (.int ((p6 &&& (2147483647 : Int32)) % (5 : Int32))), .unset, .unset, .unset, .unset, .unset, .unset, .unset, .unset, .unset, .unset] [(.ref ad24)]
            refine eAStore X25 hx (hb hby at_148) rfl (L' := #[.val (.int p1), .val (.int p2), .val (.int p3), .val (.int p4), .val (.int p5), .val (.int p6), .val (.ref ad1), .val (.ref ad2), .val (.int ((p6 &&& (2147483647 : Int32)) % (5 : Int32))), .val (.ref ad24), .unset, .unset, .unset, .unset, .unset, .unset, .unset, .unset, .unset]) rfl rfl ?_
            refine eALoad X25 hx (hb hby at_150) rfl rfl rfl ?_
            refine eALoad X25 hx (hb hby at_152) rfl rfl rfl ?_
            refine eIConst X25 hx (0 : Int32) (hb hby at_154) rfl rfl ?_
            refine eIALoad X25 hx hZ rfl A1 (rd vs22 (0 : Int32)) rfl (own_inb (by decide) (by rw [hP.1]; decide)) (hb hby at_155) rfl ?_
            refine eALoad X25 hx (hb hby at_156) rfl rfl rfl ?_
            refine eIConst X25 hx (0 : Int32) (hb hby at_158) rfl rfl ?_
            refine eIALoad X25 hx hZ rfl A2 (rd vs23 (0 : Int32)) rfl (own_inb (by decide) (by rw [hT]; decide)) (hb hby at_159) rfl ?_
            refine eCallV X25 hx hZ (y := (⟨"com/example/workflow_soundness/workflowsoundness/analysis/SearchTree", "add", "(II)I"⟩ : MethodName)) hown (hw _ (List.mem_of_getElem? (i := 15) rfl)) (hw _ (List.mem_of_getElem? (i := 16) rfl)) (hw _ (List.mem_of_getElem? (i := 18) rfl)) (hw _ (List.mem_of_getElem? (i := 17) rfl)) (hw _ (List.mem_of_getElem? (i := 4) rfl)) (hw _ (List.mem_of_getElem? (i := 19) rfl)) (by decide) rfl A24 (rm3 l Z a0 hw [] ad24 (rd vs22 (0 : Int32)) (rd vs23 (0 : Int32)) b25_0 b25_1 (0 : Int32) [(0 : Int32), (0 : Int32), (0 : Int32), (0 : Int32), (0 : Int32), (0 : Int32), (0 : Int32), (0 : Int32), (0 : Int32), (0 : Int32), (0 : Int32), (0 : Int32), (0 : Int32), (0 : Int32), (0 : Int32), (0 : Int32)] [(0 : Int32), (0 : Int32), (0 : Int32), (0 : Int32), (0 : Int32), (0 : Int32), (0 : Int32), (0 : Int32), (0 : Int32), (0 : Int32), (0 : Int32), (0 : Int32), (0 : Int32), (0 : Int32), (0 : Int32), (0 : Int32)] T25.heap n0 Z25 A24 F24__parents F24__transitions F24__nodes U25_0 U25_1 ge_ad24 ge_b25_0 ge_b25_1 ne_ad24_b25_0 ne_ad24_b25_1 (Ne.symm m25_1_0) (own_ne16 rfl (by decide)) (inbL (n := 16) rfl (by decide)) (inbL (n := 16) rfl (by decide))) (argsL := [(.int (rd vs22 (0 : Int32))), (.int (rd vs23 (0 : Int32)))]) (rest := []) (lenOf own_pd1 rfl) rfl (by rw [hml]; rfl) 0 (by exact Nat.le_refl _) (by decide) (by decide) (by decide) (by decide) (hb hby at_160) rfl (fun v26 T26 L26 q26 (X26 : Stand _ _ _ _ _ _ _ _ _ _ T26 _ 5 45) => ?_)
            obtain ⟨N26', K26', rfl, R26_0, R26_1, R26_2, R26_3, R26_4, R26_5⟩ := q26
            have N26 := Fr.app N25 N26'
            have A1 := A1.keep K26' (ninS ne_ad1_ad24 (ninS ne_ad1_b25_0 (ninS ne_ad1_b25_1 nin0)))
            have A2 := A2.keep K26' (ninS ne_ad2_ad24 (ninS ne_ad2_b25_0 (ninS ne_ad2_b25_1 nin0)))
            have A24 := A24.keep K26'
            have A24 := R26_0
            have F24__parents : Fld Z T26.heap ad24 "com/example/workflow_soundness/workflowsoundness/analysis/SearchTree" "_parents" "[I" (.ref b25_0) := R26_1
            have F24__transitions : Fld Z T26.heap ad24 "com/example/workflow_soundness/workflowsoundness/analysis/SearchTree" "_transitions" "[I" (.ref b25_1) := R26_2
            have F24__nodes : Fld Z T26.heap ad24 "com/example/workflow_soundness/workflowsoundness/analysis/SearchTree" "_nodes" "I" (.int (1 : Int32)) := R26_3
            have U25_0 : Ar Z T26.heap b25_0 .int [(rd vs22 (0 : Int32)), (0 : Int32), (0 : Int32), (0 : Int32), (0 : Int32), (0 : Int32), (0 : Int32), (0 : Int32), (0 : Int32), (0 : Int32), (0 : Int32), (0 : Int32), (0 : Int32), (0 : Int32), (0 : Int32), (0 : Int32)] := R26_4
            have U25_1 : Ar Z T26.heap b25_1 .int [(rd vs23 (0 : Int32)), (0 : Int32), (0 : Int32), (0 : Int32), (0 : Int32), (0 : Int32), (0 : Int32), (0 : Int32), (0 : Int32), (0 : Int32), (0 : Int32), (0 : Int32), (0 : Int32), (0 : Int32), (0 : Int32), (0 : Int32)] := R26_5
            have Z26 := Nat.le_trans Z25 K26'.1
            show Ends p e below _ T26 m 163 #[.val (.int p1), .val (.int p2), .val (.int p3), .val (.int p4), .val (.int p5), .val (.int p6), .val (.ref ad1), .val (.ref ad2), .val (.int ((p6 &&& (2147483647 : Int32)) % (5 : Int32))), .val (.ref ad24), .unset, .unset, .unset, .unset, .unset, .unset, .unset, .unset, .unset] [(.int (0 : Int32))]
            refine eIStore X26 hx (hb hby at_163) (L' := #[.val (.int p1), .val (.int p2), .val (.int p3), .val (.int p4), .val (.int p5), .val (.int p6), .val (.ref ad1), .val (.ref ad2), .val (.int ((p6 &&& (2147483647 : Int32)) % (5 : Int32))), .val (.ref ad24), .val (.int (0 : Int32)), .unset, .unset, .unset, .unset, .unset, .unset, .unset, .unset]) rfl rfl ?_
            refine eALoad X26 hx (hb hby at_165) rfl rfl rfl ?_
            refine eALoad X26 hx (hb hby at_167) rfl rfl rfl ?_
            refine eIConst X26 hx (1 : Int32) (hb hby at_169) rfl rfl ?_
            refine eIALoad X26 hx hZ rfl A1 (rd vs22 (1 : Int32)) rfl (own_inb (by decide) (by rw [hP.1]; decide)) (hb hby at_170) rfl ?_
            refine eALoad X26 hx (hb hby at_171) rfl rfl rfl ?_
            refine eIConst X26 hx (1 : Int32) (hb hby at_173) rfl rfl ?_
            refine eIALoad X26 hx hZ rfl A2 (rd vs23 (1 : Int32)) rfl (own_inb (by decide) (by rw [hT]; decide)) (hb hby at_174) rfl ?_
            refine eCallV X26 hx hZ (y := (⟨"com/example/workflow_soundness/workflowsoundness/analysis/SearchTree", "add", "(II)I"⟩ : MethodName)) hown (hw _ (List.mem_of_getElem? (i := 15) rfl)) (hw _ (List.mem_of_getElem? (i := 16) rfl)) (hw _ (List.mem_of_getElem? (i := 18) rfl)) (hw _ (List.mem_of_getElem? (i := 17) rfl)) (hw _ (List.mem_of_getElem? (i := 4) rfl)) (hw _ (List.mem_of_getElem? (i := 19) rfl)) (by decide) rfl A24 (rm3 l Z a0 hw [] ad24 (rd vs22 (1 : Int32)) (rd vs23 (1 : Int32)) b25_0 b25_1 (1 : Int32) [(rd vs22 (0 : Int32)), (0 : Int32), (0 : Int32), (0 : Int32), (0 : Int32), (0 : Int32), (0 : Int32), (0 : Int32), (0 : Int32), (0 : Int32), (0 : Int32), (0 : Int32), (0 : Int32), (0 : Int32), (0 : Int32), (0 : Int32)] [(rd vs23 (0 : Int32)), (0 : Int32), (0 : Int32), (0 : Int32), (0 : Int32), (0 : Int32), (0 : Int32), (0 : Int32), (0 : Int32), (0 : Int32), (0 : Int32), (0 : Int32), (0 : Int32), (0 : Int32), (0 : Int32), (0 : Int32)] T26.heap n0 Z26 A24 F24__parents F24__transitions F24__nodes U25_0 U25_1 ge_ad24 ge_b25_0 ge_b25_1 ne_ad24_b25_0 ne_ad24_b25_1 (Ne.symm m25_1_0) (own_ne16 rfl (by decide)) (inbL (n := 16) rfl (by decide)) (inbL (n := 16) rfl (by decide))) (argsL := [(.int (rd vs22 (1 : Int32))), (.int (rd vs23 (1 : Int32)))]) (rest := []) (lenOf own_pd1 rfl) rfl (by rw [hml]; rfl) 0 (by exact Nat.le_refl _) (by decide) (by decide) (by decide) (by decide) (hb hby at_175) rfl (fun v27 T27 L27 q27 (X27 : Stand _ _ _ _ _ _ _ _ _ _ T27 _ 5 45) => ?_)
            obtain ⟨N27', K27', rfl, R27_0, R27_1, R27_2, R27_3, R27_4, R27_5⟩ := q27
            have N27 := Fr.app N26 N27'
            have A1 := A1.keep K27' (ninS ne_ad1_ad24 (ninS ne_ad1_b25_0 (ninS ne_ad1_b25_1 nin0)))
            have A2 := A2.keep K27' (ninS ne_ad2_ad24 (ninS ne_ad2_b25_0 (ninS ne_ad2_b25_1 nin0)))
            have A24 := A24.keep K27'
            have A24 := R27_0
            have F24__parents : Fld Z T27.heap ad24 "com/example/workflow_soundness/workflowsoundness/analysis/SearchTree" "_parents" "[I" (.ref b25_0) := R27_1
            have F24__transitions : Fld Z T27.heap ad24 "com/example/workflow_soundness/workflowsoundness/analysis/SearchTree" "_transitions" "[I" (.ref b25_1) := R27_2
            have F24__nodes : Fld Z T27.heap ad24 "com/example/workflow_soundness/workflowsoundness/analysis/SearchTree" "_nodes" "I" (.int (2 : Int32)) := R27_3
            have U25_0 : Ar Z T27.heap b25_0 .int [(rd vs22 (0 : Int32)), (rd vs22 (1 : Int32)), (0 : Int32), (0 : Int32), (0 : Int32), (0 : Int32), (0 : Int32), (0 : Int32), (0 : Int32), (0 : Int32), (0 : Int32), (0 : Int32), (0 : Int32), (0 : Int32), (0 : Int32), (0 : Int32)] := R27_4
            have U25_1 : Ar Z T27.heap b25_1 .int [(rd vs23 (0 : Int32)), (rd vs23 (1 : Int32)), (0 : Int32), (0 : Int32), (0 : Int32), (0 : Int32), (0 : Int32), (0 : Int32), (0 : Int32), (0 : Int32), (0 : Int32), (0 : Int32), (0 : Int32), (0 : Int32), (0 : Int32), (0 : Int32)] := R27_5
            have Z27 := Nat.le_trans Z26 K27'.1
            show Ends p e below _ T27 m 178 #[.val (.int p1), .val (.int p2), .val (.int p3), .val (.int p4), .val (.int p5), .val (.int p6), .val (.ref ad1), .val (.ref ad2), .val (.int ((p6 &&& (2147483647 : Int32)) % (5 : Int32))), .val (.ref ad24), .val (.int (0 : Int32)), .unset, .unset, .unset, .unset, .unset, .unset, .unset, .unset] [(.int (1 : Int32))]
            refine eIStore X27 hx (hb hby at_178) (L' := #[.val (.int p1), .val (.int p2), .val (.int p3), .val (.int p4), .val (.int p5), .val (.int p6), .val (.ref ad1), .val (.ref ad2), .val (.int ((p6 &&& (2147483647 : Int32)) % (5 : Int32))), .val (.ref ad24), .val (.int (0 : Int32)), .val (.int (1 : Int32)), .unset, .unset, .unset, .unset, .unset, .unset, .unset]) rfl rfl ?_
            refine eALoad X27 hx (hb hby at_180) rfl rfl rfl ?_
            refine eALoad X27 hx (hb hby at_182) rfl rfl rfl ?_
            refine eIConst X27 hx (2 : Int32) (hb hby at_184) rfl rfl ?_
            refine eIALoad X27 hx hZ rfl A1 (rd vs22 (2 : Int32)) rfl (own_inb (by decide) (by rw [hP.1]; decide)) (hb hby at_185) rfl ?_
            refine eALoad X27 hx (hb hby at_186) rfl rfl rfl ?_
            refine eIConst X27 hx (2 : Int32) (hb hby at_188) rfl rfl ?_
            refine eIALoad X27 hx hZ rfl A2 (rd vs23 (2 : Int32)) rfl (own_inb (by decide) (by rw [hT]; decide)) (hb hby at_189) rfl ?_
            refine eCallV X27 hx hZ (y := (⟨"com/example/workflow_soundness/workflowsoundness/analysis/SearchTree", "add", "(II)I"⟩ : MethodName)) hown (hw _ (List.mem_of_getElem? (i := 15) rfl)) (hw _ (List.mem_of_getElem? (i := 16) rfl)) (hw _ (List.mem_of_getElem? (i := 18) rfl)) (hw _ (List.mem_of_getElem? (i := 17) rfl)) (hw _ (List.mem_of_getElem? (i := 4) rfl)) (hw _ (List.mem_of_getElem? (i := 19) rfl)) (by decide) rfl A24 (rm3 l Z a0 hw [] ad24 (rd vs22 (2 : Int32)) (rd vs23 (2 : Int32)) b25_0 b25_1 (2 : Int32) [(rd vs22 (0 : Int32)), (rd vs22 (1 : Int32)), (0 : Int32), (0 : Int32), (0 : Int32), (0 : Int32), (0 : Int32), (0 : Int32), (0 : Int32), (0 : Int32), (0 : Int32), (0 : Int32), (0 : Int32), (0 : Int32), (0 : Int32), (0 : Int32)] [(rd vs23 (0 : Int32)), (rd vs23 (1 : Int32)), (0 : Int32), (0 : Int32), (0 : Int32), (0 : Int32), (0 : Int32), (0 : Int32), (0 : Int32), (0 : Int32), (0 : Int32), (0 : Int32), (0 : Int32), (0 : Int32), (0 : Int32), (0 : Int32)] T27.heap n0 Z27 A24 F24__parents F24__transitions F24__nodes U25_0 U25_1 ge_ad24 ge_b25_0 ge_b25_1 ne_ad24_b25_0 ne_ad24_b25_1 (Ne.symm m25_1_0) (own_ne16 rfl (by decide)) (inbL (n := 16) rfl (by decide)) (inbL (n := 16) rfl (by decide))) (argsL := [(.int (rd vs22 (2 : Int32))), (.int (rd vs23 (2 : Int32)))]) (rest := []) (lenOf own_pd1 rfl) rfl (by rw [hml]; rfl) 0 (by exact Nat.le_refl _) (by decide) (by decide) (by decide) (by decide) (hb hby at_190) rfl (fun v28 T28 L28 q28 (X28 : Stand _ _ _ _ _ _ _ _ _ _ T28 _ 5 45) => ?_)
            obtain ⟨N28', K28', rfl, R28_0, R28_1, R28_2, R28_3, R28_4, R28_5⟩ := q28
            have N28 := Fr.app N27 N28'
            have A1 := A1.keep K28' (ninS ne_ad1_ad24 (ninS ne_ad1_b25_0 (ninS ne_ad1_b25_1 nin0)))
            have A2 := A2.keep K28' (ninS ne_ad2_ad24 (ninS ne_ad2_b25_0 (ninS ne_ad2_b25_1 nin0)))
            have A24 := A24.keep K28'
            have A24 := R28_0
            have F24__parents : Fld Z T28.heap ad24 "com/example/workflow_soundness/workflowsoundness/analysis/SearchTree" "_parents" "[I" (.ref b25_0) := R28_1
            have F24__transitions : Fld Z T28.heap ad24 "com/example/workflow_soundness/workflowsoundness/analysis/SearchTree" "_transitions" "[I" (.ref b25_1) := R28_2
            have F24__nodes : Fld Z T28.heap ad24 "com/example/workflow_soundness/workflowsoundness/analysis/SearchTree" "_nodes" "I" (.int (3 : Int32)) := R28_3
            have U25_0 : Ar Z T28.heap b25_0 .int [(rd vs22 (0 : Int32)), (rd vs22 (1 : Int32)), (rd vs22 (2 : Int32)), (0 : Int32), (0 : Int32), (0 : Int32), (0 : Int32), (0 : Int32), (0 : Int32), (0 : Int32), (0 : Int32), (0 : Int32), (0 : Int32), (0 : Int32), (0 : Int32), (0 : Int32)] := R28_4
            have U25_1 : Ar Z T28.heap b25_1 .int [(rd vs23 (0 : Int32)), (rd vs23 (1 : Int32)), (rd vs23 (2 : Int32)), (0 : Int32), (0 : Int32), (0 : Int32), (0 : Int32), (0 : Int32), (0 : Int32), (0 : Int32), (0 : Int32), (0 : Int32), (0 : Int32), (0 : Int32), (0 : Int32), (0 : Int32)] := R28_5
            have Z28 := Nat.le_trans Z27 K28'.1
            show Ends p e below _ T28 m 193 #[.val (.int p1), .val (.int p2), .val (.int p3), .val (.int p4), .val (.int p5), .val (.int p6), .val (.ref ad1), .val (.ref ad2), .val (.int ((p6 &&& (2147483647 : Int32)) % (5 : Int32))), .val (.ref ad24), .val (.int (0 : Int32)), .val (.int (1 : Int32)), .unset, .unset, .unset, .unset, .unset, .unset, .unset] [(.int (2 : Int32))]
            refine eIStore X28 hx (hb hby at_193) (L' := #[.val (.int p1), .val (.int p2), .val (.int p3), .val (.int p4), .val (.int p5), .val (.int p6), .val (.ref ad1), .val (.ref ad2), .val (.int ((p6 &&& (2147483647 : Int32)) % (5 : Int32))), .val (.ref ad24), .val (.int (0 : Int32)), .val (.int (1 : Int32)), .val (.int (2 : Int32)), .unset, .unset, .unset, .unset, .unset, .unset]) rfl rfl ?_
            refine eALoad X28 hx (hb hby at_195) rfl rfl rfl ?_
            refine eALoad X28 hx (hb hby at_197) rfl rfl rfl ?_
            refine eIConst X28 hx (3 : Int32) (hb hby at_199) rfl rfl ?_
            refine eIALoad X28 hx hZ rfl A1 (rd vs22 (3 : Int32)) rfl (own_inb (by decide) (by rw [hP.1]; decide)) (hb hby at_200) rfl ?_
            refine eALoad X28 hx (hb hby at_201) rfl rfl rfl ?_
            refine eIConst X28 hx (3 : Int32) (hb hby at_203) rfl rfl ?_
            refine eIALoad X28 hx hZ rfl A2 (rd vs23 (3 : Int32)) rfl (own_inb (by decide) (by rw [hT]; decide)) (hb hby at_204) rfl ?_
            refine eCallV X28 hx hZ (y := (⟨"com/example/workflow_soundness/workflowsoundness/analysis/SearchTree", "add", "(II)I"⟩ : MethodName)) hown (hw _ (List.mem_of_getElem? (i := 15) rfl)) (hw _ (List.mem_of_getElem? (i := 16) rfl)) (hw _ (List.mem_of_getElem? (i := 18) rfl)) (hw _ (List.mem_of_getElem? (i := 17) rfl)) (hw _ (List.mem_of_getElem? (i := 4) rfl)) (hw _ (List.mem_of_getElem? (i := 19) rfl)) (by decide) rfl A24 (rm3 l Z a0 hw [] ad24 (rd vs22 (3 : Int32)) (rd vs23 (3 : Int32)) b25_0 b25_1 (3 : Int32) [(rd vs22 (0 : Int32)), (rd vs22 (1 : Int32)), (rd vs22 (2 : Int32)), (0 : Int32), (0 : Int32), (0 : Int32), (0 : Int32), (0 : Int32), (0 : Int32), (0 : Int32), (0 : Int32), (0 : Int32), (0 : Int32), (0 : Int32), (0 : Int32), (0 : Int32)] [(rd vs23 (0 : Int32)), (rd vs23 (1 : Int32)), (rd vs23 (2 : Int32)), (0 : Int32), (0 : Int32), (0 : Int32), (0 : Int32), (0 : Int32), (0 : Int32), (0 : Int32), (0 : Int32), (0 : Int32), (0 : Int32), (0 : Int32), (0 : Int32), (0 : Int32)] T28.heap n0 Z28 A24 F24__parents F24__transitions F24__nodes U25_0 U25_1 ge_ad24 ge_b25_0 ge_b25_1 ne_ad24_b25_0 ne_ad24_b25_1 (Ne.symm m25_1_0) (own_ne16 rfl (by decide)) (inbL (n := 16) rfl (by decide)) (inbL (n := 16) rfl (by decide))) (argsL := [(.int (rd vs22 (3 : Int32))), (.int (rd vs23 (3 : Int32)))]) (rest := []) (lenOf own_pd1 rfl) rfl (by rw [hml]; rfl) 0 (by exact Nat.le_refl _) (by decide) (by decide) (by decide) (by decide) (hb hby at_205) rfl (fun v29 T29 L29 q29 (X29 : Stand _ _ _ _ _ _ _ _ _ _ T29 _ 5 45) => ?_)
            obtain ⟨N29', K29', rfl, R29_0, R29_1, R29_2, R29_3, R29_4, R29_5⟩ := q29
            have N29 := Fr.app N28 N29'
            have A1 := A1.keep K29' (ninS ne_ad1_ad24 (ninS ne_ad1_b25_0 (ninS ne_ad1_b25_1 nin0)))
            have A2 := A2.keep K29' (ninS ne_ad2_ad24 (ninS ne_ad2_b25_0 (ninS ne_ad2_b25_1 nin0)))
            have A24 := A24.keep K29'
            have A24 := R29_0
            have F24__parents : Fld Z T29.heap ad24 "com/example/workflow_soundness/workflowsoundness/analysis/SearchTree" "_parents" "[I" (.ref b25_0) := R29_1
            have F24__transitions : Fld Z T29.heap ad24 "com/example/workflow_soundness/workflowsoundness/analysis/SearchTree" "_transitions" "[I" (.ref b25_1) := R29_2
            have F24__nodes : Fld Z T29.heap ad24 "com/example/workflow_soundness/workflowsoundness/analysis/SearchTree" "_nodes" "I" (.int (4 : Int32)) := R29_3
            have U25_0 : Ar Z T29.heap b25_0 .int [(rd vs22 (0 : Int32)), (rd vs22 (1 : Int32)), (rd vs22 (2 : Int32)), (rd vs22 (3 : Int32)), (0 : Int32), (0 : Int32), (0 : Int32), (0 : Int32), (0 : Int32), (0 : Int32), (0 : Int32), (0 : Int32), (0 : Int32), (0 : Int32), (0 : Int32), (0 : Int32)] := R29_4
            have U25_1 : Ar Z T29.heap b25_1 .int [(rd vs23 (0 : Int32)), (rd vs23 (1 : Int32)), (rd vs23 (2 : Int32)), (rd vs23 (3 : Int32)), (0 : Int32), (0 : Int32), (0 : Int32), (0 : Int32), (0 : Int32), (0 : Int32), (0 : Int32), (0 : Int32), (0 : Int32), (0 : Int32), (0 : Int32), (0 : Int32)] := R29_5
            have Z29 := Nat.le_trans Z28 K29'.1
            show Ends p e below _ T29 m 208 #[.val (.int p1), .val (.int p2), .val (.int p3), .val (.int p4), .val (.int p5), .val (.int p6), .val (.ref ad1), .val (.ref ad2), .val (.int ((p6 &&& (2147483647 : Int32)) % (5 : Int32))), .val (.ref ad24), .val (.int (0 : Int32)), .val (.int (1 : Int32)), .val (.int (2 : Int32)), .unset, .unset, .unset, .unset, .unset, .unset] [(.int (3 : Int32))]
            refine eIStore X29 hx (hb hby at_208) (L' := #[.val (.int p1), .val (.int p2), .val (.int p3), .val (.int p4), .val (.int p5), .val (.int p6), .val (.ref ad1), .val (.ref ad2), .val (.int ((p6 &&& (2147483647 : Int32)) % (5 : Int32))), .val (.ref ad24), .val (.int (0 : Int32)), .val (.int (1 : Int32)), .val (.int (2 : Int32)), .val (.int (3 : Int32)), .unset, .unset, .unset, .unset, .unset]) rfl rfl ?_
            refine eALoad X29 hx (hb hby at_210) rfl rfl rfl ?_
            refine eALoad X29 hx (hb hby at_212) rfl rfl rfl ?_
            refine eIConst X29 hx (4 : Int32) (hb hby at_214) rfl rfl ?_
            refine eIALoad X29 hx hZ rfl A1 (rd vs22 (4 : Int32)) rfl (own_inb (by decide) (by rw [hP.1]; decide)) (hb hby at_215) rfl ?_
            refine eALoad X29 hx (hb hby at_216) rfl rfl rfl ?_
            refine eIConst X29 hx (4 : Int32) (hb hby at_218) rfl rfl ?_
            refine eIALoad X29 hx hZ rfl A2 (rd vs23 (4 : Int32)) rfl (own_inb (by decide) (by rw [hT]; decide)) (hb hby at_219) rfl ?_
            refine eCallV X29 hx hZ (y := (⟨"com/example/workflow_soundness/workflowsoundness/analysis/SearchTree", "add", "(II)I"⟩ : MethodName)) hown (hw _ (List.mem_of_getElem? (i := 15) rfl)) (hw _ (List.mem_of_getElem? (i := 16) rfl)) (hw _ (List.mem_of_getElem? (i := 18) rfl)) (hw _ (List.mem_of_getElem? (i := 17) rfl)) (hw _ (List.mem_of_getElem? (i := 4) rfl)) (hw _ (List.mem_of_getElem? (i := 19) rfl)) (by decide) rfl A24 (rm3 l Z a0 hw [] ad24 (rd vs22 (4 : Int32)) (rd vs23 (4 : Int32)) b25_0 b25_1 (4 : Int32) [(rd vs22 (0 : Int32)), (rd vs22 (1 : Int32)), (rd vs22 (2 : Int32)), (rd vs22 (3 : Int32)), (0 : Int32), (0 : Int32), (0 : Int32), (0 : Int32), (0 : Int32), (0 : Int32), (0 : Int32), (0 : Int32), (0 : Int32), (0 : Int32), (0 : Int32), (0 : Int32)] [(rd vs23 (0 : Int32)), (rd vs23 (1 : Int32)), (rd vs23 (2 : Int32)), (rd vs23 (3 : Int32)), (0 : Int32), (0 : Int32), (0 : Int32), (0 : Int32), (0 : Int32), (0 : Int32), (0 : Int32), (0 : Int32), (0 : Int32), (0 : Int32), (0 : Int32), (0 : Int32)] T29.heap n0 Z29 A24 F24__parents F24__transitions F24__nodes U25_0 U25_1 ge_ad24 ge_b25_0 ge_b25_1 ne_ad24_b25_0 ne_ad24_b25_1 (Ne.symm m25_1_0) (own_ne16 rfl (by decide)) (inbL (n := 16) rfl (by decide)) (inbL (n := 16) rfl (by decide))) (argsL := [(.int (rd vs22 (4 : Int32))), (.int (rd vs23 (4 : Int32)))]) (rest := []) (lenOf own_pd1 rfl) rfl (by rw [hml]; rfl) 0 (by exact Nat.le_refl _) (by decide) (by decide) (by decide) (by decide) (hb hby at_220) rfl (fun v30 T30 L30 q30 (X30 : Stand _ _ _ _ _ _ _ _ _ _ T30 _ 5 45) => ?_)
            obtain ⟨N30', K30', rfl, R30_0, R30_1, R30_2, R30_3, R30_4, R30_5⟩ := q30
            have N30 := Fr.app N29 N30'
            have A1 := A1.keep K30' (ninS ne_ad1_ad24 (ninS ne_ad1_b25_0 (ninS ne_ad1_b25_1 nin0)))
            have A2 := A2.keep K30' (ninS ne_ad2_ad24 (ninS ne_ad2_b25_0 (ninS ne_ad2_b25_1 nin0)))
            have A24 := A24.keep K30'
            have A24 := R30_0
            have F24__parents : Fld Z T30.heap ad24 "com/example/workflow_soundness/workflowsoundness/analysis/SearchTree" "_parents" "[I" (.ref b25_0) := R30_1
            have F24__transitions : Fld Z T30.heap ad24 "com/example/workflow_soundness/workflowsoundness/analysis/SearchTree" "_transitions" "[I" (.ref b25_1) := R30_2
            have F24__nodes : Fld Z T30.heap ad24 "com/example/workflow_soundness/workflowsoundness/analysis/SearchTree" "_nodes" "I" (.int (5 : Int32)) := R30_3
            have U25_0 : Ar Z T30.heap b25_0 .int [(rd vs22 (0 : Int32)), (rd vs22 (1 : Int32)), (rd vs22 (2 : Int32)), (rd vs22 (3 : Int32)), (rd vs22 (4 : Int32)), (0 : Int32), (0 : Int32), (0 : Int32), (0 : Int32), (0 : Int32), (0 : Int32), (0 : Int32), (0 : Int32), (0 : Int32), (0 : Int32), (0 : Int32)] := R30_4
            have U25_1 : Ar Z T30.heap b25_1 .int [(rd vs23 (0 : Int32)), (rd vs23 (1 : Int32)), (rd vs23 (2 : Int32)), (rd vs23 (3 : Int32)), (rd vs23 (4 : Int32)), (0 : Int32), (0 : Int32), (0 : Int32), (0 : Int32), (0 : Int32), (0 : Int32), (0 : Int32), (0 : Int32), (0 : Int32), (0 : Int32), (0 : Int32)] := R30_5
            have Z30 := Nat.le_trans Z29 K30'.1
            show Ends p e below _ T30 m 223 #[.val (.int p1), .val (.int p2), .val (.int p3), .val (.int p4), .val (.int p5), .val (.int p6), .val (.ref ad1), .val (.ref ad2), .val (.int ((p6 &&& (2147483647 : Int32)) % (5 : Int32))), .val (.ref ad24), .val (.int (0 : Int32)), .val (.int (1 : Int32)), .val (.int (2 : Int32)), .val (.int (3 : Int32)), .unset, .unset, .unset, .unset, .unset] [(.int (4 : Int32))]
            refine eIStore X30 hx (hb hby at_223) (L' := #[.val (.int p1), .val (.int p2), .val (.int p3), .val (.int p4), .val (.int p5), .val (.int p6), .val (.ref ad1), .val (.ref ad2), .val (.int ((p6 &&& (2147483647 : Int32)) % (5 : Int32))), .val (.ref ad24), .val (.int (0 : Int32)), .val (.int (1 : Int32)), .val (.int (2 : Int32)), .val (.int (3 : Int32)), .val (.int (4 : Int32)), .unset, .unset, .unset, .unset]) rfl rfl ?_
            refine eILoad X30 hx (hb hby at_225) rfl rfl ?_
            refine eIfN X30 hx (hb hby at_227) ((if0 _ _).trans (teq (by decide)).2) rfl ?_
            refine eILoad X30 hx (hb hby at_230) rfl rfl ?_
            refine eIConst X30 hx (1 : Int32) (hb hby at_232) rfl rfl ?_
            refine eIcmpN X30 hx (hb hby at_233) (teq (by decide)).2 rfl ?_
            refine eILoad X30 hx (hb hby at_236) rfl rfl ?_
            refine eIConst X30 hx (2 : Int32) (hb hby at_238) rfl rfl ?_
            refine eIcmpN X30 hx (hb hby at_239) (teq (by decide)).2 rfl ?_
            refine eILoad X30 hx (hb hby at_242) rfl rfl ?_
            refine eIConst X30 hx (3 : Int32) (hb hby at_244) rfl rfl ?_
            refine eIcmpN X30 hx (hb hby at_245) (teq (by decide)).2 rfl ?_
            refine eILoad X30 hx (hb hby at_248) rfl rfl ?_
            refine eIConst X30 hx (4 : Int32) (hb hby at_250) rfl rfl ?_
            refine eIcmpY X30 hx (hb hby at_251) (teq (by decide)).1 (by decide) (pc' := 256) rfl ?_
            refine eALoad X30 hx (hb hby at_256) rfl rfl rfl ?_
            refine eILoad X30 hx (hb hby at_258) rfl rfl ?_
            refine eCallV X30 hx hZ (y := (⟨"com/example/workflow_soundness/workflowsoundness/analysis/SearchTree", "path", "(I)[I"⟩ : MethodName)) hown (hw _ (List.mem_of_getElem? (i := 22) rfl)) (hw _ (List.mem_of_getElem? (i := 23) rfl)) (hw _ (List.mem_of_getElem? (i := 25) rfl)) (hw _ (List.mem_of_getElem? (i := 24) rfl)) (hw _ (List.mem_of_getElem? (i := 4) rfl)) (hw _ (List.mem_of_getElem? (i := 26) rfl)) (by decide) rfl A24 (rm4 l Z a0 hw [] ad24 ((p6 &&& (2147483647 : Int32)) % (5 : Int32)) b25_0 b25_1 (5 : Int32) [(rd vs22 (0 : Int32)), (rd vs22 (1 : Int32)), (rd vs22 (2 : Int32)), (rd vs22 (3 : Int32)), (rd vs22 (4 : Int32)), (0 : Int32), (0 : Int32), (0 : Int32), (0 : Int32), (0 : Int32), (0 : Int32), (0 : Int32), (0 : Int32), (0 : Int32), (0 : Int32), (0 : Int32)] [(rd vs23 (0 : Int32)), (rd vs23 (1 : Int32)), (rd vs23 (2 : Int32)), (rd vs23 (3 : Int32)), (rd vs23 (4 : Int32)), (0 : Int32), (0 : Int32), (0 : Int32), (0 : Int32), (0 : Int32), (0 : Int32), (0 : Int32), (0 : Int32), (0 : Int32), (0 : Int32), (0 : Int32)] T30.heap n0 Z30 A24 F24__parents F24__transitions F24__nodes U25_0 U25_1 (own_dec16 hP) rfl (own_q p6)) (argsL := [(.int ((p6 &&& (2147483647 : Int32)) % (5 : Int32)))]) (rest := []) (lenOf own_pd2 rfl) rfl (by rw [hml]; rfl) 0 (by exact Nat.le_refl _) (by decide) (by decide) (by decide) (by decide) (hb hby at_260) rfl (fun v31 T31 L31 q31 (X31 : Stand _ _ _ _ _ _ _ _ _ _ T31 _ 6 49) => ?_)
            obtain ⟨N31', K31', b31_0, g31_0, rfl, R31_0, R31_1, R31_2, R31_3, R31_4, R31_5, U31_0⟩ := q31
            have N31 := Fr.app N30 N31'
            have ne_ad1_b31_0 : ad1 ≠ b31_0 := Nat.ne_of_lt (Nat.lt_of_lt_of_le A1.lt g31_0)
            have ne_ad2_b31_0 : ad2 ≠ b31_0 := Nat.ne_of_lt (Nat.lt_of_lt_of_le A2.lt g31_0)
            have ne_ad24_b31_0 : ad24 ≠ b31_0 := Nat.ne_of_lt (Nat.lt_of_lt_of_le A24.lt g31_0)
            have ne_b25_0_b31_0 : b25_0 ≠ b31_0 := Nat.ne_of_lt (Nat.lt_of_lt_of_le U25_0.lt g31_0)
            have ne_b25_1_b31_0 : b25_1 ≠ b31_0 := Nat.ne_of_lt (Nat.lt_of_lt_of_le U25_1.lt g31_0)
            have ge_b31_0 : n0 ≤ b31_0 := Nat.le_trans Z30 g31_0
            have A1 := A1.keep K31' nin0
            have A2 := A2.keep K31' nin0
            have A24 := A24.keep K31'
            have F24__parents := F24__parents.keep K31' nin0
            have F24__transitions := F24__transitions.keep K31' nin0
            have F24__nodes := F24__nodes.keep K31' nin0
            have U25_0 := U25_0.keep K31' nin0
            have U25_1 := U25_1.keep K31' nin0
            have A24 := R31_0
            have F24__parents : Fld Z T31.heap ad24 "com/example/workflow_soundness/workflowsoundness/analysis/SearchTree" "_parents" "[I" (.ref b25_0) := R31_1
            have F24__transitions : Fld Z T31.heap ad24 "com/example/workflow_soundness/workflowsoundness/analysis/SearchTree" "_transitions" "[I" (.ref b25_1) := R31_2
            have F24__nodes : Fld Z T31.heap ad24 "com/example/workflow_soundness/workflowsoundness/analysis/SearchTree" "_nodes" "I" (.int (5 : Int32)) := R31_3
            have U25_0 : Ar Z T31.heap b25_0 .int [(rd vs22 (0 : Int32)), (rd vs22 (1 : Int32)), (rd vs22 (2 : Int32)), (rd vs22 (3 : Int32)), (rd vs22 (4 : Int32)), (0 : Int32), (0 : Int32), (0 : Int32), (0 : Int32), (0 : Int32), (0 : Int32), (0 : Int32), (0 : Int32), (0 : Int32), (0 : Int32), (0 : Int32)] := R31_4
            have U25_1 : Ar Z T31.heap b25_1 .int [(rd vs23 (0 : Int32)), (rd vs23 (1 : Int32)), (rd vs23 (2 : Int32)), (rd vs23 (3 : Int32)), (rd vs23 (4 : Int32)), (0 : Int32), (0 : Int32), (0 : Int32), (0 : Int32), (0 : Int32), (0 : Int32), (0 : Int32), (0 : Int32), (0 : Int32), (0 : Int32), (0 : Int32)] := R31_5
            have U31_0 : Ar Z T31.heap b31_0 .int (fPath_0 ((p6 &&& (2147483647 : Int32)) % (5 : Int32)) [(rd vs22 (0 : Int32)), (rd vs22 (1 : Int32)), (rd vs22 (2 : Int32)), (rd vs22 (3 : Int32)), (rd vs22 (4 : Int32)), (0 : Int32), (0 : Int32), (0 : Int32), (0 : Int32), (0 : Int32), (0 : Int32), (0 : Int32), (0 : Int32), (0 : Int32), (0 : Int32), (0 : Int32)] [(rd vs23 (0 : Int32)), (rd vs23 (1 : Int32)), (rd vs23 (2 : Int32)), (rd vs23 (3 : Int32)), (rd vs23 (4 : Int32)), (0 : Int32), (0 : Int32), (0 : Int32), (0 : Int32), (0 : Int32), (0 : Int32), (0 : Int32), (0 : Int32), (0 : Int32), (0 : Int32), (0 : Int32)]) := U31_0
            have Z31 := Nat.le_trans Z30 K31'.1
            show Ends p e below _ T31 m 263 #[.val (.int p1), .val (.int p2), .val (.int p3), .val (.int p4), .val (.int p5), .val (.int p6), .val (.ref ad1), .val (.ref ad2), .val (.int ((p6 &&& (2147483647 : Int32)) % (5 : Int32))), .val (.ref ad24), .val (.int (0 : Int32)), .val (.int (1 : Int32)), .val (.int (2 : Int32)), .val (.int (3 : Int32)), .val (.int (4 : Int32)), .unset, .unset, .unset, .unset] [(.ref b31_0)]
            refine eAStore X31 hx (hb hby at_263) rfl (L' := #[.val (.int p1), .val (.int p2), .val (.int p3), .val (.int p4), .val (.int p5), .val (.int p6), .val (.ref ad1), .val (.ref ad2), .val (.int ((p6 &&& (2147483647 : Int32)) % (5 : Int32))), .val (.ref ad24), .val (.int (0 : Int32)), .val (.int (1 : Int32)), .val (.int (2 : Int32)), .val (.int (3 : Int32)), .val (.int (4 : Int32)), .val (.ref b31_0), .unset, .unset, .unset]) rfl rfl ?_
            have LP32 : ∀  (vs33 : List Int32) (hL32 : Heap) (T32 : State) (locs32 : List Loc) (X32 : Stand p l e room_1 s m #[(.int p1), (.int p2), (.int p3), (.int p4), (.int p5), (.int p6)] below meth c T32 locs32 6 49) (N32 : Fr n0 locs32) (e32 : T32.heap = hL32) (Z32 : n0 ≤ hL32.size) (A1 : Ar Z hL32 ad1 .int vs22) (A2 : Ar Z hL32 ad2 .int vs23) (A24 : Exa Z hL32 ad24 "com/example/workflow_soundness/workflowsoundness/analysis/SearchTree") (F24__parents : Fld Z hL32 ad24 "com/example/workflow_soundness/workflowsoundness/analysis/SearchTree" "_parents" "[I" (.ref b25_0)) (F24__transitions : Fld Z hL32 ad24 "com/example/workflow_soundness/workflowsoundness/analysis/SearchTree" "_transitions" "[I" (.ref b25_1)) (F24__nodes : Fld Z hL32 ad24 "com/example/workflow_soundness/workflowsoundness/analysis/SearchTree" "_nodes" "I" (.int (5 : Int32))) (U25_0 : Ar Z hL32 b25_0 .int [(rd vs22 (0 : Int32)), (rd vs22 (1 : Int32)), (rd vs22 (2 : Int32)), (rd vs22 (3 : Int32)), (rd vs22 (4 : Int32)), (0 : Int32), (0 : Int32), (0 : Int32), (0 : Int32), (0 : Int32), (0 : Int32), (0 : Int32), (0 : Int32), (0 : Int32), (0 : Int32), (0 : Int32)]) (U25_1 : Ar Z hL32 b25_1 .int [(rd vs23 (0 : Int32)), (rd vs23 (1 : Int32)), (rd vs23 (2 : Int32)), (rd vs23 (3 : Int32)), (rd vs23 (4 : Int32)), (0 : Int32), (0 : Int32), (0 : Int32), (0 : Int32), (0 : Int32), (0 : Int32), (0 : Int32), (0 : Int32), (0 : Int32), (0 : Int32), (0 : Int32)]) (U31_0 : Ar Z hL32 b31_0 .int vs33), Ends p e below (PVW s 24 192 n0 (f0_265 p6 vs22 vs23 vs33)) T32 m 265 #[.val (.int p1), .val (.int p2), .val (.int p3), .val (.int p4), .val (.int p5), .val (.int p6), .val (.ref ad1), .val (.ref ad2), .val (.int ((p6 &&& (2147483647 : Int32)) % (5 : Int32))), .val (.ref ad24), .val (.int (0 : Int32)), .val (.int (1 : Int32)), .val (.int (2 : Int32)), .val (.int (3 : Int32)), .val (.int (4 : Int32)), .val (.ref b31_0), .unset, .unset, .unset] [] := by
              intro vs33 hL32 T32 locs32 X32 N32 e32 Z32 A1 A2 A24 F24__parents F24__transitions F24__nodes U25_0 U25_1 U31_0
              refine eIConst X32 hx (4 : Int32) (hb hby at_265) rfl rfl ?_
              refine eNewA X32 hx hZ rfl rfl (hw _ (List.mem_of_getElem? (i := 0) rfl)) e32 (hb hby at_266) (by decide) (cap := 4) (by decide) (by decide) (by decide) (by decide) rfl (fun T34 h34 ad34 g34 X34 e34 E34 A34 => ?_)
              have ne_ad1_ad34 : ad1 ≠ ad34 := Nat.ne_of_lt (Nat.lt_of_lt_of_le A1.lt (Nat.le_of_eq g34.symm))
              have ne_ad2_ad34 : ad2 ≠ ad34 := Nat.ne_of_lt (Nat.lt_of_lt_of_le A2.lt (Nat.le_of_eq g34.symm))
              have ne_ad24_ad34 : ad24 ≠ ad34 := Nat.ne_of_lt (Nat.lt_of_lt_of_le A24.lt (Nat.le_of_eq g34.symm))
              have ne_b25_0_ad34 : b25_0 ≠ ad34 := Nat.ne_of_lt (Nat.lt_of_lt_of_le U25_0.lt (Nat.le_of_eq g34.symm))
              have ne_b25_1_ad34 : b25_1 ≠ ad34 := Nat.ne_of_lt (Nat.lt_of_lt_of_le U25_1.lt (Nat.le_of_eq g34.symm))
              have ne_b31_0_ad34 : b31_0 ≠ ad34 := Nat.ne_of_lt (Nat.lt_of_lt_of_le U31_0.lt (Nat.le_of_eq g34.symm))
              have A1 := A1.ext E34
              have A2 := A2.ext E34
              have A24 := A24.ext E34
              have F24__parents := F24__parents.ext E34
              have F24__transitions := F24__transitions.ext E34
              have F24__nodes := F24__nodes.ext E34
              have U25_0 := U25_0.ext E34
              have U25_1 := U25_1.ext E34
              have U31_0 := U31_0.ext E34
              have Z34 := Nat.le_trans Z32 E34.1
              have ge_ad34 : n0 ≤ ad34 := Nat.le_trans Z32 (Nat.le_of_eq g34.symm)
              have A34 : Ar Z h34 ad34 .int [(0 : Int32), (0 : Int32), (0 : Int32), (0 : Int32)] := A34
              refine eAStore X34 hx (hb hby at_268) rfl (L' := #[.val (.int p1), .val (.int p2), .val (.int p3), .val (.int p4), .val (.int p5), .val (.int p6), .val (.ref ad1), .val (.ref ad2), .val (.int ((p6 &&& (2147483647 : Int32)) % (5 : Int32))), .val (.ref ad24), .val (.int (0 : Int32)), .val (.int (1 : Int32)), .val (.int (2 : Int32)), .val (.int (3 : Int32)), .val (.int (4 : Int32)), .val (.ref b31_0), .val (.ref ad34), .unset, .unset]) rfl rfl ?_
              refine eIConst X34 hx (0 : Int32) (hb hby at_270) rfl rfl ?_
              refine eIStore X34 hx (hb hby at_271) (L' := #[.val (.int p1), .val (.int p2), .val (.int p3), .val (.int p4), .val (.int p5), .val (.int p6), .val (.ref ad1), .val (.ref ad2), .val (.int ((p6 &&& (2147483647 : Int32)) % (5 : Int32))), .val (.ref ad24), .val (.int (0 : Int32)), .val (.int (1 : Int32)), .val (.int (2 : Int32)), .val (.int (3 : Int32)), .val (.int (4 : Int32)), .val (.ref b31_0), .val (.ref ad34), .val (.int (0 : Int32)), .unset]) rfl rfl ?_
              refine eILoad X34 hx (hb hby at_273) rfl rfl ?_
              refine eIStore X34 hx (hb hby at_275) (L' := #[.val (.int p1), .val (.int p2), .val (.int p3), .val (.int p4), .val (.int p5), .val (.int p6), .val (.ref ad1), .val (.ref ad2), .val (.int ((p6 &&& (2147483647 : Int32)) % (5 : Int32))), .val (.ref ad24), .val (.int (0 : Int32)), .val (.int (1 : Int32)), .val (.int (2 : Int32)), .val (.int (3 : Int32)), .val (.int (4 : Int32)), .val (.ref b31_0), .val (.ref ad34), .val (.int (0 : Int32)), .val (.int ((p6 &&& (2147483647 : Int32)) % (5 : Int32)))]) rfl rfl ?_
              refine eALoad X34 hx (hb hby at_277) rfl rfl rfl ?_
              refine eILoad X34 hx (hb hby at_279) rfl rfl ?_
              refine eIALoad X34 hx hZ e34 A1 (rd vs22 ((p6 &&& (2147483647 : Int32)) % (5 : Int32))) rfl (own_inb (own_q p6).1 (by rw [hP.1]; exact (own_q p6).2)) (hb hby at_281) rfl ?_
              show Ends p e below (PVW s 24 192 n0 (if (rd vs22 ((p6 &&& (2147483647 : Int32)) % (5 : Int32))) < (0 : Int32) then (if (Int32.ofNat vs33.length) = (0 : Int32) then (1 : Int32) else (0 : Int32)) else (if (rd vs22 (rd vs22 ((p6 &&& (2147483647 : Int32)) % (5 : Int32)))) < (0 : Int32) then (if (Int32.ofNat vs33.length) = (1 : Int32) then (if (rd vs33 (0 : Int32)) = (rd vs23 ((p6 &&& (2147483647 : Int32)) % (5 : Int32))) then (1 : Int32) else (0 : Int32)) else (0 : Int32)) else (if (rd vs22 (rd vs22 (rd vs22 ((p6 &&& (2147483647 : Int32)) % (5 : Int32))))) < (0 : Int32) then (if (Int32.ofNat vs33.length) = (2 : Int32) then (if (rd vs33 (0 : Int32)) = (rd vs23 (rd vs22 ((p6 &&& (2147483647 : Int32)) % (5 : Int32)))) then (if (rd vs33 (1 : Int32)) = (rd vs23 ((p6 &&& (2147483647 : Int32)) % (5 : Int32))) then (1 : Int32) else (0 : Int32)) else (0 : Int32)) else (0 : Int32)) else (if (rd vs22 (rd vs22 (rd vs22 (rd vs22 ((p6 &&& (2147483647 : Int32)) % (5 : Int32)))))) < (0 : Int32) then (if (Int32.ofNat vs33.length) = (3 : Int32) then (if (rd vs33 (0 : Int32)) = (rd vs23 (rd vs22 (rd vs22 ((p6 &&& (2147483647 : Int32)) % (5 : Int32))))) then (if (rd vs33 (1 : Int32)) = (rd vs23 (rd vs22 ((p6 &&& (2147483647 : Int32)) % (5 : Int32)))) then (if (rd vs33 (2 : Int32)) = (rd vs23 ((p6 &&& (2147483647 : Int32)) % (5 : Int32))) then (1 : Int32) else (0 : Int32)) else (0 : Int32)) else (0 : Int32)) else (0 : Int32)) else (if (Int32.ofNat vs33.length) = (4 : Int32) then (if (rd vs33 (0 : Int32)) = (rd vs23 (rd vs22 (rd vs22 (rd vs22 ((p6 &&& (2147483647 : Int32)) % (5 : Int32)))))) then (if (rd vs33 (1 : Int32)) = (rd vs23 (rd vs22 (rd vs22 ((p6 &&& (2147483647 : Int32)) % (5 : Int32))))) then (if (rd vs33 (2 : Int32)) = (rd vs23 (rd vs22 ((p6 &&& (2147483647 : Int32)) % (5 : Int32)))) then (if (rd vs33 (3 : Int32)) = (rd vs23 ((p6 &&& (2147483647 : Int32)) % (5 : Int32))) then (1 : Int32) else (0 : Int32)) else (0 : Int32)) else (0 : Int32)) else (0 : Int32)) else (0 : Int32))))))) T34 m 282 #[.val (.int p1), .val (.int p2), .val (.int p3), .val (.int p4), .val (.int p5), .val (.int p6), .val (.ref ad1), .val (.ref ad2), .val (.int ((p6 &&& (2147483647 : Int32)) % (5 : Int32))), .val (.ref ad24), .val (.int (0 : Int32)), .val (.int (1 : Int32)), .val (.int (2 : Int32)), .val (.int (3 : Int32)), .val (.int (4 : Int32)), .val (.ref b31_0), .val (.ref ad34), .val (.int (0 : Int32)), .val (.int ((p6 &&& (2147483647 : Int32)) % (5 : Int32)))] [(.int (rd vs22 ((p6 &&& (2147483647 : Int32)) % (5 : Int32))))]
              by_cases c35 : (rd vs22 ((p6 &&& (2147483647 : Int32)) % (5 : Int32))) < (0 : Int32)
              · rw [if_pos c35]
                refine eIfY X34 hx (hb hby at_282) ((if0 _ _).trans (tlt c35).1) (by decide) (pc' := 394) rfl ?_
                refine eALoad X34 hx (hb hby at_394) rfl rfl rfl ?_
                refine eLen X34 hx hZ e34 U31_0 (Int32.ofNat vs33.length) rfl (hb hby at_396) rfl ?_
                refine eILoad X34 hx (hb hby at_397) rfl rfl ?_
                show Ends p e below (PVW s 24 192 n0 (if (Int32.ofNat vs33.length) = (0 : Int32) then (1 : Int32) else (0 : Int32))) T34 m 399 #[.val (.int p1), .val (.int p2), .val (.int p3), .val (.int p4), .val (.int p5), .val (.int p6), .val (.ref ad1), .val (.ref ad2), .val (.int ((p6 &&& (2147483647 : Int32)) % (5 : Int32))), .val (.ref ad24), .val (.int (0 : Int32)), .val (.int (1 : Int32)), .val (.int (2 : Int32)), .val (.int (3 : Int32)), .val (.int (4 : Int32)), .val (.ref b31_0), .val (.ref ad34), .val (.int (0 : Int32)), .val (.int ((p6 &&& (2147483647 : Int32)) % (5 : Int32)))] [(.int (0 : Int32)), (.int (Int32.ofNat vs33.length))]
                by_cases c36 : (Int32.ofNat vs33.length) = (0 : Int32)
                · rw [if_pos c36]
                  refine eIcmpY X34 hx (hb hby at_399) (teq c36).1 (by decide) (pc' := 404) rfl ?_
                  refine eILoad X34 hx (hb hby at_404) rfl rfl ?_
                  refine eIfY X34 hx (hb hby at_406) ((if0 _ _).trans (flt (by decide)).2.2.2) (by decide) (pc' := 425) rfl ?_
                  refine eILoad X34 hx (hb hby at_425) rfl rfl ?_
                  refine eIConst X34 hx (1 : Int32) (hb hby at_427) rfl rfl ?_
                  refine eIcmpY X34 hx (hb hby at_428) (flt (by decide)).2.2.2 (by decide) (pc' := 447) rfl ?_
                  refine eILoad X34 hx (hb hby at_447) rfl rfl ?_
                  refine eIConst X34 hx (2 : Int32) (hb hby at_449) rfl rfl ?_
                  refine eIcmpY X34 hx (hb hby at_450) (flt (by decide)).2.2.2 (by decide) (pc' := 469) rfl ?_
                  refine eILoad X34 hx (hb hby at_469) rfl rfl ?_
                  refine eIConst X34 hx (3 : Int32) (hb hby at_471) rfl rfl ?_
                  refine eIcmpY X34 hx (hb hby at_472) (flt (by decide)).2.2.2 (by decide) (pc' := 491) rfl ?_
                  refine eIConst X34 hx (1 : Int32) (hb hby at_491) rfl rfl ?_
                  exact eRetN X34 hx (t := .boolean) Bd.returns (by simp) hlk (hb hby at_492) (by decide) (by decide) ⟨rfl, N32⟩
                · rw [if_neg c36]
                  refine eIcmpN X34 hx (hb hby at_399) (feq c36).1 rfl ?_
                  refine eIConst X34 hx (0 : Int32) (hb hby at_402) rfl rfl ?_
                  exact eRetN X34 hx (t := .boolean) Bd.returns (by simp) hlk (hb hby at_403) (by decide) (by decide) ⟨rfl, N32⟩
              · rw [if_neg c35]
                refine eIfN X34 hx (hb hby at_282) ((if0 _ _).trans (flt c35).1) rfl ?_
                refine eALoad X34 hx (hb hby at_285) rfl rfl rfl ?_
                refine eILoad X34 hx (hb hby at_287) rfl rfl ?_
                refine eALoad X34 hx (hb hby at_289) rfl rfl rfl ?_
                refine eILoad X34 hx (hb hby at_291) rfl rfl ?_
                refine eIALoad X34 hx hZ e34 A2 (rd vs23 ((p6 &&& (2147483647 : Int32)) % (5 : Int32))) rfl (own_inb (own_q p6).1 (by rw [hT]; exact (own_q p6).2)) (hb hby at_293) rfl ?_
                refine eIAStore X34 hx hZ e34 A34 (inbL (n := 4) rfl (by decide)) (hb hby at_294) rfl (fun T37 h37 X37 e37 W37 B37 => ?_)
                have A1 := A1.other W37 ne_ad1_ad34
                have A2 := A2.other W37 ne_ad2_ad34
                have A24 := A24.wr W37
                have F24__parents := F24__parents.other W37 (Or.inl ne_ad24_ad34)
                have F24__transitions := F24__transitions.other W37 (Or.inl ne_ad24_ad34)
                have F24__nodes := F24__nodes.other W37 (Or.inl ne_ad24_ad34)
                have U25_0 := U25_0.other W37 ne_b25_0_ad34
                have U25_1 := U25_1.other W37 ne_b25_1_ad34
                have U31_0 := U31_0.other W37 ne_b31_0_ad34
                have A34 : Ar Z h37 ad34 .int [(rd vs23 ((p6 &&& (2147483647 : Int32)) % (5 : Int32))), (0 : Int32), (0 : Int32), (0 : Int32)] := B37
                have N37 := Fr.snoc X37 N32 ge_ad34
                have Z37 := Nat.le_trans Z34 (Keep.of_wr W37).1
                refine eILoad X37 hx (hb hby at_295) rfl rfl ?_
                refine eIConst X37 hx (1 : Int32) (hb hby at_297) rfl rfl ?_
                refine eIAdd X37 hx (hb hby at_298) rfl ?_
                show Ends p e below _ T37 m 299 #[.val (.int p1), .val (.int p2), .val (.int p3), .val (.int p4), .val (.int p5), .val (.int p6), .val (.ref ad1), .val (.ref ad2), .val (.int ((p6 &&& (2147483647 : Int32)) % (5 : Int32))), .val (.ref ad24), .val (.int (0 : Int32)), .val (.int (1 : Int32)), .val (.int (2 : Int32)), .val (.int (3 : Int32)), .val (.int (4 : Int32)), .val (.ref b31_0), .val (.ref ad34), .val (.int (0 : Int32)), .val (.int ((p6 &&& (2147483647 : Int32)) % (5 : Int32)))] [(.int (1 : Int32))]
                refine eIStore X37 hx (hb hby at_299) (L' := #[.val (.int p1), .val (.int p2), .val (.int p3), .val (.int p4), .val (.int p5), .val (.int p6), .val (.ref ad1), .val (.ref ad2), .val (.int ((p6 &&& (2147483647 : Int32)) % (5 : Int32))), .val (.ref ad24), .val (.int (0 : Int32)), .val (.int (1 : Int32)), .val (.int (2 : Int32)), .val (.int (3 : Int32)), .val (.int (4 : Int32)), .val (.ref b31_0), .val (.ref ad34), .val (.int (1 : Int32)), .val (.int ((p6 &&& (2147483647 : Int32)) % (5 : Int32)))]) rfl rfl ?_
                refine eALoad X37 hx (hb hby at_301) rfl rfl rfl ?_
                refine eILoad X37 hx (hb hby at_303) rfl rfl ?_
                refine eIALoad X37 hx hZ e37 A1 (rd vs22 ((p6 &&& (2147483647 : Int32)) % (5 : Int32))) rfl (own_inb (own_q p6).1 (by rw [hP.1]; exact (own_q p6).2)) (hb hby at_305) rfl ?_
                refine eIStore X37 hx (hb hby at_306) (L' := #[.val (.int p1), .val (.int p2), .val (.int p3), .val (.int p4), .val (.int p5), .val (.int p6), .val (.ref ad1), .val (.ref ad2), .val (.int ((p6 &&& (2147483647 : Int32)) % (5 : Int32))), .val (.ref ad24), .val (.int (0 : Int32)), .val (.int (1 : Int32)), .val (.int (2 : Int32)), .val (.int (3 : Int32)), .val (.int (4 : Int32)), .val (.ref b31_0), .val (.ref ad34), .val (.int (1 : Int32)), .val (.int (rd vs22 ((p6 &&& (2147483647 : Int32)) % (5 : Int32))))]) rfl rfl ?_
                refine eALoad X37 hx (hb hby at_308) rfl rfl rfl ?_
                refine eILoad X37 hx (hb hby at_310) rfl rfl ?_
                refine eIALoad X37 hx hZ e37 A1 (rd vs22 (rd vs22 ((p6 &&& (2147483647 : Int32)) % (5 : Int32)))) rfl (own_inb (own_p5 hP (own_q p6) c35).1 (by rw [hP.1]; exact (own_p5 hP (own_q p6) c35).2)) (hb hby at_312) rfl ?_
                show Ends p e below (PVW s 24 192 n0 (if (rd vs22 (rd vs22 ((p6 &&& (2147483647 : Int32)) % (5 : Int32)))) < (0 : Int32) then (if (Int32.ofNat vs33.length) = (1 : Int32) then (if (rd vs33 (0 : Int32)) = (rd vs23 ((p6 &&& (2147483647 : Int32)) % (5 : Int32))) then (1 : Int32) else (0 : Int32)) else (0 : Int32)) else (if (rd vs22 (rd vs22 (rd vs22 ((p6 &&& (2147483647 : Int32)) % (5 : Int32))))) < (0 : Int32) then (if (Int32.ofNat vs33.length) = (2 : Int32) then (if (rd vs33 (0 : Int32)) = (rd vs23 (rd vs22 ((p6 &&& (2147483647 : Int32)) % (5 : Int32)))) then (if (rd vs33 (1 : Int32)) = (rd vs23 ((p6 &&& (2147483647 : Int32)) % (5 : Int32))) then (1 : Int32) else (0 : Int32)) else (0 : Int32)) else (0 : Int32)) else (if (rd vs22 (rd vs22 (rd vs22 (rd vs22 ((p6 &&& (2147483647 : Int32)) % (5 : Int32)))))) < (0 : Int32) then (if (Int32.ofNat vs33.length) = (3 : Int32) then (if (rd vs33 (0 : Int32)) = (rd vs23 (rd vs22 (rd vs22 ((p6 &&& (2147483647 : Int32)) % (5 : Int32))))) then (if (rd vs33 (1 : Int32)) = (rd vs23 (rd vs22 ((p6 &&& (2147483647 : Int32)) % (5 : Int32)))) then (if (rd vs33 (2 : Int32)) = (rd vs23 ((p6 &&& (2147483647 : Int32)) % (5 : Int32))) then (1 : Int32) else (0 : Int32)) else (0 : Int32)) else (0 : Int32)) else (0 : Int32)) else (if (Int32.ofNat vs33.length) = (4 : Int32) then (if (rd vs33 (0 : Int32)) = (rd vs23 (rd vs22 (rd vs22 (rd vs22 ((p6 &&& (2147483647 : Int32)) % (5 : Int32)))))) then (if (rd vs33 (1 : Int32)) = (rd vs23 (rd vs22 (rd vs22 ((p6 &&& (2147483647 : Int32)) % (5 : Int32))))) then (if (rd vs33 (2 : Int32)) = (rd vs23 (rd vs22 ((p6 &&& (2147483647 : Int32)) % (5 : Int32)))) then (if (rd vs33 (3 : Int32)) = (rd vs23 ((p6 &&& (2147483647 : Int32)) % (5 : Int32))) then (1 : Int32) else (0 : Int32)) else (0 : Int32)) else (0 : Int32)) else (0 : Int32)) else (0 : Int32)))))) T37 m 313 #[.val (.int p1), .val (.int p2), .val (.int p3), .val (.int p4), .val (.int p5), .val (.int p6), .val (.ref ad1), .val (.ref ad2), .val (.int ((p6 &&& (2147483647 : Int32)) % (5 : Int32))), .val (.ref ad24), .val (.int (0 : Int32)), .val (.int (1 : Int32)), .val (.int (2 : Int32)), .val (.int (3 : Int32)), .val (.int (4 : Int32)), .val (.ref b31_0), .val (.ref ad34), .val (.int (1 : Int32)), .val (.int (rd vs22 ((p6 &&& (2147483647 : Int32)) % (5 : Int32))))] [(.int (rd vs22 (rd vs22 ((p6 &&& (2147483647 : Int32)) % (5 : Int32)))))]
                by_cases c38 : (rd vs22 (rd vs22 ((p6 &&& (2147483647 : Int32)) % (5 : Int32)))) < (0 : Int32)
                · rw [if_pos c38]
                  refine eIfY X37 hx (hb hby at_313) ((if0 _ _).trans (tlt c38).1) (by decide) (pc' := 394) rfl ?_
                  refine eALoad X37 hx (hb hby at_394) rfl rfl rfl ?_
                  refine eLen X37 hx hZ e37 U31_0 (Int32.ofNat vs33.length) rfl (hb hby at_396) rfl ?_
                  refine eILoad X37 hx (hb hby at_397) rfl rfl ?_
                  show Ends p e below (PVW s 24 192 n0 (if (Int32.ofNat vs33.length) = (1 : Int32) then (if (rd vs33 (0 : Int32)) = (rd vs23 ((p6 &&& (2147483647 : Int32)) % (5 : Int32))) then (1 : Int32) else (0 : Int32)) else (0 : Int32))) T37 m 399 #[.val (.int p1), .val (.int p2), .val (.int p3), .val (.int p4), .val (.int p5), .val (.int p6), .val (.ref ad1), .val (.ref ad2), .val (.int ((p6 &&& (2147483647 : Int32)) % (5 : Int32))), .val (.ref ad24), .val (.int (0 : Int32)), .val (.int (1 : Int32)), .val (.int (2 : Int32)), .val (.int (3 : Int32)), .val (.int (4 : Int32)), .val (.ref b31_0), .val (.ref ad34), .val (.int (1 : Int32)), .val (.int (rd vs22 ((p6 &&& (2147483647 : Int32)) % (5 : Int32))))] [(.int (1 : Int32)), (.int (Int32.ofNat vs33.length))]
                  by_cases c39 : (Int32.ofNat vs33.length) = (1 : Int32)
                  · rw [if_pos c39]
                    refine eIcmpY X37 hx (hb hby at_399) (teq c39).1 (by decide) (pc' := 404) rfl ?_
                    refine eILoad X37 hx (hb hby at_404) rfl rfl ?_
                    refine eIfN X37 hx (hb hby at_406) ((if0 _ _).trans (tlt (by decide)).2.2.2) rfl ?_
                    refine eALoad X37 hx (hb hby at_409) rfl rfl rfl ?_
                    refine eIConst X37 hx (0 : Int32) (hb hby at_411) rfl rfl ?_
                    refine eIALoad X37 hx hZ e37 U31_0 (rd vs33 (0 : Int32)) rfl (own_gi c39 (Ar.small U31_0) (by decide) (by decide)) (hb hby at_412) rfl ?_
                    refine eALoad X37 hx (hb hby at_413) rfl rfl rfl ?_
                    refine eILoad X37 hx (hb hby at_415) rfl rfl ?_
                    refine eIConst X37 hx (1 : Int32) (hb hby at_417) rfl rfl ?_
                    refine eISub X37 hx (hb hby at_418) rfl ?_
                    show Ends p e below _ T37 m 419 #[.val (.int p1), .val (.int p2), .val (.int p3), .val (.int p4), .val (.int p5), .val (.int p6), .val (.ref ad1), .val (.ref ad2), .val (.int ((p6 &&& (2147483647 : Int32)) % (5 : Int32))), .val (.ref ad24), .val (.int (0 : Int32)), .val (.int (1 : Int32)), .val (.int (2 : Int32)), .val (.int (3 : Int32)), .val (.int (4 : Int32)), .val (.ref b31_0), .val (.ref ad34), .val (.int (1 : Int32)), .val (.int (rd vs22 ((p6 &&& (2147483647 : Int32)) % (5 : Int32))))] [(.int (0 : Int32)), (.ref ad34), (.int (rd vs33 (0 : Int32)))]
                    refine eIALoad X37 hx hZ e37 A34 (rd vs23 ((p6 &&& (2147483647 : Int32)) % (5 : Int32))) rfl (inbL (n := 4) rfl (by decide)) (hb hby at_419) rfl ?_
                    show Ends p e below (PVW s 24 192 n0 (if (rd vs33 (0 : Int32)) = (rd vs23 ((p6 &&& (2147483647 : Int32)) % (5 : Int32))) then (1 : Int32) else (0 : Int32))) T37 m 420 #[.val (.int p1), .val (.int p2), .val (.int p3), .val (.int p4), .val (.int p5), .val (.int p6), .val (.ref ad1), .val (.ref ad2), .val (.int ((p6 &&& (2147483647 : Int32)) % (5 : Int32))), .val (.ref ad24), .val (.int (0 : Int32)), .val (.int (1 : Int32)), .val (.int (2 : Int32)), .val (.int (3 : Int32)), .val (.int (4 : Int32)), .val (.ref b31_0), .val (.ref ad34), .val (.int (1 : Int32)), .val (.int (rd vs22 ((p6 &&& (2147483647 : Int32)) % (5 : Int32))))] [(.int (rd vs23 ((p6 &&& (2147483647 : Int32)) % (5 : Int32)))), (.int (rd vs33 (0 : Int32)))]
                    by_cases c40 : (rd vs33 (0 : Int32)) = (rd vs23 ((p6 &&& (2147483647 : Int32)) % (5 : Int32)))
                    · rw [if_pos c40]
                      refine eIcmpY X37 hx (hb hby at_420) (teq c40).1 (by decide) (pc' := 425) rfl ?_
                      refine eILoad X37 hx (hb hby at_425) rfl rfl ?_
                      refine eIConst X37 hx (1 : Int32) (hb hby at_427) rfl rfl ?_
                      refine eIcmpY X37 hx (hb hby at_428) (flt (by decide)).2.2.2 (by decide) (pc' := 447) rfl ?_
                      refine eILoad X37 hx (hb hby at_447) rfl rfl ?_
                      refine eIConst X37 hx (2 : Int32) (hb hby at_449) rfl rfl ?_
                      refine eIcmpY X37 hx (hb hby at_450) (flt (by decide)).2.2.2 (by decide) (pc' := 469) rfl ?_
                      refine eILoad X37 hx (hb hby at_469) rfl rfl ?_
                      refine eIConst X37 hx (3 : Int32) (hb hby at_471) rfl rfl ?_
                      refine eIcmpY X37 hx (hb hby at_472) (flt (by decide)).2.2.2 (by decide) (pc' := 491) rfl ?_
                      refine eIConst X37 hx (1 : Int32) (hb hby at_491) rfl rfl ?_
                      exact eRetN X37 hx (t := .boolean) Bd.returns (by simp) hlk (hb hby at_492) (by decide) (by decide) ⟨rfl, N37⟩
                    · rw [if_neg c40]
                      refine eIcmpN X37 hx (hb hby at_420) (feq c40).1 rfl ?_
                      refine eIConst X37 hx (0 : Int32) (hb hby at_423) rfl rfl ?_
                      exact eRetN X37 hx (t := .boolean) Bd.returns (by simp) hlk (hb hby at_424) (by decide) (by decide) ⟨rfl, N37⟩
                  · rw [if_neg c39]
                    refine eIcmpN X37 hx (hb hby at_399) (feq c39).1 rfl ?_
                    refine eIConst X37 hx (0 : Int32) (hb hby at_402) rfl rfl ?_
                    exact eRetN X37 hx (t := .boolean) Bd.returns (by simp) hlk (hb hby at_403) (by decide) (by decide) ⟨rfl, N37⟩
                · rw [if_neg c38]
                  refine eIfN X37 hx (hb hby at_313) ((if0 _ _).trans (flt c38).1) rfl ?_
                  refine eALoad X37 hx (hb hby at_316) rfl rfl rfl ?_
                  refine eILoad X37 hx (hb hby at_318) rfl rfl ?_
                  refine eALoad X37 hx (hb hby at_320) rfl rfl rfl ?_
                  refine eILoad X37 hx (hb hby at_322) rfl rfl ?_
                  refine eIALoad X37 hx hZ e37 A2 (rd vs23 (rd vs22 ((p6 &&& (2147483647 : Int32)) % (5 : Int32)))) rfl (own_inb (own_p5 hP (own_q p6) c35).1 (by rw [hT]; exact (own_p5 hP (own_q p6) c35).2)) (hb hby at_324) rfl ?_
                  refine eIAStore X37 hx hZ e37 A34 (inbL (n := 4) rfl (by decide)) (hb hby at_325) rfl (fun T41 h41 X41 e41 W41 B41 => ?_)
                  have A1 := A1.other W41 ne_ad1_ad34
                  have A2 := A2.other W41 ne_ad2_ad34
                  have A24 := A24.wr W41
                  have F24__parents := F24__parents.other W41 (Or.inl ne_ad24_ad34)
                  have F24__transitions := F24__transitions.other W41 (Or.inl ne_ad24_ad34)
                  have F24__nodes := F24__nodes.other W41 (Or.inl ne_ad24_ad34)
                  have U25_0 := U25_0.other W41 ne_b25_0_ad34
                  have U25_1 := U25_1.other W41 ne_b25_1_ad34
                  have U31_0 := U31_0.other W41 ne_b31_0_ad34
                  have A34 : Ar Z h41 ad34 .int [(rd vs23 ((p6 &&& (2147483647 : Int32)) % (5 : Int32))), (rd vs23 (rd vs22 ((p6 &&& (2147483647 : Int32)) % (5 : Int32)))), (0 : Int32), (0 : Int32)] := B41
                  have N41 := Fr.snoc X41 N37 ge_ad34
                  have Z41 := Nat.le_trans Z37 (Keep.of_wr W41).1
                  refine eILoad X41 hx (hb hby at_326) rfl rfl ?_
                  refine eIConst X41 hx (1 : Int32) (hb hby at_328) rfl rfl ?_
                  refine eIAdd X41 hx (hb hby at_329) rfl ?_
                  show Ends p e below _ T41 m 330 #[.val (.int p1), .val (.int p2), .val (.int p3), .val (.int p4), .val (.int p5), .val (.int p6), .val (.ref ad1), .val (.ref ad2), .val (.int ((p6 &&& (2147483647 : Int32)) % (5 : Int32))), .val (.ref ad24), .val (.int (0 : Int32)), .val (.int (1 : Int32)), .val (.int (2 : Int32)), .val (.int (3 : Int32)), .val (.int (4 : Int32)), .val (.ref b31_0), .val (.ref ad34), .val (.int (1 : Int32)), .val (.int (rd vs22 ((p6 &&& (2147483647 : Int32)) % (5 : Int32))))] [(.int (2 : Int32))]
                  refine eIStore X41 hx (hb hby at_330) (L' := #[.val (.int p1), .val (.int p2), .val (.int p3), .val (.int p4), .val (.int p5), .val (.int p6), .val (.ref ad1), .val (.ref ad2), .val (.int ((p6 &&& (2147483647 : Int32)) % (5 : Int32))), .val (.ref ad24), .val (.int (0 : Int32)), .val (.int (1 : Int32)), .val (.int (2 : Int32)), .val (.int (3 : Int32)), .val (.int (4 : Int32)), .val (.ref b31_0), .val (.ref ad34), .val (.int (2 : Int32)), .val (.int (rd vs22 ((p6 &&& (2147483647 : Int32)) % (5 : Int32))))]) rfl rfl ?_
                  refine eALoad X41 hx (hb hby at_332) rfl rfl rfl ?_
                  refine eILoad X41 hx (hb hby at_334) rfl rfl ?_
                  refine eIALoad X41 hx hZ e41 A1 (rd vs22 (rd vs22 ((p6 &&& (2147483647 : Int32)) % (5 : Int32)))) rfl (own_inb (own_p5 hP (own_q p6) c35).1 (by rw [hP.1]; exact (own_p5 hP (own_q p6) c35).2)) (hb hby at_336) rfl ?_
                  refine eIStore X41 hx (hb hby at_337) (L' := #[.val (.int p1), .val (.int p2), .val (.int p3), .val (.int p4), .val (.int p5), .val (.int p6), .val (.ref ad1), .val (.ref ad2), .val (.int ((p6 &&& (2147483647 : Int32)) % (5 : Int32))), .val (.ref ad24), .val (.int (0 : Int32)), .val (.int (1 : Int32)), .val (.int (2 : Int32)), .val (.int (3 : Int32)), .val (.int (4 : Int32)), .val (.ref b31_0), .val (.ref ad34), .val (.int (2 : Int32)), .val (.int (rd vs22 (rd vs22 ((p6 &&& (2147483647 : Int32)) % (5 : Int32)))))]) rfl rfl ?_
                  refine eALoad X41 hx (hb hby at_339) rfl rfl rfl ?_
                  refine eILoad X41 hx (hb hby at_341) rfl rfl ?_
                  refine eIALoad X41 hx hZ e41 A1 (rd vs22 (rd vs22 (rd vs22 ((p6 &&& (2147483647 : Int32)) % (5 : Int32))))) rfl (own_inb (own_p5 hP (own_p5 hP (own_q p6) c35) c38).1 (by rw [hP.1]; exact (own_p5 hP (own_p5 hP (own_q p6) c35) c38).2)) (hb hby at_343) rfl ?_
                  show Ends p e below (PVW s 24 192 n0 (if (rd vs22 (rd vs22 (rd vs22 ((p6 &&& (2147483647 : Int32)) % (5 : Int32))))) < (0 : Int32) then (if (Int32.ofNat vs33.length) = (2 : Int32) then (if (rd vs33 (0 : Int32)) = (rd vs23 (rd vs22 ((p6 &&& (2147483647 : Int32)) % (5 : Int32)))) then (if (rd vs33 (1 : Int32)) = (rd vs23 ((p6 &&& (2147483647 : Int32)) % (5 : Int32))) then (1 : Int32) else (0 : Int32)) else (0 : Int32)) else (0 : Int32)) else (if (rd vs22 (rd vs22 (rd vs22 (rd vs22 ((p6 &&& (2147483647 : Int32)) % (5 : Int32)))))) < (0 : Int32) then (if (Int32.ofNat vs33.length) = (3 : Int32) then (if (rd vs33 (0 : Int32)) = (rd vs23 (rd vs22 (rd vs22 ((p6 &&& (2147483647 : Int32)) % (5 : Int32))))) then (if (rd vs33 (1 : Int32)) = (rd vs23 (rd vs22 ((p6 &&& (2147483647 : Int32)) % (5 : Int32)))) then (if (rd vs33 (2 : Int32)) = (rd vs23 ((p6 &&& (2147483647 : Int32)) % (5 : Int32))) then (1 : Int32) else (0 : Int32)) else (0 : Int32)) else (0 : Int32)) else (0 : Int32)) else (if (Int32.ofNat vs33.length) = (4 : Int32) then (if (rd vs33 (0 : Int32)) = (rd vs23 (rd vs22 (rd vs22 (rd vs22 ((p6 &&& (2147483647 : Int32)) % (5 : Int32)))))) then (if (rd vs33 (1 : Int32)) = (rd vs23 (rd vs22 (rd vs22 ((p6 &&& (2147483647 : Int32)) % (5 : Int32))))) then (if (rd vs33 (2 : Int32)) = (rd vs23 (rd vs22 ((p6 &&& (2147483647 : Int32)) % (5 : Int32)))) then (if (rd vs33 (3 : Int32)) = (rd vs23 ((p6 &&& (2147483647 : Int32)) % (5 : Int32))) then (1 : Int32) else (0 : Int32)) else (0 : Int32)) else (0 : Int32)) else (0 : Int32)) else (0 : Int32))))) T41 m 344 #[.val (.int p1), .val (.int p2), .val (.int p3), .val (.int p4), .val (.int p5), .val (.int p6), .val (.ref ad1), .val (.ref ad2), .val (.int ((p6 &&& (2147483647 : Int32)) % (5 : Int32))), .val (.ref ad24), .val (.int (0 : Int32)), .val (.int (1 : Int32)), .val (.int (2 : Int32)), .val (.int (3 : Int32)), .val (.int (4 : Int32)), .val (.ref b31_0), .val (.ref ad34), .val (.int (2 : Int32)), .val (.int (rd vs22 (rd vs22 ((p6 &&& (2147483647 : Int32)) % (5 : Int32)))))] [(.int (rd vs22 (rd vs22 (rd vs22 ((p6 &&& (2147483647 : Int32)) % (5 : Int32))))))]
                  by_cases c42 : (rd vs22 (rd vs22 (rd vs22 ((p6 &&& (2147483647 : Int32)) % (5 : Int32))))) < (0 : Int32)
                  · rw [if_pos c42]
                    refine eIfY X41 hx (hb hby at_344) ((if0 _ _).trans (tlt c42).1) (by decide) (pc' := 394) rfl ?_
                    refine eALoad X41 hx (hb hby at_394) rfl rfl rfl ?_
                    refine eLen X41 hx hZ e41 U31_0 (Int32.ofNat vs33.length) rfl (hb hby at_396) rfl ?_
                    refine eILoad X41 hx (hb hby at_397) rfl rfl ?_
                    show Ends p e below (PVW s 24 192 n0 (if (Int32.ofNat vs33.length) = (2 : Int32) then (if (rd vs33 (0 : Int32)) = (rd vs23 (rd vs22 ((p6 &&& (2147483647 : Int32)) % (5 : Int32)))) then (if (rd vs33 (1 : Int32)) = (rd vs23 ((p6 &&& (2147483647 : Int32)) % (5 : Int32))) then (1 : Int32) else (0 : Int32)) else (0 : Int32)) else (0 : Int32))) T41 m 399 #[.val (.int p1), .val (.int p2), .val (.int p3), .val (.int p4), .val (.int p5), .val (.int p6), .val (.ref ad1), .val (.ref ad2), .val (.int ((p6 &&& (2147483647 : Int32)) % (5 : Int32))), .val (.ref ad24), .val (.int (0 : Int32)), .val (.int (1 : Int32)), .val (.int (2 : Int32)), .val (.int (3 : Int32)), .val (.int (4 : Int32)), .val (.ref b31_0), .val (.ref ad34), .val (.int (2 : Int32)), .val (.int (rd vs22 (rd vs22 ((p6 &&& (2147483647 : Int32)) % (5 : Int32)))))] [(.int (2 : Int32)), (.int (Int32.ofNat vs33.length))]
                    by_cases c43 : (Int32.ofNat vs33.length) = (2 : Int32)
                    · rw [if_pos c43]
                      refine eIcmpY X41 hx (hb hby at_399) (teq c43).1 (by decide) (pc' := 404) rfl ?_
                      refine eILoad X41 hx (hb hby at_404) rfl rfl ?_
                      refine eIfN X41 hx (hb hby at_406) ((if0 _ _).trans (tlt (by decide)).2.2.2) rfl ?_
                      refine eALoad X41 hx (hb hby at_409) rfl rfl rfl ?_
                      refine eIConst X41 hx (0 : Int32) (hb hby at_411) rfl rfl ?_
                      refine eIALoad X41 hx hZ e41 U31_0 (rd vs33 (0 : Int32)) rfl (own_gi c43 (Ar.small U31_0) (by decide) (by decide)) (hb hby at_412) rfl ?_
                      refine eALoad X41 hx (hb hby at_413) rfl rfl rfl ?_
                      refine eILoad X41 hx (hb hby at_415) rfl rfl ?_
                      refine eIConst X41 hx (1 : Int32) (hb hby at_417) rfl rfl ?_
                      refine eISub X41 hx (hb hby at_418) rfl ?_
                      show Ends p e below _ T41 m 419 #[.val (.int p1), .val (.int p2), .val (.int p3), .val (.int p4), .val (.int p5), .val (.int p6), .val (.ref ad1), .val (.ref ad2), .val (.int ((p6 &&& (2147483647 : Int32)) % (5 : Int32))), .val (.ref ad24), .val (.int (0 : Int32)), .val (.int (1 : Int32)), .val (.int (2 : Int32)), .val (.int (3 : Int32)), .val (.int (4 : Int32)), .val (.ref b31_0), .val (.ref ad34), .val (.int (2 : Int32)), .val (.int (rd vs22 (rd vs22 ((p6 &&& (2147483647 : Int32)) % (5 : Int32)))))] [(.int (1 : Int32)), (.ref ad34), (.int (rd vs33 (0 : Int32)))]
                      refine eIALoad X41 hx hZ e41 A34 (rd vs23 (rd vs22 ((p6 &&& (2147483647 : Int32)) % (5 : Int32)))) rfl (inbL (n := 4) rfl (by decide)) (hb hby at_419) rfl ?_
                      show Ends p e below (PVW s 24 192 n0 (if (rd vs33 (0 : Int32)) = (rd vs23 (rd vs22 ((p6 &&& (2147483647 : Int32)) % (5 : Int32)))) then (if (rd vs33 (1 : Int32)) = (rd vs23 ((p6 &&& (2147483647 : Int32)) % (5 : Int32))) then (1 : Int32) else (0 : Int32)) else (0 : Int32))) T41 m 420 #[.val (.int p1), .val (.int p2), .val (.int p3), .val (.int p4), .val (.int p5), .val (.int p6), .val (.ref ad1), .val (.ref ad2), .val (.int ((p6 &&& (2147483647 : Int32)) % (5 : Int32))), .val (.ref ad24), .val (.int (0 : Int32)), .val (.int (1 : Int32)), .val (.int (2 : Int32)), .val (.int (3 : Int32)), .val (.int (4 : Int32)), .val (.ref b31_0), .val (.ref ad34), .val (.int (2 : Int32)), .val (.int (rd vs22 (rd vs22 ((p6 &&& (2147483647 : Int32)) % (5 : Int32)))))] [(.int (rd vs23 (rd vs22 ((p6 &&& (2147483647 : Int32)) % (5 : Int32))))), (.int (rd vs33 (0 : Int32)))]
                      by_cases c44 : (rd vs33 (0 : Int32)) = (rd vs23 (rd vs22 ((p6 &&& (2147483647 : Int32)) % (5 : Int32))))
                      · rw [if_pos c44]
                        refine eIcmpY X41 hx (hb hby at_420) (teq c44).1 (by decide) (pc' := 425) rfl ?_
                        refine eILoad X41 hx (hb hby at_425) rfl rfl ?_
                        refine eIConst X41 hx (1 : Int32) (hb hby at_427) rfl rfl ?_
                        refine eIcmpN X41 hx (hb hby at_428) (tlt (by decide)).2.2.2 rfl ?_
                        refine eALoad X41 hx (hb hby at_431) rfl rfl rfl ?_
                        refine eIConst X41 hx (1 : Int32) (hb hby at_433) rfl rfl ?_
                        refine eIALoad X41 hx hZ e41 U31_0 (rd vs33 (1 : Int32)) rfl (own_gi c43 (Ar.small U31_0) (by decide) (by decide)) (hb hby at_434) rfl ?_
                        refine eALoad X41 hx (hb hby at_435) rfl rfl rfl ?_
                        refine eILoad X41 hx (hb hby at_437) rfl rfl ?_
                        refine eIConst X41 hx (2 : Int32) (hb hby at_439) rfl rfl ?_
                        refine eISub X41 hx (hb hby at_440) rfl ?_
                        show Ends p e below _ T41 m 441 #[.val (.int p1), .val (.int p2), .val (.int p3), .val (.int p4), .val (.int p5), .val (.int p6), .val (.ref ad1), .val (.ref ad2), .val (.int ((p6 &&& (2147483647 : Int32)) % (5 : Int32))), .val (.ref ad24), .val (.int (0 : Int32)), .val (.int (1 : Int32)), .val (.int (2 : Int32)), .val (.int (3 : Int32)), .val (.int (4 : Int32)), .val (.ref b31_0), .val (.ref ad34), .val (.int (2 : Int32)), .val (.int (rd vs22 (rd vs22 ((p6 &&& (2147483647 : Int32)) % (5 : Int32)))))] [(.int (0 : Int32)), (.ref ad34), (.int (rd vs33 (1 : Int32)))]
                        refine eIALoad X41 hx hZ e41 A34 (rd vs23 ((p6 &&& (2147483647 : Int32)) % (5 : Int32))) rfl (inbL (n := 4) rfl (by decide)) (hb hby at_441) rfl ?_
                        show Ends p e below (PVW s 24 192 n0 (if (rd vs33 (1 : Int32)) = (rd vs23 ((p6 &&& (2147483647 : Int32)) % (5 : Int32))) then (1 : Int32) else (0 : Int32))) T41 m 442 #[.val (.int p1), .val (.int p2), .val (.int p3), .val (.int p4), .val (.int p5), .val (.int p6), .val (.ref ad1), .val (.ref ad2), .val (.int ((p6 &&& (2147483647 : Int32)) % (5 : Int32))), .val (.ref ad24), .val (.int (0 : Int32)), .val (.int (1 : Int32)), .val (.int (2 : Int32)), .val (.int (3 : Int32)), .val (.int (4 : Int32)), .val (.ref b31_0), .val (.ref ad34), .val (.int (2 : Int32)), .val (.int (rd vs22 (rd vs22 ((p6 &&& (2147483647 : Int32)) % (5 : Int32)))))] [(.int (rd vs23 ((p6 &&& (2147483647 : Int32)) % (5 : Int32)))), (.int (rd vs33 (1 : Int32)))]
                        by_cases c45 : (rd vs33 (1 : Int32)) = (rd vs23 ((p6 &&& (2147483647 : Int32)) % (5 : Int32)))
                        · rw [if_pos c45]
                          refine eIcmpY X41 hx (hb hby at_442) (teq c45).1 (by decide) (pc' := 447) rfl ?_
                          refine eILoad X41 hx (hb hby at_447) rfl rfl ?_
                          refine eIConst X41 hx (2 : Int32) (hb hby at_449) rfl rfl ?_
                          refine eIcmpY X41 hx (hb hby at_450) (flt (by decide)).2.2.2 (by decide) (pc' := 469) rfl ?_
                          refine eILoad X41 hx (hb hby at_469) rfl rfl ?_
                          refine eIConst X41 hx (3 : Int32) (hb hby at_471) rfl rfl ?_
                          refine eIcmpY X41 hx (hb hby at_472) (flt (by decide)).2.2.2 (by decide) (pc' := 491) rfl ?_
                          refine eIConst X41 hx (1 : Int32) (hb hby at_491) rfl rfl ?_
                          exact eRetN X41 hx (t := .boolean) Bd.returns (by simp) hlk (hb hby at_492) (by decide) (by decide) ⟨rfl, N41⟩
                        · rw [if_neg c45]
                          refine eIcmpN X41 hx (hb hby at_442) (feq c45).1 rfl ?_
                          refine eIConst X41 hx (0 : Int32) (hb hby at_445) rfl rfl ?_
                          exact eRetN X41 hx (t := .boolean) Bd.returns (by simp) hlk (hb hby at_446) (by decide) (by decide) ⟨rfl, N41⟩
                      · rw [if_neg c44]
                        refine eIcmpN X41 hx (hb hby at_420) (feq c44).1 rfl ?_
                        refine eIConst X41 hx (0 : Int32) (hb hby at_423) rfl rfl ?_
                        exact eRetN X41 hx (t := .boolean) Bd.returns (by simp) hlk (hb hby at_424) (by decide) (by decide) ⟨rfl, N41⟩
                    · rw [if_neg c43]
                      refine eIcmpN X41 hx (hb hby at_399) (feq c43).1 rfl ?_
                      refine eIConst X41 hx (0 : Int32) (hb hby at_402) rfl rfl ?_
                      exact eRetN X41 hx (t := .boolean) Bd.returns (by simp) hlk (hb hby at_403) (by decide) (by decide) ⟨rfl, N41⟩
                  · rw [if_neg c42]
                    refine eIfN X41 hx (hb hby at_344) ((if0 _ _).trans (flt c42).1) rfl ?_
                    refine eALoad X41 hx (hb hby at_347) rfl rfl rfl ?_
                    refine eILoad X41 hx (hb hby at_349) rfl rfl ?_
                    refine eALoad X41 hx (hb hby at_351) rfl rfl rfl ?_
                    refine eILoad X41 hx (hb hby at_353) rfl rfl ?_
                    refine eIALoad X41 hx hZ e41 A2 (rd vs23 (rd vs22 (rd vs22 ((p6 &&& (2147483647 : Int32)) % (5 : Int32))))) rfl (own_inb (own_p5 hP (own_p5 hP (own_q p6) c35) c38).1 (by rw [hT]; exact (own_p5 hP (own_p5 hP (own_q p6) c35) c38).2)) (hb hby at_355) rfl ?_
                    refine eIAStore X41 hx hZ e41 A34 (inbL (n := 4) rfl (by decide)) (hb hby at_356) rfl (fun T46 h46 X46 e46 W46 B46 => ?_)
                    have A1 := A1.other W46 ne_ad1_ad34
                    have A2 := A2.other W46 ne_ad2_ad34
                    have A24 := A24.wr W46
                    have F24__parents := F24__parents.other W46 (Or.inl ne_ad24_ad34)
                    have F24__transitions := F24__transitions.other W46 (Or.inl ne_ad24_ad34)
                    have F24__nodes := F24__nodes.other W46 (Or.inl ne_ad24_ad34)
                    have U25_0 := U25_0.other W46 ne_b25_0_ad34
                    have U25_1 := U25_1.other W46 ne_b25_1_ad34
                    have U31_0 := U31_0.other W46 ne_b31_0_ad34
                    have A34 : Ar Z h46 ad34 .int [(rd vs23 ((p6 &&& (2147483647 : Int32)) % (5 : Int32))), (rd vs23 (rd vs22 ((p6 &&& (2147483647 : Int32)) % (5 : Int32)))), (rd vs23 (rd vs22 (rd vs22 ((p6 &&& (2147483647 : Int32)) % (5 : Int32))))), (0 : Int32)] := B46
                    have N46 := Fr.snoc X46 N41 ge_ad34
                    have Z46 := Nat.le_trans Z41 (Keep.of_wr W46).1
                    refine eILoad X46 hx (hb hby at_357) rfl rfl ?_
                    refine eIConst X46 hx (1 : Int32) (hb hby at_359) rfl rfl ?_
                    refine eIAdd X46 hx (hb hby at_360) rfl ?_
                    show Ends p e below _ T46 m 361 #[.val (.int p1), .val (.int p2), .val (.int p3), .val (.int p4), .val (.int p5), .val (.int p6), .val (.ref ad1), .val (.ref ad2), .val (.int ((p6 &&& (2147483647 : Int32)) % (5 : Int32))), .val (.ref ad24), .val (.int (0 : Int32)), .val (.int (1 : Int32)), .val (.int (2 : Int32)), .val (.int (3 : Int32)), .val (.int (4 : Int32)), .val (.ref b31_0), .val (.ref ad34), .val (.int (2 : Int32)), .val (.int (rd vs22 (rd vs22 ((p6 &&& (2147483647 : Int32)) % (5 : Int32)))))] [(.int (3 : Int32))]
                    refine eIStore X46 hx (hb hby at_361) (L' := #[.val (.int p1), .val (.int p2), .val (.int p3), .val (.int p4), .val (.int p5), .val (.int p6), .val (.ref ad1), .val (.ref ad2), .val (.int ((p6 &&& (2147483647 : Int32)) % (5 : Int32))), .val (.ref ad24), .val (.int (0 : Int32)), .val (.int (1 : Int32)), .val (.int (2 : Int32)), .val (.int (3 : Int32)), .val (.int (4 : Int32)), .val (.ref b31_0), .val (.ref ad34), .val (.int (3 : Int32)), .val (.int (rd vs22 (rd vs22 ((p6 &&& (2147483647 : Int32)) % (5 : Int32)))))]) rfl rfl ?_
                    refine eALoad X46 hx (hb hby at_363) rfl rfl rfl ?_
                    refine eILoad X46 hx (hb hby at_365) rfl rfl ?_
                    refine eIALoad X46 hx hZ e46 A1 (rd vs22 (rd vs22 (rd vs22 ((p6 &&& (2147483647 : Int32)) % (5 : Int32))))) rfl (own_inb (own_p5 hP (own_p5 hP (own_q p6) c35) c38).1 (by rw [hP.1]; exact (own_p5 hP (own_p5 hP (own_q p6) c35) c38).2)) (hb hby at_367) rfl ?_
                    refine eIStore X46 hx (hb hby at_368) (L' := #[.val (.int p1), .val (.int p2), .val (.int p3), .val (.int p4), .val (.int p5), .val (.int p6), .val (.ref ad1), .val (.ref ad2), .val (.int ((p6 &&& (2147483647 : Int32)) % (5 : Int32))), .val (.ref ad24), .val (.int (0 : Int32)), .val (.int (1 : Int32)), .val (.int (2 : Int32)), .val (.int (3 : Int32)), .val (.int (4 : Int32)), .val (.ref b31_0), .val (.ref ad34), .val (.int (3 : Int32)), .val (.int (rd vs22 (rd vs22 (rd vs22 ((p6 &&& (2147483647 : Int32)) % (5 : Int32))))))]) rfl rfl ?_
                    refine eALoad X46 hx (hb hby at_370) rfl rfl rfl ?_
                    refine eILoad X46 hx (hb hby at_372) rfl rfl ?_
                    refine eIALoad X46 hx hZ e46 A1 (rd vs22 (rd vs22 (rd vs22 (rd vs22 ((p6 &&& (2147483647 : Int32)) % (5 : Int32)))))) rfl (own_inb (own_p5 hP (own_p5 hP (own_p5 hP (own_q p6) c35) c38) c42).1 (by rw [hP.1]; exact (own_p5 hP (own_p5 hP (own_p5 hP (own_q p6) c35) c38) c42).2)) (hb hby at_374) rfl ?_
                    show Ends p e below (PVW s 24 192 n0 (if (rd vs22 (rd vs22 (rd vs22 (rd vs22 ((p6 &&& (2147483647 : Int32)) % (5 : Int32)))))) < (0 : Int32) then (if (Int32.ofNat vs33.length) = (3 : Int32) then (if (rd vs33 (0 : Int32)) = (rd vs23 (rd vs22 (rd vs22 ((p6 &&& (2147483647 : Int32)) % (5 : Int32))))) then (if (rd vs33 (1 : Int32)) = (rd vs23 (rd vs22 ((p6 &&& (2147483647 : Int32)) % (5 : Int32)))) then (if (rd vs33 (2 : Int32)) = (rd vs23 ((p6 &&& (2147483647 : Int32)) % (5 : Int32))) then (1 : Int32) else (0 : Int32)) else (0 : Int32)) else (0 : Int32)) else (0 : Int32)) else (if (Int32.ofNat vs33.length) = (4 : Int32) then (if (rd vs33 (0 : Int32)) = (rd vs23 (rd vs22 (rd vs22 (rd vs22 ((p6 &&& (2147483647 : Int32)) % (5 : Int32)))))) then (if (rd vs33 (1 : Int32)) = (rd vs23 (rd vs22 (rd vs22 ((p6 &&& (2147483647 : Int32)) % (5 : Int32))))) then (if (rd vs33 (2 : Int32)) = (rd vs23 (rd vs22 ((p6 &&& (2147483647 : Int32)) % (5 : Int32)))) then (if (rd vs33 (3 : Int32)) = (rd vs23 ((p6 &&& (2147483647 : Int32)) % (5 : Int32))) then (1 : Int32) else (0 : Int32)) else (0 : Int32)) else (0 : Int32)) else (0 : Int32)) else (0 : Int32)))) T46 m 375 #[.val (.int p1), .val (.int p2), .val (.int p3), .val (.int p4), .val (.int p5), .val (.int p6), .val (.ref ad1), .val (.ref ad2), .val (.int ((p6 &&& (2147483647 : Int32)) % (5 : Int32))), .val (.ref ad24), .val (.int (0 : Int32)), .val (.int (1 : Int32)), .val (.int (2 : Int32)), .val (.int (3 : Int32)), .val (.int (4 : Int32)), .val (.ref b31_0), .val (.ref ad34), .val (.int (3 : Int32)), .val (.int (rd vs22 (rd vs22 (rd vs22 ((p6 &&& (2147483647 : Int32)) % (5 : Int32))))))] [(.int (rd vs22 (rd vs22 (rd vs22 (rd vs22 ((p6 &&& (2147483647 : Int32)) % (5 : Int32)))))))]
                    by_cases c47 : (rd vs22 (rd vs22 (rd vs22 (rd vs22 ((p6 &&& (2147483647 : Int32)) % (5 : Int32)))))) < (0 : Int32)
                    · rw [if_pos c47]
                      refine eIfY X46 hx (hb hby at_375) ((if0 _ _).trans (tlt c47).1) (by decide) (pc' := 394) rfl ?_
                      refine eALoad X46 hx (hb hby at_394) rfl rfl rfl ?_
                      refine eLen X46 hx hZ e46 U31_0 (Int32.ofNat vs33.length) rfl (hb hby at_396) rfl ?_
                      refine eILoad X46 hx (hb hby at_397) rfl rfl ?_
                      show Ends p e below (PVW s 24 192 n0 (if (Int32.ofNat vs33.length) = (3 : Int32) then (if (rd vs33 (0 : Int32)) = (rd vs23 (rd vs22 (rd vs22 ((p6 &&& (2147483647 : Int32)) % (5 : Int32))))) then (if (rd vs33 (1 : Int32)) = (rd vs23 (rd vs22 ((p6 &&& (2147483647 : Int32)) % (5 : Int32)))) then (if (rd vs33 (2 : Int32)) = (rd vs23 ((p6 &&& (2147483647 : Int32)) % (5 : Int32))) then (1 : Int32) else (0 : Int32)) else (0 : Int32)) else (0 : Int32)) else (0 : Int32))) T46 m 399 #[.val (.int p1), .val (.int p2), .val (.int p3), .val (.int p4), .val (.int p5), .val (.int p6), .val (.ref ad1), .val (.ref ad2), .val (.int ((p6 &&& (2147483647 : Int32)) % (5 : Int32))), .val (.ref ad24), .val (.int (0 : Int32)), .val (.int (1 : Int32)), .val (.int (2 : Int32)), .val (.int (3 : Int32)), .val (.int (4 : Int32)), .val (.ref b31_0), .val (.ref ad34), .val (.int (3 : Int32)), .val (.int (rd vs22 (rd vs22 (rd vs22 ((p6 &&& (2147483647 : Int32)) % (5 : Int32))))))] [(.int (3 : Int32)), (.int (Int32.ofNat vs33.length))]
                      by_cases c48 : (Int32.ofNat vs33.length) = (3 : Int32)
                      · rw [if_pos c48]
                        refine eIcmpY X46 hx (hb hby at_399) (teq c48).1 (by decide) (pc' := 404) rfl ?_
                        refine eILoad X46 hx (hb hby at_404) rfl rfl ?_
                        refine eIfN X46 hx (hb hby at_406) ((if0 _ _).trans (tlt (by decide)).2.2.2) rfl ?_
                        refine eALoad X46 hx (hb hby at_409) rfl rfl rfl ?_
                        refine eIConst X46 hx (0 : Int32) (hb hby at_411) rfl rfl ?_
                        refine eIALoad X46 hx hZ e46 U31_0 (rd vs33 (0 : Int32)) rfl (own_gi c48 (Ar.small U31_0) (by decide) (by decide)) (hb hby at_412) rfl ?_
                        refine eALoad X46 hx (hb hby at_413) rfl rfl rfl ?_
                        refine eILoad X46 hx (hb hby at_415) rfl rfl ?_
                        refine eIConst X46 hx (1 : Int32) (hb hby at_417) rfl rfl ?_
                        refine eISub X46 hx (hb hby at_418) rfl ?_
                        show Ends p e below _ T46 m 419 #[.val (.int p1), .val (.int p2), .val (.int p3), .val (.int p4), .val (.int p5), .val (.int p6), .val (.ref ad1), .val (.ref ad2), .val (.int ((p6 &&& (2147483647 : Int32)) % (5 : Int32))), .val (.ref ad24), .val (.int (0 : Int32)), .val (.int (1 : Int32)), .val (.int (2 : Int32)), .val (.int (3 : Int32)), .val (.int (4 : Int32)), .val (.ref b31_0), .val (.ref ad34), .val (.int (3 : Int32)), .val (.int (rd vs22 (rd vs22 (rd vs22 ((p6 &&& (2147483647 : Int32)) % (5 : Int32))))))] [(.int (2 : Int32)), (.ref ad34), (.int (rd vs33 (0 : Int32)))]
                        refine eIALoad X46 hx hZ e46 A34 (rd vs23 (rd vs22 (rd vs22 ((p6 &&& (2147483647 : Int32)) % (5 : Int32))))) rfl (inbL (n := 4) rfl (by decide)) (hb hby at_419) rfl ?_
                        show Ends p e below (PVW s 24 192 n0 (if (rd vs33 (0 : Int32)) = (rd vs23 (rd vs22 (rd vs22 ((p6 &&& (2147483647 : Int32)) % (5 : Int32))))) then (if (rd vs33 (1 : Int32)) = (rd vs23 (rd vs22 ((p6 &&& (2147483647 : Int32)) % (5 : Int32)))) then (if (rd vs33 (2 : Int32)) = (rd vs23 ((p6 &&& (2147483647 : Int32)) % (5 : Int32))) then (1 : Int32) else (0 : Int32)) else (0 : Int32)) else (0 : Int32))) T46 m 420 #[.val (.int p1), .val (.int p2), .val (.int p3), .val (.int p4), .val (.int p5), .val (.int p6), .val (.ref ad1), .val (.ref ad2), .val (.int ((p6 &&& (2147483647 : Int32)) % (5 : Int32))), .val (.ref ad24), .val (.int (0 : Int32)), .val (.int (1 : Int32)), .val (.int (2 : Int32)), .val (.int (3 : Int32)), .val (.int (4 : Int32)), .val (.ref b31_0), .val (.ref ad34), .val (.int (3 : Int32)), .val (.int (rd vs22 (rd vs22 (rd vs22 ((p6 &&& (2147483647 : Int32)) % (5 : Int32))))))] [(.int (rd vs23 (rd vs22 (rd vs22 ((p6 &&& (2147483647 : Int32)) % (5 : Int32)))))), (.int (rd vs33 (0 : Int32)))]
                        by_cases c49 : (rd vs33 (0 : Int32)) = (rd vs23 (rd vs22 (rd vs22 ((p6 &&& (2147483647 : Int32)) % (5 : Int32)))))
                        · rw [if_pos c49]
                          refine eIcmpY X46 hx (hb hby at_420) (teq c49).1 (by decide) (pc' := 425) rfl ?_
                          refine eILoad X46 hx (hb hby at_425) rfl rfl ?_
                          refine eIConst X46 hx (1 : Int32) (hb hby at_427) rfl rfl ?_
                          refine eIcmpN X46 hx (hb hby at_428) (tlt (by decide)).2.2.2 rfl ?_
                          refine eALoad X46 hx (hb hby at_431) rfl rfl rfl ?_
                          refine eIConst X46 hx (1 : Int32) (hb hby at_433) rfl rfl ?_
                          refine eIALoad X46 hx hZ e46 U31_0 (rd vs33 (1 : Int32)) rfl (own_gi c48 (Ar.small U31_0) (by decide) (by decide)) (hb hby at_434) rfl ?_
                          refine eALoad X46 hx (hb hby at_435) rfl rfl rfl ?_
                          refine eILoad X46 hx (hb hby at_437) rfl rfl ?_
                          refine eIConst X46 hx (2 : Int32) (hb hby at_439) rfl rfl ?_
                          refine eISub X46 hx (hb hby at_440) rfl ?_
                          show Ends p e below _ T46 m 441 #[.val (.int p1), .val (.int p2), .val (.int p3), .val (.int p4), .val (.int p5), .val (.int p6), .val (.ref ad1), .val (.ref ad2), .val (.int ((p6 &&& (2147483647 : Int32)) % (5 : Int32))), .val (.ref ad24), .val (.int (0 : Int32)), .val (.int (1 : Int32)), .val (.int (2 : Int32)), .val (.int (3 : Int32)), .val (.int (4 : Int32)), .val (.ref b31_0), .val (.ref ad34), .val (.int (3 : Int32)), .val (.int (rd vs22 (rd vs22 (rd vs22 ((p6 &&& (2147483647 : Int32)) % (5 : Int32))))))] [(.int (1 : Int32)), (.ref ad34), (.int (rd vs33 (1 : Int32)))]
                          refine eIALoad X46 hx hZ e46 A34 (rd vs23 (rd vs22 ((p6 &&& (2147483647 : Int32)) % (5 : Int32)))) rfl (inbL (n := 4) rfl (by decide)) (hb hby at_441) rfl ?_
                          show Ends p e below (PVW s 24 192 n0 (if (rd vs33 (1 : Int32)) = (rd vs23 (rd vs22 ((p6 &&& (2147483647 : Int32)) % (5 : Int32)))) then (if (rd vs33 (2 : Int32)) = (rd vs23 ((p6 &&& (2147483647 : Int32)) % (5 : Int32))) then (1 : Int32) else (0 : Int32)) else (0 : Int32))) T46 m 442 #[.val (.int p1), .val (.int p2), .val (.int p3), .val (.int p4), .val (.int p5), .val (.int p6), .val (.ref ad1), .val (.ref ad2), .val (.int ((p6 &&& (2147483647 : Int32)) % (5 : Int32))), .val (.ref ad24), .val (.int (0 : Int32)), .val (.int (1 : Int32)), .val (.int (2 : Int32)), .val (.int (3 : Int32)), .val (.int (4 : Int32)), .val (.ref b31_0), .val (.ref ad34), .val (.int (3 : Int32)), .val (.int (rd vs22 (rd vs22 (rd vs22 ((p6 &&& (2147483647 : Int32)) % (5 : Int32))))))] [(.int (rd vs23 (rd vs22 ((p6 &&& (2147483647 : Int32)) % (5 : Int32))))), (.int (rd vs33 (1 : Int32)))]
                          by_cases c50 : (rd vs33 (1 : Int32)) = (rd vs23 (rd vs22 ((p6 &&& (2147483647 : Int32)) % (5 : Int32))))
                          · rw [if_pos c50]
                            refine eIcmpY X46 hx (hb hby at_442) (teq c50).1 (by decide) (pc' := 447) rfl ?_
                            refine eILoad X46 hx (hb hby at_447) rfl rfl ?_
                            refine eIConst X46 hx (2 : Int32) (hb hby at_449) rfl rfl ?_
                            refine eIcmpN X46 hx (hb hby at_450) (tlt (by decide)).2.2.2 rfl ?_
                            refine eALoad X46 hx (hb hby at_453) rfl rfl rfl ?_
                            refine eIConst X46 hx (2 : Int32) (hb hby at_455) rfl rfl ?_
                            refine eIALoad X46 hx hZ e46 U31_0 (rd vs33 (2 : Int32)) rfl (own_gi c48 (Ar.small U31_0) (by decide) (by decide)) (hb hby at_456) rfl ?_
                            refine eALoad X46 hx (hb hby at_457) rfl rfl rfl ?_
                            refine eILoad X46 hx (hb hby at_459) rfl rfl ?_
                            refine eIConst X46 hx (3 : Int32) (hb hby at_461) rfl rfl ?_
                            refine eISub X46 hx (hb hby at_462) rfl ?_
                            show Ends p e below _ T46 m 463 #[.val (.int p1), .val (.int p2), .val (.int p3), .val (.int p4), .val (.int p5), .val (.int p6), .val (.ref ad1), .val (.ref ad2), .val (.int ((p6 &&& (2147483647 : Int32)) % (5 : Int32))), .val (.ref ad24), .val (.int (0 : Int32)), .val (.int (1 : Int32)), .val (.int (2 : Int32)), .val (.int (3 : Int32)), .val (.int (4 : Int32)), .val (.ref b31_0), .val (.ref ad34), .val (.int (3 : Int32)), .val (.int (rd vs22 (rd vs22 (rd vs22 ((p6 &&& (2147483647 : Int32)) % (5 : Int32))))))] [(.int (0 : Int32)), (.ref ad34), (.int (rd vs33 (2 : Int32)))]
                            refine eIALoad X46 hx hZ e46 A34 (rd vs23 ((p6 &&& (2147483647 : Int32)) % (5 : Int32))) rfl (inbL (n := 4) rfl (by decide)) (hb hby at_463) rfl ?_
                            show Ends p e below (PVW s 24 192 n0 (if (rd vs33 (2 : Int32)) = (rd vs23 ((p6 &&& (2147483647 : Int32)) % (5 : Int32))) then (1 : Int32) else (0 : Int32))) T46 m 464 #[.val (.int p1), .val (.int p2), .val (.int p3), .val (.int p4), .val (.int p5), .val (.int p6), .val (.ref ad1), .val (.ref ad2), .val (.int ((p6 &&& (2147483647 : Int32)) % (5 : Int32))), .val (.ref ad24), .val (.int (0 : Int32)), .val (.int (1 : Int32)), .val (.int (2 : Int32)), .val (.int (3 : Int32)), .val (.int (4 : Int32)), .val (.ref b31_0), .val (.ref ad34), .val (.int (3 : Int32)), .val (.int (rd vs22 (rd vs22 (rd vs22 ((p6 &&& (2147483647 : Int32)) % (5 : Int32))))))] [(.int (rd vs23 ((p6 &&& (2147483647 : Int32)) % (5 : Int32)))), (.int (rd vs33 (2 : Int32)))]
                            by_cases c51 : (rd vs33 (2 : Int32)) = (rd vs23 ((p6 &&& (2147483647 : Int32)) % (5 : Int32)))
                            · rw [if_pos c51]
                              refine eIcmpY X46 hx (hb hby at_464) (teq c51).1 (by decide) (pc' := 469) rfl ?_
                              refine eILoad X46 hx (hb hby at_469) rfl rfl ?_
                              refine eIConst X46 hx (3 : Int32) (hb hby at_471) rfl rfl ?_
                              refine eIcmpY X46 hx (hb hby at_472) (flt (by decide)).2.2.2 (by decide) (pc' := 491) rfl ?_
                              refine eIConst X46 hx (1 : Int32) (hb hby at_491) rfl rfl ?_
                              exact eRetN X46 hx (t := .boolean) Bd.returns (by simp) hlk (hb hby at_492) (by decide) (by decide) ⟨rfl, N46⟩
                            · rw [if_neg c51]
                              refine eIcmpN X46 hx (hb hby at_464) (feq c51).1 rfl ?_
                              refine eIConst X46 hx (0 : Int32) (hb hby at_467) rfl rfl ?_
                              exact eRetN X46 hx (t := .boolean) Bd.returns (by simp) hlk (hb hby at_468) (by decide) (by decide) ⟨rfl, N46⟩
                          · rw [if_neg c50]
                            refine eIcmpN X46 hx (hb hby at_442) (feq c50).1 rfl ?_
                            refine eIConst X46 hx (0 : Int32) (hb hby at_445) rfl rfl ?_
                            exact eRetN X46 hx (t := .boolean) Bd.returns (by simp) hlk (hb hby at_446) (by decide) (by decide) ⟨rfl, N46⟩
                        · rw [if_neg c49]
                          refine eIcmpN X46 hx (hb hby at_420) (feq c49).1 rfl ?_
                          refine eIConst X46 hx (0 : Int32) (hb hby at_423) rfl rfl ?_
                          exact eRetN X46 hx (t := .boolean) Bd.returns (by simp) hlk (hb hby at_424) (by decide) (by decide) ⟨rfl, N46⟩
                      · rw [if_neg c48]
                        refine eIcmpN X46 hx (hb hby at_399) (feq c48).1 rfl ?_
                        refine eIConst X46 hx (0 : Int32) (hb hby at_402) rfl rfl ?_
                        exact eRetN X46 hx (t := .boolean) Bd.returns (by simp) hlk (hb hby at_403) (by decide) (by decide) ⟨rfl, N46⟩
                    · rw [if_neg c47]
                      refine eIfN X46 hx (hb hby at_375) ((if0 _ _).trans (flt c47).1) rfl ?_
                      refine eALoad X46 hx (hb hby at_378) rfl rfl rfl ?_
                      refine eILoad X46 hx (hb hby at_380) rfl rfl ?_
                      refine eALoad X46 hx (hb hby at_382) rfl rfl rfl ?_
                      refine eILoad X46 hx (hb hby at_384) rfl rfl ?_
                      refine eIALoad X46 hx hZ e46 A2 (rd vs23 (rd vs22 (rd vs22 (rd vs22 ((p6 &&& (2147483647 : Int32)) % (5 : Int32)))))) rfl (own_inb (own_p5 hP (own_p5 hP (own_p5 hP (own_q p6) c35) c38) c42).1 (by rw [hT]; exact (own_p5 hP (own_p5 hP (own_p5 hP (own_q p6) c35) c38) c42).2)) (hb hby at_386) rfl ?_
                      refine eIAStore X46 hx hZ e46 A34 (inbL (n := 4) rfl (by decide)) (hb hby at_387) rfl (fun T52 h52 X52 e52 W52 B52 => ?_)
                      have A1 := A1.other W52 ne_ad1_ad34
                      have A2 := A2.other W52 ne_ad2_ad34
                      have A24 := A24.wr W52
                      have F24__parents := F24__parents.other W52 (Or.inl ne_ad24_ad34)
                      have F24__transitions := F24__transitions.other W52 (Or.inl ne_ad24_ad34)
                      have F24__nodes := F24__nodes.other W52 (Or.inl ne_ad24_ad34)
                      have U25_0 := U25_0.other W52 ne_b25_0_ad34
                      have U25_1 := U25_1.other W52 ne_b25_1_ad34
                      have U31_0 := U31_0.other W52 ne_b31_0_ad34
                      have A34 : Ar Z h52 ad34 .int [(rd vs23 ((p6 &&& (2147483647 : Int32)) % (5 : Int32))), (rd vs23 (rd vs22 ((p6 &&& (2147483647 : Int32)) % (5 : Int32)))), (rd vs23 (rd vs22 (rd vs22 ((p6 &&& (2147483647 : Int32)) % (5 : Int32))))), (rd vs23 (rd vs22 (rd vs22 (rd vs22 ((p6 &&& (2147483647 : Int32)) % (5 : Int32))))))] := B52
                      have N52 := Fr.snoc X52 N46 ge_ad34
                      have Z52 := Nat.le_trans Z46 (Keep.of_wr W52).1
                      refine eILoad X52 hx (hb hby at_388) rfl rfl ?_
                      refine eIConst X52 hx (1 : Int32) (hb hby at_390) rfl rfl ?_
                      refine eIAdd X52 hx (hb hby at_391) rfl ?_
                      show Ends p e below _ T52 m 392 #[.val (.int p1), .val (.int p2), .val (.int p3), .val (.int p4), .val (.int p5), .val (.int p6), .val (.ref ad1), .val (.ref ad2), .val (.int ((p6 &&& (2147483647 : Int32)) % (5 : Int32))), .val (.ref ad24), .val (.int (0 : Int32)), .val (.int (1 : Int32)), .val (.int (2 : Int32)), .val (.int (3 : Int32)), .val (.int (4 : Int32)), .val (.ref b31_0), .val (.ref ad34), .val (.int (3 : Int32)), .val (.int (rd vs22 (rd vs22 (rd vs22 ((p6 &&& (2147483647 : Int32)) % (5 : Int32))))))] [(.int (4 : Int32))]
                      refine eIStore X52 hx (hb hby at_392) (L' := #[.val (.int p1), .val (.int p2), .val (.int p3), .val (.int p4), .val (.int p5), .val (.int p6), .val (.ref ad1), .val (.ref ad2), .val (.int ((p6 &&& (2147483647 : Int32)) % (5 : Int32))), .val (.ref ad24), .val (.int (0 : Int32)), .val (.int (1 : Int32)), .val (.int (2 : Int32)), .val (.int (3 : Int32)), .val (.int (4 : Int32)), .val (.ref b31_0), .val (.ref ad34), .val (.int (4 : Int32)), .val (.int (rd vs22 (rd vs22 (rd vs22 ((p6 &&& (2147483647 : Int32)) % (5 : Int32))))))]) rfl rfl ?_
                      refine eALoad X52 hx (hb hby at_394) rfl rfl rfl ?_
                      refine eLen X52 hx hZ e52 U31_0 (Int32.ofNat vs33.length) rfl (hb hby at_396) rfl ?_
                      refine eILoad X52 hx (hb hby at_397) rfl rfl ?_
                      show Ends p e below (PVW s 24 192 n0 (if (Int32.ofNat vs33.length) = (4 : Int32) then (if (rd vs33 (0 : Int32)) = (rd vs23 (rd vs22 (rd vs22 (rd vs22 ((p6 &&& (2147483647 : Int32)) % (5 : Int32)))))) then (if (rd vs33 (1 : Int32)) = (rd vs23 (rd vs22 (rd vs22 ((p6 &&& (2147483647 : Int32)) % (5 : Int32))))) then (if (rd vs33 (2 : Int32)) = (rd vs23 (rd vs22 ((p6 &&& (2147483647 : Int32)) % (5 : Int32)))) then (if (rd vs33 (3 : Int32)) = (rd vs23 ((p6 &&& (2147483647 : Int32)) % (5 : Int32))) then (1 : Int32) else (0 : Int32)) else (0 : Int32)) else (0 : Int32)) else (0 : Int32)) else (0 : Int32))) T52 m 399 #[.val (.int p1), .val (.int p2), .val (.int p3), .val (.int p4), .val (.int p5), .val (.int p6), .val (.ref ad1), .val (.ref ad2), .val (.int ((p6 &&& (2147483647 : Int32)) % (5 : Int32))), .val (.ref ad24), .val (.int (0 : Int32)), .val (.int (1 : Int32)), .val (.int (2 : Int32)), .val (.int (3 : Int32)), .val (.int (4 : Int32)), .val (.ref b31_0), .val (.ref ad34), .val (.int (4 : Int32)), .val (.int (rd vs22 (rd vs22 (rd vs22 ((p6 &&& (2147483647 : Int32)) % (5 : Int32))))))] [(.int (4 : Int32)), (.int (Int32.ofNat vs33.length))]
                      by_cases c53 : (Int32.ofNat vs33.length) = (4 : Int32)
                      · rw [if_pos c53]
                        refine eIcmpY X52 hx (hb hby at_399) (teq c53).1 (by decide) (pc' := 404) rfl ?_
                        refine eILoad X52 hx (hb hby at_404) rfl rfl ?_
                        refine eIfN X52 hx (hb hby at_406) ((if0 _ _).trans (tlt (by decide)).2.2.2) rfl ?_
                        refine eALoad X52 hx (hb hby at_409) rfl rfl rfl ?_
                        refine eIConst X52 hx (0 : Int32) (hb hby at_411) rfl rfl ?_
                        refine eIALoad X52 hx hZ e52 U31_0 (rd vs33 (0 : Int32)) rfl (own_gi c53 (Ar.small U31_0) (by decide) (by decide)) (hb hby at_412) rfl ?_
                        refine eALoad X52 hx (hb hby at_413) rfl rfl rfl ?_
                        refine eILoad X52 hx (hb hby at_415) rfl rfl ?_
                        refine eIConst X52 hx (1 : Int32) (hb hby at_417) rfl rfl ?_
                        refine eISub X52 hx (hb hby at_418) rfl ?_
                        show Ends p e below _ T52 m 419 #[.val (.int p1), .val (.int p2), .val (.int p3), .val (.int p4), .val (.int p5), .val (.int p6), .val (.ref ad1), .val (.ref ad2), .val (.int ((p6 &&& (2147483647 : Int32)) % (5 : Int32))), .val (.ref ad24), .val (.int (0 : Int32)), .val (.int (1 : Int32)), .val (.int (2 : Int32)), .val (.int (3 : Int32)), .val (.int (4 : Int32)), .val (.ref b31_0), .val (.ref ad34), .val (.int (4 : Int32)), .val (.int (rd vs22 (rd vs22 (rd vs22 ((p6 &&& (2147483647 : Int32)) % (5 : Int32))))))] [(.int (3 : Int32)), (.ref ad34), (.int (rd vs33 (0 : Int32)))]
                        refine eIALoad X52 hx hZ e52 A34 (rd vs23 (rd vs22 (rd vs22 (rd vs22 ((p6 &&& (2147483647 : Int32)) % (5 : Int32)))))) rfl (inbL (n := 4) rfl (by decide)) (hb hby at_419) rfl ?_
                        show Ends p e below (PVW s 24 192 n0 (if (rd vs33 (0 : Int32)) = (rd vs23 (rd vs22 (rd vs22 (rd vs22 ((p6 &&& (2147483647 : Int32)) % (5 : Int32)))))) then (if (rd vs33 (1 : Int32)) = (rd vs23 (rd vs22 (rd vs22 ((p6 &&& (2147483647 : Int32)) % (5 : Int32))))) then (if (rd vs33 (2 : Int32)) = (rd vs23 (rd vs22 ((p6 &&& (2147483647 : Int32)) % (5 : Int32)))) then (if (rd vs33 (3 : Int32)) = (rd vs23 ((p6 &&& (2147483647 : Int32)) % (5 : Int32))) then (1 : Int32) else (0 : Int32)) else (0 : Int32)) else (0 : Int32)) else (0 : Int32))) T52 m 420 #[.val (.int p1), .val (.int p2), .val (.int p3), .val (.int p4), .val (.int p5), .val (.int p6), .val (.ref ad1), .val (.ref ad2), .val (.int ((p6 &&& (2147483647 : Int32)) % (5 : Int32))), .val (.ref ad24), .val (.int (0 : Int32)), .val (.int (1 : Int32)), .val (.int (2 : Int32)), .val (.int (3 : Int32)), .val (.int (4 : Int32)), .val (.ref b31_0), .val (.ref ad34), .val (.int (4 : Int32)), .val (.int (rd vs22 (rd vs22 (rd vs22 ((p6 &&& (2147483647 : Int32)) % (5 : Int32))))))] [(.int (rd vs23 (rd vs22 (rd vs22 (rd vs22 ((p6 &&& (2147483647 : Int32)) % (5 : Int32))))))), (.int (rd vs33 (0 : Int32)))]
                        by_cases c54 : (rd vs33 (0 : Int32)) = (rd vs23 (rd vs22 (rd vs22 (rd vs22 ((p6 &&& (2147483647 : Int32)) % (5 : Int32))))))
                        · rw [if_pos c54]
                          refine eIcmpY X52 hx (hb hby at_420) (teq c54).1 (by decide) (pc' := 425) rfl ?_
                          refine eILoad X52 hx (hb hby at_425) rfl rfl ?_
                          refine eIConst X52 hx (1 : Int32) (hb hby at_427) rfl rfl ?_
                          refine eIcmpN X52 hx (hb hby at_428) (tlt (by decide)).2.2.2 rfl ?_
                          refine eALoad X52 hx (hb hby at_431) rfl rfl rfl ?_
                          refine eIConst X52 hx (1 : Int32) (hb hby at_433) rfl rfl ?_
                          refine eIALoad X52 hx hZ e52 U31_0 (rd vs33 (1 : Int32)) rfl (own_gi c53 (Ar.small U31_0) (by decide) (by decide)) (hb hby at_434) rfl ?_
                          refine eALoad X52 hx (hb hby at_435) rfl rfl rfl ?_
                          refine eILoad X52 hx (hb hby at_437) rfl rfl ?_
                          refine eIConst X52 hx (2 : Int32) (hb hby at_439) rfl rfl ?_
                          refine eISub X52 hx (hb hby at_440) rfl ?_
                          show Ends p e below _ T52 m 441 #[.val (.int p1), .val (.int p2), .val (.int p3), .val (.int p4), .val (.int p5), .val (.int p6), .val (.ref ad1), .val (.ref ad2), .val (.int ((p6 &&& (2147483647 : Int32)) % (5 : Int32))), .val (.ref ad24), .val (.int (0 : Int32)), .val (.int (1 : Int32)), .val (.int (2 : Int32)), .val (.int (3 : Int32)), .val (.int (4 : Int32)), .val (.ref b31_0), .val (.ref ad34), .val (.int (4 : Int32)), .val (.int (rd vs22 (rd vs22 (rd vs22 ((p6 &&& (2147483647 : Int32)) % (5 : Int32))))))] [(.int (2 : Int32)), (.ref ad34), (.int (rd vs33 (1 : Int32)))]
                          refine eIALoad X52 hx hZ e52 A34 (rd vs23 (rd vs22 (rd vs22 ((p6 &&& (2147483647 : Int32)) % (5 : Int32))))) rfl (inbL (n := 4) rfl (by decide)) (hb hby at_441) rfl ?_
                          show Ends p e below (PVW s 24 192 n0 (if (rd vs33 (1 : Int32)) = (rd vs23 (rd vs22 (rd vs22 ((p6 &&& (2147483647 : Int32)) % (5 : Int32))))) then (if (rd vs33 (2 : Int32)) = (rd vs23 (rd vs22 ((p6 &&& (2147483647 : Int32)) % (5 : Int32)))) then (if (rd vs33 (3 : Int32)) = (rd vs23 ((p6 &&& (2147483647 : Int32)) % (5 : Int32))) then (1 : Int32) else (0 : Int32)) else (0 : Int32)) else (0 : Int32))) T52 m 442 #[.val (.int p1), .val (.int p2), .val (.int p3), .val (.int p4), .val (.int p5), .val (.int p6), .val (.ref ad1), .val (.ref ad2), .val (.int ((p6 &&& (2147483647 : Int32)) % (5 : Int32))), .val (.ref ad24), .val (.int (0 : Int32)), .val (.int (1 : Int32)), .val (.int (2 : Int32)), .val (.int (3 : Int32)), .val (.int (4 : Int32)), .val (.ref b31_0), .val (.ref ad34), .val (.int (4 : Int32)), .val (.int (rd vs22 (rd vs22 (rd vs22 ((p6 &&& (2147483647 : Int32)) % (5 : Int32))))))] [(.int (rd vs23 (rd vs22 (rd vs22 ((p6 &&& (2147483647 : Int32)) % (5 : Int32)))))), (.int (rd vs33 (1 : Int32)))]
                          by_cases c55 : (rd vs33 (1 : Int32)) = (rd vs23 (rd vs22 (rd vs22 ((p6 &&& (2147483647 : Int32)) % (5 : Int32)))))
                          · rw [if_pos c55]
                            refine eIcmpY X52 hx (hb hby at_442) (teq c55).1 (by decide) (pc' := 447) rfl ?_
                            refine eILoad X52 hx (hb hby at_447) rfl rfl ?_
                            refine eIConst X52 hx (2 : Int32) (hb hby at_449) rfl rfl ?_
                            refine eIcmpN X52 hx (hb hby at_450) (tlt (by decide)).2.2.2 rfl ?_
                            refine eALoad X52 hx (hb hby at_453) rfl rfl rfl ?_
                            refine eIConst X52 hx (2 : Int32) (hb hby at_455) rfl rfl ?_
                            refine eIALoad X52 hx hZ e52 U31_0 (rd vs33 (2 : Int32)) rfl (own_gi c53 (Ar.small U31_0) (by decide) (by decide)) (hb hby at_456) rfl ?_
                            refine eALoad X52 hx (hb hby at_457) rfl rfl rfl ?_
                            refine eILoad X52 hx (hb hby at_459) rfl rfl ?_
                            refine eIConst X52 hx (3 : Int32) (hb hby at_461) rfl rfl ?_
                            refine eISub X52 hx (hb hby at_462) rfl ?_
                            show Ends p e below _ T52 m 463 #[.val (.int p1), .val (.int p2), .val (.int p3), .val (.int p4), .val (.int p5), .val (.int p6), .val (.ref ad1), .val (.ref ad2), .val (.int ((p6 &&& (2147483647 : Int32)) % (5 : Int32))), .val (.ref ad24), .val (.int (0 : Int32)), .val (.int (1 : Int32)), .val (.int (2 : Int32)), .val (.int (3 : Int32)), .val (.int (4 : Int32)), .val (.ref b31_0), .val (.ref ad34), .val (.int (4 : Int32)), .val (.int (rd vs22 (rd vs22 (rd vs22 ((p6 &&& (2147483647 : Int32)) % (5 : Int32))))))] [(.int (1 : Int32)), (.ref ad34), (.int (rd vs33 (2 : Int32)))]
                            refine eIALoad X52 hx hZ e52 A34 (rd vs23 (rd vs22 ((p6 &&& (2147483647 : Int32)) % (5 : Int32)))) rfl (inbL (n := 4) rfl (by decide)) (hb hby at_463) rfl ?_
                            show Ends p e below (PVW s 24 192 n0 (if (rd vs33 (2 : Int32)) = (rd vs23 (rd vs22 ((p6 &&& (2147483647 : Int32)) % (5 : Int32)))) then (if (rd vs33 (3 : Int32)) = (rd vs23 ((p6 &&& (2147483647 : Int32)) % (5 : Int32))) then (1 : Int32) else (0 : Int32)) else (0 : Int32))) T52 m 464 #[.val (.int p1), .val (.int p2), .val (.int p3), .val (.int p4), .val (.int p5), .val (.int p6), .val (.ref ad1), .val (.ref ad2), .val (.int ((p6 &&& (2147483647 : Int32)) % (5 : Int32))), .val (.ref ad24), .val (.int (0 : Int32)), .val (.int (1 : Int32)), .val (.int (2 : Int32)), .val (.int (3 : Int32)), .val (.int (4 : Int32)), .val (.ref b31_0), .val (.ref ad34), .val (.int (4 : Int32)), .val (.int (rd vs22 (rd vs22 (rd vs22 ((p6 &&& (2147483647 : Int32)) % (5 : Int32))))))] [(.int (rd vs23 (rd vs22 ((p6 &&& (2147483647 : Int32)) % (5 : Int32))))), (.int (rd vs33 (2 : Int32)))]
                            by_cases c56 : (rd vs33 (2 : Int32)) = (rd vs23 (rd vs22 ((p6 &&& (2147483647 : Int32)) % (5 : Int32))))
                            · rw [if_pos c56]
                              refine eIcmpY X52 hx (hb hby at_464) (teq c56).1 (by decide) (pc' := 469) rfl ?_
                              refine eILoad X52 hx (hb hby at_469) rfl rfl ?_
                              refine eIConst X52 hx (3 : Int32) (hb hby at_471) rfl rfl ?_
                              refine eIcmpN X52 hx (hb hby at_472) (tlt (by decide)).2.2.2 rfl ?_
                              refine eALoad X52 hx (hb hby at_475) rfl rfl rfl ?_
                              refine eIConst X52 hx (3 : Int32) (hb hby at_477) rfl rfl ?_
                              refine eIALoad X52 hx hZ e52 U31_0 (rd vs33 (3 : Int32)) rfl (own_gi c53 (Ar.small U31_0) (by decide) (by decide)) (hb hby at_478) rfl ?_
                              refine eALoad X52 hx (hb hby at_479) rfl rfl rfl ?_
                              refine eILoad X52 hx (hb hby at_481) rfl rfl ?_
                              refine eIConst X52 hx (4 : Int32) (hb hby at_483) rfl rfl ?_
                              refine eISub X52 hx (hb hby at_484) rfl ?_
                              show Ends p e below _ T52 m 485 #[.val (.int p1), .val (.int p2), .val (.int p3), .val (.int p4), .val (.int p5), .val (.int p6), .val (.ref ad1), .val (.ref ad2), .val (.int ((p6 &&& (2147483647 : Int32)) % (5 : Int32))), .val (.ref ad24), .val (.int (0 : Int32)), .val (.int (1 : Int32)), .val (.int (2 : Int32)), .val (.int (3 : Int32)), .val (.int (4 : Int32)), .val (.ref b31_0), .val (.ref ad34), .val (.int (4 : Int32)), .val (.int (rd vs22 (rd vs22 (rd vs22 ((p6 &&& (2147483647 : Int32)) % (5 : Int32))))))] [(.int (0 : Int32)), (.ref ad34), (.int (rd vs33 (3 : Int32)))]
                              refine eIALoad X52 hx hZ e52 A34 (rd vs23 ((p6 &&& (2147483647 : Int32)) % (5 : Int32))) rfl (inbL (n := 4) rfl (by decide)) (hb hby at_485) rfl ?_
                              show Ends p e below (PVW s 24 192 n0 (if (rd vs33 (3 : Int32)) = (rd vs23 ((p6 &&& (2147483647 : Int32)) % (5 : Int32))) then (1 : Int32) else (0 : Int32))) T52 m 486 #[.val (.int p1), .val (.int p2), .val (.int p3), .val (.int p4), .val (.int p5), .val (.int p6), .val (.ref ad1), .val (.ref ad2), .val (.int ((p6 &&& (2147483647 : Int32)) % (5 : Int32))), .val (.ref ad24), .val (.int (0 : Int32)), .val (.int (1 : Int32)), .val (.int (2 : Int32)), .val (.int (3 : Int32)), .val (.int (4 : Int32)), .val (.ref b31_0), .val (.ref ad34), .val (.int (4 : Int32)), .val (.int (rd vs22 (rd vs22 (rd vs22 ((p6 &&& (2147483647 : Int32)) % (5 : Int32))))))] [(.int (rd vs23 ((p6 &&& (2147483647 : Int32)) % (5 : Int32)))), (.int (rd vs33 (3 : Int32)))]
                              by_cases c57 : (rd vs33 (3 : Int32)) = (rd vs23 ((p6 &&& (2147483647 : Int32)) % (5 : Int32)))
                              · rw [if_pos c57]
                                refine eIcmpY X52 hx (hb hby at_486) (teq c57).1 (by decide) (pc' := 491) rfl ?_
                                refine eIConst X52 hx (1 : Int32) (hb hby at_491) rfl rfl ?_
                                exact eRetN X52 hx (t := .boolean) Bd.returns (by simp) hlk (hb hby at_492) (by decide) (by decide) ⟨rfl, N52⟩
                              · rw [if_neg c57]
                                refine eIcmpN X52 hx (hb hby at_486) (feq c57).1 rfl ?_
                                refine eIConst X52 hx (0 : Int32) (hb hby at_489) rfl rfl ?_
                                exact eRetN X52 hx (t := .boolean) Bd.returns (by simp) hlk (hb hby at_490) (by decide) (by decide) ⟨rfl, N52⟩
                            · rw [if_neg c56]
                              refine eIcmpN X52 hx (hb hby at_464) (feq c56).1 rfl ?_
                              refine eIConst X52 hx (0 : Int32) (hb hby at_467) rfl rfl ?_
                              exact eRetN X52 hx (t := .boolean) Bd.returns (by simp) hlk (hb hby at_468) (by decide) (by decide) ⟨rfl, N52⟩
                          · rw [if_neg c55]
                            refine eIcmpN X52 hx (hb hby at_442) (feq c55).1 rfl ?_
                            refine eIConst X52 hx (0 : Int32) (hb hby at_445) rfl rfl ?_
                            exact eRetN X52 hx (t := .boolean) Bd.returns (by simp) hlk (hb hby at_446) (by decide) (by decide) ⟨rfl, N52⟩
                        · rw [if_neg c54]
                          refine eIcmpN X52 hx (hb hby at_420) (feq c54).1 rfl ?_
                          refine eIConst X52 hx (0 : Int32) (hb hby at_423) rfl rfl ?_
                          exact eRetN X52 hx (t := .boolean) Bd.returns (by simp) hlk (hb hby at_424) (by decide) (by decide) ⟨rfl, N52⟩
                      · rw [if_neg c53]
                        refine eIcmpN X52 hx (hb hby at_399) (feq c53).1 rfl ?_
                        refine eIConst X52 hx (0 : Int32) (hb hby at_402) rfl rfl ?_
                        exact eRetN X52 hx (t := .boolean) Bd.returns (by simp) hlk (hb hby at_403) (by decide) (by decide) ⟨rfl, N52⟩
            exact LP32 (fPath_0 ((p6 &&& (2147483647 : Int32)) % (5 : Int32)) [(rd vs22 (0 : Int32)), (rd vs22 (1 : Int32)), (rd vs22 (2 : Int32)), (rd vs22 (3 : Int32)), (rd vs22 (4 : Int32)), (0 : Int32), (0 : Int32), (0 : Int32), (0 : Int32), (0 : Int32), (0 : Int32), (0 : Int32), (0 : Int32), (0 : Int32), (0 : Int32), (0 : Int32)] [(rd vs23 (0 : Int32)), (rd vs23 (1 : Int32)), (rd vs23 (2 : Int32)), (rd vs23 (3 : Int32)), (rd vs23 (4 : Int32)), (0 : Int32), (0 : Int32), (0 : Int32), (0 : Int32), (0 : Int32), (0 : Int32), (0 : Int32), (0 : Int32), (0 : Int32), (0 : Int32), (0 : Int32)]) _ _ _ X31 N31 rfl Z31 A1 A2 A24 F24__parents F24__transitions F24__nodes U25_0 U25_1 U31_0
          exact LP21 [(-1 : Int32), ((p1 &&& (1 : Int32)) - (1 : Int32)), (((((p1.toUInt32 >>> ((1 : Int32) &&& 31).toUInt32).toInt32) &&& (3 : Int32)) % (3 : Int32)) - (1 : Int32)), ((((p1.toUInt32 >>> ((3 : Int32) &&& 31).toUInt32).toInt32) &&& (3 : Int32)) - (1 : Int32)), (((((p1.toUInt32 >>> ((5 : Int32) &&& 31).toUInt32).toInt32) &&& (7 : Int32)) % (5 : Int32)) - (1 : Int32))] [(-1 : Int32), t9, t12, t15, t18] _ _ _ (own_dec5 p1) rfl X20 N20 e20 Z20 A1 A2
        show Ends p e below (PVW s 24 192 n0 (if (((((p1.toUInt32 >>> ((5 : Int32) &&& 31).toUInt32).toInt32) &&& (7 : Int32)) % (5 : Int32)) - (1 : Int32)) < (0 : Int32) then (f0_131 p1 p6 t9 t12 t15 (-1 : Int32)) else (f0_131 p1 p6 t9 t12 t15 p5))) T17 m 122 #[.val (.int p1), .val (.int p2), .val (.int p3), .val (.int p4), .val (.int p5), .val (.int p6), .val (.ref ad1), .val (.ref ad2), .unset, .unset, .unset, .unset, .unset, .unset, .unset, .unset, .unset, .unset, .unset] [(.int (((((p1.toUInt32 >>> ((5 : Int32) &&& 31).toUInt32).toInt32) &&& (7 : Int32)) % (5 : Int32)) - (1 : Int32))), (.int (4 : Int32)), (.ref ad2)]
        by_cases c58 : (((((p1.toUInt32 >>> ((5 : Int32) &&& 31).toUInt32).toInt32) &&& (7 : Int32)) % (5 : Int32)) - (1 : Int32)) < (0 : Int32)
        · rw [if_pos c58]
          refine eIfN X17 hx (hb hby at_122) ((if0 _ _).trans (tlt c58).2.1) rfl ?_
          refine eIConst X17 hx (-1 : Int32) (hb hby at_125) rfl rfl ?_
          refine eGoto X17 hx (hb hby at_126) (by decide) (pc' := 131) rfl ?_
          exact K131_19 (-1 : Int32) T17 _ X17 N17 e17
        · rw [if_neg c58]
          refine eIfY X17 hx (hb hby at_122) ((if0 _ _).trans (flt c58).2.1) (by decide) (pc' := 129) rfl ?_
          refine eILoad X17 hx (hb hby at_129) rfl rfl ?_
          exact K131_19 p5 T17 _ X17 N17 e17
      show Ends p e below (PVW s 24 192 n0 (if ((((p1.toUInt32 >>> ((3 : Int32) &&& 31).toUInt32).toInt32) &&& (3 : Int32)) - (1 : Int32)) < (0 : Int32) then (f0_114 p1 p5 p6 t9 t12 (-1 : Int32)) else (f0_114 p1 p5 p6 t9 t12 p4))) T14 m 106 #[.val (.int p1), .val (.int p2), .val (.int p3), .val (.int p4), .val (.int p5), .val (.int p6), .val (.ref ad1), .val (.ref ad2), .unset, .unset, .unset, .unset, .unset, .unset, .unset, .unset, .unset, .unset, .unset] [(.int ((((p1.toUInt32 >>> ((3 : Int32) &&& 31).toUInt32).toInt32) &&& (3 : Int32)) - (1 : Int32))), (.int (3 : Int32)), (.ref ad2)]
      by_cases c59 : ((((p1.toUInt32 >>> ((3 : Int32) &&& 31).toUInt32).toInt32) &&& (3 : Int32)) - (1 : Int32)) < (0 : Int32)
      · rw [if_pos c59]
        refine eIfN X14 hx (hb hby at_106) ((if0 _ _).trans (tlt c59).2.1) rfl ?_
        refine eIConst X14 hx (-1 : Int32) (hb hby at_109) rfl rfl ?_
        refine eGoto X14 hx (hb hby at_110) (by decide) (pc' := 114) rfl ?_
        exact K114_16 (-1 : Int32) T14 _ X14 N14 e14
      · rw [if_neg c59]
        refine eIfY X14 hx (hb hby at_106) ((if0 _ _).trans (flt c59).2.1) (by decide) (pc' := 113) rfl ?_
        refine eILoadN X14 hx (hb hby at_113) rfl rfl ?_
        exact K114_16 p4 T14 _ X14 N14 e14
    show Ends p e below (PVW s 24 192 n0 (if (((((p1.toUInt32 >>> ((1 : Int32) &&& 31).toUInt32).toInt32) &&& (3 : Int32)) % (3 : Int32)) - (1 : Int32)) < (0 : Int32) then (f0_98 p1 p4 p5 p6 t9 (-1 : Int32)) else (f0_98 p1 p4 p5 p6 t9 p3))) T11 m 90 #[.val (.int p1), .val (.int p2), .val (.int p3), .val (.int p4), .val (.int p5), .val (.int p6), .val (.ref ad1), .val (.ref ad2), .unset, .unset, .unset, .unset, .unset, .unset, .unset, .unset, .unset, .unset, .unset] [(.int (((((p1.toUInt32 >>> ((1 : Int32) &&& 31).toUInt32).toInt32) &&& (3 : Int32)) % (3 : Int32)) - (1 : Int32))), (.int (2 : Int32)), (.ref ad2)]
    by_cases c60 : (((((p1.toUInt32 >>> ((1 : Int32) &&& 31).toUInt32).toInt32) &&& (3 : Int32)) % (3 : Int32)) - (1 : Int32)) < (0 : Int32)
    · rw [if_pos c60]
      refine eIfN X11 hx (hb hby at_90) ((if0 _ _).trans (tlt c60).2.1) rfl ?_
      refine eIConst X11 hx (-1 : Int32) (hb hby at_93) rfl rfl ?_
      refine eGoto X11 hx (hb hby at_94) (by decide) (pc' := 98) rfl ?_
      exact K98_13 (-1 : Int32) T11 _ X11 N11 e11
    · rw [if_neg c60]
      refine eIfY X11 hx (hb hby at_90) ((if0 _ _).trans (flt c60).2.1) (by decide) (pc' := 97) rfl ?_
      refine eILoadN X11 hx (hb hby at_97) rfl rfl ?_
      exact K98_13 p3 T11 _ X11 N11 e11
  show Ends p e below (PVW s 24 192 n0 (if ((p1 &&& (1 : Int32)) - (1 : Int32)) < (0 : Int32) then (f0_82 p1 p3 p4 p5 p6 (-1 : Int32)) else (f0_82 p1 p3 p4 p5 p6 p2))) T8 m 74 #[.val (.int p1), .val (.int p2), .val (.int p3), .val (.int p4), .val (.int p5), .val (.int p6), .val (.ref ad1), .val (.ref ad2), .unset, .unset, .unset, .unset, .unset, .unset, .unset, .unset, .unset, .unset, .unset] [(.int ((p1 &&& (1 : Int32)) - (1 : Int32))), (.int (1 : Int32)), (.ref ad2)]
  by_cases c61 : ((p1 &&& (1 : Int32)) - (1 : Int32)) < (0 : Int32)
  · rw [if_pos c61]
    refine eIfN X8 hx (hb hby at_74) ((if0 _ _).trans (tlt c61).2.1) rfl ?_
    refine eIConst X8 hx (-1 : Int32) (hb hby at_77) rfl rfl ?_
    refine eGoto X8 hx (hb hby at_78) (by decide) (pc' := 82) rfl ?_
    exact K82_10 (-1 : Int32) T8 _ X8 N8 e8
  · rw [if_neg c61]
    refine eIfY X8 hx (hb hby at_74) ((if0 _ _).trans (flt c61).2.1) (by decide) (pc' := 81) rfl ?_
    refine eILoadN X8 hx (hb hby at_81) rfl rfl ?_
    exact K82_10 p2 T8 _ X8 N8 e8
theorem own_main (p6 : Int32) (v w : List Int32) (hP : Dec5 v) : f0_141 p6 v w = 1 := by
  have hq := own_q p6
  show f0_265 p6 v w (fPath_0 ((p6 &&& (2147483647 : Int32)) % (5 : Int32)) (T16 v) (T16 w)) = 1
  unfold f0_265
  generalize ((p6 &&& (2147483647 : Int32)) % (5 : Int32)) = q0 at *
  have e0 := own_t16 v q0 hq.1 hq.2
  have t0 := own_t16 w q0 hq.1 hq.2
  by_cases c0 : (rd v q0) < 0
  · have P : fPath_0 q0 (T16 v) (T16 w) = [] := by
      simp only [fPath_0, fPath_4, fPath_33, e0, t0, if_pos c0]
      rfl
    rw [P]
    simp only [if_pos c0]
    rfl
  have b1 := own_p5 hP hq c0
  have e1 := own_t16 v (rd v q0) b1.1 b1.2
  have t1 := own_t16 w (rd v q0) b1.1 b1.2
  by_cases c1 : (rd v (rd v q0)) < 0
  · have P : fPath_0 q0 (T16 v) (T16 w) = [(rd w q0)] := by
      simp only [fPath_0, fPath_4, fPath_33, e0, t0, e1, t1, if_pos c1, if_neg c0]
      rfl
    rw [P]
    simp only [if_neg c0, if_pos c1]
    exact (if_pos rfl).trans (if_pos rfl)
  have b2 := own_p5 hP b1 c1
  have e2 := own_t16 v (rd v (rd v q0)) b2.1 b2.2
  have t2 := own_t16 w (rd v (rd v q0)) b2.1 b2.2
  by_cases c2 : (rd v (rd v (rd v q0))) < 0
  · have P : fPath_0 q0 (T16 v) (T16 w) = [(rd w (rd v q0)), (rd w q0)] := by
      simp only [fPath_0, fPath_4, fPath_33, e0, t0, e1, t1, e2, t2, if_pos c2, if_neg c0, if_neg c1]
      rfl
    rw [P]
    simp only [if_neg c0, if_neg c1, if_pos c2]
    exact (if_pos rfl).trans ((if_pos rfl).trans (if_pos rfl))
  have b3 := own_p5 hP b2 c2
  have e3 := own_t16 v (rd v (rd v (rd v q0))) b3.1 b3.2
  have t3 := own_t16 w (rd v (rd v (rd v q0))) b3.1 b3.2
  by_cases c3 : (rd v (rd v (rd v (rd v q0)))) < 0
  · have P : fPath_0 q0 (T16 v) (T16 w) = [(rd w (rd v (rd v q0))), (rd w (rd v q0)), (rd w q0)] := by
      simp only [fPath_0, fPath_4, fPath_33, e0, t0, e1, t1, e2, t2, e3, t3, if_pos c3, if_neg c0, if_neg c1, if_neg c2]
      rfl
    rw [P]
    simp only [if_neg c0, if_neg c1, if_neg c2, if_pos c3]
    exact (if_pos rfl).trans ((if_pos rfl).trans ((if_pos rfl).trans (if_pos rfl)))
  have b4 := own_p5 hP b3 c3
  have e4 := own_t16 v (rd v (rd v (rd v (rd v q0)))) b4.1 b4.2
  have t4 := own_t16 w (rd v (rd v (rd v (rd v q0)))) b4.1 b4.2
  have c4 : (rd v (rd v (rd v (rd v (rd v q0))))) < 0 := by
    rw [Int32.lt_iff_toInt_lt]; simp only [Int32.reduceToInt, Int32.lt_iff_toInt_lt] at *
    have d0 := hP.2 q0 hq.1 hq.2
    have d1 := hP.2 (rd v q0) b1.1 b1.2
    have d2 := hP.2 (rd v (rd v q0)) b2.1 b2.2
    have d3 := hP.2 (rd v (rd v (rd v q0))) b3.1 b3.2
    have d4 := hP.2 (rd v (rd v (rd v (rd v q0)))) b4.1 b4.2
    omega
  have P : fPath_0 q0 (T16 v) (T16 w) = [(rd w (rd v (rd v (rd v q0)))), (rd w (rd v (rd v q0))), (rd w (rd v q0)), (rd w q0)] := by
    simp only [fPath_0, fPath_4, fPath_33, e0, t0, e1, t1, e2, t2, e3, t3, e4, t4, if_pos c4, if_neg c0, if_neg c1, if_neg c2, if_neg c3]
    rfl
  rw [P]
  simp only [if_neg c0, if_neg c1, if_neg c2, if_neg c3, if_pos c4]
  exact (if_pos rfl).trans ((if_pos rfl).trans ((if_pos rfl).trans ((if_pos rfl).trans (if_pos rfl))))
theorem law_eq (p1 p2 p3 p4 p5 p6 : Int32) : f0_0 p1 p2 p3 p4 p5 p6 = 1 := by
  unfold f0_0 f0_82 f0_98 f0_114 f0_131
  simp only [own_main _ _ _ (own_dec5 p1), ite_self]
set_option maxRecDepth 65536 in
set_option maxHeartbeats 40000000 in
theorem comes_1 {Post : Tables → Env → Array Value → State → Outcome → State → Prop} (hpost : ∀ tb e args s v u, (limb_1_1.after args s (.returned v) u = true ∧ limb_1_2.after args s (.returned v) u = true ∧ True) → FrameEnd s (.returned v) u (Jvm.fieldLocs frame_1_writes args s ++ Jvm.arrayLocs frame_1_arrays args s ++ Jvm.staticLocs frame_1_statics s) 24 192 → Post tb e args s (.returned v) u) :
    ArmFor flags0 classFile x code maxLocals ret World_1 tables_1 room_1 Calls_1 rest_1 Pre_1 Post := by
  intro l hfl _ _ p e ha hc hk s m args below hf hA hF happ hP
  obtain ⟨hcalls, hrest, hpre⟩ := hP
  obtain ⟨-, -, -, hnamed, -, -, -, hat⟩ := (Spec.applies_iff hf).mp happ
  obtain ⟨hg, hn⟩ := and_e (Cond.before_iff.mp (show (Jvm.Cond.and given_1 narrow_1).before args s = true from hpre))
  obtain ⟨g1, g2⟩ := and_e hg
  obtain ⟨g3, g4⟩ := and_e g2
  obtain ⟨g5, g6⟩ := and_e g4
  obtain ⟨g7, g8⟩ := and_e g6
  obtain ⟨g9, g10⟩ := and_e g8
  obtain ⟨g11, g12⟩ := and_e g10
  obtain ⟨w0, w1, w2, w3, w4, w5, rfl⟩ : ∃ w0 w1 w2 w3 w4 w5 : Value, args = #[w0, w1, w2, w3, w4, w5] := by
    have hs : args.size = 6 := by simpa [Cond.value, given_1] using g1
    obtain ⟨L⟩ := args
    match L, hs with
    | [w0, w1, w2, w3, w4, w5], _ => exact ⟨w0, w1, w2, w3, w4, w5, rfl⟩
  have hw := fun d (hd : d ∈ tables_1) => atoms_spec (ws := Jvm.Cond.code x code maxLocals ret :: tables_1) hat d (List.mem_cons_of_mem _ hd)
  have hfit : Fit s := fun {y c} hc i hi => by
    obtain ⟨ha, rfl⟩ := Array.getElem?_eq_some_iff.mp hc
    have q := List.all_eq_true.mp ((Array.all_eq_true_iff_forall_mem.mp hF) _ (Array.getElem_mem ha)) i (List.mem_range.mpr hi)
    simpa [Array.getElem?_eq_getElem hi] using q
  obtain ⟨i0, ei0⟩ := is_v g3
  obtain rfl : w0 = (.int i0) := Option.some.inj ei0
  obtain ⟨i1, ei1⟩ := is_v g5
  obtain rfl : w1 = (.int i1) := Option.some.inj ei1
  obtain ⟨i2, ei2⟩ := is_v g7
  obtain rfl : w2 = (.int i2) := Option.some.inj ei2
  obtain ⟨i3, ei3⟩ := is_v g9
  obtain rfl : w3 = (.int i3) := Option.some.inj ei3
  obtain ⟨i4, ei4⟩ := is_v g11
  obtain rfl : w4 = (.int i4) := Option.some.inj ei4
  obtain ⟨i5, ei5⟩ := is_v g12
  obtain rfl : w5 = (.int i5) := Option.some.inj ei5
  obtain ⟨n, o, h1, h2, h3, _, L, rfl, ⟨hv, N⟩, hq⟩ := rm0 l s _ hw tables_1 i0 i1 i2 i3 i4 i5 s.heap s.heap.size (Nat.le_refl _) p e ha hc hk s m _ below hf ((Spec.applies_iff_loose hf).mp happ).1 ⟨rfl, State.Warmed39.refl s, rfl⟩ trivial
  rw [law_eq] at hv
  subst hv
  refine ⟨n, _, h1, h2, h3, hpost _ _ _ _ _ _ ⟨Cond.after_iff.mpr rfl, Cond.after_iff.mpr (eq_i res_at (Term.int_eval (1)) rfl), trivial⟩ ⟨hq.1, hq.2.1, (hq.2.2.sift fun y hy => Or.inr (N y hy)).mono (by decide) (by decide)⟩⟩
theorem main_1_1 : Claimed_1_1 := comes_1 fun _ _ _ _ _ _ h hF => ⟨h.1, hF⟩
theorem main_1_2 : Claimed_1_2 := comes_1 fun _ _ _ _ _ _ h hF => ⟨h.2.1, hF⟩
end Jvm.Pilot.@@N@@
namespace Jvm.Pilot.@@N@@
open Jvm Jvm.ClassFile Sem Op Lib Jvm.Free Jvm.Stand Jvm.Pilot.@@N@@.Jvm.D
/-! MADE BY PROGRAM (witnessworld.py) out of the Statement's table words and the real class files: 9 classes; the members and pool entries that the words name. The judged class is class 1, her method 1. -/
namespace start1
open Jvm.ClassFile
def u (s : String) : CpInfo := .utf8 (stringToUtf16 s)
/-- a pool by its gaps: so many unusable entries, then the entry; so many at the end -/
def gap : Nat → List CpInfo → List CpInfo
  | 0, r => r
  | n + 1, r => .unusable :: gap n r
def poolList (es : List (Nat × CpInfo)) (last : Nat) : List CpInfo := es.foldr (fun e r => gap e.1 (e.2 :: r)) (gap last [])
def pool (es : List (Nat × CpInfo)) (last : Nat) : Array CpInfo := ⟨poolList es last⟩
def fileOf (pool : Array CpInfo) (this : Nat) (attrs : Array Attribute := #[]) (ms : Array MethodInfo := #[]) (fl : Nat := 33) (sup : Nat := 0) (ifs : Array Nat := #[]) (fds : Array FieldInfo := #[]) : ClassFile where
  minorVersion := 0
  majorVersion := 65
  constantPool := pool
  accessFlags := fl
  thisClass := this
  superClass := sup
  interfaces := ifs
  fields := fds
  methods := ms
  attributes := attrs
def plain (name : String) (sup : Option ClassId) : Class where
  name := name
  kind := .ordinary
  loader := none
  accessFlags := 33
  super := sup
  interfaces := #[]
  cf := none
  fields := #[]
  methods := #[]
  instanceTypes := #[]
  staticTypes := #[]
  resolved := #[]
  callSites := []
  init := .initialized
  statics := none
  mirror := none

def pool0 : Array CpInfo := pool [(5, u "<init>"), (0, u "()V"), (1, .class_ 10), (1, u "java/lang/Object")] 113

def k0c0 : Code := { maxStack := 0, maxLocals := 1, code := object_method_1_code, exceptionTable := #[], attributes := #[] }
def k0m0 : Method := { name := "<init>", desc := "()V", sig := { parameters := [], returnType := none }, accessFlags := 1, code := some k0c0 }
/-- java/lang/Object -/
def k0 : Class := { plain "java/lang/Object" none with
  accessFlags := 33
  interfaces := #[]
  cf := some (fileOf pool0 8 #[] #[{ accessFlags := 1, nameIndex := 5, descriptorIndex := 6, attributes := #[] }] 33 0 #[] #[])
  fields := #[]
  methods := #[k0m0]
  instanceTypes := #[]
  staticTypes := #[]
  resolved := Array.replicate 124 none
  statics := none }

def pool1 : Array CpInfo := pool [(2, .class_ 4), (0, .nameAndType 5 6), (0, u "java/lang/Object"), (0, u "<init>"), (0, u "()V"), (0, .integer 2147483647), (0, .class_ 9), (0, u "com/example/workflow_soundness/workflowsoundness/analysis/SearchTree"), (0, .methodref 8 3), (0, .methodref 8 12), (0, .nameAndType 13 14), (0, u "add"), (0, u "(II)I"), (0, .methodref 8 16), (0, .nameAndType 17 18), (0, u "path"), (0, u "(I)[I"), (0, .class_ 20), (0, u "com/example/workflow_soundness/workflowsoundness/analysis/SearchTreePathPinLaw"), (2, u "law"), (0, u "(IIIIII)Z")] 5

def k1m0 : Method := { name := "<init>", desc := "()V", sig := { parameters := [], returnType := none }, accessFlags := 1, code := none }
def k1c1 : Code := { maxStack := 4, maxLocals := 19, code := code, exceptionTable := #[], attributes := #[] }
def k1m1 : Method := { name := "law", desc := "(IIIIII)Z", sig := { parameters := [.int, .int, .int, .int, .int, .int], returnType := some .boolean }, accessFlags := 9, code := some k1c1 }
/-- com/example/workflow_soundness/workflowsoundness/analysis/SearchTreePathPinLaw -/
def k1 : Class := { plain "com/example/workflow_soundness/workflowsoundness/analysis/SearchTreePathPinLaw" (some 0) with
  accessFlags := 49
  interfaces := #[]
  cf := some (fileOf pool1 19 #[] #[{ accessFlags := 1, nameIndex := 5, descriptorIndex := 6, attributes := #[] }, { accessFlags := 9, nameIndex := 23, descriptorIndex := 24, attributes := #[] }] 49 2 #[] #[])
  fields := #[]
  methods := #[k1m0, k1m1]
  instanceTypes := #[]
  staticTypes := #[]
  resolved := Array.replicate 30 none
  statics := none }

def pool2 : Array CpInfo := pool [(3, .methodref 4 5), (0, .class_ 6), (0, .nameAndType 7 8), (0, u "java/lang/Object"), (0, u "<init>"), (0, u "()V"), (0, .fieldref 10 11), (0, .class_ 12), (0, .nameAndType 13 14), (0, u "com/example/workflow_soundness/workflowsoundness/analysis/SearchTree"), (0, u "_parents"), (0, u "[I"), (0, .fieldref 10 16), (0, .nameAndType 17 14), (0, u "_transitions"), (0, .fieldref 10 19), (0, .nameAndType 20 21), (0, u "_nodes"), (0, u "I"), (32, u "LONGEST_ARRAY"), (3, u "add"), (0, u "(II)I"), (2, u "path"), (0, u "(I)[I")] 3

def k2c0 : Code := { maxStack := 2, maxLocals := 1, code := prog_58_method_1_code, exceptionTable := #[], attributes := #[] }
def k2m0 : Method := { name := "<init>", desc := "()V", sig := { parameters := [], returnType := none }, accessFlags := 0, code := some k2c0 }
def k2c1 : Code := { maxStack := 4, maxLocals := 3, code := prog_58_method_2_code, exceptionTable := #[], attributes := #[] }
def k2m1 : Method := { name := "add", desc := "(II)I", sig := { parameters := [.int, .int], returnType := some .int }, accessFlags := 0, code := some k2c1 }
def k2c2 : Code := { maxStack := 4, maxLocals := 5, code := prog_58_method_4_code, exceptionTable := #[], attributes := #[] }
def k2m2 : Method := { name := "path", desc := "(I)[I", sig := { parameters := [.int], returnType := some (.array .int) }, accessFlags := 0, code := some k2c2 }
/-- com/example/workflow_soundness/workflowsoundness/analysis/SearchTree -/
def k2 : Class := { plain "com/example/workflow_soundness/workflowsoundness/analysis/SearchTree" (some 0) with
  accessFlags := 48
  interfaces := #[]
  cf := some (fileOf pool2 10 #[] #[{ accessFlags := 0, nameIndex := 7, descriptorIndex := 8, attributes := #[] }, { accessFlags := 0, nameIndex := 58, descriptorIndex := 59, attributes := #[] }, { accessFlags := 0, nameIndex := 62, descriptorIndex := 63, attributes := #[] }] 48 4 #[] #[{ accessFlags := 26, nameIndex := 54, descriptorIndex := 21, attributes := #[] }, { accessFlags := 2, nameIndex := 13, descriptorIndex := 14, attributes := #[] }, { accessFlags := 2, nameIndex := 17, descriptorIndex := 14, attributes := #[] }, { accessFlags := 2, nameIndex := 20, descriptorIndex := 21, attributes := #[] }])
  fields := #[{ name := "LONGEST_ARRAY", type := .int, accessFlags := 26, slot := 0, constantValue := 0 }, { name := "_parents", type := (.array .int), accessFlags := 2, slot := 0, constantValue := 0 }, { name := "_transitions", type := (.array .int), accessFlags := 2, slot := 1, constantValue := 0 }, { name := "_nodes", type := .int, accessFlags := 2, slot := 2, constantValue := 0 }]
  methods := #[k2m0, k2m1, k2m2]
  instanceTypes := #[(.array .int), (.array .int), .int]
  staticTypes := #[.int]
  resolved := Array.replicate 67 none
  statics := none }

def pool3 : Array CpInfo := pool [(1, u "java/lang/Cloneable"), (0, .class_ 1), (0, u "java/lang/Object"), (0, .class_ 3)] 3

/-- java/lang/Cloneable -/
def k3 : Class := { plain "java/lang/Cloneable" (some 0) with
  accessFlags := 1537
  interfaces := #[]
  cf := some (fileOf pool3 2 #[] #[] 1537 4 #[] #[])
  fields := #[]
  methods := #[]
  instanceTypes := #[]
  staticTypes := #[]
  resolved := Array.replicate 8 none
  statics := none }

def pool4 : Array CpInfo := pool [(1, u "java/io/Serializable"), (0, .class_ 1), (0, u "java/lang/Object"), (0, .class_ 3)] 3

/-- java/io/Serializable -/
def k4 : Class := { plain "java/io/Serializable" (some 0) with
  accessFlags := 1537
  interfaces := #[]
  cf := some (fileOf pool4 2 #[] #[] 1537 4 #[] #[])
  fields := #[]
  methods := #[]
  instanceTypes := #[]
  staticTypes := #[]
  resolved := Array.replicate 8 none
  statics := none }

/-- the primitive byte -/
def k5 : Class := { plain "byte" none with kind := .primitive 'B', accessFlags := 0x411 }
/-- [B -/
def k6 : Class := { plain "[B" (some 0) with kind := .array 5 .byte, interfaces := #[3, 4], accessFlags := 1041 }

/-- the primitive int -/
def k7 : Class := { plain "int" none with kind := .primitive 'I', accessFlags := 0x411 }
/-- [I -/
def k8 : Class := { plain "[I" (some 0) with kind := .array 7 .int, interfaces := #[3, 4], accessFlags := 1041 }

def heap : Heap := #[]
def classes : Array Class := #[k0, k1, k2, k3, k4, k5, k6, k7, k8]
def interned : List (Array UInt16 × Addr) := []
def slotsUsed : Nat := 0
def theMethod : MethodId := ⟨1, 1⟩
def args0 : Array Value := #[.int 5, .int 4, .int 6, .int 9, .int 3, .int 12]
def aboutOver (below : List Frame) : State where
  vm := { classes := classes, interned := interned.toArray }
  heap := heap
  slotsUsed := slotsUsed
  threads := #[{ frames := .invoking theMethod args0 :: below }]
def below0 : List Frame := [.native { method := ⟨0, 0⟩, args := #[] }]
def about1 : State := aboutOver below0
def p0 : Program := .bare "" "" ""
def e0 : Env := launch0.env 0 0 0
theorem w_frames : about1.frames = Frame.invoking theMethod args0 :: below0 := rfl
set_option maxRecDepth 65536 in
theorem w_args : argsFit about1.vm theMethod args0 = true := by decide +kernel
set_option maxRecDepth 65536 in
theorem w_heap : heapFits about1 = true := by decide +kernel
set_option maxRecDepth 65536 in
theorem w_runnable : about1.curStatus? = some .runnable := by decide +kernel
set_option maxRecDepth 65536 in
theorem w_alone : about1.alone = true := by decide +kernel
set_option maxRecDepth 65536 in
theorem w_named : about1.methodNamed? x = some theMethod := by decide +kernel
set_option maxRecDepth 65536 in
theorem w_hears : about1.hears theMethod below0 = true := by decide +kernel
set_option maxRecDepth 65536 in
theorem w_ripe : about1.ripe theMethod args0 below0 = true := by decide +kernel
theorem w_running : about1.status = .running := rfl
set_option maxRecDepth 65536 in
theorem w_room : about1.hasRoom e0.platform room_1 = true :=
  launch0.hasRoom_least _ room_1 (by decide +kernel) (by decide +kernel) (by decide +kernel) (by decide +kernel) (by decide +kernel) (by decide +kernel)
theorem allAtoms_all (ts : List Jvm.Cond) (a : Array Jvm.Value) (st : Jvm.State) : (allAtoms ts).before a st = ts.all (fun c => c.before a st) := by
  induction ts with
  | nil => rfl
  | cons c t ih =>
    show (Jvm.Cond.and c (allAtoms t)).before a st = _
    rw [Jvm.Cond.before_and, ih, List.all_cons]
def words1 : List Jvm.Cond := Jvm.Cond.code x code maxLocals ret :: tables_1
/-- a 'code' word, met by the world's own term for the bytes: nothing is compared byte by byte -/
theorem code_word {y : MethodName} {bytes : ByteArray} {mx : Nat} {rt : Option FieldType} {a : Array Value} {s : State} {m : MethodId} {meth : Method} {c : Code} (h1 : s.methodNamed? y = some m) (h2 : s.vm.method? m = some meth) (h3 : meth.code = some c) (h4 : c.code = bytes)
    (h5 : (c.maxLocals == mx && c.exceptionTable.isEmpty && decide (c.maxStack ≤ mostOperands) && decide (meth.sig.returnType = rt) && !meth.locks && decide (parseMethodDescriptor y.desc = some meth.sig)) = true) : (Jvm.Cond.code y bytes mx rt).before a s = true := by
  simp only [Bool.and_eq_true, beq_iff_eq, Bool.not_eq_true', decide_eq_true_eq] at h5
  obtain ⟨⟨⟨⟨⟨g1, g2⟩, g3⟩, g4⟩, g5⟩, g6⟩ := h5
  simp [Cond.before, Cond.holds, Cond.value, h1, h2, h3, h4, g1, g2, g3, g4, g5, g6]
def isCode : Jvm.Cond → Bool
  | .code _ _ _ _ => true
  | _ => false
theorem all_split {L : List Jvm.Cond} {P : Jvm.Cond → Bool} (h1 : L.all (fun c => isCode c || P c) = true) (h2 : ∀ c ∈ L.filter isCode, P c = true) : L.all P = true := by
  refine List.all_eq_true.mpr fun c hc => ?_
  have h := List.all_eq_true.mp h1 c hc
  rcases Bool.eq_false_or_eq_true (isCode c) with hi | hi
  · exact h2 c (List.mem_filter.mpr ⟨hc, hi⟩)
  · simpa [hi] using h
set_option maxRecDepth 65536 in
theorem w_c0 : (Jvm.Cond.code x code maxLocals ret).before args0 about1 = true := code_word (m := ⟨1, 1⟩) (meth := k1m1) (c := k1c1) (by decide +kernel) rfl rfl rfl (by decide +kernel)
set_option maxRecDepth 65536 in
theorem w_c1 : (Jvm.Cond.code ({ cls := "com/example/workflow_soundness/workflowsoundness/analysis/SearchTree", name := "<init>", desc := "()V" } : Jvm.MethodName) prog_58_method_1_code (1 : Nat) (Option.none : Option Jvm.ClassFile.FieldType)).before args0 about1 = true := code_word (m := ⟨2, 0⟩) (meth := k2m0) (c := k2c0) (by decide +kernel) rfl rfl rfl (by decide +kernel)
set_option maxRecDepth 65536 in
theorem w_c2 : (Jvm.Cond.code ({ cls := "java/lang/Object", name := "<init>", desc := "()V" } : Jvm.MethodName) object_method_1_code (1 : Nat) (Option.none : Option Jvm.ClassFile.FieldType)).before args0 about1 = true := code_word (m := ⟨0, 0⟩) (meth := k0m0) (c := k0c0) (by decide +kernel) rfl rfl rfl (by decide +kernel)
set_option maxRecDepth 65536 in
theorem w_c3 : (Jvm.Cond.code ({ cls := "com/example/workflow_soundness/workflowsoundness/analysis/SearchTree", name := "add", desc := "(II)I" } : Jvm.MethodName) prog_58_method_2_code (3 : Nat) (Option.some Jvm.ClassFile.FieldType.int)).before args0 about1 = true := code_word (m := ⟨2, 1⟩) (meth := k2m1) (c := k2c1) (by decide +kernel) rfl rfl rfl (by decide +kernel)
set_option maxRecDepth 65536 in
theorem w_c4 : (Jvm.Cond.code ({ cls := "com/example/workflow_soundness/workflowsoundness/analysis/SearchTree", name := "path", desc := "(I)[I" } : Jvm.MethodName) prog_58_method_4_code (5 : Nat) (Option.some (Jvm.ClassFile.FieldType.array Jvm.ClassFile.FieldType.int))).before args0 about1 = true := code_word (m := ⟨2, 2⟩) (meth := k2m2) (c := k2c2) (by decide +kernel) rfl rfl rfl (by decide +kernel)
def codes1 : List Jvm.Cond := [Jvm.Cond.code x code maxLocals ret, Jvm.Cond.code ({ cls := "com/example/workflow_soundness/workflowsoundness/analysis/SearchTree", name := "<init>", desc := "()V" } : Jvm.MethodName) prog_58_method_1_code (1 : Nat) (Option.none : Option Jvm.ClassFile.FieldType), Jvm.Cond.code ({ cls := "java/lang/Object", name := "<init>", desc := "()V" } : Jvm.MethodName) object_method_1_code (1 : Nat) (Option.none : Option Jvm.ClassFile.FieldType), Jvm.Cond.code ({ cls := "com/example/workflow_soundness/workflowsoundness/analysis/SearchTree", name := "add", desc := "(II)I" } : Jvm.MethodName) prog_58_method_2_code (3 : Nat) (Option.some Jvm.ClassFile.FieldType.int), Jvm.Cond.code ({ cls := "com/example/workflow_soundness/workflowsoundness/analysis/SearchTree", name := "path", desc := "(I)[I" } : Jvm.MethodName) prog_58_method_4_code (5 : Nat) (Option.some (Jvm.ClassFile.FieldType.array Jvm.ClassFile.FieldType.int))]
set_option maxRecDepth 65536 in
theorem codes_eq : words1.filter isCode = codes1 := rfl
theorem w_codes : ∀ c ∈ words1.filter isCode, c.before args0 about1 = true := by
  rw [codes_eq]
  intro c hc
  simp only [codes1, List.mem_cons, List.not_mem_nil, or_false] at hc
  rcases hc with rfl | rfl | rfl | rfl | rfl
  · exact w_c0
  · exact w_c1
  · exact w_c2
  · exact w_c3
  · exact w_c4
set_option maxRecDepth 65536 in
theorem w_t1 : (words1.take 24).all (fun c => isCode c || c.before args0 about1) = true := by decide +kernel
set_option maxRecDepth 65536 in
theorem w_t2 : (words1.drop 24).all (fun c => isCode c || c.before args0 about1) = true := by decide +kernel
theorem w_tables : (allAtoms (Jvm.Cond.code x code maxLocals ret :: tables_1)).before args0 about1 = true := by
  rw [allAtoms_all]
  show words1.all (fun c => c.before args0 about1) = true
  refine all_split ?_ w_codes
  rw [← List.take_append_drop 24 words1, List.all_append, w_t1, w_t2]
  rfl
set_option maxRecDepth 65536 in
theorem w_case : (Jvm.Cond.and given_1 narrow_1).before args0 about1 = true := by decide +kernel
theorem w_applies : (headSpec (Jvm.Cond.code x code maxLocals ret :: tables_1) room_1).applies x e0.platform about1 = true :=
  (Spec.applies_iff w_frames).mpr ⟨w_running, w_runnable, w_alone, w_named, w_hears, w_ripe, w_room, w_tables⟩
theorem atStart : AtStart classFile x code maxLocals ret World_1 tables_1 room_1 Calls_1 rest_1 Pre_1 launch0 p0 e0 about1 theMethod args0 below0 :=
  ⟨lists_1, trivial, launch0.admits_env _ _ _, launch0.least_env, fairChoices_fair.cas, fairChoices_fair.clock, w_frames, w_args, w_heap, w_applies, trivial, trivial, w_case⟩
end start1
theorem witness_1 : WitnessClaimed_1 := ⟨start1.p0, start1.e0, start1.about1, start1.theMethod, start1.args0, start1.below0, start1.atStart⟩
end Jvm.Pilot.@@N@@
