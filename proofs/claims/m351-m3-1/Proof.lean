import JvmDerived
import JvmDerived.Pilot.@@N@@Statement
import JvmDerived.Pilot.@@N@@Code
set_option linter.unusedVariables false
set_option linter.unusedSimpArgs false
namespace Jvm.Pilot.@@N@@
open Jvm Jvm.ClassFile Sem Op Lib Jvm.Free Jvm.Stand Jvm.LawKit Jvm.RoadKit Bundle Jvm.Pilot.@@N@@.Jvm.D

/-! own layer: a run that ends well, step by step (every lemma here is of this text) -/
section Own
variable {p : Program} {l : Launch} {e : Env} {R : Room} {s : State} {m : MethodId} {args : Array Value} {below : List Frame} {meth : Method} {c : Code} {T : State} {locs : List Loc} {cells slots : Nat} {P : State → Outcome → Prop} {pc pc' pc1 : Nat} {L L' : Array Slot} {S : List Value} {Z : State} {a0 : Array Value} {h : Heap}
/-- from this frame the run ends, and P holds of the end -/
def Ends (p : Program) (e : Env) (below : List Frame) (P : State → Outcome → Prop) (T : State) (m : MethodId) (pc : Nat) (L : Array Slot) (S : List Value) : Prop :=
  ∃ t o, Steps p.tables e below (T.setTop (mkF m pc L S)) t ∧ t.status = .running ∧ Ended t below o ∧ P t o
theorem Ends.of {T' : State} {S' : List Value} (k : Ends p e below P T' m pc' L' S') (h : ∀ target, Steps p.tables e below (T'.setTop (mkF m pc' L' S')) target → Steps p.tables e below (T.setTop (mkF m pc L S)) target) : Ends p e below P T m pc L S := by
  obtain ⟨t, o, h1, h2⟩ := k; exact ⟨t, o, h _ h1, h2⟩
theorem eILoadN (X : Stand p l e R s m args below meth c T locs cells slots) (hx : p.tables.exec = Jvm.exec) {k : Fin 4} {v : Int32} (hd : decode c.code pc = .ok (.iload_n k, 1)) (hl : L[k.val]? = some (.val (.int v))) (hp : pc + 1 = pc') (kk : Ends p e below P T m pc' L (.int v :: S)) : Ends p e below P T m pc L S := by
  subst hp; exact kk.of fun t h => XS.iloadN X.here hx rfl hd hl h
theorem eILoad (X : Stand p l e R s m args below meth c T locs cells slots) (hx : p.tables.exec = Jvm.exec) {k : Nat} {v : Int32} (hd : decode c.code pc = .ok (.iload k, 2)) (hl : L[k]? = some (.val (.int v))) (hp : pc + 2 = pc') (kk : Ends p e below P T m pc' L (.int v :: S)) : Ends p e below P T m pc L S := by
  subst hp; exact kk.of fun t h => XS.iload X.here hx rfl hd hl h
theorem eLLoadN (X : Stand p l e R s m args below meth c T locs cells slots) (hx : p.tables.exec = Jvm.exec) {k : Fin 4} {v : Int64} (hd : decode c.code pc = .ok (.lload_n k, 1)) (hl : L[k.val]? = some (.val (.long v))) (hp : pc + 1 = pc') (kk : Ends p e below P T m pc' L (.long v :: S)) : Ends p e below P T m pc L S := by
  subst hp; exact kk.of fun t h => XT.lloadN X.here hx rfl hd hl h
theorem eLLoad (X : Stand p l e R s m args below meth c T locs cells slots) (hx : p.tables.exec = Jvm.exec) {k : Nat} {v : Int64} (hd : decode c.code pc = .ok (.lload k, 2)) (hl : L[k]? = some (.val (.long v))) (hp : pc + 2 = pc') (kk : Ends p e below P T m pc' L (.long v :: S)) : Ends p e below P T m pc L S := by
  subst hp; exact kk.of fun t h => XT.lload X.here hx rfl hd hl h
theorem eALoadN (X : Stand p l e R s m args below meth c T locs cells slots) (hx : p.tables.exec = Jvm.exec) {k : Fin 4} {v : Value} (hd : decode c.code pc = .ok (.aload_n k, 1)) (hl : L[k.val]? = some (.val v)) (hv : v.isRef = true) (hp : pc + 1 = pc') (kk : Ends p e below P T m pc' L (v :: S)) : Ends p e below P T m pc L S := by
  subst hp; exact kk.of fun t h => XS.aloadN X.here hx rfl hd hl hv h
theorem eALoad (X : Stand p l e R s m args below meth c T locs cells slots) (hx : p.tables.exec = Jvm.exec) {k : Nat} {v : Value} (hd : decode c.code pc = .ok (.aload k, 2)) (hl : L[k]? = some (.val v)) (hv : v.isRef = true) (hp : pc + 2 = pc') (kk : Ends p e below P T m pc' L (v :: S)) : Ends p e below P T m pc L S := by
  subst hp; exact kk.of fun t h => XS.aload X.here hx rfl hd hl hv h
theorem eIStoreN (X : Stand p l e R s m args below meth c T locs cells slots) (hx : p.tables.exec = Jvm.exec) {k : Fin 4} {v : Int32} (hd : decode c.code pc = .ok (.istore_n k, 1)) (hl : storeLocals L k.val (.int v) = some L') (hp : pc + 1 = pc') (kk : Ends p e below P T m pc' L' S) : Ends p e below P T m pc L (.int v :: S) := by
  subst hp; exact kk.of fun t h => XS.istoreN X.here hx rfl hd rfl hl h
theorem eIStore (X : Stand p l e R s m args below meth c T locs cells slots) (hx : p.tables.exec = Jvm.exec) {k : Nat} {v : Int32} (hd : decode c.code pc = .ok (.istore k, 2)) (hl : storeLocals L k (.int v) = some L') (hp : pc + 2 = pc') (kk : Ends p e below P T m pc' L' S) : Ends p e below P T m pc L (.int v :: S) := by
  subst hp; exact kk.of fun t h => XS.istore X.here hx rfl hd rfl hl h
theorem eLStoreN (X : Stand p l e R s m args below meth c T locs cells slots) (hx : p.tables.exec = Jvm.exec) {k : Fin 4} {v : Int64} (hd : decode c.code pc = .ok (.lstore_n k, 1)) (hl : storeLocals L k.val (.long v) = some L') (hp : pc + 1 = pc') (kk : Ends p e below P T m pc' L' S) : Ends p e below P T m pc L (.long v :: S) := by
  subst hp; exact kk.of fun t h => XT.lstoreN X.here hx rfl hd rfl hl h
theorem eLStore (X : Stand p l e R s m args below meth c T locs cells slots) (hx : p.tables.exec = Jvm.exec) {k : Nat} {v : Int64} (hd : decode c.code pc = .ok (.lstore k, 2)) (hl : storeLocals L k (.long v) = some L') (hp : pc + 2 = pc') (kk : Ends p e below P T m pc' L' S) : Ends p e below P T m pc L (.long v :: S) := by
  subst hp; exact kk.of fun t h => XT.lstore X.here hx rfl hd rfl hl h
theorem eAStoreN (X : Stand p l e R s m args below meth c T locs cells slots) (hx : p.tables.exec = Jvm.exec) {k : Fin 4} {v : Value} (hd : decode c.code pc = .ok (.astore_n k, 1)) (hv : v.isRef = true) (hl : storeLocals L k.val v = some L') (hp : pc + 1 = pc') (kk : Ends p e below P T m pc' L' S) : Ends p e below P T m pc L (v :: S) := by
  subst hp; exact kk.of fun t h => XS.astoreN X.here hx rfl hd rfl hv hl h
theorem eAStore (X : Stand p l e R s m args below meth c T locs cells slots) (hx : p.tables.exec = Jvm.exec) {k : Nat} {v : Value} (hd : decode c.code pc = .ok (.astore k, 2)) (hv : v.isRef = true) (hl : storeLocals L k v = some L') (hp : pc + 2 = pc') (kk : Ends p e below P T m pc' L' S) : Ends p e below P T m pc L (v :: S) := by
  subst hp; exact kk.of fun t h => XS.astore X.here hx rfl hd rfl hv hl h
theorem eIConst (X : Stand p l e R s m args below meth c T locs cells slots) (hx : p.tables.exec = Jvm.exec) {i : Int} (v : Int32) (hd : decode c.code pc = .ok (.iconst i, 1)) (hv : Int32.ofInt i = v) (hp : pc + 1 = pc') (kk : Ends p e below P T m pc' L (.int v :: S)) : Ends p e below P T m pc L S := by
  subst hp hv; exact kk.of fun t h => XS.iconst X.here hx rfl hd h
theorem eBipush (X : Stand p l e R s m args below meth c T locs cells slots) (hx : p.tables.exec = Jvm.exec) {i : Int} (v : Int32) (hd : decode c.code pc = .ok (.bipush i, 2)) (hv : (Int8.ofInt i).toInt32 = v) (hp : pc + 2 = pc') (kk : Ends p e below P T m pc' L (.int v :: S)) : Ends p e below P T m pc L S := by
  subst hp hv; exact kk.of fun t h => XS.bipush X.here hx rfl hd h
theorem eSipush (X : Stand p l e R s m args below meth c T locs cells slots) (hx : p.tables.exec = Jvm.exec) {i : Int} (v : Int32) (hd : decode c.code pc = .ok (.sipush i, 3)) (hv : (Int16.ofInt i).toInt32 = v) (hp : pc + 3 = pc') (kk : Ends p e below P T m pc' L (.int v :: S)) : Ends p e below P T m pc L S := by
  subst hp hv; exact kk.of fun t h => XS.sipush X.here hx rfl hd h
theorem eLConst (X : Stand p l e R s m args below meth c T locs cells slots) (hx : p.tables.exec = Jvm.exec) {k : Fin 2} (v : Int64) (hd : decode c.code pc = .ok (.lconst k, 1)) (hv : Int64.ofNat k = v) (hp : pc + 1 = pc') (kk : Ends p e below P T m pc' L (.long v :: S)) : Ends p e below P T m pc L S := by
  subst hp; exact kk.of fun t h => XT.lconstV X.here hx rfl v hd hv h
theorem eNull (X : Stand p l e R s m args below meth c T locs cells slots) (hx : p.tables.exec = Jvm.exec) (hd : decode c.code pc = .ok (.aconst_null, 1)) (hp : pc + 1 = pc') (kk : Ends p e below P T m pc' L (.null :: S)) : Ends p e below P T m pc L S := by
  subst hp; exact kk.of fun t h => XS.aconstNull X.here hx rfl hd h
theorem eLdcI (X : Stand p l e R s m args below meth c T locs cells slots) (hx : p.tables.exec = Jvm.exec) (hZ : Z.Warmed39 s.vm) {own : String} {index : Nat} {v : Int32} (hown : s.vm.findClass own = some m.cls) (w : (Cond.constant own index v).before a0 Z = true) (hd : decode c.code pc = .ok (.ldc index, 2)) (hp : pc + 2 = pc') (kk : Ends p e below P T m pc' L (.int v :: S)) : Ends p e below P T m pc L S := by
  subst hp; exact kk.of fun t h => X.ldcI hx hown (mvT hZ w) rfl hd h
theorem eLdcWI (X : Stand p l e R s m args below meth c T locs cells slots) (hx : p.tables.exec = Jvm.exec) (hZ : Z.Warmed39 s.vm) {own : String} {index : Nat} {v : Int32} (hown : s.vm.findClass own = some m.cls) (w : (Cond.constant own index v).before a0 Z = true) (hd : decode c.code pc = .ok (.ldc_w index, 3)) (hp : pc + 3 = pc') (kk : Ends p e below P T m pc' L (.int v :: S)) : Ends p e below P T m pc L S := by
  subst hp; exact kk.of fun t h => X.ldcWI hx hown (mvT hZ w) rfl hd h
theorem eLdc2J (X : Stand p l e R s m args below meth c T locs cells slots) (hx : p.tables.exec = Jvm.exec) (hZ : Z.Warmed39 s.vm) {own : String} {index : Nat} {v : Int64} (hown : s.vm.findClass own = some m.cls) (w : (Cond.constantLong own index v).before a0 Z = true) (hd : decode c.code pc = .ok (.ldc2_w index, 3)) (hp : pc + 3 = pc') (kk : Ends p e below P T m pc' L (.long v :: S)) : Ends p e below P T m pc L S := by
  subst hp; exact kk.of fun t h => X.ldc2J hx hown (mvT hZ w) rfl hd h
theorem eIAdd (X : Stand p l e R s m args below meth c T locs cells slots) (hx : p.tables.exec = Jvm.exec) {x y : Int32} (hd : decode c.code pc = .ok (.iadd, 1)) (hp : pc + 1 = pc') (kk : Ends p e below P T m pc' L (.int (x + y) :: S)) : Ends p e below P T m pc L (.int y :: .int x :: S) := by
  subst hp; exact kk.of fun t h => XS.iadd X.here hx rfl hd rfl h
theorem eISub (X : Stand p l e R s m args below meth c T locs cells slots) (hx : p.tables.exec = Jvm.exec) {x y : Int32} (hd : decode c.code pc = .ok (.isub, 1)) (hp : pc + 1 = pc') (kk : Ends p e below P T m pc' L (.int (x - y) :: S)) : Ends p e below P T m pc L (.int y :: .int x :: S) := by
  subst hp; exact kk.of fun t h => XS.isub X.here hx rfl hd rfl h
theorem eIMul (X : Stand p l e R s m args below meth c T locs cells slots) (hx : p.tables.exec = Jvm.exec) {x y : Int32} (hd : decode c.code pc = .ok (.imul, 1)) (hp : pc + 1 = pc') (kk : Ends p e below P T m pc' L (.int (x * y) :: S)) : Ends p e below P T m pc L (.int y :: .int x :: S) := by
  subst hp; exact kk.of fun t h => XS.imul X.here hx rfl hd rfl h
theorem eIAnd (X : Stand p l e R s m args below meth c T locs cells slots) (hx : p.tables.exec = Jvm.exec) {x y : Int32} (hd : decode c.code pc = .ok (.iand, 1)) (hp : pc + 1 = pc') (kk : Ends p e below P T m pc' L (.int (x &&& y) :: S)) : Ends p e below P T m pc L (.int y :: .int x :: S) := by
  subst hp; exact kk.of fun t h => XS.iand X.here hx rfl hd rfl h
theorem eIDiv (X : Stand p l e R s m args below meth c T locs cells slots) (hx : p.tables.exec = Jvm.exec) {x y : Int32} (hd : decode c.code pc = .ok (.idiv, 1)) (hy : y ≠ 0) (hp : pc + 1 = pc') (kk : Ends p e below P T m pc' L (.int (x / y) :: S)) : Ends p e below P T m pc L (.int y :: .int x :: S) := by
  subst hp; exact kk.of fun t h => XS.idiv X.here hx rfl hd rfl hy h
theorem eIRem (X : Stand p l e R s m args below meth c T locs cells slots) (hx : p.tables.exec = Jvm.exec) {x y : Int32} (hd : decode c.code pc = .ok (.irem, 1)) (hy : y ≠ 0) (hp : pc + 1 = pc') (kk : Ends p e below P T m pc' L (.int (x % y) :: S)) : Ends p e below P T m pc L (.int y :: .int x :: S) := by
  subst hp; exact kk.of fun t h => iremM X hx rfl hd rfl hy h
theorem eIShr (X : Stand p l e R s m args below meth c T locs cells slots) (hx : p.tables.exec = Jvm.exec) {x y : Int32} (hd : decode c.code pc = .ok (.ishr, 1)) (hp : pc + 1 = pc') (kk : Ends p e below P T m pc' L (.int (x >>> (y &&& 31)) :: S)) : Ends p e below P T m pc L (.int y :: .int x :: S) := by
  subst hp; exact kk.of fun t h => XS.ishr X.here hx rfl hd rfl h
theorem eIUshr (X : Stand p l e R s m args below meth c T locs cells slots) (hx : p.tables.exec = Jvm.exec) {x y : Int32} (hd : decode c.code pc = .ok (.iushr, 1)) (hp : pc + 1 = pc') (kk : Ends p e below P T m pc' L (.int ((x.toUInt32 >>> (y &&& 31).toUInt32).toInt32) :: S)) : Ends p e below P T m pc L (.int y :: .int x :: S) := by
  subst hp; exact kk.of fun t h => XS.iushr X.here hx rfl hd rfl h
theorem eI2C (X : Stand p l e R s m args below meth c T locs cells slots) (hx : p.tables.exec = Jvm.exec) {x : Int32} (hd : decode c.code pc = .ok (.i2c, 1)) (hp : pc + 1 = pc') (kk : Ends p e below P T m pc' L (.int (x.toUInt32.toUInt16.toUInt32.toInt32) :: S)) : Ends p e below P T m pc L (.int x :: S) := by
  subst hp; exact kk.of fun t h => XS.i2c X.here hx rfl hd rfl h
theorem eI2B (X : Stand p l e R s m args below meth c T locs cells slots) (hx : p.tables.exec = Jvm.exec) {x : Int32} (hd : decode c.code pc = .ok (.i2b, 1)) (hp : pc + 1 = pc') (kk : Ends p e below P T m pc' L (.int (x.toInt8.toInt32) :: S)) : Ends p e below P T m pc L (.int x :: S) := by
  subst hp; exact kk.of fun t h => XS.i2b X.here hx rfl hd rfl h
theorem eI2L (X : Stand p l e R s m args below meth c T locs cells slots) (hx : p.tables.exec = Jvm.exec) {x : Int32} (hd : decode c.code pc = .ok (.i2l, 1)) (hp : pc + 1 = pc') (kk : Ends p e below P T m pc' L (.long (x.toInt64) :: S)) : Ends p e below P T m pc L (.int x :: S) := by
  subst hp; exact kk.of fun t h => XS.i2l X.here hx rfl hd rfl h
theorem eLAdd (X : Stand p l e R s m args below meth c T locs cells slots) (hx : p.tables.exec = Jvm.exec) {x y : Int64} (hd : decode c.code pc = .ok (.ladd, 1)) (hp : pc + 1 = pc') (kk : Ends p e below P T m pc' L (.long (x + y) :: S)) : Ends p e below P T m pc L (.long y :: .long x :: S) := by
  subst hp; exact kk.of fun t h => XS.ladd X.here hx rfl hd rfl h
theorem eLSub (X : Stand p l e R s m args below meth c T locs cells slots) (hx : p.tables.exec = Jvm.exec) {x y : Int64} (hd : decode c.code pc = .ok (.lsub, 1)) (hp : pc + 1 = pc') (kk : Ends p e below P T m pc' L (.long (x - y) :: S)) : Ends p e below P T m pc L (.long y :: .long x :: S) := by
  subst hp; exact kk.of fun t h => XS.lsub X.here hx rfl hd rfl h
theorem eLAnd (X : Stand p l e R s m args below meth c T locs cells slots) (hx : p.tables.exec = Jvm.exec) {x y : Int64} (hd : decode c.code pc = .ok (.land, 1)) (hp : pc + 1 = pc') (kk : Ends p e below P T m pc' L (.long (x &&& y) :: S)) : Ends p e below P T m pc L (.long y :: .long x :: S) := by
  subst hp; exact kk.of fun t h => XS.land X.here hx rfl hd rfl h
theorem eLOr (X : Stand p l e R s m args below meth c T locs cells slots) (hx : p.tables.exec = Jvm.exec) {x y : Int64} (hd : decode c.code pc = .ok (.lor, 1)) (hp : pc + 1 = pc') (kk : Ends p e below P T m pc' L (.long (x ||| y) :: S)) : Ends p e below P T m pc L (.long y :: .long x :: S) := by
  subst hp; exact kk.of fun t h => XS.lor X.here hx rfl hd rfl h
theorem eLShl (X : Stand p l e R s m args below meth c T locs cells slots) (hx : p.tables.exec = Jvm.exec) {x : Int64} {y : Int32} (hd : decode c.code pc = .ok (.lshl, 1)) (hp : pc + 1 = pc') (kk : Ends p e below P T m pc' L (.long (x <<< (y &&& 0x3f).toInt64) :: S)) : Ends p e below P T m pc L (.int y :: .long x :: S) := by
  subst hp; exact kk.of fun t h => XS.lshl X.here hx rfl hd rfl h
theorem eLShr (X : Stand p l e R s m args below meth c T locs cells slots) (hx : p.tables.exec = Jvm.exec) {x : Int64} {y : Int32} (hd : decode c.code pc = .ok (.lshr, 1)) (hp : pc + 1 = pc') (kk : Ends p e below P T m pc' L (.long (x >>> (y &&& 0x3f).toInt64) :: S)) : Ends p e below P T m pc L (.int y :: .long x :: S) := by
  subst hp; exact kk.of fun t h => XS.lshr X.here hx rfl hd rfl h
theorem eLDiv (X : Stand p l e R s m args below meth c T locs cells slots) (hx : p.tables.exec = Jvm.exec) {x y : Int64} (hd : decode c.code pc = .ok (.ldiv, 1)) (hy : y ≠ 0) (hp : pc + 1 = pc') (kk : Ends p e below P T m pc' L (.long (x / y) :: S)) : Ends p e below P T m pc L (.long y :: .long x :: S) := by
  subst hp; exact kk.of fun t h => XT.ldiv X.here hx rfl hd rfl hy h
theorem eLRem (X : Stand p l e R s m args below meth c T locs cells slots) (hx : p.tables.exec = Jvm.exec) {x y : Int64} (hd : decode c.code pc = .ok (.lrem, 1)) (hy : y ≠ 0) (hp : pc + 1 = pc') (kk : Ends p e below P T m pc' L (.long (x % y) :: S)) : Ends p e below P T m pc L (.long y :: .long x :: S) := by
  subst hp; exact kk.of fun t h => XT.lrem X.here hx rfl hd rfl hy (by first | exact h | (rw [lrem_mod]; exact h))
theorem eLNeg (X : Stand p l e R s m args below meth c T locs cells slots) (hx : p.tables.exec = Jvm.exec) {x : Int64} (hd : decode c.code pc = .ok (.lneg, 1)) (hp : pc + 1 = pc') (kk : Ends p e below P T m pc' L (.long (-x) :: S)) : Ends p e below P T m pc L (.long x :: S) := by
  subst hp; exact kk.of fun t h => XT.lneg X.here hx rfl hd rfl h
theorem eLCmp (X : Stand p l e R s m args below meth c T locs cells slots) (hx : p.tables.exec = Jvm.exec) {x y : Int64} (hd : decode c.code pc = .ok (.lcmp, 1)) (hp : pc + 1 = pc') (kk : Ends p e below P T m pc' L (.int (XT.cmpL x y) :: S)) : Ends p e below P T m pc L (.long y :: .long x :: S) := by
  subst hp; exact kk.of fun t h => XT.lcmp X.here hx rfl hd rfl h
theorem eDup (X : Stand p l e R s m args below meth c T locs cells slots) (hx : p.tables.exec = Jvm.exec) {v : Value} (hd : decode c.code pc = .ok (.dup, 1)) (hc : v.category = 1) (hp : pc + 1 = pc') (kk : Ends p e below P T m pc' L (v :: v :: S)) : Ends p e below P T m pc L (v :: S) := by
  subst hp; exact kk.of fun t h => XS.dup X.here hx rfl hd rfl hc h
theorem ePop (X : Stand p l e R s m args below meth c T locs cells slots) (hx : p.tables.exec = Jvm.exec) {v : Value} (hd : decode c.code pc = .ok (.pop, 1)) (hc : v.category = 1) (hp : pc + 1 = pc') (kk : Ends p e below P T m pc' L S) : Ends p e below P T m pc L (v :: S) := by
  subst hp; exact kk.of fun t h => XT.pop X.here hx rfl hd rfl hc h
theorem eDupX1 (X : Stand p l e R s m args below meth c T locs cells slots) (hx : p.tables.exec = Jvm.exec) {v w : Value} (hd : decode c.code pc = .ok (.dup_x1, 1)) (hc : v.category = 1) (hc' : w.category = 1) (hp : pc + 1 = pc') (kk : Ends p e below P T m pc' L (v :: w :: v :: S)) : Ends p e below P T m pc L (v :: w :: S) := by
  subst hp; exact kk.of fun t h => XT.dupX1 X.here hx rfl hd rfl hc hc' h
theorem eDup2 (X : Stand p l e R s m args below meth c T locs cells slots) (hx : p.tables.exec = Jvm.exec) {v w : Value} (hd : decode c.code pc = .ok (.dup2, 1)) (hc : v.category = 1) (hc' : w.category = 1) (hp : pc + 1 = pc') (kk : Ends p e below P T m pc' L (v :: w :: v :: w :: S)) : Ends p e below P T m pc L (v :: w :: S) := by
  subst hp; exact kk.of fun t h => XT.dup2 X.here hx rfl hd rfl hc hc' h
theorem eDupX2 (X : Stand p l e R s m args below meth c T locs cells slots) (hx : p.tables.exec = Jvm.exec) {v w u : Value} (hd : decode c.code pc = .ok (.dup_x2, 1)) (hc : v.category = 1) (hc' : w.category = 1) (hc2 : u.category = 1) (hp : pc + 1 = pc') (kk : Ends p e below P T m pc' L (v :: w :: u :: v :: S)) : Ends p e below P T m pc L (v :: w :: u :: S) := by
  subst hp
  refine kk.of fun t h => ?_
  jvm_step X.here [X.here.top, hx, hd, hc, hc', hc2]
  exact h
theorem eIInc (X : Stand p l e R s m args below meth c T locs cells slots) (hx : p.tables.exec = Jvm.exec) {k : Nat} {cst : Int} {x : Int32} (v : Int32) (hd : decode c.code pc = .ok (.iinc k cst, 3)) (hv : Int32.ofInt cst = v) (hl : L[k]? = some (.val (.int x))) (hl' : storeLocals L k (.int (x + v)) = some L') (hp : pc + 3 = pc') (kk : Ends p e below P T m pc' L' S) : Ends p e below P T m pc L S := by
  subst hp hv; exact kk.of fun t h => XS.iinc X.here hx rfl hd hl hl' h
theorem eGoto (X : Stand p l e R s m args below meth c T locs cells slots) (hx : p.tables.exec = Jvm.exec) {o : Int} (hd : decode c.code pc = .ok (.goto o, 3)) (ho : 0 ≤ (pc : Int) + o) (hp : ((pc : Int) + o).toNat = pc') (kk : Ends p e below P T m pc' L S) : Ends p e below P T m pc L S :=
  kk.of fun t h => XS.goto X.here hx rfl rfl hd ho hp h
theorem eIfY (X : Stand p l e R s m args below meth c T locs cells slots) (hx : p.tables.exec = Jvm.exec) {cd : ClassFile.Cond} {x : Int32} {o : Int} (hd : decode c.code pc = .ok (.ifCond cd o, 3)) (hc : ifCond.holds cd x = true) (ho : 0 ≤ (pc : Int) + o) (hp : ((pc : Int) + o).toNat = pc') (kk : Ends p e below P T m pc' L S) : Ends p e below P T m pc L (.int x :: S) :=
  kk.of fun t h => XS.ifYes X.here hx rfl rfl hd rfl hc ho hp h
theorem eIfN (X : Stand p l e R s m args below meth c T locs cells slots) (hx : p.tables.exec = Jvm.exec) {cd : ClassFile.Cond} {x : Int32} {o : Int} (hd : decode c.code pc = .ok (.ifCond cd o, 3)) (hc : ifCond.holds cd x = false) (hp : pc + 3 = pc') (kk : Ends p e below P T m pc' L S) : Ends p e below P T m pc L (.int x :: S) := by
  subst hp; exact kk.of fun t h => XS.ifNo X.here hx rfl hd rfl hc h
theorem eIcmpY (X : Stand p l e R s m args below meth c T locs cells slots) (hx : p.tables.exec = Jvm.exec) {cd : ClassFile.Cond} {x y : Int32} {o : Int} (hd : decode c.code pc = .ok (.if_icmp cd o, 3)) (hc : if_icmp.holds cd x y = true) (ho : 0 ≤ (pc : Int) + o) (hp : ((pc : Int) + o).toNat = pc') (kk : Ends p e below P T m pc' L S) : Ends p e below P T m pc L (.int y :: .int x :: S) :=
  kk.of fun t h => XS.icmpYes X.here hx rfl rfl hd rfl hc ho hp h
theorem eIcmpN (X : Stand p l e R s m args below meth c T locs cells slots) (hx : p.tables.exec = Jvm.exec) {cd : ClassFile.Cond} {x y : Int32} {o : Int} (hd : decode c.code pc = .ok (.if_icmp cd o, 3)) (hc : if_icmp.holds cd x y = false) (hp : pc + 3 = pc') (kk : Ends p e below P T m pc' L S) : Ends p e below P T m pc L (.int y :: .int x :: S) := by
  subst hp; exact kk.of fun t h => XS.icmpNo X.here hx rfl hd rfl hc h
/-! steps that read or write the heap -/
theorem eGetF (X : Stand p l e R s m args below meth c T locs cells slots) (hx : p.tables.exec = Jvm.exec) (hZ : Z.Warmed39 s.vm) {own R0 O n d : String} {index : Nat} (hown : s.vm.findClass own = some m.cls) (w : (Cond.fieldLink own index R0 n d).before a0 Z = true) (via : Via Z R0 O n d) (eT : T.heap = h) {a : Addr} {v : Value} (F : Fld Z h a O n d v) (hd : decode c.code pc = .ok (.getfield index, 3)) (hp : pc + 3 = pc')
    (kk : ∀ T', Stand p l e R s m args below meth c T' locs cells slots → T'.heap = h → Ends p e below P T' m pc' L (v :: S)) : Ends p e below P T m pc L (.ref a :: S) := by
  subst hp
  obtain ⟨T', X', e', st⟩ := getF X hx hZ hown (host := "") (Or.inl w) via eT F (g := mkF m pc L (.ref a :: S)) rfl rfl hd
  exact (kk T' X' e').of st
theorem ePutF (X : Stand p l e R s m args below meth c T locs cells slots) (hx : p.tables.exec = Jvm.exec) (hZ : Z.Warmed39 s.vm) {own R0 O n d C : String} {index kk0 : Nat} {ty : FieldType} (hown : s.vm.findClass own = some m.cls) (w : (Cond.fieldLink own index R0 n d).before a0 Z = true) (via : Via Z R0 O n d) (eT : T.heap = h) {a : Addr} {v old : Value} (F : Fld Z h a O n d old) (E : Exa Z h a C) (La : (Cond.lays C O n d).before a0 Z = true ∨ ((Cond.laysFinal C O n d).before a0 Z = true ∧ own = O ∧ meth.name = "<init>")) (wi : (Cond.instantiable C kk0).before a0 Z = true) (hty : parseFieldDescriptor d = some ty) (hn : narrow ty v = v) (hf : fits ty v = true) (hd : decode c.code pc = .ok (.putfield index, 3)) (hp : pc + 3 = pc')
    (kk : ∀ T' h', Stand p l e R s m args below meth c T' (locs ++ [⟨a, Jvm.RoadKit.slotOf Z O n d⟩]) cells slots → T'.heap = h' → Wr h h' a (Jvm.RoadKit.slotOf Z O n d) v → Ends p e below P T' m pc' L S) : Ends p e below P T m pc L (v :: .ref a :: S) := by
  subst hp
  obtain ⟨T', h', X', e', W, st⟩ := putF X hx hZ hown (host := "") (Or.inl w) via eT F E La wi hty hn hf (g := mkF m pc L (v :: .ref a :: S)) rfl rfl hd
  exact (kk T' h' X' e' W).of st
theorem eNewO (X : Stand p l e R s m args below meth c T locs cells slots) (hx : p.tables.exec = Jvm.exec) (hZ : Z.Warmed39 s.vm) {own C : String} {index n : Nat} (hown : s.vm.findClass own = some m.cls) (w : (Cond.classLink own index C).before a0 Z = true) (wi : (Cond.instantiable C n).before a0 Z = true) (wz : (Cond.initialized C).before a0 Z = true) (eT : T.heap = h) (hd : decode c.code pc = .ok (.new index, 3)) (hc : cells + 1 ≤ R.cells) (hl : slots + n ≤ R.slots) (hp : pc + 3 = pc')
    (kk : ∀ T' h' a, a = h.size → Stand p l e R s m args below meth c T' locs (cells + 1) (slots + n) → T'.heap = h' → Ext h h' → Exa Z h' a C → (∀ {O nm d : String} {ty : FieldType}, Laid Z a0 C O nm d → parseFieldDescriptor d = some ty → Fld Z h' a O nm d (defaultValue ty)) → Ends p e below P T' m pc' L (.ref a :: S)) : Ends p e below P T m pc L S := by
  subst hp
  obtain ⟨T', h', X', e', E, A, D, -, st⟩ := newO X hx hZ hown w wi wz eT (g := mkF m pc L S) rfl hd hc hl
  exact (kk T' h' _ rfl X' e' E A D).of st
theorem eInitO (X : Stand p l e R s m args below meth c T locs cells slots) (hx : p.tables.exec = Jvm.exec) (hZ : Z.Warmed39 s.vm) {own : String} {idx : Nat} (hown : s.vm.findClass own = some m.cls) (w1 : (Cond.methodLink own idx Lib.objectInit).before a0 Z = true) (w2 : (Cond.instanceMethod Lib.objectInit).before a0 Z = true) (w3 : (Cond.code Lib.objectInit object_method_1_code 1 none).before a0 Z = true) (eT : T.heap = h) (hsize : L.size = c.maxLocals) {a : Addr} (hd : decode c.code pc = .ok (.invokespecial idx, 3)) (hf : 1 ≤ R.frames) (W : Nat) (hW : 2 * 0 + (S.map fun v => v.category).sum ≤ W) (hl : W + 12 ≤ R.locals) (hp : pc + 3 = pc')
    (kk : ∀ T', Stand p l e R s m args below meth c T' locs cells slots → T'.heap = h → Ends p e below P T' m pc' L S) : Ends p e below P T m pc L (.ref a :: S) := by
  subst hp
  obtain ⟨T', X', e', st⟩ := initO X hx hZ hown w1 w2 w3 eT (g := mkF m pc L (.ref a :: S)) rfl hsize rfl hd hf hW hl
  exact (kk T' X' e').of st
theorem eGetS (X : Stand p l e R s m args below meth c T locs cells slots) (hx : p.tables.exec = Jvm.exec) (hZ : Z.Warmed39 s.vm) {own O n d : String} {index : Nat} (hown : s.vm.findClass own = some m.cls) (w : (Cond.fieldLink own index O n d).before a0 Z = true) (eT : T.heap = h) {v : Value} (F : Sta Z h O n d v) (hd : decode c.code pc = .ok (.getstatic index, 3)) (hp : pc + 3 = pc')
    (kk : ∀ T', Stand p l e R s m args below meth c T' locs cells slots → T'.heap = h → Ends p e below P T' m pc' L (v :: S)) : Ends p e below P T m pc L S := by
  subst hp
  obtain ⟨T', X', e', st⟩ := getS X hx hZ (host := "") hown w Via.refl eT F (g := mkF m pc L S) rfl hd
  exact (kk T' X' e').of st
theorem Sta.keep1 {h' : Heap} {a : Addr} {C C' n d : String} {v : Value} (F : Sta Z h C n d v) (K : Keep h h' [a]) (E : Exa Z h a C') : Sta Z h' C n d v := by
  obtain ⟨cf, i, k, f, st, cell, h1, h2, h3, h4, h5, h6, h7⟩ := F
  obtain ⟨c2, k2, e1, e2, e3, e4, e5⟩ := E
  refine ⟨cf, i, k, f, st, cell, h1, h2, h3, h4, K.2.1 st cell h5 (fun q => ?_), h6, h7⟩
  cases List.mem_singleton.mp q
  cases h5.symm.trans e1
  rw [h6] at e4; cases e4
/-! an array of ints, booleans, chars, bytes: its list of values -/
def Ar (Z : State) (h : Heap) (a : Addr) (ty : FieldType) (vs : List Int32) : Prop := ∃ cl : Cell, Arr Z h a cl ty ∧ cl.slots = (vs.map Value.int).toArray ∧ vs.length < 2 ^ 31
def InB (vs : List Int32) (j : Int32) : Prop := ¬ j < 0 ∧ j.toNatClampNeg < vs.length
def rd (vs : List Int32) (j : Int32) : Int32 := vs.getD j.toNatClampNeg 0
def wr (vs : List Int32) (j x : Int32) : List Int32 := vs.set j.toNatClampNeg x
variable {h' : Heap} {a b : Addr} {ty : FieldType} {vs : List Int32}
theorem inbL {j : Int32} {n : Nat} (hl : vs.length = n) (h : ¬ j < 0 ∧ j.toNatClampNeg < n) : InB vs j := ⟨h.1, hl ▸ h.2⟩
theorem Ar.lt (F : Ar Z h a ty vs) : a < h.size := by obtain ⟨cl, A, -⟩ := F; exact A.lt
theorem Ar.small (F : Ar Z h a ty vs) : vs.length < 2 ^ 31 := by obtain ⟨cl, A, e1, e2⟩ := F; exact e2
theorem Ar.ext (F : Ar Z h a ty vs) (E : Ext h h') : Ar Z h' a ty vs := by obtain ⟨cl, A, r⟩ := F; exact ⟨cl, A.ext E, r⟩
theorem Ar.other {sl : Nat} {v : Value} (F : Ar Z h b ty vs) (W : Wr h h' a sl v) (q : b ≠ a) : Ar Z h' b ty vs := by obtain ⟨cl, A, r⟩ := F; exact ⟨cl, A.other W q, r⟩
theorem Ar.keep {ws : List Addr} (F : Ar Z h a ty vs) (K : Keep h h' ws) (q : a ∉ ws) : Ar Z h' a ty vs := by obtain ⟨cl, A, r⟩ := F; exact ⟨cl, ⟨K.2.1 a cl A.1 q, A.2⟩, r⟩
theorem Ar.same {j x : Int32} (F : Ar Z h a ty vs) (W : Wr h h' a j.toNatClampNeg (.int x)) : Ar Z h' a ty (wr vs j x) := by
  obtain ⟨cl, A, e1, e2⟩ := F
  refine ⟨_, A.same W, ?_, by simpa [wr] using e2⟩
  show cl.slots.setIfInBounds _ _ = _
  rw [e1, wr, List.map_set]
  simp
theorem Ar.new {k : ClassId} {n : Int32} (A : Arr Z h a (newA k ty n) ty) (hn : ¬ n < 0) (hd : defaultValue ty = .int 0) : Ar Z h a ty (List.replicate n.toNatClampNeg 0) := by
  refine ⟨_, A, ?_, by simpa using (back32 hn).2⟩
  show Array.replicate n.toNatClampNeg (defaultValue ty) = _
  rw [hd, List.map_replicate]
  simp
theorem Ar.inb {cl : Cell} {j : Int32} (e1 : cl.slots = (vs.map Value.int).toArray) (q : InB vs j) : ¬ (j < 0 ∨ cl.slots.size ≤ j.toNatClampNeg) := by
  rw [e1]; simp only [List.size_toArray, List.length_map]
  exact fun z => z.elim q.1 (fun y => by have := q.2; omega)
theorem Ar.get {cl : Cell} {j : Int32} (e1 : cl.slots = (vs.map Value.int).toArray) (q : InB vs j) : cl.slots[j.toNatClampNeg]? = some (.int (rd vs j)) := by
  rw [e1]; have := q.2
  simp [rd, List.getElem?_eq_getElem this, List.getD_eq_getElem?_getD]
theorem eLen (X : Stand p l e R s m args below meth c T locs cells slots) (hx : p.tables.exec = Jvm.exec) (hZ : Z.Warmed39 s.vm) (eT : T.heap = h) (F : Ar Z h a ty vs) (n : Int32) (hn : Int32.ofNat vs.length = n) (hd : decode c.code pc = .ok (.arraylength, 1)) (hp : pc + 1 = pc') (kk : Ends p e below P T m pc' L (.int n :: S)) : Ends p e below P T m pc L (.ref a :: S) := by
  subst hp hn
  obtain ⟨cl, A, e1, e2⟩ := F
  refine kk.of fun t k => X.arraylength hx (by rw [eT]; exact A.1) (State.isArrayOf_alike hZ.alike A.2.1) (g := mkF m pc L (.ref a :: S)) rfl rfl hd _ ?_
  rw [e1]; simp only [List.size_toArray, List.length_map]; exact k
theorem eIALoad (X : Stand p l e R s m args below meth c T locs cells slots) (hx : p.tables.exec = Jvm.exec) (hZ : Z.Warmed39 s.vm) (eT : T.heap = h) (F : Ar Z h a .int vs) {j : Int32} (v : Int32) (hv : rd vs j = v) (q : InB vs j) (hd : decode c.code pc = .ok (.iaload, 1)) (hp : pc + 1 = pc') (kk : Ends p e below P T m pc' L (.int v :: S)) : Ends p e below P T m pc L (.int j :: .ref a :: S) := by
  subst hp hv
  obtain ⟨cl, A, e1, e2⟩ := F
  exact kk.of fun t k => X.iaload hx (by rw [eT]; exact A.1) (State.isArrayOf_alike hZ.alike A.2.1) A.2.2 (Ar.inb e1 q) (Ar.get e1 q) (g := mkF m pc L (.int j :: .ref a :: S)) rfl rfl hd _ k
theorem eCALoad (X : Stand p l e R s m args below meth c T locs cells slots) (hx : p.tables.exec = Jvm.exec) (hZ : Z.Warmed39 s.vm) (eT : T.heap = h) (F : Ar Z h a .char vs) {j : Int32} (v : Int32) (hv : rd vs j = v) (q : InB vs j) (hd : decode c.code pc = .ok (.caload, 1)) (hp : pc + 1 = pc') (kk : Ends p e below P T m pc' L (.int v :: S)) : Ends p e below P T m pc L (.int j :: .ref a :: S) := by
  subst hp hv
  obtain ⟨cl, A, e1, e2⟩ := F
  exact kk.of fun t k => X.caload hx (by rw [eT]; exact A.1) (State.isArrayOf_alike hZ.alike A.2.1) A.2.2 (Ar.inb e1 q) (Ar.get e1 q) (g := mkF m pc L (.int j :: .ref a :: S)) rfl rfl hd _ k
theorem eZALoad (X : Stand p l e R s m args below meth c T locs cells slots) (hx : p.tables.exec = Jvm.exec) (hZ : Z.Warmed39 s.vm) (eT : T.heap = h) (F : Ar Z h a .boolean vs) {j : Int32} (v : Int32) (hv : rd vs j = v) (q : InB vs j) (hd : decode c.code pc = .ok (.baload, 1)) (hp : pc + 1 = pc') (kk : Ends p e below P T m pc' L (.int v :: S)) : Ends p e below P T m pc L (.int j :: .ref a :: S) := by
  subst hp hv
  obtain ⟨cl, A, e1, e2⟩ := F
  exact kk.of fun t k => X.baloadBooleans hx (by rw [eT]; exact A.1) (State.isArrayOf_alike hZ.alike A.2.1) A.2.2 (Ar.inb e1 q) (Ar.get e1 q) (g := mkF m pc L (.int j :: .ref a :: S)) rfl rfl hd _ k
theorem eIAStore (X : Stand p l e R s m args below meth c T locs cells slots) (hx : p.tables.exec = Jvm.exec) (hZ : Z.Warmed39 s.vm) (eT : T.heap = h) (F : Ar Z h a .int vs) {j x : Int32} (q : InB vs j) (hd : decode c.code pc = .ok (.iastore, 1)) (hp : pc + 1 = pc')
    (kk : ∀ T' h', Stand p l e R s m args below meth c T' (locs ++ [⟨a, j.toNatClampNeg⟩]) cells slots → T'.heap = h' → Wr h h' a j.toNatClampNeg (.int x) → Ar Z h' a .int (wr vs j x) → Ends p e below P T' m pc' L S) : Ends p e below P T m pc L (.int x :: .int j :: .ref a :: S) := by
  subst hp
  have F0 := F
  obtain ⟨cl, A, e1, e2⟩ := F
  obtain ⟨T', h', X', e', W, st⟩ := stI X hx hZ eT A (Ar.inb e1 q) (g := mkF m pc L (.int x :: .int j :: .ref a :: S)) rfl rfl hd
  exact (kk T' h' X' e' W (F0.same W)).of st
theorem eCAStore (X : Stand p l e R s m args below meth c T locs cells slots) (hx : p.tables.exec = Jvm.exec) (hZ : Z.Warmed39 s.vm) (eT : T.heap = h) (F : Ar Z h a .char vs) {j x : Int32} (q : InB vs j) (hd : decode c.code pc = .ok (.castore, 1)) (hp : pc + 1 = pc')
    (kk : ∀ T' h', Stand p l e R s m args below meth c T' (locs ++ [⟨a, j.toNatClampNeg⟩]) cells slots → T'.heap = h' → Wr h h' a j.toNatClampNeg (.int (nar .char x)) → Ar Z h' a .char (wr vs j (nar .char x)) → Ends p e below P T' m pc' L S) : Ends p e below P T m pc L (.int x :: .int j :: .ref a :: S) := by
  subst hp
  have F0 := F
  obtain ⟨cl, A, e1, e2⟩ := F
  obtain ⟨T', h', X', e', W, st⟩ := stC X hx hZ eT A (Ar.inb e1 q) (g := mkF m pc L (.int x :: .int j :: .ref a :: S)) rfl rfl hd
  exact (kk T' h' X' e' W (F0.same W)).of st
theorem eZAStore (X : Stand p l e R s m args below meth c T locs cells slots) (hx : p.tables.exec = Jvm.exec) (hZ : Z.Warmed39 s.vm) (eT : T.heap = h) (F : Ar Z h a .boolean vs) {j x : Int32} (q : InB vs j) (hd : decode c.code pc = .ok (.bastore, 1)) (hp : pc + 1 = pc')
    (kk : ∀ T' h', Stand p l e R s m args below meth c T' (locs ++ [⟨a, j.toNatClampNeg⟩]) cells slots → T'.heap = h' → Wr h h' a j.toNatClampNeg (.int (nar .boolean x)) → Ar Z h' a .boolean (wr vs j (nar .boolean x)) → Ends p e below P T' m pc' L S) : Ends p e below P T m pc L (.int x :: .int j :: .ref a :: S) := by
  subst hp
  have F0 := F
  obtain ⟨cl, A, e1, e2⟩ := F
  obtain ⟨T', h', X', e', W, st⟩ := stZ X hx hZ eT A (Ar.inb e1 q) (g := mkF m pc L (.int x :: .int j :: .ref a :: S)) rfl rfl hd
  exact (kk T' h' X' e' W (F0.same W)).of st
theorem eNewA (X : Stand p l e R s m args below meth c T locs cells slots) (hx : p.tables.exec = Jvm.exec) (hZ : Z.Warmed39 s.vm) {aty : ArrayType} (hty : newarray.typeOf aty = ty) (hdf : defaultValue ty = .int 0) (w : (Cond.arrayClass ty).before a0 Z = true) (eT : T.heap = h) (hd : decode c.code pc = .ok (.newarray aty, 2)) {n : Int32} (hn : ¬ n < 0) {cap : Nat} (hcap : n.toNatClampNeg ≤ cap) (hb : cap * 8 ≤ 536870912) (hc : cells + 1 ≤ R.cells) (hl : slots + cap ≤ R.slots) (hp : pc + 2 = pc')
    (kk : ∀ T' h' a, a = h.size → Stand p l e R s m args below meth c T' locs (cells + 1) (slots + cap) → T'.heap = h' → Ext h h' → Ar Z h' a ty (List.replicate n.toNatClampNeg 0) → Ends p e below P T' m pc' L (.ref a :: S)) : Ends p e below P T m pc L (.int n :: S) := by
  subst hp hty
  obtain ⟨T', h', cA, X', e', E, A, st⟩ := newP X hx hZ w eT (g := mkF m pc L (.int n :: S)) rfl hd rfl hn hcap hb hc hl
  exact (kk T' h' _ rfl X' e' E (Ar.new A hn hdf)).of st
theorem eNewE (X : Stand p l e R s m args below meth c T locs cells slots) (hx : p.tables.exec = Jvm.exec) (hZ : Z.Warmed39 s.vm) {aty : ArrayType} (hty : newarray.typeOf aty = ty) (hdf : defaultValue ty = .int 0) (w : (Cond.arrayClass ty).before a0 Z = true) (eT : T.heap = h) (hd : decode c.code pc = .ok (.newarray aty, 2)) {n : Int32} (hn : ¬ n < 0) {cap : Nat} (hcap : n.toNatClampNeg ≤ cap) (hb : cap * 8 ≤ 536870912) (hc : cells + 1 ≤ R.cells) (hl : slots + cap ≤ R.slots) (ad : String) (had : "[" ++ ty.toString = ad) (hp : pc + 2 = pc')
    (kk : ∀ T' h' a, a = h.size → Stand p l e R s m args below meth c T' locs (cells + 1) (slots + cap) → T'.heap = h' → Ext h h' → Ar Z h' a ty (List.replicate n.toNatClampNeg 0) → Exa Z h' a ad → Ends p e below P T' m pc' L (.ref a :: S)) : Ends p e below P T m pc L (.int n :: S) := by
  subst hp hty
  obtain ⟨T', h', cA, X', e', E, A, Ex, st⟩ := newPE X hx hZ w eT (g := mkF m pc L (.int n :: S)) rfl hd rfl hn hcap hb hc hl had
  exact (kk T' h' _ rfl X' e' E (Ar.new A hn hdf) Ex).of st
theorem eCast (X : Stand p l e R s m args below meth c T locs cells slots) (hx : p.tables.exec = Jvm.exec) (hZ : Z.Warmed39 s.vm) {own K : String} {index : Nat} (hown : s.vm.findClass own = some m.cls) (w : (Cond.classLink own index K).before a0 Z = true) (eT : T.heap = h) (F : Ins Z h a K true) (hd : decode c.code pc = .ok (.checkcast index, 3)) (hp : pc + 3 = pc')
    (kk : ∀ T', Stand p l e R s m args below meth c T' locs cells slots → T'.heap = h → Ends p e below P T' m pc' L (.ref a :: S)) : Ends p e below P T m pc L (.ref a :: S) := by
  subst hp
  obtain ⟨T', X', e', st⟩ := castY X hx hZ hown w eT F (g := mkF m pc L (.ref a :: S)) rfl rfl hd
  exact (kk T' X' e').of st
theorem eNonNullY (X : Stand p l e R s m args below meth c T locs cells slots) (hx : p.tables.exec = Jvm.exec) {o : Int} (hd : decode c.code pc = .ok (.ifnonnull o, 3)) (ho : 0 ≤ (pc : Int) + o) (hp : ((pc : Int) + o).toNat = pc') (kk : Ends p e below P T m pc' L S) : Ends p e below P T m pc L (.ref a :: S) :=
  kk.of fun t h => XT.ifnonnullYes X.here hx rfl rfl hd rfl ho hp h
theorem eNonNullN (X : Stand p l e R s m args below meth c T locs cells slots) (hx : p.tables.exec = Jvm.exec) {o : Int} (hd : decode c.code pc = .ok (.ifnonnull o, 3)) (hp : pc + 3 = pc') (kk : Ends p e below P T m pc' L S) : Ends p e below P T m pc L (.null :: S) := by
  subst hp; exact kk.of fun t h => XT.ifnonnullNo X.here hx rfl hd rfl h
theorem eNullY (X : Stand p l e R s m args below meth c T locs cells slots) (hx : p.tables.exec = Jvm.exec) {o : Int} (hd : decode c.code pc = .ok (.ifnull o, 3)) (ho : 0 ≤ (pc : Int) + o) (hp : ((pc : Int) + o).toNat = pc') (kk : Ends p e below P T m pc' L S) : Ends p e below P T m pc L (.null :: S) :=
  kk.of fun t h => XS.ifnullYes X.here hx rfl rfl hd rfl ho hp h
theorem eNullN (X : Stand p l e R s m args below meth c T locs cells slots) (hx : p.tables.exec = Jvm.exec) {o : Int} (hd : decode c.code pc = .ok (.ifnull o, 3)) (hp : pc + 3 = pc') (kk : Ends p e below P T m pc' L S) : Ends p e below P T m pc L (.ref a :: S) := by
  subst hp; exact kk.of fun t h => XS.ifnullNo X.here hx rfl hd rfl h
theorem eTsw (X : Stand p l e R s m args below meth c T locs cells slots) (hx : p.tables.exec = Jvm.exec) {dflt low high : Int} {offs : Array Int} {len : Nat} {o : Int} {i : Int32} (hd : decode c.code pc = .ok (.tableswitch dflt low high offs, len)) (hin : ¬ (i.toInt < low ∨ i.toInt > high)) (hoff : offs[(i.toInt - low).toNat]? = some o) (ho : 0 ≤ (pc : Int) + o) (hp : ((pc : Int) + o).toNat = pc') (kk : Ends p e below P T m pc' L S) : Ends p e below P T m pc L (.int i :: S) :=
  kk.of fun t h => XS.tswIn X.here hx rfl rfl hd rfl hin hoff ho hp h
theorem eLsw (X : Stand p l e R s m args below meth c T locs cells slots) (hx : p.tables.exec = Jvm.exec) {dflt : Int} {a1 o1 a2 o2 : Int} {len : Nat} {o : Int} {i : Int32} (hd : decode c.code pc = .ok (.lookupswitch dflt #[(a1, o1), (a2, o2)], len)) (hso : a1 < a2) (hoff : (if a1 = i.toInt then o1 else if a2 = i.toInt then o2 else dflt) = o) (ho : 0 ≤ (pc : Int) + o) (hp : ((pc : Int) + o).toNat = pc') (kk : Ends p e below P T m pc' L S) : Ends p e below P T m pc L (.int i :: S) := by
  subst hp hoff
  refine kk.of fun t h => ?_
  by_cases h1 : a1 = i.toInt
  · simp only [h1, if_true] at h ho
    jvm_step X.here [X.here.top, hx, hd, hso, h1, ho, lookupswitch.wp_chain, lookupswitch.offset_cons, lookupswitch.offset_nil]
    exact ⟨by rw [← h1]; exact hso, h⟩
  · by_cases h2 : a2 = i.toInt
    · simp only [h1, h2, if_true, if_false] at h ho
      jvm_step X.here [X.here.top, hx, hd, hso, h1, h2, ho, lookupswitch.wp_chain, lookupswitch.offset_cons, lookupswitch.offset_nil]
      exact ⟨by rw [← h2]; exact hso, h⟩
    · simp only [h1, h2, if_false] at h ho
      jvm_step X.here [X.here.top, hx, hd, hso, h1, h2, ho, lookupswitch.wp_chain, lookupswitch.offset_cons, lookupswitch.offset_nil]
      exact h
/-! calls -/
def PostQ (s : State) (C D : Nat) (Q : Option Value → Heap → List Loc → Prop) : State → Outcome → Prop := fun t o => ∃ v L, o = .returned v ∧ Q v t.heap L ∧ FrameEnd s o t L C D
abbrev MetC (l : Launch) (Z : State) (y : MethodName) (ws : List Jvm.Cond) (rm : Room) (as' : Array Value) (h : Heap) (C D : Nat) (Q : Option Value → Heap → List Loc → Prop) : Prop :=
  MetFree l y (head1 ws rm) (fun a U => a = as' ∧ Z.Warmed39 U.vm ∧ U.heap = h) (fun _ _ _ _ _ => True) (fun _ U o U' => PostQ U C D Q U' o)
abbrev MetQ (l : Launch) (Z : State) (y : MethodName) (ws : List Jvm.Cond) (rm : Room) (as' : Array Value) (h : Heap) (Q : Option Value → Heap → List Loc → Prop) : Prop :=
  MetFree l y (head1 ws rm) (fun a U => a = as' ∧ Z.Warmed39 U.vm ∧ U.heap = h) (fun _ _ _ _ _ => True) (fun _ U o U' => PostQ U rm.cells rm.slots Q U' o)
theorem eCallS (X : Stand p l e R s m args below meth c T locs cells slots) (hx : p.tables.exec = Jvm.exec) (hZ : Z.Warmed39 s.vm) {own : String} {index : Nat} {y : MethodName} {bytes : ByteArray} {maxL : Nat} {ret : Option FieldType} (hown : s.vm.findClass own = some m.cls) (w1 : (Cond.methodLink own index y).before a0 Z = true) (w2 : (Cond.static y).before a0 Z = true) (w3 : (Cond.initialized y.cls).before a0 Z = true) (w4 : (Cond.code y bytes maxL ret).before a0 Z = true) (hy : y.cls ≠ "java/lang/invoke/MethodHandle" ∧ y.cls ≠ "java/lang/invoke/VarHandle") (eT : T.heap = h) {rm : Room} {Q : Option Value → Heap → List Loc → Prop} {argsL rest : List Value} (hM : MetQ l Z y [Cond.code y bytes maxL ret] rm argsL.toArray h Q) (hlen : ∀ sig, parseMethodDescriptor y.desc = some sig → argsL.length = sig.parameters.length) (hS : S = argsL.reverse ++ rest) (hsize : L.size = c.maxLocals) (W : Nat) (hW : 2 * 0 + (rest.map fun v => v.category).sum ≤ W) (hf : rm.frames + 1 ≤ R.frames) (hl : W + (maxL + 11) + rm.locals ≤ R.locals) (hc : cells + rm.cells ≤ R.cells) (hs : slots + rm.slots ≤ R.slots) (hd : decode c.code pc = .ok (.invokestatic index, 3)) (hp : pc + 3 = pc')
    (kk : ∀ v T' L', Q v T'.heap L' → Stand p l e R s m args below meth c T' (locs ++ L') (cells + rm.cells) (slots + rm.slots) → Ends p e below P T' m pc' L (v.toList ++ rest)) : Ends p e below P T m pc L S := by
  subst hp hS
  obtain ⟨v, _, ⟨T1, L1, k1, n1⟩, -, X1, ⟨Lc, hQ, l1, y1, z1⟩, st⟩ := Jvm.LawKit.callS X hx (y := y) hown (mvT hZ w1) (mvT hZ w2) (mvT hZ w3) (mvT hZ w4) hy (backOf (W := W) (Q := Q) hM hZ w4 w3 hf hl) (g := mkF m pc L (argsL.reverse ++ rest)) rfl hsize (argsL := argsL) (rest := rest) hlen rfl hW hd (fun _ _ => ⟨rfl, eT, hc, hs⟩)
  dsimp only [Pt.U, Pt.locs, Pt.cells, Pt.slots] at X1 l1 y1 z1 st hQ
  subst l1 y1 z1
  exact (kk v T1 Lc hQ X1).of st
theorem eCallI (X : Stand p l e R s m args below meth c T locs cells slots) (hx : p.tables.exec = Jvm.exec) (hZ : Z.Warmed39 s.vm) {own : String} {index : Nat} {y : MethodName} {bytes : ByteArray} {maxL : Nat} (hy1 : y.name = "<init>") (hown : s.vm.findClass own = some m.cls) (w1 : (Cond.methodLink own index y).before a0 Z = true) (w2 : (Cond.instanceMethod y).before a0 Z = true) (w3 : (Cond.initialized y.cls).before a0 Z = true) (w4 : (Cond.code y bytes maxL none).before a0 Z = true) (hy : y.cls ≠ "java/lang/invoke/MethodHandle" ∧ y.cls ≠ "java/lang/invoke/VarHandle") (eT : T.heap = h) {rm : Room} {Q : Option Value → Heap → List Loc → Prop} {argsL rest : List Value} (hM : MetQ l Z y [Cond.code y bytes maxL none] rm (.ref a :: argsL).toArray h Q) (hlen : ∀ sig, parseMethodDescriptor y.desc = some sig → argsL.length = sig.parameters.length) (hS : S = argsL.reverse ++ .ref a :: rest) (hsize : L.size = c.maxLocals) (W : Nat) (hW : 2 * 0 + (rest.map fun v => v.category).sum ≤ W) (hf : rm.frames + 1 ≤ R.frames) (hl : W + (maxL + 11) + rm.locals ≤ R.locals) (hc : cells + rm.cells ≤ R.cells) (hs : slots + rm.slots ≤ R.slots) (hd : decode c.code pc = .ok (.invokespecial index, 3)) (hp : pc + 3 = pc')
    (kk : ∀ v T' L', Q v T'.heap L' → Stand p l e R s m args below meth c T' (locs ++ L') (cells + rm.cells) (slots + rm.slots) → Ends p e below P T' m pc' L (v.toList ++ rest)) : Ends p e below P T m pc L S := by
  subst hp hS
  obtain ⟨v, _, ⟨T1, L1, k1, n1⟩, -, X1, ⟨Lc, hQ, l1, y1, z1⟩, st⟩ := X.specialBack hx (y := y) hy1 hown (mvT hZ w1) (mvT hZ w2) (mvT hZ w4) hy (backOf (W := W) (Q := Q) hM hZ w4 w3 hf hl) (g := mkF m pc L (argsL.reverse ++ .ref a :: rest)) rfl hsize (Steps.refl _) (a := a) (argsL := argsL) (rest := rest) hlen rfl hW hd (fun _ _ => ⟨rfl, eT, hc, hs⟩)
  dsimp only [Pt.U, Pt.locs, Pt.cells, Pt.slots] at X1 l1 y1 z1 st hQ
  subst l1 y1 z1
  exact (kk v T1 Lc hQ X1).of fun t k => st.trans k
theorem eCallV (X : Stand p l e R s m args below meth c T locs cells slots) (hx : p.tables.exec = Jvm.exec) (hZ : Z.Warmed39 s.vm) {own C : String} {index : Nat} {y : MethodName} {bytes : ByteArray} {maxL : Nat} {ret : Option FieldType} (hown : s.vm.findClass own = some m.cls) (w1 : (Cond.methodLink own index y).before a0 Z = true) (w2 : (Cond.declares y).before a0 Z = true) (w5 : (Cond.selects C y y).before a0 Z = true) (w6 : (Cond.instanceMethod y).before a0 Z = true) (w3 : (Cond.initialized y.cls).before a0 Z = true) (w4 : (Cond.code y bytes maxL ret).before a0 Z = true) (hy : y.cls ≠ "java/lang/invoke/MethodHandle" ∧ y.cls ≠ "java/lang/invoke/VarHandle") (eT : T.heap = h) (E : Exa Z h a C) {rm : Room} {Q : Option Value → Heap → List Loc → Prop} {argsL rest : List Value} (hM : MetQ l Z y [Cond.code y bytes maxL ret] rm (.ref a :: argsL).toArray h Q) (hlen : ∀ sig, parseMethodDescriptor y.desc = some sig → argsL.length = sig.parameters.length) (hS : S = argsL.reverse ++ .ref a :: rest) (hsize : L.size = c.maxLocals) (W : Nat) (hW : 2 * 0 + (rest.map fun v => v.category).sum ≤ W) (hf : rm.frames + 1 ≤ R.frames) (hl : W + (maxL + 11) + rm.locals ≤ R.locals) (hc : cells + rm.cells ≤ R.cells) (hs : slots + rm.slots ≤ R.slots) (hd : decode c.code pc = .ok (.invokevirtual index, 3)) (hp : pc + 3 = pc')
    (kk : ∀ v T' L', Q v T'.heap L' → Stand p l e R s m args below meth c T' (locs ++ L') (cells + rm.cells) (slots + rm.slots) → Ends p e below P T' m pc' L (v.toList ++ rest)) : Ends p e below P T m pc L S := by
  subst hp hS
  obtain ⟨cq, kq, q1, q2, q3⟩ := isOf hZ eT E
  obtain ⟨v, _, ⟨T1, L1, k1, n1⟩, -, X1, ⟨Lc, hQ, l1, y1, z1⟩, st⟩ := X.virtualBack hx (y := y) (z := y) hown (mvT hZ w1) (mvT hZ w2) (notFace_of_selects (args := #[]) (mvT hZ w5)) (mvT hZ w5) (mvT hZ w6) hy (backOf (W := W) (Q := Q) hM hZ w4 w3 hf hl) q1 q3 (g := mkF m pc L (argsL.reverse ++ .ref a :: rest)) rfl hsize (Steps.refl _) (argsL := argsL) (rest := rest) hlen rfl hW hd (fun _ _ => ⟨rfl, eT, hc, hs⟩)
  dsimp only [Pt.U, Pt.locs, Pt.cells, Pt.slots] at X1 l1 y1 z1 st hQ
  subst l1 y1 z1
  exact (kk v T1 Lc hQ X1).of fun t k => st.trans k
/-! returns -/
theorem eEnd (X : Stand p l e R s m args below meth c T locs cells slots) (hlk : meth.locks = false) {C D : Nat} {Q : Option Value → Heap → List Loc → Prop} {v : Option Value} (hv : meth.sig.returnType = none → v = none) (hC : cells ≤ C) (hD : slots ≤ D) (hq : Q v T.heap locs)
    (st : ∀ fs, (∀ (f : JFrame) (acts : List Action), f.method = m → f.locked = none → f.entered = [] → (doReturn e (T.setTop f) acts v).1 = T.setFrames fs) → Steps p.tables e below (T.setTop (mkF m pc L S)) (T.setFrames fs)) : Ends p e below (PostQ s C D Q) T m pc L S := by
  obtain ⟨fs, hr, hrun, hended, hW, hsame⟩ := X.leave (v := v) hv hlk
  exact ⟨_, _, st fs hr, hrun, hended, v, locs, rfl, hq, ⟨_, rfl⟩, hW, hsame.mono hC hD⟩
theorem eRetN (X : Stand p l e R s m args below meth c T locs cells slots) (hx : p.tables.exec = Jvm.exec) {t : FieldType} {z : Int32} (hret : meth.sig.returnType = some t) (ht : t = .boolean ∨ t = .byte ∨ t = .char ∨ t = .short) (hlk : meth.locks = false) (hd : decode c.code pc = .ok (.ireturn, 1)) {C D : Nat} {Q : Option Value → Heap → List Loc → Prop} (hC : cells ≤ C) (hD : slots ≤ D) (hq : Q (some (.int (nar t z))) T.heap locs) : Ends p e below (PostQ s C D Q) T m pc L (.int z :: S) :=
  eEnd X hlk (fun h => by rw [hret] at h; cases h) hC hD hq fun fs hr => retN X hx hret ht hd hr
theorem eRetO (X : Stand p l e R s m args below meth c T locs cells slots) (hx : p.tables.exec = Jvm.exec) {t : FieldType} {w : Value} {i : Instr} (hret : meth.sig.returnType = some t) (hn : narrow t w = w) (hi : (i = .ireturn ∧ (t = .int ∨ t = .boolean ∨ t = .byte ∨ t = .char ∨ t = .short) ∧ ∃ z, w = .int z) ∨ (i = .lreturn ∧ t = .long ∧ ∃ z, w = .long z) ∨ (i = .dreturn ∧ t = .double ∧ ∃ z, w = .double z) ∨ (i = .freturn ∧ t = .float ∧ ∃ z, w = .float z) ∨ (i = .areturn ∧ t.isReference = true ∧ w.isRef = true)) (hlk : meth.locks = false) (hd : decode c.code pc = .ok (i, 1)) {C D : Nat} {Q : Option Value → Heap → List Loc → Prop} (hC : cells ≤ C) (hD : slots ≤ D) (hq : Q (some w) T.heap locs) : Ends p e below (PostQ s C D Q) T m pc L (w :: S) :=
  eEnd X hlk (fun h => by rw [hret] at h; cases h) hC hD hq fun fs hr => retOut X hx hret hn hi hd hr
theorem eRetI (X : Stand p l e R s m args below meth c T locs cells slots) (hx : p.tables.exec = Jvm.exec) {z : Int32} (hret : meth.sig.returnType = some .int) (hlk : meth.locks = false) (hd : decode c.code pc = .ok (.ireturn, 1)) {C D : Nat} {Q : Option Value → Heap → List Loc → Prop} (hC : cells ≤ C) (hD : slots ≤ D) (hq : Q (some (.int z)) T.heap locs) : Ends p e below (PostQ s C D Q) T m pc L (.int z :: S) :=
  eRetO X hx hret rfl (Or.inl ⟨rfl, Or.inl rfl, z, rfl⟩) hlk hd hC hD hq
theorem eRetL (X : Stand p l e R s m args below meth c T locs cells slots) (hx : p.tables.exec = Jvm.exec) {z : Int64} (hret : meth.sig.returnType = some .long) (hlk : meth.locks = false) (hd : decode c.code pc = .ok (.lreturn, 1)) {C D : Nat} {Q : Option Value → Heap → List Loc → Prop} (hC : cells ≤ C) (hD : slots ≤ D) (hq : Q (some (.long z)) T.heap locs) : Ends p e below (PostQ s C D Q) T m pc L (.long z :: S) :=
  eRetO X hx hret rfl (Or.inr (Or.inl ⟨rfl, rfl, z, rfl⟩)) hlk hd hC hD hq
theorem eRetA (X : Stand p l e R s m args below meth c T locs cells slots) (hx : p.tables.exec = Jvm.exec) {t : FieldType} {w : Value} (hret : meth.sig.returnType = some t) (ht : t.isReference = true) (hn : narrow t w = w) (hw : w.isRef = true) (hlk : meth.locks = false) (hd : decode c.code pc = .ok (.areturn, 1)) {C D : Nat} {Q : Option Value → Heap → List Loc → Prop} (hC : cells ≤ C) (hD : slots ≤ D) (hq : Q (some w) T.heap locs) : Ends p e below (PostQ s C D Q) T m pc L (w :: S) :=
  eRetO X hx hret hn (Or.inr (Or.inr (Or.inr (Or.inr ⟨rfl, ht, hw⟩)))) hlk hd hC hD hq
theorem eRetV (X : Stand p l e R s m args below meth c T locs cells slots) (hx : p.tables.exec = Jvm.exec) (hret : meth.sig.returnType = none) (hlk : meth.locks = false) (hd : decode c.code pc = .ok (.return_, 1)) {C D : Nat} {Q : Option Value → Heap → List Loc → Prop} (hC : cells ≤ C) (hD : slots ≤ D) (hq : Q none T.heap locs) : Ends p e below (PostQ s C D Q) T m pc L [] :=
  eEnd X hlk (fun _ => rfl) hC hD hq fun fs hr => X.returnOut hx hret hd hr
abbrev PVI (s : State) (C D n0 : Nat) (h0 : Heap) (r : Int32) : State → Outcome → Prop := PostQ s C D (fun v h L => v = some (.int r) ∧ Fr n0 L ∧ h = h0)
abbrev PVL (s : State) (C D n0 : Nat) (h0 : Heap) (r : Int64) : State → Outcome → Prop := PostQ s C D (fun v h L => v = some (.long r) ∧ Fr n0 L ∧ h = h0)
abbrev PVW (s : State) (C D n0 : Nat) (r : Int32) : State → Outcome → Prop := PostQ s C D (fun v h L => v = some (.int r) ∧ Fr n0 L)
end Own

theorem own_up {i n : Int32} (c : i < n) : (i + 1).toInt = i.toInt + 1 := by
  have h := c_iadd i 1
  have r := rng32 (i + 1)
  have r1 := rng32 i
  have r2 := rng32 n
  simp only [Int32.lt_iff_toInt_lt, Int32.reduceToInt] at *
  omega
theorem own_turn {i n : Int32} {k : Nat} (hk : (n.toInt - i.toInt).toNat < k + 1) (c : i < n) : (n.toInt - (i + 1).toInt).toNat < k := by
  have := own_up c
  simp only [Int32.lt_iff_toInt_lt] at c
  omega
theorem own_pos {i n : Int32} (h : 0 ≤ i.toInt) (c : i < n) : 0 ≤ (i + 1).toInt := by
  have := own_up c
  omega
theorem own_inb {i n : Int32} {vs : List Int32} (hn : n.toInt = vs.length) (h : 0 ≤ i.toInt) (c : i < n) : InB vs i := by
  simp only [Int32.lt_iff_toInt_lt] at c
  refine ⟨?_, ?_⟩
  · rw [Int32.lt_iff_toInt_lt]; simp only [Int32.reduceToInt]; omega
  · simp only [Int32.toNatClampNeg]; omega
theorem own_pn0 : plainName "jdk/internal/util/ArraysSupport" = true := by first | (simp [plainName, overriddenIn]; done) | decide +kernel
theorem own_d7_0 : decode jdk_48_method_9_code 0 = .ok (.iload_n 2, 1) := by decide +kernel
theorem own_d7_1 : decode jdk_48_method_9_code 1 = .ok (.iload_n 3, 1) := by decide +kernel
theorem own_d7_2 : decode jdk_48_method_9_code 2 = .ok (.iadd, 1) := by decide +kernel
theorem own_d7_3 : decode jdk_48_method_9_code 3 = .ok (.istore 4, 2) := by decide +kernel
theorem own_d7_5 : decode jdk_48_method_9_code 5 = .ok (.iload_n 2, 1) := by decide +kernel
theorem own_d7_6 : decode jdk_48_method_9_code 6 = .ok (.istore 5, 2) := by decide +kernel
theorem own_d7_8 : decode jdk_48_method_9_code 8 = .ok (.iload 5, 2) := by decide +kernel
theorem own_d7_10 : decode jdk_48_method_9_code 10 = .ok (.iload 4, 2) := by decide +kernel
theorem own_d7_12 : decode jdk_48_method_9_code 12 = .ok (.if_icmp .ge 19, 3) := by decide +kernel
theorem own_d7_15 : decode jdk_48_method_9_code 15 = .ok (.bipush 31, 2) := by decide +kernel
theorem own_d7_17 : decode jdk_48_method_9_code 17 = .ok (.iload_n 0, 1) := by decide +kernel
theorem own_d7_18 : decode jdk_48_method_9_code 18 = .ok (.imul, 1) := by decide +kernel
theorem own_d7_19 : decode jdk_48_method_9_code 19 = .ok (.aload_n 1, 1) := by decide +kernel
theorem own_d7_20 : decode jdk_48_method_9_code 20 = .ok (.iload 5, 2) := by decide +kernel
theorem own_d7_22 : decode jdk_48_method_9_code 22 = .ok (.iaload, 1) := by decide +kernel
theorem own_d7_23 : decode jdk_48_method_9_code 23 = .ok (.iadd, 1) := by decide +kernel
theorem own_d7_24 : decode jdk_48_method_9_code 24 = .ok (.istore_n 0, 1) := by decide +kernel
theorem own_d7_25 : decode jdk_48_method_9_code 25 = .ok (.iinc 5 1, 3) := by decide +kernel
theorem own_d7_28 : decode jdk_48_method_9_code 28 = .ok (.goto (-20), 3) := by decide +kernel
theorem own_d7_31 : decode jdk_48_method_9_code 31 = .ok (.iload_n 0, 1) := by decide +kernel
theorem own_d7_32 : decode jdk_48_method_9_code 32 = .ok (.ireturn, 1) := by decide +kernel
def RM7 : Room := { frames := 0, cells := 0, slots := 0, locals := 0 }
def fH1_8 (p4 : Int32) (vs : List Int32) : Nat → Int32 → Int32 → Int32
  | 0, v0_2, v5_3 => 0
  | k1 + 1, v0_2, v5_3 => (if v5_3 < ((0 : Int32) + p4) then (fH1_8 p4 vs k1 (((31 : Int32) * v0_2) + (rd vs v5_3)) (v5_3 + (1 : Int32))) else v0_2)
def fH1_0 (p1 : Int32) (p4 : Int32) (vs : List Int32) : Int32 := (fH1_8 p4 vs 8 p1 (0 : Int32))
theorem own_ef7 (m : MethodId) (p1 : Int32) (a2 : Addr) (p4 : Int32) : entryFrame m #[(.int p1), (.ref a2), (.int (0 : Int32)), (.int p4)] 6 = mkF m 0 #[.val (.int p1), .val (.ref a2), .val (.int (0 : Int32)), .val (.int p4), .unset, .unset] [] := by first | (simp [entryFrame, mkF, argsToLocals, Value.category]; done) | rfl
set_option maxRecDepth 65536 in
set_option maxHeartbeats 40000000 in
theorem rm7 (l : Launch) (Z : State) (a0 : Array Value) (hw : ∀ d ∈ tables_1, d.before a0 Z = true) (ws : List Jvm.Cond) (p1 : Int32) (a2 : Addr) (p4 : Int32) (vs : List Int32) (h0 : Heap) (n0 : Nat) (Z0 : n0 ≤ h0.size) (A_a2 : Ar Z h0 a2 .int vs) (hn : ((0 : Int32) + p4).toInt = vs.length) (hm : vs.length < 8) : MetQ l Z (⟨"jdk/internal/util/ArraysSupport", "hashCode", "(I[III)I"⟩ : MethodName) (Jvm.Cond.code (⟨"jdk/internal/util/ArraysSupport", "hashCode", "(I[III)I"⟩ : MethodName) jdk_48_method_9_code 6 (some .int) :: ws) RM7 #[(.int p1), (.ref a2), (.int (0 : Int32)), (.int p4)] h0 (fun v h L => Fr n0 L ∧ h = h0 ∧ v = some (.int (fH1_0 p1 p4 vs))) := by
  refine MetFree.of_bodySF (plainFor_of_name own_pn0) hisR ?_
  intro p e s m args below meth c s₁ Bd hml0 hP hK
  obtain ⟨rfl, hZ, hh⟩ := hP
  have hx := Bd.exec
  have hby := Bd.bytes
  have hml : c.maxLocals = 6 := hml0
  have hown : s.vm.findClass "jdk/internal/util/ArraysSupport" = some m.cls := findClass_of_methodNamed Bd.named
  have hnm := (name_of_methodNamed Bd.named Bd.method).1
  have hlk : meth.locks = false := BodyLoose.notSynchronized Bd
  have X0 : Stand p l e RM7 s m #[(.int p1), (.ref a2), (.int (0 : Int32)), (.int p4)] below meth c s₁ [] 0 0 := Stand.of_body Bd
  have e0 : s₁.heap = h0 := by rw [← hh, Bd.state]; rfl
  have N0 := Fr.nil n0
  have hfu : (((0 : Int32) + p4).toInt - (0 : Int32).toInt).toNat < 8 := by simp only [Int32.reduceToInt]; omega
  suffices kk : Ends p e below (PostQ s 0 0 (fun v h L => Fr n0 L ∧ h = h0 ∧ v = some (.int (fH1_0 p1 p4 vs)))) s₁ m 0 #[.val (.int p1), .val (.ref a2), .val (.int (0 : Int32)), .val (.int p4), .unset, .unset] [] by
    obtain ⟨t, o, k1, k2, k3, k4⟩ := kk
    exact ⟨t, o, castTop (own_ef7 m p1 a2 p4) k1, k2, k3, k4⟩
  refine eILoadN X0 hx (hb hby own_d7_0) rfl rfl ?_
  refine eILoadN X0 hx (hb hby own_d7_1) rfl rfl ?_
  refine eIAdd X0 hx (hb hby own_d7_2) rfl ?_
  refine eIStore X0 hx (hb hby own_d7_3) (L' := #[.val (.int p1), .val (.ref a2), .val (.int (0 : Int32)), .val (.int p4), .val (.int ((0 : Int32) + p4)), .unset]) rfl rfl ?_
  refine eILoadN X0 hx (hb hby own_d7_5) rfl rfl ?_
  refine eIStore X0 hx (hb hby own_d7_6) (L' := #[.val (.int p1), .val (.ref a2), .val (.int (0 : Int32)), .val (.int p4), .val (.int ((0 : Int32) + p4)), .val (.int (0 : Int32))]) rfl rfl ?_
  have LP1 : ∀ (k1 : Nat) (v0_2 : Int32) (v5_3 : Int32) (T1 : State) (locs1 : List Loc) (hk : (((0 : Int32) + p4).toInt - v5_3.toInt).toNat < k1) (hk0 : 0 ≤ v5_3.toInt) (X1 : Stand p l e RM7 s m #[(.int p1), (.ref a2), (.int (0 : Int32)), (.int p4)] below meth c T1 locs1 0 0) (N1 : Fr n0 locs1) (e1 : T1.heap = h0), Ends p e below (PostQ s 0 0 (fun v h L => Fr n0 L ∧ h = h0 ∧ v = some (.int (fH1_8 p4 vs k1 v0_2 v5_3)))) T1 m 8 #[.val (.int v0_2), .val (.ref a2), .val (.int (0 : Int32)), .val (.int p4), .val (.int ((0 : Int32) + p4)), .val (.int v5_3)] [] := by
    intro k1
    induction k1 with
    | zero => intro v0_2 v5_3 T1 locs1 hk hk0 X1 N1 e1; exact absurd hk (Nat.not_lt_zero _)
    | succ k1 ih1 =>
      intro v0_2 v5_3 T1 locs1 hk hk0 X1 N1 e1
      refine eILoad X1 hx (hb hby own_d7_8) rfl rfl ?_
      refine eILoad X1 hx (hb hby own_d7_10) rfl rfl ?_
      show Ends p e below (PostQ s 0 0 (fun v h L => Fr n0 L ∧ h = h0 ∧ v = some (.int (if v5_3 < ((0 : Int32) + p4) then (fH1_8 p4 vs k1 (((31 : Int32) * v0_2) + (rd vs v5_3)) (v5_3 + (1 : Int32))) else v0_2)))) T1 m 12 #[.val (.int v0_2), .val (.ref a2), .val (.int (0 : Int32)), .val (.int p4), .val (.int ((0 : Int32) + p4)), .val (.int v5_3)] [(.int ((0 : Int32) + p4)), (.int v5_3)]
      by_cases c4 : v5_3 < ((0 : Int32) + p4)
      · rw [if_pos c4]
        refine eIcmpN X1 hx (hb hby own_d7_12) (tlt c4).2.1 rfl ?_
        refine eBipush X1 hx (31 : Int32) (hb hby own_d7_15) rfl rfl ?_
        refine eILoadN X1 hx (hb hby own_d7_17) rfl rfl ?_
        refine eIMul X1 hx (hb hby own_d7_18) rfl ?_
        refine eALoadN X1 hx (hb hby own_d7_19) rfl rfl rfl ?_
        refine eILoad X1 hx (hb hby own_d7_20) rfl rfl ?_
        refine eIALoad X1 hx hZ e1 A_a2 (rd vs v5_3) rfl (own_inb hn hk0 c4) (hb hby own_d7_22) rfl ?_
        refine eIAdd X1 hx (hb hby own_d7_23) rfl ?_
        refine eIStoreN X1 hx (hb hby own_d7_24) (L' := #[.val (.int (((31 : Int32) * v0_2) + (rd vs v5_3))), .val (.ref a2), .val (.int (0 : Int32)), .val (.int p4), .val (.int ((0 : Int32) + p4)), .val (.int v5_3)]) rfl rfl ?_
        refine eIInc X1 hx (1 : Int32) (hb hby own_d7_25) rfl rfl (L' := #[.val (.int (((31 : Int32) * v0_2) + (rd vs v5_3))), .val (.ref a2), .val (.int (0 : Int32)), .val (.int p4), .val (.int ((0 : Int32) + p4)), .val (.int (v5_3 + (1 : Int32)))]) rfl rfl ?_
        refine eGoto X1 hx (hb hby own_d7_28) (by decide) (pc' := 8) rfl ?_
        exact ih1 (((31 : Int32) * v0_2) + (rd vs v5_3)) (v5_3 + (1 : Int32)) _ _ (own_turn hk c4) (own_pos hk0 c4) X1 N1 e1
      · rw [if_neg c4]
        refine eIcmpY X1 hx (hb hby own_d7_12) (flt c4).2.1 (by decide) (pc' := 31) rfl ?_
        refine eILoadN X1 hx (hb hby own_d7_31) rfl rfl ?_
        exact eRetI X1 hx Bd.returns hlk (hb hby own_d7_32) (by decide) (by decide) (by rw [e1]; exact ⟨N1, rfl, rfl⟩)
  exact LP1 8 p1 (0 : Int32) _ _ hfu (by decide) X0 N0 e0
theorem own_d6_0 : decode jdk_48_method_4_code 0 = .ok (.iload 4, 2) := by decide +kernel
theorem own_d6_2 : decode jdk_48_method_4_code 2 = .ok (.tableswitch 127 4 10 #[42, 55, 127, 127, 88, 101, 114], 42) := by decide +kernel
theorem own_d6_116 : decode jdk_48_method_4_code 116 = .ok (.iload_n 3, 1) := by decide +kernel
theorem own_d6_117 : decode jdk_48_method_4_code 117 = .ok (.aload_n 0, 1) := by decide +kernel
theorem own_d6_118 : decode jdk_48_method_4_code 118 = .ok (.checkcast 82, 3) := by decide +kernel
theorem own_d6_121 : decode jdk_48_method_4_code 121 = .ok (.iload_n 1, 1) := by decide +kernel
theorem own_d6_122 : decode jdk_48_method_4_code 122 = .ok (.iload_n 2, 1) := by decide +kernel
theorem own_d6_123 : decode jdk_48_method_4_code 123 = .ok (.invokestatic 84, 3) := by decide +kernel
theorem own_pd0 : parseMethodDescriptor "(I[III)I" = some ⟨[.int, (.array .int), .int, .int], some .int⟩ := by decide +kernel
theorem own_d6_126 : decode jdk_48_method_4_code 126 = .ok (.goto 31, 3) := by decide +kernel
theorem own_d6_157 : decode jdk_48_method_4_code 157 = .ok (.ireturn, 1) := by decide +kernel
def RM6 : Room := { frames := 1, cells := 0, slots := 0, locals := 17 }
def fH2_0 (p3 : Int32) (vs : List Int32) : Int32 := (fH1_0 (1 : Int32) p3 vs)
theorem own_ef6 (m : MethodId) (a1 : Addr) (p3 : Int32) : entryFrame m #[(.ref a1), (.int (0 : Int32)), (.int p3), (.int (1 : Int32)), (.int (10 : Int32))] 5 = mkF m 0 #[.val (.ref a1), .val (.int (0 : Int32)), .val (.int p3), .val (.int (1 : Int32)), .val (.int (10 : Int32))] [] := by first | (simp [entryFrame, mkF, argsToLocals, Value.category]; done) | rfl
set_option maxRecDepth 65536 in
set_option maxHeartbeats 40000000 in
theorem rm6 (l : Launch) (Z : State) (a0 : Array Value) (hw : ∀ d ∈ tables_1, d.before a0 Z = true) (ws : List Jvm.Cond) (a1 : Addr) (p3 : Int32) (vs : List Int32) (h0 : Heap) (n0 : Nat) (Z0 : n0 ≤ h0.size) (E_a1 : Exa Z h0 a1 "[I") (A_a1 : Ar Z h0 a1 .int vs) (hn : ((0 : Int32) + p3).toInt = vs.length) (hm : vs.length < 8) : MetQ l Z (⟨"jdk/internal/util/ArraysSupport", "vectorizedHashCode", "(Ljava/lang/Object;IIII)I"⟩ : MethodName) (Jvm.Cond.code (⟨"jdk/internal/util/ArraysSupport", "vectorizedHashCode", "(Ljava/lang/Object;IIII)I"⟩ : MethodName) jdk_48_method_4_code 5 (some .int) :: ws) RM6 #[(.ref a1), (.int (0 : Int32)), (.int p3), (.int (1 : Int32)), (.int (10 : Int32))] h0 (fun v h L => Fr n0 L ∧ h = h0 ∧ v = some (.int (fH2_0 p3 vs))) := by
  refine MetFree.of_bodySF (plainFor_of_name own_pn0) hisR ?_
  intro p e s m args below meth c s₁ Bd hml0 hP hK
  obtain ⟨rfl, hZ, hh⟩ := hP
  have hx := Bd.exec
  have hby := Bd.bytes
  have hml : c.maxLocals = 5 := hml0
  have hown : s.vm.findClass "jdk/internal/util/ArraysSupport" = some m.cls := findClass_of_methodNamed Bd.named
  have hnm := (name_of_methodNamed Bd.named Bd.method).1
  have hlk : meth.locks = false := BodyLoose.notSynchronized Bd
  have X0 : Stand p l e RM6 s m #[(.ref a1), (.int (0 : Int32)), (.int p3), (.int (1 : Int32)), (.int (10 : Int32))] below meth c s₁ [] 0 0 := Stand.of_body Bd
  have e0 : s₁.heap = h0 := by rw [← hh, Bd.state]; rfl
  have N0 := Fr.nil n0
  suffices kk : Ends p e below (PostQ s 0 0 (fun v h L => Fr n0 L ∧ h = h0 ∧ v = some (.int (fH2_0 p3 vs)))) s₁ m 0 #[.val (.ref a1), .val (.int (0 : Int32)), .val (.int p3), .val (.int (1 : Int32)), .val (.int (10 : Int32))] [] by
    obtain ⟨t, o, k1, k2, k3, k4⟩ := kk
    exact ⟨t, o, castTop (own_ef6 m a1 p3) k1, k2, k3, k4⟩
  refine eILoad X0 hx (hb hby own_d6_0) rfl rfl ?_
  refine eTsw X0 hx (hb hby own_d6_2) (by decide) (o := 114) (by decide) (by decide) (pc' := 116) rfl ?_
  refine eILoadN X0 hx (hb hby own_d6_116) rfl rfl ?_
  refine eALoadN X0 hx (hb hby own_d6_117) rfl rfl rfl ?_
  refine eCast X0 hx hZ hown (hw _ (List.mem_of_getElem? (i := 31) rfl)) e0 (Ins.self E_a1) (hb hby own_d6_118) rfl (fun T1 X1 e1 => ?_)
  refine eILoadN X1 hx (hb hby own_d6_121) rfl rfl ?_
  refine eILoadN X1 hx (hb hby own_d6_122) rfl rfl ?_
  refine eCallS X1 hx hZ (y := (⟨"jdk/internal/util/ArraysSupport", "hashCode", "(I[III)I"⟩ : MethodName)) hown (hw _ (List.mem_of_getElem? (i := 33) rfl)) (hw _ (List.mem_of_getElem? (i := 34) rfl)) (hw _ (List.mem_of_getElem? (i := 29) rfl)) (hw _ (List.mem_of_getElem? (i := 35) rfl)) (by decide) e1 (rm7 l Z a0 hw [] (1 : Int32) a1 p3 vs h0 n0 Z0 A_a1 hn hm) (argsL := [(.int (1 : Int32)), (.ref a1), (.int (0 : Int32)), (.int p3)]) (rest := []) (lenOf own_pd0 rfl) rfl (by rw [hml]; rfl) 0 (by exact Nat.le_refl _) (by decide) (by decide) (by decide) (by decide) (hb hby own_d6_123) rfl (fun v2 T2 L2 q2 (X2 : Stand _ _ _ _ _ _ _ _ _ _ T2 _ 0 0) => ?_)
  obtain ⟨N2', e2, rfl⟩ := q2
  have N2 := Fr.app N0 N2'
  show Ends p e below _ T2 m 126 #[.val (.ref a1), .val (.int (0 : Int32)), .val (.int p3), .val (.int (1 : Int32)), .val (.int (10 : Int32))] [(.int (fH1_0 (1 : Int32) p3 vs))]
  refine eGoto X2 hx (hb hby own_d6_126) (by decide) (pc' := 157) rfl ?_
  exact eRetI X2 hx Bd.returns hlk (hb hby own_d6_157) (by decide) (by decide) (by rw [e2]; exact ⟨N2, rfl, rfl⟩)
theorem own_ofn {vs : List Int32} (hm : vs.length < 8) : (Int32.ofNat vs.length).toInt = vs.length := Int32.toInt_ofNat_of_lt (by omega)
theorem own_len {vs : List Int32} (hm : vs.length < 8) : ((0 : Int32) + Int32.ofNat vs.length).toInt = vs.length := by
  rw [Int32.zero_add]; exact own_ofn hm
theorem own_sw {vs : List Int32} (hm : vs.length < 8) (h2 : 2 ≤ vs.length) : (if (0 : Int) = (Int32.ofNat vs.length).toInt then (28 : Int) else if (1 : Int) = (Int32.ofNat vs.length).toInt then 32 else 41) = 41 := by
  rw [own_ofn hm, if_neg (by omega), if_neg (by omega)]
theorem own_pn1 : plainName "java/util/Arrays" = true := by first | (simp [plainName, overriddenIn]; done) | decide +kernel
theorem own_d3_0 : decode jdk_65_method_150_code 0 = .ok (.aload_n 0, 1) := by decide +kernel
theorem own_d3_1 : decode jdk_65_method_150_code 1 = .ok (.ifnonnull 5, 3) := by decide +kernel
theorem own_d3_6 : decode jdk_65_method_150_code 6 = .ok (.aload_n 0, 1) := by decide +kernel
theorem own_d3_7 : decode jdk_65_method_150_code 7 = .ok (.arraylength, 1) := by decide +kernel
theorem own_d3_8 : decode jdk_65_method_150_code 8 = .ok (.lookupswitch 41 #[(0, 28), (1, 32)], 28) := by decide +kernel
theorem own_d3_36 : decode jdk_65_method_150_code 36 = .ok (.iconst 1, 1) := by decide +kernel
theorem own_d3_37 : decode jdk_65_method_150_code 37 = .ok (.goto 22, 3) := by decide +kernel
theorem own_d3_59 : decode jdk_65_method_150_code 59 = .ok (.ireturn, 1) := by decide +kernel
def RM3z : Room := { frames := 0, cells := 0, slots := 0, locals := 0 }
def fH3z_0  : Int32 := (1 : Int32)
theorem own_ef3z (m : MethodId) (a1 : Addr) : entryFrame m #[(.ref a1)] 1 = mkF m 0 #[.val (.ref a1)] [] := by first | (simp [entryFrame, mkF, argsToLocals, Value.category]; done) | rfl
set_option maxRecDepth 65536 in
set_option maxHeartbeats 40000000 in
theorem rm3z (l : Launch) (Z : State) (a0 : Array Value) (hw : ∀ d ∈ tables_1, d.before a0 Z = true) (ws : List Jvm.Cond) (a1 : Addr) (h0 : Heap) (n0 : Nat) (Z0 : n0 ≤ h0.size) (E_a1 : Exa Z h0 a1 "[I") (A_a1 : Ar Z h0 a1 .int []) : MetQ l Z (⟨"java/util/Arrays", "hashCode", "([I)I"⟩ : MethodName) (Jvm.Cond.code (⟨"java/util/Arrays", "hashCode", "([I)I"⟩ : MethodName) jdk_65_method_150_code 1 (some .int) :: ws) RM3z #[(.ref a1)] h0 (fun v h L => Fr n0 L ∧ h = h0 ∧ v = some (.int (fH3z_0))) := by
  refine MetFree.of_bodySF (plainFor_of_name own_pn1) hisR ?_
  intro p e s m args below meth c s₁ Bd hml0 hP hK
  obtain ⟨rfl, hZ, hh⟩ := hP
  have hx := Bd.exec
  have hby := Bd.bytes
  have hml : c.maxLocals = 1 := hml0
  have hown : s.vm.findClass "java/util/Arrays" = some m.cls := findClass_of_methodNamed Bd.named
  have hnm := (name_of_methodNamed Bd.named Bd.method).1
  have hlk : meth.locks = false := BodyLoose.notSynchronized Bd
  have X0 : Stand p l e RM3z s m #[(.ref a1)] below meth c s₁ [] 0 0 := Stand.of_body Bd
  have e0 : s₁.heap = h0 := by rw [← hh, Bd.state]; rfl
  have N0 := Fr.nil n0
  suffices kk : Ends p e below (PostQ s 0 0 (fun v h L => Fr n0 L ∧ h = h0 ∧ v = some (.int (fH3z_0)))) s₁ m 0 #[.val (.ref a1)] [] by
    obtain ⟨t, o, k1, k2, k3, k4⟩ := kk
    exact ⟨t, o, castTop (own_ef3z m a1) k1, k2, k3, k4⟩
  refine eALoadN X0 hx (hb hby own_d3_0) rfl rfl rfl ?_
  refine eNonNullY X0 hx (hb hby own_d3_1) (by decide) (pc' := 6) rfl ?_
  refine eALoadN X0 hx (hb hby own_d3_6) rfl rfl rfl ?_
  refine eLen X0 hx hZ e0 A_a1 (0 : Int32) rfl (hb hby own_d3_7) rfl ?_
  refine eLsw X0 hx (hb hby own_d3_8) (by decide) (o := 28) rfl (by decide) (pc' := 36) rfl ?_
  refine eIConst X0 hx (1 : Int32) (hb hby own_d3_36) rfl rfl ?_
  refine eGoto X0 hx (hb hby own_d3_37) (by decide) (pc' := 59) rfl ?_
  exact eRetI X0 hx Bd.returns hlk (hb hby own_d3_59) (by decide) (by decide) (by rw [e0]; exact ⟨N0, rfl, rfl⟩)
theorem own_pn2 : plainName "com/example/workflow_soundness/workflowsoundness/model/OmegaMarking" = true := by first | (simp [plainName, overriddenIn]; done) | decide +kernel
theorem own_d1_0 : decode prog_114_method_1_code 0 = .ok (.aload_n 0, 1) := by decide +kernel
theorem own_d1_1 : decode prog_114_method_1_code 1 = .ok (.invokespecial 1, 3) := by decide +kernel
theorem own_d1_4 : decode prog_114_method_1_code 4 = .ok (.aload_n 0, 1) := by decide +kernel
theorem own_d1_5 : decode prog_114_method_1_code 5 = .ok (.aload_n 1, 1) := by decide +kernel
theorem own_d1_6 : decode prog_114_method_1_code 6 = .ok (.putfield 7, 3) := by decide +kernel
theorem own_d1_9 : decode prog_114_method_1_code 9 = .ok (.aload_n 0, 1) := by decide +kernel
theorem own_d1_10 : decode prog_114_method_1_code 10 = .ok (.aload_n 1, 1) := by decide +kernel
theorem own_d1_11 : decode prog_114_method_1_code 11 = .ok (.invokestatic 13, 3) := by decide +kernel
theorem own_pd1 : parseMethodDescriptor "([I)I" = some ⟨[(.array .int)], some .int⟩ := by decide +kernel
theorem own_d1_14 : decode prog_114_method_1_code 14 = .ok (.putfield 19, 3) := by decide +kernel
theorem own_d1_17 : decode prog_114_method_1_code 17 = .ok (.return_, 1) := by decide +kernel
def RM1z : Room := { frames := 1, cells := 0, slots := 0, locals := 13 }
def fInz_0  : Int32 := (1 : Int32)
theorem own_ef1z (m : MethodId) (a1 : Addr) (a2 : Addr) : entryFrame m #[(.ref a1), (.ref a2)] 2 = mkF m 0 #[.val (.ref a1), .val (.ref a2)] [] := by first | (simp [entryFrame, mkF, argsToLocals, Value.category]; done) | rfl
set_option maxRecDepth 65536 in
set_option maxHeartbeats 40000000 in
theorem rm1z (l : Launch) (Z : State) (a0 : Array Value) (hw : ∀ d ∈ tables_1, d.before a0 Z = true) (ws : List Jvm.Cond) (a1 : Addr) (a2 : Addr) (w1 : Int32) (h0 : Heap) (n0 : Nat) (Z0 : n0 ≤ h0.size) (E_a1 : Exa Z h0 a1 "com/example/workflow_soundness/workflowsoundness/model/OmegaMarking") (F_a1__tokens : Fld Z h0 a1 "com/example/workflow_soundness/workflowsoundness/model/OmegaMarking" "_tokens" "[I" .null) (F_a1__hash : Fld Z h0 a1 "com/example/workflow_soundness/workflowsoundness/model/OmegaMarking" "_hash" "I" (.int w1)) (E_a2 : Exa Z h0 a2 "[I") (A_a2 : Ar Z h0 a2 .int []) (ge_a1 : n0 ≤ a1) (ne_a1_a2 : a1 ≠ a2) : MetQ l Z (⟨"com/example/workflow_soundness/workflowsoundness/model/OmegaMarking", "<init>", "([I)V"⟩ : MethodName) (Jvm.Cond.code (⟨"com/example/workflow_soundness/workflowsoundness/model/OmegaMarking", "<init>", "([I)V"⟩ : MethodName) prog_114_method_1_code 2 none :: ws) RM1z #[(.ref a1), (.ref a2)] h0 (fun v h L => Fr n0 L ∧ Keep h0 h [a1] ∧ v = none ∧ Exa Z h a1 "com/example/workflow_soundness/workflowsoundness/model/OmegaMarking" ∧ Fld Z h a1 "com/example/workflow_soundness/workflowsoundness/model/OmegaMarking" "_tokens" "[I" (.ref a2) ∧ Fld Z h a1 "com/example/workflow_soundness/workflowsoundness/model/OmegaMarking" "_hash" "I" (.int (fInz_0)) ∧ Exa Z h a2 "[I" ∧ Ar Z h a2 .int []) := by
  refine MetFree.of_bodySF (plainFor_of_name own_pn2) hisR ?_
  intro p e s m args below meth c s₁ Bd hml0 hP hK
  obtain ⟨rfl, hZ, hh⟩ := hP
  have hx := Bd.exec
  have hby := Bd.bytes
  have hml : c.maxLocals = 2 := hml0
  have hown : s.vm.findClass "com/example/workflow_soundness/workflowsoundness/model/OmegaMarking" = some m.cls := findClass_of_methodNamed Bd.named
  have hnm := (name_of_methodNamed Bd.named Bd.method).1
  have hlk : meth.locks = false := BodyLoose.notSynchronized Bd
  have X0 : Stand p l e RM1z s m #[(.ref a1), (.ref a2)] below meth c s₁ [] 0 0 := Stand.of_body Bd
  have e0 : s₁.heap = h0 := by rw [← hh, Bd.state]; rfl
  have N0 := Fr.nil n0
  have K0 := Keep.refl h0 [a1]
  suffices kk : Ends p e below (PostQ s 0 0 (fun v h L => Fr n0 L ∧ Keep h0 h [a1] ∧ v = none ∧ Exa Z h a1 "com/example/workflow_soundness/workflowsoundness/model/OmegaMarking" ∧ Fld Z h a1 "com/example/workflow_soundness/workflowsoundness/model/OmegaMarking" "_tokens" "[I" (.ref a2) ∧ Fld Z h a1 "com/example/workflow_soundness/workflowsoundness/model/OmegaMarking" "_hash" "I" (.int (fInz_0)) ∧ Exa Z h a2 "[I" ∧ Ar Z h a2 .int [])) s₁ m 0 #[.val (.ref a1), .val (.ref a2)] [] by
    obtain ⟨t, o, k1, k2, k3, k4⟩ := kk
    exact ⟨t, o, castTop (own_ef1z m a1 a2) k1, k2, k3, k4⟩
  refine eALoadN X0 hx (hb hby own_d1_0) rfl rfl rfl ?_
  refine eInitO X0 hx hZ hown (hw _ (List.mem_of_getElem? (i := 7) rfl)) (hw _ (List.mem_of_getElem? (i := 8) rfl)) (hw _ (List.mem_of_getElem? (i := 9) rfl)) e0 (by rw [hml]; rfl) (hb hby own_d1_1) (by decide) 0 (by exact Nat.le_refl _) (by decide) rfl (fun T1 X1 e1 => ?_)
  refine eALoadN X1 hx (hb hby own_d1_4) rfl rfl rfl ?_
  refine eALoadN X1 hx (hb hby own_d1_5) rfl rfl rfl ?_
  refine ePutF X1 hx hZ hown (hw _ (List.mem_of_getElem? (i := 10) rfl)) Via.refl e1 F_a1__tokens E_a1 (Or.inr ⟨(hw _ (List.mem_of_getElem? (i := 11) rfl)), rfl, hnm⟩) (hw _ (List.mem_of_getElem? (i := 2) rfl)) (ty := (.array .int)) (by decide) rfl rfl (hb hby own_d1_6) rfl (fun T2 h2 X2 e2 W2 => ?_)
  have E_a1 := E_a1.wr W2
  have F_a1__hash := F_a1__hash.other W2 (Or.inr (slot_ne (Or.inr (hw _ (List.mem_of_getElem? (i := 17) rfl))) (Or.inr (hw _ (List.mem_of_getElem? (i := 11) rfl))) (by decide) (t := .int) (t' := (.array .int)) (by decide) (by decide)))
  have E_a2 := E_a2.wr W2
  have A_a2 := A_a2.other W2 (Ne.symm ne_a1_a2)
  have F_a1__tokens := F_a1__tokens.same W2
  have N2 := Fr.snoc X2 N0 ge_a1
  have Z2 := Nat.le_trans Z0 (Keep.of_wr W2).1
  have K2 : Keep h0 h2 [a1] := K0.wr W2 (Or.inl (List.mem_of_getElem? (i := 0) rfl))
  refine eALoadN X2 hx (hb hby own_d1_9) rfl rfl rfl ?_
  refine eALoadN X2 hx (hb hby own_d1_10) rfl rfl rfl ?_
  refine eCallS X2 hx hZ (y := (⟨"java/util/Arrays", "hashCode", "([I)I"⟩ : MethodName)) hown (hw _ (List.mem_of_getElem? (i := 12) rfl)) (hw _ (List.mem_of_getElem? (i := 13) rfl)) (hw _ (List.mem_of_getElem? (i := 14) rfl)) (hw _ (List.mem_of_getElem? (i := 15) rfl)) (by decide) e2 (rm3z l Z a0 hw [] a2 h2 n0 Z2 E_a2 A_a2) (argsL := [(.ref a2)]) (rest := [(.ref a1)]) (lenOf own_pd1 rfl) rfl (by rw [hml]; rfl) 1 (by exact Nat.le_refl _) (by decide) (by decide) (by decide) (by decide) (hb hby own_d1_11) rfl (fun v3 T3 L3 q3 (X3 : Stand _ _ _ _ _ _ _ _ _ _ T3 _ 0 0) => ?_)
  obtain ⟨N3', e3, rfl⟩ := q3
  have N3 := Fr.app N2 N3'
  show Ends p e below _ T3 m 14 #[.val (.ref a1), .val (.ref a2)] [(.int (1 : Int32)), (.ref a1)]
  refine ePutF X3 hx hZ hown (hw _ (List.mem_of_getElem? (i := 16) rfl)) Via.refl e3 F_a1__hash E_a1 (Or.inr ⟨(hw _ (List.mem_of_getElem? (i := 17) rfl)), rfl, hnm⟩) (hw _ (List.mem_of_getElem? (i := 2) rfl)) (ty := .int) (by decide) rfl rfl (hb hby own_d1_14) rfl (fun T4 h4 X4 e4 W4 => ?_)
  have E_a1 := E_a1.wr W4
  have F_a1__tokens := F_a1__tokens.other W4 (Or.inr (slot_ne (Or.inr (hw _ (List.mem_of_getElem? (i := 11) rfl))) (Or.inr (hw _ (List.mem_of_getElem? (i := 17) rfl))) (by decide) (t := (.array .int)) (t' := .int) (by decide) (by decide)))
  have E_a2 := E_a2.wr W4
  have A_a2 := A_a2.other W4 (Ne.symm ne_a1_a2)
  have F_a1__hash := F_a1__hash.same W4
  have N4 := Fr.snoc X4 N3 ge_a1
  have Z4 := Nat.le_trans Z2 (Keep.of_wr W4).1
  have K4 : Keep h0 h4 [a1] := K2.wr W4 (Or.inl (List.mem_of_getElem? (i := 0) rfl))
  exact eRetV X4 hx Bd.returns hlk (hb hby own_d1_17) (by decide) (by decide) (by rw [e4]; exact ⟨N4, K4, rfl, E_a1, F_a1__tokens, F_a1__hash, E_a2, A_a2⟩)
theorem own_d3_40 : decode jdk_65_method_150_code 40 = .ok (.bipush 31, 2) := by decide +kernel
theorem own_d3_42 : decode jdk_65_method_150_code 42 = .ok (.aload_n 0, 1) := by decide +kernel
theorem own_d3_43 : decode jdk_65_method_150_code 43 = .ok (.iconst 0, 1) := by decide +kernel
theorem own_d3_44 : decode jdk_65_method_150_code 44 = .ok (.iaload, 1) := by decide +kernel
theorem own_d3_45 : decode jdk_65_method_150_code 45 = .ok (.iadd, 1) := by decide +kernel
theorem own_d3_46 : decode jdk_65_method_150_code 46 = .ok (.goto 13, 3) := by decide +kernel
def RM3o : Room := { frames := 0, cells := 0, slots := 0, locals := 0 }
def fH3o_0 (x0 : Int32) : Int32 := ((31 : Int32) + x0)
theorem own_ef3o (m : MethodId) (a1 : Addr) : entryFrame m #[(.ref a1)] 1 = mkF m 0 #[.val (.ref a1)] [] := by first | (simp [entryFrame, mkF, argsToLocals, Value.category]; done) | rfl
set_option maxRecDepth 65536 in
set_option maxHeartbeats 40000000 in
theorem rm3o (l : Launch) (Z : State) (a0 : Array Value) (hw : ∀ d ∈ tables_1, d.before a0 Z = true) (ws : List Jvm.Cond) (a1 : Addr) (x0 : Int32) (h0 : Heap) (n0 : Nat) (Z0 : n0 ≤ h0.size) (E_a1 : Exa Z h0 a1 "[I") (A_a1 : Ar Z h0 a1 .int [x0]) : MetQ l Z (⟨"java/util/Arrays", "hashCode", "([I)I"⟩ : MethodName) (Jvm.Cond.code (⟨"java/util/Arrays", "hashCode", "([I)I"⟩ : MethodName) jdk_65_method_150_code 1 (some .int) :: ws) RM3o #[(.ref a1)] h0 (fun v h L => Fr n0 L ∧ h = h0 ∧ v = some (.int (fH3o_0 x0))) := by
  refine MetFree.of_bodySF (plainFor_of_name own_pn1) hisR ?_
  intro p e s m args below meth c s₁ Bd hml0 hP hK
  obtain ⟨rfl, hZ, hh⟩ := hP
  have hx := Bd.exec
  have hby := Bd.bytes
  have hml : c.maxLocals = 1 := hml0
  have hown : s.vm.findClass "java/util/Arrays" = some m.cls := findClass_of_methodNamed Bd.named
  have hnm := (name_of_methodNamed Bd.named Bd.method).1
  have hlk : meth.locks = false := BodyLoose.notSynchronized Bd
  have X0 : Stand p l e RM3o s m #[(.ref a1)] below meth c s₁ [] 0 0 := Stand.of_body Bd
  have e0 : s₁.heap = h0 := by rw [← hh, Bd.state]; rfl
  have N0 := Fr.nil n0
  suffices kk : Ends p e below (PostQ s 0 0 (fun v h L => Fr n0 L ∧ h = h0 ∧ v = some (.int (fH3o_0 x0)))) s₁ m 0 #[.val (.ref a1)] [] by
    obtain ⟨t, o, k1, k2, k3, k4⟩ := kk
    exact ⟨t, o, castTop (own_ef3o m a1) k1, k2, k3, k4⟩
  refine eALoadN X0 hx (hb hby own_d3_0) rfl rfl rfl ?_
  refine eNonNullY X0 hx (hb hby own_d3_1) (by decide) (pc' := 6) rfl ?_
  refine eALoadN X0 hx (hb hby own_d3_6) rfl rfl rfl ?_
  refine eLen X0 hx hZ e0 A_a1 (1 : Int32) rfl (hb hby own_d3_7) rfl ?_
  refine eLsw X0 hx (hb hby own_d3_8) (by decide) (o := 32) rfl (by decide) (pc' := 40) rfl ?_
  refine eBipush X0 hx (31 : Int32) (hb hby own_d3_40) rfl rfl ?_
  refine eALoadN X0 hx (hb hby own_d3_42) rfl rfl rfl ?_
  refine eIConst X0 hx (0 : Int32) (hb hby own_d3_43) rfl rfl ?_
  refine eIALoad X0 hx hZ e0 A_a1 x0 rfl (inbL (n := 1) rfl (by decide)) (hb hby own_d3_44) rfl ?_
  refine eIAdd X0 hx (hb hby own_d3_45) rfl ?_
  refine eGoto X0 hx (hb hby own_d3_46) (by decide) (pc' := 59) rfl ?_
  exact eRetI X0 hx Bd.returns hlk (hb hby own_d3_59) (by decide) (by decide) (by rw [e0]; exact ⟨N0, rfl, rfl⟩)
def RM1o : Room := { frames := 1, cells := 0, slots := 0, locals := 13 }
def fIno_0 (x0 : Int32) : Int32 := ((31 : Int32) + x0)
theorem own_ef1o (m : MethodId) (a1 : Addr) (a2 : Addr) : entryFrame m #[(.ref a1), (.ref a2)] 2 = mkF m 0 #[.val (.ref a1), .val (.ref a2)] [] := by first | (simp [entryFrame, mkF, argsToLocals, Value.category]; done) | rfl
set_option maxRecDepth 65536 in
set_option maxHeartbeats 40000000 in
theorem rm1o (l : Launch) (Z : State) (a0 : Array Value) (hw : ∀ d ∈ tables_1, d.before a0 Z = true) (ws : List Jvm.Cond) (a1 : Addr) (a2 : Addr) (w1 : Int32) (x0 : Int32) (h0 : Heap) (n0 : Nat) (Z0 : n0 ≤ h0.size) (E_a1 : Exa Z h0 a1 "com/example/workflow_soundness/workflowsoundness/model/OmegaMarking") (F_a1__tokens : Fld Z h0 a1 "com/example/workflow_soundness/workflowsoundness/model/OmegaMarking" "_tokens" "[I" .null) (F_a1__hash : Fld Z h0 a1 "com/example/workflow_soundness/workflowsoundness/model/OmegaMarking" "_hash" "I" (.int w1)) (E_a2 : Exa Z h0 a2 "[I") (A_a2 : Ar Z h0 a2 .int [x0]) (ge_a1 : n0 ≤ a1) (ne_a1_a2 : a1 ≠ a2) : MetQ l Z (⟨"com/example/workflow_soundness/workflowsoundness/model/OmegaMarking", "<init>", "([I)V"⟩ : MethodName) (Jvm.Cond.code (⟨"com/example/workflow_soundness/workflowsoundness/model/OmegaMarking", "<init>", "([I)V"⟩ : MethodName) prog_114_method_1_code 2 none :: ws) RM1o #[(.ref a1), (.ref a2)] h0 (fun v h L => Fr n0 L ∧ Keep h0 h [a1] ∧ v = none ∧ Exa Z h a1 "com/example/workflow_soundness/workflowsoundness/model/OmegaMarking" ∧ Fld Z h a1 "com/example/workflow_soundness/workflowsoundness/model/OmegaMarking" "_tokens" "[I" (.ref a2) ∧ Fld Z h a1 "com/example/workflow_soundness/workflowsoundness/model/OmegaMarking" "_hash" "I" (.int (fIno_0 x0)) ∧ Exa Z h a2 "[I" ∧ Ar Z h a2 .int [x0]) := by
  refine MetFree.of_bodySF (plainFor_of_name own_pn2) hisR ?_
  intro p e s m args below meth c s₁ Bd hml0 hP hK
  obtain ⟨rfl, hZ, hh⟩ := hP
  have hx := Bd.exec
  have hby := Bd.bytes
  have hml : c.maxLocals = 2 := hml0
  have hown : s.vm.findClass "com/example/workflow_soundness/workflowsoundness/model/OmegaMarking" = some m.cls := findClass_of_methodNamed Bd.named
  have hnm := (name_of_methodNamed Bd.named Bd.method).1
  have hlk : meth.locks = false := BodyLoose.notSynchronized Bd
  have X0 : Stand p l e RM1o s m #[(.ref a1), (.ref a2)] below meth c s₁ [] 0 0 := Stand.of_body Bd
  have e0 : s₁.heap = h0 := by rw [← hh, Bd.state]; rfl
  have N0 := Fr.nil n0
  have K0 := Keep.refl h0 [a1]
  suffices kk : Ends p e below (PostQ s 0 0 (fun v h L => Fr n0 L ∧ Keep h0 h [a1] ∧ v = none ∧ Exa Z h a1 "com/example/workflow_soundness/workflowsoundness/model/OmegaMarking" ∧ Fld Z h a1 "com/example/workflow_soundness/workflowsoundness/model/OmegaMarking" "_tokens" "[I" (.ref a2) ∧ Fld Z h a1 "com/example/workflow_soundness/workflowsoundness/model/OmegaMarking" "_hash" "I" (.int (fIno_0 x0)) ∧ Exa Z h a2 "[I" ∧ Ar Z h a2 .int [x0])) s₁ m 0 #[.val (.ref a1), .val (.ref a2)] [] by
    obtain ⟨t, o, k1, k2, k3, k4⟩ := kk
    exact ⟨t, o, castTop (own_ef1o m a1 a2) k1, k2, k3, k4⟩
  refine eALoadN X0 hx (hb hby own_d1_0) rfl rfl rfl ?_
  refine eInitO X0 hx hZ hown (hw _ (List.mem_of_getElem? (i := 7) rfl)) (hw _ (List.mem_of_getElem? (i := 8) rfl)) (hw _ (List.mem_of_getElem? (i := 9) rfl)) e0 (by rw [hml]; rfl) (hb hby own_d1_1) (by decide) 0 (by exact Nat.le_refl _) (by decide) rfl (fun T1 X1 e1 => ?_)
  refine eALoadN X1 hx (hb hby own_d1_4) rfl rfl rfl ?_
  refine eALoadN X1 hx (hb hby own_d1_5) rfl rfl rfl ?_
  refine ePutF X1 hx hZ hown (hw _ (List.mem_of_getElem? (i := 10) rfl)) Via.refl e1 F_a1__tokens E_a1 (Or.inr ⟨(hw _ (List.mem_of_getElem? (i := 11) rfl)), rfl, hnm⟩) (hw _ (List.mem_of_getElem? (i := 2) rfl)) (ty := (.array .int)) (by decide) rfl rfl (hb hby own_d1_6) rfl (fun T2 h2 X2 e2 W2 => ?_)
  have E_a1 := E_a1.wr W2
  have F_a1__hash := F_a1__hash.other W2 (Or.inr (slot_ne (Or.inr (hw _ (List.mem_of_getElem? (i := 17) rfl))) (Or.inr (hw _ (List.mem_of_getElem? (i := 11) rfl))) (by decide) (t := .int) (t' := (.array .int)) (by decide) (by decide)))
  have E_a2 := E_a2.wr W2
  have A_a2 := A_a2.other W2 (Ne.symm ne_a1_a2)
  have F_a1__tokens := F_a1__tokens.same W2
  have N2 := Fr.snoc X2 N0 ge_a1
  have Z2 := Nat.le_trans Z0 (Keep.of_wr W2).1
  have K2 : Keep h0 h2 [a1] := K0.wr W2 (Or.inl (List.mem_of_getElem? (i := 0) rfl))
  refine eALoadN X2 hx (hb hby own_d1_9) rfl rfl rfl ?_
  refine eALoadN X2 hx (hb hby own_d1_10) rfl rfl rfl ?_
  refine eCallS X2 hx hZ (y := (⟨"java/util/Arrays", "hashCode", "([I)I"⟩ : MethodName)) hown (hw _ (List.mem_of_getElem? (i := 12) rfl)) (hw _ (List.mem_of_getElem? (i := 13) rfl)) (hw _ (List.mem_of_getElem? (i := 14) rfl)) (hw _ (List.mem_of_getElem? (i := 15) rfl)) (by decide) e2 (rm3o l Z a0 hw [] a2 x0 h2 n0 Z2 E_a2 A_a2) (argsL := [(.ref a2)]) (rest := [(.ref a1)]) (lenOf own_pd1 rfl) rfl (by rw [hml]; rfl) 1 (by exact Nat.le_refl _) (by decide) (by decide) (by decide) (by decide) (hb hby own_d1_11) rfl (fun v3 T3 L3 q3 (X3 : Stand _ _ _ _ _ _ _ _ _ _ T3 _ 0 0) => ?_)
  obtain ⟨N3', e3, rfl⟩ := q3
  have N3 := Fr.app N2 N3'
  show Ends p e below _ T3 m 14 #[.val (.ref a1), .val (.ref a2)] [(.int ((31 : Int32) + x0)), (.ref a1)]
  refine ePutF X3 hx hZ hown (hw _ (List.mem_of_getElem? (i := 16) rfl)) Via.refl e3 F_a1__hash E_a1 (Or.inr ⟨(hw _ (List.mem_of_getElem? (i := 17) rfl)), rfl, hnm⟩) (hw _ (List.mem_of_getElem? (i := 2) rfl)) (ty := .int) (by decide) rfl rfl (hb hby own_d1_14) rfl (fun T4 h4 X4 e4 W4 => ?_)
  have E_a1 := E_a1.wr W4
  have F_a1__tokens := F_a1__tokens.other W4 (Or.inr (slot_ne (Or.inr (hw _ (List.mem_of_getElem? (i := 11) rfl))) (Or.inr (hw _ (List.mem_of_getElem? (i := 17) rfl))) (by decide) (t := (.array .int)) (t' := .int) (by decide) (by decide)))
  have E_a2 := E_a2.wr W4
  have A_a2 := A_a2.other W4 (Ne.symm ne_a1_a2)
  have F_a1__hash := F_a1__hash.same W4
  have N4 := Fr.snoc X4 N3 ge_a1
  have Z4 := Nat.le_trans Z2 (Keep.of_wr W4).1
  have K4 : Keep h0 h4 [a1] := K2.wr W4 (Or.inl (List.mem_of_getElem? (i := 0) rfl))
  exact eRetV X4 hx Bd.returns hlk (hb hby own_d1_17) (by decide) (by decide) (by rw [e4]; exact ⟨N4, K4, rfl, E_a1, F_a1__tokens, F_a1__hash, E_a2, A_a2⟩)
theorem own_d3_49 : decode jdk_65_method_150_code 49 = .ok (.aload_n 0, 1) := by decide +kernel
theorem own_d3_50 : decode jdk_65_method_150_code 50 = .ok (.iconst 0, 1) := by decide +kernel
theorem own_d3_51 : decode jdk_65_method_150_code 51 = .ok (.aload_n 0, 1) := by decide +kernel
theorem own_d3_52 : decode jdk_65_method_150_code 52 = .ok (.arraylength, 1) := by decide +kernel
theorem own_d3_53 : decode jdk_65_method_150_code 53 = .ok (.iconst 1, 1) := by decide +kernel
theorem own_d3_54 : decode jdk_65_method_150_code 54 = .ok (.bipush 10, 2) := by decide +kernel
theorem own_d3_56 : decode jdk_65_method_150_code 56 = .ok (.invokestatic 379, 3) := by decide +kernel
theorem own_pd2 : parseMethodDescriptor "(Ljava/lang/Object;IIII)I" = some ⟨[(.object "java/lang/Object"), .int, .int, .int, .int], some .int⟩ := by decide +kernel
def RM3g : Room := { frames := 2, cells := 0, slots := 0, locals := 33 }
def fH3g_0 (vs : List Int32) : Int32 := (fH1_0 (1 : Int32) (Int32.ofNat vs.length) vs)
theorem own_ef3g (m : MethodId) (a1 : Addr) : entryFrame m #[(.ref a1)] 1 = mkF m 0 #[.val (.ref a1)] [] := by first | (simp [entryFrame, mkF, argsToLocals, Value.category]; done) | rfl
set_option maxRecDepth 65536 in
set_option maxHeartbeats 40000000 in
theorem rm3g (l : Launch) (Z : State) (a0 : Array Value) (hw : ∀ d ∈ tables_1, d.before a0 Z = true) (ws : List Jvm.Cond) (a1 : Addr) (vs : List Int32) (h0 : Heap) (n0 : Nat) (Z0 : n0 ≤ h0.size) (E_a1 : Exa Z h0 a1 "[I") (A_a1 : Ar Z h0 a1 .int vs) (hm : vs.length < 8) (hge2 : 2 ≤ vs.length) : MetQ l Z (⟨"java/util/Arrays", "hashCode", "([I)I"⟩ : MethodName) (Jvm.Cond.code (⟨"java/util/Arrays", "hashCode", "([I)I"⟩ : MethodName) jdk_65_method_150_code 1 (some .int) :: ws) RM3g #[(.ref a1)] h0 (fun v h L => Fr n0 L ∧ h = h0 ∧ v = some (.int (fH3g_0 vs))) := by
  refine MetFree.of_bodySF (plainFor_of_name own_pn1) hisR ?_
  intro p e s m args below meth c s₁ Bd hml0 hP hK
  obtain ⟨rfl, hZ, hh⟩ := hP
  have hx := Bd.exec
  have hby := Bd.bytes
  have hml : c.maxLocals = 1 := hml0
  have hown : s.vm.findClass "java/util/Arrays" = some m.cls := findClass_of_methodNamed Bd.named
  have hnm := (name_of_methodNamed Bd.named Bd.method).1
  have hlk : meth.locks = false := BodyLoose.notSynchronized Bd
  have X0 : Stand p l e RM3g s m #[(.ref a1)] below meth c s₁ [] 0 0 := Stand.of_body Bd
  have e0 : s₁.heap = h0 := by rw [← hh, Bd.state]; rfl
  have N0 := Fr.nil n0
  suffices kk : Ends p e below (PostQ s 0 0 (fun v h L => Fr n0 L ∧ h = h0 ∧ v = some (.int (fH3g_0 vs)))) s₁ m 0 #[.val (.ref a1)] [] by
    obtain ⟨t, o, k1, k2, k3, k4⟩ := kk
    exact ⟨t, o, castTop (own_ef3g m a1) k1, k2, k3, k4⟩
  refine eALoadN X0 hx (hb hby own_d3_0) rfl rfl rfl ?_
  refine eNonNullY X0 hx (hb hby own_d3_1) (by decide) (pc' := 6) rfl ?_
  refine eALoadN X0 hx (hb hby own_d3_6) rfl rfl rfl ?_
  refine eLen X0 hx hZ e0 A_a1 (Int32.ofNat vs.length) rfl (hb hby own_d3_7) rfl ?_
  refine eLsw X0 hx (hb hby own_d3_8) (by decide) (o := 41) (own_sw hm hge2) (by decide) (pc' := 49) rfl ?_
  refine eALoadN X0 hx (hb hby own_d3_49) rfl rfl rfl ?_
  refine eIConst X0 hx (0 : Int32) (hb hby own_d3_50) rfl rfl ?_
  refine eALoadN X0 hx (hb hby own_d3_51) rfl rfl rfl ?_
  refine eLen X0 hx hZ e0 A_a1 (Int32.ofNat vs.length) rfl (hb hby own_d3_52) rfl ?_
  refine eIConst X0 hx (1 : Int32) (hb hby own_d3_53) rfl rfl ?_
  refine eBipush X0 hx (10 : Int32) (hb hby own_d3_54) rfl rfl ?_
  refine eCallS X0 hx hZ (y := (⟨"jdk/internal/util/ArraysSupport", "vectorizedHashCode", "(Ljava/lang/Object;IIII)I"⟩ : MethodName)) hown (hw _ (List.mem_of_getElem? (i := 27) rfl)) (hw _ (List.mem_of_getElem? (i := 28) rfl)) (hw _ (List.mem_of_getElem? (i := 29) rfl)) (hw _ (List.mem_of_getElem? (i := 30) rfl)) (by decide) e0 (rm6 l Z a0 hw [] a1 (Int32.ofNat vs.length) vs h0 n0 Z0 E_a1 A_a1 (own_len hm) hm) (argsL := [(.ref a1), (.int (0 : Int32)), (.int (Int32.ofNat vs.length)), (.int (1 : Int32)), (.int (10 : Int32))]) (rest := []) (lenOf own_pd2 rfl) rfl (by rw [hml]; rfl) 0 (by exact Nat.le_refl _) (by decide) (by decide) (by decide) (by decide) (hb hby own_d3_56) rfl (fun v1 T1 L1 q1 (X1 : Stand _ _ _ _ _ _ _ _ _ _ T1 _ 0 0) => ?_)
  obtain ⟨N1', e1, rfl⟩ := q1
  have N1 := Fr.app N0 N1'
  show Ends p e below _ T1 m 59 #[.val (.ref a1)] [(.int (fH1_0 (1 : Int32) (Int32.ofNat vs.length) vs))]
  exact eRetI X1 hx Bd.returns hlk (hb hby own_d3_59) (by decide) (by decide) (by rw [e1]; exact ⟨N1, rfl, rfl⟩)
def RM1g : Room := { frames := 3, cells := 0, slots := 0, locals := 46 }
def fIng_0 (vs : List Int32) : Int32 := (fH1_0 (1 : Int32) (Int32.ofNat vs.length) vs)
theorem own_ef1g (m : MethodId) (a1 : Addr) (a2 : Addr) : entryFrame m #[(.ref a1), (.ref a2)] 2 = mkF m 0 #[.val (.ref a1), .val (.ref a2)] [] := by first | (simp [entryFrame, mkF, argsToLocals, Value.category]; done) | rfl
set_option maxRecDepth 65536 in
set_option maxHeartbeats 40000000 in
theorem rm1g (l : Launch) (Z : State) (a0 : Array Value) (hw : ∀ d ∈ tables_1, d.before a0 Z = true) (ws : List Jvm.Cond) (a1 : Addr) (a2 : Addr) (w1 : Int32) (vs : List Int32) (h0 : Heap) (n0 : Nat) (Z0 : n0 ≤ h0.size) (E_a1 : Exa Z h0 a1 "com/example/workflow_soundness/workflowsoundness/model/OmegaMarking") (F_a1__tokens : Fld Z h0 a1 "com/example/workflow_soundness/workflowsoundness/model/OmegaMarking" "_tokens" "[I" .null) (F_a1__hash : Fld Z h0 a1 "com/example/workflow_soundness/workflowsoundness/model/OmegaMarking" "_hash" "I" (.int w1)) (E_a2 : Exa Z h0 a2 "[I") (A_a2 : Ar Z h0 a2 .int vs) (ge_a1 : n0 ≤ a1) (ne_a1_a2 : a1 ≠ a2) (hm : vs.length < 8) (hge2 : 2 ≤ vs.length) : MetQ l Z (⟨"com/example/workflow_soundness/workflowsoundness/model/OmegaMarking", "<init>", "([I)V"⟩ : MethodName) (Jvm.Cond.code (⟨"com/example/workflow_soundness/workflowsoundness/model/OmegaMarking", "<init>", "([I)V"⟩ : MethodName) prog_114_method_1_code 2 none :: ws) RM1g #[(.ref a1), (.ref a2)] h0 (fun v h L => Fr n0 L ∧ Keep h0 h [a1] ∧ v = none ∧ Exa Z h a1 "com/example/workflow_soundness/workflowsoundness/model/OmegaMarking" ∧ Fld Z h a1 "com/example/workflow_soundness/workflowsoundness/model/OmegaMarking" "_tokens" "[I" (.ref a2) ∧ Fld Z h a1 "com/example/workflow_soundness/workflowsoundness/model/OmegaMarking" "_hash" "I" (.int (fIng_0 vs)) ∧ Exa Z h a2 "[I" ∧ Ar Z h a2 .int vs) := by
  refine MetFree.of_bodySF (plainFor_of_name own_pn2) hisR ?_
  intro p e s m args below meth c s₁ Bd hml0 hP hK
  obtain ⟨rfl, hZ, hh⟩ := hP
  have hx := Bd.exec
  have hby := Bd.bytes
  have hml : c.maxLocals = 2 := hml0
  have hown : s.vm.findClass "com/example/workflow_soundness/workflowsoundness/model/OmegaMarking" = some m.cls := findClass_of_methodNamed Bd.named
  have hnm := (name_of_methodNamed Bd.named Bd.method).1
  have hlk : meth.locks = false := BodyLoose.notSynchronized Bd
  have X0 : Stand p l e RM1g s m #[(.ref a1), (.ref a2)] below meth c s₁ [] 0 0 := Stand.of_body Bd
  have e0 : s₁.heap = h0 := by rw [← hh, Bd.state]; rfl
  have N0 := Fr.nil n0
  have K0 := Keep.refl h0 [a1]
  suffices kk : Ends p e below (PostQ s 0 0 (fun v h L => Fr n0 L ∧ Keep h0 h [a1] ∧ v = none ∧ Exa Z h a1 "com/example/workflow_soundness/workflowsoundness/model/OmegaMarking" ∧ Fld Z h a1 "com/example/workflow_soundness/workflowsoundness/model/OmegaMarking" "_tokens" "[I" (.ref a2) ∧ Fld Z h a1 "com/example/workflow_soundness/workflowsoundness/model/OmegaMarking" "_hash" "I" (.int (fIng_0 vs)) ∧ Exa Z h a2 "[I" ∧ Ar Z h a2 .int vs)) s₁ m 0 #[.val (.ref a1), .val (.ref a2)] [] by
    obtain ⟨t, o, k1, k2, k3, k4⟩ := kk
    exact ⟨t, o, castTop (own_ef1g m a1 a2) k1, k2, k3, k4⟩
  refine eALoadN X0 hx (hb hby own_d1_0) rfl rfl rfl ?_
  refine eInitO X0 hx hZ hown (hw _ (List.mem_of_getElem? (i := 7) rfl)) (hw _ (List.mem_of_getElem? (i := 8) rfl)) (hw _ (List.mem_of_getElem? (i := 9) rfl)) e0 (by rw [hml]; rfl) (hb hby own_d1_1) (by decide) 0 (by exact Nat.le_refl _) (by decide) rfl (fun T1 X1 e1 => ?_)
  refine eALoadN X1 hx (hb hby own_d1_4) rfl rfl rfl ?_
  refine eALoadN X1 hx (hb hby own_d1_5) rfl rfl rfl ?_
  refine ePutF X1 hx hZ hown (hw _ (List.mem_of_getElem? (i := 10) rfl)) Via.refl e1 F_a1__tokens E_a1 (Or.inr ⟨(hw _ (List.mem_of_getElem? (i := 11) rfl)), rfl, hnm⟩) (hw _ (List.mem_of_getElem? (i := 2) rfl)) (ty := (.array .int)) (by decide) rfl rfl (hb hby own_d1_6) rfl (fun T2 h2 X2 e2 W2 => ?_)
  have E_a1 := E_a1.wr W2
  have F_a1__hash := F_a1__hash.other W2 (Or.inr (slot_ne (Or.inr (hw _ (List.mem_of_getElem? (i := 17) rfl))) (Or.inr (hw _ (List.mem_of_getElem? (i := 11) rfl))) (by decide) (t := .int) (t' := (.array .int)) (by decide) (by decide)))
  have E_a2 := E_a2.wr W2
  have A_a2 := A_a2.other W2 (Ne.symm ne_a1_a2)
  have F_a1__tokens := F_a1__tokens.same W2
  have N2 := Fr.snoc X2 N0 ge_a1
  have Z2 := Nat.le_trans Z0 (Keep.of_wr W2).1
  have K2 : Keep h0 h2 [a1] := K0.wr W2 (Or.inl (List.mem_of_getElem? (i := 0) rfl))
  refine eALoadN X2 hx (hb hby own_d1_9) rfl rfl rfl ?_
  refine eALoadN X2 hx (hb hby own_d1_10) rfl rfl rfl ?_
  refine eCallS X2 hx hZ (y := (⟨"java/util/Arrays", "hashCode", "([I)I"⟩ : MethodName)) hown (hw _ (List.mem_of_getElem? (i := 12) rfl)) (hw _ (List.mem_of_getElem? (i := 13) rfl)) (hw _ (List.mem_of_getElem? (i := 14) rfl)) (hw _ (List.mem_of_getElem? (i := 15) rfl)) (by decide) e2 (rm3g l Z a0 hw [] a2 vs h2 n0 Z2 E_a2 A_a2 hm hge2) (argsL := [(.ref a2)]) (rest := [(.ref a1)]) (lenOf own_pd1 rfl) rfl (by rw [hml]; rfl) 1 (by exact Nat.le_refl _) (by decide) (by decide) (by decide) (by decide) (hb hby own_d1_11) rfl (fun v3 T3 L3 q3 (X3 : Stand _ _ _ _ _ _ _ _ _ _ T3 _ 0 0) => ?_)
  obtain ⟨N3', e3, rfl⟩ := q3
  have N3 := Fr.app N2 N3'
  show Ends p e below _ T3 m 14 #[.val (.ref a1), .val (.ref a2)] [(.int (fH1_0 (1 : Int32) (Int32.ofNat vs.length) vs)), (.ref a1)]
  refine ePutF X3 hx hZ hown (hw _ (List.mem_of_getElem? (i := 16) rfl)) Via.refl e3 F_a1__hash E_a1 (Or.inr ⟨(hw _ (List.mem_of_getElem? (i := 17) rfl)), rfl, hnm⟩) (hw _ (List.mem_of_getElem? (i := 2) rfl)) (ty := .int) (by decide) rfl rfl (hb hby own_d1_14) rfl (fun T4 h4 X4 e4 W4 => ?_)
  have E_a1 := E_a1.wr W4
  have F_a1__tokens := F_a1__tokens.other W4 (Or.inr (slot_ne (Or.inr (hw _ (List.mem_of_getElem? (i := 11) rfl))) (Or.inr (hw _ (List.mem_of_getElem? (i := 17) rfl))) (by decide) (t := (.array .int)) (t' := .int) (by decide) (by decide)))
  have E_a2 := E_a2.wr W4
  have A_a2 := A_a2.other W4 (Ne.symm ne_a1_a2)
  have F_a1__hash := F_a1__hash.same W4
  have N4 := Fr.snoc X4 N3 ge_a1
  have Z4 := Nat.le_trans Z2 (Keep.of_wr W4).1
  have K4 : Keep h0 h4 [a1] := K2.wr W4 (Or.inl (List.mem_of_getElem? (i := 0) rfl))
  exact eRetV X4 hx Bd.returns hlk (hb hby own_d1_17) (by decide) (by decide) (by rw [e4]; exact ⟨N4, K4, rfl, E_a1, F_a1__tokens, F_a1__hash, E_a2, A_a2⟩)
theorem own_d4_0 : decode prog_114_method_11_code 0 = .ok (.aload_n 0, 1) := by decide +kernel
theorem own_d4_1 : decode prog_114_method_11_code 1 = .ok (.getfield 7, 3) := by decide +kernel
theorem own_d4_4 : decode prog_114_method_11_code 4 = .ok (.astore_n 1, 1) := by decide +kernel
theorem own_d4_5 : decode prog_114_method_11_code 5 = .ok (.aload_n 1, 1) := by decide +kernel
theorem own_d4_6 : decode prog_114_method_11_code 6 = .ok (.arraylength, 1) := by decide +kernel
theorem own_d4_7 : decode prog_114_method_11_code 7 = .ok (.istore_n 2, 1) := by decide +kernel
theorem own_d4_8 : decode prog_114_method_11_code 8 = .ok (.iconst 0, 1) := by decide +kernel
theorem own_d4_9 : decode prog_114_method_11_code 9 = .ok (.istore_n 3, 1) := by decide +kernel
theorem own_d4_10 : decode prog_114_method_11_code 10 = .ok (.iload_n 3, 1) := by decide +kernel
theorem own_d4_11 : decode prog_114_method_11_code 11 = .ok (.iload_n 2, 1) := by decide +kernel
theorem own_d4_12 : decode prog_114_method_11_code 12 = .ok (.if_icmp .ge 22, 3) := by decide +kernel
theorem own_d4_15 : decode prog_114_method_11_code 15 = .ok (.aload_n 1, 1) := by decide +kernel
theorem own_d4_16 : decode prog_114_method_11_code 16 = .ok (.iload_n 3, 1) := by decide +kernel
theorem own_d4_17 : decode prog_114_method_11_code 17 = .ok (.iaload, 1) := by decide +kernel
theorem own_d4_18 : decode prog_114_method_11_code 18 = .ok (.istore 4, 2) := by decide +kernel
theorem own_d4_20 : decode prog_114_method_11_code 20 = .ok (.iload 4, 2) := by decide +kernel
theorem own_d4_22 : decode prog_114_method_11_code 22 = .ok (.iconst (-1), 1) := by decide +kernel
theorem own_d4_23 : decode prog_114_method_11_code 23 = .ok (.if_icmp .ne 5, 3) := by decide +kernel
theorem own_d4_26 : decode prog_114_method_11_code 26 = .ok (.iconst 1, 1) := by decide +kernel
theorem own_d4_27 : decode prog_114_method_11_code 27 = .ok (.ireturn, 1) := by decide +kernel
theorem own_d4_28 : decode prog_114_method_11_code 28 = .ok (.iinc 3 1, 3) := by decide +kernel
theorem own_d4_31 : decode prog_114_method_11_code 31 = .ok (.goto (-21), 3) := by decide +kernel
theorem own_d4_34 : decode prog_114_method_11_code 34 = .ok (.iconst 0, 1) := by decide +kernel
theorem own_d4_35 : decode prog_114_method_11_code 35 = .ok (.ireturn, 1) := by decide +kernel
def RM4 : Room := { frames := 0, cells := 0, slots := 0, locals := 0 }
def fHo_10 (vs : List Int32) : Nat → Int32 → Int32
  | 0, v3_3 => 0
  | k2 + 1, v3_3 => (if v3_3 < (Int32.ofNat vs.length) then (if (rd vs v3_3) = (-1 : Int32) then (1 : Int32) else (fHo_10 vs k2 (v3_3 + (1 : Int32)))) else (0 : Int32))
def fHo_0 (vs : List Int32) : Int32 := (fHo_10 vs 8 (0 : Int32))
theorem own_ef4 (m : MethodId) (a1 : Addr) : entryFrame m #[(.ref a1)] 5 = mkF m 0 #[.val (.ref a1), .unset, .unset, .unset, .unset] [] := by first | (simp [entryFrame, mkF, argsToLocals, Value.category]; done) | rfl
set_option maxRecDepth 65536 in
set_option maxHeartbeats 40000000 in
theorem rm4 (l : Launch) (Z : State) (a0 : Array Value) (hw : ∀ d ∈ tables_1, d.before a0 Z = true) (ws : List Jvm.Cond) (a1 : Addr) (a2 : Addr) (vs : List Int32) (h0 : Heap) (n0 : Nat) (Z0 : n0 ≤ h0.size) (F_a1__tokens : Fld Z h0 a1 "com/example/workflow_soundness/workflowsoundness/model/OmegaMarking" "_tokens" "[I" (.ref a2)) (A_a2 : Ar Z h0 a2 .int vs) (hm : vs.length < 8) : MetQ l Z (⟨"com/example/workflow_soundness/workflowsoundness/model/OmegaMarking", "holdsOmega", "()Z"⟩ : MethodName) (Jvm.Cond.code (⟨"com/example/workflow_soundness/workflowsoundness/model/OmegaMarking", "holdsOmega", "()Z"⟩ : MethodName) prog_114_method_11_code 5 (some .boolean) :: ws) RM4 #[(.ref a1)] h0 (fun v h L => Fr n0 L ∧ h = h0 ∧ v = some (.int (fHo_0 vs))) := by
  refine MetFree.of_bodySF (plainFor_of_name own_pn2) hisR ?_
  intro p e s m args below meth c s₁ Bd hml0 hP hK
  obtain ⟨rfl, hZ, hh⟩ := hP
  have hx := Bd.exec
  have hby := Bd.bytes
  have hml : c.maxLocals = 5 := hml0
  have hown : s.vm.findClass "com/example/workflow_soundness/workflowsoundness/model/OmegaMarking" = some m.cls := findClass_of_methodNamed Bd.named
  have hnm := (name_of_methodNamed Bd.named Bd.method).1
  have hlk : meth.locks = false := BodyLoose.notSynchronized Bd
  have X0 : Stand p l e RM4 s m #[(.ref a1)] below meth c s₁ [] 0 0 := Stand.of_body Bd
  have e0 : s₁.heap = h0 := by rw [← hh, Bd.state]; rfl
  have N0 := Fr.nil n0
  have hfu : ((Int32.ofNat vs.length).toInt - (0 : Int32).toInt).toNat < 8 := by rw [own_ofn hm]; simp only [Int32.reduceToInt]; omega
  suffices kk : Ends p e below (PostQ s 0 0 (fun v h L => Fr n0 L ∧ h = h0 ∧ v = some (.int (fHo_0 vs)))) s₁ m 0 #[.val (.ref a1), .unset, .unset, .unset, .unset] [] by
    obtain ⟨t, o, k1, k2, k3, k4⟩ := kk
    exact ⟨t, o, castTop (own_ef4 m a1) k1, k2, k3, k4⟩
  refine eALoadN X0 hx (hb hby own_d4_0) rfl rfl rfl ?_
  refine eGetF X0 hx hZ hown (hw _ (List.mem_of_getElem? (i := 10) rfl)) Via.refl e0 F_a1__tokens (hb hby own_d4_1) rfl (fun T1 X1 e1 => ?_)
  refine eAStoreN X1 hx (hb hby own_d4_4) rfl (L' := #[.val (.ref a1), .val (.ref a2), .unset, .unset, .unset]) rfl rfl ?_
  refine eALoadN X1 hx (hb hby own_d4_5) rfl rfl rfl ?_
  refine eLen X1 hx hZ e1 A_a2 (Int32.ofNat vs.length) rfl (hb hby own_d4_6) rfl ?_
  refine eIStoreN X1 hx (hb hby own_d4_7) (L' := #[.val (.ref a1), .val (.ref a2), .val (.int (Int32.ofNat vs.length)), .unset, .unset]) rfl rfl ?_
  refine eIConst X1 hx (0 : Int32) (hb hby own_d4_8) rfl rfl ?_
  refine eIStoreN X1 hx (hb hby own_d4_9) (L' := #[.val (.ref a1), .val (.ref a2), .val (.int (Int32.ofNat vs.length)), .val (.int (0 : Int32)), .unset]) rfl rfl ?_
  have LP2 : ∀ (k2 : Nat) (v3_3 : Int32) (z4_4 : Slot) (T2 : State) (locs2 : List Loc) (hk : ((Int32.ofNat vs.length).toInt - v3_3.toInt).toNat < k2) (hk0 : 0 ≤ v3_3.toInt) (ho_z4_4 : One z4_4) (X2 : Stand p l e RM4 s m #[(.ref a1)] below meth c T2 locs2 0 0) (N2 : Fr n0 locs2) (e2 : T2.heap = h0), Ends p e below (PostQ s 0 0 (fun v h L => Fr n0 L ∧ h = h0 ∧ v = some (.int (fHo_10 vs k2 v3_3)))) T2 m 10 #[.val (.ref a1), .val (.ref a2), .val (.int (Int32.ofNat vs.length)), .val (.int v3_3), z4_4] [] := by
    intro k2
    induction k2 with
    | zero => intro v3_3 z4_4 T2 locs2 hk hk0 ho_z4_4 X2 N2 e2; exact absurd hk (Nat.not_lt_zero _)
    | succ k2 ih2 =>
      intro v3_3 z4_4 T2 locs2 hk hk0 ho_z4_4 X2 N2 e2
      refine eILoadN X2 hx (hb hby own_d4_10) rfl rfl ?_
      refine eILoadN X2 hx (hb hby own_d4_11) rfl rfl ?_
      show Ends p e below (PostQ s 0 0 (fun v h L => Fr n0 L ∧ h = h0 ∧ v = some (.int (if v3_3 < (Int32.ofNat vs.length) then (if (rd vs v3_3) = (-1 : Int32) then (1 : Int32) else (fHo_10 vs k2 (v3_3 + (1 : Int32)))) else (0 : Int32))))) T2 m 12 #[.val (.ref a1), .val (.ref a2), .val (.int (Int32.ofNat vs.length)), .val (.int v3_3), z4_4] [(.int (Int32.ofNat vs.length)), (.int v3_3)]
      by_cases c5 : v3_3 < (Int32.ofNat vs.length)
      · rw [if_pos c5]
        refine eIcmpN X2 hx (hb hby own_d4_12) (tlt c5).2.1 rfl ?_
        refine eALoadN X2 hx (hb hby own_d4_15) rfl rfl rfl ?_
        refine eILoadN X2 hx (hb hby own_d4_16) rfl rfl ?_
        refine eIALoad X2 hx hZ e2 A_a2 (rd vs v3_3) rfl (own_inb (own_ofn hm) hk0 c5) (hb hby own_d4_17) rfl ?_
        refine eIStore X2 hx (hb hby own_d4_18) (L' := #[.val (.ref a1), .val (.ref a2), .val (.int (Int32.ofNat vs.length)), .val (.int v3_3), .val (.int (rd vs v3_3))]) (by rcases ho_z4_4 with rfl | ⟨w, rfl, hw⟩ <;> first | rfl | (cases w <;> first | rfl | (simp [Value.category] at hw))) rfl ?_
        refine eILoad X2 hx (hb hby own_d4_20) rfl rfl ?_
        refine eIConst X2 hx (-1 : Int32) (hb hby own_d4_22) rfl rfl ?_
        show Ends p e below (PostQ s 0 0 (fun v h L => Fr n0 L ∧ h = h0 ∧ v = some (.int (if (rd vs v3_3) = (-1 : Int32) then (1 : Int32) else (fHo_10 vs k2 (v3_3 + (1 : Int32))))))) T2 m 23 #[.val (.ref a1), .val (.ref a2), .val (.int (Int32.ofNat vs.length)), .val (.int v3_3), .val (.int (rd vs v3_3))] [(.int (-1 : Int32)), (.int (rd vs v3_3))]
        by_cases c6 : (rd vs v3_3) = (-1 : Int32)
        · rw [if_pos c6]
          refine eIcmpN X2 hx (hb hby own_d4_23) (teq c6).2 rfl ?_
          refine eIConst X2 hx (1 : Int32) (hb hby own_d4_26) rfl rfl ?_
          exact eRetN X2 hx (t := .boolean) Bd.returns (by simp) hlk (hb hby own_d4_27) (by decide) (by decide) (by rw [e2]; exact ⟨N2, rfl, rfl⟩)
        · rw [if_neg c6]
          refine eIcmpY X2 hx (hb hby own_d4_23) (feq c6).2 (by decide) (pc' := 28) rfl ?_
          refine eIInc X2 hx (1 : Int32) (hb hby own_d4_28) rfl rfl (L' := #[.val (.ref a1), .val (.ref a2), .val (.int (Int32.ofNat vs.length)), .val (.int (v3_3 + (1 : Int32))), .val (.int (rd vs v3_3))]) rfl rfl ?_
          refine eGoto X2 hx (hb hby own_d4_31) (by decide) (pc' := 10) rfl ?_
          exact ih2 (v3_3 + (1 : Int32)) (.val (.int (rd vs v3_3))) _ _ (own_turn hk c5) (own_pos hk0 c5) (One.val rfl) X2 N2 e2
      · rw [if_neg c5]
        refine eIcmpY X2 hx (hb hby own_d4_12) (flt c5).2.1 (by decide) (pc' := 34) rfl ?_
        refine eIConst X2 hx (0 : Int32) (hb hby own_d4_34) rfl rfl ?_
        exact eRetN X2 hx (t := .boolean) Bd.returns (by simp) hlk (hb hby own_d4_35) (by decide) (by decide) (by rw [e2]; exact ⟨N2, rfl, rfl⟩)
  exact LP2 8 (0 : Int32) (.unset) _ _ hfu (by decide) One.u X1 N0 e1
theorem own_pn3 : plainName "com/example/workflow_soundness/workflowsoundness/model/OmegaMarkingHoldsOmegaPinLaw" = true := by first | (simp [plainName, overriddenIn]; done) | decide +kernel
theorem own_d5_0 : decode method_2_code 0 = .ok (.iload_n 0, 1) := by decide +kernel
theorem own_d5_1 : decode method_2_code 1 = .ok (.ifCond .ge 7, 3) := by decide +kernel
theorem own_d5_4 : decode method_2_code 4 = .ok (.iconst (-1), 1) := by decide +kernel
theorem own_d5_5 : decode method_2_code 5 = .ok (.goto 4, 3) := by decide +kernel
theorem own_d5_9 : decode method_2_code 9 = .ok (.ireturn, 1) := by decide +kernel
theorem own_d5_8 : decode method_2_code 8 = .ok (.iload_n 0, 1) := by decide +kernel
def RM5 : Room := { frames := 0, cells := 0, slots := 0, locals := 0 }
def fCell_0 (p1 : Int32) : Int32 := (if p1 < (0 : Int32) then (-1 : Int32) else p1)
theorem own_ef5 (m : MethodId) (p1 : Int32) : entryFrame m #[(.int p1)] 1 = mkF m 0 #[.val (.int p1)] [] := by first | (simp [entryFrame, mkF, argsToLocals, Value.category]; done) | rfl
set_option maxRecDepth 65536 in
set_option maxHeartbeats 40000000 in
theorem rm5 (l : Launch) (Z : State) (a0 : Array Value) (hw : ∀ d ∈ tables_1, d.before a0 Z = true) (ws : List Jvm.Cond) (p1 : Int32) (h0 : Heap) (n0 : Nat) (Z0 : n0 ≤ h0.size) : MetQ l Z (⟨"com/example/workflow_soundness/workflowsoundness/model/OmegaMarkingHoldsOmegaPinLaw", "cell", "(I)I"⟩ : MethodName) (Jvm.Cond.code (⟨"com/example/workflow_soundness/workflowsoundness/model/OmegaMarkingHoldsOmegaPinLaw", "cell", "(I)I"⟩ : MethodName) method_2_code 1 (some .int) :: ws) RM5 #[(.int p1)] h0 (fun v h L => v = some (.int (fCell_0 p1)) ∧ Fr n0 L ∧ h = h0) := by
  refine MetFree.of_bodySF (plainFor_of_name own_pn3) hisR ?_
  intro p e s m args below meth c s₁ Bd hml0 hP hK
  obtain ⟨rfl, hZ, hh⟩ := hP
  have hx := Bd.exec
  have hby := Bd.bytes
  have hml : c.maxLocals = 1 := hml0
  have hown : s.vm.findClass "com/example/workflow_soundness/workflowsoundness/model/OmegaMarkingHoldsOmegaPinLaw" = some m.cls := findClass_of_methodNamed Bd.named
  have hnm := (name_of_methodNamed Bd.named Bd.method).1
  have hlk : meth.locks = false := BodyLoose.notSynchronized Bd
  have X0 : Stand p l e RM5 s m #[(.int p1)] below meth c s₁ [] 0 0 := Stand.of_body Bd
  have e0 : s₁.heap = h0 := by rw [← hh, Bd.state]; rfl
  have N0 := Fr.nil n0
  suffices kk : Ends p e below (PVI s 0 0 n0 h0 (fCell_0 p1)) s₁ m 0 #[.val (.int p1)] [] by
    obtain ⟨t, o, k1, k2, k3, k4⟩ := kk
    exact ⟨t, o, castTop (own_ef5 m p1) k1, k2, k3, k4⟩
  refine eILoadN X0 hx (hb hby own_d5_0) rfl rfl ?_
  show Ends p e below (PVI s 0 0 n0 h0 (if p1 < (0 : Int32) then (-1 : Int32) else p1)) s₁ m 1 #[.val (.int p1)] [(.int p1)]
  by_cases c1 : p1 < (0 : Int32)
  · rw [if_pos c1]
    refine eIfN X0 hx (hb hby own_d5_1) ((if0 _ _).trans (tlt c1).2.1) rfl ?_
    refine eIConst X0 hx (-1 : Int32) (hb hby own_d5_4) rfl rfl ?_
    refine eGoto X0 hx (hb hby own_d5_5) (by decide) (pc' := 9) rfl ?_
    exact eRetI X0 hx Bd.returns hlk (hb hby own_d5_9) (by decide) (by decide) ⟨rfl, N0, e0⟩
  · rw [if_neg c1]
    refine eIfY X0 hx (hb hby own_d5_1) ((if0 _ _).trans (flt c1).2.1) (by decide) (pc' := 8) rfl ?_
    refine eILoadN X0 hx (hb hby own_d5_8) rfl rfl ?_
    exact eRetI X0 hx Bd.returns hlk (hb hby own_d5_9) (by decide) (by decide) ⟨rfl, N0, e0⟩
theorem own_six (p : Int32) : (p &&& (7 : Int32)) % (6 : Int32) = 0 ∨ (p &&& (7 : Int32)) % (6 : Int32) = 1 ∨ (p &&& (7 : Int32)) % (6 : Int32) = 2 ∨ (p &&& (7 : Int32)) % (6 : Int32) = 3 ∨ (p &&& (7 : Int32)) % (6 : Int32) = 4 ∨ (p &&& (7 : Int32)) % (6 : Int32) = 5 := by
  have h1 := c_mask p 7 3 (by decide) (by decide)
  have h2 := (c_irem (p &&& 7) 6 6 (by decide)).1 (by omega)
  simp only [← Int32.toInt_inj, Int32.reduceToInt]
  omega
theorem own_pd3 : parseMethodDescriptor "([I)V" = some ⟨[(.array .int)], none⟩ := by decide +kernel
theorem own_pd4 : parseMethodDescriptor "()Z" = some ⟨[], some .boolean⟩ := by decide +kernel
theorem own_pd5 : parseMethodDescriptor "(I)I" = some ⟨[.int], some .int⟩ := by decide +kernel
def f0_0 (p1 : Int32) (p2 : Int32) (p3 : Int32) (p4 : Int32) (p5 : Int32) (p6 : Int32) : Int32 := (if ((p1 &&& (7 : Int32)) % (6 : Int32)) = (0 : Int32) then (if (fHo_0 []) = (0 : Int32) then (1 : Int32) else (0 : Int32)) else (if ((p1 &&& (7 : Int32)) % (6 : Int32)) = (1 : Int32) then (if p2 < (0 : Int32) then (if (fHo_0 [(fCell_0 p2)]) = (1 : Int32) then (1 : Int32) else (0 : Int32)) else (if (fHo_0 [(fCell_0 p2)]) = (0 : Int32) then (1 : Int32) else (0 : Int32))) else (if ((p1 &&& (7 : Int32)) % (6 : Int32)) = (2 : Int32) then (if p2 < (0 : Int32) then (if (fHo_0 [(fCell_0 p2), (fCell_0 p3)]) = (1 : Int32) then (1 : Int32) else (0 : Int32)) else (if p3 < (0 : Int32) then (if (fHo_0 [(fCell_0 p2), (fCell_0 p3)]) = (1 : Int32) then (1 : Int32) else (0 : Int32)) else (if (fHo_0 [(fCell_0 p2), (fCell_0 p3)]) = (0 : Int32) then (1 : Int32) else (0 : Int32)))) else (if ((p1 &&& (7 : Int32)) % (6 : Int32)) = (3 : Int32) then (if p2 < (0 : Int32) then (if (fHo_0 [(fCell_0 p2), (fCell_0 p3), (fCell_0 p4)]) = (1 : Int32) then (1 : Int32) else (0 : Int32)) else (if p3 < (0 : Int32) then (if (fHo_0 [(fCell_0 p2), (fCell_0 p3), (fCell_0 p4)]) = (1 : Int32) then (1 : Int32) else (0 : Int32)) else (if p4 < (0 : Int32) then (if (fHo_0 [(fCell_0 p2), (fCell_0 p3), (fCell_0 p4)]) = (1 : Int32) then (1 : Int32) else (0 : Int32)) else (if (fHo_0 [(fCell_0 p2), (fCell_0 p3), (fCell_0 p4)]) = (0 : Int32) then (1 : Int32) else (0 : Int32))))) else (if ((p1 &&& (7 : Int32)) % (6 : Int32)) = (4 : Int32) then (if p2 < (0 : Int32) then (if (fHo_0 [(fCell_0 p2), (fCell_0 p3), (fCell_0 p4), (fCell_0 p5)]) = (1 : Int32) then (1 : Int32) else (0 : Int32)) else (if p3 < (0 : Int32) then (if (fHo_0 [(fCell_0 p2), (fCell_0 p3), (fCell_0 p4), (fCell_0 p5)]) = (1 : Int32) then (1 : Int32) else (0 : Int32)) else (if p4 < (0 : Int32) then (if (fHo_0 [(fCell_0 p2), (fCell_0 p3), (fCell_0 p4), (fCell_0 p5)]) = (1 : Int32) then (1 : Int32) else (0 : Int32)) else (if p5 < (0 : Int32) then (if (fHo_0 [(fCell_0 p2), (fCell_0 p3), (fCell_0 p4), (fCell_0 p5)]) = (1 : Int32) then (1 : Int32) else (0 : Int32)) else (if (fHo_0 [(fCell_0 p2), (fCell_0 p3), (fCell_0 p4), (fCell_0 p5)]) = (0 : Int32) then (1 : Int32) else (0 : Int32)))))) else (if ((p1 &&& (7 : Int32)) % (6 : Int32)) = (5 : Int32) then (if p2 < (0 : Int32) then (if (fHo_0 [(fCell_0 p2), (fCell_0 p3), (fCell_0 p4), (fCell_0 p5), (fCell_0 p6)]) = (1 : Int32) then (1 : Int32) else (0 : Int32)) else (if p3 < (0 : Int32) then (if (fHo_0 [(fCell_0 p2), (fCell_0 p3), (fCell_0 p4), (fCell_0 p5), (fCell_0 p6)]) = (1 : Int32) then (1 : Int32) else (0 : Int32)) else (if p4 < (0 : Int32) then (if (fHo_0 [(fCell_0 p2), (fCell_0 p3), (fCell_0 p4), (fCell_0 p5), (fCell_0 p6)]) = (1 : Int32) then (1 : Int32) else (0 : Int32)) else (if p5 < (0 : Int32) then (if (fHo_0 [(fCell_0 p2), (fCell_0 p3), (fCell_0 p4), (fCell_0 p5), (fCell_0 p6)]) = (1 : Int32) then (1 : Int32) else (0 : Int32)) else (if p6 < (0 : Int32) then (if (fHo_0 [(fCell_0 p2), (fCell_0 p3), (fCell_0 p4), (fCell_0 p5), (fCell_0 p6)]) = (1 : Int32) then (1 : Int32) else (0 : Int32)) else (if (fHo_0 [(fCell_0 p2), (fCell_0 p3), (fCell_0 p4), (fCell_0 p5), (fCell_0 p6)]) = (0 : Int32) then (1 : Int32) else (0 : Int32))))))) else (0 : Int32)))))))
theorem own_ef0 (m : MethodId) (p1 : Int32) (p2 : Int32) (p3 : Int32) (p4 : Int32) (p5 : Int32) (p6 : Int32) : entryFrame m #[(.int p1), (.int p2), (.int p3), (.int p4), (.int p5), (.int p6)] maxLocals = mkF m 0 #[.val (.int p1), .val (.int p2), .val (.int p3), .val (.int p4), .val (.int p5), .val (.int p6), .unset, .unset, .unset, .unset] [] := by first | (simp [entryFrame, mkF, argsToLocals, Value.category, maxLocals]; done) | rfl
set_option maxRecDepth 65536 in
set_option maxHeartbeats 40000000 in
theorem rm0 (l : Launch) (Z : State) (a0 : Array Value) (hw : ∀ d ∈ tables_1, d.before a0 Z = true) (ws : List Jvm.Cond) (p1 : Int32) (p2 : Int32) (p3 : Int32) (p4 : Int32) (p5 : Int32) (p6 : Int32) (h0 : Heap) (n0 : Nat) (Z0 : n0 ≤ h0.size) : MetC l Z x (Jvm.Cond.code x code maxLocals ret :: ws) room_1 #[(.int p1), (.int p2), (.int p3), (.int p4), (.int p5), (.int p6)] h0 16 128 (fun v h L => v = some (.int (f0_0 p1 p2 p3 p4 p5 p6)) ∧ Fr n0 L) := by
  refine MetFree.of_bodySF (plainFor_of_name own_pn3) hisR ?_
  intro p e s m args below meth c s₁ Bd hml0 hP hK
  obtain ⟨rfl, hZ, hh⟩ := hP
  have hx := Bd.exec
  have hby := Bd.bytes
  have hml : c.maxLocals = 10 := hml0
  have hown : s.vm.findClass "com/example/workflow_soundness/workflowsoundness/model/OmegaMarkingHoldsOmegaPinLaw" = some m.cls := findClass_of_methodNamed Bd.named
  have hnm := (name_of_methodNamed Bd.named Bd.method).1
  have hlk : meth.locks = false := BodyLoose.notSynchronized Bd
  have X0 : Stand p l e room_1 s m #[(.int p1), (.int p2), (.int p3), (.int p4), (.int p5), (.int p6)] below meth c s₁ [] 0 0 := Stand.of_body Bd
  have e0 : s₁.heap = h0 := by rw [← hh, Bd.state]; rfl
  have N0 := Fr.nil n0
  suffices kk : Ends p e below (PVW s 16 128 n0 (f0_0 p1 p2 p3 p4 p5 p6)) s₁ m 0 #[.val (.int p1), .val (.int p2), .val (.int p3), .val (.int p4), .val (.int p5), .val (.int p6), .unset, .unset, .unset, .unset] [] by
    obtain ⟨t, o, k1, k2, k3, k4⟩ := kk
    exact ⟨t, o, castTop (own_ef0 m p1 p2 p3 p4 p5 p6) k1, k2, k3, k4⟩
  refine eILoadN X0 hx (hb hby at_0) rfl rfl ?_
  refine eBipush X0 hx (7 : Int32) (hb hby at_1) rfl rfl ?_
  refine eIAnd X0 hx (hb hby at_3) rfl ?_
  refine eBipush X0 hx (6 : Int32) (hb hby at_4) rfl rfl ?_
  refine eIRem X0 hx (hb hby at_6) (by decide) rfl ?_
  refine eIStore X0 hx (hb hby at_7) (L' := #[.val (.int p1), .val (.int p2), .val (.int p3), .val (.int p4), .val (.int p5), .val (.int p6), .val (.int ((p1 &&& (7 : Int32)) % (6 : Int32))), .unset, .unset, .unset]) rfl rfl ?_
  show Ends p e below (PVW s 16 128 n0 (if ((p1 &&& (7 : Int32)) % (6 : Int32)) = (0 : Int32) then (if (fHo_0 []) = (0 : Int32) then (1 : Int32) else (0 : Int32)) else (if ((p1 &&& (7 : Int32)) % (6 : Int32)) = (1 : Int32) then (if p2 < (0 : Int32) then (if (fHo_0 [(fCell_0 p2)]) = (1 : Int32) then (1 : Int32) else (0 : Int32)) else (if (fHo_0 [(fCell_0 p2)]) = (0 : Int32) then (1 : Int32) else (0 : Int32))) else (if ((p1 &&& (7 : Int32)) % (6 : Int32)) = (2 : Int32) then (if p2 < (0 : Int32) then (if (fHo_0 [(fCell_0 p2), (fCell_0 p3)]) = (1 : Int32) then (1 : Int32) else (0 : Int32)) else (if p3 < (0 : Int32) then (if (fHo_0 [(fCell_0 p2), (fCell_0 p3)]) = (1 : Int32) then (1 : Int32) else (0 : Int32)) else (if (fHo_0 [(fCell_0 p2), (fCell_0 p3)]) = (0 : Int32) then (1 : Int32) else (0 : Int32)))) else (if ((p1 &&& (7 : Int32)) % (6 : Int32)) = (3 : Int32) then (if p2 < (0 : Int32) then (if (fHo_0 [(fCell_0 p2), (fCell_0 p3), (fCell_0 p4)]) = (1 : Int32) then (1 : Int32) else (0 : Int32)) else (if p3 < (0 : Int32) then (if (fHo_0 [(fCell_0 p2), (fCell_0 p3), (fCell_0 p4)]) = (1 : Int32) then (1 : Int32) else (0 : Int32)) else (if p4 < (0 : Int32) then (if (fHo_0 [(fCell_0 p2), (fCell_0 p3), (fCell_0 p4)]) = (1 : Int32) then (1 : Int32) else (0 : Int32)) else (if (fHo_0 [(fCell_0 p2), (fCell_0 p3), (fCell_0 p4)]) = (0 : Int32) then (1 : Int32) else (0 : Int32))))) else (if ((p1 &&& (7 : Int32)) % (6 : Int32)) = (4 : Int32) then (if p2 < (0 : Int32) then (if (fHo_0 [(fCell_0 p2), (fCell_0 p3), (fCell_0 p4), (fCell_0 p5)]) = (1 : Int32) then (1 : Int32) else (0 : Int32)) else (if p3 < (0 : Int32) then (if (fHo_0 [(fCell_0 p2), (fCell_0 p3), (fCell_0 p4), (fCell_0 p5)]) = (1 : Int32) then (1 : Int32) else (0 : Int32)) else (if p4 < (0 : Int32) then (if (fHo_0 [(fCell_0 p2), (fCell_0 p3), (fCell_0 p4), (fCell_0 p5)]) = (1 : Int32) then (1 : Int32) else (0 : Int32)) else (if p5 < (0 : Int32) then (if (fHo_0 [(fCell_0 p2), (fCell_0 p3), (fCell_0 p4), (fCell_0 p5)]) = (1 : Int32) then (1 : Int32) else (0 : Int32)) else (if (fHo_0 [(fCell_0 p2), (fCell_0 p3), (fCell_0 p4), (fCell_0 p5)]) = (0 : Int32) then (1 : Int32) else (0 : Int32)))))) else (if ((p1 &&& (7 : Int32)) % (6 : Int32)) = (5 : Int32) then (if p2 < (0 : Int32) then (if (fHo_0 [(fCell_0 p2), (fCell_0 p3), (fCell_0 p4), (fCell_0 p5), (fCell_0 p6)]) = (1 : Int32) then (1 : Int32) else (0 : Int32)) else (if p3 < (0 : Int32) then (if (fHo_0 [(fCell_0 p2), (fCell_0 p3), (fCell_0 p4), (fCell_0 p5), (fCell_0 p6)]) = (1 : Int32) then (1 : Int32) else (0 : Int32)) else (if p4 < (0 : Int32) then (if (fHo_0 [(fCell_0 p2), (fCell_0 p3), (fCell_0 p4), (fCell_0 p5), (fCell_0 p6)]) = (1 : Int32) then (1 : Int32) else (0 : Int32)) else (if p5 < (0 : Int32) then (if (fHo_0 [(fCell_0 p2), (fCell_0 p3), (fCell_0 p4), (fCell_0 p5), (fCell_0 p6)]) = (1 : Int32) then (1 : Int32) else (0 : Int32)) else (if p6 < (0 : Int32) then (if (fHo_0 [(fCell_0 p2), (fCell_0 p3), (fCell_0 p4), (fCell_0 p5), (fCell_0 p6)]) = (1 : Int32) then (1 : Int32) else (0 : Int32)) else (if (fHo_0 [(fCell_0 p2), (fCell_0 p3), (fCell_0 p4), (fCell_0 p5), (fCell_0 p6)]) = (0 : Int32) then (1 : Int32) else (0 : Int32))))))) else (0 : Int32)))))))) s₁ m 9 #[.val (.int p1), .val (.int p2), .val (.int p3), .val (.int p4), .val (.int p5), .val (.int p6), .val (.int ((p1 &&& (7 : Int32)) % (6 : Int32))), .unset, .unset, .unset] []
  by_cases hs136_0 : ((p1 &&& (7 : Int32)) % (6 : Int32)) = (0 : Int32)
  · rw [if_pos hs136_0, hs136_0]
    refine eILoad X0 hx (hb hby at_9) rfl rfl ?_
    refine eNewE X0 hx hZ rfl rfl (hw _ (List.mem_of_getElem? (i := 0) rfl)) e0 (hb hby at_11) (by decide) (cap := 0) (by decide) (by decide) (by decide) (by decide) "[I" (by decide) rfl (fun T1 h1 ad1 g1 X1 e1 E1 A1 Q1 => ?_)
    have Z1 := Nat.le_trans Z0 E1.1
    have ge_ad1 : n0 ≤ ad1 := Nat.le_trans Z0 (Nat.le_of_eq g1.symm)
    have A1 : Ar Z h1 ad1 .int [] := A1
    refine eAStore X1 hx (hb hby at_13) rfl (L' := #[.val (.int p1), .val (.int p2), .val (.int p3), .val (.int p4), .val (.int p5), .val (.int p6), .val (.int (0 : Int32)), .val (.ref ad1), .unset, .unset]) rfl rfl ?_
    refine eILoad X1 hx (hb hby at_15) rfl rfl ?_
    refine eIfY X1 hx (hb hby at_17) ((if0 _ _).trans (flt (by decide)).2.2.2) (by decide) (pc' := 28) rfl ?_
    refine eILoad X1 hx (hb hby at_28) rfl rfl ?_
    refine eIConst X1 hx (1 : Int32) (hb hby at_30) rfl rfl ?_
    refine eIcmpY X1 hx (hb hby at_31) (flt (by decide)).2.2.2 (by decide) (pc' := 42) rfl ?_
    refine eILoad X1 hx (hb hby at_42) rfl rfl ?_
    refine eIConst X1 hx (2 : Int32) (hb hby at_44) rfl rfl ?_
    refine eIcmpY X1 hx (hb hby at_45) (flt (by decide)).2.2.2 (by decide) (pc' := 56) rfl ?_
    refine eILoad X1 hx (hb hby at_56) rfl rfl ?_
    refine eIConst X1 hx (3 : Int32) (hb hby at_58) rfl rfl ?_
    refine eIcmpY X1 hx (hb hby at_59) (flt (by decide)).2.2.2 (by decide) (pc' := 71) rfl ?_
    refine eILoad X1 hx (hb hby at_71) rfl rfl ?_
    refine eIConst X1 hx (4 : Int32) (hb hby at_73) rfl rfl ?_
    refine eIcmpY X1 hx (hb hby at_74) (flt (by decide)).2.2.2 (by decide) (pc' := 86) rfl ?_
    refine eILoad X1 hx (hb hby at_86) rfl rfl ?_
    refine eIfY X1 hx (hb hby at_88) ((if0 _ _).trans (flt (by decide)).2.2.2) (by decide) (pc' := 95) rfl ?_
    refine eILoad X1 hx (hb hby at_95) rfl rfl ?_
    refine eIConst X1 hx (1 : Int32) (hb hby at_97) rfl rfl ?_
    refine eIcmpY X1 hx (hb hby at_98) (flt (by decide)).2.2.2 (by decide) (pc' := 105) rfl ?_
    refine eILoad X1 hx (hb hby at_105) rfl rfl ?_
    refine eIConst X1 hx (2 : Int32) (hb hby at_107) rfl rfl ?_
    refine eIcmpY X1 hx (hb hby at_108) (flt (by decide)).2.2.2 (by decide) (pc' := 115) rfl ?_
    refine eILoad X1 hx (hb hby at_115) rfl rfl ?_
    refine eIConst X1 hx (3 : Int32) (hb hby at_117) rfl rfl ?_
    refine eIcmpY X1 hx (hb hby at_118) (flt (by decide)).2.2.2 (by decide) (pc' := 126) rfl ?_
    refine eILoad X1 hx (hb hby at_126) rfl rfl ?_
    refine eIConst X1 hx (4 : Int32) (hb hby at_128) rfl rfl ?_
    refine eIcmpY X1 hx (hb hby at_129) (flt (by decide)).2.2.2 (by decide) (pc' := 141) rfl ?_
    refine eIConst X1 hx (0 : Int32) (hb hby at_141) rfl rfl ?_
    refine eIStore X1 hx (hb hby at_142) (L' := #[.val (.int p1), .val (.int p2), .val (.int p3), .val (.int p4), .val (.int p5), .val (.int p6), .val (.int (0 : Int32)), .val (.ref ad1), .val (.int (0 : Int32)), .unset]) rfl rfl ?_
    refine eNewO X1 hx hZ hown (hw _ (List.mem_of_getElem? (i := 1) rfl)) (hw _ (List.mem_of_getElem? (i := 2) rfl)) (hw _ (List.mem_of_getElem? (i := 3) rfl)) e1 (hb hby at_144) (by decide) (by decide) rfl (fun T2 h2 ad2 g2 X2 e2 E2 A2 D2 => ?_)
    have ne_ad1_ad2 : ad1 ≠ ad2 := Nat.ne_of_lt (Nat.lt_of_lt_of_le A1.lt (Nat.le_of_eq g2.symm))
    have A1 := A1.ext E2
    have Q1 := Q1.ext E2
    have Z2 := Nat.le_trans Z1 E2.1
    have ge_ad2 : n0 ≤ ad2 := Nat.le_trans Z1 (Nat.le_of_eq g2.symm)
    have F2__tokens : Fld Z h2 ad2 "com/example/workflow_soundness/workflowsoundness/model/OmegaMarking" "_tokens" "[I" .null := D2 (Or.inr (hw _ (List.mem_of_getElem? (i := 11) rfl))) (ty := (.array .int)) (by decide)
    have F2__hash : Fld Z h2 ad2 "com/example/workflow_soundness/workflowsoundness/model/OmegaMarking" "_hash" "I" (.int (0 : Int32)) := D2 (Or.inr (hw _ (List.mem_of_getElem? (i := 17) rfl))) (ty := .int) (by decide)
    refine eDup X2 hx (hb hby at_147) rfl rfl ?_
    refine eALoad X2 hx (hb hby at_148) rfl rfl rfl ?_
    refine eCallI X2 hx hZ (y := (⟨"com/example/workflow_soundness/workflowsoundness/model/OmegaMarking", "<init>", "([I)V"⟩ : MethodName)) (a := ad2) rfl hown (hw _ (List.mem_of_getElem? (i := 4) rfl)) (hw _ (List.mem_of_getElem? (i := 5) rfl)) (hw _ (List.mem_of_getElem? (i := 3) rfl)) (hw _ (List.mem_of_getElem? (i := 6) rfl)) (by decide) e2 (rm1z l Z a0 hw [] ad2 ad1 (0 : Int32) h2 n0 Z2 A2 F2__tokens F2__hash Q1 A1 ge_ad2 (Ne.symm ne_ad1_ad2)) (argsL := [(.ref ad1)]) (rest := [(.ref ad2)]) (lenOf own_pd3 rfl) rfl (by rw [hml]; rfl) 1 (by exact Nat.le_refl _) (by decide) (by decide) (by decide) (by decide) (hb hby at_150) rfl (fun v3 T3 L3 q3 (X3 : Stand _ _ _ _ _ _ _ _ _ _ T3 _ 2 2) => ?_)
    obtain ⟨N3', K3', rfl, R3_0, R3_1, R3_2, R3_3, R3_4⟩ := q3
    have N3 := Fr.app N0 N3'
    have A1 := A1.keep K3' (ninS ne_ad1_ad2 nin0)
    have Q1 := Q1.keep K3'
    have A2 := A2.keep K3'
    have A2 := R3_0
    have F2__tokens : Fld Z T3.heap ad2 "com/example/workflow_soundness/workflowsoundness/model/OmegaMarking" "_tokens" "[I" (.ref ad1) := R3_1
    have F2__hash : Fld Z T3.heap ad2 "com/example/workflow_soundness/workflowsoundness/model/OmegaMarking" "_hash" "I" (.int (fInz_0)) := R3_2
    have Q1 := R3_3
    have A1 : Ar Z T3.heap ad1 .int [] := R3_4
    have Z3 := Nat.le_trans Z2 K3'.1
    show Ends p e below _ T3 m 153 #[.val (.int p1), .val (.int p2), .val (.int p3), .val (.int p4), .val (.int p5), .val (.int p6), .val (.int (0 : Int32)), .val (.ref ad1), .val (.int (0 : Int32)), .unset] [(.ref ad2)]
    refine eAStore X3 hx (hb hby at_153) rfl (L' := #[.val (.int p1), .val (.int p2), .val (.int p3), .val (.int p4), .val (.int p5), .val (.int p6), .val (.int (0 : Int32)), .val (.ref ad1), .val (.int (0 : Int32)), .val (.ref ad2)]) rfl rfl ?_
    refine eALoad X3 hx (hb hby at_155) rfl rfl rfl ?_
    refine eCallV X3 hx hZ (y := (⟨"com/example/workflow_soundness/workflowsoundness/model/OmegaMarking", "holdsOmega", "()Z"⟩ : MethodName)) hown (hw _ (List.mem_of_getElem? (i := 18) rfl)) (hw _ (List.mem_of_getElem? (i := 19) rfl)) (hw _ (List.mem_of_getElem? (i := 21) rfl)) (hw _ (List.mem_of_getElem? (i := 20) rfl)) (hw _ (List.mem_of_getElem? (i := 3) rfl)) (hw _ (List.mem_of_getElem? (i := 22) rfl)) (by decide) rfl A2 (rm4 l Z a0 hw [] ad2 ad1 [] T3.heap n0 Z3 F2__tokens A1 (Nat.le_of_ble_eq_true rfl)) (argsL := []) (rest := []) (lenOf own_pd4 rfl) rfl (by rw [hml]; rfl) 0 (by exact Nat.le_refl _) (by decide) (by decide) (by decide) (by decide) (hb hby at_157) rfl (fun v4 T4 L4 q4 (X4 : Stand _ _ _ _ _ _ _ _ _ _ T4 _ 2 2) => ?_)
    obtain ⟨N4', e4, rfl⟩ := q4
    have N4 := Fr.app N3 N4'
    show Ends p e below _ T4 m 160 #[.val (.int p1), .val (.int p2), .val (.int p3), .val (.int p4), .val (.int p5), .val (.int p6), .val (.int (0 : Int32)), .val (.ref ad1), .val (.int (0 : Int32)), .val (.ref ad2)] [(.int (fHo_0 []))]
    refine eILoad X4 hx (hb hby at_160) rfl rfl ?_
    show Ends p e below (PVW s 16 128 n0 (if (fHo_0 []) = (0 : Int32) then (1 : Int32) else (0 : Int32))) T4 m 162 #[.val (.int p1), .val (.int p2), .val (.int p3), .val (.int p4), .val (.int p5), .val (.int p6), .val (.int (0 : Int32)), .val (.ref ad1), .val (.int (0 : Int32)), .val (.ref ad2)] [(.int (0 : Int32)), (.int (fHo_0 []))]
    by_cases c5 : (fHo_0 []) = (0 : Int32)
    · rw [if_pos c5]
      refine eIcmpN X4 hx (hb hby at_162) (teq c5).2 rfl ?_
      refine eIConst X4 hx (1 : Int32) (hb hby at_165) rfl rfl ?_
      refine eGoto X4 hx (hb hby at_166) (by decide) (pc' := 170) rfl ?_
      exact eRetN X4 hx (t := .boolean) Bd.returns (by simp) hlk (hb hby at_170) (by decide) (by decide) ⟨rfl, N4⟩
    · rw [if_neg c5]
      refine eIcmpY X4 hx (hb hby at_162) (feq c5).2 (by decide) (pc' := 169) rfl ?_
      refine eIConst X4 hx (0 : Int32) (hb hby at_169) rfl rfl ?_
      exact eRetN X4 hx (t := .boolean) Bd.returns (by simp) hlk (hb hby at_170) (by decide) (by decide) ⟨rfl, N4⟩
  rw [if_neg hs136_0]
  by_cases hs136_1 : ((p1 &&& (7 : Int32)) % (6 : Int32)) = (1 : Int32)
  · rw [if_pos hs136_1, hs136_1]
    refine eILoad X0 hx (hb hby at_9) rfl rfl ?_
    refine eNewE X0 hx hZ rfl rfl (hw _ (List.mem_of_getElem? (i := 0) rfl)) e0 (hb hby at_11) (by decide) (cap := 1) (by decide) (by decide) (by decide) (by decide) "[I" (by decide) rfl (fun T6 h6 ad6 g6 X6 e6 E6 A6 Q6 => ?_)
    have Z6 := Nat.le_trans Z0 E6.1
    have ge_ad6 : n0 ≤ ad6 := Nat.le_trans Z0 (Nat.le_of_eq g6.symm)
    have A6 : Ar Z h6 ad6 .int [(0 : Int32)] := A6
    refine eAStore X6 hx (hb hby at_13) rfl (L' := #[.val (.int p1), .val (.int p2), .val (.int p3), .val (.int p4), .val (.int p5), .val (.int p6), .val (.int (1 : Int32)), .val (.ref ad6), .unset, .unset]) rfl rfl ?_
    refine eILoad X6 hx (hb hby at_15) rfl rfl ?_
    refine eIfN X6 hx (hb hby at_17) ((if0 _ _).trans (tlt (by decide)).2.2.2) rfl ?_
    refine eALoad X6 hx (hb hby at_20) rfl rfl rfl ?_
    refine eIConst X6 hx (0 : Int32) (hb hby at_22) rfl rfl ?_
    refine eILoadN X6 hx (hb hby at_23) rfl rfl ?_
    refine eCallS X6 hx hZ (y := (⟨"com/example/workflow_soundness/workflowsoundness/model/OmegaMarkingHoldsOmegaPinLaw", "cell", "(I)I"⟩ : MethodName)) hown (hw _ (List.mem_of_getElem? (i := 23) rfl)) (hw _ (List.mem_of_getElem? (i := 24) rfl)) (hw _ (List.mem_of_getElem? (i := 25) rfl)) (hw _ (List.mem_of_getElem? (i := 26) rfl)) (by decide) e6 (rm5 l Z a0 hw [] p2 h6 n0 Z6) (argsL := [(.int p2)]) (rest := [(.int (0 : Int32)), (.ref ad6)]) (lenOf own_pd5 rfl) rfl (by rw [hml]; rfl) 2 (by exact Nat.le_refl _) (by decide) (by decide) (by decide) (by decide) (hb hby at_24) rfl (fun v7 T7 L7 q7 (X7 : Stand _ _ _ _ _ _ _ _ _ _ T7 _ 1 1) => ?_)
    obtain ⟨rfl, N7', e7⟩ := q7
    have N7 := Fr.app N0 N7'
    show Ends p e below _ T7 m 27 #[.val (.int p1), .val (.int p2), .val (.int p3), .val (.int p4), .val (.int p5), .val (.int p6), .val (.int (1 : Int32)), .val (.ref ad6), .unset, .unset] [(.int (fCell_0 p2)), (.int (0 : Int32)), (.ref ad6)]
    refine eIAStore X7 hx hZ e7 A6 (inbL (n := 1) rfl (by decide)) (hb hby at_27) rfl (fun T8 h8 X8 e8 W8 B8 => ?_)
    have Q6 := Q6.wr W8
    have A6 : Ar Z h8 ad6 .int [(fCell_0 p2)] := B8
    have N8 := Fr.snoc X8 N7 ge_ad6
    have Z8 := Nat.le_trans Z6 (Keep.of_wr W8).1
    refine eILoad X8 hx (hb hby at_28) rfl rfl ?_
    refine eIConst X8 hx (1 : Int32) (hb hby at_30) rfl rfl ?_
    refine eIcmpY X8 hx (hb hby at_31) (flt (by decide)).2.2.2 (by decide) (pc' := 42) rfl ?_
    refine eILoad X8 hx (hb hby at_42) rfl rfl ?_
    refine eIConst X8 hx (2 : Int32) (hb hby at_44) rfl rfl ?_
    refine eIcmpY X8 hx (hb hby at_45) (flt (by decide)).2.2.2 (by decide) (pc' := 56) rfl ?_
    refine eILoad X8 hx (hb hby at_56) rfl rfl ?_
    refine eIConst X8 hx (3 : Int32) (hb hby at_58) rfl rfl ?_
    refine eIcmpY X8 hx (hb hby at_59) (flt (by decide)).2.2.2 (by decide) (pc' := 71) rfl ?_
    refine eILoad X8 hx (hb hby at_71) rfl rfl ?_
    refine eIConst X8 hx (4 : Int32) (hb hby at_73) rfl rfl ?_
    refine eIcmpY X8 hx (hb hby at_74) (flt (by decide)).2.2.2 (by decide) (pc' := 86) rfl ?_
    refine eILoad X8 hx (hb hby at_86) rfl rfl ?_
    refine eIfN X8 hx (hb hby at_88) ((if0 _ _).trans (tlt (by decide)).2.2.2) rfl ?_
    refine eILoadN X8 hx (hb hby at_91) rfl rfl ?_
    show Ends p e below (PVW s 16 128 n0 (if p2 < (0 : Int32) then (if (fHo_0 [(fCell_0 p2)]) = (1 : Int32) then (1 : Int32) else (0 : Int32)) else (if (fHo_0 [(fCell_0 p2)]) = (0 : Int32) then (1 : Int32) else (0 : Int32)))) T8 m 92 #[.val (.int p1), .val (.int p2), .val (.int p3), .val (.int p4), .val (.int p5), .val (.int p6), .val (.int (1 : Int32)), .val (.ref ad6), .unset, .unset] [(.int p2)]
    by_cases c9 : p2 < (0 : Int32)
    · rw [if_pos c9]
      refine eIfY X8 hx (hb hby at_92) ((if0 _ _).trans (tlt c9).1) (by decide) (pc' := 137) rfl ?_
      refine eIConst X8 hx (1 : Int32) (hb hby at_137) rfl rfl ?_
      refine eGoto X8 hx (hb hby at_138) (by decide) (pc' := 142) rfl ?_
      refine eIStore X8 hx (hb hby at_142) (L' := #[.val (.int p1), .val (.int p2), .val (.int p3), .val (.int p4), .val (.int p5), .val (.int p6), .val (.int (1 : Int32)), .val (.ref ad6), .val (.int (1 : Int32)), .unset]) rfl rfl ?_
      refine eNewO X8 hx hZ hown (hw _ (List.mem_of_getElem? (i := 1) rfl)) (hw _ (List.mem_of_getElem? (i := 2) rfl)) (hw _ (List.mem_of_getElem? (i := 3) rfl)) e8 (hb hby at_144) (by decide) (by decide) rfl (fun T10 h10 ad10 g10 X10 e10 E10 A10 D10 => ?_)
      have ne_ad6_ad10 : ad6 ≠ ad10 := Nat.ne_of_lt (Nat.lt_of_lt_of_le A6.lt (Nat.le_of_eq g10.symm))
      have A6 := A6.ext E10
      have Q6 := Q6.ext E10
      have Z10 := Nat.le_trans Z8 E10.1
      have ge_ad10 : n0 ≤ ad10 := Nat.le_trans Z8 (Nat.le_of_eq g10.symm)
      have F10__tokens : Fld Z h10 ad10 "com/example/workflow_soundness/workflowsoundness/model/OmegaMarking" "_tokens" "[I" .null := D10 (Or.inr (hw _ (List.mem_of_getElem? (i := 11) rfl))) (ty := (.array .int)) (by decide)
      have F10__hash : Fld Z h10 ad10 "com/example/workflow_soundness/workflowsoundness/model/OmegaMarking" "_hash" "I" (.int (0 : Int32)) := D10 (Or.inr (hw _ (List.mem_of_getElem? (i := 17) rfl))) (ty := .int) (by decide)
      refine eDup X10 hx (hb hby at_147) rfl rfl ?_
      refine eALoad X10 hx (hb hby at_148) rfl rfl rfl ?_
      refine eCallI X10 hx hZ (y := (⟨"com/example/workflow_soundness/workflowsoundness/model/OmegaMarking", "<init>", "([I)V"⟩ : MethodName)) (a := ad10) rfl hown (hw _ (List.mem_of_getElem? (i := 4) rfl)) (hw _ (List.mem_of_getElem? (i := 5) rfl)) (hw _ (List.mem_of_getElem? (i := 3) rfl)) (hw _ (List.mem_of_getElem? (i := 6) rfl)) (by decide) e10 (rm1o l Z a0 hw [] ad10 ad6 (0 : Int32) (fCell_0 p2) h10 n0 Z10 A10 F10__tokens F10__hash Q6 A6 ge_ad10 (Ne.symm ne_ad6_ad10)) (argsL := [(.ref ad6)]) (rest := [(.ref ad10)]) (lenOf own_pd3 rfl) rfl (by rw [hml]; rfl) 1 (by exact Nat.le_refl _) (by decide) (by decide) (by decide) (by decide) (hb hby at_150) rfl (fun v11 T11 L11 q11 (X11 : Stand _ _ _ _ _ _ _ _ _ _ T11 _ 2 3) => ?_)
      obtain ⟨N11', K11', rfl, R11_0, R11_1, R11_2, R11_3, R11_4⟩ := q11
      have N11 := Fr.app N8 N11'
      have A6 := A6.keep K11' (ninS ne_ad6_ad10 nin0)
      have Q6 := Q6.keep K11'
      have A10 := A10.keep K11'
      have A10 := R11_0
      have F10__tokens : Fld Z T11.heap ad10 "com/example/workflow_soundness/workflowsoundness/model/OmegaMarking" "_tokens" "[I" (.ref ad6) := R11_1
      have F10__hash : Fld Z T11.heap ad10 "com/example/workflow_soundness/workflowsoundness/model/OmegaMarking" "_hash" "I" (.int (fIno_0 (fCell_0 p2))) := R11_2
      have Q6 := R11_3
      have A6 : Ar Z T11.heap ad6 .int [(fCell_0 p2)] := R11_4
      have Z11 := Nat.le_trans Z10 K11'.1
      show Ends p e below _ T11 m 153 #[.val (.int p1), .val (.int p2), .val (.int p3), .val (.int p4), .val (.int p5), .val (.int p6), .val (.int (1 : Int32)), .val (.ref ad6), .val (.int (1 : Int32)), .unset] [(.ref ad10)]
      refine eAStore X11 hx (hb hby at_153) rfl (L' := #[.val (.int p1), .val (.int p2), .val (.int p3), .val (.int p4), .val (.int p5), .val (.int p6), .val (.int (1 : Int32)), .val (.ref ad6), .val (.int (1 : Int32)), .val (.ref ad10)]) rfl rfl ?_
      refine eALoad X11 hx (hb hby at_155) rfl rfl rfl ?_
      refine eCallV X11 hx hZ (y := (⟨"com/example/workflow_soundness/workflowsoundness/model/OmegaMarking", "holdsOmega", "()Z"⟩ : MethodName)) hown (hw _ (List.mem_of_getElem? (i := 18) rfl)) (hw _ (List.mem_of_getElem? (i := 19) rfl)) (hw _ (List.mem_of_getElem? (i := 21) rfl)) (hw _ (List.mem_of_getElem? (i := 20) rfl)) (hw _ (List.mem_of_getElem? (i := 3) rfl)) (hw _ (List.mem_of_getElem? (i := 22) rfl)) (by decide) rfl A10 (rm4 l Z a0 hw [] ad10 ad6 [(fCell_0 p2)] T11.heap n0 Z11 F10__tokens A6 (Nat.le_of_ble_eq_true rfl)) (argsL := []) (rest := []) (lenOf own_pd4 rfl) rfl (by rw [hml]; rfl) 0 (by exact Nat.le_refl _) (by decide) (by decide) (by decide) (by decide) (hb hby at_157) rfl (fun v12 T12 L12 q12 (X12 : Stand _ _ _ _ _ _ _ _ _ _ T12 _ 2 3) => ?_)
      obtain ⟨N12', e12, rfl⟩ := q12
      have N12 := Fr.app N11 N12'
      show Ends p e below _ T12 m 160 #[.val (.int p1), .val (.int p2), .val (.int p3), .val (.int p4), .val (.int p5), .val (.int p6), .val (.int (1 : Int32)), .val (.ref ad6), .val (.int (1 : Int32)), .val (.ref ad10)] [(.int (fHo_0 [(fCell_0 p2)]))]
      refine eILoad X12 hx (hb hby at_160) rfl rfl ?_
      show Ends p e below (PVW s 16 128 n0 (if (fHo_0 [(fCell_0 p2)]) = (1 : Int32) then (1 : Int32) else (0 : Int32))) T12 m 162 #[.val (.int p1), .val (.int p2), .val (.int p3), .val (.int p4), .val (.int p5), .val (.int p6), .val (.int (1 : Int32)), .val (.ref ad6), .val (.int (1 : Int32)), .val (.ref ad10)] [(.int (1 : Int32)), (.int (fHo_0 [(fCell_0 p2)]))]
      by_cases c13 : (fHo_0 [(fCell_0 p2)]) = (1 : Int32)
      · rw [if_pos c13]
        refine eIcmpN X12 hx (hb hby at_162) (teq c13).2 rfl ?_
        refine eIConst X12 hx (1 : Int32) (hb hby at_165) rfl rfl ?_
        refine eGoto X12 hx (hb hby at_166) (by decide) (pc' := 170) rfl ?_
        exact eRetN X12 hx (t := .boolean) Bd.returns (by simp) hlk (hb hby at_170) (by decide) (by decide) ⟨rfl, N12⟩
      · rw [if_neg c13]
        refine eIcmpY X12 hx (hb hby at_162) (feq c13).2 (by decide) (pc' := 169) rfl ?_
        refine eIConst X12 hx (0 : Int32) (hb hby at_169) rfl rfl ?_
        exact eRetN X12 hx (t := .boolean) Bd.returns (by simp) hlk (hb hby at_170) (by decide) (by decide) ⟨rfl, N12⟩
    · rw [if_neg c9]
      refine eIfN X8 hx (hb hby at_92) ((if0 _ _).trans (flt c9).1) rfl ?_
      refine eILoad X8 hx (hb hby at_95) rfl rfl ?_
      refine eIConst X8 hx (1 : Int32) (hb hby at_97) rfl rfl ?_
      refine eIcmpY X8 hx (hb hby at_98) (flt (by decide)).2.2.2 (by decide) (pc' := 105) rfl ?_
      refine eILoad X8 hx (hb hby at_105) rfl rfl ?_
      refine eIConst X8 hx (2 : Int32) (hb hby at_107) rfl rfl ?_
      refine eIcmpY X8 hx (hb hby at_108) (flt (by decide)).2.2.2 (by decide) (pc' := 115) rfl ?_
      refine eILoad X8 hx (hb hby at_115) rfl rfl ?_
      refine eIConst X8 hx (3 : Int32) (hb hby at_117) rfl rfl ?_
      refine eIcmpY X8 hx (hb hby at_118) (flt (by decide)).2.2.2 (by decide) (pc' := 126) rfl ?_
      refine eILoad X8 hx (hb hby at_126) rfl rfl ?_
      refine eIConst X8 hx (4 : Int32) (hb hby at_128) rfl rfl ?_
      refine eIcmpY X8 hx (hb hby at_129) (flt (by decide)).2.2.2 (by decide) (pc' := 141) rfl ?_
      refine eIConst X8 hx (0 : Int32) (hb hby at_141) rfl rfl ?_
      refine eIStore X8 hx (hb hby at_142) (L' := #[.val (.int p1), .val (.int p2), .val (.int p3), .val (.int p4), .val (.int p5), .val (.int p6), .val (.int (1 : Int32)), .val (.ref ad6), .val (.int (0 : Int32)), .unset]) rfl rfl ?_
      refine eNewO X8 hx hZ hown (hw _ (List.mem_of_getElem? (i := 1) rfl)) (hw _ (List.mem_of_getElem? (i := 2) rfl)) (hw _ (List.mem_of_getElem? (i := 3) rfl)) e8 (hb hby at_144) (by decide) (by decide) rfl (fun T14 h14 ad14 g14 X14 e14 E14 A14 D14 => ?_)
      have ne_ad6_ad14 : ad6 ≠ ad14 := Nat.ne_of_lt (Nat.lt_of_lt_of_le A6.lt (Nat.le_of_eq g14.symm))
      have A6 := A6.ext E14
      have Q6 := Q6.ext E14
      have Z14 := Nat.le_trans Z8 E14.1
      have ge_ad14 : n0 ≤ ad14 := Nat.le_trans Z8 (Nat.le_of_eq g14.symm)
      have F14__tokens : Fld Z h14 ad14 "com/example/workflow_soundness/workflowsoundness/model/OmegaMarking" "_tokens" "[I" .null := D14 (Or.inr (hw _ (List.mem_of_getElem? (i := 11) rfl))) (ty := (.array .int)) (by decide)
      have F14__hash : Fld Z h14 ad14 "com/example/workflow_soundness/workflowsoundness/model/OmegaMarking" "_hash" "I" (.int (0 : Int32)) := D14 (Or.inr (hw _ (List.mem_of_getElem? (i := 17) rfl))) (ty := .int) (by decide)
      refine eDup X14 hx (hb hby at_147) rfl rfl ?_
      refine eALoad X14 hx (hb hby at_148) rfl rfl rfl ?_
      refine eCallI X14 hx hZ (y := (⟨"com/example/workflow_soundness/workflowsoundness/model/OmegaMarking", "<init>", "([I)V"⟩ : MethodName)) (a := ad14) rfl hown (hw _ (List.mem_of_getElem? (i := 4) rfl)) (hw _ (List.mem_of_getElem? (i := 5) rfl)) (hw _ (List.mem_of_getElem? (i := 3) rfl)) (hw _ (List.mem_of_getElem? (i := 6) rfl)) (by decide) e14 (rm1o l Z a0 hw [] ad14 ad6 (0 : Int32) (fCell_0 p2) h14 n0 Z14 A14 F14__tokens F14__hash Q6 A6 ge_ad14 (Ne.symm ne_ad6_ad14)) (argsL := [(.ref ad6)]) (rest := [(.ref ad14)]) (lenOf own_pd3 rfl) rfl (by rw [hml]; rfl) 1 (by exact Nat.le_refl _) (by decide) (by decide) (by decide) (by decide) (hb hby at_150) rfl (fun v15 T15 L15 q15 (X15 : Stand _ _ _ _ _ _ _ _ _ _ T15 _ 2 3) => ?_)
      obtain ⟨N15', K15', rfl, R15_0, R15_1, R15_2, R15_3, R15_4⟩ := q15
      have N15 := Fr.app N8 N15'
      have A6 := A6.keep K15' (ninS ne_ad6_ad14 nin0)
      have Q6 := Q6.keep K15'
      have A14 := A14.keep K15'
      have A14 := R15_0
      have F14__tokens : Fld Z T15.heap ad14 "com/example/workflow_soundness/workflowsoundness/model/OmegaMarking" "_tokens" "[I" (.ref ad6) := R15_1
      have F14__hash : Fld Z T15.heap ad14 "com/example/workflow_soundness/workflowsoundness/model/OmegaMarking" "_hash" "I" (.int (fIno_0 (fCell_0 p2))) := R15_2
      have Q6 := R15_3
      have A6 : Ar Z T15.heap ad6 .int [(fCell_0 p2)] := R15_4
      have Z15 := Nat.le_trans Z14 K15'.1
      show Ends p e below _ T15 m 153 #[.val (.int p1), .val (.int p2), .val (.int p3), .val (.int p4), .val (.int p5), .val (.int p6), .val (.int (1 : Int32)), .val (.ref ad6), .val (.int (0 : Int32)), .unset] [(.ref ad14)]
      refine eAStore X15 hx (hb hby at_153) rfl (L' := #[.val (.int p1), .val (.int p2), .val (.int p3), .val (.int p4), .val (.int p5), .val (.int p6), .val (.int (1 : Int32)), .val (.ref ad6), .val (.int (0 : Int32)), .val (.ref ad14)]) rfl rfl ?_
      refine eALoad X15 hx (hb hby at_155) rfl rfl rfl ?_
      refine eCallV X15 hx hZ (y := (⟨"com/example/workflow_soundness/workflowsoundness/model/OmegaMarking", "holdsOmega", "()Z"⟩ : MethodName)) hown (hw _ (List.mem_of_getElem? (i := 18) rfl)) (hw _ (List.mem_of_getElem? (i := 19) rfl)) (hw _ (List.mem_of_getElem? (i := 21) rfl)) (hw _ (List.mem_of_getElem? (i := 20) rfl)) (hw _ (List.mem_of_getElem? (i := 3) rfl)) (hw _ (List.mem_of_getElem? (i := 22) rfl)) (by decide) rfl A14 (rm4 l Z a0 hw [] ad14 ad6 [(fCell_0 p2)] T15.heap n0 Z15 F14__tokens A6 (Nat.le_of_ble_eq_true rfl)) (argsL := []) (rest := []) (lenOf own_pd4 rfl) rfl (by rw [hml]; rfl) 0 (by exact Nat.le_refl _) (by decide) (by decide) (by decide) (by decide) (hb hby at_157) rfl (fun v16 T16 L16 q16 (X16 : Stand _ _ _ _ _ _ _ _ _ _ T16 _ 2 3) => ?_)
      obtain ⟨N16', e16, rfl⟩ := q16
      have N16 := Fr.app N15 N16'
      show Ends p e below _ T16 m 160 #[.val (.int p1), .val (.int p2), .val (.int p3), .val (.int p4), .val (.int p5), .val (.int p6), .val (.int (1 : Int32)), .val (.ref ad6), .val (.int (0 : Int32)), .val (.ref ad14)] [(.int (fHo_0 [(fCell_0 p2)]))]
      refine eILoad X16 hx (hb hby at_160) rfl rfl ?_
      show Ends p e below (PVW s 16 128 n0 (if (fHo_0 [(fCell_0 p2)]) = (0 : Int32) then (1 : Int32) else (0 : Int32))) T16 m 162 #[.val (.int p1), .val (.int p2), .val (.int p3), .val (.int p4), .val (.int p5), .val (.int p6), .val (.int (1 : Int32)), .val (.ref ad6), .val (.int (0 : Int32)), .val (.ref ad14)] [(.int (0 : Int32)), (.int (fHo_0 [(fCell_0 p2)]))]
      by_cases c17 : (fHo_0 [(fCell_0 p2)]) = (0 : Int32)
      · rw [if_pos c17]
        refine eIcmpN X16 hx (hb hby at_162) (teq c17).2 rfl ?_
        refine eIConst X16 hx (1 : Int32) (hb hby at_165) rfl rfl ?_
        refine eGoto X16 hx (hb hby at_166) (by decide) (pc' := 170) rfl ?_
        exact eRetN X16 hx (t := .boolean) Bd.returns (by simp) hlk (hb hby at_170) (by decide) (by decide) ⟨rfl, N16⟩
      · rw [if_neg c17]
        refine eIcmpY X16 hx (hb hby at_162) (feq c17).2 (by decide) (pc' := 169) rfl ?_
        refine eIConst X16 hx (0 : Int32) (hb hby at_169) rfl rfl ?_
        exact eRetN X16 hx (t := .boolean) Bd.returns (by simp) hlk (hb hby at_170) (by decide) (by decide) ⟨rfl, N16⟩
  rw [if_neg hs136_1]
  by_cases hs136_2 : ((p1 &&& (7 : Int32)) % (6 : Int32)) = (2 : Int32)
  · rw [if_pos hs136_2, hs136_2]
    refine eILoad X0 hx (hb hby at_9) rfl rfl ?_
    refine eNewE X0 hx hZ rfl rfl (hw _ (List.mem_of_getElem? (i := 0) rfl)) e0 (hb hby at_11) (by decide) (cap := 2) (by decide) (by decide) (by decide) (by decide) "[I" (by decide) rfl (fun T18 h18 ad18 g18 X18 e18 E18 A18 Q18 => ?_)
    have Z18 := Nat.le_trans Z0 E18.1
    have ge_ad18 : n0 ≤ ad18 := Nat.le_trans Z0 (Nat.le_of_eq g18.symm)
    have A18 : Ar Z h18 ad18 .int [(0 : Int32), (0 : Int32)] := A18
    refine eAStore X18 hx (hb hby at_13) rfl (L' := #[.val (.int p1), .val (.int p2), .val (.int p3), .val (.int p4), .val (.int p5), .val (.int p6), .val (.int (2 : Int32)), .val (.ref ad18), .unset, .unset]) rfl rfl ?_
    refine eILoad X18 hx (hb hby at_15) rfl rfl ?_
    refine eIfN X18 hx (hb hby at_17) ((if0 _ _).trans (tlt (by decide)).2.2.2) rfl ?_
    refine eALoad X18 hx (hb hby at_20) rfl rfl rfl ?_
    refine eIConst X18 hx (0 : Int32) (hb hby at_22) rfl rfl ?_
    refine eILoadN X18 hx (hb hby at_23) rfl rfl ?_
    refine eCallS X18 hx hZ (y := (⟨"com/example/workflow_soundness/workflowsoundness/model/OmegaMarkingHoldsOmegaPinLaw", "cell", "(I)I"⟩ : MethodName)) hown (hw _ (List.mem_of_getElem? (i := 23) rfl)) (hw _ (List.mem_of_getElem? (i := 24) rfl)) (hw _ (List.mem_of_getElem? (i := 25) rfl)) (hw _ (List.mem_of_getElem? (i := 26) rfl)) (by decide) e18 (rm5 l Z a0 hw [] p2 h18 n0 Z18) (argsL := [(.int p2)]) (rest := [(.int (0 : Int32)), (.ref ad18)]) (lenOf own_pd5 rfl) rfl (by rw [hml]; rfl) 2 (by exact Nat.le_refl _) (by decide) (by decide) (by decide) (by decide) (hb hby at_24) rfl (fun v19 T19 L19 q19 (X19 : Stand _ _ _ _ _ _ _ _ _ _ T19 _ 1 2) => ?_)
    obtain ⟨rfl, N19', e19⟩ := q19
    have N19 := Fr.app N0 N19'
    show Ends p e below _ T19 m 27 #[.val (.int p1), .val (.int p2), .val (.int p3), .val (.int p4), .val (.int p5), .val (.int p6), .val (.int (2 : Int32)), .val (.ref ad18), .unset, .unset] [(.int (fCell_0 p2)), (.int (0 : Int32)), (.ref ad18)]
    refine eIAStore X19 hx hZ e19 A18 (inbL (n := 2) rfl (by decide)) (hb hby at_27) rfl (fun T20 h20 X20 e20 W20 B20 => ?_)
    have Q18 := Q18.wr W20
    have A18 : Ar Z h20 ad18 .int [(fCell_0 p2), (0 : Int32)] := B20
    have N20 := Fr.snoc X20 N19 ge_ad18
    have Z20 := Nat.le_trans Z18 (Keep.of_wr W20).1
    refine eILoad X20 hx (hb hby at_28) rfl rfl ?_
    refine eIConst X20 hx (1 : Int32) (hb hby at_30) rfl rfl ?_
    refine eIcmpN X20 hx (hb hby at_31) (tlt (by decide)).2.2.2 rfl ?_
    refine eALoad X20 hx (hb hby at_34) rfl rfl rfl ?_
    refine eIConst X20 hx (1 : Int32) (hb hby at_36) rfl rfl ?_
    refine eILoadN X20 hx (hb hby at_37) rfl rfl ?_
    refine eCallS X20 hx hZ (y := (⟨"com/example/workflow_soundness/workflowsoundness/model/OmegaMarkingHoldsOmegaPinLaw", "cell", "(I)I"⟩ : MethodName)) hown (hw _ (List.mem_of_getElem? (i := 23) rfl)) (hw _ (List.mem_of_getElem? (i := 24) rfl)) (hw _ (List.mem_of_getElem? (i := 25) rfl)) (hw _ (List.mem_of_getElem? (i := 26) rfl)) (by decide) e20 (rm5 l Z a0 hw [] p3 h20 n0 Z20) (argsL := [(.int p3)]) (rest := [(.int (1 : Int32)), (.ref ad18)]) (lenOf own_pd5 rfl) rfl (by rw [hml]; rfl) 2 (by exact Nat.le_refl _) (by decide) (by decide) (by decide) (by decide) (hb hby at_38) rfl (fun v21 T21 L21 q21 (X21 : Stand _ _ _ _ _ _ _ _ _ _ T21 _ 1 2) => ?_)
    obtain ⟨rfl, N21', e21⟩ := q21
    have N21 := Fr.app N20 N21'
    show Ends p e below _ T21 m 41 #[.val (.int p1), .val (.int p2), .val (.int p3), .val (.int p4), .val (.int p5), .val (.int p6), .val (.int (2 : Int32)), .val (.ref ad18), .unset, .unset] [(.int (fCell_0 p3)), (.int (1 : Int32)), (.ref ad18)]
    refine eIAStore X21 hx hZ e21 A18 (inbL (n := 2) rfl (by decide)) (hb hby at_41) rfl (fun T22 h22 X22 e22 W22 B22 => ?_)
    have Q18 := Q18.wr W22
    have A18 : Ar Z h22 ad18 .int [(fCell_0 p2), (fCell_0 p3)] := B22
    have N22 := Fr.snoc X22 N21 ge_ad18
    have Z22 := Nat.le_trans Z20 (Keep.of_wr W22).1
    refine eILoad X22 hx (hb hby at_42) rfl rfl ?_
    refine eIConst X22 hx (2 : Int32) (hb hby at_44) rfl rfl ?_
    refine eIcmpY X22 hx (hb hby at_45) (flt (by decide)).2.2.2 (by decide) (pc' := 56) rfl ?_
    refine eILoad X22 hx (hb hby at_56) rfl rfl ?_
    refine eIConst X22 hx (3 : Int32) (hb hby at_58) rfl rfl ?_
    refine eIcmpY X22 hx (hb hby at_59) (flt (by decide)).2.2.2 (by decide) (pc' := 71) rfl ?_
    refine eILoad X22 hx (hb hby at_71) rfl rfl ?_
    refine eIConst X22 hx (4 : Int32) (hb hby at_73) rfl rfl ?_
    refine eIcmpY X22 hx (hb hby at_74) (flt (by decide)).2.2.2 (by decide) (pc' := 86) rfl ?_
    refine eILoad X22 hx (hb hby at_86) rfl rfl ?_
    refine eIfN X22 hx (hb hby at_88) ((if0 _ _).trans (tlt (by decide)).2.2.2) rfl ?_
    refine eILoadN X22 hx (hb hby at_91) rfl rfl ?_
    show Ends p e below (PVW s 16 128 n0 (if p2 < (0 : Int32) then (if (fHo_0 [(fCell_0 p2), (fCell_0 p3)]) = (1 : Int32) then (1 : Int32) else (0 : Int32)) else (if p3 < (0 : Int32) then (if (fHo_0 [(fCell_0 p2), (fCell_0 p3)]) = (1 : Int32) then (1 : Int32) else (0 : Int32)) else (if (fHo_0 [(fCell_0 p2), (fCell_0 p3)]) = (0 : Int32) then (1 : Int32) else (0 : Int32))))) T22 m 92 #[.val (.int p1), .val (.int p2), .val (.int p3), .val (.int p4), .val (.int p5), .val (.int p6), .val (.int (2 : Int32)), .val (.ref ad18), .unset, .unset] [(.int p2)]
    by_cases c23 : p2 < (0 : Int32)
    · rw [if_pos c23]
      refine eIfY X22 hx (hb hby at_92) ((if0 _ _).trans (tlt c23).1) (by decide) (pc' := 137) rfl ?_
      refine eIConst X22 hx (1 : Int32) (hb hby at_137) rfl rfl ?_
      refine eGoto X22 hx (hb hby at_138) (by decide) (pc' := 142) rfl ?_
      refine eIStore X22 hx (hb hby at_142) (L' := #[.val (.int p1), .val (.int p2), .val (.int p3), .val (.int p4), .val (.int p5), .val (.int p6), .val (.int (2 : Int32)), .val (.ref ad18), .val (.int (1 : Int32)), .unset]) rfl rfl ?_
      refine eNewO X22 hx hZ hown (hw _ (List.mem_of_getElem? (i := 1) rfl)) (hw _ (List.mem_of_getElem? (i := 2) rfl)) (hw _ (List.mem_of_getElem? (i := 3) rfl)) e22 (hb hby at_144) (by decide) (by decide) rfl (fun T24 h24 ad24 g24 X24 e24 E24 A24 D24 => ?_)
      have ne_ad18_ad24 : ad18 ≠ ad24 := Nat.ne_of_lt (Nat.lt_of_lt_of_le A18.lt (Nat.le_of_eq g24.symm))
      have A18 := A18.ext E24
      have Q18 := Q18.ext E24
      have Z24 := Nat.le_trans Z22 E24.1
      have ge_ad24 : n0 ≤ ad24 := Nat.le_trans Z22 (Nat.le_of_eq g24.symm)
      have F24__tokens : Fld Z h24 ad24 "com/example/workflow_soundness/workflowsoundness/model/OmegaMarking" "_tokens" "[I" .null := D24 (Or.inr (hw _ (List.mem_of_getElem? (i := 11) rfl))) (ty := (.array .int)) (by decide)
      have F24__hash : Fld Z h24 ad24 "com/example/workflow_soundness/workflowsoundness/model/OmegaMarking" "_hash" "I" (.int (0 : Int32)) := D24 (Or.inr (hw _ (List.mem_of_getElem? (i := 17) rfl))) (ty := .int) (by decide)
      refine eDup X24 hx (hb hby at_147) rfl rfl ?_
      refine eALoad X24 hx (hb hby at_148) rfl rfl rfl ?_
      refine eCallI X24 hx hZ (y := (⟨"com/example/workflow_soundness/workflowsoundness/model/OmegaMarking", "<init>", "([I)V"⟩ : MethodName)) (a := ad24) rfl hown (hw _ (List.mem_of_getElem? (i := 4) rfl)) (hw _ (List.mem_of_getElem? (i := 5) rfl)) (hw _ (List.mem_of_getElem? (i := 3) rfl)) (hw _ (List.mem_of_getElem? (i := 6) rfl)) (by decide) e24 (rm1g l Z a0 hw [] ad24 ad18 (0 : Int32) [(fCell_0 p2), (fCell_0 p3)] h24 n0 Z24 A24 F24__tokens F24__hash Q18 A18 ge_ad24 (Ne.symm ne_ad18_ad24) (Nat.le_of_ble_eq_true rfl) (Nat.le_of_ble_eq_true rfl)) (argsL := [(.ref ad18)]) (rest := [(.ref ad24)]) (lenOf own_pd3 rfl) rfl (by rw [hml]; rfl) 1 (by exact Nat.le_refl _) (by decide) (by decide) (by decide) (by decide) (hb hby at_150) rfl (fun v25 T25 L25 q25 (X25 : Stand _ _ _ _ _ _ _ _ _ _ T25 _ 2 4) => ?_)
      obtain ⟨N25', K25', rfl, R25_0, R25_1, R25_2, R25_3, R25_4⟩ := q25
      have N25 := Fr.app N22 N25'
      have A18 := A18.keep K25' (ninS ne_ad18_ad24 nin0)
      have Q18 := Q18.keep K25'
      have A24 := A24.keep K25'
      have A24 := R25_0
      have F24__tokens : Fld Z T25.heap ad24 "com/example/workflow_soundness/workflowsoundness/model/OmegaMarking" "_tokens" "[I" (.ref ad18) := R25_1
      have F24__hash : Fld Z T25.heap ad24 "com/example/workflow_soundness/workflowsoundness/model/OmegaMarking" "_hash" "I" (.int (fIng_0 [(fCell_0 p2), (fCell_0 p3)])) := R25_2
      have Q18 := R25_3
      have A18 : Ar Z T25.heap ad18 .int [(fCell_0 p2), (fCell_0 p3)] := R25_4
      have Z25 := Nat.le_trans Z24 K25'.1
      show Ends p e below _ T25 m 153 #[.val (.int p1), .val (.int p2), .val (.int p3), .val (.int p4), .val (.int p5), .val (.int p6), .val (.int (2 : Int32)), .val (.ref ad18), .val (.int (1 : Int32)), .unset] [(.ref ad24)]
      refine eAStore X25 hx (hb hby at_153) rfl (L' := #[.val (.int p1), .val (.int p2), .val (.int p3), .val (.int p4), .val (.int p5), .val (.int p6), .val (.int (2 : Int32)), .val (.ref ad18), .val (.int (1 : Int32)), .val (.ref ad24)]) rfl rfl ?_
      refine eALoad X25 hx (hb hby at_155) rfl rfl rfl ?_
      refine eCallV X25 hx hZ (y := (⟨"com/example/workflow_soundness/workflowsoundness/model/OmegaMarking", "holdsOmega", "()Z"⟩ : MethodName)) hown (hw _ (List.mem_of_getElem? (i := 18) rfl)) (hw _ (List.mem_of_getElem? (i := 19) rfl)) (hw _ (List.mem_of_getElem? (i := 21) rfl)) (hw _ (List.mem_of_getElem? (i := 20) rfl)) (hw _ (List.mem_of_getElem? (i := 3) rfl)) (hw _ (List.mem_of_getElem? (i := 22) rfl)) (by decide) rfl A24 (rm4 l Z a0 hw [] ad24 ad18 [(fCell_0 p2), (fCell_0 p3)] T25.heap n0 Z25 F24__tokens A18 (Nat.le_of_ble_eq_true rfl)) (argsL := []) (rest := []) (lenOf own_pd4 rfl) rfl (by rw [hml]; rfl) 0 (by exact Nat.le_refl _) (by decide) (by decide) (by decide) (by decide) (hb hby at_157) rfl (fun v26 T26 L26 q26 (X26 : Stand _ _ _ _ _ _ _ _ _ _ T26 _ 2 4) => ?_)
      obtain ⟨N26', e26, rfl⟩ := q26
      have N26 := Fr.app N25 N26'
      show Ends p e below _ T26 m 160 #[.val (.int p1), .val (.int p2), .val (.int p3), .val (.int p4), .val (.int p5), .val (.int p6), .val (.int (2 : Int32)), .val (.ref ad18), .val (.int (1 : Int32)), .val (.ref ad24)] [(.int (fHo_0 [(fCell_0 p2), (fCell_0 p3)]))]
      refine eILoad X26 hx (hb hby at_160) rfl rfl ?_
      show Ends p e below (PVW s 16 128 n0 (if (fHo_0 [(fCell_0 p2), (fCell_0 p3)]) = (1 : Int32) then (1 : Int32) else (0 : Int32))) T26 m 162 #[.val (.int p1), .val (.int p2), .val (.int p3), .val (.int p4), .val (.int p5), .val (.int p6), .val (.int (2 : Int32)), .val (.ref ad18), .val (.int (1 : Int32)), .val (.ref ad24)] [(.int (1 : Int32)), (.int (fHo_0 [(fCell_0 p2), (fCell_0 p3)]))]
      by_cases c27 : (fHo_0 [(fCell_0 p2), (fCell_0 p3)]) = (1 : Int32)
      · rw [if_pos c27]
        refine eIcmpN X26 hx (hb hby at_162) (teq c27).2 rfl ?_
        refine eIConst X26 hx (1 : Int32) (hb hby at_165) rfl rfl ?_
        refine eGoto X26 hx (hb hby at_166) (by decide) (pc' := 170) rfl ?_
        exact eRetN X26 hx (t := .boolean) Bd.returns (by simp) hlk (hb hby at_170) (by decide) (by decide) ⟨rfl, N26⟩
      · rw [if_neg c27]
        refine eIcmpY X26 hx (hb hby at_162) (feq c27).2 (by decide) (pc' := 169) rfl ?_
        refine eIConst X26 hx (0 : Int32) (hb hby at_169) rfl rfl ?_
        exact eRetN X26 hx (t := .boolean) Bd.returns (by simp) hlk (hb hby at_170) (by decide) (by decide) ⟨rfl, N26⟩
    · rw [if_neg c23]
      refine eIfN X22 hx (hb hby at_92) ((if0 _ _).trans (flt c23).1) rfl ?_
      refine eILoad X22 hx (hb hby at_95) rfl rfl ?_
      refine eIConst X22 hx (1 : Int32) (hb hby at_97) rfl rfl ?_
      refine eIcmpN X22 hx (hb hby at_98) (tlt (by decide)).2.2.2 rfl ?_
      refine eILoadN X22 hx (hb hby at_101) rfl rfl ?_
      show Ends p e below (PVW s 16 128 n0 (if p3 < (0 : Int32) then (if (fHo_0 [(fCell_0 p2), (fCell_0 p3)]) = (1 : Int32) then (1 : Int32) else (0 : Int32)) else (if (fHo_0 [(fCell_0 p2), (fCell_0 p3)]) = (0 : Int32) then (1 : Int32) else (0 : Int32)))) T22 m 102 #[.val (.int p1), .val (.int p2), .val (.int p3), .val (.int p4), .val (.int p5), .val (.int p6), .val (.int (2 : Int32)), .val (.ref ad18), .unset, .unset] [(.int p3)]
      by_cases c28 : p3 < (0 : Int32)
      · rw [if_pos c28]
        refine eIfY X22 hx (hb hby at_102) ((if0 _ _).trans (tlt c28).1) (by decide) (pc' := 137) rfl ?_
        refine eIConst X22 hx (1 : Int32) (hb hby at_137) rfl rfl ?_
        refine eGoto X22 hx (hb hby at_138) (by decide) (pc' := 142) rfl ?_
        refine eIStore X22 hx (hb hby at_142) (L' := #[.val (.int p1), .val (.int p2), .val (.int p3), .val (.int p4), .val (.int p5), .val (.int p6), .val (.int (2 : Int32)), .val (.ref ad18), .val (.int (1 : Int32)), .unset]) rfl rfl ?_
        refine eNewO X22 hx hZ hown (hw _ (List.mem_of_getElem? (i := 1) rfl)) (hw _ (List.mem_of_getElem? (i := 2) rfl)) (hw _ (List.mem_of_getElem? (i := 3) rfl)) e22 (hb hby at_144) (by decide) (by decide) rfl (fun T29 h29 ad29 g29 X29 e29 E29 A29 D29 => ?_)
        have ne_ad18_ad29 : ad18 ≠ ad29 := Nat.ne_of_lt (Nat.lt_of_lt_of_le A18.lt (Nat.le_of_eq g29.symm))
        have A18 := A18.ext E29
        have Q18 := Q18.ext E29
        have Z29 := Nat.le_trans Z22 E29.1
        have ge_ad29 : n0 ≤ ad29 := Nat.le_trans Z22 (Nat.le_of_eq g29.symm)
        have F29__tokens : Fld Z h29 ad29 "com/example/workflow_soundness/workflowsoundness/model/OmegaMarking" "_tokens" "[I" .null := D29 (Or.inr (hw _ (List.mem_of_getElem? (i := 11) rfl))) (ty := (.array .int)) (by decide)
        have F29__hash : Fld Z h29 ad29 "com/example/workflow_soundness/workflowsoundness/model/OmegaMarking" "_hash" "I" (.int (0 : Int32)) := D29 (Or.inr (hw _ (List.mem_of_getElem? (i := 17) rfl))) (ty := .int) (by decide)
        refine eDup X29 hx (hb hby at_147) rfl rfl ?_
        refine eALoad X29 hx (hb hby at_148) rfl rfl rfl ?_
        refine eCallI X29 hx hZ (y := (⟨"com/example/workflow_soundness/workflowsoundness/model/OmegaMarking", "<init>", "([I)V"⟩ : MethodName)) (a := ad29) rfl hown (hw _ (List.mem_of_getElem? (i := 4) rfl)) (hw _ (List.mem_of_getElem? (i := 5) rfl)) (hw _ (List.mem_of_getElem? (i := 3) rfl)) (hw _ (List.mem_of_getElem? (i := 6) rfl)) (by decide) e29 (rm1g l Z a0 hw [] ad29 ad18 (0 : Int32) [(fCell_0 p2), (fCell_0 p3)] h29 n0 Z29 A29 F29__tokens F29__hash Q18 A18 ge_ad29 (Ne.symm ne_ad18_ad29) (Nat.le_of_ble_eq_true rfl) (Nat.le_of_ble_eq_true rfl)) (argsL := [(.ref ad18)]) (rest := [(.ref ad29)]) (lenOf own_pd3 rfl) rfl (by rw [hml]; rfl) 1 (by exact Nat.le_refl _) (by decide) (by decide) (by decide) (by decide) (hb hby at_150) rfl (fun v30 T30 L30 q30 (X30 : Stand _ _ _ _ _ _ _ _ _ _ T30 _ 2 4) => ?_)
        obtain ⟨N30', K30', rfl, R30_0, R30_1, R30_2, R30_3, R30_4⟩ := q30
        have N30 := Fr.app N22 N30'
        have A18 := A18.keep K30' (ninS ne_ad18_ad29 nin0)
        have Q18 := Q18.keep K30'
        have A29 := A29.keep K30'
        have A29 := R30_0
        have F29__tokens : Fld Z T30.heap ad29 "com/example/workflow_soundness/workflowsoundness/model/OmegaMarking" "_tokens" "[I" (.ref ad18) := R30_1
        have F29__hash : Fld Z T30.heap ad29 "com/example/workflow_soundness/workflowsoundness/model/OmegaMarking" "_hash" "I" (.int (fIng_0 [(fCell_0 p2), (fCell_0 p3)])) := R30_2
        have Q18 := R30_3
        have A18 : Ar Z T30.heap ad18 .int [(fCell_0 p2), (fCell_0 p3)] := R30_4
        have Z30 := Nat.le_trans Z29 K30'.1
        show Ends p e below _ T30 m 153 #[.val (.int p1), .val (.int p2), .val (.int p3), .val (.int p4), .val (.int p5), .val (.int p6), .val (.int (2 : Int32)), .val (.ref ad18), .val (.int (1 : Int32)), .unset] [(.ref ad29)]
        refine eAStore X30 hx (hb hby at_153) rfl (L' := #[.val (.int p1), .val (.int p2), .val (.int p3), .val (.int p4), .val (.int p5), .val (.int p6), .val (.int (2 : Int32)), .val (.ref ad18), .val (.int (1 : Int32)), .val (.ref ad29)]) rfl rfl ?_
        refine eALoad X30 hx (hb hby at_155) rfl rfl rfl ?_
        refine eCallV X30 hx hZ (y := (⟨"com/example/workflow_soundness/workflowsoundness/model/OmegaMarking", "holdsOmega", "()Z"⟩ : MethodName)) hown (hw _ (List.mem_of_getElem? (i := 18) rfl)) (hw _ (List.mem_of_getElem? (i := 19) rfl)) (hw _ (List.mem_of_getElem? (i := 21) rfl)) (hw _ (List.mem_of_getElem? (i := 20) rfl)) (hw _ (List.mem_of_getElem? (i := 3) rfl)) (hw _ (List.mem_of_getElem? (i := 22) rfl)) (by decide) rfl A29 (rm4 l Z a0 hw [] ad29 ad18 [(fCell_0 p2), (fCell_0 p3)] T30.heap n0 Z30 F29__tokens A18 (Nat.le_of_ble_eq_true rfl)) (argsL := []) (rest := []) (lenOf own_pd4 rfl) rfl (by rw [hml]; rfl) 0 (by exact Nat.le_refl _) (by decide) (by decide) (by decide) (by decide) (hb hby at_157) rfl (fun v31 T31 L31 q31 (X31 : Stand _ _ _ _ _ _ _ _ _ _ T31 _ 2 4) => ?_)
        obtain ⟨N31', e31, rfl⟩ := q31
        have N31 := Fr.app N30 N31'
        show Ends p e below _ T31 m 160 #[.val (.int p1), .val (.int p2), .val (.int p3), .val (.int p4), .val (.int p5), .val (.int p6), .val (.int (2 : Int32)), .val (.ref ad18), .val (.int (1 : Int32)), .val (.ref ad29)] [(.int (fHo_0 [(fCell_0 p2), (fCell_0 p3)]))]
        refine eILoad X31 hx (hb hby at_160) rfl rfl ?_
        show Ends p e below (PVW s 16 128 n0 (if (fHo_0 [(fCell_0 p2), (fCell_0 p3)]) = (1 : Int32) then (1 : Int32) else (0 : Int32))) T31 m 162 #[.val (.int p1), .val (.int p2), .val (.int p3), .val (.int p4), .val (.int p5), .val (.int p6), .val (.int (2 : Int32)), .val (.ref ad18), .val (.int (1 : Int32)), .val (.ref ad29)] [(.int (1 : Int32)), (.int (fHo_0 [(fCell_0 p2), (fCell_0 p3)]))]
        by_cases c32 : (fHo_0 [(fCell_0 p2), (fCell_0 p3)]) = (1 : Int32)
        · rw [if_pos c32]
          refine eIcmpN X31 hx (hb hby at_162) (teq c32).2 rfl ?_
          refine eIConst X31 hx (1 : Int32) (hb hby at_165) rfl rfl ?_
          refine eGoto X31 hx (hb hby at_166) (by decide) (pc' := 170) rfl ?_
          exact eRetN X31 hx (t := .boolean) Bd.returns (by simp) hlk (hb hby at_170) (by decide) (by decide) ⟨rfl, N31⟩
        · rw [if_neg c32]
          refine eIcmpY X31 hx (hb hby at_162) (feq c32).2 (by decide) (pc' := 169) rfl ?_
          refine eIConst X31 hx (0 : Int32) (hb hby at_169) rfl rfl ?_
          exact eRetN X31 hx (t := .boolean) Bd.returns (by simp) hlk (hb hby at_170) (by decide) (by decide) ⟨rfl, N31⟩
      · rw [if_neg c28]
        refine eIfN X22 hx (hb hby at_102) ((if0 _ _).trans (flt c28).1) rfl ?_
        refine eILoad X22 hx (hb hby at_105) rfl rfl ?_
        refine eIConst X22 hx (2 : Int32) (hb hby at_107) rfl rfl ?_
        refine eIcmpY X22 hx (hb hby at_108) (flt (by decide)).2.2.2 (by decide) (pc' := 115) rfl ?_
        refine eILoad X22 hx (hb hby at_115) rfl rfl ?_
        refine eIConst X22 hx (3 : Int32) (hb hby at_117) rfl rfl ?_
        refine eIcmpY X22 hx (hb hby at_118) (flt (by decide)).2.2.2 (by decide) (pc' := 126) rfl ?_
        refine eILoad X22 hx (hb hby at_126) rfl rfl ?_
        refine eIConst X22 hx (4 : Int32) (hb hby at_128) rfl rfl ?_
        refine eIcmpY X22 hx (hb hby at_129) (flt (by decide)).2.2.2 (by decide) (pc' := 141) rfl ?_
        refine eIConst X22 hx (0 : Int32) (hb hby at_141) rfl rfl ?_
        refine eIStore X22 hx (hb hby at_142) (L' := #[.val (.int p1), .val (.int p2), .val (.int p3), .val (.int p4), .val (.int p5), .val (.int p6), .val (.int (2 : Int32)), .val (.ref ad18), .val (.int (0 : Int32)), .unset]) rfl rfl ?_
        refine eNewO X22 hx hZ hown (hw _ (List.mem_of_getElem? (i := 1) rfl)) (hw _ (List.mem_of_getElem? (i := 2) rfl)) (hw _ (List.mem_of_getElem? (i := 3) rfl)) e22 (hb hby at_144) (by decide) (by decide) rfl (fun T33 h33 ad33 g33 X33 e33 E33 A33 D33 => ?_)
        have ne_ad18_ad33 : ad18 ≠ ad33 := Nat.ne_of_lt (Nat.lt_of_lt_of_le A18.lt (Nat.le_of_eq g33.symm))
        have A18 := A18.ext E33
        have Q18 := Q18.ext E33
        have Z33 := Nat.le_trans Z22 E33.1
        have ge_ad33 : n0 ≤ ad33 := Nat.le_trans Z22 (Nat.le_of_eq g33.symm)
        have F33__tokens : Fld Z h33 ad33 "com/example/workflow_soundness/workflowsoundness/model/OmegaMarking" "_tokens" "[I" .null := D33 (Or.inr (hw _ (List.mem_of_getElem? (i := 11) rfl))) (ty := (.array .int)) (by decide)
        have F33__hash : Fld Z h33 ad33 "com/example/workflow_soundness/workflowsoundness/model/OmegaMarking" "_hash" "I" (.int (0 : Int32)) := D33 (Or.inr (hw _ (List.mem_of_getElem? (i := 17) rfl))) (ty := .int) (by decide)
        refine eDup X33 hx (hb hby at_147) rfl rfl ?_
        refine eALoad X33 hx (hb hby at_148) rfl rfl rfl ?_
        refine eCallI X33 hx hZ (y := (⟨"com/example/workflow_soundness/workflowsoundness/model/OmegaMarking", "<init>", "([I)V"⟩ : MethodName)) (a := ad33) rfl hown (hw _ (List.mem_of_getElem? (i := 4) rfl)) (hw _ (List.mem_of_getElem? (i := 5) rfl)) (hw _ (List.mem_of_getElem? (i := 3) rfl)) (hw _ (List.mem_of_getElem? (i := 6) rfl)) (by decide) e33 (rm1g l Z a0 hw [] ad33 ad18 (0 : Int32) [(fCell_0 p2), (fCell_0 p3)] h33 n0 Z33 A33 F33__tokens F33__hash Q18 A18 ge_ad33 (Ne.symm ne_ad18_ad33) (Nat.le_of_ble_eq_true rfl) (Nat.le_of_ble_eq_true rfl)) (argsL := [(.ref ad18)]) (rest := [(.ref ad33)]) (lenOf own_pd3 rfl) rfl (by rw [hml]; rfl) 1 (by exact Nat.le_refl _) (by decide) (by decide) (by decide) (by decide) (hb hby at_150) rfl (fun v34 T34 L34 q34 (X34 : Stand _ _ _ _ _ _ _ _ _ _ T34 _ 2 4) => ?_)
        obtain ⟨N34', K34', rfl, R34_0, R34_1, R34_2, R34_3, R34_4⟩ := q34
        have N34 := Fr.app N22 N34'
        have A18 := A18.keep K34' (ninS ne_ad18_ad33 nin0)
        have Q18 := Q18.keep K34'
        have A33 := A33.keep K34'
        have A33 := R34_0
        have F33__tokens : Fld Z T34.heap ad33 "com/example/workflow_soundness/workflowsoundness/model/OmegaMarking" "_tokens" "[I" (.ref ad18) := R34_1
        have F33__hash : Fld Z T34.heap ad33 "com/example/workflow_soundness/workflowsoundness/model/OmegaMarking" "_hash" "I" (.int (fIng_0 [(fCell_0 p2), (fCell_0 p3)])) := R34_2
        have Q18 := R34_3
        have A18 : Ar Z T34.heap ad18 .int [(fCell_0 p2), (fCell_0 p3)] := R34_4
        have Z34 := Nat.le_trans Z33 K34'.1
        show Ends p e below _ T34 m 153 #[.val (.int p1), .val (.int p2), .val (.int p3), .val (.int p4), .val (.int p5), .val (.int p6), .val (.int (2 : Int32)), .val (.ref ad18), .val (.int (0 : Int32)), .unset] [(.ref ad33)]
        refine eAStore X34 hx (hb hby at_153) rfl (L' := #[.val (.int p1), .val (.int p2), .val (.int p3), .val (.int p4), .val (.int p5), .val (.int p6), .val (.int (2 : Int32)), .val (.ref ad18), .val (.int (0 : Int32)), .val (.ref ad33)]) rfl rfl ?_
        refine eALoad X34 hx (hb hby at_155) rfl rfl rfl ?_
        refine eCallV X34 hx hZ (y := (⟨"com/example/workflow_soundness/workflowsoundness/model/OmegaMarking", "holdsOmega", "()Z"⟩ : MethodName)) hown (hw _ (List.mem_of_getElem? (i := 18) rfl)) (hw _ (List.mem_of_getElem? (i := 19) rfl)) (hw _ (List.mem_of_getElem? (i := 21) rfl)) (hw _ (List.mem_of_getElem? (i := 20) rfl)) (hw _ (List.mem_of_getElem? (i := 3) rfl)) (hw _ (List.mem_of_getElem? (i := 22) rfl)) (by decide) rfl A33 (rm4 l Z a0 hw [] ad33 ad18 [(fCell_0 p2), (fCell_0 p3)] T34.heap n0 Z34 F33__tokens A18 (Nat.le_of_ble_eq_true rfl)) (argsL := []) (rest := []) (lenOf own_pd4 rfl) rfl (by rw [hml]; rfl) 0 (by exact Nat.le_refl _) (by decide) (by decide) (by decide) (by decide) (hb hby at_157) rfl (fun v35 T35 L35 q35 (X35 : Stand _ _ _ _ _ _ _ _ _ _ T35 _ 2 4) => ?_)
        obtain ⟨N35', e35, rfl⟩ := q35
        have N35 := Fr.app N34 N35'
        show Ends p e below _ T35 m 160 #[.val (.int p1), .val (.int p2), .val (.int p3), .val (.int p4), .val (.int p5), .val (.int p6), .val (.int (2 : Int32)), .val (.ref ad18), .val (.int (0 : Int32)), .val (.ref ad33)] [(.int (fHo_0 [(fCell_0 p2), (fCell_0 p3)]))]
        refine eILoad X35 hx (hb hby at_160) rfl rfl ?_
        show Ends p e below (PVW s 16 128 n0 (if (fHo_0 [(fCell_0 p2), (fCell_0 p3)]) = (0 : Int32) then (1 : Int32) else (0 : Int32))) T35 m 162 #[.val (.int p1), .val (.int p2), .val (.int p3), .val (.int p4), .val (.int p5), .val (.int p6), .val (.int (2 : Int32)), .val (.ref ad18), .val (.int (0 : Int32)), .val (.ref ad33)] [(.int (0 : Int32)), (.int (fHo_0 [(fCell_0 p2), (fCell_0 p3)]))]
        by_cases c36 : (fHo_0 [(fCell_0 p2), (fCell_0 p3)]) = (0 : Int32)
        · rw [if_pos c36]
          refine eIcmpN X35 hx (hb hby at_162) (teq c36).2 rfl ?_
          refine eIConst X35 hx (1 : Int32) (hb hby at_165) rfl rfl ?_
          refine eGoto X35 hx (hb hby at_166) (by decide) (pc' := 170) rfl ?_
          exact eRetN X35 hx (t := .boolean) Bd.returns (by simp) hlk (hb hby at_170) (by decide) (by decide) ⟨rfl, N35⟩
        · rw [if_neg c36]
          refine eIcmpY X35 hx (hb hby at_162) (feq c36).2 (by decide) (pc' := 169) rfl ?_
          refine eIConst X35 hx (0 : Int32) (hb hby at_169) rfl rfl ?_
          exact eRetN X35 hx (t := .boolean) Bd.returns (by simp) hlk (hb hby at_170) (by decide) (by decide) ⟨rfl, N35⟩
  rw [if_neg hs136_2]
  by_cases hs136_3 : ((p1 &&& (7 : Int32)) % (6 : Int32)) = (3 : Int32)
  · rw [if_pos hs136_3, hs136_3]
    refine eILoad X0 hx (hb hby at_9) rfl rfl ?_
    refine eNewE X0 hx hZ rfl rfl (hw _ (List.mem_of_getElem? (i := 0) rfl)) e0 (hb hby at_11) (by decide) (cap := 3) (by decide) (by decide) (by decide) (by decide) "[I" (by decide) rfl (fun T37 h37 ad37 g37 X37 e37 E37 A37 Q37 => ?_)
    have Z37 := Nat.le_trans Z0 E37.1
    have ge_ad37 : n0 ≤ ad37 := Nat.le_trans Z0 (Nat.le_of_eq g37.symm)
    have A37 : Ar Z h37 ad37 .int [(0 : Int32), (0 : Int32), (0 : Int32)] := A37
    refine eAStore X37 hx (hb hby at_13) rfl (L' := #[.val (.int p1), .val (.int p2), .val (.int p3), .val (.int p4), .val (.int p5), .val (.int p6), .val (.int (3 : Int32)), .val (.ref ad37), .unset, .unset]) rfl rfl ?_
    refine eILoad X37 hx (hb hby at_15) rfl rfl ?_
    refine eIfN X37 hx (hb hby at_17) ((if0 _ _).trans (tlt (by decide)).2.2.2) rfl ?_
    refine eALoad X37 hx (hb hby at_20) rfl rfl rfl ?_
    refine eIConst X37 hx (0 : Int32) (hb hby at_22) rfl rfl ?_
    refine eILoadN X37 hx (hb hby at_23) rfl rfl ?_
    refine eCallS X37 hx hZ (y := (⟨"com/example/workflow_soundness/workflowsoundness/model/OmegaMarkingHoldsOmegaPinLaw", "cell", "(I)I"⟩ : MethodName)) hown (hw _ (List.mem_of_getElem? (i := 23) rfl)) (hw _ (List.mem_of_getElem? (i := 24) rfl)) (hw _ (List.mem_of_getElem? (i := 25) rfl)) (hw _ (List.mem_of_getElem? (i := 26) rfl)) (by decide) e37 (rm5 l Z a0 hw [] p2 h37 n0 Z37) (argsL := [(.int p2)]) (rest := [(.int (0 : Int32)), (.ref ad37)]) (lenOf own_pd5 rfl) rfl (by rw [hml]; rfl) 2 (by exact Nat.le_refl _) (by decide) (by decide) (by decide) (by decide) (hb hby at_24) rfl (fun v38 T38 L38 q38 (X38 : Stand _ _ _ _ _ _ _ _ _ _ T38 _ 1 3) => ?_)
    obtain ⟨rfl, N38', e38⟩ := q38
    have N38 := Fr.app N0 N38'
    show Ends p e below _ T38 m 27 #[.val (.int p1), .val (.int p2), .val (.int p3), .val (.int p4), .val (.int p5), .val (.int p6), .val (.int (3 : Int32)), .val (.ref ad37), .unset, .unset] [(.int (fCell_0 p2)), (.int (0 : Int32)), (.ref ad37)]
    refine eIAStore X38 hx hZ e38 A37 (inbL (n := 3) rfl (by decide)) (hb hby at_27) rfl (fun T39 h39 X39 e39 W39 B39 => ?_)
    have Q37 := Q37.wr W39
    have A37 : Ar Z h39 ad37 .int [(fCell_0 p2), (0 : Int32), (0 : Int32)] := B39
    have N39 := Fr.snoc X39 N38 ge_ad37
    have Z39 := Nat.le_trans Z37 (Keep.of_wr W39).1
    refine eILoad X39 hx (hb hby at_28) rfl rfl ?_
    refine eIConst X39 hx (1 : Int32) (hb hby at_30) rfl rfl ?_
    refine eIcmpN X39 hx (hb hby at_31) (tlt (by decide)).2.2.2 rfl ?_
    refine eALoad X39 hx (hb hby at_34) rfl rfl rfl ?_
    refine eIConst X39 hx (1 : Int32) (hb hby at_36) rfl rfl ?_
    refine eILoadN X39 hx (hb hby at_37) rfl rfl ?_
    refine eCallS X39 hx hZ (y := (⟨"com/example/workflow_soundness/workflowsoundness/model/OmegaMarkingHoldsOmegaPinLaw", "cell", "(I)I"⟩ : MethodName)) hown (hw _ (List.mem_of_getElem? (i := 23) rfl)) (hw _ (List.mem_of_getElem? (i := 24) rfl)) (hw _ (List.mem_of_getElem? (i := 25) rfl)) (hw _ (List.mem_of_getElem? (i := 26) rfl)) (by decide) e39 (rm5 l Z a0 hw [] p3 h39 n0 Z39) (argsL := [(.int p3)]) (rest := [(.int (1 : Int32)), (.ref ad37)]) (lenOf own_pd5 rfl) rfl (by rw [hml]; rfl) 2 (by exact Nat.le_refl _) (by decide) (by decide) (by decide) (by decide) (hb hby at_38) rfl (fun v40 T40 L40 q40 (X40 : Stand _ _ _ _ _ _ _ _ _ _ T40 _ 1 3) => ?_)
    obtain ⟨rfl, N40', e40⟩ := q40
    have N40 := Fr.app N39 N40'
    show Ends p e below _ T40 m 41 #[.val (.int p1), .val (.int p2), .val (.int p3), .val (.int p4), .val (.int p5), .val (.int p6), .val (.int (3 : Int32)), .val (.ref ad37), .unset, .unset] [(.int (fCell_0 p3)), (.int (1 : Int32)), (.ref ad37)]
    refine eIAStore X40 hx hZ e40 A37 (inbL (n := 3) rfl (by decide)) (hb hby at_41) rfl (fun T41 h41 X41 e41 W41 B41 => ?_)
    have Q37 := Q37.wr W41
    have A37 : Ar Z h41 ad37 .int [(fCell_0 p2), (fCell_0 p3), (0 : Int32)] := B41
    have N41 := Fr.snoc X41 N40 ge_ad37
    have Z41 := Nat.le_trans Z39 (Keep.of_wr W41).1
    refine eILoad X41 hx (hb hby at_42) rfl rfl ?_
    refine eIConst X41 hx (2 : Int32) (hb hby at_44) rfl rfl ?_
    refine eIcmpN X41 hx (hb hby at_45) (tlt (by decide)).2.2.2 rfl ?_
    refine eALoad X41 hx (hb hby at_48) rfl rfl rfl ?_
    refine eIConst X41 hx (2 : Int32) (hb hby at_50) rfl rfl ?_
    refine eILoadN X41 hx (hb hby at_51) rfl rfl ?_
    refine eCallS X41 hx hZ (y := (⟨"com/example/workflow_soundness/workflowsoundness/model/OmegaMarkingHoldsOmegaPinLaw", "cell", "(I)I"⟩ : MethodName)) hown (hw _ (List.mem_of_getElem? (i := 23) rfl)) (hw _ (List.mem_of_getElem? (i := 24) rfl)) (hw _ (List.mem_of_getElem? (i := 25) rfl)) (hw _ (List.mem_of_getElem? (i := 26) rfl)) (by decide) e41 (rm5 l Z a0 hw [] p4 h41 n0 Z41) (argsL := [(.int p4)]) (rest := [(.int (2 : Int32)), (.ref ad37)]) (lenOf own_pd5 rfl) rfl (by rw [hml]; rfl) 2 (by exact Nat.le_refl _) (by decide) (by decide) (by decide) (by decide) (hb hby at_52) rfl (fun v42 T42 L42 q42 (X42 : Stand _ _ _ _ _ _ _ _ _ _ T42 _ 1 3) => ?_)
    obtain ⟨rfl, N42', e42⟩ := q42
    have N42 := Fr.app N41 N42'
    show Ends p e below _ T42 m 55 #[.val (.int p1), .val (.int p2), .val (.int p3), .val (.int p4), .val (.int p5), .val (.int p6), .val (.int (3 : Int32)), .val (.ref ad37), .unset, .unset] [(.int (fCell_0 p4)), (.int (2 : Int32)), (.ref ad37)]
    refine eIAStore X42 hx hZ e42 A37 (inbL (n := 3) rfl (by decide)) (hb hby at_55) rfl (fun T43 h43 X43 e43 W43 B43 => ?_)
    have Q37 := Q37.wr W43
    have A37 : Ar Z h43 ad37 .int [(fCell_0 p2), (fCell_0 p3), (fCell_0 p4)] := B43
    have N43 := Fr.snoc X43 N42 ge_ad37
    have Z43 := Nat.le_trans Z41 (Keep.of_wr W43).1
    refine eILoad X43 hx (hb hby at_56) rfl rfl ?_
    refine eIConst X43 hx (3 : Int32) (hb hby at_58) rfl rfl ?_
    refine eIcmpY X43 hx (hb hby at_59) (flt (by decide)).2.2.2 (by decide) (pc' := 71) rfl ?_
    refine eILoad X43 hx (hb hby at_71) rfl rfl ?_
    refine eIConst X43 hx (4 : Int32) (hb hby at_73) rfl rfl ?_
    refine eIcmpY X43 hx (hb hby at_74) (flt (by decide)).2.2.2 (by decide) (pc' := 86) rfl ?_
    refine eILoad X43 hx (hb hby at_86) rfl rfl ?_
    refine eIfN X43 hx (hb hby at_88) ((if0 _ _).trans (tlt (by decide)).2.2.2) rfl ?_
    refine eILoadN X43 hx (hb hby at_91) rfl rfl ?_
    show Ends p e below (PVW s 16 128 n0 (if p2 < (0 : Int32) then (if (fHo_0 [(fCell_0 p2), (fCell_0 p3), (fCell_0 p4)]) = (1 : Int32) then (1 : Int32) else (0 : Int32)) else (if p3 < (0 : Int32) then (if (fHo_0 [(fCell_0 p2), (fCell_0 p3), (fCell_0 p4)]) = (1 : Int32) then (1 : Int32) else (0 : Int32)) else (if p4 < (0 : Int32) then (if (fHo_0 [(fCell_0 p2), (fCell_0 p3), (fCell_0 p4)]) = (1 : Int32) then (1 : Int32) else (0 : Int32)) else (if (fHo_0 [(fCell_0 p2), (fCell_0 p3), (fCell_0 p4)]) = (0 : Int32) then (1 : Int32) else (0 : Int32)))))) T43 m 92 #[.val (.int p1), .val (.int p2), .val (.int p3), .val (.int p4), .val (.int p5), .val (.int p6), .val (.int (3 : Int32)), .val (.ref ad37), .unset, .unset] [(.int p2)]
    by_cases c44 : p2 < (0 : Int32)
    · rw [if_pos c44]
      refine eIfY X43 hx (hb hby at_92) ((if0 _ _).trans (tlt c44).1) (by decide) (pc' := 137) rfl ?_
      refine eIConst X43 hx (1 : Int32) (hb hby at_137) rfl rfl ?_
      refine eGoto X43 hx (hb hby at_138) (by decide) (pc' := 142) rfl ?_
      refine eIStore X43 hx (hb hby at_142) (L' := #[.val (.int p1), .val (.int p2), .val (.int p3), .val (.int p4), .val (.int p5), .val (.int p6), .val (.int (3 : Int32)), .val (.ref ad37), .val (.int (1 : Int32)), .unset]) rfl rfl ?_
      refine eNewO X43 hx hZ hown (hw _ (List.mem_of_getElem? (i := 1) rfl)) (hw _ (List.mem_of_getElem? (i := 2) rfl)) (hw _ (List.mem_of_getElem? (i := 3) rfl)) e43 (hb hby at_144) (by decide) (by decide) rfl (fun T45 h45 ad45 g45 X45 e45 E45 A45 D45 => ?_)
      have ne_ad37_ad45 : ad37 ≠ ad45 := Nat.ne_of_lt (Nat.lt_of_lt_of_le A37.lt (Nat.le_of_eq g45.symm))
      have A37 := A37.ext E45
      have Q37 := Q37.ext E45
      have Z45 := Nat.le_trans Z43 E45.1
      have ge_ad45 : n0 ≤ ad45 := Nat.le_trans Z43 (Nat.le_of_eq g45.symm)
      have F45__tokens : Fld Z h45 ad45 "com/example/workflow_soundness/workflowsoundness/model/OmegaMarking" "_tokens" "[I" .null := D45 (Or.inr (hw _ (List.mem_of_getElem? (i := 11) rfl))) (ty := (.array .int)) (by decide)
      have F45__hash : Fld Z h45 ad45 "com/example/workflow_soundness/workflowsoundness/model/OmegaMarking" "_hash" "I" (.int (0 : Int32)) := D45 (Or.inr (hw _ (List.mem_of_getElem? (i := 17) rfl))) (ty := .int) (by decide)
      refine eDup X45 hx (hb hby at_147) rfl rfl ?_
      refine eALoad X45 hx (hb hby at_148) rfl rfl rfl ?_
      refine eCallI X45 hx hZ (y := (⟨"com/example/workflow_soundness/workflowsoundness/model/OmegaMarking", "<init>", "([I)V"⟩ : MethodName)) (a := ad45) rfl hown (hw _ (List.mem_of_getElem? (i := 4) rfl)) (hw _ (List.mem_of_getElem? (i := 5) rfl)) (hw _ (List.mem_of_getElem? (i := 3) rfl)) (hw _ (List.mem_of_getElem? (i := 6) rfl)) (by decide) e45 (rm1g l Z a0 hw [] ad45 ad37 (0 : Int32) [(fCell_0 p2), (fCell_0 p3), (fCell_0 p4)] h45 n0 Z45 A45 F45__tokens F45__hash Q37 A37 ge_ad45 (Ne.symm ne_ad37_ad45) (Nat.le_of_ble_eq_true rfl) (Nat.le_of_ble_eq_true rfl)) (argsL := [(.ref ad37)]) (rest := [(.ref ad45)]) (lenOf own_pd3 rfl) rfl (by rw [hml]; rfl) 1 (by exact Nat.le_refl _) (by decide) (by decide) (by decide) (by decide) (hb hby at_150) rfl (fun v46 T46 L46 q46 (X46 : Stand _ _ _ _ _ _ _ _ _ _ T46 _ 2 5) => ?_)
      obtain ⟨N46', K46', rfl, R46_0, R46_1, R46_2, R46_3, R46_4⟩ := q46
      have N46 := Fr.app N43 N46'
      have A37 := A37.keep K46' (ninS ne_ad37_ad45 nin0)
      have Q37 := Q37.keep K46'
      have A45 := A45.keep K46'
      have A45 := R46_0
      have F45__tokens : Fld Z T46.heap ad45 "com/example/workflow_soundness/workflowsoundness/model/OmegaMarking" "_tokens" "[I" (.ref ad37) := R46_1
      have F45__hash : Fld Z T46.heap ad45 "com/example/workflow_soundness/workflowsoundness/model/OmegaMarking" "_hash" "I" (.int (fIng_0 [(fCell_0 p2), (fCell_0 p3), (fCell_0 p4)])) := R46_2
      have Q37 := R46_3
      have A37 : Ar Z T46.heap ad37 .int [(fCell_0 p2), (fCell_0 p3), (fCell_0 p4)] := R46_4
      have Z46 := Nat.le_trans Z45 K46'.1
      show Ends p e below _ T46 m 153 #[.val (.int p1), .val (.int p2), .val (.int p3), .val (.int p4), .val (.int p5), .val (.int p6), .val (.int (3 : Int32)), .val (.ref ad37), .val (.int (1 : Int32)), .unset] [(.ref ad45)]
      refine eAStore X46 hx (hb hby at_153) rfl (L' := #[.val (.int p1), .val (.int p2), .val (.int p3), .val (.int p4), .val (.int p5), .val (.int p6), .val (.int (3 : Int32)), .val (.ref ad37), .val (.int (1 : Int32)), .val (.ref ad45)]) rfl rfl ?_
      refine eALoad X46 hx (hb hby at_155) rfl rfl rfl ?_
      refine eCallV X46 hx hZ (y := (⟨"com/example/workflow_soundness/workflowsoundness/model/OmegaMarking", "holdsOmega", "()Z"⟩ : MethodName)) hown (hw _ (List.mem_of_getElem? (i := 18) rfl)) (hw _ (List.mem_of_getElem? (i := 19) rfl)) (hw _ (List.mem_of_getElem? (i := 21) rfl)) (hw _ (List.mem_of_getElem? (i := 20) rfl)) (hw _ (List.mem_of_getElem? (i := 3) rfl)) (hw _ (List.mem_of_getElem? (i := 22) rfl)) (by decide) rfl A45 (rm4 l Z a0 hw [] ad45 ad37 [(fCell_0 p2), (fCell_0 p3), (fCell_0 p4)] T46.heap n0 Z46 F45__tokens A37 (Nat.le_of_ble_eq_true rfl)) (argsL := []) (rest := []) (lenOf own_pd4 rfl) rfl (by rw [hml]; rfl) 0 (by exact Nat.le_refl _) (by decide) (by decide) (by decide) (by decide) (hb hby at_157) rfl (fun v47 T47 L47 q47 (X47 : Stand _ _ _ _ _ _ _ _ _ _ T47 _ 2 5) => ?_)
      obtain ⟨N47', e47, rfl⟩ := q47
      have N47 := Fr.app N46 N47'
      show Ends p e below _ T47 m 160 #[.val (.int p1), .val (.int p2), .val (.int p3), .val (.int p4), .val (.int p5), .val (.int p6), .val (.int (3 : Int32)), .val (.ref ad37), .val (.int (1 : Int32)), .val (.ref ad45)] [(.int (fHo_0 [(fCell_0 p2), (fCell_0 p3), (fCell_0 p4)]))]
      refine eILoad X47 hx (hb hby at_160) rfl rfl ?_
      show Ends p e below (PVW s 16 128 n0 (if (fHo_0 [(fCell_0 p2), (fCell_0 p3), (fCell_0 p4)]) = (1 : Int32) then (1 : Int32) else (0 : Int32))) T47 m 162 #[.val (.int p1), .val (.int p2), .val (.int p3), .val (.int p4), .val (.int p5), .val (.int p6), .val (.int (3 : Int32)), .val (.ref ad37), .val (.int (1 : Int32)), .val (.ref ad45)] [(.int (1 : Int32)), (.int (fHo_0 [(fCell_0 p2), (fCell_0 p3), (fCell_0 p4)]))]
      by_cases c48 : (fHo_0 [(fCell_0 p2), (fCell_0 p3), (fCell_0 p4)]) = (1 : Int32)
      · rw [if_pos c48]
        refine eIcmpN X47 hx (hb hby at_162) (teq c48).2 rfl ?_
        refine eIConst X47 hx (1 : Int32) (hb hby at_165) rfl rfl ?_
        refine eGoto X47 hx (hb hby at_166) (by decide) (pc' := 170) rfl ?_
        exact eRetN X47 hx (t := .boolean) Bd.returns (by simp) hlk (hb hby at_170) (by decide) (by decide) ⟨rfl, N47⟩
      · rw [if_neg c48]
        refine eIcmpY X47 hx (hb hby at_162) (feq c48).2 (by decide) (pc' := 169) rfl ?_
        refine eIConst X47 hx (0 : Int32) (hb hby at_169) rfl rfl ?_
        exact eRetN X47 hx (t := .boolean) Bd.returns (by simp) hlk (hb hby at_170) (by decide) (by decide) ⟨rfl, N47⟩
    · rw [if_neg c44]
      refine eIfN X43 hx (hb hby at_92) ((if0 _ _).trans (flt c44).1) rfl ?_
      refine eILoad X43 hx (hb hby at_95) rfl rfl ?_
      refine eIConst X43 hx (1 : Int32) (hb hby at_97) rfl rfl ?_
      refine eIcmpN X43 hx (hb hby at_98) (tlt (by decide)).2.2.2 rfl ?_
      refine eILoadN X43 hx (hb hby at_101) rfl rfl ?_
      show Ends p e below (PVW s 16 128 n0 (if p3 < (0 : Int32) then (if (fHo_0 [(fCell_0 p2), (fCell_0 p3), (fCell_0 p4)]) = (1 : Int32) then (1 : Int32) else (0 : Int32)) else (if p4 < (0 : Int32) then (if (fHo_0 [(fCell_0 p2), (fCell_0 p3), (fCell_0 p4)]) = (1 : Int32) then (1 : Int32) else (0 : Int32)) else (if (fHo_0 [(fCell_0 p2), (fCell_0 p3), (fCell_0 p4)]) = (0 : Int32) then (1 : Int32) else (0 : Int32))))) T43 m 102 #[.val (.int p1), .val (.int p2), .val (.int p3), .val (.int p4), .val (.int p5), .val (.int p6), .val (.int (3 : Int32)), .val (.ref ad37), .unset, .unset] [(.int p3)]
      by_cases c49 : p3 < (0 : Int32)
      · rw [if_pos c49]
        refine eIfY X43 hx (hb hby at_102) ((if0 _ _).trans (tlt c49).1) (by decide) (pc' := 137) rfl ?_
        refine eIConst X43 hx (1 : Int32) (hb hby at_137) rfl rfl ?_
        refine eGoto X43 hx (hb hby at_138) (by decide) (pc' := 142) rfl ?_
        refine eIStore X43 hx (hb hby at_142) (L' := #[.val (.int p1), .val (.int p2), .val (.int p3), .val (.int p4), .val (.int p5), .val (.int p6), .val (.int (3 : Int32)), .val (.ref ad37), .val (.int (1 : Int32)), .unset]) rfl rfl ?_
        refine eNewO X43 hx hZ hown (hw _ (List.mem_of_getElem? (i := 1) rfl)) (hw _ (List.mem_of_getElem? (i := 2) rfl)) (hw _ (List.mem_of_getElem? (i := 3) rfl)) e43 (hb hby at_144) (by decide) (by decide) rfl (fun T50 h50 ad50 g50 X50 e50 E50 A50 D50 => ?_)
        have ne_ad37_ad50 : ad37 ≠ ad50 := Nat.ne_of_lt (Nat.lt_of_lt_of_le A37.lt (Nat.le_of_eq g50.symm))
        have A37 := A37.ext E50
        have Q37 := Q37.ext E50
        have Z50 := Nat.le_trans Z43 E50.1
        have ge_ad50 : n0 ≤ ad50 := Nat.le_trans Z43 (Nat.le_of_eq g50.symm)
        have F50__tokens : Fld Z h50 ad50 "com/example/workflow_soundness/workflowsoundness/model/OmegaMarking" "_tokens" "[I" .null := D50 (Or.inr (hw _ (List.mem_of_getElem? (i := 11) rfl))) (ty := (.array .int)) (by decide)
        have F50__hash : Fld Z h50 ad50 "com/example/workflow_soundness/workflowsoundness/model/OmegaMarking" "_hash" "I" (.int (0 : Int32)) := D50 (Or.inr (hw _ (List.mem_of_getElem? (i := 17) rfl))) (ty := .int) (by decide)
        refine eDup X50 hx (hb hby at_147) rfl rfl ?_
        refine eALoad X50 hx (hb hby at_148) rfl rfl rfl ?_
        refine eCallI X50 hx hZ (y := (⟨"com/example/workflow_soundness/workflowsoundness/model/OmegaMarking", "<init>", "([I)V"⟩ : MethodName)) (a := ad50) rfl hown (hw _ (List.mem_of_getElem? (i := 4) rfl)) (hw _ (List.mem_of_getElem? (i := 5) rfl)) (hw _ (List.mem_of_getElem? (i := 3) rfl)) (hw _ (List.mem_of_getElem? (i := 6) rfl)) (by decide) e50 (rm1g l Z a0 hw [] ad50 ad37 (0 : Int32) [(fCell_0 p2), (fCell_0 p3), (fCell_0 p4)] h50 n0 Z50 A50 F50__tokens F50__hash Q37 A37 ge_ad50 (Ne.symm ne_ad37_ad50) (Nat.le_of_ble_eq_true rfl) (Nat.le_of_ble_eq_true rfl)) (argsL := [(.ref ad37)]) (rest := [(.ref ad50)]) (lenOf own_pd3 rfl) rfl (by rw [hml]; rfl) 1 (by exact Nat.le_refl _) (by decide) (by decide) (by decide) (by decide) (hb hby at_150) rfl (fun v51 T51 L51 q51 (X51 : Stand _ _ _ _ _ _ _ _ _ _ T51 _ 2 5) => ?_)
        obtain ⟨N51', K51', rfl, R51_0, R51_1, R51_2, R51_3, R51_4⟩ := q51
        have N51 := Fr.app N43 N51'
        have A37 := A37.keep K51' (ninS ne_ad37_ad50 nin0)
        have Q37 := Q37.keep K51'
        have A50 := A50.keep K51'
        have A50 := R51_0
        have F50__tokens : Fld Z T51.heap ad50 "com/example/workflow_soundness/workflowsoundness/model/OmegaMarking" "_tokens" "[I" (.ref ad37) := R51_1
        have F50__hash : Fld Z T51.heap ad50 "com/example/workflow_soundness/workflowsoundness/model/OmegaMarking" "_hash" "I" (.int (fIng_0 [(fCell_0 p2), (fCell_0 p3), (fCell_0 p4)])) := R51_2
        have Q37 := R51_3
        have A37 : Ar Z T51.heap ad37 .int [(fCell_0 p2), (fCell_0 p3), (fCell_0 p4)] := R51_4
        have Z51 := Nat.le_trans Z50 K51'.1
        show Ends p e below _ T51 m 153 #[.val (.int p1), .val (.int p2), .val (.int p3), .val (.int p4), .val (.int p5), .val (.int p6), .val (.int (3 : Int32)), .val (.ref ad37), .val (.int (1 : Int32)), .unset] [(.ref ad50)]
        refine eAStore X51 hx (hb hby at_153) rfl (L' := #[.val (.int p1), .val (.int p2), .val (.int p3), .val (.int p4), .val (.int p5), .val (.int p6), .val (.int (3 : Int32)), .val (.ref ad37), .val (.int (1 : Int32)), .val (.ref ad50)]) rfl rfl ?_
        refine eALoad X51 hx (hb hby at_155) rfl rfl rfl ?_
        refine eCallV X51 hx hZ (y := (⟨"com/example/workflow_soundness/workflowsoundness/model/OmegaMarking", "holdsOmega", "()Z"⟩ : MethodName)) hown (hw _ (List.mem_of_getElem? (i := 18) rfl)) (hw _ (List.mem_of_getElem? (i := 19) rfl)) (hw _ (List.mem_of_getElem? (i := 21) rfl)) (hw _ (List.mem_of_getElem? (i := 20) rfl)) (hw _ (List.mem_of_getElem? (i := 3) rfl)) (hw _ (List.mem_of_getElem? (i := 22) rfl)) (by decide) rfl A50 (rm4 l Z a0 hw [] ad50 ad37 [(fCell_0 p2), (fCell_0 p3), (fCell_0 p4)] T51.heap n0 Z51 F50__tokens A37 (Nat.le_of_ble_eq_true rfl)) (argsL := []) (rest := []) (lenOf own_pd4 rfl) rfl (by rw [hml]; rfl) 0 (by exact Nat.le_refl _) (by decide) (by decide) (by decide) (by decide) (hb hby at_157) rfl (fun v52 T52 L52 q52 (X52 : Stand _ _ _ _ _ _ _ _ _ _ T52 _ 2 5) => ?_)
        obtain ⟨N52', e52, rfl⟩ := q52
        have N52 := Fr.app N51 N52'
        show Ends p e below _ T52 m 160 #[.val (.int p1), .val (.int p2), .val (.int p3), .val (.int p4), .val (.int p5), .val (.int p6), .val (.int (3 : Int32)), .val (.ref ad37), .val (.int (1 : Int32)), .val (.ref ad50)] [(.int (fHo_0 [(fCell_0 p2), (fCell_0 p3), (fCell_0 p4)]))]
        refine eILoad X52 hx (hb hby at_160) rfl rfl ?_
        show Ends p e below (PVW s 16 128 n0 (if (fHo_0 [(fCell_0 p2), (fCell_0 p3), (fCell_0 p4)]) = (1 : Int32) then (1 : Int32) else (0 : Int32))) T52 m 162 #[.val (.int p1), .val (.int p2), .val (.int p3), .val (.int p4), .val (.int p5), .val (.int p6), .val (.int (3 : Int32)), .val (.ref ad37), .val (.int (1 : Int32)), .val (.ref ad50)] [(.int (1 : Int32)), (.int (fHo_0 [(fCell_0 p2), (fCell_0 p3), (fCell_0 p4)]))]
        by_cases c53 : (fHo_0 [(fCell_0 p2), (fCell_0 p3), (fCell_0 p4)]) = (1 : Int32)
        · rw [if_pos c53]
          refine eIcmpN X52 hx (hb hby at_162) (teq c53).2 rfl ?_
          refine eIConst X52 hx (1 : Int32) (hb hby at_165) rfl rfl ?_
          refine eGoto X52 hx (hb hby at_166) (by decide) (pc' := 170) rfl ?_
          exact eRetN X52 hx (t := .boolean) Bd.returns (by simp) hlk (hb hby at_170) (by decide) (by decide) ⟨rfl, N52⟩
        · rw [if_neg c53]
          refine eIcmpY X52 hx (hb hby at_162) (feq c53).2 (by decide) (pc' := 169) rfl ?_
          refine eIConst X52 hx (0 : Int32) (hb hby at_169) rfl rfl ?_
          exact eRetN X52 hx (t := .boolean) Bd.returns (by simp) hlk (hb hby at_170) (by decide) (by decide) ⟨rfl, N52⟩
      · rw [if_neg c49]
        refine eIfN X43 hx (hb hby at_102) ((if0 _ _).trans (flt c49).1) rfl ?_
        refine eILoad X43 hx (hb hby at_105) rfl rfl ?_
        refine eIConst X43 hx (2 : Int32) (hb hby at_107) rfl rfl ?_
        refine eIcmpN X43 hx (hb hby at_108) (tlt (by decide)).2.2.2 rfl ?_
        refine eILoadN X43 hx (hb hby at_111) rfl rfl ?_
        show Ends p e below (PVW s 16 128 n0 (if p4 < (0 : Int32) then (if (fHo_0 [(fCell_0 p2), (fCell_0 p3), (fCell_0 p4)]) = (1 : Int32) then (1 : Int32) else (0 : Int32)) else (if (fHo_0 [(fCell_0 p2), (fCell_0 p3), (fCell_0 p4)]) = (0 : Int32) then (1 : Int32) else (0 : Int32)))) T43 m 112 #[.val (.int p1), .val (.int p2), .val (.int p3), .val (.int p4), .val (.int p5), .val (.int p6), .val (.int (3 : Int32)), .val (.ref ad37), .unset, .unset] [(.int p4)]
        by_cases c54 : p4 < (0 : Int32)
        · rw [if_pos c54]
          refine eIfY X43 hx (hb hby at_112) ((if0 _ _).trans (tlt c54).1) (by decide) (pc' := 137) rfl ?_
          refine eIConst X43 hx (1 : Int32) (hb hby at_137) rfl rfl ?_
          refine eGoto X43 hx (hb hby at_138) (by decide) (pc' := 142) rfl ?_
          refine eIStore X43 hx (hb hby at_142) (L' := #[.val (.int p1), .val (.int p2), .val (.int p3), .val (.int p4), .val (.int p5), .val (.int p6), .val (.int (3 : Int32)), .val (.ref ad37), .val (.int (1 : Int32)), .unset]) rfl rfl ?_
          refine eNewO X43 hx hZ hown (hw _ (List.mem_of_getElem? (i := 1) rfl)) (hw _ (List.mem_of_getElem? (i := 2) rfl)) (hw _ (List.mem_of_getElem? (i := 3) rfl)) e43 (hb hby at_144) (by decide) (by decide) rfl (fun T55 h55 ad55 g55 X55 e55 E55 A55 D55 => ?_)
          have ne_ad37_ad55 : ad37 ≠ ad55 := Nat.ne_of_lt (Nat.lt_of_lt_of_le A37.lt (Nat.le_of_eq g55.symm))
          have A37 := A37.ext E55
          have Q37 := Q37.ext E55
          have Z55 := Nat.le_trans Z43 E55.1
          have ge_ad55 : n0 ≤ ad55 := Nat.le_trans Z43 (Nat.le_of_eq g55.symm)
          have F55__tokens : Fld Z h55 ad55 "com/example/workflow_soundness/workflowsoundness/model/OmegaMarking" "_tokens" "[I" .null := D55 (Or.inr (hw _ (List.mem_of_getElem? (i := 11) rfl))) (ty := (.array .int)) (by decide)
          have F55__hash : Fld Z h55 ad55 "com/example/workflow_soundness/workflowsoundness/model/OmegaMarking" "_hash" "I" (.int (0 : Int32)) := D55 (Or.inr (hw _ (List.mem_of_getElem? (i := 17) rfl))) (ty := .int) (by decide)
          refine eDup X55 hx (hb hby at_147) rfl rfl ?_
          refine eALoad X55 hx (hb hby at_148) rfl rfl rfl ?_
          refine eCallI X55 hx hZ (y := (⟨"com/example/workflow_soundness/workflowsoundness/model/OmegaMarking", "<init>", "([I)V"⟩ : MethodName)) (a := ad55) rfl hown (hw _ (List.mem_of_getElem? (i := 4) rfl)) (hw _ (List.mem_of_getElem? (i := 5) rfl)) (hw _ (List.mem_of_getElem? (i := 3) rfl)) (hw _ (List.mem_of_getElem? (i := 6) rfl)) (by decide) e55 (rm1g l Z a0 hw [] ad55 ad37 (0 : Int32) [(fCell_0 p2), (fCell_0 p3), (fCell_0 p4)] h55 n0 Z55 A55 F55__tokens F55__hash Q37 A37 ge_ad55 (Ne.symm ne_ad37_ad55) (Nat.le_of_ble_eq_true rfl) (Nat.le_of_ble_eq_true rfl)) (argsL := [(.ref ad37)]) (rest := [(.ref ad55)]) (lenOf own_pd3 rfl) rfl (by rw [hml]; rfl) 1 (by exact Nat.le_refl _) (by decide) (by decide) (by decide) (by decide) (hb hby at_150) rfl (fun v56 T56 L56 q56 (X56 : Stand _ _ _ _ _ _ _ _ _ _ T56 _ 2 5) => ?_)
          obtain ⟨N56', K56', rfl, R56_0, R56_1, R56_2, R56_3, R56_4⟩ := q56
          have N56 := Fr.app N43 N56'
          have A37 := A37.keep K56' (ninS ne_ad37_ad55 nin0)
          have Q37 := Q37.keep K56'
          have A55 := A55.keep K56'
          have A55 := R56_0
          have F55__tokens : Fld Z T56.heap ad55 "com/example/workflow_soundness/workflowsoundness/model/OmegaMarking" "_tokens" "[I" (.ref ad37) := R56_1
          have F55__hash : Fld Z T56.heap ad55 "com/example/workflow_soundness/workflowsoundness/model/OmegaMarking" "_hash" "I" (.int (fIng_0 [(fCell_0 p2), (fCell_0 p3), (fCell_0 p4)])) := R56_2
          have Q37 := R56_3
          have A37 : Ar Z T56.heap ad37 .int [(fCell_0 p2), (fCell_0 p3), (fCell_0 p4)] := R56_4
          have Z56 := Nat.le_trans Z55 K56'.1
          show Ends p e below _ T56 m 153 #[.val (.int p1), .val (.int p2), .val (.int p3), .val (.int p4), .val (.int p5), .val (.int p6), .val (.int (3 : Int32)), .val (.ref ad37), .val (.int (1 : Int32)), .unset] [(.ref ad55)]
          refine eAStore X56 hx (hb hby at_153) rfl (L' := #[.val (.int p1), .val (.int p2), .val (.int p3), .val (.int p4), .val (.int p5), .val (.int p6), .val (.int (3 : Int32)), .val (.ref ad37), .val (.int (1 : Int32)), .val (.ref ad55)]) rfl rfl ?_
          refine eALoad X56 hx (hb hby at_155) rfl rfl rfl ?_
          refine eCallV X56 hx hZ (y := (⟨"com/example/workflow_soundness/workflowsoundness/model/OmegaMarking", "holdsOmega", "()Z"⟩ : MethodName)) hown (hw _ (List.mem_of_getElem? (i := 18) rfl)) (hw _ (List.mem_of_getElem? (i := 19) rfl)) (hw _ (List.mem_of_getElem? (i := 21) rfl)) (hw _ (List.mem_of_getElem? (i := 20) rfl)) (hw _ (List.mem_of_getElem? (i := 3) rfl)) (hw _ (List.mem_of_getElem? (i := 22) rfl)) (by decide) rfl A55 (rm4 l Z a0 hw [] ad55 ad37 [(fCell_0 p2), (fCell_0 p3), (fCell_0 p4)] T56.heap n0 Z56 F55__tokens A37 (Nat.le_of_ble_eq_true rfl)) (argsL := []) (rest := []) (lenOf own_pd4 rfl) rfl (by rw [hml]; rfl) 0 (by exact Nat.le_refl _) (by decide) (by decide) (by decide) (by decide) (hb hby at_157) rfl (fun v57 T57 L57 q57 (X57 : Stand _ _ _ _ _ _ _ _ _ _ T57 _ 2 5) => ?_)
          obtain ⟨N57', e57, rfl⟩ := q57
          have N57 := Fr.app N56 N57'
          show Ends p e below _ T57 m 160 #[.val (.int p1), .val (.int p2), .val (.int p3), .val (.int p4), .val (.int p5), .val (.int p6), .val (.int (3 : Int32)), .val (.ref ad37), .val (.int (1 : Int32)), .val (.ref ad55)] [(.int (fHo_0 [(fCell_0 p2), (fCell_0 p3), (fCell_0 p4)]))]
          refine eILoad X57 hx (hb hby at_160) rfl rfl ?_
          show Ends p e below (PVW s 16 128 n0 (if (fHo_0 [(fCell_0 p2), (fCell_0 p3), (fCell_0 p4)]) = (1 : Int32) then (1 : Int32) else (0 : Int32))) T57 m 162 #[.val (.int p1), .val (.int p2), .val (.int p3), .val (.int p4), .val (.int p5), .val (.int p6), .val (.int (3 : Int32)), .val (.ref ad37), .val (.int (1 : Int32)), .val (.ref ad55)] [(.int (1 : Int32)), (.int (fHo_0 [(fCell_0 p2), (fCell_0 p3), (fCell_0 p4)]))]
          by_cases c58 : (fHo_0 [(fCell_0 p2), (fCell_0 p3), (fCell_0 p4)]) = (1 : Int32)
          · rw [if_pos c58]
            refine eIcmpN X57 hx (hb hby at_162) (teq c58).2 rfl ?_
            refine eIConst X57 hx (1 : Int32) (hb hby at_165) rfl rfl ?_
            refine eGoto X57 hx (hb hby at_166) (by decide) (pc' := 170) rfl ?_
            exact eRetN X57 hx (t := .boolean) Bd.returns (by simp) hlk (hb hby at_170) (by decide) (by decide) ⟨rfl, N57⟩
          · rw [if_neg c58]
            refine eIcmpY X57 hx (hb hby at_162) (feq c58).2 (by decide) (pc' := 169) rfl ?_
            refine eIConst X57 hx (0 : Int32) (hb hby at_169) rfl rfl ?_
            exact eRetN X57 hx (t := .boolean) Bd.returns (by simp) hlk (hb hby at_170) (by decide) (by decide) ⟨rfl, N57⟩
        · rw [if_neg c54]
          refine eIfN X43 hx (hb hby at_112) ((if0 _ _).trans (flt c54).1) rfl ?_
          refine eILoad X43 hx (hb hby at_115) rfl rfl ?_
          refine eIConst X43 hx (3 : Int32) (hb hby at_117) rfl rfl ?_
          refine eIcmpY X43 hx (hb hby at_118) (flt (by decide)).2.2.2 (by decide) (pc' := 126) rfl ?_
          refine eILoad X43 hx (hb hby at_126) rfl rfl ?_
          refine eIConst X43 hx (4 : Int32) (hb hby at_128) rfl rfl ?_
          refine eIcmpY X43 hx (hb hby at_129) (flt (by decide)).2.2.2 (by decide) (pc' := 141) rfl ?_
          refine eIConst X43 hx (0 : Int32) (hb hby at_141) rfl rfl ?_
          refine eIStore X43 hx (hb hby at_142) (L' := #[.val (.int p1), .val (.int p2), .val (.int p3), .val (.int p4), .val (.int p5), .val (.int p6), .val (.int (3 : Int32)), .val (.ref ad37), .val (.int (0 : Int32)), .unset]) rfl rfl ?_
          refine eNewO X43 hx hZ hown (hw _ (List.mem_of_getElem? (i := 1) rfl)) (hw _ (List.mem_of_getElem? (i := 2) rfl)) (hw _ (List.mem_of_getElem? (i := 3) rfl)) e43 (hb hby at_144) (by decide) (by decide) rfl (fun T59 h59 ad59 g59 X59 e59 E59 A59 D59 => ?_)
          have ne_ad37_ad59 : ad37 ≠ ad59 := Nat.ne_of_lt (Nat.lt_of_lt_of_le A37.lt (Nat.le_of_eq g59.symm))
          have A37 := A37.ext E59
          have Q37 := Q37.ext E59
          have Z59 := Nat.le_trans Z43 E59.1
          have ge_ad59 : n0 ≤ ad59 := Nat.le_trans Z43 (Nat.le_of_eq g59.symm)
          have F59__tokens : Fld Z h59 ad59 "com/example/workflow_soundness/workflowsoundness/model/OmegaMarking" "_tokens" "[I" .null := D59 (Or.inr (hw _ (List.mem_of_getElem? (i := 11) rfl))) (ty := (.array .int)) (by decide)
          have F59__hash : Fld Z h59 ad59 "com/example/workflow_soundness/workflowsoundness/model/OmegaMarking" "_hash" "I" (.int (0 : Int32)) := D59 (Or.inr (hw _ (List.mem_of_getElem? (i := 17) rfl))) (ty := .int) (by decide)
          refine eDup X59 hx (hb hby at_147) rfl rfl ?_
          refine eALoad X59 hx (hb hby at_148) rfl rfl rfl ?_
          refine eCallI X59 hx hZ (y := (⟨"com/example/workflow_soundness/workflowsoundness/model/OmegaMarking", "<init>", "([I)V"⟩ : MethodName)) (a := ad59) rfl hown (hw _ (List.mem_of_getElem? (i := 4) rfl)) (hw _ (List.mem_of_getElem? (i := 5) rfl)) (hw _ (List.mem_of_getElem? (i := 3) rfl)) (hw _ (List.mem_of_getElem? (i := 6) rfl)) (by decide) e59 (rm1g l Z a0 hw [] ad59 ad37 (0 : Int32) [(fCell_0 p2), (fCell_0 p3), (fCell_0 p4)] h59 n0 Z59 A59 F59__tokens F59__hash Q37 A37 ge_ad59 (Ne.symm ne_ad37_ad59) (Nat.le_of_ble_eq_true rfl) (Nat.le_of_ble_eq_true rfl)) (argsL := [(.ref ad37)]) (rest := [(.ref ad59)]) (lenOf own_pd3 rfl) rfl (by rw [hml]; rfl) 1 (by exact Nat.le_refl _) (by decide) (by decide) (by decide) (by decide) (hb hby at_150) rfl (fun v60 T60 L60 q60 (X60 : Stand _ _ _ _ _ _ _ _ _ _ T60 _ 2 5) => ?_)
          obtain ⟨N60', K60', rfl, R60_0, R60_1, R60_2, R60_3, R60_4⟩ := q60
          have N60 := Fr.app N43 N60'
          have A37 := A37.keep K60' (ninS ne_ad37_ad59 nin0)
          have Q37 := Q37.keep K60'
          have A59 := A59.keep K60'
          have A59 := R60_0
          have F59__tokens : Fld Z T60.heap ad59 "com/example/workflow_soundness/workflowsoundness/model/OmegaMarking" "_tokens" "[I" (.ref ad37) := R60_1
          have F59__hash : Fld Z T60.heap ad59 "com/example/workflow_soundness/workflowsoundness/model/OmegaMarking" "_hash" "I" (.int (fIng_0 [(fCell_0 p2), (fCell_0 p3), (fCell_0 p4)])) := R60_2
          have Q37 := R60_3
          have A37 : Ar Z T60.heap ad37 .int [(fCell_0 p2), (fCell_0 p3), (fCell_0 p4)] := R60_4
          have Z60 := Nat.le_trans Z59 K60'.1
          show Ends p e below _ T60 m 153 #[.val (.int p1), .val (.int p2), .val (.int p3), .val (.int p4), .val (.int p5), .val (.int p6), .val (.int (3 : Int32)), .val (.ref ad37), .val (.int (0 : Int32)), .unset] [(.ref ad59)]
          refine eAStore X60 hx (hb hby at_153) rfl (L' := #[.val (.int p1), .val (.int p2), .val (.int p3), .val (.int p4), .val (.int p5), .val (.int p6), .val (.int (3 : Int32)), .val (.ref ad37), .val (.int (0 : Int32)), .val (.ref ad59)]) rfl rfl ?_
          refine eALoad X60 hx (hb hby at_155) rfl rfl rfl ?_
          refine eCallV X60 hx hZ (y := (⟨"com/example/workflow_soundness/workflowsoundness/model/OmegaMarking", "holdsOmega", "()Z"⟩ : MethodName)) hown (hw _ (List.mem_of_getElem? (i := 18) rfl)) (hw _ (List.mem_of_getElem? (i := 19) rfl)) (hw _ (List.mem_of_getElem? (i := 21) rfl)) (hw _ (List.mem_of_getElem? (i := 20) rfl)) (hw _ (List.mem_of_getElem? (i := 3) rfl)) (hw _ (List.mem_of_getElem? (i := 22) rfl)) (by decide) rfl A59 (rm4 l Z a0 hw [] ad59 ad37 [(fCell_0 p2), (fCell_0 p3), (fCell_0 p4)] T60.heap n0 Z60 F59__tokens A37 (Nat.le_of_ble_eq_true rfl)) (argsL := []) (rest := []) (lenOf own_pd4 rfl) rfl (by rw [hml]; rfl) 0 (by exact Nat.le_refl _) (by decide) (by decide) (by decide) (by decide) (hb hby at_157) rfl (fun v61 T61 L61 q61 (X61 : Stand _ _ _ _ _ _ _ _ _ _ T61 _ 2 5) => ?_)
          obtain ⟨N61', e61, rfl⟩ := q61
          have N61 := Fr.app N60 N61'
          show Ends p e below _ T61 m 160 #[.val (.int p1), .val (.int p2), .val (.int p3), .val (.int p4), .val (.int p5), .val (.int p6), .val (.int (3 : Int32)), .val (.ref ad37), .val (.int (0 : Int32)), .val (.ref ad59)] [(.int (fHo_0 [(fCell_0 p2), (fCell_0 p3), (fCell_0 p4)]))]
          refine eILoad X61 hx (hb hby at_160) rfl rfl ?_
          show Ends p e below (PVW s 16 128 n0 (if (fHo_0 [(fCell_0 p2), (fCell_0 p3), (fCell_0 p4)]) = (0 : Int32) then (1 : Int32) else (0 : Int32))) T61 m 162 #[.val (.int p1), .val (.int p2), .val (.int p3), .val (.int p4), .val (.int p5), .val (.int p6), .val (.int (3 : Int32)), .val (.ref ad37), .val (.int (0 : Int32)), .val (.ref ad59)] [(.int (0 : Int32)), (.int (fHo_0 [(fCell_0 p2), (fCell_0 p3), (fCell_0 p4)]))]
          by_cases c62 : (fHo_0 [(fCell_0 p2), (fCell_0 p3), (fCell_0 p4)]) = (0 : Int32)
          · rw [if_pos c62]
            refine eIcmpN X61 hx (hb hby at_162) (teq c62).2 rfl ?_
            refine eIConst X61 hx (1 : Int32) (hb hby at_165) rfl rfl ?_
            refine eGoto X61 hx (hb hby at_166) (by decide) (pc' := 170) rfl ?_
            exact eRetN X61 hx (t := .boolean) Bd.returns (by simp) hlk (hb hby at_170) (by decide) (by decide) ⟨rfl, N61⟩
          · rw [if_neg c62]
            refine eIcmpY X61 hx (hb hby at_162) (feq c62).2 (by decide) (pc' := 169) rfl ?_
            refine eIConst X61 hx (0 : Int32) (hb hby at_169) rfl rfl ?_
            exact eRetN X61 hx (t := .boolean) Bd.returns (by simp) hlk (hb hby at_170) (by decide) (by decide) ⟨rfl, N61⟩
  rw [if_neg hs136_3]
  by_cases hs136_4 : ((p1 &&& (7 : Int32)) % (6 : Int32)) = (4 : Int32)
  · rw [if_pos hs136_4, hs136_4]
    refine eILoad X0 hx (hb hby at_9) rfl rfl ?_
    refine eNewE X0 hx hZ rfl rfl (hw _ (List.mem_of_getElem? (i := 0) rfl)) e0 (hb hby at_11) (by decide) (cap := 4) (by decide) (by decide) (by decide) (by decide) "[I" (by decide) rfl (fun T63 h63 ad63 g63 X63 e63 E63 A63 Q63 => ?_)
    have Z63 := Nat.le_trans Z0 E63.1
    have ge_ad63 : n0 ≤ ad63 := Nat.le_trans Z0 (Nat.le_of_eq g63.symm)
    have A63 : Ar Z h63 ad63 .int [(0 : Int32), (0 : Int32), (0 : Int32), (0 : Int32)] := A63
    refine eAStore X63 hx (hb hby at_13) rfl (L' := #[.val (.int p1), .val (.int p2), .val (.int p3), .val (.int p4), .val (.int p5), .val (.int p6), .val (.int (4 : Int32)), .val (.ref ad63), .unset, .unset]) rfl rfl ?_
    refine eILoad X63 hx (hb hby at_15) rfl rfl ?_
    refine eIfN X63 hx (hb hby at_17) ((if0 _ _).trans (tlt (by decide)).2.2.2) rfl ?_
    refine eALoad X63 hx (hb hby at_20) rfl rfl rfl ?_
    refine eIConst X63 hx (0 : Int32) (hb hby at_22) rfl rfl ?_
    refine eILoadN X63 hx (hb hby at_23) rfl rfl ?_
    refine eCallS X63 hx hZ (y := (⟨"com/example/workflow_soundness/workflowsoundness/model/OmegaMarkingHoldsOmegaPinLaw", "cell", "(I)I"⟩ : MethodName)) hown (hw _ (List.mem_of_getElem? (i := 23) rfl)) (hw _ (List.mem_of_getElem? (i := 24) rfl)) (hw _ (List.mem_of_getElem? (i := 25) rfl)) (hw _ (List.mem_of_getElem? (i := 26) rfl)) (by decide) e63 (rm5 l Z a0 hw [] p2 h63 n0 Z63) (argsL := [(.int p2)]) (rest := [(.int (0 : Int32)), (.ref ad63)]) (lenOf own_pd5 rfl) rfl (by rw [hml]; rfl) 2 (by exact Nat.le_refl _) (by decide) (by decide) (by decide) (by decide) (hb hby at_24) rfl (fun v64 T64 L64 q64 (X64 : Stand _ _ _ _ _ _ _ _ _ _ T64 _ 1 4) => ?_)
    obtain ⟨rfl, N64', e64⟩ := q64
    have N64 := Fr.app N0 N64'
    show Ends p e below _ T64 m 27 #[.val (.int p1), .val (.int p2), .val (.int p3), .val (.int p4), .val (.int p5), .val (.int p6), .val (.int (4 : Int32)), .val (.ref ad63), .unset, .unset] [(.int (fCell_0 p2)), (.int (0 : Int32)), (.ref ad63)]
    refine eIAStore X64 hx hZ e64 A63 (inbL (n := 4) rfl (by decide)) (hb hby at_27) rfl (fun T65 h65 X65 e65 W65 B65 => ?_)
    have Q63 := Q63.wr W65
    have A63 : Ar Z h65 ad63 .int [(fCell_0 p2), (0 : Int32), (0 : Int32), (0 : Int32)] := B65
    have N65 := Fr.snoc X65 N64 ge_ad63
    have Z65 := Nat.le_trans Z63 (Keep.of_wr W65).1
    refine eILoad X65 hx (hb hby at_28) rfl rfl ?_
    refine eIConst X65 hx (1 : Int32) (hb hby at_30) rfl rfl ?_
    refine eIcmpN X65 hx (hb hby at_31) (tlt (by decide)).2.2.2 rfl ?_
    refine eALoad X65 hx (hb hby at_34) rfl rfl rfl ?_
    refine eIConst X65 hx (1 : Int32) (hb hby at_36) rfl rfl ?_
    refine eILoadN X65 hx (hb hby at_37) rfl rfl ?_
    refine eCallS X65 hx hZ (y := (⟨"com/example/workflow_soundness/workflowsoundness/model/OmegaMarkingHoldsOmegaPinLaw", "cell", "(I)I"⟩ : MethodName)) hown (hw _ (List.mem_of_getElem? (i := 23) rfl)) (hw _ (List.mem_of_getElem? (i := 24) rfl)) (hw _ (List.mem_of_getElem? (i := 25) rfl)) (hw _ (List.mem_of_getElem? (i := 26) rfl)) (by decide) e65 (rm5 l Z a0 hw [] p3 h65 n0 Z65) (argsL := [(.int p3)]) (rest := [(.int (1 : Int32)), (.ref ad63)]) (lenOf own_pd5 rfl) rfl (by rw [hml]; rfl) 2 (by exact Nat.le_refl _) (by decide) (by decide) (by decide) (by decide) (hb hby at_38) rfl (fun v66 T66 L66 q66 (X66 : Stand _ _ _ _ _ _ _ _ _ _ T66 _ 1 4) => ?_)
    obtain ⟨rfl, N66', e66⟩ := q66
    have N66 := Fr.app N65 N66'
    show Ends p e below _ T66 m 41 #[.val (.int p1), .val (.int p2), .val (.int p3), .val (.int p4), .val (.int p5), .val (.int p6), .val (.int (4 : Int32)), .val (.ref ad63), .unset, .unset] [(.int (fCell_0 p3)), (.int (1 : Int32)), (.ref ad63)]
    refine eIAStore X66 hx hZ e66 A63 (inbL (n := 4) rfl (by decide)) (hb hby at_41) rfl (fun T67 h67 X67 e67 W67 B67 => ?_)
    have Q63 := Q63.wr W67
    have A63 : Ar Z h67 ad63 .int [(fCell_0 p2), (fCell_0 p3), (0 : Int32), (0 : Int32)] := B67
    have N67 := Fr.snoc X67 N66 ge_ad63
    have Z67 := Nat.le_trans Z65 (Keep.of_wr W67).1
    refine eILoad X67 hx (hb hby at_42) rfl rfl ?_
    refine eIConst X67 hx (2 : Int32) (hb hby at_44) rfl rfl ?_
    refine eIcmpN X67 hx (hb hby at_45) (tlt (by decide)).2.2.2 rfl ?_
    refine eALoad X67 hx (hb hby at_48) rfl rfl rfl ?_
    refine eIConst X67 hx (2 : Int32) (hb hby at_50) rfl rfl ?_
    refine eILoadN X67 hx (hb hby at_51) rfl rfl ?_
    refine eCallS X67 hx hZ (y := (⟨"com/example/workflow_soundness/workflowsoundness/model/OmegaMarkingHoldsOmegaPinLaw", "cell", "(I)I"⟩ : MethodName)) hown (hw _ (List.mem_of_getElem? (i := 23) rfl)) (hw _ (List.mem_of_getElem? (i := 24) rfl)) (hw _ (List.mem_of_getElem? (i := 25) rfl)) (hw _ (List.mem_of_getElem? (i := 26) rfl)) (by decide) e67 (rm5 l Z a0 hw [] p4 h67 n0 Z67) (argsL := [(.int p4)]) (rest := [(.int (2 : Int32)), (.ref ad63)]) (lenOf own_pd5 rfl) rfl (by rw [hml]; rfl) 2 (by exact Nat.le_refl _) (by decide) (by decide) (by decide) (by decide) (hb hby at_52) rfl (fun v68 T68 L68 q68 (X68 : Stand _ _ _ _ _ _ _ _ _ _ T68 _ 1 4) => ?_)
    obtain ⟨rfl, N68', e68⟩ := q68
    have N68 := Fr.app N67 N68'
    show Ends p e below _ T68 m 55 #[.val (.int p1), .val (.int p2), .val (.int p3), .val (.int p4), .val (.int p5), .val (.int p6), .val (.int (4 : Int32)), .val (.ref ad63), .unset, .unset] [(.int (fCell_0 p4)), (.int (2 : Int32)), (.ref ad63)]
    refine eIAStore X68 hx hZ e68 A63 (inbL (n := 4) rfl (by decide)) (hb hby at_55) rfl (fun T69 h69 X69 e69 W69 B69 => ?_)
    have Q63 := Q63.wr W69
    have A63 : Ar Z h69 ad63 .int [(fCell_0 p2), (fCell_0 p3), (fCell_0 p4), (0 : Int32)] := B69
    have N69 := Fr.snoc X69 N68 ge_ad63
    have Z69 := Nat.le_trans Z67 (Keep.of_wr W69).1
    refine eILoad X69 hx (hb hby at_56) rfl rfl ?_
    refine eIConst X69 hx (3 : Int32) (hb hby at_58) rfl rfl ?_
    refine eIcmpN X69 hx (hb hby at_59) (tlt (by decide)).2.2.2 rfl ?_
    refine eALoad X69 hx (hb hby at_62) rfl rfl rfl ?_
    refine eIConst X69 hx (3 : Int32) (hb hby at_64) rfl rfl ?_
    refine eILoad X69 hx (hb hby at_65) rfl rfl ?_
    refine eCallS X69 hx hZ (y := (⟨"com/example/workflow_soundness/workflowsoundness/model/OmegaMarkingHoldsOmegaPinLaw", "cell", "(I)I"⟩ : MethodName)) hown (hw _ (List.mem_of_getElem? (i := 23) rfl)) (hw _ (List.mem_of_getElem? (i := 24) rfl)) (hw _ (List.mem_of_getElem? (i := 25) rfl)) (hw _ (List.mem_of_getElem? (i := 26) rfl)) (by decide) e69 (rm5 l Z a0 hw [] p5 h69 n0 Z69) (argsL := [(.int p5)]) (rest := [(.int (3 : Int32)), (.ref ad63)]) (lenOf own_pd5 rfl) rfl (by rw [hml]; rfl) 2 (by exact Nat.le_refl _) (by decide) (by decide) (by decide) (by decide) (hb hby at_67) rfl (fun v70 T70 L70 q70 (X70 : Stand _ _ _ _ _ _ _ _ _ _ T70 _ 1 4) => ?_)
    obtain ⟨rfl, N70', e70⟩ := q70
    have N70 := Fr.app N69 N70'
    show Ends p e below _ T70 m 70 #[.val (.int p1), .val (.int p2), .val (.int p3), .val (.int p4), .val (.int p5), .val (.int p6), .val (.int (4 : Int32)), .val (.ref ad63), .unset, .unset] [(.int (fCell_0 p5)), (.int (3 : Int32)), (.ref ad63)]
    refine eIAStore X70 hx hZ e70 A63 (inbL (n := 4) rfl (by decide)) (hb hby at_70) rfl (fun T71 h71 X71 e71 W71 B71 => ?_)
    have Q63 := Q63.wr W71
    have A63 : Ar Z h71 ad63 .int [(fCell_0 p2), (fCell_0 p3), (fCell_0 p4), (fCell_0 p5)] := B71
    have N71 := Fr.snoc X71 N70 ge_ad63
    have Z71 := Nat.le_trans Z69 (Keep.of_wr W71).1
    refine eILoad X71 hx (hb hby at_71) rfl rfl ?_
    refine eIConst X71 hx (4 : Int32) (hb hby at_73) rfl rfl ?_
    refine eIcmpY X71 hx (hb hby at_74) (flt (by decide)).2.2.2 (by decide) (pc' := 86) rfl ?_
    refine eILoad X71 hx (hb hby at_86) rfl rfl ?_
    refine eIfN X71 hx (hb hby at_88) ((if0 _ _).trans (tlt (by decide)).2.2.2) rfl ?_
    refine eILoadN X71 hx (hb hby at_91) rfl rfl ?_
    show Ends p e below (PVW s 16 128 n0 (if p2 < (0 : Int32) then (if (fHo_0 [(fCell_0 p2), (fCell_0 p3), (fCell_0 p4), (fCell_0 p5)]) = (1 : Int32) then (1 : Int32) else (0 : Int32)) else (if p3 < (0 : Int32) then (if (fHo_0 [(fCell_0 p2), (fCell_0 p3), (fCell_0 p4), (fCell_0 p5)]) = (1 : Int32) then (1 : Int32) else (0 : Int32)) else (if p4 < (0 : Int32) then (if (fHo_0 [(fCell_0 p2), (fCell_0 p3), (fCell_0 p4), (fCell_0 p5)]) = (1 : Int32) then (1 : Int32) else (0 : Int32)) else (if p5 < (0 : Int32) then (if (fHo_0 [(fCell_0 p2), (fCell_0 p3), (fCell_0 p4), (fCell_0 p5)]) = (1 : Int32) then (1 : Int32) else (0 : Int32)) else (if (fHo_0 [(fCell_0 p2), (fCell_0 p3), (fCell_0 p4), (fCell_0 p5)]) = (0 : Int32) then (1 : Int32) else (0 : Int32))))))) T71 m 92 #[.val (.int p1), .val (.int p2), .val (.int p3), .val (.int p4), .val (.int p5), .val (.int p6), .val (.int (4 : Int32)), .val (.ref ad63), .unset, .unset] [(.int p2)]
    by_cases c72 : p2 < (0 : Int32)
    · rw [if_pos c72]
      refine eIfY X71 hx (hb hby at_92) ((if0 _ _).trans (tlt c72).1) (by decide) (pc' := 137) rfl ?_
      refine eIConst X71 hx (1 : Int32) (hb hby at_137) rfl rfl ?_
      refine eGoto X71 hx (hb hby at_138) (by decide) (pc' := 142) rfl ?_
      refine eIStore X71 hx (hb hby at_142) (L' := #[.val (.int p1), .val (.int p2), .val (.int p3), .val (.int p4), .val (.int p5), .val (.int p6), .val (.int (4 : Int32)), .val (.ref ad63), .val (.int (1 : Int32)), .unset]) rfl rfl ?_
      refine eNewO X71 hx hZ hown (hw _ (List.mem_of_getElem? (i := 1) rfl)) (hw _ (List.mem_of_getElem? (i := 2) rfl)) (hw _ (List.mem_of_getElem? (i := 3) rfl)) e71 (hb hby at_144) (by decide) (by decide) rfl (fun T73 h73 ad73 g73 X73 e73 E73 A73 D73 => ?_)
      have ne_ad63_ad73 : ad63 ≠ ad73 := Nat.ne_of_lt (Nat.lt_of_lt_of_le A63.lt (Nat.le_of_eq g73.symm))
      have A63 := A63.ext E73
      have Q63 := Q63.ext E73
      have Z73 := Nat.le_trans Z71 E73.1
      have ge_ad73 : n0 ≤ ad73 := Nat.le_trans Z71 (Nat.le_of_eq g73.symm)
      have F73__tokens : Fld Z h73 ad73 "com/example/workflow_soundness/workflowsoundness/model/OmegaMarking" "_tokens" "[I" .null := D73 (Or.inr (hw _ (List.mem_of_getElem? (i := 11) rfl))) (ty := (.array .int)) (by decide)
      have F73__hash : Fld Z h73 ad73 "com/example/workflow_soundness/workflowsoundness/model/OmegaMarking" "_hash" "I" (.int (0 : Int32)) := D73 (Or.inr (hw _ (List.mem_of_getElem? (i := 17) rfl))) (ty := .int) (by decide)
      refine eDup X73 hx (hb hby at_147) rfl rfl ?_
      refine eALoad X73 hx (hb hby at_148) rfl rfl rfl ?_
      refine eCallI X73 hx hZ (y := (⟨"com/example/workflow_soundness/workflowsoundness/model/OmegaMarking", "<init>", "([I)V"⟩ : MethodName)) (a := ad73) rfl hown (hw _ (List.mem_of_getElem? (i := 4) rfl)) (hw _ (List.mem_of_getElem? (i := 5) rfl)) (hw _ (List.mem_of_getElem? (i := 3) rfl)) (hw _ (List.mem_of_getElem? (i := 6) rfl)) (by decide) e73 (rm1g l Z a0 hw [] ad73 ad63 (0 : Int32) [(fCell_0 p2), (fCell_0 p3), (fCell_0 p4), (fCell_0 p5)] h73 n0 Z73 A73 F73__tokens F73__hash Q63 A63 ge_ad73 (Ne.symm ne_ad63_ad73) (Nat.le_of_ble_eq_true rfl) (Nat.le_of_ble_eq_true rfl)) (argsL := [(.ref ad63)]) (rest := [(.ref ad73)]) (lenOf own_pd3 rfl) rfl (by rw [hml]; rfl) 1 (by exact Nat.le_refl _) (by decide) (by decide) (by decide) (by decide) (hb hby at_150) rfl (fun v74 T74 L74 q74 (X74 : Stand _ _ _ _ _ _ _ _ _ _ T74 _ 2 6) => ?_)
      obtain ⟨N74', K74', rfl, R74_0, R74_1, R74_2, R74_3, R74_4⟩ := q74
      have N74 := Fr.app N71 N74'
      have A63 := A63.keep K74' (ninS ne_ad63_ad73 nin0)
      have Q63 := Q63.keep K74'
      have A73 := A73.keep K74'
      have A73 := R74_0
      have F73__tokens : Fld Z T74.heap ad73 "com/example/workflow_soundness/workflowsoundness/model/OmegaMarking" "_tokens" "[I" (.ref ad63) := R74_1
      have F73__hash : Fld Z T74.heap ad73 "com/example/workflow_soundness/workflowsoundness/model/OmegaMarking" "_hash" "I" (.int (fIng_0 [(fCell_0 p2), (fCell_0 p3), (fCell_0 p4), (fCell_0 p5)])) := R74_2
      have Q63 := R74_3
      have A63 : Ar Z T74.heap ad63 .int [(fCell_0 p2), (fCell_0 p3), (fCell_0 p4), (fCell_0 p5)] := R74_4
      have Z74 := Nat.le_trans Z73 K74'.1
      show Ends p e below _ T74 m 153 #[.val (.int p1), .val (.int p2), .val (.int p3), .val (.int p4), .val (.int p5), .val (.int p6), .val (.int (4 : Int32)), .val (.ref ad63), .val (.int (1 : Int32)), .unset] [(.ref ad73)]
      refine eAStore X74 hx (hb hby at_153) rfl (L' := #[.val (.int p1), .val (.int p2), .val (.int p3), .val (.int p4), .val (.int p5), .val (.int p6), .val (.int (4 : Int32)), .val (.ref ad63), .val (.int (1 : Int32)), .val (.ref ad73)]) rfl rfl ?_
      refine eALoad X74 hx (hb hby at_155) rfl rfl rfl ?_
      refine eCallV X74 hx hZ (y := (⟨"com/example/workflow_soundness/workflowsoundness/model/OmegaMarking", "holdsOmega", "()Z"⟩ : MethodName)) hown (hw _ (List.mem_of_getElem? (i := 18) rfl)) (hw _ (List.mem_of_getElem? (i := 19) rfl)) (hw _ (List.mem_of_getElem? (i := 21) rfl)) (hw _ (List.mem_of_getElem? (i := 20) rfl)) (hw _ (List.mem_of_getElem? (i := 3) rfl)) (hw _ (List.mem_of_getElem? (i := 22) rfl)) (by decide) rfl A73 (rm4 l Z a0 hw [] ad73 ad63 [(fCell_0 p2), (fCell_0 p3), (fCell_0 p4), (fCell_0 p5)] T74.heap n0 Z74 F73__tokens A63 (Nat.le_of_ble_eq_true rfl)) (argsL := []) (rest := []) (lenOf own_pd4 rfl) rfl (by rw [hml]; rfl) 0 (by exact Nat.le_refl _) (by decide) (by decide) (by decide) (by decide) (hb hby at_157) rfl (fun v75 T75 L75 q75 (X75 : Stand _ _ _ _ _ _ _ _ _ _ T75 _ 2 6) => ?_)
      obtain ⟨N75', e75, rfl⟩ := q75
      have N75 := Fr.app N74 N75'
      show Ends p e below _ T75 m 160 #[.val (.int p1), .val (.int p2), .val (.int p3), .val (.int p4), .val (.int p5), .val (.int p6), .val (.int (4 : Int32)), .val (.ref ad63), .val (.int (1 : Int32)), .val (.ref ad73)] [(.int (fHo_0 [(fCell_0 p2), (fCell_0 p3), (fCell_0 p4), (fCell_0 p5)]))]
      refine eILoad X75 hx (hb hby at_160) rfl rfl ?_
      show Ends p e below (PVW s 16 128 n0 (if (fHo_0 [(fCell_0 p2), (fCell_0 p3), (fCell_0 p4), (fCell_0 p5)]) = (1 : Int32) then (1 : Int32) else (0 : Int32))) T75 m 162 #[.val (.int p1), .val (.int p2), .val (.int p3), .val (.int p4), .val (.int p5), .val (.int p6), .val (.int (4 : Int32)), .val (.ref ad63), .val (.int (1 : Int32)), .val (.ref ad73)] [(.int (1 : Int32)), (.int (fHo_0 [(fCell_0 p2), (fCell_0 p3), (fCell_0 p4), (fCell_0 p5)]))]
      by_cases c76 : (fHo_0 [(fCell_0 p2), (fCell_0 p3), (fCell_0 p4), (fCell_0 p5)]) = (1 : Int32)
      · rw [if_pos c76]
        refine eIcmpN X75 hx (hb hby at_162) (teq c76).2 rfl ?_
        refine eIConst X75 hx (1 : Int32) (hb hby at_165) rfl rfl ?_
        refine eGoto X75 hx (hb hby at_166) (by decide) (pc' := 170) rfl ?_
        exact eRetN X75 hx (t := .boolean) Bd.returns (by simp) hlk (hb hby at_170) (by decide) (by decide) ⟨rfl, N75⟩
      · rw [if_neg c76]
        refine eIcmpY X75 hx (hb hby at_162) (feq c76).2 (by decide) (pc' := 169) rfl ?_
        refine eIConst X75 hx (0 : Int32) (hb hby at_169) rfl rfl ?_
        exact eRetN X75 hx (t := .boolean) Bd.returns (by simp) hlk (hb hby at_170) (by decide) (by decide) ⟨rfl, N75⟩
    · rw [if_neg c72]
      refine eIfN X71 hx (hb hby at_92) ((if0 _ _).trans (flt c72).1) rfl ?_
      refine eILoad X71 hx (hb hby at_95) rfl rfl ?_
      refine eIConst X71 hx (1 : Int32) (hb hby at_97) rfl rfl ?_
      refine eIcmpN X71 hx (hb hby at_98) (tlt (by decide)).2.2.2 rfl ?_
      refine eILoadN X71 hx (hb hby at_101) rfl rfl ?_
      show Ends p e below (PVW s 16 128 n0 (if p3 < (0 : Int32) then (if (fHo_0 [(fCell_0 p2), (fCell_0 p3), (fCell_0 p4), (fCell_0 p5)]) = (1 : Int32) then (1 : Int32) else (0 : Int32)) else (if p4 < (0 : Int32) then (if (fHo_0 [(fCell_0 p2), (fCell_0 p3), (fCell_0 p4), (fCell_0 p5)]) = (1 : Int32) then (1 : Int32) else (0 : Int32)) else (if p5 < (0 : Int32) then (if (fHo_0 [(fCell_0 p2), (fCell_0 p3), (fCell_0 p4), (fCell_0 p5)]) = (1 : Int32) then (1 : Int32) else (0 : Int32)) else (if (fHo_0 [(fCell_0 p2), (fCell_0 p3), (fCell_0 p4), (fCell_0 p5)]) = (0 : Int32) then (1 : Int32) else (0 : Int32)))))) T71 m 102 #[.val (.int p1), .val (.int p2), .val (.int p3), .val (.int p4), .val (.int p5), .val (.int p6), .val (.int (4 : Int32)), .val (.ref ad63), .unset, .unset] [(.int p3)]
      by_cases c77 : p3 < (0 : Int32)
      · rw [if_pos c77]
        refine eIfY X71 hx (hb hby at_102) ((if0 _ _).trans (tlt c77).1) (by decide) (pc' := 137) rfl ?_
        refine eIConst X71 hx (1 : Int32) (hb hby at_137) rfl rfl ?_
        refine eGoto X71 hx (hb hby at_138) (by decide) (pc' := 142) rfl ?_
        refine eIStore X71 hx (hb hby at_142) (L' := #[.val (.int p1), .val (.int p2), .val (.int p3), .val (.int p4), .val (.int p5), .val (.int p6), .val (.int (4 : Int32)), .val (.ref ad63), .val (.int (1 : Int32)), .unset]) rfl rfl ?_
        refine eNewO X71 hx hZ hown (hw _ (List.mem_of_getElem? (i := 1) rfl)) (hw _ (List.mem_of_getElem? (i := 2) rfl)) (hw _ (List.mem_of_getElem? (i := 3) rfl)) e71 (hb hby at_144) (by decide) (by decide) rfl (fun T78 h78 ad78 g78 X78 e78 E78 A78 D78 => ?_)
        have ne_ad63_ad78 : ad63 ≠ ad78 := Nat.ne_of_lt (Nat.lt_of_lt_of_le A63.lt (Nat.le_of_eq g78.symm))
        have A63 := A63.ext E78
        have Q63 := Q63.ext E78
        have Z78 := Nat.le_trans Z71 E78.1
        have ge_ad78 : n0 ≤ ad78 := Nat.le_trans Z71 (Nat.le_of_eq g78.symm)
        have F78__tokens : Fld Z h78 ad78 "com/example/workflow_soundness/workflowsoundness/model/OmegaMarking" "_tokens" "[I" .null := D78 (Or.inr (hw _ (List.mem_of_getElem? (i := 11) rfl))) (ty := (.array .int)) (by decide)
        have F78__hash : Fld Z h78 ad78 "com/example/workflow_soundness/workflowsoundness/model/OmegaMarking" "_hash" "I" (.int (0 : Int32)) := D78 (Or.inr (hw _ (List.mem_of_getElem? (i := 17) rfl))) (ty := .int) (by decide)
        refine eDup X78 hx (hb hby at_147) rfl rfl ?_
        refine eALoad X78 hx (hb hby at_148) rfl rfl rfl ?_
        refine eCallI X78 hx hZ (y := (⟨"com/example/workflow_soundness/workflowsoundness/model/OmegaMarking", "<init>", "([I)V"⟩ : MethodName)) (a := ad78) rfl hown (hw _ (List.mem_of_getElem? (i := 4) rfl)) (hw _ (List.mem_of_getElem? (i := 5) rfl)) (hw _ (List.mem_of_getElem? (i := 3) rfl)) (hw _ (List.mem_of_getElem? (i := 6) rfl)) (by decide) e78 (rm1g l Z a0 hw [] ad78 ad63 (0 : Int32) [(fCell_0 p2), (fCell_0 p3), (fCell_0 p4), (fCell_0 p5)] h78 n0 Z78 A78 F78__tokens F78__hash Q63 A63 ge_ad78 (Ne.symm ne_ad63_ad78) (Nat.le_of_ble_eq_true rfl) (Nat.le_of_ble_eq_true rfl)) (argsL := [(.ref ad63)]) (rest := [(.ref ad78)]) (lenOf own_pd3 rfl) rfl (by rw [hml]; rfl) 1 (by exact Nat.le_refl _) (by decide) (by decide) (by decide) (by decide) (hb hby at_150) rfl (fun v79 T79 L79 q79 (X79 : Stand _ _ _ _ _ _ _ _ _ _ T79 _ 2 6) => ?_)
        obtain ⟨N79', K79', rfl, R79_0, R79_1, R79_2, R79_3, R79_4⟩ := q79
        have N79 := Fr.app N71 N79'
        have A63 := A63.keep K79' (ninS ne_ad63_ad78 nin0)
        have Q63 := Q63.keep K79'
        have A78 := A78.keep K79'
        have A78 := R79_0
        have F78__tokens : Fld Z T79.heap ad78 "com/example/workflow_soundness/workflowsoundness/model/OmegaMarking" "_tokens" "[I" (.ref ad63) := R79_1
        have F78__hash : Fld Z T79.heap ad78 "com/example/workflow_soundness/workflowsoundness/model/OmegaMarking" "_hash" "I" (.int (fIng_0 [(fCell_0 p2), (fCell_0 p3), (fCell_0 p4), (fCell_0 p5)])) := R79_2
        have Q63 := R79_3
        have A63 : Ar Z T79.heap ad63 .int [(fCell_0 p2), (fCell_0 p3), (fCell_0 p4), (fCell_0 p5)] := R79_4
        have Z79 := Nat.le_trans Z78 K79'.1
        show Ends p e below _ T79 m 153 #[.val (.int p1), .val (.int p2), .val (.int p3), .val (.int p4), .val (.int p5), .val (.int p6), .val (.int (4 : Int32)), .val (.ref ad63), .val (.int (1 : Int32)), .unset] [(.ref ad78)]
        refine eAStore X79 hx (hb hby at_153) rfl (L' := #[.val (.int p1), .val (.int p2), .val (.int p3), .val (.int p4), .val (.int p5), .val (.int p6), .val (.int (4 : Int32)), .val (.ref ad63), .val (.int (1 : Int32)), .val (.ref ad78)]) rfl rfl ?_
        refine eALoad X79 hx (hb hby at_155) rfl rfl rfl ?_
        refine eCallV X79 hx hZ (y := (⟨"com/example/workflow_soundness/workflowsoundness/model/OmegaMarking", "holdsOmega", "()Z"⟩ : MethodName)) hown (hw _ (List.mem_of_getElem? (i := 18) rfl)) (hw _ (List.mem_of_getElem? (i := 19) rfl)) (hw _ (List.mem_of_getElem? (i := 21) rfl)) (hw _ (List.mem_of_getElem? (i := 20) rfl)) (hw _ (List.mem_of_getElem? (i := 3) rfl)) (hw _ (List.mem_of_getElem? (i := 22) rfl)) (by decide) rfl A78 (rm4 l Z a0 hw [] ad78 ad63 [(fCell_0 p2), (fCell_0 p3), (fCell_0 p4), (fCell_0 p5)] T79.heap n0 Z79 F78__tokens A63 (Nat.le_of_ble_eq_true rfl)) (argsL := []) (rest := []) (lenOf own_pd4 rfl) rfl (by rw [hml]; rfl) 0 (by exact Nat.le_refl _) (by decide) (by decide) (by decide) (by decide) (hb hby at_157) rfl (fun v80 T80 L80 q80 (X80 : Stand _ _ _ _ _ _ _ _ _ _ T80 _ 2 6) => ?_)
        obtain ⟨N80', e80, rfl⟩ := q80
        have N80 := Fr.app N79 N80'
        show Ends p e below _ T80 m 160 #[.val (.int p1), .val (.int p2), .val (.int p3), .val (.int p4), .val (.int p5), .val (.int p6), .val (.int (4 : Int32)), .val (.ref ad63), .val (.int (1 : Int32)), .val (.ref ad78)] [(.int (fHo_0 [(fCell_0 p2), (fCell_0 p3), (fCell_0 p4), (fCell_0 p5)]))]
        refine eILoad X80 hx (hb hby at_160) rfl rfl ?_
        show Ends p e below (PVW s 16 128 n0 (if (fHo_0 [(fCell_0 p2), (fCell_0 p3), (fCell_0 p4), (fCell_0 p5)]) = (1 : Int32) then (1 : Int32) else (0 : Int32))) T80 m 162 #[.val (.int p1), .val (.int p2), .val (.int p3), .val (.int p4), .val (.int p5), .val (.int p6), .val (.int (4 : Int32)), .val (.ref ad63), .val (.int (1 : Int32)), .val (.ref ad78)] [(.int (1 : Int32)), (.int (fHo_0 [(fCell_0 p2), (fCell_0 p3), (fCell_0 p4), (fCell_0 p5)]))]
        by_cases c81 : (fHo_0 [(fCell_0 p2), (fCell_0 p3), (fCell_0 p4), (fCell_0 p5)]) = (1 : Int32)
        · rw [if_pos c81]
          refine eIcmpN X80 hx (hb hby at_162) (teq c81).2 rfl ?_
          refine eIConst X80 hx (1 : Int32) (hb hby at_165) rfl rfl ?_
          refine eGoto X80 hx (hb hby at_166) (by decide) (pc' := 170) rfl ?_
          exact eRetN X80 hx (t := .boolean) Bd.returns (by simp) hlk (hb hby at_170) (by decide) (by decide) ⟨rfl, N80⟩
        · rw [if_neg c81]
          refine eIcmpY X80 hx (hb hby at_162) (feq c81).2 (by decide) (pc' := 169) rfl ?_
          refine eIConst X80 hx (0 : Int32) (hb hby at_169) rfl rfl ?_
          exact eRetN X80 hx (t := .boolean) Bd.returns (by simp) hlk (hb hby at_170) (by decide) (by decide) ⟨rfl, N80⟩
      · rw [if_neg c77]
        refine eIfN X71 hx (hb hby at_102) ((if0 _ _).trans (flt c77).1) rfl ?_
        refine eILoad X71 hx (hb hby at_105) rfl rfl ?_
        refine eIConst X71 hx (2 : Int32) (hb hby at_107) rfl rfl ?_
        refine eIcmpN X71 hx (hb hby at_108) (tlt (by decide)).2.2.2 rfl ?_
        refine eILoadN X71 hx (hb hby at_111) rfl rfl ?_
        show Ends p e below (PVW s 16 128 n0 (if p4 < (0 : Int32) then (if (fHo_0 [(fCell_0 p2), (fCell_0 p3), (fCell_0 p4), (fCell_0 p5)]) = (1 : Int32) then (1 : Int32) else (0 : Int32)) else (if p5 < (0 : Int32) then (if (fHo_0 [(fCell_0 p2), (fCell_0 p3), (fCell_0 p4), (fCell_0 p5)]) = (1 : Int32) then (1 : Int32) else (0 : Int32)) else (if (fHo_0 [(fCell_0 p2), (fCell_0 p3), (fCell_0 p4), (fCell_0 p5)]) = (0 : Int32) then (1 : Int32) else (0 : Int32))))) T71 m 112 #[.val (.int p1), .val (.int p2), .val (.int p3), .val (.int p4), .val (.int p5), .val (.int p6), .val (.int (4 : Int32)), .val (.ref ad63), .unset, .unset] [(.int p4)]
        by_cases c82 : p4 < (0 : Int32)
        · rw [if_pos c82]
          refine eIfY X71 hx (hb hby at_112) ((if0 _ _).trans (tlt c82).1) (by decide) (pc' := 137) rfl ?_
          refine eIConst X71 hx (1 : Int32) (hb hby at_137) rfl rfl ?_
          refine eGoto X71 hx (hb hby at_138) (by decide) (pc' := 142) rfl ?_
          refine eIStore X71 hx (hb hby at_142) (L' := #[.val (.int p1), .val (.int p2), .val (.int p3), .val (.int p4), .val (.int p5), .val (.int p6), .val (.int (4 : Int32)), .val (.ref ad63), .val (.int (1 : Int32)), .unset]) rfl rfl ?_
          refine eNewO X71 hx hZ hown (hw _ (List.mem_of_getElem? (i := 1) rfl)) (hw _ (List.mem_of_getElem? (i := 2) rfl)) (hw _ (List.mem_of_getElem? (i := 3) rfl)) e71 (hb hby at_144) (by decide) (by decide) rfl (fun T83 h83 ad83 g83 X83 e83 E83 A83 D83 => ?_)
          have ne_ad63_ad83 : ad63 ≠ ad83 := Nat.ne_of_lt (Nat.lt_of_lt_of_le A63.lt (Nat.le_of_eq g83.symm))
          have A63 := A63.ext E83
          have Q63 := Q63.ext E83
          have Z83 := Nat.le_trans Z71 E83.1
          have ge_ad83 : n0 ≤ ad83 := Nat.le_trans Z71 (Nat.le_of_eq g83.symm)
          have F83__tokens : Fld Z h83 ad83 "com/example/workflow_soundness/workflowsoundness/model/OmegaMarking" "_tokens" "[I" .null := D83 (Or.inr (hw _ (List.mem_of_getElem? (i := 11) rfl))) (ty := (.array .int)) (by decide)
          have F83__hash : Fld Z h83 ad83 "com/example/workflow_soundness/workflowsoundness/model/OmegaMarking" "_hash" "I" (.int (0 : Int32)) := D83 (Or.inr (hw _ (List.mem_of_getElem? (i := 17) rfl))) (ty := .int) (by decide)
          refine eDup X83 hx (hb hby at_147) rfl rfl ?_
          refine eALoad X83 hx (hb hby at_148) rfl rfl rfl ?_
          refine eCallI X83 hx hZ (y := (⟨"com/example/workflow_soundness/workflowsoundness/model/OmegaMarking", "<init>", "([I)V"⟩ : MethodName)) (a := ad83) rfl hown (hw _ (List.mem_of_getElem? (i := 4) rfl)) (hw _ (List.mem_of_getElem? (i := 5) rfl)) (hw _ (List.mem_of_getElem? (i := 3) rfl)) (hw _ (List.mem_of_getElem? (i := 6) rfl)) (by decide) e83 (rm1g l Z a0 hw [] ad83 ad63 (0 : Int32) [(fCell_0 p2), (fCell_0 p3), (fCell_0 p4), (fCell_0 p5)] h83 n0 Z83 A83 F83__tokens F83__hash Q63 A63 ge_ad83 (Ne.symm ne_ad63_ad83) (Nat.le_of_ble_eq_true rfl) (Nat.le_of_ble_eq_true rfl)) (argsL := [(.ref ad63)]) (rest := [(.ref ad83)]) (lenOf own_pd3 rfl) rfl (by rw [hml]; rfl) 1 (by exact Nat.le_refl _) (by decide) (by decide) (by decide) (by decide) (hb hby at_150) rfl (fun v84 T84 L84 q84 (X84 : Stand _ _ _ _ _ _ _ _ _ _ T84 _ 2 6) => ?_)
          obtain ⟨N84', K84', rfl, R84_0, R84_1, R84_2, R84_3, R84_4⟩ := q84
          have N84 := Fr.app N71 N84'
          have A63 := A63.keep K84' (ninS ne_ad63_ad83 nin0)
          have Q63 := Q63.keep K84'
          have A83 := A83.keep K84'
          have A83 := R84_0
          have F83__tokens : Fld Z T84.heap ad83 "com/example/workflow_soundness/workflowsoundness/model/OmegaMarking" "_tokens" "[I" (.ref ad63) := R84_1
          have F83__hash : Fld Z T84.heap ad83 "com/example/workflow_soundness/workflowsoundness/model/OmegaMarking" "_hash" "I" (.int (fIng_0 [(fCell_0 p2), (fCell_0 p3), (fCell_0 p4), (fCell_0 p5)])) := R84_2
          have Q63 := R84_3
          have A63 : Ar Z T84.heap ad63 .int [(fCell_0 p2), (fCell_0 p3), (fCell_0 p4), (fCell_0 p5)] := R84_4
          have Z84 := Nat.le_trans Z83 K84'.1
          show Ends p e below _ T84 m 153 #[.val (.int p1), .val (.int p2), .val (.int p3), .val (.int p4), .val (.int p5), .val (.int p6), .val (.int (4 : Int32)), .val (.ref ad63), .val (.int (1 : Int32)), .unset] [(.ref ad83)]
          refine eAStore X84 hx (hb hby at_153) rfl (L' := #[.val (.int p1), .val (.int p2), .val (.int p3), .val (.int p4), .val (.int p5), .val (.int p6), .val (.int (4 : Int32)), .val (.ref ad63), .val (.int (1 : Int32)), .val (.ref ad83)]) rfl rfl ?_
          refine eALoad X84 hx (hb hby at_155) rfl rfl rfl ?_
          refine eCallV X84 hx hZ (y := (⟨"com/example/workflow_soundness/workflowsoundness/model/OmegaMarking", "holdsOmega", "()Z"⟩ : MethodName)) hown (hw _ (List.mem_of_getElem? (i := 18) rfl)) (hw _ (List.mem_of_getElem? (i := 19) rfl)) (hw _ (List.mem_of_getElem? (i := 21) rfl)) (hw _ (List.mem_of_getElem? (i := 20) rfl)) (hw _ (List.mem_of_getElem? (i := 3) rfl)) (hw _ (List.mem_of_getElem? (i := 22) rfl)) (by decide) rfl A83 (rm4 l Z a0 hw [] ad83 ad63 [(fCell_0 p2), (fCell_0 p3), (fCell_0 p4), (fCell_0 p5)] T84.heap n0 Z84 F83__tokens A63 (Nat.le_of_ble_eq_true rfl)) (argsL := []) (rest := []) (lenOf own_pd4 rfl) rfl (by rw [hml]; rfl) 0 (by exact Nat.le_refl _) (by decide) (by decide) (by decide) (by decide) (hb hby at_157) rfl (fun v85 T85 L85 q85 (X85 : Stand _ _ _ _ _ _ _ _ _ _ T85 _ 2 6) => ?_)
          obtain ⟨N85', e85, rfl⟩ := q85
          have N85 := Fr.app N84 N85'
          show Ends p e below _ T85 m 160 #[.val (.int p1), .val (.int p2), .val (.int p3), .val (.int p4), .val (.int p5), .val (.int p6), .val (.int (4 : Int32)), .val (.ref ad63), .val (.int (1 : Int32)), .val (.ref ad83)] [(.int (fHo_0 [(fCell_0 p2), (fCell_0 p3), (fCell_0 p4), (fCell_0 p5)]))]
          refine eILoad X85 hx (hb hby at_160) rfl rfl ?_
          show Ends p e below (PVW s 16 128 n0 (if (fHo_0 [(fCell_0 p2), (fCell_0 p3), (fCell_0 p4), (fCell_0 p5)]) = (1 : Int32) then (1 : Int32) else (0 : Int32))) T85 m 162 #[.val (.int p1), .val (.int p2), .val (.int p3), .val (.int p4), .val (.int p5), .val (.int p6), .val (.int (4 : Int32)), .val (.ref ad63), .val (.int (1 : Int32)), .val (.ref ad83)] [(.int (1 : Int32)), (.int (fHo_0 [(fCell_0 p2), (fCell_0 p3), (fCell_0 p4), (fCell_0 p5)]))]
          by_cases c86 : (fHo_0 [(fCell_0 p2), (fCell_0 p3), (fCell_0 p4), (fCell_0 p5)]) = (1 : Int32)
          · rw [if_pos c86]
            refine eIcmpN X85 hx (hb hby at_162) (teq c86).2 rfl ?_
            refine eIConst X85 hx (1 : Int32) (hb hby at_165) rfl rfl ?_
            refine eGoto X85 hx (hb hby at_166) (by decide) (pc' := 170) rfl ?_
            exact eRetN X85 hx (t := .boolean) Bd.returns (by simp) hlk (hb hby at_170) (by decide) (by decide) ⟨rfl, N85⟩
          · rw [if_neg c86]
            refine eIcmpY X85 hx (hb hby at_162) (feq c86).2 (by decide) (pc' := 169) rfl ?_
            refine eIConst X85 hx (0 : Int32) (hb hby at_169) rfl rfl ?_
            exact eRetN X85 hx (t := .boolean) Bd.returns (by simp) hlk (hb hby at_170) (by decide) (by decide) ⟨rfl, N85⟩
        · rw [if_neg c82]
          refine eIfN X71 hx (hb hby at_112) ((if0 _ _).trans (flt c82).1) rfl ?_
          refine eILoad X71 hx (hb hby at_115) rfl rfl ?_
          refine eIConst X71 hx (3 : Int32) (hb hby at_117) rfl rfl ?_
          refine eIcmpN X71 hx (hb hby at_118) (tlt (by decide)).2.2.2 rfl ?_
          refine eILoad X71 hx (hb hby at_121) rfl rfl ?_
          show Ends p e below (PVW s 16 128 n0 (if p5 < (0 : Int32) then (if (fHo_0 [(fCell_0 p2), (fCell_0 p3), (fCell_0 p4), (fCell_0 p5)]) = (1 : Int32) then (1 : Int32) else (0 : Int32)) else (if (fHo_0 [(fCell_0 p2), (fCell_0 p3), (fCell_0 p4), (fCell_0 p5)]) = (0 : Int32) then (1 : Int32) else (0 : Int32)))) T71 m 123 #[.val (.int p1), .val (.int p2), .val (.int p3), .val (.int p4), .val (.int p5), .val (.int p6), .val (.int (4 : Int32)), .val (.ref ad63), .unset, .unset] [(.int p5)]
          by_cases c87 : p5 < (0 : Int32)
          · rw [if_pos c87]
            refine eIfY X71 hx (hb hby at_123) ((if0 _ _).trans (tlt c87).1) (by decide) (pc' := 137) rfl ?_
            refine eIConst X71 hx (1 : Int32) (hb hby at_137) rfl rfl ?_
            refine eGoto X71 hx (hb hby at_138) (by decide) (pc' := 142) rfl ?_
            refine eIStore X71 hx (hb hby at_142) (L' := #[.val (.int p1), .val (.int p2), .val (.int p3), .val (.int p4), .val (.int p5), .val (.int p6), .val (.int (4 : Int32)), .val (.ref ad63), .val (.int (1 : Int32)), .unset]) rfl rfl ?_
            refine eNewO X71 hx hZ hown (hw _ (List.mem_of_getElem? (i := 1) rfl)) (hw _ (List.mem_of_getElem? (i := 2) rfl)) (hw _ (List.mem_of_getElem? (i := 3) rfl)) e71 (hb hby at_144) (by decide) (by decide) rfl (fun T88 h88 ad88 g88 X88 e88 E88 A88 D88 => ?_)
            have ne_ad63_ad88 : ad63 ≠ ad88 := Nat.ne_of_lt (Nat.lt_of_lt_of_le A63.lt (Nat.le_of_eq g88.symm))
            have A63 := A63.ext E88
            have Q63 := Q63.ext E88
            have Z88 := Nat.le_trans Z71 E88.1
            have ge_ad88 : n0 ≤ ad88 := Nat.le_trans Z71 (Nat.le_of_eq g88.symm)
            have F88__tokens : Fld Z h88 ad88 "com/example/workflow_soundness/workflowsoundness/model/OmegaMarking" "_tokens" "[I" .null := D88 (Or.inr (hw _ (List.mem_of_getElem? (i := 11) rfl))) (ty := (.array .int)) (by decide)
            have F88__hash : Fld Z h88 ad88 "com/example/workflow_soundness/workflowsoundness/model/OmegaMarking" "_hash" "I" (.int (0 : Int32)) := D88 (Or.inr (hw _ (List.mem_of_getElem? (i := 17) rfl))) (ty := .int) (by decide)
            refine eDup X88 hx (hb hby at_147) rfl rfl ?_
            refine eALoad X88 hx (hb hby at_148) rfl rfl rfl ?_
            refine eCallI X88 hx hZ (y := (⟨"com/example/workflow_soundness/workflowsoundness/model/OmegaMarking", "<init>", "([I)V"⟩ : MethodName)) (a := ad88) rfl hown (hw _ (List.mem_of_getElem? (i := 4) rfl)) (hw _ (List.mem_of_getElem? (i := 5) rfl)) (hw _ (List.mem_of_getElem? (i := 3) rfl)) (hw _ (List.mem_of_getElem? (i := 6) rfl)) (by decide) e88 (rm1g l Z a0 hw [] ad88 ad63 (0 : Int32) [(fCell_0 p2), (fCell_0 p3), (fCell_0 p4), (fCell_0 p5)] h88 n0 Z88 A88 F88__tokens F88__hash Q63 A63 ge_ad88 (Ne.symm ne_ad63_ad88) (Nat.le_of_ble_eq_true rfl) (Nat.le_of_ble_eq_true rfl)) (argsL := [(.ref ad63)]) (rest := [(.ref ad88)]) (lenOf own_pd3 rfl) rfl (by rw [hml]; rfl) 1 (by exact Nat.le_refl _) (by decide) (by decide) (by decide) (by decide) (hb hby at_150) rfl (fun v89 T89 L89 q89 (X89 : Stand _ _ _ _ _ _ _ _ _ _ T89 _ 2 6) => ?_)
            obtain ⟨N89', K89', rfl, R89_0, R89_1, R89_2, R89_3, R89_4⟩ := q89
            have N89 := Fr.app N71 N89'
            have A63 := A63.keep K89' (ninS ne_ad63_ad88 nin0)
            have Q63 := Q63.keep K89'
            have A88 := A88.keep K89'
            have A88 := R89_0
            have F88__tokens : Fld Z T89.heap ad88 "com/example/workflow_soundness/workflowsoundness/model/OmegaMarking" "_tokens" "[I" (.ref ad63) := R89_1
            have F88__hash : Fld Z T89.heap ad88 "com/example/workflow_soundness/workflowsoundness/model/OmegaMarking" "_hash" "I" (.int (fIng_0 [(fCell_0 p2), (fCell_0 p3), (fCell_0 p4), (fCell_0 p5)])) := R89_2
            have Q63 := R89_3
            have A63 : Ar Z T89.heap ad63 .int [(fCell_0 p2), (fCell_0 p3), (fCell_0 p4), (fCell_0 p5)] := R89_4
            have Z89 := Nat.le_trans Z88 K89'.1
            show Ends p e below _ T89 m 153 #[.val (.int p1), .val (.int p2), .val (.int p3), .val (.int p4), .val (.int p5), .val (.int p6), .val (.int (4 : Int32)), .val (.ref ad63), .val (.int (1 : Int32)), .unset] [(.ref ad88)]
            refine eAStore X89 hx (hb hby at_153) rfl (L' := #[.val (.int p1), .val (.int p2), .val (.int p3), .val (.int p4), .val (.int p5), .val (.int p6), .val (.int (4 : Int32)), .val (.ref ad63), .val (.int (1 : Int32)), .val (.ref ad88)]) rfl rfl ?_
            refine eALoad X89 hx (hb hby at_155) rfl rfl rfl ?_
            refine eCallV X89 hx hZ (y := (⟨"com/example/workflow_soundness/workflowsoundness/model/OmegaMarking", "holdsOmega", "()Z"⟩ : MethodName)) hown (hw _ (List.mem_of_getElem? (i := 18) rfl)) (hw _ (List.mem_of_getElem? (i := 19) rfl)) (hw _ (List.mem_of_getElem? (i := 21) rfl)) (hw _ (List.mem_of_getElem? (i := 20) rfl)) (hw _ (List.mem_of_getElem? (i := 3) rfl)) (hw _ (List.mem_of_getElem? (i := 22) rfl)) (by decide) rfl A88 (rm4 l Z a0 hw [] ad88 ad63 [(fCell_0 p2), (fCell_0 p3), (fCell_0 p4), (fCell_0 p5)] T89.heap n0 Z89 F88__tokens A63 (Nat.le_of_ble_eq_true rfl)) (argsL := []) (rest := []) (lenOf own_pd4 rfl) rfl (by rw [hml]; rfl) 0 (by exact Nat.le_refl _) (by decide) (by decide) (by decide) (by decide) (hb hby at_157) rfl (fun v90 T90 L90 q90 (X90 : Stand _ _ _ _ _ _ _ _ _ _ T90 _ 2 6) => ?_)
            obtain ⟨N90', e90, rfl⟩ := q90
            have N90 := Fr.app N89 N90'
            show Ends p e below _ T90 m 160 #[.val (.int p1), .val (.int p2), .val (.int p3), .val (.int p4), .val (.int p5), .val (.int p6), .val (.int (4 : Int32)), .val (.ref ad63), .val (.int (1 : Int32)), .val (.ref ad88)] [(.int (fHo_0 [(fCell_0 p2), (fCell_0 p3), (fCell_0 p4), (fCell_0 p5)]))]
            refine eILoad X90 hx (hb hby at_160) rfl rfl ?_
            show Ends p e below (PVW s 16 128 n0 (if (fHo_0 [(fCell_0 p2), (fCell_0 p3), (fCell_0 p4), (fCell_0 p5)]) = (1 : Int32) then (1 : Int32) else (0 : Int32))) T90 m 162 #[.val (.int p1), .val (.int p2), .val (.int p3), .val (.int p4), .val (.int p5), .val (.int p6), .val (.int (4 : Int32)), .val (.ref ad63), .val (.int (1 : Int32)), .val (.ref ad88)] [(.int (1 : Int32)), (.int (fHo_0 [(fCell_0 p2), (fCell_0 p3), (fCell_0 p4), (fCell_0 p5)]))]
            by_cases c91 : (fHo_0 [(fCell_0 p2), (fCell_0 p3), (fCell_0 p4), (fCell_0 p5)]) = (1 : Int32)
            · rw [if_pos c91]
              refine eIcmpN X90 hx (hb hby at_162) (teq c91).2 rfl ?_
              refine eIConst X90 hx (1 : Int32) (hb hby at_165) rfl rfl ?_
              refine eGoto X90 hx (hb hby at_166) (by decide) (pc' := 170) rfl ?_
              exact eRetN X90 hx (t := .boolean) Bd.returns (by simp) hlk (hb hby at_170) (by decide) (by decide) ⟨rfl, N90⟩
            · rw [if_neg c91]
              refine eIcmpY X90 hx (hb hby at_162) (feq c91).2 (by decide) (pc' := 169) rfl ?_
              refine eIConst X90 hx (0 : Int32) (hb hby at_169) rfl rfl ?_
              exact eRetN X90 hx (t := .boolean) Bd.returns (by simp) hlk (hb hby at_170) (by decide) (by decide) ⟨rfl, N90⟩
          · rw [if_neg c87]
            refine eIfN X71 hx (hb hby at_123) ((if0 _ _).trans (flt c87).1) rfl ?_
            refine eILoad X71 hx (hb hby at_126) rfl rfl ?_
            refine eIConst X71 hx (4 : Int32) (hb hby at_128) rfl rfl ?_
            refine eIcmpY X71 hx (hb hby at_129) (flt (by decide)).2.2.2 (by decide) (pc' := 141) rfl ?_
            refine eIConst X71 hx (0 : Int32) (hb hby at_141) rfl rfl ?_
            refine eIStore X71 hx (hb hby at_142) (L' := #[.val (.int p1), .val (.int p2), .val (.int p3), .val (.int p4), .val (.int p5), .val (.int p6), .val (.int (4 : Int32)), .val (.ref ad63), .val (.int (0 : Int32)), .unset]) rfl rfl ?_
            refine eNewO X71 hx hZ hown (hw _ (List.mem_of_getElem? (i := 1) rfl)) (hw _ (List.mem_of_getElem? (i := 2) rfl)) (hw _ (List.mem_of_getElem? (i := 3) rfl)) e71 (hb hby at_144) (by decide) (by decide) rfl (fun T92 h92 ad92 g92 X92 e92 E92 A92 D92 => ?_)
            have ne_ad63_ad92 : ad63 ≠ ad92 := Nat.ne_of_lt (Nat.lt_of_lt_of_le A63.lt (Nat.le_of_eq g92.symm))
            have A63 := A63.ext E92
            have Q63 := Q63.ext E92
            have Z92 := Nat.le_trans Z71 E92.1
            have ge_ad92 : n0 ≤ ad92 := Nat.le_trans Z71 (Nat.le_of_eq g92.symm)
            have F92__tokens : Fld Z h92 ad92 "com/example/workflow_soundness/workflowsoundness/model/OmegaMarking" "_tokens" "[I" .null := D92 (Or.inr (hw _ (List.mem_of_getElem? (i := 11) rfl))) (ty := (.array .int)) (by decide)
            have F92__hash : Fld Z h92 ad92 "com/example/workflow_soundness/workflowsoundness/model/OmegaMarking" "_hash" "I" (.int (0 : Int32)) := D92 (Or.inr (hw _ (List.mem_of_getElem? (i := 17) rfl))) (ty := .int) (by decide)
            refine eDup X92 hx (hb hby at_147) rfl rfl ?_
            refine eALoad X92 hx (hb hby at_148) rfl rfl rfl ?_
            refine eCallI X92 hx hZ (y := (⟨"com/example/workflow_soundness/workflowsoundness/model/OmegaMarking", "<init>", "([I)V"⟩ : MethodName)) (a := ad92) rfl hown (hw _ (List.mem_of_getElem? (i := 4) rfl)) (hw _ (List.mem_of_getElem? (i := 5) rfl)) (hw _ (List.mem_of_getElem? (i := 3) rfl)) (hw _ (List.mem_of_getElem? (i := 6) rfl)) (by decide) e92 (rm1g l Z a0 hw [] ad92 ad63 (0 : Int32) [(fCell_0 p2), (fCell_0 p3), (fCell_0 p4), (fCell_0 p5)] h92 n0 Z92 A92 F92__tokens F92__hash Q63 A63 ge_ad92 (Ne.symm ne_ad63_ad92) (Nat.le_of_ble_eq_true rfl) (Nat.le_of_ble_eq_true rfl)) (argsL := [(.ref ad63)]) (rest := [(.ref ad92)]) (lenOf own_pd3 rfl) rfl (by rw [hml]; rfl) 1 (by exact Nat.le_refl _) (by decide) (by decide) (by decide) (by decide) (hb hby at_150) rfl (fun v93 T93 L93 q93 (X93 : Stand _ _ _ _ _ _ _ _ _ _ T93 _ 2 6) => ?_)
            obtain ⟨N93', K93', rfl, R93_0, R93_1, R93_2, R93_3, R93_4⟩ := q93
            have N93 := Fr.app N71 N93'
            have A63 := A63.keep K93' (ninS ne_ad63_ad92 nin0)
            have Q63 := Q63.keep K93'
            have A92 := A92.keep K93'
            have A92 := R93_0
            have F92__tokens : Fld Z T93.heap ad92 "com/example/workflow_soundness/workflowsoundness/model/OmegaMarking" "_tokens" "[I" (.ref ad63) := R93_1
            have F92__hash : Fld Z T93.heap ad92 "com/example/workflow_soundness/workflowsoundness/model/OmegaMarking" "_hash" "I" (.int (fIng_0 [(fCell_0 p2), (fCell_0 p3), (fCell_0 p4), (fCell_0 p5)])) := R93_2
            have Q63 := R93_3
            have A63 : Ar Z T93.heap ad63 .int [(fCell_0 p2), (fCell_0 p3), (fCell_0 p4), (fCell_0 p5)] := R93_4
            have Z93 := Nat.le_trans Z92 K93'.1
            show Ends p e below _ T93 m 153 #[.val (.int p1), .val (.int p2), .val (.int p3), .val (.int p4), .val (.int p5), .val (.int p6), .val (.int (4 : Int32)), .val (.ref ad63), .val (.int (0 : Int32)), .unset] [(.ref ad92)]
            refine eAStore X93 hx (hb hby at_153) rfl (L' := #[.val (.int p1), .val (.int p2), .val (.int p3), .val (.int p4), .val (.int p5), .val (.int p6), .val (.int (4 : Int32)), .val (.ref ad63), .val (.int (0 : Int32)), .val (.ref ad92)]) rfl rfl ?_
            refine eALoad X93 hx (hb hby at_155) rfl rfl rfl ?_
            refine eCallV X93 hx hZ (y := (⟨"com/example/workflow_soundness/workflowsoundness/model/OmegaMarking", "holdsOmega", "()Z"⟩ : MethodName)) hown (hw _ (List.mem_of_getElem? (i := 18) rfl)) (hw _ (List.mem_of_getElem? (i := 19) rfl)) (hw _ (List.mem_of_getElem? (i := 21) rfl)) (hw _ (List.mem_of_getElem? (i := 20) rfl)) (hw _ (List.mem_of_getElem? (i := 3) rfl)) (hw _ (List.mem_of_getElem? (i := 22) rfl)) (by decide) rfl A92 (rm4 l Z a0 hw [] ad92 ad63 [(fCell_0 p2), (fCell_0 p3), (fCell_0 p4), (fCell_0 p5)] T93.heap n0 Z93 F92__tokens A63 (Nat.le_of_ble_eq_true rfl)) (argsL := []) (rest := []) (lenOf own_pd4 rfl) rfl (by rw [hml]; rfl) 0 (by exact Nat.le_refl _) (by decide) (by decide) (by decide) (by decide) (hb hby at_157) rfl (fun v94 T94 L94 q94 (X94 : Stand _ _ _ _ _ _ _ _ _ _ T94 _ 2 6) => ?_)
            obtain ⟨N94', e94, rfl⟩ := q94
            have N94 := Fr.app N93 N94'
            show Ends p e below _ T94 m 160 #[.val (.int p1), .val (.int p2), .val (.int p3), .val (.int p4), .val (.int p5), .val (.int p6), .val (.int (4 : Int32)), .val (.ref ad63), .val (.int (0 : Int32)), .val (.ref ad92)] [(.int (fHo_0 [(fCell_0 p2), (fCell_0 p3), (fCell_0 p4), (fCell_0 p5)]))]
            refine eILoad X94 hx (hb hby at_160) rfl rfl ?_
            show Ends p e below (PVW s 16 128 n0 (if (fHo_0 [(fCell_0 p2), (fCell_0 p3), (fCell_0 p4), (fCell_0 p5)]) = (0 : Int32) then (1 : Int32) else (0 : Int32))) T94 m 162 #[.val (.int p1), .val (.int p2), .val (.int p3), .val (.int p4), .val (.int p5), .val (.int p6), .val (.int (4 : Int32)), .val (.ref ad63), .val (.int (0 : Int32)), .val (.ref ad92)] [(.int (0 : Int32)), (.int (fHo_0 [(fCell_0 p2), (fCell_0 p3), (fCell_0 p4), (fCell_0 p5)]))]
            by_cases c95 : (fHo_0 [(fCell_0 p2), (fCell_0 p3), (fCell_0 p4), (fCell_0 p5)]) = (0 : Int32)
            · rw [if_pos c95]
              refine eIcmpN X94 hx (hb hby at_162) (teq c95).2 rfl ?_
              refine eIConst X94 hx (1 : Int32) (hb hby at_165) rfl rfl ?_
              refine eGoto X94 hx (hb hby at_166) (by decide) (pc' := 170) rfl ?_
              exact eRetN X94 hx (t := .boolean) Bd.returns (by simp) hlk (hb hby at_170) (by decide) (by decide) ⟨rfl, N94⟩
            · rw [if_neg c95]
              refine eIcmpY X94 hx (hb hby at_162) (feq c95).2 (by decide) (pc' := 169) rfl ?_
              refine eIConst X94 hx (0 : Int32) (hb hby at_169) rfl rfl ?_
              exact eRetN X94 hx (t := .boolean) Bd.returns (by simp) hlk (hb hby at_170) (by decide) (by decide) ⟨rfl, N94⟩
  rw [if_neg hs136_4]
  by_cases hs136_5 : ((p1 &&& (7 : Int32)) % (6 : Int32)) = (5 : Int32)
  · rw [if_pos hs136_5, hs136_5]
    refine eILoad X0 hx (hb hby at_9) rfl rfl ?_
    refine eNewE X0 hx hZ rfl rfl (hw _ (List.mem_of_getElem? (i := 0) rfl)) e0 (hb hby at_11) (by decide) (cap := 5) (by decide) (by decide) (by decide) (by decide) "[I" (by decide) rfl (fun T96 h96 ad96 g96 X96 e96 E96 A96 Q96 => ?_)
    have Z96 := Nat.le_trans Z0 E96.1
    have ge_ad96 : n0 ≤ ad96 := Nat.le_trans Z0 (Nat.le_of_eq g96.symm)
    have A96 : Ar Z h96 ad96 .int [(0 : Int32), (0 : Int32), (0 : Int32), (0 : Int32), (0 : Int32)] := A96
    refine eAStore X96 hx (hb hby at_13) rfl (L' := #[.val (.int p1), .val (.int p2), .val (.int p3), .val (.int p4), .val (.int p5), .val (.int p6), .val (.int (5 : Int32)), .val (.ref ad96), .unset, .unset]) rfl rfl ?_
    refine eILoad X96 hx (hb hby at_15) rfl rfl ?_
    refine eIfN X96 hx (hb hby at_17) ((if0 _ _).trans (tlt (by decide)).2.2.2) rfl ?_
    refine eALoad X96 hx (hb hby at_20) rfl rfl rfl ?_
    refine eIConst X96 hx (0 : Int32) (hb hby at_22) rfl rfl ?_
    refine eILoadN X96 hx (hb hby at_23) rfl rfl ?_
    refine eCallS X96 hx hZ (y := (⟨"com/example/workflow_soundness/workflowsoundness/model/OmegaMarkingHoldsOmegaPinLaw", "cell", "(I)I"⟩ : MethodName)) hown (hw _ (List.mem_of_getElem? (i := 23) rfl)) (hw _ (List.mem_of_getElem? (i := 24) rfl)) (hw _ (List.mem_of_getElem? (i := 25) rfl)) (hw _ (List.mem_of_getElem? (i := 26) rfl)) (by decide) e96 (rm5 l Z a0 hw [] p2 h96 n0 Z96) (argsL := [(.int p2)]) (rest := [(.int (0 : Int32)), (.ref ad96)]) (lenOf own_pd5 rfl) rfl (by rw [hml]; rfl) 2 (by exact Nat.le_refl _) (by decide) (by decide) (by decide) (by decide) (hb hby at_24) rfl (fun v97 T97 L97 q97 (X97 : Stand _ _ _ _ _ _ _ _ _ _ T97 _ 1 5) => ?_)
    obtain ⟨rfl, N97', e97⟩ := q97
    have N97 := Fr.app N0 N97'
    show Ends p e below _ T97 m 27 #[.val (.int p1), .val (.int p2), .val (.int p3), .val (.int p4), .val (.int p5), .val (.int p6), .val (.int (5 : Int32)), .val (.ref ad96), .unset, .unset] [(.int (fCell_0 p2)), (.int (0 : Int32)), (.ref ad96)]
    refine eIAStore X97 hx hZ e97 A96 (inbL (n := 5) rfl (by decide)) (hb hby at_27) rfl (fun T98 h98 X98 e98 W98 B98 => ?_)
    have Q96 := Q96.wr W98
    have A96 : Ar Z h98 ad96 .int [(fCell_0 p2), (0 : Int32), (0 : Int32), (0 : Int32), (0 : Int32)] := B98
    have N98 := Fr.snoc X98 N97 ge_ad96
    have Z98 := Nat.le_trans Z96 (Keep.of_wr W98).1
    refine eILoad X98 hx (hb hby at_28) rfl rfl ?_
    refine eIConst X98 hx (1 : Int32) (hb hby at_30) rfl rfl ?_
    refine eIcmpN X98 hx (hb hby at_31) (tlt (by decide)).2.2.2 rfl ?_
    refine eALoad X98 hx (hb hby at_34) rfl rfl rfl ?_
    refine eIConst X98 hx (1 : Int32) (hb hby at_36) rfl rfl ?_
    refine eILoadN X98 hx (hb hby at_37) rfl rfl ?_
    refine eCallS X98 hx hZ (y := (⟨"com/example/workflow_soundness/workflowsoundness/model/OmegaMarkingHoldsOmegaPinLaw", "cell", "(I)I"⟩ : MethodName)) hown (hw _ (List.mem_of_getElem? (i := 23) rfl)) (hw _ (List.mem_of_getElem? (i := 24) rfl)) (hw _ (List.mem_of_getElem? (i := 25) rfl)) (hw _ (List.mem_of_getElem? (i := 26) rfl)) (by decide) e98 (rm5 l Z a0 hw [] p3 h98 n0 Z98) (argsL := [(.int p3)]) (rest := [(.int (1 : Int32)), (.ref ad96)]) (lenOf own_pd5 rfl) rfl (by rw [hml]; rfl) 2 (by exact Nat.le_refl _) (by decide) (by decide) (by decide) (by decide) (hb hby at_38) rfl (fun v99 T99 L99 q99 (X99 : Stand _ _ _ _ _ _ _ _ _ _ T99 _ 1 5) => ?_)
    obtain ⟨rfl, N99', e99⟩ := q99
    have N99 := Fr.app N98 N99'
    show Ends p e below _ T99 m 41 #[.val (.int p1), .val (.int p2), .val (.int p3), .val (.int p4), .val (.int p5), .val (.int p6), .val (.int (5 : Int32)), .val (.ref ad96), .unset, .unset] [(.int (fCell_0 p3)), (.int (1 : Int32)), (.ref ad96)]
    refine eIAStore X99 hx hZ e99 A96 (inbL (n := 5) rfl (by decide)) (hb hby at_41) rfl (fun T100 h100 X100 e100 W100 B100 => ?_)
    have Q96 := Q96.wr W100
    have A96 : Ar Z h100 ad96 .int [(fCell_0 p2), (fCell_0 p3), (0 : Int32), (0 : Int32), (0 : Int32)] := B100
    have N100 := Fr.snoc X100 N99 ge_ad96
    have Z100 := Nat.le_trans Z98 (Keep.of_wr W100).1
    refine eILoad X100 hx (hb hby at_42) rfl rfl ?_
    refine eIConst X100 hx (2 : Int32) (hb hby at_44) rfl rfl ?_
    refine eIcmpN X100 hx (hb hby at_45) (tlt (by decide)).2.2.2 rfl ?_
    refine eALoad X100 hx (hb hby at_48) rfl rfl rfl ?_
    refine eIConst X100 hx (2 : Int32) (hb hby at_50) rfl rfl ?_
    refine eILoadN X100 hx (hb hby at_51) rfl rfl ?_
    refine eCallS X100 hx hZ (y := (⟨"com/example/workflow_soundness/workflowsoundness/model/OmegaMarkingHoldsOmegaPinLaw", "cell", "(I)I"⟩ : MethodName)) hown (hw _ (List.mem_of_getElem? (i := 23) rfl)) (hw _ (List.mem_of_getElem? (i := 24) rfl)) (hw _ (List.mem_of_getElem? (i := 25) rfl)) (hw _ (List.mem_of_getElem? (i := 26) rfl)) (by decide) e100 (rm5 l Z a0 hw [] p4 h100 n0 Z100) (argsL := [(.int p4)]) (rest := [(.int (2 : Int32)), (.ref ad96)]) (lenOf own_pd5 rfl) rfl (by rw [hml]; rfl) 2 (by exact Nat.le_refl _) (by decide) (by decide) (by decide) (by decide) (hb hby at_52) rfl (fun v101 T101 L101 q101 (X101 : Stand _ _ _ _ _ _ _ _ _ _ T101 _ 1 5) => ?_)
    obtain ⟨rfl, N101', e101⟩ := q101
    have N101 := Fr.app N100 N101'
    show Ends p e below _ T101 m 55 #[.val (.int p1), .val (.int p2), .val (.int p3), .val (.int p4), .val (.int p5), .val (.int p6), .val (.int (5 : Int32)), .val (.ref ad96), .unset, .unset] [(.int (fCell_0 p4)), (.int (2 : Int32)), (.ref ad96)]
    refine eIAStore X101 hx hZ e101 A96 (inbL (n := 5) rfl (by decide)) (hb hby at_55) rfl (fun T102 h102 X102 e102 W102 B102 => ?_)
    have Q96 := Q96.wr W102
    have A96 : Ar Z h102 ad96 .int [(fCell_0 p2), (fCell_0 p3), (fCell_0 p4), (0 : Int32), (0 : Int32)] := B102
    have N102 := Fr.snoc X102 N101 ge_ad96
    have Z102 := Nat.le_trans Z100 (Keep.of_wr W102).1
    refine eILoad X102 hx (hb hby at_56) rfl rfl ?_
    refine eIConst X102 hx (3 : Int32) (hb hby at_58) rfl rfl ?_
    refine eIcmpN X102 hx (hb hby at_59) (tlt (by decide)).2.2.2 rfl ?_
    refine eALoad X102 hx (hb hby at_62) rfl rfl rfl ?_
    refine eIConst X102 hx (3 : Int32) (hb hby at_64) rfl rfl ?_
    refine eILoad X102 hx (hb hby at_65) rfl rfl ?_
    refine eCallS X102 hx hZ (y := (⟨"com/example/workflow_soundness/workflowsoundness/model/OmegaMarkingHoldsOmegaPinLaw", "cell", "(I)I"⟩ : MethodName)) hown (hw _ (List.mem_of_getElem? (i := 23) rfl)) (hw _ (List.mem_of_getElem? (i := 24) rfl)) (hw _ (List.mem_of_getElem? (i := 25) rfl)) (hw _ (List.mem_of_getElem? (i := 26) rfl)) (by decide) e102 (rm5 l Z a0 hw [] p5 h102 n0 Z102) (argsL := [(.int p5)]) (rest := [(.int (3 : Int32)), (.ref ad96)]) (lenOf own_pd5 rfl) rfl (by rw [hml]; rfl) 2 (by exact Nat.le_refl _) (by decide) (by decide) (by decide) (by decide) (hb hby at_67) rfl (fun v103 T103 L103 q103 (X103 : Stand _ _ _ _ _ _ _ _ _ _ T103 _ 1 5) => ?_)
    obtain ⟨rfl, N103', e103⟩ := q103
    have N103 := Fr.app N102 N103'
    show Ends p e below _ T103 m 70 #[.val (.int p1), .val (.int p2), .val (.int p3), .val (.int p4), .val (.int p5), .val (.int p6), .val (.int (5 : Int32)), .val (.ref ad96), .unset, .unset] [(.int (fCell_0 p5)), (.int (3 : Int32)), (.ref ad96)]
    refine eIAStore X103 hx hZ e103 A96 (inbL (n := 5) rfl (by decide)) (hb hby at_70) rfl (fun T104 h104 X104 e104 W104 B104 => ?_)
    have Q96 := Q96.wr W104
    have A96 : Ar Z h104 ad96 .int [(fCell_0 p2), (fCell_0 p3), (fCell_0 p4), (fCell_0 p5), (0 : Int32)] := B104
    have N104 := Fr.snoc X104 N103 ge_ad96
    have Z104 := Nat.le_trans Z102 (Keep.of_wr W104).1
    refine eILoad X104 hx (hb hby at_71) rfl rfl ?_
    refine eIConst X104 hx (4 : Int32) (hb hby at_73) rfl rfl ?_
    refine eIcmpN X104 hx (hb hby at_74) (tlt (by decide)).2.2.2 rfl ?_
    refine eALoad X104 hx (hb hby at_77) rfl rfl rfl ?_
    refine eIConst X104 hx (4 : Int32) (hb hby at_79) rfl rfl ?_
    refine eILoad X104 hx (hb hby at_80) rfl rfl ?_
    refine eCallS X104 hx hZ (y := (⟨"com/example/workflow_soundness/workflowsoundness/model/OmegaMarkingHoldsOmegaPinLaw", "cell", "(I)I"⟩ : MethodName)) hown (hw _ (List.mem_of_getElem? (i := 23) rfl)) (hw _ (List.mem_of_getElem? (i := 24) rfl)) (hw _ (List.mem_of_getElem? (i := 25) rfl)) (hw _ (List.mem_of_getElem? (i := 26) rfl)) (by decide) e104 (rm5 l Z a0 hw [] p6 h104 n0 Z104) (argsL := [(.int p6)]) (rest := [(.int (4 : Int32)), (.ref ad96)]) (lenOf own_pd5 rfl) rfl (by rw [hml]; rfl) 2 (by exact Nat.le_refl _) (by decide) (by decide) (by decide) (by decide) (hb hby at_82) rfl (fun v105 T105 L105 q105 (X105 : Stand _ _ _ _ _ _ _ _ _ _ T105 _ 1 5) => ?_)
    obtain ⟨rfl, N105', e105⟩ := q105
    have N105 := Fr.app N104 N105'
    show Ends p e below _ T105 m 85 #[.val (.int p1), .val (.int p2), .val (.int p3), .val (.int p4), .val (.int p5), .val (.int p6), .val (.int (5 : Int32)), .val (.ref ad96), .unset, .unset] [(.int (fCell_0 p6)), (.int (4 : Int32)), (.ref ad96)]
    refine eIAStore X105 hx hZ e105 A96 (inbL (n := 5) rfl (by decide)) (hb hby at_85) rfl (fun T106 h106 X106 e106 W106 B106 => ?_)
    have Q96 := Q96.wr W106
    have A96 : Ar Z h106 ad96 .int [(fCell_0 p2), (fCell_0 p3), (fCell_0 p4), (fCell_0 p5), (fCell_0 p6)] := B106
    have N106 := Fr.snoc X106 N105 ge_ad96
    have Z106 := Nat.le_trans Z104 (Keep.of_wr W106).1
    refine eILoad X106 hx (hb hby at_86) rfl rfl ?_
    refine eIfN X106 hx (hb hby at_88) ((if0 _ _).trans (tlt (by decide)).2.2.2) rfl ?_
    refine eILoadN X106 hx (hb hby at_91) rfl rfl ?_
    show Ends p e below (PVW s 16 128 n0 (if p2 < (0 : Int32) then (if (fHo_0 [(fCell_0 p2), (fCell_0 p3), (fCell_0 p4), (fCell_0 p5), (fCell_0 p6)]) = (1 : Int32) then (1 : Int32) else (0 : Int32)) else (if p3 < (0 : Int32) then (if (fHo_0 [(fCell_0 p2), (fCell_0 p3), (fCell_0 p4), (fCell_0 p5), (fCell_0 p6)]) = (1 : Int32) then (1 : Int32) else (0 : Int32)) else (if p4 < (0 : Int32) then (if (fHo_0 [(fCell_0 p2), (fCell_0 p3), (fCell_0 p4), (fCell_0 p5), (fCell_0 p6)]) = (1 : Int32) then (1 : Int32) else (0 : Int32)) else (if p5 < (0 : Int32) then (if (fHo_0 [(fCell_0 p2), (fCell_0 p3), (fCell_0 p4), (fCell_0 p5), (fCell_0 p6)]) = (1 : Int32) then (1 : Int32) else (0 : Int32)) else (if p6 < (0 : Int32) then (if (fHo_0 [(fCell_0 p2), (fCell_0 p3), (fCell_0 p4), (fCell_0 p5), (fCell_0 p6)]) = (1 : Int32) then (1 : Int32) else (0 : Int32)) else (if (fHo_0 [(fCell_0 p2), (fCell_0 p3), (fCell_0 p4), (fCell_0 p5), (fCell_0 p6)]) = (0 : Int32) then (1 : Int32) else (0 : Int32)))))))) T106 m 92 #[.val (.int p1), .val (.int p2), .val (.int p3), .val (.int p4), .val (.int p5), .val (.int p6), .val (.int (5 : Int32)), .val (.ref ad96), .unset, .unset] [(.int p2)]
    by_cases c107 : p2 < (0 : Int32)
    · rw [if_pos c107]
      refine eIfY X106 hx (hb hby at_92) ((if0 _ _).trans (tlt c107).1) (by decide) (pc' := 137) rfl ?_
      refine eIConst X106 hx (1 : Int32) (hb hby at_137) rfl rfl ?_
      refine eGoto X106 hx (hb hby at_138) (by decide) (pc' := 142) rfl ?_
      refine eIStore X106 hx (hb hby at_142) (L' := #[.val (.int p1), .val (.int p2), .val (.int p3), .val (.int p4), .val (.int p5), .val (.int p6), .val (.int (5 : Int32)), .val (.ref ad96), .val (.int (1 : Int32)), .unset]) rfl rfl ?_
      refine eNewO X106 hx hZ hown (hw _ (List.mem_of_getElem? (i := 1) rfl)) (hw _ (List.mem_of_getElem? (i := 2) rfl)) (hw _ (List.mem_of_getElem? (i := 3) rfl)) e106 (hb hby at_144) (by decide) (by decide) rfl (fun T108 h108 ad108 g108 X108 e108 E108 A108 D108 => ?_)
      have ne_ad96_ad108 : ad96 ≠ ad108 := Nat.ne_of_lt (Nat.lt_of_lt_of_le A96.lt (Nat.le_of_eq g108.symm))
      have A96 := A96.ext E108
      have Q96 := Q96.ext E108
      have Z108 := Nat.le_trans Z106 E108.1
      have ge_ad108 : n0 ≤ ad108 := Nat.le_trans Z106 (Nat.le_of_eq g108.symm)
      have F108__tokens : Fld Z h108 ad108 "com/example/workflow_soundness/workflowsoundness/model/OmegaMarking" "_tokens" "[I" .null := D108 (Or.inr (hw _ (List.mem_of_getElem? (i := 11) rfl))) (ty := (.array .int)) (by decide)
      have F108__hash : Fld Z h108 ad108 "com/example/workflow_soundness/workflowsoundness/model/OmegaMarking" "_hash" "I" (.int (0 : Int32)) := D108 (Or.inr (hw _ (List.mem_of_getElem? (i := 17) rfl))) (ty := .int) (by decide)
      refine eDup X108 hx (hb hby at_147) rfl rfl ?_
      refine eALoad X108 hx (hb hby at_148) rfl rfl rfl ?_
      refine eCallI X108 hx hZ (y := (⟨"com/example/workflow_soundness/workflowsoundness/model/OmegaMarking", "<init>", "([I)V"⟩ : MethodName)) (a := ad108) rfl hown (hw _ (List.mem_of_getElem? (i := 4) rfl)) (hw _ (List.mem_of_getElem? (i := 5) rfl)) (hw _ (List.mem_of_getElem? (i := 3) rfl)) (hw _ (List.mem_of_getElem? (i := 6) rfl)) (by decide) e108 (rm1g l Z a0 hw [] ad108 ad96 (0 : Int32) [(fCell_0 p2), (fCell_0 p3), (fCell_0 p4), (fCell_0 p5), (fCell_0 p6)] h108 n0 Z108 A108 F108__tokens F108__hash Q96 A96 ge_ad108 (Ne.symm ne_ad96_ad108) (Nat.le_of_ble_eq_true rfl) (Nat.le_of_ble_eq_true rfl)) (argsL := [(.ref ad96)]) (rest := [(.ref ad108)]) (lenOf own_pd3 rfl) rfl (by rw [hml]; rfl) 1 (by exact Nat.le_refl _) (by decide) (by decide) (by decide) (by decide) (hb hby at_150) rfl (fun v109 T109 L109 q109 (X109 : Stand _ _ _ _ _ _ _ _ _ _ T109 _ 2 7) => ?_)
      obtain ⟨N109', K109', rfl, R109_0, R109_1, R109_2, R109_3, R109_4⟩ := q109
      have N109 := Fr.app N106 N109'
      have A96 := A96.keep K109' (ninS ne_ad96_ad108 nin0)
      have Q96 := Q96.keep K109'
      have A108 := A108.keep K109'
      have A108 := R109_0
      have F108__tokens : Fld Z T109.heap ad108 "com/example/workflow_soundness/workflowsoundness/model/OmegaMarking" "_tokens" "[I" (.ref ad96) := R109_1
      have F108__hash : Fld Z T109.heap ad108 "com/example/workflow_soundness/workflowsoundness/model/OmegaMarking" "_hash" "I" (.int (fIng_0 [(fCell_0 p2), (fCell_0 p3), (fCell_0 p4), (fCell_0 p5), (fCell_0 p6)])) := R109_2
      have Q96 := R109_3
      have A96 : Ar Z T109.heap ad96 .int [(fCell_0 p2), (fCell_0 p3), (fCell_0 p4), (fCell_0 p5), (fCell_0 p6)] := R109_4
      have Z109 := Nat.le_trans Z108 K109'.1
      show Ends p e below _ T109 m 153 #[.val (.int p1), .val (.int p2), .val (.int p3), .val (.int p4), .val (.int p5), .val (.int p6), .val (.int (5 : Int32)), .val (.ref ad96), .val (.int (1 : Int32)), .unset] [(.ref ad108)]
      refine eAStore X109 hx (hb hby at_153) rfl (L' := #[.val (.int p1), .val (.int p2), .val (.int p3), .val (.int p4), .val (.int p5), .val (.int p6), .val (.int (5 : Int32)), .val (.ref ad96), .val (.int (1 : Int32)), .val (.ref ad108)]) rfl rfl ?_
      refine eALoad X109 hx (hb hby at_155) rfl rfl rfl ?_
      refine eCallV X109 hx hZ (y := (⟨"com/example/workflow_soundness/workflowsoundness/model/OmegaMarking", "holdsOmega", "()Z"⟩ : MethodName)) hown (hw _ (List.mem_of_getElem? (i := 18) rfl)) (hw _ (List.mem_of_getElem? (i := 19) rfl)) (hw _ (List.mem_of_getElem? (i := 21) rfl)) (hw _ (List.mem_of_getElem? (i := 20) rfl)) (hw _ (List.mem_of_getElem? (i := 3) rfl)) (hw _ (List.mem_of_getElem? (i := 22) rfl)) (by decide) rfl A108 (rm4 l Z a0 hw [] ad108 ad96 [(fCell_0 p2), (fCell_0 p3), (fCell_0 p4), (fCell_0 p5), (fCell_0 p6)] T109.heap n0 Z109 F108__tokens A96 (Nat.le_of_ble_eq_true rfl)) (argsL := []) (rest := []) (lenOf own_pd4 rfl) rfl (by rw [hml]; rfl) 0 (by exact Nat.le_refl _) (by decide) (by decide) (by decide) (by decide) (hb hby at_157) rfl (fun v110 T110 L110 q110 (X110 : Stand _ _ _ _ _ _ _ _ _ _ T110 _ 2 7) => ?_)
      obtain ⟨N110', e110, rfl⟩ := q110
      have N110 := Fr.app N109 N110'
      show Ends p e below _ T110 m 160 #[.val (.int p1), .val (.int p2), .val (.int p3), .val (.int p4), .val (.int p5), .val (.int p6), .val (.int (5 : Int32)), .val (.ref ad96), .val (.int (1 : Int32)), .val (.ref ad108)] [(.int (fHo_0 [(fCell_0 p2), (fCell_0 p3), (fCell_0 p4), (fCell_0 p5), (fCell_0 p6)]))]
      refine eILoad X110 hx (hb hby at_160) rfl rfl ?_
      show Ends p e below (PVW s 16 128 n0 (if (fHo_0 [(fCell_0 p2), (fCell_0 p3), (fCell_0 p4), (fCell_0 p5), (fCell_0 p6)]) = (1 : Int32) then (1 : Int32) else (0 : Int32))) T110 m 162 #[.val (.int p1), .val (.int p2), .val (.int p3), .val (.int p4), .val (.int p5), .val (.int p6), .val (.int (5 : Int32)), .val (.ref ad96), .val (.int (1 : Int32)), .val (.ref ad108)] [(.int (1 : Int32)), (.int (fHo_0 [(fCell_0 p2), (fCell_0 p3), (fCell_0 p4), (fCell_0 p5), (fCell_0 p6)]))]
      by_cases c111 : (fHo_0 [(fCell_0 p2), (fCell_0 p3), (fCell_0 p4), (fCell_0 p5), (fCell_0 p6)]) = (1 : Int32)
      · rw [if_pos c111]
        refine eIcmpN X110 hx (hb hby at_162) (teq c111).2 rfl ?_
        refine eIConst X110 hx (1 : Int32) (hb hby at_165) rfl rfl ?_
        refine eGoto X110 hx (hb hby at_166) (by decide) (pc' := 170) rfl ?_
        exact eRetN X110 hx (t := .boolean) Bd.returns (by simp) hlk (hb hby at_170) (by decide) (by decide) ⟨rfl, N110⟩
      · rw [if_neg c111]
        refine eIcmpY X110 hx (hb hby at_162) (feq c111).2 (by decide) (pc' := 169) rfl ?_
        refine eIConst X110 hx (0 : Int32) (hb hby at_169) rfl rfl ?_
        exact eRetN X110 hx (t := .boolean) Bd.returns (by simp) hlk (hb hby at_170) (by decide) (by decide) ⟨rfl, N110⟩
    · rw [if_neg c107]
      refine eIfN X106 hx (hb hby at_92) ((if0 _ _).trans (flt c107).1) rfl ?_
      refine eILoad X106 hx (hb hby at_95) rfl rfl ?_
      refine eIConst X106 hx (1 : Int32) (hb hby at_97) rfl rfl ?_
      refine eIcmpN X106 hx (hb hby at_98) (tlt (by decide)).2.2.2 rfl ?_
      refine eILoadN X106 hx (hb hby at_101) rfl rfl ?_
      show Ends p e below (PVW s 16 128 n0 (if p3 < (0 : Int32) then (if (fHo_0 [(fCell_0 p2), (fCell_0 p3), (fCell_0 p4), (fCell_0 p5), (fCell_0 p6)]) = (1 : Int32) then (1 : Int32) else (0 : Int32)) else (if p4 < (0 : Int32) then (if (fHo_0 [(fCell_0 p2), (fCell_0 p3), (fCell_0 p4), (fCell_0 p5), (fCell_0 p6)]) = (1 : Int32) then (1 : Int32) else (0 : Int32)) else (if p5 < (0 : Int32) then (if (fHo_0 [(fCell_0 p2), (fCell_0 p3), (fCell_0 p4), (fCell_0 p5), (fCell_0 p6)]) = (1 : Int32) then (1 : Int32) else (0 : Int32)) else (if p6 < (0 : Int32) then (if (fHo_0 [(fCell_0 p2), (fCell_0 p3), (fCell_0 p4), (fCell_0 p5), (fCell_0 p6)]) = (1 : Int32) then (1 : Int32) else (0 : Int32)) else (if (fHo_0 [(fCell_0 p2), (fCell_0 p3), (fCell_0 p4), (fCell_0 p5), (fCell_0 p6)]) = (0 : Int32) then (1 : Int32) else (0 : Int32))))))) T106 m 102 #[.val (.int p1), .val (.int p2), .val (.int p3), .val (.int p4), .val (.int p5), .val (.int p6), .val (.int (5 : Int32)), .val (.ref ad96), .unset, .unset] [(.int p3)]
      by_cases c112 : p3 < (0 : Int32)
      · rw [if_pos c112]
        refine eIfY X106 hx (hb hby at_102) ((if0 _ _).trans (tlt c112).1) (by decide) (pc' := 137) rfl ?_
        refine eIConst X106 hx (1 : Int32) (hb hby at_137) rfl rfl ?_
        refine eGoto X106 hx (hb hby at_138) (by decide) (pc' := 142) rfl ?_
        refine eIStore X106 hx (hb hby at_142) (L' := #[.val (.int p1), .val (.int p2), .val (.int p3), .val (.int p4), .val (.int p5), .val (.int p6), .val (.int (5 : Int32)), .val (.ref ad96), .val (.int (1 : Int32)), .unset]) rfl rfl ?_
        refine eNewO X106 hx hZ hown (hw _ (List.mem_of_getElem? (i := 1) rfl)) (hw _ (List.mem_of_getElem? (i := 2) rfl)) (hw _ (List.mem_of_getElem? (i := 3) rfl)) e106 (hb hby at_144) (by decide) (by decide) rfl (fun T113 h113 ad113 g113 X113 e113 E113 A113 D113 => ?_)
        have ne_ad96_ad113 : ad96 ≠ ad113 := Nat.ne_of_lt (Nat.lt_of_lt_of_le A96.lt (Nat.le_of_eq g113.symm))
        have A96 := A96.ext E113
        have Q96 := Q96.ext E113
        have Z113 := Nat.le_trans Z106 E113.1
        have ge_ad113 : n0 ≤ ad113 := Nat.le_trans Z106 (Nat.le_of_eq g113.symm)
        have F113__tokens : Fld Z h113 ad113 "com/example/workflow_soundness/workflowsoundness/model/OmegaMarking" "_tokens" "[I" .null := D113 (Or.inr (hw _ (List.mem_of_getElem? (i := 11) rfl))) (ty := (.array .int)) (by decide)
        have F113__hash : Fld Z h113 ad113 "com/example/workflow_soundness/workflowsoundness/model/OmegaMarking" "_hash" "I" (.int (0 : Int32)) := D113 (Or.inr (hw _ (List.mem_of_getElem? (i := 17) rfl))) (ty := .int) (by decide)
        refine eDup X113 hx (hb hby at_147) rfl rfl ?_
        refine eALoad X113 hx (hb hby at_148) rfl rfl rfl ?_
        refine eCallI X113 hx hZ (y := (⟨"com/example/workflow_soundness/workflowsoundness/model/OmegaMarking", "<init>", "([I)V"⟩ : MethodName)) (a := ad113) rfl hown (hw _ (List.mem_of_getElem? (i := 4) rfl)) (hw _ (List.mem_of_getElem? (i := 5) rfl)) (hw _ (List.mem_of_getElem? (i := 3) rfl)) (hw _ (List.mem_of_getElem? (i := 6) rfl)) (by decide) e113 (rm1g l Z a0 hw [] ad113 ad96 (0 : Int32) [(fCell_0 p2), (fCell_0 p3), (fCell_0 p4), (fCell_0 p5), (fCell_0 p6)] h113 n0 Z113 A113 F113__tokens F113__hash Q96 A96 ge_ad113 (Ne.symm ne_ad96_ad113) (Nat.le_of_ble_eq_true rfl) (Nat.le_of_ble_eq_true rfl)) (argsL := [(.ref ad96)]) (rest := [(.ref ad113)]) (lenOf own_pd3 rfl) rfl (by rw [hml]; rfl) 1 (by exact Nat.le_refl _) (by decide) (by decide) (by decide) (by decide) (hb hby at_150) rfl (fun v114 T114 L114 q114 (X114 : Stand _ _ _ _ _ _ _ _ _ _ T114 _ 2 7) => ?_)
        obtain ⟨N114', K114', rfl, R114_0, R114_1, R114_2, R114_3, R114_4⟩ := q114
        have N114 := Fr.app N106 N114'
        have A96 := A96.keep K114' (ninS ne_ad96_ad113 nin0)
        have Q96 := Q96.keep K114'
        have A113 := A113.keep K114'
        have A113 := R114_0
        have F113__tokens : Fld Z T114.heap ad113 "com/example/workflow_soundness/workflowsoundness/model/OmegaMarking" "_tokens" "[I" (.ref ad96) := R114_1
        have F113__hash : Fld Z T114.heap ad113 "com/example/workflow_soundness/workflowsoundness/model/OmegaMarking" "_hash" "I" (.int (fIng_0 [(fCell_0 p2), (fCell_0 p3), (fCell_0 p4), (fCell_0 p5), (fCell_0 p6)])) := R114_2
        have Q96 := R114_3
        have A96 : Ar Z T114.heap ad96 .int [(fCell_0 p2), (fCell_0 p3), (fCell_0 p4), (fCell_0 p5), (fCell_0 p6)] := R114_4
        have Z114 := Nat.le_trans Z113 K114'.1
        show Ends p e below _ T114 m 153 #[.val (.int p1), .val (.int p2), .val (.int p3), .val (.int p4), .val (.int p5), .val (.int p6), .val (.int (5 : Int32)), .val (.ref ad96), .val (.int (1 : Int32)), .unset] [(.ref ad113)]
        refine eAStore X114 hx (hb hby at_153) rfl (L' := #[.val (.int p1), .val (.int p2), .val (.int p3), .val (.int p4), .val (.int p5), .val (.int p6), .val (.int (5 : Int32)), .val (.ref ad96), .val (.int (1 : Int32)), .val (.ref ad113)]) rfl rfl ?_
        refine eALoad X114 hx (hb hby at_155) rfl rfl rfl ?_
        refine eCallV X114 hx hZ (y := (⟨"com/example/workflow_soundness/workflowsoundness/model/OmegaMarking", "holdsOmega", "()Z"⟩ : MethodName)) hown (hw _ (List.mem_of_getElem? (i := 18) rfl)) (hw _ (List.mem_of_getElem? (i := 19) rfl)) (hw _ (List.mem_of_getElem? (i := 21) rfl)) (hw _ (List.mem_of_getElem? (i := 20) rfl)) (hw _ (List.mem_of_getElem? (i := 3) rfl)) (hw _ (List.mem_of_getElem? (i := 22) rfl)) (by decide) rfl A113 (rm4 l Z a0 hw [] ad113 ad96 [(fCell_0 p2), (fCell_0 p3), (fCell_0 p4), (fCell_0 p5), (fCell_0 p6)] T114.heap n0 Z114 F113__tokens A96 (Nat.le_of_ble_eq_true rfl)) (argsL := []) (rest := []) (lenOf own_pd4 rfl) rfl (by rw [hml]; rfl) 0 (by exact Nat.le_refl _) (by decide) (by decide) (by decide) (by decide) (hb hby at_157) rfl (fun v115 T115 L115 q115 (X115 : Stand _ _ _ _ _ _ _ _ _ _ T115 _ 2 7) => ?_)
        obtain ⟨N115', e115, rfl⟩ := q115
        have N115 := Fr.app N114 N115'
        show Ends p e below _ T115 m 160 #[.val (.int p1), .val (.int p2), .val (.int p3), .val (.int p4), .val (.int p5), .val (.int p6), .val (.int (5 : Int32)), .val (.ref ad96), .val (.int (1 : Int32)), .val (.ref ad113)] [(.int (fHo_0 [(fCell_0 p2), (fCell_0 p3), (fCell_0 p4), (fCell_0 p5), (fCell_0 p6)]))]
        refine eILoad X115 hx (hb hby at_160) rfl rfl ?_
        show Ends p e below (PVW s 16 128 n0 (if (fHo_0 [(fCell_0 p2), (fCell_0 p3), (fCell_0 p4), (fCell_0 p5), (fCell_0 p6)]) = (1 : Int32) then (1 : Int32) else (0 : Int32))) T115 m 162 #[.val (.int p1), .val (.int p2), .val (.int p3), .val (.int p4), .val (.int p5), .val (.int p6), .val (.int (5 : Int32)), .val (.ref ad96), .val (.int (1 : Int32)), .val (.ref ad113)] [(.int (1 : Int32)), (.int (fHo_0 [(fCell_0 p2), (fCell_0 p3), (fCell_0 p4), (fCell_0 p5), (fCell_0 p6)]))]
        by_cases c116 : (fHo_0 [(fCell_0 p2), (fCell_0 p3), (fCell_0 p4), (fCell_0 p5), (fCell_0 p6)]) = (1 : Int32)
        · rw [if_pos c116]
          refine eIcmpN X115 hx (hb hby at_162) (teq c116).2 rfl ?_
          refine eIConst X115 hx (1 : Int32) (hb hby at_165) rfl rfl ?_
          refine eGoto X115 hx (hb hby at_166) (by decide) (pc' := 170) rfl ?_
          exact eRetN X115 hx (t := .boolean) Bd.returns (by simp) hlk (hb hby at_170) (by decide) (by decide) ⟨rfl, N115⟩
        · rw [if_neg c116]
          refine eIcmpY X115 hx (hb hby at_162) (feq c116).2 (by decide) (pc' := 169) rfl ?_
          refine eIConst X115 hx (0 : Int32) (hb hby at_169) rfl rfl ?_
          exact eRetN X115 hx (t := .boolean) Bd.returns (by simp) hlk (hb hby at_170) (by decide) (by decide) ⟨rfl, N115⟩
      · rw [if_neg c112]
        refine eIfN X106 hx (hb hby at_102) ((if0 _ _).trans (flt c112).1) rfl ?_
        refine eILoad X106 hx (hb hby at_105) rfl rfl ?_
        refine eIConst X106 hx (2 : Int32) (hb hby at_107) rfl rfl ?_
        refine eIcmpN X106 hx (hb hby at_108) (tlt (by decide)).2.2.2 rfl ?_
        refine eILoadN X106 hx (hb hby at_111) rfl rfl ?_
        show Ends p e below (PVW s 16 128 n0 (if p4 < (0 : Int32) then (if (fHo_0 [(fCell_0 p2), (fCell_0 p3), (fCell_0 p4), (fCell_0 p5), (fCell_0 p6)]) = (1 : Int32) then (1 : Int32) else (0 : Int32)) else (if p5 < (0 : Int32) then (if (fHo_0 [(fCell_0 p2), (fCell_0 p3), (fCell_0 p4), (fCell_0 p5), (fCell_0 p6)]) = (1 : Int32) then (1 : Int32) else (0 : Int32)) else (if p6 < (0 : Int32) then (if (fHo_0 [(fCell_0 p2), (fCell_0 p3), (fCell_0 p4), (fCell_0 p5), (fCell_0 p6)]) = (1 : Int32) then (1 : Int32) else (0 : Int32)) else (if (fHo_0 [(fCell_0 p2), (fCell_0 p3), (fCell_0 p4), (fCell_0 p5), (fCell_0 p6)]) = (0 : Int32) then (1 : Int32) else (0 : Int32)))))) T106 m 112 #[.val (.int p1), .val (.int p2), .val (.int p3), .val (.int p4), .val (.int p5), .val (.int p6), .val (.int (5 : Int32)), .val (.ref ad96), .unset, .unset] [(.int p4)]
        by_cases c117 : p4 < (0 : Int32)
        · rw [if_pos c117]
          refine eIfY X106 hx (hb hby at_112) ((if0 _ _).trans (tlt c117).1) (by decide) (pc' := 137) rfl ?_
          refine eIConst X106 hx (1 : Int32) (hb hby at_137) rfl rfl ?_
          refine eGoto X106 hx (hb hby at_138) (by decide) (pc' := 142) rfl ?_
          refine eIStore X106 hx (hb hby at_142) (L' := #[.val (.int p1), .val (.int p2), .val (.int p3), .val (.int p4), .val (.int p5), .val (.int p6), .val (.int (5 : Int32)), .val (.ref ad96), .val (.int (1 : Int32)), .unset]) rfl rfl ?_
          refine eNewO X106 hx hZ hown (hw _ (List.mem_of_getElem? (i := 1) rfl)) (hw _ (List.mem_of_getElem? (i := 2) rfl)) (hw _ (List.mem_of_getElem? (i := 3) rfl)) e106 (hb hby at_144) (by decide) (by decide) rfl (fun T118 h118 ad118 g118 X118 e118 E118 A118 D118 => ?_)
          have ne_ad96_ad118 : ad96 ≠ ad118 := Nat.ne_of_lt (Nat.lt_of_lt_of_le A96.lt (Nat.le_of_eq g118.symm))
          have A96 := A96.ext E118
          have Q96 := Q96.ext E118
          have Z118 := Nat.le_trans Z106 E118.1
          have ge_ad118 : n0 ≤ ad118 := Nat.le_trans Z106 (Nat.le_of_eq g118.symm)
          have F118__tokens : Fld Z h118 ad118 "com/example/workflow_soundness/workflowsoundness/model/OmegaMarking" "_tokens" "[I" .null := D118 (Or.inr (hw _ (List.mem_of_getElem? (i := 11) rfl))) (ty := (.array .int)) (by decide)
          have F118__hash : Fld Z h118 ad118 "com/example/workflow_soundness/workflowsoundness/model/OmegaMarking" "_hash" "I" (.int (0 : Int32)) := D118 (Or.inr (hw _ (List.mem_of_getElem? (i := 17) rfl))) (ty := .int) (by decide)
          refine eDup X118 hx (hb hby at_147) rfl rfl ?_
          refine eALoad X118 hx (hb hby at_148) rfl rfl rfl ?_
          refine eCallI X118 hx hZ (y := (⟨"com/example/workflow_soundness/workflowsoundness/model/OmegaMarking", "<init>", "([I)V"⟩ : MethodName)) (a := ad118) rfl hown (hw _ (List.mem_of_getElem? (i := 4) rfl)) (hw _ (List.mem_of_getElem? (i := 5) rfl)) (hw _ (List.mem_of_getElem? (i := 3) rfl)) (hw _ (List.mem_of_getElem? (i := 6) rfl)) (by decide) e118 (rm1g l Z a0 hw [] ad118 ad96 (0 : Int32) [(fCell_0 p2), (fCell_0 p3), (fCell_0 p4), (fCell_0 p5), (fCell_0 p6)] h118 n0 Z118 A118 F118__tokens F118__hash Q96 A96 ge_ad118 (Ne.symm ne_ad96_ad118) (Nat.le_of_ble_eq_true rfl) (Nat.le_of_ble_eq_true rfl)) (argsL := [(.ref ad96)]) (rest := [(.ref ad118)]) (lenOf own_pd3 rfl) rfl (by rw [hml]; rfl) 1 (by exact Nat.le_refl _) (by decide) (by decide) (by decide) (by decide) (hb hby at_150) rfl (fun v119 T119 L119 q119 (X119 : Stand _ _ _ _ _ _ _ _ _ _ T119 _ 2 7) => ?_)
          obtain ⟨N119', K119', rfl, R119_0, R119_1, R119_2, R119_3, R119_4⟩ := q119
          have N119 := Fr.app N106 N119'
          have A96 := A96.keep K119' (ninS ne_ad96_ad118 nin0)
          have Q96 := Q96.keep K119'
          have A118 := A118.keep K119'
          have A118 := R119_0
          have F118__tokens : Fld Z T119.heap ad118 "com/example/workflow_soundness/workflowsoundness/model/OmegaMarking" "_tokens" "[I" (.ref ad96) := R119_1
          have F118__hash : Fld Z T119.heap ad118 "com/example/workflow_soundness/workflowsoundness/model/OmegaMarking" "_hash" "I" (.int (fIng_0 [(fCell_0 p2), (fCell_0 p3), (fCell_0 p4), (fCell_0 p5), (fCell_0 p6)])) := R119_2
          have Q96 := R119_3
          have A96 : Ar Z T119.heap ad96 .int [(fCell_0 p2), (fCell_0 p3), (fCell_0 p4), (fCell_0 p5), (fCell_0 p6)] := R119_4
          have Z119 := Nat.le_trans Z118 K119'.1
          show Ends p e below _ T119 m 153 #[.val (.int p1), .val (.int p2), .val (.int p3), .val (.int p4), .val (.int p5), .val (.int p6), .val (.int (5 : Int32)), .val (.ref ad96), .val (.int (1 : Int32)), .unset] [(.ref ad118)]
          refine eAStore X119 hx (hb hby at_153) rfl (L' := #[.val (.int p1), .val (.int p2), .val (.int p3), .val (.int p4), .val (.int p5), .val (.int p6), .val (.int (5 : Int32)), .val (.ref ad96), .val (.int (1 : Int32)), .val (.ref ad118)]) rfl rfl ?_
          refine eALoad X119 hx (hb hby at_155) rfl rfl rfl ?_
          refine eCallV X119 hx hZ (y := (⟨"com/example/workflow_soundness/workflowsoundness/model/OmegaMarking", "holdsOmega", "()Z"⟩ : MethodName)) hown (hw _ (List.mem_of_getElem? (i := 18) rfl)) (hw _ (List.mem_of_getElem? (i := 19) rfl)) (hw _ (List.mem_of_getElem? (i := 21) rfl)) (hw _ (List.mem_of_getElem? (i := 20) rfl)) (hw _ (List.mem_of_getElem? (i := 3) rfl)) (hw _ (List.mem_of_getElem? (i := 22) rfl)) (by decide) rfl A118 (rm4 l Z a0 hw [] ad118 ad96 [(fCell_0 p2), (fCell_0 p3), (fCell_0 p4), (fCell_0 p5), (fCell_0 p6)] T119.heap n0 Z119 F118__tokens A96 (Nat.le_of_ble_eq_true rfl)) (argsL := []) (rest := []) (lenOf own_pd4 rfl) rfl (by rw [hml]; rfl) 0 (by exact Nat.le_refl _) (by decide) (by decide) (by decide) (by decide) (hb hby at_157) rfl (fun v120 T120 L120 q120 (X120 : Stand _ _ _ _ _ _ _ _ _ _ T120 _ 2 7) => ?_)
          obtain ⟨N120', e120, rfl⟩ := q120
          have N120 := Fr.app N119 N120'
          show Ends p e below _ T120 m 160 #[.val (.int p1), .val (.int p2), .val (.int p3), .val (.int p4), .val (.int p5), .val (.int p6), .val (.int (5 : Int32)), .val (.ref ad96), .val (.int (1 : Int32)), .val (.ref ad118)] [(.int (fHo_0 [(fCell_0 p2), (fCell_0 p3), (fCell_0 p4), (fCell_0 p5), (fCell_0 p6)]))]
          refine eILoad X120 hx (hb hby at_160) rfl rfl ?_
          show Ends p e below (PVW s 16 128 n0 (if (fHo_0 [(fCell_0 p2), (fCell_0 p3), (fCell_0 p4), (fCell_0 p5), (fCell_0 p6)]) = (1 : Int32) then (1 : Int32) else (0 : Int32))) T120 m 162 #[.val (.int p1), .val (.int p2), .val (.int p3), .val (.int p4), .val (.int p5), .val (.int p6), .val (.int (5 : Int32)), .val (.ref ad96), .val (.int (1 : Int32)), .val (.ref ad118)] [(.int (1 : Int32)), (.int (fHo_0 [(fCell_0 p2), (fCell_0 p3), (fCell_0 p4), (fCell_0 p5), (fCell_0 p6)]))]
          by_cases c121 : (fHo_0 [(fCell_0 p2), (fCell_0 p3), (fCell_0 p4), (fCell_0 p5), (fCell_0 p6)]) = (1 : Int32)
          · rw [if_pos c121]
            refine eIcmpN X120 hx (hb hby at_162) (teq c121).2 rfl ?_
            refine eIConst X120 hx (1 : Int32) (hb hby at_165) rfl rfl ?_
            refine eGoto X120 hx (hb hby at_166) (by decide) (pc' := 170) rfl ?_
            exact eRetN X120 hx (t := .boolean) Bd.returns (by simp) hlk (hb hby at_170) (by decide) (by decide) ⟨rfl, N120⟩
          · rw [if_neg c121]
            refine eIcmpY X120 hx (hb hby at_162) (feq c121).2 (by decide) (pc' := 169) rfl ?_
            refine eIConst X120 hx (0 : Int32) (hb hby at_169) rfl rfl ?_
            exact eRetN X120 hx (t := .boolean) Bd.returns (by simp) hlk (hb hby at_170) (by decide) (by decide) ⟨rfl, N120⟩
        · rw [if_neg c117]
          refine eIfN X106 hx (hb hby at_112) ((if0 _ _).trans (flt c117).1) rfl ?_
          refine eILoad X106 hx (hb hby at_115) rfl rfl ?_
          refine eIConst X106 hx (3 : Int32) (hb hby at_117) rfl rfl ?_
          refine eIcmpN X106 hx (hb hby at_118) (tlt (by decide)).2.2.2 rfl ?_
          refine eILoad X106 hx (hb hby at_121) rfl rfl ?_
          show Ends p e below (PVW s 16 128 n0 (if p5 < (0 : Int32) then (if (fHo_0 [(fCell_0 p2), (fCell_0 p3), (fCell_0 p4), (fCell_0 p5), (fCell_0 p6)]) = (1 : Int32) then (1 : Int32) else (0 : Int32)) else (if p6 < (0 : Int32) then (if (fHo_0 [(fCell_0 p2), (fCell_0 p3), (fCell_0 p4), (fCell_0 p5), (fCell_0 p6)]) = (1 : Int32) then (1 : Int32) else (0 : Int32)) else (if (fHo_0 [(fCell_0 p2), (fCell_0 p3), (fCell_0 p4), (fCell_0 p5), (fCell_0 p6)]) = (0 : Int32) then (1 : Int32) else (0 : Int32))))) T106 m 123 #[.val (.int p1), .val (.int p2), .val (.int p3), .val (.int p4), .val (.int p5), .val (.int p6), .val (.int (5 : Int32)), .val (.ref ad96), .unset, .unset] [(.int p5)]
          by_cases c122 : p5 < (0 : Int32)
          · rw [if_pos c122]
            refine eIfY X106 hx (hb hby at_123) ((if0 _ _).trans (tlt c122).1) (by decide) (pc' := 137) rfl ?_
            refine eIConst X106 hx (1 : Int32) (hb hby at_137) rfl rfl ?_
            refine eGoto X106 hx (hb hby at_138) (by decide) (pc' := 142) rfl ?_
            refine eIStore X106 hx (hb hby at_142) (L' := #[.val (.int p1), .val (.int p2), .val (.int p3), .val (.int p4), .val (.int p5), .val (.int p6), .val (.int (5 : Int32)), .val (.ref ad96), .val (.int (1 : Int32)), .unset]) rfl rfl ?_
            refine eNewO X106 hx hZ hown (hw _ (List.mem_of_getElem? (i := 1) rfl)) (hw _ (List.mem_of_getElem? (i := 2) rfl)) (hw _ (List.mem_of_getElem? (i := 3) rfl)) e106 (hb hby at_144) (by decide) (by decide) rfl (fun T123 h123 ad123 g123 X123 e123 E123 A123 D123 => ?_)
            have ne_ad96_ad123 : ad96 ≠ ad123 := Nat.ne_of_lt (Nat.lt_of_lt_of_le A96.lt (Nat.le_of_eq g123.symm))
            have A96 := A96.ext E123
            have Q96 := Q96.ext E123
            have Z123 := Nat.le_trans Z106 E123.1
            have ge_ad123 : n0 ≤ ad123 := Nat.le_trans Z106 (Nat.le_of_eq g123.symm)
            have F123__tokens : Fld Z h123 ad123 "com/example/workflow_soundness/workflowsoundness/model/OmegaMarking" "_tokens" "[I" .null := D123 (Or.inr (hw _ (List.mem_of_getElem? (i := 11) rfl))) (ty := (.array .int)) (by decide)
            have F123__hash : Fld Z h123 ad123 "com/example/workflow_soundness/workflowsoundness/model/OmegaMarking" "_hash" "I" (.int (0 : Int32)) := D123 (Or.inr (hw _ (List.mem_of_getElem? (i := 17) rfl))) (ty := .int) (by decide)
            refine eDup X123 hx (hb hby at_147) rfl rfl ?_
            refine eALoad X123 hx (hb hby at_148) rfl rfl rfl ?_
            refine eCallI X123 hx hZ (y := (⟨"com/example/workflow_soundness/workflowsoundness/model/OmegaMarking", "<init>", "([I)V"⟩ : MethodName)) (a := ad123) rfl hown (hw _ (List.mem_of_getElem? (i := 4) rfl)) (hw _ (List.mem_of_getElem? (i := 5) rfl)) (hw _ (List.mem_of_getElem? (i := 3) rfl)) (hw _ (List.mem_of_getElem? (i := 6) rfl)) (by decide) e123 (rm1g l Z a0 hw [] ad123 ad96 (0 : Int32) [(fCell_0 p2), (fCell_0 p3), (fCell_0 p4), (fCell_0 p5), (fCell_0 p6)] h123 n0 Z123 A123 F123__tokens F123__hash Q96 A96 ge_ad123 (Ne.symm ne_ad96_ad123) (Nat.le_of_ble_eq_true rfl) (Nat.le_of_ble_eq_true rfl)) (argsL := [(.ref ad96)]) (rest := [(.ref ad123)]) (lenOf own_pd3 rfl) rfl (by rw [hml]; rfl) 1 (by exact Nat.le_refl _) (by decide) (by decide) (by decide) (by decide) (hb hby at_150) rfl (fun v124 T124 L124 q124 (X124 : Stand _ _ _ _ _ _ _ _ _ _ T124 _ 2 7) => ?_)
            obtain ⟨N124', K124', rfl, R124_0, R124_1, R124_2, R124_3, R124_4⟩ := q124
            have N124 := Fr.app N106 N124'
            have A96 := A96.keep K124' (ninS ne_ad96_ad123 nin0)
            have Q96 := Q96.keep K124'
            have A123 := A123.keep K124'
            have A123 := R124_0
            have F123__tokens : Fld Z T124.heap ad123 "com/example/workflow_soundness/workflowsoundness/model/OmegaMarking" "_tokens" "[I" (.ref ad96) := R124_1
            have F123__hash : Fld Z T124.heap ad123 "com/example/workflow_soundness/workflowsoundness/model/OmegaMarking" "_hash" "I" (.int (fIng_0 [(fCell_0 p2), (fCell_0 p3), (fCell_0 p4), (fCell_0 p5), (fCell_0 p6)])) := R124_2
            have Q96 := R124_3
            have A96 : Ar Z T124.heap ad96 .int [(fCell_0 p2), (fCell_0 p3), (fCell_0 p4), (fCell_0 p5), (fCell_0 p6)] := R124_4
            have Z124 := Nat.le_trans Z123 K124'.1
            show Ends p e below _ T124 m 153 #[.val (.int p1), .val (.int p2), .val (.int p3), .val (.int p4), .val (.int p5), .val (.int p6), .val (.int (5 : Int32)), .val (.ref ad96), .val (.int (1 : Int32)), .unset] [(.ref ad123)]
            refine eAStore X124 hx (hb hby at_153) rfl (L' := #[.val (.int p1), .val (.int p2), .val (.int p3), .val (.int p4), .val (.int p5), .val (.int p6), .val (.int (5 : Int32)), .val (.ref ad96), .val (.int (1 : Int32)), .val (.ref ad123)]) rfl rfl ?_
            refine eALoad X124 hx (hb hby at_155) rfl rfl rfl ?_
            refine eCallV X124 hx hZ (y := (⟨"com/example/workflow_soundness/workflowsoundness/model/OmegaMarking", "holdsOmega", "()Z"⟩ : MethodName)) hown (hw _ (List.mem_of_getElem? (i := 18) rfl)) (hw _ (List.mem_of_getElem? (i := 19) rfl)) (hw _ (List.mem_of_getElem? (i := 21) rfl)) (hw _ (List.mem_of_getElem? (i := 20) rfl)) (hw _ (List.mem_of_getElem? (i := 3) rfl)) (hw _ (List.mem_of_getElem? (i := 22) rfl)) (by decide) rfl A123 (rm4 l Z a0 hw [] ad123 ad96 [(fCell_0 p2), (fCell_0 p3), (fCell_0 p4), (fCell_0 p5), (fCell_0 p6)] T124.heap n0 Z124 F123__tokens A96 (Nat.le_of_ble_eq_true rfl)) (argsL := []) (rest := []) (lenOf own_pd4 rfl) rfl (by rw [hml]; rfl) 0 (by exact Nat.le_refl _) (by decide) (by decide) (by decide) (by decide) (hb hby at_157) rfl (fun v125 T125 L125 q125 (X125 : Stand _ _ _ _ _ _ _ _ _ _ T125 _ 2 7) => ?_)
            obtain ⟨N125', e125, rfl⟩ := q125
            have N125 := Fr.app N124 N125'
            show Ends p e below _ T125 m 160 #[.val (.int p1), .val (.int p2), .val (.int p3), .val (.int p4), .val (.int p5), .val (.int p6), .val (.int (5 : Int32)), .val (.ref ad96), .val (.int (1 : Int32)), .val (.ref ad123)] [(.int (fHo_0 [(fCell_0 p2), (fCell_0 p3), (fCell_0 p4), (fCell_0 p5), (fCell_0 p6)]))]
            refine eILoad X125 hx (hb hby at_160) rfl rfl ?_
            show Ends p e below (PVW s 16 128 n0 (if (fHo_0 [(fCell_0 p2), (fCell_0 p3), (fCell_0 p4), (fCell_0 p5), (fCell_0 p6)]) = (1 : Int32) then (1 : Int32) else (0 : Int32))) T125 m 162 #[.val (.int p1), .val (.int p2), .val (.int p3), .val (.int p4), .val (.int p5), .val (.int p6), .val (.int (5 : Int32)), .val (.ref ad96), .val (.int (1 : Int32)), .val (.ref ad123)] [(.int (1 : Int32)), (.int (fHo_0 [(fCell_0 p2), (fCell_0 p3), (fCell_0 p4), (fCell_0 p5), (fCell_0 p6)]))]
            by_cases c126 : (fHo_0 [(fCell_0 p2), (fCell_0 p3), (fCell_0 p4), (fCell_0 p5), (fCell_0 p6)]) = (1 : Int32)
            · rw [if_pos c126]
              refine eIcmpN X125 hx (hb hby at_162) (teq c126).2 rfl ?_
              refine eIConst X125 hx (1 : Int32) (hb hby at_165) rfl rfl ?_
              refine eGoto X125 hx (hb hby at_166) (by decide) (pc' := 170) rfl ?_
              exact eRetN X125 hx (t := .boolean) Bd.returns (by simp) hlk (hb hby at_170) (by decide) (by decide) ⟨rfl, N125⟩
            · rw [if_neg c126]
              refine eIcmpY X125 hx (hb hby at_162) (feq c126).2 (by decide) (pc' := 169) rfl ?_
              refine eIConst X125 hx (0 : Int32) (hb hby at_169) rfl rfl ?_
              exact eRetN X125 hx (t := .boolean) Bd.returns (by simp) hlk (hb hby at_170) (by decide) (by decide) ⟨rfl, N125⟩
          · rw [if_neg c122]
            refine eIfN X106 hx (hb hby at_123) ((if0 _ _).trans (flt c122).1) rfl ?_
            refine eILoad X106 hx (hb hby at_126) rfl rfl ?_
            refine eIConst X106 hx (4 : Int32) (hb hby at_128) rfl rfl ?_
            refine eIcmpN X106 hx (hb hby at_129) (tlt (by decide)).2.2.2 rfl ?_
            refine eILoad X106 hx (hb hby at_132) rfl rfl ?_
            show Ends p e below (PVW s 16 128 n0 (if p6 < (0 : Int32) then (if (fHo_0 [(fCell_0 p2), (fCell_0 p3), (fCell_0 p4), (fCell_0 p5), (fCell_0 p6)]) = (1 : Int32) then (1 : Int32) else (0 : Int32)) else (if (fHo_0 [(fCell_0 p2), (fCell_0 p3), (fCell_0 p4), (fCell_0 p5), (fCell_0 p6)]) = (0 : Int32) then (1 : Int32) else (0 : Int32)))) T106 m 134 #[.val (.int p1), .val (.int p2), .val (.int p3), .val (.int p4), .val (.int p5), .val (.int p6), .val (.int (5 : Int32)), .val (.ref ad96), .unset, .unset] [(.int p6)]
            by_cases c127 : p6 < (0 : Int32)
            · rw [if_pos c127]
              refine eIfN X106 hx (hb hby at_134) ((if0 _ _).trans (tlt c127).2.1) rfl ?_
              refine eIConst X106 hx (1 : Int32) (hb hby at_137) rfl rfl ?_
              refine eGoto X106 hx (hb hby at_138) (by decide) (pc' := 142) rfl ?_
              refine eIStore X106 hx (hb hby at_142) (L' := #[.val (.int p1), .val (.int p2), .val (.int p3), .val (.int p4), .val (.int p5), .val (.int p6), .val (.int (5 : Int32)), .val (.ref ad96), .val (.int (1 : Int32)), .unset]) rfl rfl ?_
              refine eNewO X106 hx hZ hown (hw _ (List.mem_of_getElem? (i := 1) rfl)) (hw _ (List.mem_of_getElem? (i := 2) rfl)) (hw _ (List.mem_of_getElem? (i := 3) rfl)) e106 (hb hby at_144) (by decide) (by decide) rfl (fun T128 h128 ad128 g128 X128 e128 E128 A128 D128 => ?_)
              have ne_ad96_ad128 : ad96 ≠ ad128 := Nat.ne_of_lt (Nat.lt_of_lt_of_le A96.lt (Nat.le_of_eq g128.symm))
              have A96 := A96.ext E128
              have Q96 := Q96.ext E128
              have Z128 := Nat.le_trans Z106 E128.1
              have ge_ad128 : n0 ≤ ad128 := Nat.le_trans Z106 (Nat.le_of_eq g128.symm)
              have F128__tokens : Fld Z h128 ad128 "com/example/workflow_soundness/workflowsoundness/model/OmegaMarking" "_tokens" "[I" .null := D128 (Or.inr (hw _ (List.mem_of_getElem? (i := 11) rfl))) (ty := (.array .int)) (by decide)
              have F128__hash : Fld Z h128 ad128 "com/example/workflow_soundness/workflowsoundness/model/OmegaMarking" "_hash" "I" (.int (0 : Int32)) := D128 (Or.inr (hw _ (List.mem_of_getElem? (i := 17) rfl))) (ty := .int) (by decide)
              refine eDup X128 hx (hb hby at_147) rfl rfl ?_
              refine eALoad X128 hx (hb hby at_148) rfl rfl rfl ?_
              refine eCallI X128 hx hZ (y := (⟨"com/example/workflow_soundness/workflowsoundness/model/OmegaMarking", "<init>", "([I)V"⟩ : MethodName)) (a := ad128) rfl hown (hw _ (List.mem_of_getElem? (i := 4) rfl)) (hw _ (List.mem_of_getElem? (i := 5) rfl)) (hw _ (List.mem_of_getElem? (i := 3) rfl)) (hw _ (List.mem_of_getElem? (i := 6) rfl)) (by decide) e128 (rm1g l Z a0 hw [] ad128 ad96 (0 : Int32) [(fCell_0 p2), (fCell_0 p3), (fCell_0 p4), (fCell_0 p5), (fCell_0 p6)] h128 n0 Z128 A128 F128__tokens F128__hash Q96 A96 ge_ad128 (Ne.symm ne_ad96_ad128) (Nat.le_of_ble_eq_true rfl) (Nat.le_of_ble_eq_true rfl)) (argsL := [(.ref ad96)]) (rest := [(.ref ad128)]) (lenOf own_pd3 rfl) rfl (by rw [hml]; rfl) 1 (by exact Nat.le_refl _) (by decide) (by decide) (by decide) (by decide) (hb hby at_150) rfl (fun v129 T129 L129 q129 (X129 : Stand _ _ _ _ _ _ _ _ _ _ T129 _ 2 7) => ?_)
              obtain ⟨N129', K129', rfl, R129_0, R129_1, R129_2, R129_3, R129_4⟩ := q129
              have N129 := Fr.app N106 N129'
              have A96 := A96.keep K129' (ninS ne_ad96_ad128 nin0)
              have Q96 := Q96.keep K129'
              have A128 := A128.keep K129'
              have A128 := R129_0
              have F128__tokens : Fld Z T129.heap ad128 "com/example/workflow_soundness/workflowsoundness/model/OmegaMarking" "_tokens" "[I" (.ref ad96) := R129_1
              have F128__hash : Fld Z T129.heap ad128 "com/example/workflow_soundness/workflowsoundness/model/OmegaMarking" "_hash" "I" (.int (fIng_0 [(fCell_0 p2), (fCell_0 p3), (fCell_0 p4), (fCell_0 p5), (fCell_0 p6)])) := R129_2
              have Q96 := R129_3
              have A96 : Ar Z T129.heap ad96 .int [(fCell_0 p2), (fCell_0 p3), (fCell_0 p4), (fCell_0 p5), (fCell_0 p6)] := R129_4
              have Z129 := Nat.le_trans Z128 K129'.1
              show Ends p e below _ T129 m 153 #[.val (.int p1), .val (.int p2), .val (.int p3), .val (.int p4), .val (.int p5), .val (.int p6), .val (.int (5 : Int32)), .val (.ref ad96), .val (.int (1 : Int32)), .unset] [(.ref ad128)]
              refine eAStore X129 hx (hb hby at_153) rfl (L' := #[.val (.int p1), .val (.int p2), .val (.int p3), .val (.int p4), .val (.int p5), .val (.int p6), .val (.int (5 : Int32)), .val (.ref ad96), .val (.int (1 : Int32)), .val (.ref ad128)]) rfl rfl ?_
              refine eALoad X129 hx (hb hby at_155) rfl rfl rfl ?_
              refine eCallV X129 hx hZ (y := (⟨"com/example/workflow_soundness/workflowsoundness/model/OmegaMarking", "holdsOmega", "()Z"⟩ : MethodName)) hown (hw _ (List.mem_of_getElem? (i := 18) rfl)) (hw _ (List.mem_of_getElem? (i := 19) rfl)) (hw _ (List.mem_of_getElem? (i := 21) rfl)) (hw _ (List.mem_of_getElem? (i := 20) rfl)) (hw _ (List.mem_of_getElem? (i := 3) rfl)) (hw _ (List.mem_of_getElem? (i := 22) rfl)) (by decide) rfl A128 (rm4 l Z a0 hw [] ad128 ad96 [(fCell_0 p2), (fCell_0 p3), (fCell_0 p4), (fCell_0 p5), (fCell_0 p6)] T129.heap n0 Z129 F128__tokens A96 (Nat.le_of_ble_eq_true rfl)) (argsL := []) (rest := []) (lenOf own_pd4 rfl) rfl (by rw [hml]; rfl) 0 (by exact Nat.le_refl _) (by decide) (by decide) (by decide) (by decide) (hb hby at_157) rfl (fun v130 T130 L130 q130 (X130 : Stand _ _ _ _ _ _ _ _ _ _ T130 _ 2 7) => ?_)
              obtain ⟨N130', e130, rfl⟩ := q130
              have N130 := Fr.app N129 N130'
              show Ends p e below _ T130 m 160 #[.val (.int p1), .val (.int p2), .val (.int p3), .val (.int p4), .val (.int p5), .val (.int p6), .val (.int (5 : Int32)), .val (.ref ad96), .val (.int (1 : Int32)), .val (.ref ad128)] [(.int (fHo_0 [(fCell_0 p2), (fCell_0 p3), (fCell_0 p4), (fCell_0 p5), (fCell_0 p6)]))]
              refine eILoad X130 hx (hb hby at_160) rfl rfl ?_
              show Ends p e below (PVW s 16 128 n0 (if (fHo_0 [(fCell_0 p2), (fCell_0 p3), (fCell_0 p4), (fCell_0 p5), (fCell_0 p6)]) = (1 : Int32) then (1 : Int32) else (0 : Int32))) T130 m 162 #[.val (.int p1), .val (.int p2), .val (.int p3), .val (.int p4), .val (.int p5), .val (.int p6), .val (.int (5 : Int32)), .val (.ref ad96), .val (.int (1 : Int32)), .val (.ref ad128)] [(.int (1 : Int32)), (.int (fHo_0 [(fCell_0 p2), (fCell_0 p3), (fCell_0 p4), (fCell_0 p5), (fCell_0 p6)]))]
              by_cases c131 : (fHo_0 [(fCell_0 p2), (fCell_0 p3), (fCell_0 p4), (fCell_0 p5), (fCell_0 p6)]) = (1 : Int32)
              · rw [if_pos c131]
                refine eIcmpN X130 hx (hb hby at_162) (teq c131).2 rfl ?_
                refine eIConst X130 hx (1 : Int32) (hb hby at_165) rfl rfl ?_
                refine eGoto X130 hx (hb hby at_166) (by decide) (pc' := 170) rfl ?_
                exact eRetN X130 hx (t := .boolean) Bd.returns (by simp) hlk (hb hby at_170) (by decide) (by decide) ⟨rfl, N130⟩
              · rw [if_neg c131]
                refine eIcmpY X130 hx (hb hby at_162) (feq c131).2 (by decide) (pc' := 169) rfl ?_
                refine eIConst X130 hx (0 : Int32) (hb hby at_169) rfl rfl ?_
                exact eRetN X130 hx (t := .boolean) Bd.returns (by simp) hlk (hb hby at_170) (by decide) (by decide) ⟨rfl, N130⟩
            · rw [if_neg c127]
              refine eIfY X106 hx (hb hby at_134) ((if0 _ _).trans (flt c127).2.1) (by decide) (pc' := 141) rfl ?_
              refine eIConst X106 hx (0 : Int32) (hb hby at_141) rfl rfl ?_
              refine eIStore X106 hx (hb hby at_142) (L' := #[.val (.int p1), .val (.int p2), .val (.int p3), .val (.int p4), .val (.int p5), .val (.int p6), .val (.int (5 : Int32)), .val (.ref ad96), .val (.int (0 : Int32)), .unset]) rfl rfl ?_
              refine eNewO X106 hx hZ hown (hw _ (List.mem_of_getElem? (i := 1) rfl)) (hw _ (List.mem_of_getElem? (i := 2) rfl)) (hw _ (List.mem_of_getElem? (i := 3) rfl)) e106 (hb hby at_144) (by decide) (by decide) rfl (fun T132 h132 ad132 g132 X132 e132 E132 A132 D132 => ?_)
              have ne_ad96_ad132 : ad96 ≠ ad132 := Nat.ne_of_lt (Nat.lt_of_lt_of_le A96.lt (Nat.le_of_eq g132.symm))
              have A96 := A96.ext E132
              have Q96 := Q96.ext E132
              have Z132 := Nat.le_trans Z106 E132.1
              have ge_ad132 : n0 ≤ ad132 := Nat.le_trans Z106 (Nat.le_of_eq g132.symm)
              have F132__tokens : Fld Z h132 ad132 "com/example/workflow_soundness/workflowsoundness/model/OmegaMarking" "_tokens" "[I" .null := D132 (Or.inr (hw _ (List.mem_of_getElem? (i := 11) rfl))) (ty := (.array .int)) (by decide)
              have F132__hash : Fld Z h132 ad132 "com/example/workflow_soundness/workflowsoundness/model/OmegaMarking" "_hash" "I" (.int (0 : Int32)) := D132 (Or.inr (hw _ (List.mem_of_getElem? (i := 17) rfl))) (ty := .int) (by decide)
              refine eDup X132 hx (hb hby at_147) rfl rfl ?_
              refine eALoad X132 hx (hb hby at_148) rfl rfl rfl ?_
              refine eCallI X132 hx hZ (y := (⟨"com/example/workflow_soundness/workflowsoundness/model/OmegaMarking", "<init>", "([I)V"⟩ : MethodName)) (a := ad132) rfl hown (hw _ (List.mem_of_getElem? (i := 4) rfl)) (hw _ (List.mem_of_getElem? (i := 5) rfl)) (hw _ (List.mem_of_getElem? (i := 3) rfl)) (hw _ (List.mem_of_getElem? (i := 6) rfl)) (by decide) e132 (rm1g l Z a0 hw [] ad132 ad96 (0 : Int32) [(fCell_0 p2), (fCell_0 p3), (fCell_0 p4), (fCell_0 p5), (fCell_0 p6)] h132 n0 Z132 A132 F132__tokens F132__hash Q96 A96 ge_ad132 (Ne.symm ne_ad96_ad132) (Nat.le_of_ble_eq_true rfl) (Nat.le_of_ble_eq_true rfl)) (argsL := [(.ref ad96)]) (rest := [(.ref ad132)]) (lenOf own_pd3 rfl) rfl (by rw [hml]; rfl) 1 (by exact Nat.le_refl _) (by decide) (by decide) (by decide) (by decide) (hb hby at_150) rfl (fun v133 T133 L133 q133 (X133 : Stand _ _ _ _ _ _ _ _ _ _ T133 _ 2 7) => ?_)
              obtain ⟨N133', K133', rfl, R133_0, R133_1, R133_2, R133_3, R133_4⟩ := q133
              have N133 := Fr.app N106 N133'
              have A96 := A96.keep K133' (ninS ne_ad96_ad132 nin0)
              have Q96 := Q96.keep K133'
              have A132 := A132.keep K133'
              have A132 := R133_0
              have F132__tokens : Fld Z T133.heap ad132 "com/example/workflow_soundness/workflowsoundness/model/OmegaMarking" "_tokens" "[I" (.ref ad96) := R133_1
              have F132__hash : Fld Z T133.heap ad132 "com/example/workflow_soundness/workflowsoundness/model/OmegaMarking" "_hash" "I" (.int (fIng_0 [(fCell_0 p2), (fCell_0 p3), (fCell_0 p4), (fCell_0 p5), (fCell_0 p6)])) := R133_2
              have Q96 := R133_3
              have A96 : Ar Z T133.heap ad96 .int [(fCell_0 p2), (fCell_0 p3), (fCell_0 p4), (fCell_0 p5), (fCell_0 p6)] := R133_4
              have Z133 := Nat.le_trans Z132 K133'.1
              show Ends p e below _ T133 m 153 #[.val (.int p1), .val (.int p2), .val (.int p3), .val (.int p4), .val (.int p5), .val (.int p6), .val (.int (5 : Int32)), .val (.ref ad96), .val (.int (0 : Int32)), .unset] [(.ref ad132)]
              refine eAStore X133 hx (hb hby at_153) rfl (L' := #[.val (.int p1), .val (.int p2), .val (.int p3), .val (.int p4), .val (.int p5), .val (.int p6), .val (.int (5 : Int32)), .val (.ref ad96), .val (.int (0 : Int32)), .val (.ref ad132)]) rfl rfl ?_
              refine eALoad X133 hx (hb hby at_155) rfl rfl rfl ?_
              refine eCallV X133 hx hZ (y := (⟨"com/example/workflow_soundness/workflowsoundness/model/OmegaMarking", "holdsOmega", "()Z"⟩ : MethodName)) hown (hw _ (List.mem_of_getElem? (i := 18) rfl)) (hw _ (List.mem_of_getElem? (i := 19) rfl)) (hw _ (List.mem_of_getElem? (i := 21) rfl)) (hw _ (List.mem_of_getElem? (i := 20) rfl)) (hw _ (List.mem_of_getElem? (i := 3) rfl)) (hw _ (List.mem_of_getElem? (i := 22) rfl)) (by decide) rfl A132 (rm4 l Z a0 hw [] ad132 ad96 [(fCell_0 p2), (fCell_0 p3), (fCell_0 p4), (fCell_0 p5), (fCell_0 p6)] T133.heap n0 Z133 F132__tokens A96 (Nat.le_of_ble_eq_true rfl)) (argsL := []) (rest := []) (lenOf own_pd4 rfl) rfl (by rw [hml]; rfl) 0 (by exact Nat.le_refl _) (by decide) (by decide) (by decide) (by decide) (hb hby at_157) rfl (fun v134 T134 L134 q134 (X134 : Stand _ _ _ _ _ _ _ _ _ _ T134 _ 2 7) => ?_)
              obtain ⟨N134', e134, rfl⟩ := q134
              have N134 := Fr.app N133 N134'
              show Ends p e below _ T134 m 160 #[.val (.int p1), .val (.int p2), .val (.int p3), .val (.int p4), .val (.int p5), .val (.int p6), .val (.int (5 : Int32)), .val (.ref ad96), .val (.int (0 : Int32)), .val (.ref ad132)] [(.int (fHo_0 [(fCell_0 p2), (fCell_0 p3), (fCell_0 p4), (fCell_0 p5), (fCell_0 p6)]))]
              refine eILoad X134 hx (hb hby at_160) rfl rfl ?_
              show Ends p e below (PVW s 16 128 n0 (if (fHo_0 [(fCell_0 p2), (fCell_0 p3), (fCell_0 p4), (fCell_0 p5), (fCell_0 p6)]) = (0 : Int32) then (1 : Int32) else (0 : Int32))) T134 m 162 #[.val (.int p1), .val (.int p2), .val (.int p3), .val (.int p4), .val (.int p5), .val (.int p6), .val (.int (5 : Int32)), .val (.ref ad96), .val (.int (0 : Int32)), .val (.ref ad132)] [(.int (0 : Int32)), (.int (fHo_0 [(fCell_0 p2), (fCell_0 p3), (fCell_0 p4), (fCell_0 p5), (fCell_0 p6)]))]
              by_cases c135 : (fHo_0 [(fCell_0 p2), (fCell_0 p3), (fCell_0 p4), (fCell_0 p5), (fCell_0 p6)]) = (0 : Int32)
              · rw [if_pos c135]
                refine eIcmpN X134 hx (hb hby at_162) (teq c135).2 rfl ?_
                refine eIConst X134 hx (1 : Int32) (hb hby at_165) rfl rfl ?_
                refine eGoto X134 hx (hb hby at_166) (by decide) (pc' := 170) rfl ?_
                exact eRetN X134 hx (t := .boolean) Bd.returns (by simp) hlk (hb hby at_170) (by decide) (by decide) ⟨rfl, N134⟩
              · rw [if_neg c135]
                refine eIcmpY X134 hx (hb hby at_162) (feq c135).2 (by decide) (pc' := 169) rfl ?_
                refine eIConst X134 hx (0 : Int32) (hb hby at_169) rfl rfl ?_
                exact eRetN X134 hx (t := .boolean) Bd.returns (by simp) hlk (hb hby at_170) (by decide) (by decide) ⟨rfl, N134⟩
  rw [if_neg hs136_5]
  exact absurd (own_six p1) (by simp only [hs136_0, hs136_1, hs136_2, hs136_3, hs136_4, hs136_5, or_self, not_false_eq_true])
theorem own_h0 : fHo_0 [] = (0) := by
  rfl
theorem own_h1 (x0 : Int32) : fHo_0 [x0] = (if x0 = -1 then 1 else 0) := by
  rfl
theorem own_h2 (x0 x1 : Int32) : fHo_0 [x0, x1] = (if x0 = -1 then 1 else if x1 = -1 then 1 else 0) := by
  rfl
theorem own_h3 (x0 x1 x2 : Int32) : fHo_0 [x0, x1, x2] = (if x0 = -1 then 1 else if x1 = -1 then 1 else if x2 = -1 then 1 else 0) := by
  rfl
theorem own_h4 (x0 x1 x2 x3 : Int32) : fHo_0 [x0, x1, x2, x3] = (if x0 = -1 then 1 else if x1 = -1 then 1 else if x2 = -1 then 1 else if x3 = -1 then 1 else 0) := by
  rfl
theorem own_h5 (x0 x1 x2 x3 x4 : Int32) : fHo_0 [x0, x1, x2, x3, x4] = (if x0 = -1 then 1 else if x1 = -1 then 1 else if x2 = -1 then 1 else if x3 = -1 then 1 else if x4 = -1 then 1 else 0) := by
  rfl
theorem own_cneg {x : Int32} (h : x < 0) : fCell_0 x = -1 := if_pos h
theorem own_cpos {x : Int32} (h : ¬ x < 0) : ¬ (fCell_0 x = -1) := by
  unfold fCell_0
  rw [if_neg h]
  intro q; rw [q] at h; exact h (by decide)
theorem law_eq (p1 p2 p3 p4 p5 p6 : Int32) : f0_0 p1 p2 p3 p4 p5 p6 = 1 := by
  have k : ∀ x, (x < 0 → fCell_0 x = -1) ∧ (¬ x < 0 → ¬ (fCell_0 x = -1)) := fun x => ⟨own_cneg, own_cpos⟩
  unfold f0_0
  simp only [own_h0, own_h1, own_h2, own_h3, own_h4, own_h5]
  have k2 := k p2
  have k3 := k p3
  have k4 := k p4
  have k5 := k p5
  have k6 := k p6
  have six := own_six p1
  generalize fCell_0 p2 = c2 at *
  generalize fCell_0 p3 = c3 at *
  generalize fCell_0 p4 = c4 at *
  generalize fCell_0 p5 = c5 at *
  generalize fCell_0 p6 = c6 at *
  by_cases h2 : p2 < 0 <;> by_cases h3 : p3 < 0 <;> by_cases h4 : p4 < 0 <;> by_cases h5 : p5 < 0 <;> by_cases h6 : p6 < 0 <;> simp only [h2, h3, h4, h5, h6, not_true_eq_false, not_false_eq_true, true_implies, false_implies, and_true, true_and] at k2 k3 k4 k5 k6 <;> simp only [h2, h3, h4, h5, h6, k2, k3, k4, k5, k6, if_true, if_false] <;> rcases six with h | h | h | h | h | h <;> simp [h]
set_option maxRecDepth 65536 in
set_option maxHeartbeats 40000000 in
theorem comes_1 {Post : Tables → Env → Array Value → State → Outcome → State → Prop} (hpost : ∀ tb e args s v u, (limb_1_1.after args s (.returned v) u = true ∧ limb_1_2.after args s (.returned v) u = true ∧ True) → FrameEnd s (.returned v) u (Jvm.fieldLocs frame_1_writes args s ++ Jvm.arrayLocs frame_1_arrays args s ++ Jvm.staticLocs frame_1_statics s) 16 128 → Post tb e args s (.returned v) u) :
    ArmFor flags0 classFile x code maxLocals ret World_1 tables_1 room_1 Calls_1 rest_1 Pre_1 Post := by
  intro l hfl _ _ p e ha hc hk s m args below hf hA hF happ hP
  obtain ⟨hcalls, hrest, hpre⟩ := hP
  obtain ⟨-, -, -, hnamed, -, -, -, hat⟩ := (Spec.applies_iff hf).mp happ
  obtain ⟨hg, hn⟩ := and_e (Cond.before_iff.mp (show (Jvm.Cond.and given_1 narrow_1).before args s = true from hpre))
  obtain ⟨g1, g2⟩ := and_e hg
  obtain ⟨g3, g4⟩ := and_e g2
  obtain ⟨g5, g6⟩ := and_e g4
  obtain ⟨g7, g8⟩ := and_e g6
  obtain ⟨g9, g10⟩ := and_e g8
  obtain ⟨g11, g12⟩ := and_e g10
  obtain ⟨w0, w1, w2, w3, w4, w5, rfl⟩ : ∃ w0 w1 w2 w3 w4 w5 : Value, args = #[w0, w1, w2, w3, w4, w5] := by
    have hs : args.size = 6 := by simpa [Cond.value, given_1] using g1
    obtain ⟨L⟩ := args
    match L, hs with
    | [w0, w1, w2, w3, w4, w5], _ => exact ⟨w0, w1, w2, w3, w4, w5, rfl⟩
  have hw := fun d (hd : d ∈ tables_1) => atoms_spec (ws := Jvm.Cond.code x code maxLocals ret :: tables_1) hat d (List.mem_cons_of_mem _ hd)
  have hfit : Fit s := fun {y c} hc i hi => by
    obtain ⟨ha, rfl⟩ := Array.getElem?_eq_some_iff.mp hc
    have q := List.all_eq_true.mp ((Array.all_eq_true_iff_forall_mem.mp hF) _ (Array.getElem_mem ha)) i (List.mem_range.mpr hi)
    simpa [Array.getElem?_eq_getElem hi] using q
  obtain ⟨i0, ei0⟩ := is_v g3
  obtain rfl : w0 = (.int i0) := Option.some.inj ei0
  obtain ⟨i1, ei1⟩ := is_v g5
  obtain rfl : w1 = (.int i1) := Option.some.inj ei1
  obtain ⟨i2, ei2⟩ := is_v g7
  obtain rfl : w2 = (.int i2) := Option.some.inj ei2
  obtain ⟨i3, ei3⟩ := is_v g9
  obtain rfl : w3 = (.int i3) := Option.some.inj ei3
  obtain ⟨i4, ei4⟩ := is_v g11
  obtain rfl : w4 = (.int i4) := Option.some.inj ei4
  obtain ⟨i5, ei5⟩ := is_v g12
  obtain rfl : w5 = (.int i5) := Option.some.inj ei5
  obtain ⟨n, o, h1, h2, h3, _, L, rfl, ⟨hv, N⟩, hq⟩ := rm0 l s _ hw tables_1 i0 i1 i2 i3 i4 i5 s.heap s.heap.size (Nat.le_refl _) p e ha hc hk s m _ below hf ((Spec.applies_iff_loose hf).mp happ).1 ⟨rfl, State.Warmed39.refl s, rfl⟩ trivial
  rw [law_eq] at hv
  subst hv
  refine ⟨n, _, h1, h2, h3, hpost _ _ _ _ _ _ ⟨Cond.after_iff.mpr rfl, Cond.after_iff.mpr (eq_i res_at (Term.int_eval (1)) rfl), trivial⟩ ⟨hq.1, hq.2.1, (hq.2.2.sift fun y hy => Or.inr (N y hy)).mono (by decide) (by decide)⟩⟩
theorem main_1_1 : Claimed_1_1 := comes_1 fun _ _ _ _ _ _ h hF => ⟨h.1, hF⟩
theorem main_1_2 : Claimed_1_2 := comes_1 fun _ _ _ _ _ _ h hF => ⟨h.2.1, hF⟩
end Jvm.Pilot.@@N@@
namespace Jvm.Pilot.@@N@@
open Jvm Jvm.ClassFile Sem Op Lib Jvm.Free Jvm.Stand Jvm.Pilot.@@N@@.Jvm.D
/-! MADE BY PROGRAM (witnessworld.py) out of the Statement's table words and the real class files: 11 classes; the members and pool entries that the words name. The judged class is class 1, her method 2. -/
namespace start1
open Jvm.ClassFile
def u (s : String) : CpInfo := .utf8 (stringToUtf16 s)
/-- a pool by its gaps: so many unusable entries, then the entry; so many at the end -/
def gap : Nat → List CpInfo → List CpInfo
  | 0, r => r
  | n + 1, r => .unusable :: gap n r
def poolList (es : List (Nat × CpInfo)) (last : Nat) : List CpInfo := es.foldr (fun e r => gap e.1 (e.2 :: r)) (gap last [])
def pool (es : List (Nat × CpInfo)) (last : Nat) : Array CpInfo := ⟨poolList es last⟩
def fileOf (pool : Array CpInfo) (this : Nat) (attrs : Array Attribute := #[]) (ms : Array MethodInfo := #[]) (fl : Nat := 33) (sup : Nat := 0) (ifs : Array Nat := #[]) (fds : Array FieldInfo := #[]) : ClassFile where
  minorVersion := 0
  majorVersion := 65
  constantPool := pool
  accessFlags := fl
  thisClass := this
  superClass := sup
  interfaces := ifs
  fields := fds
  methods := ms
  attributes := attrs
def plain (name : String) (sup : Option ClassId) : Class where
  name := name
  kind := .ordinary
  loader := none
  accessFlags := 33
  super := sup
  interfaces := #[]
  cf := none
  fields := #[]
  methods := #[]
  instanceTypes := #[]
  staticTypes := #[]
  resolved := #[]
  callSites := []
  init := .initialized
  statics := none
  mirror := none

def pool0 : Array CpInfo := pool [(5, u "<init>"), (0, u "()V"), (1, .class_ 10), (1, u "java/lang/Object")] 113

def k0c0 : Code := { maxStack := 0, maxLocals := 1, code := object_method_1_code, exceptionTable := #[], attributes := #[] }
def k0m0 : Method := { name := "<init>", desc := "()V", sig := { parameters := [], returnType := none }, accessFlags := 1, code := some k0c0 }
/-- java/lang/Object -/
def k0 : Class := { plain "java/lang/Object" none with
  accessFlags := 33
  interfaces := #[]
  cf := some (fileOf pool0 8 #[] #[{ accessFlags := 1, nameIndex := 5, descriptorIndex := 6, attributes := #[] }] 33 0 #[] #[])
  fields := #[]
  methods := #[k0m0]
  instanceTypes := #[]
  staticTypes := #[]
  resolved := Array.replicate 124 none
  statics := none }

def pool1 : Array CpInfo := pool [(2, .class_ 4), (1, u "java/lang/Object"), (0, u "<init>"), (0, u "()V"), (0, .class_ 8), (0, u "com/example/workflow_soundness/workflowsoundness/model/OmegaMarking"), (0, .methodref 10 11), (0, .class_ 12), (0, .nameAndType 13 14), (0, u "com/example/workflow_soundness/workflowsoundness/model/OmegaMarkingHoldsOmegaPinLaw"), (0, u "cell"), (0, u "(I)I"), (0, .methodref 7 16), (0, .nameAndType 5 17), (0, u "([I)V"), (0, .methodref 7 19), (0, .nameAndType 20 21), (0, u "holdsOmega"), (0, u "()Z"), (3, u "law"), (0, u "(IIIIII)Z")] 4

def k1m0 : Method := { name := "<init>", desc := "()V", sig := { parameters := [], returnType := none }, accessFlags := 1, code := none }
def k1c1 : Code := { maxStack := 1, maxLocals := 1, code := method_2_code, exceptionTable := #[], attributes := #[] }
def k1m1 : Method := { name := "cell", desc := "(I)I", sig := { parameters := [.int], returnType := some .int }, accessFlags := 10, code := some k1c1 }
def k1c2 : Code := { maxStack := 3, maxLocals := 10, code := code, exceptionTable := #[], attributes := #[] }
def k1m2 : Method := { name := "law", desc := "(IIIIII)Z", sig := { parameters := [.int, .int, .int, .int, .int, .int], returnType := some .boolean }, accessFlags := 9, code := some k1c2 }
/-- com/example/workflow_soundness/workflowsoundness/model/OmegaMarkingHoldsOmegaPinLaw -/
def k1 : Class := { plain "com/example/workflow_soundness/workflowsoundness/model/OmegaMarkingHoldsOmegaPinLaw" (some 0) with
  accessFlags := 49
  interfaces := #[]
  cf := some (fileOf pool1 10 #[] #[{ accessFlags := 1, nameIndex := 5, descriptorIndex := 6, attributes := #[] }, { accessFlags := 10, nameIndex := 13, descriptorIndex := 14, attributes := #[] }, { accessFlags := 9, nameIndex := 25, descriptorIndex := 26, attributes := #[] }] 49 2 #[] #[])
  fields := #[]
  methods := #[k1m0, k1m1, k1m2]
  instanceTypes := #[]
  staticTypes := #[]
  resolved := Array.replicate 31 none
  statics := none }

def pool2 : Array CpInfo := pool [(1, .methodref 2 3), (0, .class_ 4), (0, .nameAndType 5 6), (0, u "java/lang/Object"), (0, u "<init>"), (0, u "()V"), (0, .fieldref 8 9), (0, .class_ 10), (0, .nameAndType 11 12), (0, u "com/example/workflow_soundness/workflowsoundness/model/OmegaMarking"), (0, u "_tokens"), (0, u "[I"), (0, .methodref 14 15), (0, .class_ 16), (0, .nameAndType 17 18), (0, u "java/util/Arrays"), (0, u "hashCode"), (0, u "([I)I"), (0, .fieldref 8 20), (0, .nameAndType 21 22), (0, u "_hash"), (0, u "I"), (15, u "([I)V"), (24, u "holdsOmega"), (0, u "()Z"), (39, u "OMEGA")] 40

def k2c0 : Code := { maxStack := 2, maxLocals := 2, code := prog_114_method_1_code, exceptionTable := #[], attributes := #[] }
def k2m0 : Method := { name := "<init>", desc := "([I)V", sig := { parameters := [(.array .int)], returnType := none }, accessFlags := 0, code := some k2c0 }
def k2c1 : Code := { maxStack := 2, maxLocals := 5, code := prog_114_method_11_code, exceptionTable := #[], attributes := #[] }
def k2m1 : Method := { name := "holdsOmega", desc := "()Z", sig := { parameters := [], returnType := some .boolean }, accessFlags := 1, code := some k2c1 }
/-- com/example/workflow_soundness/workflowsoundness/model/OmegaMarking -/
def k2 : Class := { plain "com/example/workflow_soundness/workflowsoundness/model/OmegaMarking" (some 0) with
  accessFlags := 49
  interfaces := #[]
  cf := some (fileOf pool2 8 #[] #[{ accessFlags := 0, nameIndex := 5, descriptorIndex := 38, attributes := #[] }, { accessFlags := 1, nameIndex := 63, descriptorIndex := 64, attributes := #[] }] 49 2 #[] #[{ accessFlags := 24, nameIndex := 104, descriptorIndex := 22, attributes := #[] }, { accessFlags := 18, nameIndex := 11, descriptorIndex := 12, attributes := #[] }, { accessFlags := 18, nameIndex := 21, descriptorIndex := 22, attributes := #[] }])
  fields := #[{ name := "OMEGA", type := .int, accessFlags := 24, slot := 0, constantValue := 0 }, { name := "_tokens", type := (.array .int), accessFlags := 18, slot := 0, constantValue := 0 }, { name := "_hash", type := .int, accessFlags := 18, slot := 1, constantValue := 0 }]
  methods := #[k2m0, k2m1]
  instanceTypes := #[(.array .int), .int]
  staticTypes := #[.int]
  resolved := Array.replicate 145 none
  statics := none }

def pool3 : Array CpInfo := pool [(2, .class_ 4), (1, u "java/lang/Object"), (0, u "<init>"), (0, u "()V"), (7, .class_ 16), (1, u "java/util/Arrays"), (57, .class_ 76), (1, u "java/util/Arrays$NaturalOrder"), (36, .class_ 115), (1, u "java/util/Arrays$LegacyMergeSort"), (1, u "Z"), (128, .class_ 248), (1, u "jdk/internal/util/ArraysSupport"), (126, .class_ 376), (0, u "java/util/Arrays$ArrayList"), (2, .methodref 246 380), (0, .nameAndType 381 382), (0, u "vectorizedHashCode"), (0, u "(Ljava/lang/Object;IIII)I"), (2, u "hashCode"), (22, u "([I)I"), (36, u "$assertionsDisabled"), (269, u "MIN_ARRAY_SORT_GRAN"), (0, u "I"), (2, u "INSERTIONSORT_THRESHOLD"), (255, .class_ 976), (0, u "java/util/Arrays$ArrayItr")] 52

def k3m0 : Method := { name := "<init>", desc := "()V", sig := { parameters := [], returnType := none }, accessFlags := 2, code := none }
def k3c1 : Code := { maxStack := 5, maxLocals := 1, code := jdk_65_method_150_code, exceptionTable := #[], attributes := #[] }
def k3m1 : Method := { name := "hashCode", desc := "([I)I", sig := { parameters := [(.array .int)], returnType := some .int }, accessFlags := 9, code := some k3c1 }
/-- java/util/Arrays -/
def k3 : Class := { plain "java/util/Arrays" (some 0) with
  accessFlags := 49
  interfaces := #[]
  cf := some (fileOf pool3 14 #[.nestMembers #[975, 375, 113, 74]] #[{ accessFlags := 2, nameIndex := 5, descriptorIndex := 6, attributes := #[] }, { accessFlags := 9, nameIndex := 385, descriptorIndex := 408, attributes := #[] }] 49 2 #[] #[{ accessFlags := 26, nameIndex := 715, descriptorIndex := 716, attributes := #[] }, { accessFlags := 26, nameIndex := 719, descriptorIndex := 716, attributes := #[] }, { accessFlags := 4120, nameIndex := 445, descriptorIndex := 117, attributes := #[] }])
  fields := #[{ name := "MIN_ARRAY_SORT_GRAN", type := .int, accessFlags := 26, slot := 0, constantValue := 0 }, { name := "INSERTIONSORT_THRESHOLD", type := .int, accessFlags := 26, slot := 1, constantValue := 0 }, { name := "$assertionsDisabled", type := .boolean, accessFlags := 4120, slot := 2, constantValue := 0 }]
  methods := #[k3m0, k3m1]
  instanceTypes := #[]
  staticTypes := #[.int, .int, .boolean]
  resolved := Array.replicate 1029 none
  statics := none }

def pool4 : Array CpInfo := pool [(9, u "<init>"), (6, .class_ 18), (1, u "java/lang/Object"), (0, u "()V"), (1, .class_ 23), (1, u "jdk/internal/util/ArraysSupport"), (0, u "LOG2_ARRAY_LONG_INDEX_SCALE"), (0, u "I"), (2, u "U"), (0, u "Ljdk/internal/misc/Unsafe;"), (8, u "BIG_ENDIAN"), (0, u "Z"), (8, u "LOG2_BYTE_BIT_SIZE"), (4, u "LOG2_ARRAY_INT_INDEX_SCALE"), (19, u "hashCode"), (8, .class_ 83), (0, u "[I"), (0, .methodref 21 85), (0, .nameAndType 73 86), (0, u "(I[III)I"), (21, u "JLA"), (0, u "Ljdk/internal/access/JavaLangAccess;"), (11, u "LOG2_ARRAY_BOOLEAN_INDEX_SCALE"), (9, u "LOG2_ARRAY_BYTE_INDEX_SCALE"), (5, u "LOG2_ARRAY_CHAR_INDEX_SCALE"), (5, u "LOG2_ARRAY_SHORT_INDEX_SCALE"), (18, u "LOG2_ARRAY_FLOAT_INDEX_SCALE"), (24, u "LOG2_ARRAY_DOUBLE_INDEX_SCALE"), (89, u "T_BOOLEAN"), (2, u "T_CHAR"), (1, u "T_FLOAT"), (1, u "T_DOUBLE"), (1, u "T_BYTE"), (1, u "T_SHORT"), (1, u "T_INT"), (1, u "T_LONG"), (1, u "SOFT_MAX_ARRAY_LENGTH"), (26, u "vectorizedHashCode"), (0, u "(Ljava/lang/Object;IIII)I")] 55

def k4m0 : Method := { name := "<init>", desc := "()V", sig := { parameters := [], returnType := none }, accessFlags := 2, code := none }
def k4c1 : Code := { maxStack := 4, maxLocals := 5, code := jdk_48_method_4_code, exceptionTable := #[], attributes := #[] }
def k4m1 : Method := { name := "vectorizedHashCode", desc := "(Ljava/lang/Object;IIII)I", sig := { parameters := [(.object "java/lang/Object"), .int, .int, .int, .int], returnType := some .int }, accessFlags := 9, code := some k4c1 }
def k4c2 : Code := { maxStack := 3, maxLocals := 6, code := jdk_48_method_9_code, exceptionTable := #[], attributes := #[] }
def k4m2 : Method := { name := "hashCode", desc := "(I[III)I", sig := { parameters := [.int, (.array .int), .int, .int], returnType := some .int }, accessFlags := 10, code := some k4c2 }
/-- jdk/internal/util/ArraysSupport -/
def k4 : Class := { plain "jdk/internal/util/ArraysSupport" (some 0) with
  accessFlags := 33
  interfaces := #[]
  cf := some (fileOf pool4 21 #[] #[{ accessFlags := 2, nameIndex := 9, descriptorIndex := 19, attributes := #[] }, { accessFlags := 9, nameIndex := 321, descriptorIndex := 322, attributes := #[] }, { accessFlags := 10, nameIndex := 73, descriptorIndex := 86, attributes := #[] }] 33 16 #[] #[{ accessFlags := 24, nameIndex := 28, descriptorIndex := 29, attributes := #[] }, { accessFlags := 26, nameIndex := 38, descriptorIndex := 39, attributes := #[] }, { accessFlags := 25, nameIndex := 121, descriptorIndex := 25, attributes := #[] }, { accessFlags := 25, nameIndex := 131, descriptorIndex := 25, attributes := #[] }, { accessFlags := 25, nameIndex := 137, descriptorIndex := 25, attributes := #[] }, { accessFlags := 25, nameIndex := 143, descriptorIndex := 25, attributes := #[] }, { accessFlags := 25, nameIndex := 53, descriptorIndex := 25, attributes := #[] }, { accessFlags := 25, nameIndex := 24, descriptorIndex := 25, attributes := #[] }, { accessFlags := 25, nameIndex := 162, descriptorIndex := 25, attributes := #[] }, { accessFlags := 25, nameIndex := 187, descriptorIndex := 25, attributes := #[] }, { accessFlags := 26, nameIndex := 48, descriptorIndex := 25, attributes := #[] }, { accessFlags := 25, nameIndex := 277, descriptorIndex := 25, attributes := #[] }, { accessFlags := 25, nameIndex := 280, descriptorIndex := 25, attributes := #[] }, { accessFlags := 25, nameIndex := 282, descriptorIndex := 25, attributes := #[] }, { accessFlags := 25, nameIndex := 284, descriptorIndex := 25, attributes := #[] }, { accessFlags := 25, nameIndex := 286, descriptorIndex := 25, attributes := #[] }, { accessFlags := 25, nameIndex := 288, descriptorIndex := 25, attributes := #[] }, { accessFlags := 25, nameIndex := 290, descriptorIndex := 25, attributes := #[] }, { accessFlags := 25, nameIndex := 292, descriptorIndex := 25, attributes := #[] }, { accessFlags := 26, nameIndex := 108, descriptorIndex := 109, attributes := #[] }, { accessFlags := 25, nameIndex := 294, descriptorIndex := 25, attributes := #[] }])
  fields := #[{ name := "U", type := (.object "jdk/internal/misc/Unsafe"), accessFlags := 24, slot := 0, constantValue := 0 }, { name := "BIG_ENDIAN", type := .boolean, accessFlags := 26, slot := 1, constantValue := 0 }, { name := "LOG2_ARRAY_BOOLEAN_INDEX_SCALE", type := .int, accessFlags := 25, slot := 2, constantValue := 0 }, { name := "LOG2_ARRAY_BYTE_INDEX_SCALE", type := .int, accessFlags := 25, slot := 3, constantValue := 0 }, { name := "LOG2_ARRAY_CHAR_INDEX_SCALE", type := .int, accessFlags := 25, slot := 4, constantValue := 0 }, { name := "LOG2_ARRAY_SHORT_INDEX_SCALE", type := .int, accessFlags := 25, slot := 5, constantValue := 0 }, { name := "LOG2_ARRAY_INT_INDEX_SCALE", type := .int, accessFlags := 25, slot := 6, constantValue := 0 }, { name := "LOG2_ARRAY_LONG_INDEX_SCALE", type := .int, accessFlags := 25, slot := 7, constantValue := 0 }, { name := "LOG2_ARRAY_FLOAT_INDEX_SCALE", type := .int, accessFlags := 25, slot := 8, constantValue := 0 }, { name := "LOG2_ARRAY_DOUBLE_INDEX_SCALE", type := .int, accessFlags := 25, slot := 9, constantValue := 0 }, { name := "LOG2_BYTE_BIT_SIZE", type := .int, accessFlags := 26, slot := 10, constantValue := 0 }, { name := "T_BOOLEAN", type := .int, accessFlags := 25, slot := 11, constantValue := 0 }, { name := "T_CHAR", type := .int, accessFlags := 25, slot := 12, constantValue := 0 }, { name := "T_FLOAT", type := .int, accessFlags := 25, slot := 13, constantValue := 0 }, { name := "T_DOUBLE", type := .int, accessFlags := 25, slot := 14, constantValue := 0 }, { name := "T_BYTE", type := .int, accessFlags := 25, slot := 15, constantValue := 0 }, { name := "T_SHORT", type := .int, accessFlags := 25, slot := 16, constantValue := 0 }, { name := "T_INT", type := .int, accessFlags := 25, slot := 17, constantValue := 0 }, { name := "T_LONG", type := .int, accessFlags := 25, slot := 18, constantValue := 0 }, { name := "JLA", type := (.object "jdk/internal/access/JavaLangAccess"), accessFlags := 26, slot := 19, constantValue := 0 }, { name := "SOFT_MAX_ARRAY_LENGTH", type := .int, accessFlags := 25, slot := 20, constantValue := 0 }]
  methods := #[k4m0, k4m1, k4m2]
  instanceTypes := #[]
  staticTypes := #[(.object "jdk/internal/misc/Unsafe"), .boolean, .int, .int, .int, .int, .int, .int, .int, .int, .int, .int, .int, .int, .int, .int, .int, .int, .int, (.object "jdk/internal/access/JavaLangAccess"), .int]
  resolved := Array.replicate 378 none
  statics := none }

def pool5 : Array CpInfo := pool [(1, u "java/lang/Cloneable"), (0, .class_ 1), (0, u "java/lang/Object"), (0, .class_ 3)] 3

/-- java/lang/Cloneable -/
def k5 : Class := { plain "java/lang/Cloneable" (some 0) with
  accessFlags := 1537
  interfaces := #[]
  cf := some (fileOf pool5 2 #[] #[] 1537 4 #[] #[])
  fields := #[]
  methods := #[]
  instanceTypes := #[]
  staticTypes := #[]
  resolved := Array.replicate 8 none
  statics := none }

def pool6 : Array CpInfo := pool [(1, u "java/io/Serializable"), (0, .class_ 1), (0, u "java/lang/Object"), (0, .class_ 3)] 3

/-- java/io/Serializable -/
def k6 : Class := { plain "java/io/Serializable" (some 0) with
  accessFlags := 1537
  interfaces := #[]
  cf := some (fileOf pool6 2 #[] #[] 1537 4 #[] #[])
  fields := #[]
  methods := #[]
  instanceTypes := #[]
  staticTypes := #[]
  resolved := Array.replicate 8 none
  statics := none }

/-- the primitive byte -/
def k7 : Class := { plain "byte" none with kind := .primitive 'B', accessFlags := 0x411 }
/-- [B -/
def k8 : Class := { plain "[B" (some 0) with kind := .array 7 .byte, interfaces := #[5, 6], accessFlags := 1041 }

/-- the primitive int -/
def k9 : Class := { plain "int" none with kind := .primitive 'I', accessFlags := 0x411 }
/-- [I -/
def k10 : Class := { plain "[I" (some 0) with kind := .array 9 .int, interfaces := #[5, 6], accessFlags := 1041 }

def heap : Heap := #[]
def classes : Array Class := #[k0, k1, k2, k3, k4, k5, k6, k7, k8, k9, k10]
def interned : List (Array UInt16 × Addr) := []
def slotsUsed : Nat := 0
def theMethod : MethodId := ⟨1, 2⟩
def args0 : Array Value := #[.int 3, .int 4, .int 6, .int 9, .int 3, .int 12]
def aboutOver (below : List Frame) : State where
  vm := { classes := classes, interned := interned.toArray }
  heap := heap
  slotsUsed := slotsUsed
  threads := #[{ frames := .invoking theMethod args0 :: below }]
def below0 : List Frame := [.native { method := ⟨0, 0⟩, args := #[] }]
def about1 : State := aboutOver below0
def p0 : Program := .bare "" "" ""
def e0 : Env := launch0.env 0 0 0
theorem w_frames : about1.frames = Frame.invoking theMethod args0 :: below0 := rfl
set_option maxRecDepth 65536 in
theorem w_args : argsFit about1.vm theMethod args0 = true := by decide +kernel
set_option maxRecDepth 65536 in
theorem w_heap : heapFits about1 = true := by decide +kernel
set_option maxRecDepth 65536 in
theorem w_runnable : about1.curStatus? = some .runnable := by decide +kernel
set_option maxRecDepth 65536 in
theorem w_alone : about1.alone = true := by decide +kernel
set_option maxRecDepth 65536 in
theorem w_named : about1.methodNamed? x = some theMethod := by decide +kernel
set_option maxRecDepth 65536 in
theorem w_hears : about1.hears theMethod below0 = true := by decide +kernel
set_option maxRecDepth 65536 in
theorem w_ripe : about1.ripe theMethod args0 below0 = true := by decide +kernel
theorem w_running : about1.status = .running := rfl
set_option maxRecDepth 65536 in
theorem w_room : about1.hasRoom e0.platform room_1 = true :=
  launch0.hasRoom_least _ room_1 (by decide +kernel) (by decide +kernel) (by decide +kernel) (by decide +kernel) (by decide +kernel) (by decide +kernel)
theorem allAtoms_all (ts : List Jvm.Cond) (a : Array Jvm.Value) (st : Jvm.State) : (allAtoms ts).before a st = ts.all (fun c => c.before a st) := by
  induction ts with
  | nil => rfl
  | cons c t ih =>
    show (Jvm.Cond.and c (allAtoms t)).before a st = _
    rw [Jvm.Cond.before_and, ih, List.all_cons]
def words1 : List Jvm.Cond := Jvm.Cond.code x code maxLocals ret :: tables_1
/-- a 'code' word, met by the world's own term for the bytes: nothing is compared byte by byte -/
theorem code_word {y : MethodName} {bytes : ByteArray} {mx : Nat} {rt : Option FieldType} {a : Array Value} {s : State} {m : MethodId} {meth : Method} {c : Code} (h1 : s.methodNamed? y = some m) (h2 : s.vm.method? m = some meth) (h3 : meth.code = some c) (h4 : c.code = bytes)
    (h5 : (c.maxLocals == mx && c.exceptionTable.isEmpty && decide (c.maxStack ≤ mostOperands) && decide (meth.sig.returnType = rt) && !meth.locks && decide (parseMethodDescriptor y.desc = some meth.sig)) = true) : (Jvm.Cond.code y bytes mx rt).before a s = true := by
  simp only [Bool.and_eq_true, beq_iff_eq, Bool.not_eq_true', decide_eq_true_eq] at h5
  obtain ⟨⟨⟨⟨⟨g1, g2⟩, g3⟩, g4⟩, g5⟩, g6⟩ := h5
  simp [Cond.before, Cond.holds, Cond.value, h1, h2, h3, h4, g1, g2, g3, g4, g5, g6]
def isCode : Jvm.Cond → Bool
  | .code _ _ _ _ => true
  | _ => false
theorem all_split {L : List Jvm.Cond} {P : Jvm.Cond → Bool} (h1 : L.all (fun c => isCode c || P c) = true) (h2 : ∀ c ∈ L.filter isCode, P c = true) : L.all P = true := by
  refine List.all_eq_true.mpr fun c hc => ?_
  have h := List.all_eq_true.mp h1 c hc
  rcases Bool.eq_false_or_eq_true (isCode c) with hi | hi
  · exact h2 c (List.mem_filter.mpr ⟨hc, hi⟩)
  · simpa [hi] using h
set_option maxRecDepth 65536 in
theorem w_c0 : (Jvm.Cond.code x code maxLocals ret).before args0 about1 = true := code_word (m := ⟨1, 2⟩) (meth := k1m2) (c := k1c2) (by decide +kernel) rfl rfl rfl (by decide +kernel)
set_option maxRecDepth 65536 in
theorem w_c1 : (Jvm.Cond.code ({ cls := "com/example/workflow_soundness/workflowsoundness/model/OmegaMarking", name := "<init>", desc := "([I)V" } : Jvm.MethodName) prog_114_method_1_code (2 : Nat) (Option.none : Option Jvm.ClassFile.FieldType)).before args0 about1 = true := code_word (m := ⟨2, 0⟩) (meth := k2m0) (c := k2c0) (by decide +kernel) rfl rfl rfl (by decide +kernel)
set_option maxRecDepth 65536 in
theorem w_c2 : (Jvm.Cond.code ({ cls := "java/lang/Object", name := "<init>", desc := "()V" } : Jvm.MethodName) object_method_1_code (1 : Nat) (Option.none : Option Jvm.ClassFile.FieldType)).before args0 about1 = true := code_word (m := ⟨0, 0⟩) (meth := k0m0) (c := k0c0) (by decide +kernel) rfl rfl rfl (by decide +kernel)
set_option maxRecDepth 65536 in
theorem w_c3 : (Jvm.Cond.code ({ cls := "java/util/Arrays", name := "hashCode", desc := "([I)I" } : Jvm.MethodName) jdk_65_method_150_code (1 : Nat) (Option.some Jvm.ClassFile.FieldType.int)).before args0 about1 = true := code_word (m := ⟨3, 1⟩) (meth := k3m1) (c := k3c1) (by decide +kernel) rfl rfl rfl (by decide +kernel)
set_option maxRecDepth 65536 in
theorem w_c4 : (Jvm.Cond.code ({ cls := "com/example/workflow_soundness/workflowsoundness/model/OmegaMarking", name := "holdsOmega", desc := "()Z" } : Jvm.MethodName) prog_114_method_11_code (5 : Nat) (Option.some Jvm.ClassFile.FieldType.boolean)).before args0 about1 = true := code_word (m := ⟨2, 1⟩) (meth := k2m1) (c := k2c1) (by decide +kernel) rfl rfl rfl (by decide +kernel)
set_option maxRecDepth 65536 in
theorem w_c5 : (Jvm.Cond.code ({ cls := "com/example/workflow_soundness/workflowsoundness/model/OmegaMarkingHoldsOmegaPinLaw", name := "cell", desc := "(I)I" } : Jvm.MethodName) method_2_code (1 : Nat) (Option.some Jvm.ClassFile.FieldType.int)).before args0 about1 = true := code_word (m := ⟨1, 1⟩) (meth := k1m1) (c := k1c1) (by decide +kernel) rfl rfl rfl (by decide +kernel)
set_option maxRecDepth 65536 in
theorem w_c6 : (Jvm.Cond.code ({ cls := "jdk/internal/util/ArraysSupport", name := "vectorizedHashCode", desc := "(Ljava/lang/Object;IIII)I" } : Jvm.MethodName) jdk_48_method_4_code (5 : Nat) (Option.some Jvm.ClassFile.FieldType.int)).before args0 about1 = true := code_word (m := ⟨4, 1⟩) (meth := k4m1) (c := k4c1) (by decide +kernel) rfl rfl rfl (by decide +kernel)
set_option maxRecDepth 65536 in
theorem w_c7 : (Jvm.Cond.code ({ cls := "jdk/internal/util/ArraysSupport", name := "hashCode", desc := "(I[III)I" } : Jvm.MethodName) jdk_48_method_9_code (6 : Nat) (Option.some Jvm.ClassFile.FieldType.int)).before args0 about1 = true := code_word (m := ⟨4, 2⟩) (meth := k4m2) (c := k4c2) (by decide +kernel) rfl rfl rfl (by decide +kernel)
def codes1 : List Jvm.Cond := [Jvm.Cond.code x code maxLocals ret, Jvm.Cond.code ({ cls := "com/example/workflow_soundness/workflowsoundness/model/OmegaMarking", name := "<init>", desc := "([I)V" } : Jvm.MethodName) prog_114_method_1_code (2 : Nat) (Option.none : Option Jvm.ClassFile.FieldType), Jvm.Cond.code ({ cls := "java/lang/Object", name := "<init>", desc := "()V" } : Jvm.MethodName) object_method_1_code (1 : Nat) (Option.none : Option Jvm.ClassFile.FieldType), Jvm.Cond.code ({ cls := "java/util/Arrays", name := "hashCode", desc := "([I)I" } : Jvm.MethodName) jdk_65_method_150_code (1 : Nat) (Option.some Jvm.ClassFile.FieldType.int), Jvm.Cond.code ({ cls := "com/example/workflow_soundness/workflowsoundness/model/OmegaMarking", name := "holdsOmega", desc := "()Z" } : Jvm.MethodName) prog_114_method_11_code (5 : Nat) (Option.some Jvm.ClassFile.FieldType.boolean), Jvm.Cond.code ({ cls := "com/example/workflow_soundness/workflowsoundness/model/OmegaMarkingHoldsOmegaPinLaw", name := "cell", desc := "(I)I" } : Jvm.MethodName) method_2_code (1 : Nat) (Option.some Jvm.ClassFile.FieldType.int), Jvm.Cond.code ({ cls := "jdk/internal/util/ArraysSupport", name := "vectorizedHashCode", desc := "(Ljava/lang/Object;IIII)I" } : Jvm.MethodName) jdk_48_method_4_code (5 : Nat) (Option.some Jvm.ClassFile.FieldType.int), Jvm.Cond.code ({ cls := "jdk/internal/util/ArraysSupport", name := "hashCode", desc := "(I[III)I" } : Jvm.MethodName) jdk_48_method_9_code (6 : Nat) (Option.some Jvm.ClassFile.FieldType.int)]
set_option maxRecDepth 65536 in
theorem codes_eq : words1.filter isCode = codes1 := rfl
theorem w_codes : ∀ c ∈ words1.filter isCode, c.before args0 about1 = true := by
  rw [codes_eq]
  intro c hc
  simp only [codes1, List.mem_cons, List.not_mem_nil, or_false] at hc
  rcases hc with rfl | rfl | rfl | rfl | rfl | rfl | rfl | rfl
  · exact w_c0
  · exact w_c1
  · exact w_c2
  · exact w_c3
  · exact w_c4
  · exact w_c5
  · exact w_c6
  · exact w_c7
set_option maxRecDepth 65536 in
theorem w_t1 : (words1.take 24).all (fun c => isCode c || c.before args0 about1) = true := by decide +kernel
set_option maxRecDepth 65536 in
theorem w_t2 : (words1.drop 24).all (fun c => isCode c || c.before args0 about1) = true := by decide +kernel
theorem w_tables : (allAtoms (Jvm.Cond.code x code maxLocals ret :: tables_1)).before args0 about1 = true := by
  rw [allAtoms_all]
  show words1.all (fun c => c.before args0 about1) = true
  refine all_split ?_ w_codes
  rw [← List.take_append_drop 24 words1, List.all_append, w_t1, w_t2]
  rfl
set_option maxRecDepth 65536 in
theorem w_case : (Jvm.Cond.and given_1 narrow_1).before args0 about1 = true := by decide +kernel
theorem w_applies : (headSpec (Jvm.Cond.code x code maxLocals ret :: tables_1) room_1).applies x e0.platform about1 = true :=
  (Spec.applies_iff w_frames).mpr ⟨w_running, w_runnable, w_alone, w_named, w_hears, w_ripe, w_room, w_tables⟩
theorem atStart : AtStart classFile x code maxLocals ret World_1 tables_1 room_1 Calls_1 rest_1 Pre_1 launch0 p0 e0 about1 theMethod args0 below0 :=
  ⟨lists_1, trivial, launch0.admits_env _ _ _, launch0.least_env, fairChoices_fair.cas, fairChoices_fair.clock, w_frames, w_args, w_heap, w_applies, trivial, trivial, w_case⟩
end start1
theorem witness_1 : WitnessClaimed_1 := ⟨start1.p0, start1.e0, start1.about1, start1.theMethod, start1.args0, start1.below0, start1.atStart⟩
end Jvm.Pilot.@@N@@
