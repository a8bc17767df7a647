import JvmDerived
import JvmDerived.Pilot.@@N@@Statement
import JvmDerived.Pilot.@@N@@Code
set_option linter.unusedVariables false
set_option linter.unusedSimpArgs false
namespace Jvm.Pilot.@@N@@
open Jvm Jvm.ClassFile Sem Op Lib Jvm.Free Jvm.Stand Jvm.LawKit Jvm.RoadKit Bundle Jvm.Pilot.@@N@@.Jvm.D

/-! own layer: a run that ends well, step by step (every lemma here is of this text) -/
section Own
variable {p : Program} {l : Launch} {e : Env} {R : Room} {s : State} {m : MethodId} {args : Array Value} {below : List Frame} {meth : Method} {c : Code} {T : State} {locs : List Loc} {cells slots : Nat} {P : State → Outcome → Prop} {pc pc' pc1 : Nat} {L L' : Array Slot} {S : List Value} {Z : State} {a0 : Array Value} {h : Heap}
/-- from this frame the run ends, and P holds of the end -/
def Ends (p : Program) (e : Env) (below : List Frame) (P : State → Outcome → Prop) (T : State) (m : MethodId) (pc : Nat) (L : Array Slot) (S : List Value) : Prop :=
  ∃ t o, Steps p.tables e below (T.setTop (mkF m pc L S)) t ∧ t.status = .running ∧ Ended t below o ∧ P t o
theorem Ends.of {T' : State} {S' : List Value} (k : Ends p e below P T' m pc' L' S') (h : ∀ target, Steps p.tables e below (T'.setTop (mkF m pc' L' S')) target → Steps p.tables e below (T.setTop (mkF m pc L S)) target) : Ends p e below P T m pc L S := by
  obtain ⟨t, o, h1, h2⟩ := k; exact ⟨t, o, h _ h1, h2⟩
theorem eILoadN (X : Stand p l e R s m args below meth c T locs cells slots) (hx : p.tables.exec = Jvm.exec) {k : Fin 4} {v : Int32} (hd : decode c.code pc = .ok (.iload_n k, 1)) (hl : L[k.val]? = some (.val (.int v))) (hp : pc + 1 = pc') (kk : Ends p e below P T m pc' L (.int v :: S)) : Ends p e below P T m pc L S := by
  subst hp; exact kk.of fun t h => XS.iloadN X.here hx rfl hd hl h
theorem eILoad (X : Stand p l e R s m args below meth c T locs cells slots) (hx : p.tables.exec = Jvm.exec) {k : Nat} {v : Int32} (hd : decode c.code pc = .ok (.iload k, 2)) (hl : L[k]? = some (.val (.int v))) (hp : pc + 2 = pc') (kk : Ends p e below P T m pc' L (.int v :: S)) : Ends p e below P T m pc L S := by
  subst hp; exact kk.of fun t h => XS.iload X.here hx rfl hd hl h
theorem eLLoadN (X : Stand p l e R s m args below meth c T locs cells slots) (hx : p.tables.exec = Jvm.exec) {k : Fin 4} {v : Int64} (hd : decode c.code pc = .ok (.lload_n k, 1)) (hl : L[k.val]? = some (.val (.long v))) (hp : pc + 1 = pc') (kk : Ends p e below P T m pc' L (.long v :: S)) : Ends p e below P T m pc L S := by
  subst hp; exact kk.of fun t h => XT.lloadN X.here hx rfl hd hl h
theorem eLLoad (X : Stand p l e R s m args below meth c T locs cells slots) (hx : p.tables.exec = Jvm.exec) {k : Nat} {v : Int64} (hd : decode c.code pc = .ok (.lload k, 2)) (hl : L[k]? = some (.val (.long v))) (hp : pc + 2 = pc') (kk : Ends p e below P T m pc' L (.long v :: S)) : Ends p e below P T m pc L S := by
  subst hp; exact kk.of fun t h => XT.lload X.here hx rfl hd hl h
theorem eALoadN (X : Stand p l e R s m args below meth c T locs cells slots) (hx : p.tables.exec = Jvm.exec) {k : Fin 4} {v : Value} (hd : decode c.code pc = .ok (.aload_n k, 1)) (hl : L[k.val]? = some (.val v)) (hv : v.isRef = true) (hp : pc + 1 = pc') (kk : Ends p e below P T m pc' L (v :: S)) : Ends p e below P T m pc L S := by
  subst hp; exact kk.of fun t h => XS.aloadN X.here hx rfl hd hl hv h
theorem eALoad (X : Stand p l e R s m args below meth c T locs cells slots) (hx : p.tables.exec = Jvm.exec) {k : Nat} {v : Value} (hd : decode c.code pc = .ok (.aload k, 2)) (hl : L[k]? = some (.val v)) (hv : v.isRef = true) (hp : pc + 2 = pc') (kk : Ends p e below P T m pc' L (v :: S)) : Ends p e below P T m pc L S := by
  subst hp; exact kk.of fun t h => XS.aload X.here hx rfl hd hl hv h
theorem eIStoreN (X : Stand p l e R s m args below meth c T locs cells slots) (hx : p.tables.exec = Jvm.exec) {k : Fin 4} {v : Int32} (hd : decode c.code pc = .ok (.istore_n k, 1)) (hl : storeLocals L k.val (.int v) = some L') (hp : pc + 1 = pc') (kk : Ends p e below P T m pc' L' S) : Ends p e below P T m pc L (.int v :: S) := by
  subst hp; exact kk.of fun t h => XS.istoreN X.here hx rfl hd rfl hl h
theorem eIStore (X : Stand p l e R s m args below meth c T locs cells slots) (hx : p.tables.exec = Jvm.exec) {k : Nat} {v : Int32} (hd : decode c.code pc = .ok (.istore k, 2)) (hl : storeLocals L k (.int v) = some L') (hp : pc + 2 = pc') (kk : Ends p e below P T m pc' L' S) : Ends p e below P T m pc L (.int v :: S) := by
  subst hp; exact kk.of fun t h => XS.istore X.here hx rfl hd rfl hl h
theorem eLStoreN (X : Stand p l e R s m args below meth c T locs cells slots) (hx : p.tables.exec = Jvm.exec) {k : Fin 4} {v : Int64} (hd : decode c.code pc = .ok (.lstore_n k, 1)) (hl : storeLocals L k.val (.long v) = some L') (hp : pc + 1 = pc') (kk : Ends p e below P T m pc' L' S) : Ends p e below P T m pc L (.long v :: S) := by
  subst hp; exact kk.of fun t h => XT.lstoreN X.here hx rfl hd rfl hl h
theorem eLStore (X : Stand p l e R s m args below meth c T locs cells slots) (hx : p.tables.exec = Jvm.exec) {k : Nat} {v : Int64} (hd : decode c.code pc = .ok (.lstore k, 2)) (hl : storeLocals L k (.long v) = some L') (hp : pc + 2 = pc') (kk : Ends p e below P T m pc' L' S) : Ends p e below P T m pc L (.long v :: S) := by
  subst hp; exact kk.of fun t h => XT.lstore X.here hx rfl hd rfl hl h
theorem eAStoreN (X : Stand p l e R s m args below meth c T locs cells slots) (hx : p.tables.exec = Jvm.exec) {k : Fin 4} {v : Value} (hd : decode c.code pc = .ok (.astore_n k, 1)) (hv : v.isRef = true) (hl : storeLocals L k.val v = some L') (hp : pc + 1 = pc') (kk : Ends p e below P T m pc' L' S) : Ends p e below P T m pc L (v :: S) := by
  subst hp; exact kk.of fun t h => XS.astoreN X.here hx rfl hd rfl hv hl h
theorem eAStore (X : Stand p l e R s m args below meth c T locs cells slots) (hx : p.tables.exec = Jvm.exec) {k : Nat} {v : Value} (hd : decode c.code pc = .ok (.astore k, 2)) (hv : v.isRef = true) (hl : storeLocals L k v = some L') (hp : pc + 2 = pc') (kk : Ends p e below P T m pc' L' S) : Ends p e below P T m pc L (v :: S) := by
  subst hp; exact kk.of fun t h => XS.astore X.here hx rfl hd rfl hv hl h
theorem eIConst (X : Stand p l e R s m args below meth c T locs cells slots) (hx : p.tables.exec = Jvm.exec) {i : Int} (v : Int32) (hd : decode c.code pc = .ok (.iconst i, 1)) (hv : Int32.ofInt i = v) (hp : pc + 1 = pc') (kk : Ends p e below P T m pc' L (.int v :: S)) : Ends p e below P T m pc L S := by
  subst hp hv; exact kk.of fun t h => XS.iconst X.here hx rfl hd h
theorem eBipush (X : Stand p l e R s m args below meth c T locs cells slots) (hx : p.tables.exec = Jvm.exec) {i : Int} (v : Int32) (hd : decode c.code pc = .ok (.bipush i, 2)) (hv : (Int8.ofInt i).toInt32 = v) (hp : pc + 2 = pc') (kk : Ends p e below P T m pc' L (.int v :: S)) : Ends p e below P T m pc L S := by
  subst hp hv; exact kk.of fun t h => XS.bipush X.here hx rfl hd h
theorem eSipush (X : Stand p l e R s m args below meth c T locs cells slots) (hx : p.tables.exec = Jvm.exec) {i : Int} (v : Int32) (hd : decode c.code pc = .ok (.sipush i, 3)) (hv : (Int16.ofInt i).toInt32 = v) (hp : pc + 3 = pc') (kk : Ends p e below P T m pc' L (.int v :: S)) : Ends p e below P T m pc L S := by
  subst hp hv; exact kk.of fun t h => XS.sipush X.here hx rfl hd h
theorem eLConst (X : Stand p l e R s m args below meth c T locs cells slots) (hx : p.tables.exec = Jvm.exec) {k : Fin 2} (v : Int64) (hd : decode c.code pc = .ok (.lconst k, 1)) (hv : Int64.ofNat k = v) (hp : pc + 1 = pc') (kk : Ends p e below P T m pc' L (.long v :: S)) : Ends p e below P T m pc L S := by
  subst hp; exact kk.of fun t h => XT.lconstV X.here hx rfl v hd hv h
theorem eNull (X : Stand p l e R s m args below meth c T locs cells slots) (hx : p.tables.exec = Jvm.exec) (hd : decode c.code pc = .ok (.aconst_null, 1)) (hp : pc + 1 = pc') (kk : Ends p e below P T m pc' L (.null :: S)) : Ends p e below P T m pc L S := by
  subst hp; exact kk.of fun t h => XS.aconstNull X.here hx rfl hd h
theorem eLdcI (X : Stand p l e R s m args below meth c T locs cells slots) (hx : p.tables.exec = Jvm.exec) (hZ : Z.Warmed39 s.vm) {own : String} {index : Nat} {v : Int32} (hown : s.vm.findClass own = some m.cls) (w : (Cond.constant own index v).before a0 Z = true) (hd : decode c.code pc = .ok (.ldc index, 2)) (hp : pc + 2 = pc') (kk : Ends p e below P T m pc' L (.int v :: S)) : Ends p e below P T m pc L S := by
  subst hp; exact kk.of fun t h => X.ldcI hx hown (mvT hZ w) rfl hd h
theorem eLdcWI (X : Stand p l e R s m args below meth c T locs cells slots) (hx : p.tables.exec = Jvm.exec) (hZ : Z.Warmed39 s.vm) {own : String} {index : Nat} {v : Int32} (hown : s.vm.findClass own = some m.cls) (w : (Cond.constant own index v).before a0 Z = true) (hd : decode c.code pc = .ok (.ldc_w index, 3)) (hp : pc + 3 = pc') (kk : Ends p e below P T m pc' L (.int v :: S)) : Ends p e below P T m pc L S := by
  subst hp; exact kk.of fun t h => X.ldcWI hx hown (mvT hZ w) rfl hd h
theorem eLdc2J (X : Stand p l e R s m args below meth c T locs cells slots) (hx : p.tables.exec = Jvm.exec) (hZ : Z.Warmed39 s.vm) {own : String} {index : Nat} {v : Int64} (hown : s.vm.findClass own = some m.cls) (w : (Cond.constantLong own index v).before a0 Z = true) (hd : decode c.code pc = .ok (.ldc2_w index, 3)) (hp : pc + 3 = pc') (kk : Ends p e below P T m pc' L (.long v :: S)) : Ends p e below P T m pc L S := by
  subst hp; exact kk.of fun t h => X.ldc2J hx hown (mvT hZ w) rfl hd h
theorem eIAdd (X : Stand p l e R s m args below meth c T locs cells slots) (hx : p.tables.exec = Jvm.exec) {x y : Int32} (hd : decode c.code pc = .ok (.iadd, 1)) (hp : pc + 1 = pc') (kk : Ends p e below P T m pc' L (.int (x + y) :: S)) : Ends p e below P T m pc L (.int y :: .int x :: S) := by
  subst hp; exact kk.of fun t h => XS.iadd X.here hx rfl hd rfl h
theorem eISub (X : Stand p l e R s m args below meth c T locs cells slots) (hx : p.tables.exec = Jvm.exec) {x y : Int32} (hd : decode c.code pc = .ok (.isub, 1)) (hp : pc + 1 = pc') (kk : Ends p e below P T m pc' L (.int (x - y) :: S)) : Ends p e below P T m pc L (.int y :: .int x :: S) := by
  subst hp; exact kk.of fun t h => XS.isub X.here hx rfl hd rfl h
theorem eIMul (X : Stand p l e R s m args below meth c T locs cells slots) (hx : p.tables.exec = Jvm.exec) {x y : Int32} (hd : decode c.code pc = .ok (.imul, 1)) (hp : pc + 1 = pc') (kk : Ends p e below P T m pc' L (.int (x * y) :: S)) : Ends p e below P T m pc L (.int y :: .int x :: S) := by
  subst hp; exact kk.of fun t h => XS.imul X.here hx rfl hd rfl h
theorem eIAnd (X : Stand p l e R s m args below meth c T locs cells slots) (hx : p.tables.exec = Jvm.exec) {x y : Int32} (hd : decode c.code pc = .ok (.iand, 1)) (hp : pc + 1 = pc') (kk : Ends p e below P T m pc' L (.int (x &&& y) :: S)) : Ends p e below P T m pc L (.int y :: .int x :: S) := by
  subst hp; exact kk.of fun t h => XS.iand X.here hx rfl hd rfl h
theorem eIDiv (X : Stand p l e R s m args below meth c T locs cells slots) (hx : p.tables.exec = Jvm.exec) {x y : Int32} (hd : decode c.code pc = .ok (.idiv, 1)) (hy : y ≠ 0) (hp : pc + 1 = pc') (kk : Ends p e below P T m pc' L (.int (x / y) :: S)) : Ends p e below P T m pc L (.int y :: .int x :: S) := by
  subst hp; exact kk.of fun t h => XS.idiv X.here hx rfl hd rfl hy h
theorem eIRem (X : Stand p l e R s m args below meth c T locs cells slots) (hx : p.tables.exec = Jvm.exec) {x y : Int32} (hd : decode c.code pc = .ok (.irem, 1)) (hy : y ≠ 0) (hp : pc + 1 = pc') (kk : Ends p e below P T m pc' L (.int (x % y) :: S)) : Ends p e below P T m pc L (.int y :: .int x :: S) := by
  subst hp; exact kk.of fun t h => iremM X hx rfl hd rfl hy h
theorem eIShr (X : Stand p l e R s m args below meth c T locs cells slots) (hx : p.tables.exec = Jvm.exec) {x y : Int32} (hd : decode c.code pc = .ok (.ishr, 1)) (hp : pc + 1 = pc') (kk : Ends p e below P T m pc' L (.int (x >>> (y &&& 31)) :: S)) : Ends p e below P T m pc L (.int y :: .int x :: S) := by
  subst hp; exact kk.of fun t h => XS.ishr X.here hx rfl hd rfl h
theorem eIUshr (X : Stand p l e R s m args below meth c T locs cells slots) (hx : p.tables.exec = Jvm.exec) {x y : Int32} (hd : decode c.code pc = .ok (.iushr, 1)) (hp : pc + 1 = pc') (kk : Ends p e below P T m pc' L (.int ((x.toUInt32 >>> (y &&& 31).toUInt32).toInt32) :: S)) : Ends p e below P T m pc L (.int y :: .int x :: S) := by
  subst hp; exact kk.of fun t h => XS.iushr X.here hx rfl hd rfl h
theorem eI2C (X : Stand p l e R s m args below meth c T locs cells slots) (hx : p.tables.exec = Jvm.exec) {x : Int32} (hd : decode c.code pc = .ok (.i2c, 1)) (hp : pc + 1 = pc') (kk : Ends p e below P T m pc' L (.int (x.toUInt32.toUInt16.toUInt32.toInt32) :: S)) : Ends p e below P T m pc L (.int x :: S) := by
  subst hp; exact kk.of fun t h => XS.i2c X.here hx rfl hd rfl h
theorem eI2B (X : Stand p l e R s m args below meth c T locs cells slots) (hx : p.tables.exec = Jvm.exec) {x : Int32} (hd : decode c.code pc = .ok (.i2b, 1)) (hp : pc + 1 = pc') (kk : Ends p e below P T m pc' L (.int (x.toInt8.toInt32) :: S)) : Ends p e below P T m pc L (.int x :: S) := by
  subst hp; exact kk.of fun t h => XS.i2b X.here hx rfl hd rfl h
theorem eI2L (X : Stand p l e R s m args below meth c T locs cells slots) (hx : p.tables.exec = Jvm.exec) {x : Int32} (hd : decode c.code pc = .ok (.i2l, 1)) (hp : pc + 1 = pc') (kk : Ends p e below P T m pc' L (.long (x.toInt64) :: S)) : Ends p e below P T m pc L (.int x :: S) := by
  subst hp; exact kk.of fun t h => XS.i2l X.here hx rfl hd rfl h
theorem eLAdd (X : Stand p l e R s m args below meth c T locs cells slots) (hx : p.tables.exec = Jvm.exec) {x y : Int64} (hd : decode c.code pc = .ok (.ladd, 1)) (hp : pc + 1 = pc') (kk : Ends p e below P T m pc' L (.long (x + y) :: S)) : Ends p e below P T m pc L (.long y :: .long x :: S) := by
  subst hp; exact kk.of fun t h => XS.ladd X.here hx rfl hd rfl h
theorem eLSub (X : Stand p l e R s m args below meth c T locs cells slots) (hx : p.tables.exec = Jvm.exec) {x y : Int64} (hd : decode c.code pc = .ok (.lsub, 1)) (hp : pc + 1 = pc') (kk : Ends p e below P T m pc' L (.long (x - y) :: S)) : Ends p e below P T m pc L (.long y :: .long x :: S) := by
  subst hp; exact kk.of fun t h => XS.lsub X.here hx rfl hd rfl h
theorem eLAnd (X : Stand p l e R s m args below meth c T locs cells slots) (hx : p.tables.exec = Jvm.exec) {x y : Int64} (hd : decode c.code pc = .ok (.land, 1)) (hp : pc + 1 = pc') (kk : Ends p e below P T m pc' L (.long (x &&& y) :: S)) : Ends p e below P T m pc L (.long y :: .long x :: S) := by
  subst hp; exact kk.of fun t h => XS.land X.here hx rfl hd rfl h
theorem eLOr (X : Stand p l e R s m args below meth c T locs cells slots) (hx : p.tables.exec = Jvm.exec) {x y : Int64} (hd : decode c.code pc = .ok (.lor, 1)) (hp : pc + 1 = pc') (kk : Ends p e below P T m pc' L (.long (x ||| y) :: S)) : Ends p e below P T m pc L (.long y :: .long x :: S) := by
  subst hp; exact kk.of fun t h => XS.lor X.here hx rfl hd rfl h
theorem eLShl (X : Stand p l e R s m args below meth c T locs cells slots) (hx : p.tables.exec = Jvm.exec) {x : Int64} {y : Int32} (hd : decode c.code pc = .ok (.lshl, 1)) (hp : pc + 1 = pc') (kk : Ends p e below P T m pc' L (.long (x <<< (y &&& 0x3f).toInt64) :: S)) : Ends p e below P T m pc L (.int y :: .long x :: S) := by
  subst hp; exact kk.of fun t h => XS.lshl X.here hx rfl hd rfl h
theorem eLShr (X : Stand p l e R s m args below meth c T locs cells slots) (hx : p.tables.exec = Jvm.exec) {x : Int64} {y : Int32} (hd : decode c.code pc = .ok (.lshr, 1)) (hp : pc + 1 = pc') (kk : Ends p e below P T m pc' L (.long (x >>> (y &&& 0x3f).toInt64) :: S)) : Ends p e below P T m pc L (.int y :: .long x :: S) := by
  subst hp; exact kk.of fun t h => XS.lshr X.here hx rfl hd rfl h
theorem eLDiv (X : Stand p l e R s m args below meth c T locs cells slots) (hx : p.tables.exec = Jvm.exec) {x y : Int64} (hd : decode c.code pc = .ok (.ldiv, 1)) (hy : y ≠ 0) (hp : pc + 1 = pc') (kk : Ends p e below P T m pc' L (.long (x / y) :: S)) : Ends p e below P T m pc L (.long y :: .long x :: S) := by
  subst hp; exact kk.of fun t h => XT.ldiv X.here hx rfl hd rfl hy h
theorem eLRem (X : Stand p l e R s m args below meth c T locs cells slots) (hx : p.tables.exec = Jvm.exec) {x y : Int64} (hd : decode c.code pc = .ok (.lrem, 1)) (hy : y ≠ 0) (hp : pc + 1 = pc') (kk : Ends p e below P T m pc' L (.long (x % y) :: S)) : Ends p e below P T m pc L (.long y :: .long x :: S) := by
  subst hp; exact kk.of fun t h => XT.lrem X.here hx rfl hd rfl hy (by first | exact h | (rw [lrem_mod]; exact h))
theorem eLNeg (X : Stand p l e R s m args below meth c T locs cells slots) (hx : p.tables.exec = Jvm.exec) {x : Int64} (hd : decode c.code pc = .ok (.lneg, 1)) (hp : pc + 1 = pc') (kk : Ends p e below P T m pc' L (.long (-x) :: S)) : Ends p e below P T m pc L (.long x :: S) := by
  subst hp; exact kk.of fun t h => XT.lneg X.here hx rfl hd rfl h
theorem eLCmp (X : Stand p l e R s m args below meth c T locs cells slots) (hx : p.tables.exec = Jvm.exec) {x y : Int64} (hd : decode c.code pc = .ok (.lcmp, 1)) (hp : pc + 1 = pc') (kk : Ends p e below P T m pc' L (.int (XT.cmpL x y) :: S)) : Ends p e below P T m pc L (.long y :: .long x :: S) := by
  subst hp; exact kk.of fun t h => XT.lcmp X.here hx rfl hd rfl h
theorem eDup (X : Stand p l e R s m args below meth c T locs cells slots) (hx : p.tables.exec = Jvm.exec) {v : Value} (hd : decode c.code pc = .ok (.dup, 1)) (hc : v.category = 1) (hp : pc + 1 = pc') (kk : Ends p e below P T m pc' L (v :: v :: S)) : Ends p e below P T m pc L (v :: S) := by
  subst hp; exact kk.of fun t h => XS.dup X.here hx rfl hd rfl hc h
theorem ePop (X : Stand p l e R s m args below meth c T locs cells slots) (hx : p.tables.exec = Jvm.exec) {v : Value} (hd : decode c.code pc = .ok (.pop, 1)) (hc : v.category = 1) (hp : pc + 1 = pc') (kk : Ends p e below P T m pc' L S) : Ends p e below P T m pc L (v :: S) := by
  subst hp; exact kk.of fun t h => XT.pop X.here hx rfl hd rfl hc h
theorem eDupX1 (X : Stand p l e R s m args below meth c T locs cells slots) (hx : p.tables.exec = Jvm.exec) {v w : Value} (hd : decode c.code pc = .ok (.dup_x1, 1)) (hc : v.category = 1) (hc' : w.category = 1) (hp : pc + 1 = pc') (kk : Ends p e below P T m pc' L (v :: w :: v :: S)) : Ends p e below P T m pc L (v :: w :: S) := by
  subst hp; exact kk.of fun t h => XT.dupX1 X.here hx rfl hd rfl hc hc' h
theorem eDup2 (X : Stand p l e R s m args below meth c T locs cells slots) (hx : p.tables.exec = Jvm.exec) {v w : Value} (hd : decode c.code pc = .ok (.dup2, 1)) (hc : v.category = 1) (hc' : w.category = 1) (hp : pc + 1 = pc') (kk : Ends p e below P T m pc' L (v :: w :: v :: w :: S)) : Ends p e below P T m pc L (v :: w :: S) := by
  subst hp; exact kk.of fun t h => XT.dup2 X.here hx rfl hd rfl hc hc' h
theorem eDupX2 (X : Stand p l e R s m args below meth c T locs cells slots) (hx : p.tables.exec = Jvm.exec) {v w u : Value} (hd : decode c.code pc = .ok (.dup_x2, 1)) (hc : v.category = 1) (hc' : w.category = 1) (hc2 : u.category = 1) (hp : pc + 1 = pc') (kk : Ends p e below P T m pc' L (v :: w :: u :: v :: S)) : Ends p e below P T m pc L (v :: w :: u :: S) := by
  subst hp
  refine kk.of fun t h => ?_
  jvm_step X.here [X.here.top, hx, hd, hc, hc', hc2]
  exact h
theorem eIInc (X : Stand p l e R s m args below meth c T locs cells slots) (hx : p.tables.exec = Jvm.exec) {k : Nat} {cst : Int} {x : Int32} (v : Int32) (hd : decode c.code pc = .ok (.iinc k cst, 3)) (hv : Int32.ofInt cst = v) (hl : L[k]? = some (.val (.int x))) (hl' : storeLocals L k (.int (x + v)) = some L') (hp : pc + 3 = pc') (kk : Ends p e below P T m pc' L' S) : Ends p e below P T m pc L S := by
  subst hp hv; exact kk.of fun t h => XS.iinc X.here hx rfl hd hl hl' h
theorem eGoto (X : Stand p l e R s m args below meth c T locs cells slots) (hx : p.tables.exec = Jvm.exec) {o : Int} (hd : decode c.code pc = .ok (.goto o, 3)) (ho : 0 ≤ (pc : Int) + o) (hp : ((pc : Int) + o).toNat = pc') (kk : Ends p e below P T m pc' L S) : Ends p e below P T m pc L S :=
  kk.of fun t h => XS.goto X.here hx rfl rfl hd ho hp h
theorem eIfY (X : Stand p l e R s m args below meth c T locs cells slots) (hx : p.tables.exec = Jvm.exec) {cd : ClassFile.Cond} {x : Int32} {o : Int} (hd : decode c.code pc = .ok (.ifCond cd o, 3)) (hc : ifCond.holds cd x = true) (ho : 0 ≤ (pc : Int) + o) (hp : ((pc : Int) + o).toNat = pc') (kk : Ends p e below P T m pc' L S) : Ends p e below P T m pc L (.int x :: S) :=
  kk.of fun t h => XS.ifYes X.here hx rfl rfl hd rfl hc ho hp h
theorem eIfN (X : Stand p l e R s m args below meth c T locs cells slots) (hx : p.tables.exec = Jvm.exec) {cd : ClassFile.Cond} {x : Int32} {o : Int} (hd : decode c.code pc = .ok (.ifCond cd o, 3)) (hc : ifCond.holds cd x = false) (hp : pc + 3 = pc') (kk : Ends p e below P T m pc' L S) : Ends p e below P T m pc L (.int x :: S) := by
  subst hp; exact kk.of fun t h => XS.ifNo X.here hx rfl hd rfl hc h
theorem eIcmpY (X : Stand p l e R s m args below meth c T locs cells slots) (hx : p.tables.exec = Jvm.exec) {cd : ClassFile.Cond} {x y : Int32} {o : Int} (hd : decode c.code pc = .ok (.if_icmp cd o, 3)) (hc : if_icmp.holds cd x y = true) (ho : 0 ≤ (pc : Int) + o) (hp : ((pc : Int) + o).toNat = pc') (kk : Ends p e below P T m pc' L S) : Ends p e below P T m pc L (.int y :: .int x :: S) :=
  kk.of fun t h => XS.icmpYes X.here hx rfl rfl hd rfl hc ho hp h
theorem eIcmpN (X : Stand p l e R s m args below meth c T locs cells slots) (hx : p.tables.exec = Jvm.exec) {cd : ClassFile.Cond} {x y : Int32} {o : Int} (hd : decode c.code pc = .ok (.if_icmp cd o, 3)) (hc : if_icmp.holds cd x y = false) (hp : pc + 3 = pc') (kk : Ends p e below P T m pc' L S) : Ends p e below P T m pc L (.int y :: .int x :: S) := by
  subst hp; exact kk.of fun t h => XS.icmpNo X.here hx rfl hd rfl hc h
/-! steps that read or write the heap -/
theorem eGetF (X : Stand p l e R s m args below meth c T locs cells slots) (hx : p.tables.exec = Jvm.exec) (hZ : Z.Warmed39 s.vm) {own R0 O n d : String} {index : Nat} (hown : s.vm.findClass own = some m.cls) (w : (Cond.fieldLink own index R0 n d).before a0 Z = true) (via : Via Z R0 O n d) (eT : T.heap = h) {a : Addr} {v : Value} (F : Fld Z h a O n d v) (hd : decode c.code pc = .ok (.getfield index, 3)) (hp : pc + 3 = pc')
    (kk : ∀ T', Stand p l e R s m args below meth c T' locs cells slots → T'.heap = h → Ends p e below P T' m pc' L (v :: S)) : Ends p e below P T m pc L (.ref a :: S) := by
  subst hp
  obtain ⟨T', X', e', st⟩ := getF X hx hZ hown (host := "") (Or.inl w) via eT F (g := mkF m pc L (.ref a :: S)) rfl rfl hd
  exact (kk T' X' e').of st
theorem ePutF (X : Stand p l e R s m args below meth c T locs cells slots) (hx : p.tables.exec = Jvm.exec) (hZ : Z.Warmed39 s.vm) {own R0 O n d C : String} {index kk0 : Nat} {ty : FieldType} (hown : s.vm.findClass own = some m.cls) (w : (Cond.fieldLink own index R0 n d).before a0 Z = true) (via : Via Z R0 O n d) (eT : T.heap = h) {a : Addr} {v old : Value} (F : Fld Z h a O n d old) (E : Exa Z h a C) (La : (Cond.lays C O n d).before a0 Z = true ∨ ((Cond.laysFinal C O n d).before a0 Z = true ∧ own = O ∧ meth.name = "<init>")) (wi : (Cond.instantiable C kk0).before a0 Z = true) (hty : parseFieldDescriptor d = some ty) (hn : narrow ty v = v) (hf : fits ty v = true) (hd : decode c.code pc = .ok (.putfield index, 3)) (hp : pc + 3 = pc')
    (kk : ∀ T' h', Stand p l e R s m args below meth c T' (locs ++ [⟨a, Jvm.RoadKit.slotOf Z O n d⟩]) cells slots → T'.heap = h' → Wr h h' a (Jvm.RoadKit.slotOf Z O n d) v → Ends p e below P T' m pc' L S) : Ends p e below P T m pc L (v :: .ref a :: S) := by
  subst hp
  obtain ⟨T', h', X', e', W, st⟩ := putF X hx hZ hown (host := "") (Or.inl w) via eT F E La wi hty hn hf (g := mkF m pc L (v :: .ref a :: S)) rfl rfl hd
  exact (kk T' h' X' e' W).of st
theorem eNewO (X : Stand p l e R s m args below meth c T locs cells slots) (hx : p.tables.exec = Jvm.exec) (hZ : Z.Warmed39 s.vm) {own C : String} {index n : Nat} (hown : s.vm.findClass own = some m.cls) (w : (Cond.classLink own index C).before a0 Z = true) (wi : (Cond.instantiable C n).before a0 Z = true) (wz : (Cond.initialized C).before a0 Z = true) (eT : T.heap = h) (hd : decode c.code pc = .ok (.new index, 3)) (hc : cells + 1 ≤ R.cells) (hl : slots + n ≤ R.slots) (hp : pc + 3 = pc')
    (kk : ∀ T' h' a, a = h.size → Stand p l e R s m args below meth c T' locs (cells + 1) (slots + n) → T'.heap = h' → Ext h h' → Exa Z h' a C → (∀ {O nm d : String} {ty : FieldType}, Laid Z a0 C O nm d → parseFieldDescriptor d = some ty → Fld Z h' a O nm d (defaultValue ty)) → Ends p e below P T' m pc' L (.ref a :: S)) : Ends p e below P T m pc L S := by
  subst hp
  obtain ⟨T', h', X', e', E, A, D, -, st⟩ := newO X hx hZ hown w wi wz eT (g := mkF m pc L S) rfl hd hc hl
  exact (kk T' h' _ rfl X' e' E A D).of st
theorem eGetS (X : Stand p l e R s m args below meth c T locs cells slots) (hx : p.tables.exec = Jvm.exec) (hZ : Z.Warmed39 s.vm) {own O n d : String} {index : Nat} (hown : s.vm.findClass own = some m.cls) (w : (Cond.fieldLink own index O n d).before a0 Z = true) (eT : T.heap = h) {v : Value} (F : Sta Z h O n d v) (hd : decode c.code pc = .ok (.getstatic index, 3)) (hp : pc + 3 = pc')
    (kk : ∀ T', Stand p l e R s m args below meth c T' locs cells slots → T'.heap = h → Ends p e below P T' m pc' L (v :: S)) : Ends p e below P T m pc L S := by
  subst hp
  obtain ⟨T', X', e', st⟩ := getS X hx hZ (host := "") hown w Via.refl eT F (g := mkF m pc L S) rfl hd
  exact (kk T' X' e').of st
theorem Sta.keep1 {h' : Heap} {a : Addr} {C C' n d : String} {v : Value} (F : Sta Z h C n d v) (K : Keep h h' [a]) (E : Exa Z h a C') : Sta Z h' C n d v := by
  obtain ⟨cf, i, k, f, st, cell, h1, h2, h3, h4, h5, h6, h7⟩ := F
  obtain ⟨c2, k2, e1, e2, e3, e4, e5⟩ := E
  refine ⟨cf, i, k, f, st, cell, h1, h2, h3, h4, K.2.1 st cell h5 (fun q => ?_), h6, h7⟩
  cases List.mem_singleton.mp q
  cases h5.symm.trans e1
  rw [h6] at e4; cases e4
/-! an array of ints, booleans, chars, bytes: its list of values -/
def Ar (Z : State) (h : Heap) (a : Addr) (ty : FieldType) (vs : List Int32) : Prop := ∃ cl : Cell, Arr Z h a cl ty ∧ cl.slots = (vs.map Value.int).toArray ∧ vs.length < 2 ^ 31
def InB (vs : List Int32) (j : Int32) : Prop := ¬ j < 0 ∧ j.toNatClampNeg < vs.length
def rd (vs : List Int32) (j : Int32) : Int32 := vs.getD j.toNatClampNeg 0
def wr (vs : List Int32) (j x : Int32) : List Int32 := vs.set j.toNatClampNeg x
variable {h' : Heap} {a b : Addr} {ty : FieldType} {vs : List Int32}
theorem inbL {j : Int32} {n : Nat} (hl : vs.length = n) (h : ¬ j < 0 ∧ j.toNatClampNeg < n) : InB vs j := ⟨h.1, hl ▸ h.2⟩
theorem Ar.lt (F : Ar Z h a ty vs) : a < h.size := by obtain ⟨cl, A, -⟩ := F; exact A.lt
theorem Ar.small (F : Ar Z h a ty vs) : vs.length < 2 ^ 31 := by obtain ⟨cl, A, e1, e2⟩ := F; exact e2
theorem Ar.ext (F : Ar Z h a ty vs) (E : Ext h h') : Ar Z h' a ty vs := by obtain ⟨cl, A, r⟩ := F; exact ⟨cl, A.ext E, r⟩
theorem Ar.other {sl : Nat} {v : Value} (F : Ar Z h b ty vs) (W : Wr h h' a sl v) (q : b ≠ a) : Ar Z h' b ty vs := by obtain ⟨cl, A, r⟩ := F; exact ⟨cl, A.other W q, r⟩
theorem Ar.keep {ws : List Addr} (F : Ar Z h a ty vs) (K : Keep h h' ws) (q : a ∉ ws) : Ar Z h' a ty vs := by obtain ⟨cl, A, r⟩ := F; exact ⟨cl, ⟨K.2.1 a cl A.1 q, A.2⟩, r⟩
theorem Ar.same {j x : Int32} (F : Ar Z h a ty vs) (W : Wr h h' a j.toNatClampNeg (.int x)) : Ar Z h' a ty (wr vs j x) := by
  obtain ⟨cl, A, e1, e2⟩ := F
  refine ⟨_, A.same W, ?_, by simpa [wr] using e2⟩
  show cl.slots.setIfInBounds _ _ = _
  rw [e1, wr, List.map_set]
  simp
theorem Ar.new {k : ClassId} {n : Int32} (A : Arr Z h a (newA k ty n) ty) (hn : ¬ n < 0) (hd : defaultValue ty = .int 0) : Ar Z h a ty (List.replicate n.toNatClampNeg 0) := by
  refine ⟨_, A, ?_, by simpa using (back32 hn).2⟩
  show Array.replicate n.toNatClampNeg (defaultValue ty) = _
  rw [hd, List.map_replicate]
  simp
theorem Ar.inb {cl : Cell} {j : Int32} (e1 : cl.slots = (vs.map Value.int).toArray) (q : InB vs j) : ¬ (j < 0 ∨ cl.slots.size ≤ j.toNatClampNeg) := by
  rw [e1]; simp only [List.size_toArray, List.length_map]
  exact fun z => z.elim q.1 (fun y => by have := q.2; omega)
theorem Ar.get {cl : Cell} {j : Int32} (e1 : cl.slots = (vs.map Value.int).toArray) (q : InB vs j) : cl.slots[j.toNatClampNeg]? = some (.int (rd vs j)) := by
  rw [e1]; have := q.2
  simp [rd, List.getElem?_eq_getElem this, List.getD_eq_getElem?_getD]
theorem eLen (X : Stand p l e R s m args below meth c T locs cells slots) (hx : p.tables.exec = Jvm.exec) (hZ : Z.Warmed39 s.vm) (eT : T.heap = h) (F : Ar Z h a ty vs) (n : Int32) (hn : Int32.ofNat vs.length = n) (hd : decode c.code pc = .ok (.arraylength, 1)) (hp : pc + 1 = pc') (kk : Ends p e below P T m pc' L (.int n :: S)) : Ends p e below P T m pc L (.ref a :: S) := by
  subst hp hn
  obtain ⟨cl, A, e1, e2⟩ := F
  refine kk.of fun t k => X.arraylength hx (by rw [eT]; exact A.1) (State.isArrayOf_alike hZ.alike A.2.1) (g := mkF m pc L (.ref a :: S)) rfl rfl hd _ ?_
  rw [e1]; simp only [List.size_toArray, List.length_map]; exact k
theorem eIALoad (X : Stand p l e R s m args below meth c T locs cells slots) (hx : p.tables.exec = Jvm.exec) (hZ : Z.Warmed39 s.vm) (eT : T.heap = h) (F : Ar Z h a .int vs) {j : Int32} (v : Int32) (hv : rd vs j = v) (q : InB vs j) (hd : decode c.code pc = .ok (.iaload, 1)) (hp : pc + 1 = pc') (kk : Ends p e below P T m pc' L (.int v :: S)) : Ends p e below P T m pc L (.int j :: .ref a :: S) := by
  subst hp hv
  obtain ⟨cl, A, e1, e2⟩ := F
  exact kk.of fun t k => X.iaload hx (by rw [eT]; exact A.1) (State.isArrayOf_alike hZ.alike A.2.1) A.2.2 (Ar.inb e1 q) (Ar.get e1 q) (g := mkF m pc L (.int j :: .ref a :: S)) rfl rfl hd _ k
theorem eCALoad (X : Stand p l e R s m args below meth c T locs cells slots) (hx : p.tables.exec = Jvm.exec) (hZ : Z.Warmed39 s.vm) (eT : T.heap = h) (F : Ar Z h a .char vs) {j : Int32} (v : Int32) (hv : rd vs j = v) (q : InB vs j) (hd : decode c.code pc = .ok (.caload, 1)) (hp : pc + 1 = pc') (kk : Ends p e below P T m pc' L (.int v :: S)) : Ends p e below P T m pc L (.int j :: .ref a :: S) := by
  subst hp hv
  obtain ⟨cl, A, e1, e2⟩ := F
  exact kk.of fun t k => X.caload hx (by rw [eT]; exact A.1) (State.isArrayOf_alike hZ.alike A.2.1) A.2.2 (Ar.inb e1 q) (Ar.get e1 q) (g := mkF m pc L (.int j :: .ref a :: S)) rfl rfl hd _ k
theorem eZALoad (X : Stand p l e R s m args below meth c T locs cells slots) (hx : p.tables.exec = Jvm.exec) (hZ : Z.Warmed39 s.vm) (eT : T.heap = h) (F : Ar Z h a .boolean vs) {j : Int32} (v : Int32) (hv : rd vs j = v) (q : InB vs j) (hd : decode c.code pc = .ok (.baload, 1)) (hp : pc + 1 = pc') (kk : Ends p e below P T m pc' L (.int v :: S)) : Ends p e below P T m pc L (.int j :: .ref a :: S) := by
  subst hp hv
  obtain ⟨cl, A, e1, e2⟩ := F
  exact kk.of fun t k => X.baloadBooleans hx (by rw [eT]; exact A.1) (State.isArrayOf_alike hZ.alike A.2.1) A.2.2 (Ar.inb e1 q) (Ar.get e1 q) (g := mkF m pc L (.int j :: .ref a :: S)) rfl rfl hd _ k
theorem eIAStore (X : Stand p l e R s m args below meth c T locs cells slots) (hx : p.tables.exec = Jvm.exec) (hZ : Z.Warmed39 s.vm) (eT : T.heap = h) (F : Ar Z h a .int vs) {j x : Int32} (q : InB vs j) (hd : decode c.code pc = .ok (.iastore, 1)) (hp : pc + 1 = pc')
    (kk : ∀ T' h', Stand p l e R s m args below meth c T' (locs ++ [⟨a, j.toNatClampNeg⟩]) cells slots → T'.heap = h' → Wr h h' a j.toNatClampNeg (.int x) → Ar Z h' a .int (wr vs j x) → Ends p e below P T' m pc' L S) : Ends p e below P T m pc L (.int x :: .int j :: .ref a :: S) := by
  subst hp
  have F0 := F
  obtain ⟨cl, A, e1, e2⟩ := F
  obtain ⟨T', h', X', e', W, st⟩ := stI X hx hZ eT A (Ar.inb e1 q) (g := mkF m pc L (.int x :: .int j :: .ref a :: S)) rfl rfl hd
  exact (kk T' h' X' e' W (F0.same W)).of st
theorem eCAStore (X : Stand p l e R s m args below meth c T locs cells slots) (hx : p.tables.exec = Jvm.exec) (hZ : Z.Warmed39 s.vm) (eT : T.heap = h) (F : Ar Z h a .char vs) {j x : Int32} (q : InB vs j) (hd : decode c.code pc = .ok (.castore, 1)) (hp : pc + 1 = pc')
    (kk : ∀ T' h', Stand p l e R s m args below meth c T' (locs ++ [⟨a, j.toNatClampNeg⟩]) cells slots → T'.heap = h' → Wr h h' a j.toNatClampNeg (.int (nar .char x)) → Ar Z h' a .char (wr vs j (nar .char x)) → Ends p e below P T' m pc' L S) : Ends p e below P T m pc L (.int x :: .int j :: .ref a :: S) := by
  subst hp
  have F0 := F
  obtain ⟨cl, A, e1, e2⟩ := F
  obtain ⟨T', h', X', e', W, st⟩ := stC X hx hZ eT A (Ar.inb e1 q) (g := mkF m pc L (.int x :: .int j :: .ref a :: S)) rfl rfl hd
  exact (kk T' h' X' e' W (F0.same W)).of st
theorem eZAStore (X : Stand p l e R s m args below meth c T locs cells slots) (hx : p.tables.exec = Jvm.exec) (hZ : Z.Warmed39 s.vm) (eT : T.heap = h) (F : Ar Z h a .boolean vs) {j x : Int32} (q : InB vs j) (hd : decode c.code pc = .ok (.bastore, 1)) (hp : pc + 1 = pc')
    (kk : ∀ T' h', Stand p l e R s m args below meth c T' (locs ++ [⟨a, j.toNatClampNeg⟩]) cells slots → T'.heap = h' → Wr h h' a j.toNatClampNeg (.int (nar .boolean x)) → Ar Z h' a .boolean (wr vs j (nar .boolean x)) → Ends p e below P T' m pc' L S) : Ends p e below P T m pc L (.int x :: .int j :: .ref a :: S) := by
  subst hp
  have F0 := F
  obtain ⟨cl, A, e1, e2⟩ := F
  obtain ⟨T', h', X', e', W, st⟩ := stZ X hx hZ eT A (Ar.inb e1 q) (g := mkF m pc L (.int x :: .int j :: .ref a :: S)) rfl rfl hd
  exact (kk T' h' X' e' W (F0.same W)).of st
theorem eNewA (X : Stand p l e R s m args below meth c T locs cells slots) (hx : p.tables.exec = Jvm.exec) (hZ : Z.Warmed39 s.vm) {aty : ArrayType} (hty : newarray.typeOf aty = ty) (hdf : defaultValue ty = .int 0) (w : (Cond.arrayClass ty).before a0 Z = true) (eT : T.heap = h) (hd : decode c.code pc = .ok (.newarray aty, 2)) {n : Int32} (hn : ¬ n < 0) {cap : Nat} (hcap : n.toNatClampNeg ≤ cap) (hb : cap * 8 ≤ 536870912) (hc : cells + 1 ≤ R.cells) (hl : slots + cap ≤ R.slots) (hp : pc + 2 = pc')
    (kk : ∀ T' h' a, a = h.size → Stand p l e R s m args below meth c T' locs (cells + 1) (slots + cap) → T'.heap = h' → Ext h h' → Ar Z h' a ty (List.replicate n.toNatClampNeg 0) → Ends p e below P T' m pc' L (.ref a :: S)) : Ends p e below P T m pc L (.int n :: S) := by
  subst hp hty
  obtain ⟨T', h', cA, X', e', E, A, st⟩ := newP X hx hZ w eT (g := mkF m pc L (.int n :: S)) rfl hd rfl hn hcap hb hc hl
  exact (kk T' h' _ rfl X' e' E (Ar.new A hn hdf)).of st
theorem eNewE (X : Stand p l e R s m args below meth c T locs cells slots) (hx : p.tables.exec = Jvm.exec) (hZ : Z.Warmed39 s.vm) {aty : ArrayType} (hty : newarray.typeOf aty = ty) (hdf : defaultValue ty = .int 0) (w : (Cond.arrayClass ty).before a0 Z = true) (eT : T.heap = h) (hd : decode c.code pc = .ok (.newarray aty, 2)) {n : Int32} (hn : ¬ n < 0) {cap : Nat} (hcap : n.toNatClampNeg ≤ cap) (hb : cap * 8 ≤ 536870912) (hc : cells + 1 ≤ R.cells) (hl : slots + cap ≤ R.slots) (ad : String) (had : "[" ++ ty.toString = ad) (hp : pc + 2 = pc')
    (kk : ∀ T' h' a, a = h.size → Stand p l e R s m args below meth c T' locs (cells + 1) (slots + cap) → T'.heap = h' → Ext h h' → Ar Z h' a ty (List.replicate n.toNatClampNeg 0) → Exa Z h' a ad → Ends p e below P T' m pc' L (.ref a :: S)) : Ends p e below P T m pc L (.int n :: S) := by
  subst hp hty
  obtain ⟨T', h', cA, X', e', E, A, Ex, st⟩ := newPE X hx hZ w eT (g := mkF m pc L (.int n :: S)) rfl hd rfl hn hcap hb hc hl had
  exact (kk T' h' _ rfl X' e' E (Ar.new A hn hdf) Ex).of st
theorem eCast (X : Stand p l e R s m args below meth c T locs cells slots) (hx : p.tables.exec = Jvm.exec) (hZ : Z.Warmed39 s.vm) {own K : String} {index : Nat} (hown : s.vm.findClass own = some m.cls) (w : (Cond.classLink own index K).before a0 Z = true) (eT : T.heap = h) (F : Ins Z h a K true) (hd : decode c.code pc = .ok (.checkcast index, 3)) (hp : pc + 3 = pc')
    (kk : ∀ T', Stand p l e R s m args below meth c T' locs cells slots → T'.heap = h → Ends p e below P T' m pc' L (.ref a :: S)) : Ends p e below P T m pc L (.ref a :: S) := by
  subst hp
  obtain ⟨T', X', e', st⟩ := castY X hx hZ hown w eT F (g := mkF m pc L (.ref a :: S)) rfl rfl hd
  exact (kk T' X' e').of st
theorem eNonNullY (X : Stand p l e R s m args below meth c T locs cells slots) (hx : p.tables.exec = Jvm.exec) {o : Int} (hd : decode c.code pc = .ok (.ifnonnull o, 3)) (ho : 0 ≤ (pc : Int) + o) (hp : ((pc : Int) + o).toNat = pc') (kk : Ends p e below P T m pc' L S) : Ends p e below P T m pc L (.ref a :: S) :=
  kk.of fun t h => XT.ifnonnullYes X.here hx rfl rfl hd rfl ho hp h
theorem eNonNullN (X : Stand p l e R s m args below meth c T locs cells slots) (hx : p.tables.exec = Jvm.exec) {o : Int} (hd : decode c.code pc = .ok (.ifnonnull o, 3)) (hp : pc + 3 = pc') (kk : Ends p e below P T m pc' L S) : Ends p e below P T m pc L (.null :: S) := by
  subst hp; exact kk.of fun t h => XT.ifnonnullNo X.here hx rfl hd rfl h
theorem eNullY (X : Stand p l e R s m args below meth c T locs cells slots) (hx : p.tables.exec = Jvm.exec) {o : Int} (hd : decode c.code pc = .ok (.ifnull o, 3)) (ho : 0 ≤ (pc : Int) + o) (hp : ((pc : Int) + o).toNat = pc') (kk : Ends p e below P T m pc' L S) : Ends p e below P T m pc L (.null :: S) :=
  kk.of fun t h => XS.ifnullYes X.here hx rfl rfl hd rfl ho hp h
theorem eNullN (X : Stand p l e R s m args below meth c T locs cells slots) (hx : p.tables.exec = Jvm.exec) {o : Int} (hd : decode c.code pc = .ok (.ifnull o, 3)) (hp : pc + 3 = pc') (kk : Ends p e below P T m pc' L S) : Ends p e below P T m pc L (.ref a :: S) := by
  subst hp; exact kk.of fun t h => XS.ifnullNo X.here hx rfl hd rfl h
theorem eTsw (X : Stand p l e R s m args below meth c T locs cells slots) (hx : p.tables.exec = Jvm.exec) {dflt low high : Int} {offs : Array Int} {len : Nat} {o : Int} {i : Int32} (hd : decode c.code pc = .ok (.tableswitch dflt low high offs, len)) (hin : ¬ (i.toInt < low ∨ i.toInt > high)) (hoff : offs[(i.toInt - low).toNat]? = some o) (ho : 0 ≤ (pc : Int) + o) (hp : ((pc : Int) + o).toNat = pc') (kk : Ends p e below P T m pc' L S) : Ends p e below P T m pc L (.int i :: S) :=
  kk.of fun t h => XS.tswIn X.here hx rfl rfl hd rfl hin hoff ho hp h
/-! calls -/
def PostQ (s : State) (C D : Nat) (Q : Option Value → Heap → List Loc → Prop) : State → Outcome → Prop := fun t o => ∃ v L, o = .returned v ∧ Q v t.heap L ∧ FrameEnd s o t L C D
abbrev MetC (l : Launch) (Z : State) (y : MethodName) (ws : List Jvm.Cond) (rm : Room) (as' : Array Value) (h : Heap) (C D : Nat) (Q : Option Value → Heap → List Loc → Prop) : Prop :=
  MetFree l y (head1 ws rm) (fun a U => a = as' ∧ Z.Warmed39 U.vm ∧ U.heap = h) (fun _ _ _ _ _ => True) (fun _ U o U' => PostQ U C D Q U' o)
abbrev MetQ (l : Launch) (Z : State) (y : MethodName) (ws : List Jvm.Cond) (rm : Room) (as' : Array Value) (h : Heap) (Q : Option Value → Heap → List Loc → Prop) : Prop :=
  MetFree l y (head1 ws rm) (fun a U => a = as' ∧ Z.Warmed39 U.vm ∧ U.heap = h) (fun _ _ _ _ _ => True) (fun _ U o U' => PostQ U rm.cells rm.slots Q U' o)
theorem eCallS (X : Stand p l e R s m args below meth c T locs cells slots) (hx : p.tables.exec = Jvm.exec) (hZ : Z.Warmed39 s.vm) {own : String} {index : Nat} {y : MethodName} {bytes : ByteArray} {maxL : Nat} {ret : Option FieldType} (hown : s.vm.findClass own = some m.cls) (w1 : (Cond.methodLink own index y).before a0 Z = true) (w2 : (Cond.static y).before a0 Z = true) (w3 : (Cond.initialized y.cls).before a0 Z = true) (w4 : (Cond.code y bytes maxL ret).before a0 Z = true) (hy : y.cls ≠ "java/lang/invoke/MethodHandle" ∧ y.cls ≠ "java/lang/invoke/VarHandle") (eT : T.heap = h) {rm : Room} {Q : Option Value → Heap → List Loc → Prop} {argsL rest : List Value} (hM : MetQ l Z y [Cond.code y bytes maxL ret] rm argsL.toArray h Q) (hlen : ∀ sig, parseMethodDescriptor y.desc = some sig → argsL.length = sig.parameters.length) (hS : S = argsL.reverse ++ rest) (hsize : L.size = c.maxLocals) (W : Nat) (hW : 2 * 0 + (rest.map fun v => v.category).sum ≤ W) (hf : rm.frames + 1 ≤ R.frames) (hl : W + (maxL + 11) + rm.locals ≤ R.locals) (hc : cells + rm.cells ≤ R.cells) (hs : slots + rm.slots ≤ R.slots) (hd : decode c.code pc = .ok (.invokestatic index, 3)) (hp : pc + 3 = pc')
    (kk : ∀ v T' L', Q v T'.heap L' → Stand p l e R s m args below meth c T' (locs ++ L') (cells + rm.cells) (slots + rm.slots) → Ends p e below P T' m pc' L (v.toList ++ rest)) : Ends p e below P T m pc L S := by
  subst hp hS
  obtain ⟨v, _, ⟨T1, L1, k1, n1⟩, -, X1, ⟨Lc, hQ, l1, y1, z1⟩, st⟩ := Jvm.LawKit.callS X hx (y := y) hown (mvT hZ w1) (mvT hZ w2) (mvT hZ w3) (mvT hZ w4) hy (backOf (W := W) (Q := Q) hM hZ w4 w3 hf hl) (g := mkF m pc L (argsL.reverse ++ rest)) rfl hsize (argsL := argsL) (rest := rest) hlen rfl hW hd (fun _ _ => ⟨rfl, eT, hc, hs⟩)
  dsimp only [Pt.U, Pt.locs, Pt.cells, Pt.slots] at X1 l1 y1 z1 st hQ
  subst l1 y1 z1
  exact (kk v T1 Lc hQ X1).of st
theorem eCallI (X : Stand p l e R s m args below meth c T locs cells slots) (hx : p.tables.exec = Jvm.exec) (hZ : Z.Warmed39 s.vm) {own : String} {index : Nat} {y : MethodName} {bytes : ByteArray} {maxL : Nat} (hy1 : y.name = "<init>") (hown : s.vm.findClass own = some m.cls) (w1 : (Cond.methodLink own index y).before a0 Z = true) (w2 : (Cond.instanceMethod y).before a0 Z = true) (w3 : (Cond.initialized y.cls).before a0 Z = true) (w4 : (Cond.code y bytes maxL none).before a0 Z = true) (hy : y.cls ≠ "java/lang/invoke/MethodHandle" ∧ y.cls ≠ "java/lang/invoke/VarHandle") (eT : T.heap = h) {rm : Room} {Q : Option Value → Heap → List Loc → Prop} {argsL rest : List Value} (hM : MetQ l Z y [Cond.code y bytes maxL none] rm (.ref a :: argsL).toArray h Q) (hlen : ∀ sig, parseMethodDescriptor y.desc = some sig → argsL.length = sig.parameters.length) (hS : S = argsL.reverse ++ .ref a :: rest) (hsize : L.size = c.maxLocals) (W : Nat) (hW : 2 * 0 + (rest.map fun v => v.category).sum ≤ W) (hf : rm.frames + 1 ≤ R.frames) (hl : W + (maxL + 11) + rm.locals ≤ R.locals) (hc : cells + rm.cells ≤ R.cells) (hs : slots + rm.slots ≤ R.slots) (hd : decode c.code pc = .ok (.invokespecial index, 3)) (hp : pc + 3 = pc')
    (kk : ∀ v T' L', Q v T'.heap L' → Stand p l e R s m args below meth c T' (locs ++ L') (cells + rm.cells) (slots + rm.slots) → Ends p e below P T' m pc' L (v.toList ++ rest)) : Ends p e below P T m pc L S := by
  subst hp hS
  obtain ⟨v, _, ⟨T1, L1, k1, n1⟩, -, X1, ⟨Lc, hQ, l1, y1, z1⟩, st⟩ := X.specialBack hx (y := y) hy1 hown (mvT hZ w1) (mvT hZ w2) (mvT hZ w4) hy (backOf (W := W) (Q := Q) hM hZ w4 w3 hf hl) (g := mkF m pc L (argsL.reverse ++ .ref a :: rest)) rfl hsize (Steps.refl _) (a := a) (argsL := argsL) (rest := rest) hlen rfl hW hd (fun _ _ => ⟨rfl, eT, hc, hs⟩)
  dsimp only [Pt.U, Pt.locs, Pt.cells, Pt.slots] at X1 l1 y1 z1 st hQ
  subst l1 y1 z1
  exact (kk v T1 Lc hQ X1).of fun t k => st.trans k
theorem eCallV (X : Stand p l e R s m args below meth c T locs cells slots) (hx : p.tables.exec = Jvm.exec) (hZ : Z.Warmed39 s.vm) {own C : String} {index : Nat} {y : MethodName} {bytes : ByteArray} {maxL : Nat} {ret : Option FieldType} (hown : s.vm.findClass own = some m.cls) (w1 : (Cond.methodLink own index y).before a0 Z = true) (w2 : (Cond.declares y).before a0 Z = true) (w5 : (Cond.selects C y y).before a0 Z = true) (w6 : (Cond.instanceMethod y).before a0 Z = true) (w3 : (Cond.initialized y.cls).before a0 Z = true) (w4 : (Cond.code y bytes maxL ret).before a0 Z = true) (hy : y.cls ≠ "java/lang/invoke/MethodHandle" ∧ y.cls ≠ "java/lang/invoke/VarHandle") (eT : T.heap = h) (E : Exa Z h a C) {rm : Room} {Q : Option Value → Heap → List Loc → Prop} {argsL rest : List Value} (hM : MetQ l Z y [Cond.code y bytes maxL ret] rm (.ref a :: argsL).toArray h Q) (hlen : ∀ sig, parseMethodDescriptor y.desc = some sig → argsL.length = sig.parameters.length) (hS : S = argsL.reverse ++ .ref a :: rest) (hsize : L.size = c.maxLocals) (W : Nat) (hW : 2 * 0 + (rest.map fun v => v.category).sum ≤ W) (hf : rm.frames + 1 ≤ R.frames) (hl : W + (maxL + 11) + rm.locals ≤ R.locals) (hc : cells + rm.cells ≤ R.cells) (hs : slots + rm.slots ≤ R.slots) (hd : decode c.code pc = .ok (.invokevirtual index, 3)) (hp : pc + 3 = pc')
    (kk : ∀ v T' L', Q v T'.heap L' → Stand p l e R s m args below meth c T' (locs ++ L') (cells + rm.cells) (slots + rm.slots) → Ends p e below P T' m pc' L (v.toList ++ rest)) : Ends p e below P T m pc L S := by
  subst hp hS
  obtain ⟨cq, kq, q1, q2, q3⟩ := isOf hZ eT E
  obtain ⟨v, _, ⟨T1, L1, k1, n1⟩, -, X1, ⟨Lc, hQ, l1, y1, z1⟩, st⟩ := X.virtualBack hx (y := y) (z := y) hown (mvT hZ w1) (mvT hZ w2) (notFace_of_selects (args := #[]) (mvT hZ w5)) (mvT hZ w5) (mvT hZ w6) hy (backOf (W := W) (Q := Q) hM hZ w4 w3 hf hl) q1 q3 (g := mkF m pc L (argsL.reverse ++ .ref a :: rest)) rfl hsize (Steps.refl _) (argsL := argsL) (rest := rest) hlen rfl hW hd (fun _ _ => ⟨rfl, eT, hc, hs⟩)
  dsimp only [Pt.U, Pt.locs, Pt.cells, Pt.slots] at X1 l1 y1 z1 st hQ
  subst l1 y1 z1
  exact (kk v T1 Lc hQ X1).of fun t k => st.trans k
/-! returns -/
theorem eEnd (X : Stand p l e R s m args below meth c T locs cells slots) (hlk : meth.locks = false) {C D : Nat} {Q : Option Value → Heap → List Loc → Prop} {v : Option Value} (hv : meth.sig.returnType = none → v = none) (hC : cells ≤ C) (hD : slots ≤ D) (hq : Q v T.heap locs)
    (st : ∀ fs, (∀ (f : JFrame) (acts : List Action), f.method = m → f.locked = none → f.entered = [] → (doReturn e (T.setTop f) acts v).1 = T.setFrames fs) → Steps p.tables e below (T.setTop (mkF m pc L S)) (T.setFrames fs)) : Ends p e below (PostQ s C D Q) T m pc L S := by
  obtain ⟨fs, hr, hrun, hended, hW, hsame⟩ := X.leave (v := v) hv hlk
  exact ⟨_, _, st fs hr, hrun, hended, v, locs, rfl, hq, ⟨_, rfl⟩, hW, hsame.mono hC hD⟩
theorem eRetN (X : Stand p l e R s m args below meth c T locs cells slots) (hx : p.tables.exec = Jvm.exec) {t : FieldType} {z : Int32} (hret : meth.sig.returnType = some t) (ht : t = .boolean ∨ t = .byte ∨ t = .char ∨ t = .short) (hlk : meth.locks = false) (hd : decode c.code pc = .ok (.ireturn, 1)) {C D : Nat} {Q : Option Value → Heap → List Loc → Prop} (hC : cells ≤ C) (hD : slots ≤ D) (hq : Q (some (.int (nar t z))) T.heap locs) : Ends p e below (PostQ s C D Q) T m pc L (.int z :: S) :=
  eEnd X hlk (fun h => by rw [hret] at h; cases h) hC hD hq fun fs hr => retN X hx hret ht hd hr
theorem eRetO (X : Stand p l e R s m args below meth c T locs cells slots) (hx : p.tables.exec = Jvm.exec) {t : FieldType} {w : Value} {i : Instr} (hret : meth.sig.returnType = some t) (hn : narrow t w = w) (hi : (i = .ireturn ∧ (t = .int ∨ t = .boolean ∨ t = .byte ∨ t = .char ∨ t = .short) ∧ ∃ z, w = .int z) ∨ (i = .lreturn ∧ t = .long ∧ ∃ z, w = .long z) ∨ (i = .dreturn ∧ t = .double ∧ ∃ z, w = .double z) ∨ (i = .freturn ∧ t = .float ∧ ∃ z, w = .float z) ∨ (i = .areturn ∧ t.isReference = true ∧ w.isRef = true)) (hlk : meth.locks = false) (hd : decode c.code pc = .ok (i, 1)) {C D : Nat} {Q : Option Value → Heap → List Loc → Prop} (hC : cells ≤ C) (hD : slots ≤ D) (hq : Q (some w) T.heap locs) : Ends p e below (PostQ s C D Q) T m pc L (w :: S) :=
  eEnd X hlk (fun h => by rw [hret] at h; cases h) hC hD hq fun fs hr => retOut X hx hret hn hi hd hr
theorem eRetI (X : Stand p l e R s m args below meth c T locs cells slots) (hx : p.tables.exec = Jvm.exec) {z : Int32} (hret : meth.sig.returnType = some .int) (hlk : meth.locks = false) (hd : decode c.code pc = .ok (.ireturn, 1)) {C D : Nat} {Q : Option Value → Heap → List Loc → Prop} (hC : cells ≤ C) (hD : slots ≤ D) (hq : Q (some (.int z)) T.heap locs) : Ends p e below (PostQ s C D Q) T m pc L (.int z :: S) :=
  eRetO X hx hret rfl (Or.inl ⟨rfl, Or.inl rfl, z, rfl⟩) hlk hd hC hD hq
theorem eRetL (X : Stand p l e R s m args below meth c T locs cells slots) (hx : p.tables.exec = Jvm.exec) {z : Int64} (hret : meth.sig.returnType = some .long) (hlk : meth.locks = false) (hd : decode c.code pc = .ok (.lreturn, 1)) {C D : Nat} {Q : Option Value → Heap → List Loc → Prop} (hC : cells ≤ C) (hD : slots ≤ D) (hq : Q (some (.long z)) T.heap locs) : Ends p e below (PostQ s C D Q) T m pc L (.long z :: S) :=
  eRetO X hx hret rfl (Or.inr (Or.inl ⟨rfl, rfl, z, rfl⟩)) hlk hd hC hD hq
theorem eRetA (X : Stand p l e R s m args below meth c T locs cells slots) (hx : p.tables.exec = Jvm.exec) {t : FieldType} {w : Value} (hret : meth.sig.returnType = some t) (ht : t.isReference = true) (hn : narrow t w = w) (hw : w.isRef = true) (hlk : meth.locks = false) (hd : decode c.code pc = .ok (.areturn, 1)) {C D : Nat} {Q : Option Value → Heap → List Loc → Prop} (hC : cells ≤ C) (hD : slots ≤ D) (hq : Q (some w) T.heap locs) : Ends p e below (PostQ s C D Q) T m pc L (w :: S) :=
  eRetO X hx hret hn (Or.inr (Or.inr (Or.inr (Or.inr ⟨rfl, ht, hw⟩)))) hlk hd hC hD hq
theorem eRetV (X : Stand p l e R s m args below meth c T locs cells slots) (hx : p.tables.exec = Jvm.exec) (hret : meth.sig.returnType = none) (hlk : meth.locks = false) (hd : decode c.code pc = .ok (.return_, 1)) {C D : Nat} {Q : Option Value → Heap → List Loc → Prop} (hC : cells ≤ C) (hD : slots ≤ D) (hq : Q none T.heap locs) : Ends p e below (PostQ s C D Q) T m pc L [] :=
  eEnd X hlk (fun _ => rfl) hC hD hq fun fs hr => X.returnOut hx hret hd hr
abbrev PVI (s : State) (C D n0 : Nat) (h0 : Heap) (r : Int32) : State → Outcome → Prop := PostQ s C D (fun v h L => v = some (.int r) ∧ Fr n0 L ∧ h = h0)
abbrev PVL (s : State) (C D n0 : Nat) (h0 : Heap) (r : Int64) : State → Outcome → Prop := PostQ s C D (fun v h L => v = some (.long r) ∧ Fr n0 L ∧ h = h0)
abbrev PVW (s : State) (C D n0 : Nat) (r : Int32) : State → Outcome → Prop := PostQ s C D (fun v h L => v = some (.int r) ∧ Fr n0 L)
end Own

theorem own_pn0 : plainName "com/example/throttleneck/throttleneck/Millis" = true := by first | (simp [plainName, overriddenIn]; done) | decide +kernel
theorem own_d2_0 : decode prog_15_method_4_code 0 = .ok (.lload_n 0, 1) := by decide +kernel
theorem own_d2_1 : decode prog_15_method_4_code 1 = .ok (.ldc2_w 23, 3) := by decide +kernel
theorem own_d2_4 : decode prog_15_method_4_code 4 = .ok (.lload_n 2, 1) := by decide +kernel
theorem own_d2_5 : decode prog_15_method_4_code 5 = .ok (.lsub, 1) := by decide +kernel
theorem own_d2_6 : decode prog_15_method_4_code 6 = .ok (.lcmp, 1) := by decide +kernel
theorem own_d2_7 : decode prog_15_method_4_code 7 = .ok (.ifCond .le 9, 3) := by decide +kernel
theorem own_d2_10 : decode prog_15_method_4_code 10 = .ok (.ldc2_w 23, 3) := by decide +kernel
theorem own_d2_13 : decode prog_15_method_4_code 13 = .ok (.goto 6, 3) := by decide +kernel
theorem own_d2_19 : decode prog_15_method_4_code 19 = .ok (.lreturn, 1) := by decide +kernel
theorem own_d2_16 : decode prog_15_method_4_code 16 = .ok (.lload_n 0, 1) := by decide +kernel
theorem own_d2_17 : decode prog_15_method_4_code 17 = .ok (.lload_n 2, 1) := by decide +kernel
theorem own_d2_18 : decode prog_15_method_4_code 18 = .ok (.ladd, 1) := by decide +kernel
def RM2 : Room := { frames := 0, cells := 0, slots := 0, locals := 0 }
def fPlus_0 (q1 : Int64) (q2 : Int64) : Int64 := (if ((9223372036854775807 : Int64) - q2) < q1 then (9223372036854775807 : Int64) else (q1 + q2))
theorem own_ef2 (m : MethodId) (q1 : Int64) (q2 : Int64) : entryFrame m #[(.long q1), (.long q2)] 4 = mkF m 0 #[.val (.long q1), .second, .val (.long q2), .second] [] := by first | (simp [entryFrame, mkF, argsToLocals, Value.category]; done) | rfl
set_option maxRecDepth 65536 in
set_option maxHeartbeats 40000000 in
theorem rm2 (l : Launch) (Z : State) (a0 : Array Value) (hw : ∀ d ∈ tables_1, d.before a0 Z = true) (ws : List Jvm.Cond) (q1 : Int64) (q2 : Int64) (h0 : Heap) (n0 : Nat) (Z0 : n0 ≤ h0.size) : MetQ l Z (⟨"com/example/throttleneck/throttleneck/Millis", "plus", "(JJ)J"⟩ : MethodName) (Jvm.Cond.code (⟨"com/example/throttleneck/throttleneck/Millis", "plus", "(JJ)J"⟩ : MethodName) prog_15_method_4_code 4 (some .long) :: ws) RM2 #[(.long q1), (.long q2)] h0 (fun v h L => v = some (.long (fPlus_0 q1 q2)) ∧ Fr n0 L ∧ h = h0) := by
  refine MetFree.of_bodySF (plainFor_of_name own_pn0) hisR ?_
  intro p e s m args below meth c s₁ Bd hml0 hP hK
  obtain ⟨rfl, hZ, hh⟩ := hP
  have hx := Bd.exec
  have hby := Bd.bytes
  have hml : c.maxLocals = 4 := hml0
  have hown : s.vm.findClass "com/example/throttleneck/throttleneck/Millis" = some m.cls := findClass_of_methodNamed Bd.named
  have hnm := (name_of_methodNamed Bd.named Bd.method).1
  have hlk : meth.locks = false := BodyLoose.notSynchronized Bd
  have X0 : Stand p l e RM2 s m #[(.long q1), (.long q2)] below meth c s₁ [] 0 0 := Stand.of_body Bd
  have e0 : s₁.heap = h0 := by rw [← hh, Bd.state]; rfl
  have N0 := Fr.nil n0
  suffices kk : Ends p e below (PVL s 0 0 n0 h0 (fPlus_0 q1 q2)) s₁ m 0 #[.val (.long q1), .second, .val (.long q2), .second] [] by
    obtain ⟨t, o, k1, k2, k3, k4⟩ := kk
    exact ⟨t, o, castTop (own_ef2 m q1 q2) k1, k2, k3, k4⟩
  refine eLLoadN X0 hx (hb hby own_d2_0) rfl rfl ?_
  refine eLdc2J X0 hx hZ hown (v := (9223372036854775807 : Int64)) (hw _ (List.mem_of_getElem? (i := 10) rfl)) (hb hby own_d2_1) rfl ?_
  refine eLLoadN X0 hx (hb hby own_d2_4) rfl rfl ?_
  refine eLSub X0 hx (hb hby own_d2_5) rfl ?_
  refine eLCmp X0 hx (hb hby own_d2_6) rfl ?_
  show Ends p e below (PVL s 0 0 n0 h0 (if ((9223372036854775807 : Int64) - q2) < q1 then (9223372036854775807 : Int64) else (q1 + q2))) s₁ m 7 #[.val (.long q1), .second, .val (.long q2), .second] [(.int (XT.cmpL q1 ((9223372036854775807 : Int64) - q2)))]
  by_cases c1 : ((9223372036854775807 : Int64) - q2) < q1
  · rw [if_pos c1]
    refine eIfN X0 hx (hb hby own_d2_7) (XT.ll_le_f c1) rfl ?_
    refine eLdc2J X0 hx hZ hown (v := (9223372036854775807 : Int64)) (hw _ (List.mem_of_getElem? (i := 10) rfl)) (hb hby own_d2_10) rfl ?_
    refine eGoto X0 hx (hb hby own_d2_13) (by decide) (pc' := 19) rfl ?_
    exact eRetL X0 hx Bd.returns hlk (hb hby own_d2_19) (by decide) (by decide) ⟨rfl, N0, e0⟩
  · rw [if_neg c1]
    refine eIfY X0 hx (hb hby own_d2_7) (XT.ll_le_t c1) (by decide) (pc' := 16) rfl ?_
    refine eLLoadN X0 hx (hb hby own_d2_16) rfl rfl ?_
    refine eLLoadN X0 hx (hb hby own_d2_17) rfl rfl ?_
    refine eLAdd X0 hx (hb hby own_d2_18) rfl ?_
    exact eRetL X0 hx Bd.returns hlk (hb hby own_d2_19) (by decide) (by decide) ⟨rfl, N0, e0⟩
theorem own_d1_0 : decode prog_15_method_3_code 0 = .ok (.lload_n 2, 1) := by decide +kernel
theorem own_d1_1 : decode prog_15_method_3_code 1 = .ok (.lload_n 0, 1) := by decide +kernel
theorem own_d1_2 : decode prog_15_method_3_code 2 = .ok (.lcmp, 1) := by decide +kernel
theorem own_d1_3 : decode prog_15_method_3_code 3 = .ok (.ifCond .lt 33, 3) := by decide +kernel
theorem own_d1_36 : decode prog_15_method_3_code 36 = .ok (.lload 4, 2) := by decide +kernel
theorem own_d1_38 : decode prog_15_method_3_code 38 = .ok (.lload_n 0, 1) := by decide +kernel
theorem own_d1_39 : decode prog_15_method_3_code 39 = .ok (.lload_n 2, 1) := by decide +kernel
theorem own_d1_40 : decode prog_15_method_3_code 40 = .ok (.lsub, 1) := by decide +kernel
theorem own_d1_41 : decode prog_15_method_3_code 41 = .ok (.lsub, 1) := by decide +kernel
theorem own_d1_42 : decode prog_15_method_3_code 42 = .ok (.lstore 6, 2) := by decide +kernel
theorem own_d1_44 : decode prog_15_method_3_code 44 = .ok (.lload 6, 2) := by decide +kernel
theorem own_d1_46 : decode prog_15_method_3_code 46 = .ok (.lreturn, 1) := by decide +kernel
theorem own_d1_6 : decode prog_15_method_3_code 6 = .ok (.lload_n 2, 1) := by decide +kernel
theorem own_d1_7 : decode prog_15_method_3_code 7 = .ok (.lload_n 0, 1) := by decide +kernel
theorem own_d1_8 : decode prog_15_method_3_code 8 = .ok (.lsub, 1) := by decide +kernel
theorem own_d1_9 : decode prog_15_method_3_code 9 = .ok (.lstore 8, 2) := by decide +kernel
theorem own_d1_11 : decode prog_15_method_3_code 11 = .ok (.lload 8, 2) := by decide +kernel
theorem own_d1_13 : decode prog_15_method_3_code 13 = .ok (.lconst 0, 1) := by decide +kernel
theorem own_d1_14 : decode prog_15_method_3_code 14 = .ok (.lcmp, 1) := by decide +kernel
theorem own_d1_15 : decode prog_15_method_3_code 15 = .ok (.ifCond .ge 9, 3) := by decide +kernel
theorem own_d1_18 : decode prog_15_method_3_code 18 = .ok (.ldc2_w 23, 3) := by decide +kernel
theorem own_d1_21 : decode prog_15_method_3_code 21 = .ok (.goto 10, 3) := by decide +kernel
theorem own_d1_31 : decode prog_15_method_3_code 31 = .ok (.lstore 6, 2) := by decide +kernel
theorem own_d1_33 : decode prog_15_method_3_code 33 = .ok (.goto 11, 3) := by decide +kernel
theorem own_d1_24 : decode prog_15_method_3_code 24 = .ok (.lload 8, 2) := by decide +kernel
theorem own_d1_26 : decode prog_15_method_3_code 26 = .ok (.lload 4, 2) := by decide +kernel
theorem own_d1_28 : decode prog_15_method_3_code 28 = .ok (.invokestatic 52, 3) := by decide +kernel
theorem own_pd0 : parseMethodDescriptor "(JJ)J" = some ⟨[.long, .long], some .long⟩ := by decide +kernel
def RM1 : Room := { frames := 1, cells := 0, slots := 0, locals := 15 }
def fUntil_0 (q1 : Int64) (q2 : Int64) (q3 : Int64) : Int64 := (if q2 < q1 then (q3 - (q1 - q2)) else (if (q2 - q1) < (0 : Int64) then (9223372036854775807 : Int64) else (fPlus_0 (q2 - q1) q3)))
theorem own_ef1 (m : MethodId) (q1 : Int64) (q2 : Int64) (q3 : Int64) : entryFrame m #[(.long q1), (.long q2), (.long q3)] 10 = mkF m 0 #[.val (.long q1), .second, .val (.long q2), .second, .val (.long q3), .second, .unset, .unset, .unset, .unset] [] := by first | (simp [entryFrame, mkF, argsToLocals, Value.category]; done) | rfl
set_option maxRecDepth 65536 in
set_option maxHeartbeats 40000000 in
theorem rm1 (l : Launch) (Z : State) (a0 : Array Value) (hw : ∀ d ∈ tables_1, d.before a0 Z = true) (ws : List Jvm.Cond) (q1 : Int64) (q2 : Int64) (q3 : Int64) (h0 : Heap) (n0 : Nat) (Z0 : n0 ≤ h0.size) : MetQ l Z (⟨"com/example/throttleneck/throttleneck/Millis", "until", "(JJJ)J"⟩ : MethodName) (Jvm.Cond.code (⟨"com/example/throttleneck/throttleneck/Millis", "until", "(JJJ)J"⟩ : MethodName) prog_15_method_3_code 10 (some .long) :: ws) RM1 #[(.long q1), (.long q2), (.long q3)] h0 (fun v h L => v = some (.long (fUntil_0 q1 q2 q3)) ∧ Fr n0 L ∧ h = h0) := by
  refine MetFree.of_bodySF (plainFor_of_name own_pn0) hisR ?_
  intro p e s m args below meth c s₁ Bd hml0 hP hK
  obtain ⟨rfl, hZ, hh⟩ := hP
  have hx := Bd.exec
  have hby := Bd.bytes
  have hml : c.maxLocals = 10 := hml0
  have hown : s.vm.findClass "com/example/throttleneck/throttleneck/Millis" = some m.cls := findClass_of_methodNamed Bd.named
  have hnm := (name_of_methodNamed Bd.named Bd.method).1
  have hlk : meth.locks = false := BodyLoose.notSynchronized Bd
  have X0 : Stand p l e RM1 s m #[(.long q1), (.long q2), (.long q3)] below meth c s₁ [] 0 0 := Stand.of_body Bd
  have e0 : s₁.heap = h0 := by rw [← hh, Bd.state]; rfl
  have N0 := Fr.nil n0
  suffices kk : Ends p e below (PVL s 0 0 n0 h0 (fUntil_0 q1 q2 q3)) s₁ m 0 #[.val (.long q1), .second, .val (.long q2), .second, .val (.long q3), .second, .unset, .unset, .unset, .unset] [] by
    obtain ⟨t, o, k1, k2, k3, k4⟩ := kk
    exact ⟨t, o, castTop (own_ef1 m q1 q2 q3) k1, k2, k3, k4⟩
  refine eLLoadN X0 hx (hb hby own_d1_0) rfl rfl ?_
  refine eLLoadN X0 hx (hb hby own_d1_1) rfl rfl ?_
  refine eLCmp X0 hx (hb hby own_d1_2) rfl ?_
  show Ends p e below (PVL s 0 0 n0 h0 (if q2 < q1 then (q3 - (q1 - q2)) else (if (q2 - q1) < (0 : Int64) then (9223372036854775807 : Int64) else (fPlus_0 (q2 - q1) q3)))) s₁ m 3 #[.val (.long q1), .second, .val (.long q2), .second, .val (.long q3), .second, .unset, .unset, .unset, .unset] [(.int (XT.cmpL q2 q1))]
  by_cases c1 : q2 < q1
  · rw [if_pos c1]
    refine eIfY X0 hx (hb hby own_d1_3) (XT.ll_lt_t c1) (by decide) (pc' := 36) rfl ?_
    refine eLLoad X0 hx (hb hby own_d1_36) rfl rfl ?_
    refine eLLoadN X0 hx (hb hby own_d1_38) rfl rfl ?_
    refine eLLoadN X0 hx (hb hby own_d1_39) rfl rfl ?_
    refine eLSub X0 hx (hb hby own_d1_40) rfl ?_
    refine eLSub X0 hx (hb hby own_d1_41) rfl ?_
    refine eLStore X0 hx (hb hby own_d1_42) (L' := #[.val (.long q1), .second, .val (.long q2), .second, .val (.long q3), .second, .val (.long (q3 - (q1 - q2))), .second, .unset, .unset]) rfl rfl ?_
    refine eLLoad X0 hx (hb hby own_d1_44) rfl rfl ?_
    exact eRetL X0 hx Bd.returns hlk (hb hby own_d1_46) (by decide) (by decide) ⟨rfl, N0, e0⟩
  · rw [if_neg c1]
    refine eIfN X0 hx (hb hby own_d1_3) (XT.ll_lt_f c1) rfl ?_
    refine eLLoadN X0 hx (hb hby own_d1_6) rfl rfl ?_
    refine eLLoadN X0 hx (hb hby own_d1_7) rfl rfl ?_
    refine eLSub X0 hx (hb hby own_d1_8) rfl ?_
    refine eLStore X0 hx (hb hby own_d1_9) (L' := #[.val (.long q1), .second, .val (.long q2), .second, .val (.long q3), .second, .unset, .unset, .val (.long (q2 - q1)), .second]) rfl rfl ?_
    refine eLLoad X0 hx (hb hby own_d1_11) rfl rfl ?_
    refine eLConst X0 hx (0 : Int64) (hb hby own_d1_13) rfl rfl ?_
    refine eLCmp X0 hx (hb hby own_d1_14) rfl ?_
    show Ends p e below (PVL s 0 0 n0 h0 (if (q2 - q1) < (0 : Int64) then (9223372036854775807 : Int64) else (fPlus_0 (q2 - q1) q3))) s₁ m 15 #[.val (.long q1), .second, .val (.long q2), .second, .val (.long q3), .second, .unset, .unset, .val (.long (q2 - q1)), .second] [(.int (XT.cmpL (q2 - q1) (0 : Int64)))]
    by_cases c2 : (q2 - q1) < (0 : Int64)
    · rw [if_pos c2]
      refine eIfN X0 hx (hb hby own_d1_15) (XT.ll_ge_f c2) rfl ?_
      refine eLdc2J X0 hx hZ hown (v := (9223372036854775807 : Int64)) (hw _ (List.mem_of_getElem? (i := 10) rfl)) (hb hby own_d1_18) rfl ?_
      refine eGoto X0 hx (hb hby own_d1_21) (by decide) (pc' := 31) rfl ?_
      refine eLStore X0 hx (hb hby own_d1_31) (L' := #[.val (.long q1), .second, .val (.long q2), .second, .val (.long q3), .second, .val (.long (9223372036854775807 : Int64)), .second, .val (.long (q2 - q1)), .second]) rfl rfl ?_
      refine eGoto X0 hx (hb hby own_d1_33) (by decide) (pc' := 44) rfl ?_
      refine eLLoad X0 hx (hb hby own_d1_44) rfl rfl ?_
      exact eRetL X0 hx Bd.returns hlk (hb hby own_d1_46) (by decide) (by decide) ⟨rfl, N0, e0⟩
    · rw [if_neg c2]
      refine eIfY X0 hx (hb hby own_d1_15) (XT.ll_ge_t c2) (by decide) (pc' := 24) rfl ?_
      refine eLLoad X0 hx (hb hby own_d1_24) rfl rfl ?_
      refine eLLoad X0 hx (hb hby own_d1_26) rfl rfl ?_
      refine eCallS X0 hx hZ (y := (⟨"com/example/throttleneck/throttleneck/Millis", "plus", "(JJ)J"⟩ : MethodName)) hown (hw _ (List.mem_of_getElem? (i := 7) rfl)) (hw _ (List.mem_of_getElem? (i := 8) rfl)) (hw _ (List.mem_of_getElem? (i := 5) rfl)) (hw _ (List.mem_of_getElem? (i := 9) rfl)) (by decide) e0 (rm2 l Z a0 hw [] (q2 - q1) q3 h0 n0 Z0) (argsL := [(.long (q2 - q1)), (.long q3)]) (rest := []) (lenOf own_pd0 rfl) rfl (by rw [hml]; rfl) 0 (by exact Nat.le_refl _) (by decide) (by decide) (by decide) (by decide) (hb hby own_d1_28) rfl (fun v3 T3 L3 q3 (X3 : Stand _ _ _ _ _ _ _ _ _ _ T3 _ 0 0) => ?_)
      obtain ⟨rfl, N3', e3⟩ := q3
      have N3 := Fr.app N0 N3'
      show Ends p e below _ T3 m 31 #[.val (.long q1), .second, .val (.long q2), .second, .val (.long q3), .second, .unset, .unset, .val (.long (q2 - q1)), .second] [(.long (fPlus_0 (q2 - q1) q3))]
      refine eLStore X3 hx (hb hby own_d1_31) (L' := #[.val (.long q1), .second, .val (.long q2), .second, .val (.long q3), .second, .val (.long (fPlus_0 (q2 - q1) q3)), .second, .val (.long (q2 - q1)), .second]) rfl rfl ?_
      refine eGoto X3 hx (hb hby own_d1_33) (by decide) (pc' := 44) rfl ?_
      refine eLLoad X3 hx (hb hby own_d1_44) rfl rfl ?_
      exact eRetL X3 hx Bd.returns hlk (hb hby own_d1_46) (by decide) (by decide) ⟨rfl, N3, e3⟩
theorem own_pn1 : plainName "com/example/throttleneck/throttleneck/MillisUntilPinLaw" = true := by first | (simp [plainName, overriddenIn]; done) | decide +kernel
theorem own_pd1 : parseMethodDescriptor "(JJJ)J" = some ⟨[.long, .long, .long], some .long⟩ := by decide +kernel
def f0_91 (q1 : Int64) (q2 : Int64) (q3 : Int64) (t2 : Int64) : Int32 := (if (fUntil_0 q1 q2 (q3 &&& (9223372036854775807 : Int64))) = t2 then (1 : Int32) else (0 : Int32))
def f0_0 (q1 : Int64) (q2 : Int64) (q3 : Int64) : Int32 := (if ((((q2 >>> ((32 : Int32) &&& 0x3f).toInt64) + ((q3 &&& (9223372036854775807 : Int64)) >>> ((32 : Int32) &&& 0x3f).toInt64)) - (q1 >>> ((32 : Int32) &&& 0x3f).toInt64)) + ((((q2 &&& (4294967295 : Int64)) + ((q3 &&& (9223372036854775807 : Int64)) &&& (4294967295 : Int64))) - (q1 &&& (4294967295 : Int64))) >>> ((32 : Int32) &&& 0x3f).toInt64)) < (0 : Int64) then (1 : Int32) else (if ((((q2 >>> ((32 : Int32) &&& 0x3f).toInt64) + ((q3 &&& (9223372036854775807 : Int64)) >>> ((32 : Int32) &&& 0x3f).toInt64)) - (q1 >>> ((32 : Int32) &&& 0x3f).toInt64)) + ((((q2 &&& (4294967295 : Int64)) + ((q3 &&& (9223372036854775807 : Int64)) &&& (4294967295 : Int64))) - (q1 &&& (4294967295 : Int64))) >>> ((32 : Int32) &&& 0x3f).toInt64)) < (2147483648 : Int64) then (f0_91 q1 q2 q3 ((((((q2 >>> ((32 : Int32) &&& 0x3f).toInt64) + ((q3 &&& (9223372036854775807 : Int64)) >>> ((32 : Int32) &&& 0x3f).toInt64)) - (q1 >>> ((32 : Int32) &&& 0x3f).toInt64)) + ((((q2 &&& (4294967295 : Int64)) + ((q3 &&& (9223372036854775807 : Int64)) &&& (4294967295 : Int64))) - (q1 &&& (4294967295 : Int64))) >>> ((32 : Int32) &&& 0x3f).toInt64)) <<< ((32 : Int32) &&& 0x3f).toInt64) ||| ((((q2 &&& (4294967295 : Int64)) + ((q3 &&& (9223372036854775807 : Int64)) &&& (4294967295 : Int64))) - (q1 &&& (4294967295 : Int64))) &&& (4294967295 : Int64)))) else (f0_91 q1 q2 q3 (9223372036854775807 : Int64))))
theorem own_ef0 (m : MethodId) (q1 : Int64) (q2 : Int64) (q3 : Int64) : entryFrame m #[(.long q1), (.long q2), (.long q3)] maxLocals = mkF m 0 #[.val (.long q1), .second, .val (.long q2), .second, .val (.long q3), .second, .unset, .unset, .unset, .unset, .unset, .unset, .unset, .unset, .unset, .unset] [] := by first | (simp [entryFrame, mkF, argsToLocals, Value.category, maxLocals]; done) | rfl
set_option maxRecDepth 65536 in
set_option maxHeartbeats 40000000 in
theorem rm0 (l : Launch) (Z : State) (a0 : Array Value) (hw : ∀ d ∈ tables_1, d.before a0 Z = true) (ws : List Jvm.Cond) (q1 : Int64) (q2 : Int64) (q3 : Int64) (h0 : Heap) (n0 : Nat) (Z0 : n0 ≤ h0.size) : MetC l Z x (Jvm.Cond.code x code maxLocals ret :: ws) room_1 #[(.long q1), (.long q2), (.long q3)] h0 0 0 (fun v h L => v = some (.int (f0_0 q1 q2 q3)) ∧ Fr n0 L) := by
  refine MetFree.of_bodySF (plainFor_of_name own_pn1) hisR ?_
  intro p e s m args below meth c s₁ Bd hml0 hP hK
  obtain ⟨rfl, hZ, hh⟩ := hP
  have hx := Bd.exec
  have hby := Bd.bytes
  have hml : c.maxLocals = 16 := hml0
  have hown : s.vm.findClass "com/example/throttleneck/throttleneck/MillisUntilPinLaw" = some m.cls := findClass_of_methodNamed Bd.named
  have hnm := (name_of_methodNamed Bd.named Bd.method).1
  have hlk : meth.locks = false := BodyLoose.notSynchronized Bd
  have X0 : Stand p l e room_1 s m #[(.long q1), (.long q2), (.long q3)] below meth c s₁ [] 0 0 := Stand.of_body Bd
  have e0 : s₁.heap = h0 := by rw [← hh, Bd.state]; rfl
  have N0 := Fr.nil n0
  suffices kk : Ends p e below (PVW s 0 0 n0 (f0_0 q1 q2 q3)) s₁ m 0 #[.val (.long q1), .second, .val (.long q2), .second, .val (.long q3), .second, .unset, .unset, .unset, .unset, .unset, .unset, .unset, .unset, .unset, .unset] [] by
    obtain ⟨t, o, k1, k2, k3, k4⟩ := kk
    exact ⟨t, o, castTop (own_ef0 m q1 q2 q3) k1, k2, k3, k4⟩
  refine eLLoad X0 hx (hb hby at_0) rfl rfl ?_
  refine eLdc2J X0 hx hZ hown (v := (9223372036854775807 : Int64)) (hw _ (List.mem_of_getElem? (i := 0) rfl)) (hb hby at_2) rfl ?_
  refine eLAnd X0 hx (hb hby at_5) rfl ?_
  refine eLStore X0 hx (hb hby at_6) (L' := #[.val (.long q1), .second, .val (.long q2), .second, .val (.long q3), .second, .val (.long (q3 &&& (9223372036854775807 : Int64))), .second, .unset, .unset, .unset, .unset, .unset, .unset, .unset, .unset]) rfl rfl ?_
  refine eLLoadN X0 hx (hb hby at_8) rfl rfl ?_
  refine eLdc2J X0 hx hZ hown (v := (4294967295 : Int64)) (hw _ (List.mem_of_getElem? (i := 1) rfl)) (hb hby at_9) rfl ?_
  refine eLAnd X0 hx (hb hby at_12) rfl ?_
  refine eLLoad X0 hx (hb hby at_13) rfl rfl ?_
  refine eLdc2J X0 hx hZ hown (v := (4294967295 : Int64)) (hw _ (List.mem_of_getElem? (i := 1) rfl)) (hb hby at_15) rfl ?_
  refine eLAnd X0 hx (hb hby at_18) rfl ?_
  refine eLAdd X0 hx (hb hby at_19) rfl ?_
  refine eLLoadN X0 hx (hb hby at_20) rfl rfl ?_
  refine eLdc2J X0 hx hZ hown (v := (4294967295 : Int64)) (hw _ (List.mem_of_getElem? (i := 1) rfl)) (hb hby at_21) rfl ?_
  refine eLAnd X0 hx (hb hby at_24) rfl ?_
  refine eLSub X0 hx (hb hby at_25) rfl ?_
  refine eLStore X0 hx (hb hby at_26) (L' := #[.val (.long q1), .second, .val (.long q2), .second, .val (.long q3), .second, .val (.long (q3 &&& (9223372036854775807 : Int64))), .second, .val (.long (((q2 &&& (4294967295 : Int64)) + ((q3 &&& (9223372036854775807 : Int64)) &&& (4294967295 : Int64))) - (q1 &&& (4294967295 : Int64)))), .second, .unset, .unset, .unset, .unset, .unset, .unset]) rfl rfl ?_
  refine eLLoadN X0 hx (hb hby at_28) rfl rfl ?_
  refine eBipush X0 hx (32 : Int32) (hb hby at_29) rfl rfl ?_
  refine eLShr X0 hx (hb hby at_31) rfl ?_
  refine eLLoad X0 hx (hb hby at_32) rfl rfl ?_
  refine eBipush X0 hx (32 : Int32) (hb hby at_34) rfl rfl ?_
  refine eLShr X0 hx (hb hby at_36) rfl ?_
  refine eLAdd X0 hx (hb hby at_37) rfl ?_
  refine eLLoadN X0 hx (hb hby at_38) rfl rfl ?_
  refine eBipush X0 hx (32 : Int32) (hb hby at_39) rfl rfl ?_
  refine eLShr X0 hx (hb hby at_41) rfl ?_
  refine eLSub X0 hx (hb hby at_42) rfl ?_
  refine eLLoad X0 hx (hb hby at_43) rfl rfl ?_
  refine eBipush X0 hx (32 : Int32) (hb hby at_45) rfl rfl ?_
  refine eLShr X0 hx (hb hby at_47) rfl ?_
  refine eLAdd X0 hx (hb hby at_48) rfl ?_
  refine eLStore X0 hx (hb hby at_49) (L' := #[.val (.long q1), .second, .val (.long q2), .second, .val (.long q3), .second, .val (.long (q3 &&& (9223372036854775807 : Int64))), .second, .val (.long (((q2 &&& (4294967295 : Int64)) + ((q3 &&& (9223372036854775807 : Int64)) &&& (4294967295 : Int64))) - (q1 &&& (4294967295 : Int64)))), .second, .val (.long ((((q2 >>> ((32 : Int32) &&& 0x3f).toInt64) + ((q3 &&& (9223372036854775807 : Int64)) >>> ((32 : Int32) &&& 0x3f).toInt64)) - (q1 >>> ((32 : Int32) &&& 0x3f).toInt64)) + ((((q2 &&& (4294967295 : Int64)) + ((q3 &&& (9223372036854775807 : Int64)) &&& (4294967295 : Int64))) - (q1 &&& (4294967295 : Int64))) >>> ((32 : Int32) &&& 0x3f).toInt64))), .second, .unset, .unset, .unset, .unset]) rfl rfl ?_
  refine eLLoad X0 hx (hb hby at_51) rfl rfl ?_
  refine eLdc2J X0 hx hZ hown (v := (4294967295 : Int64)) (hw _ (List.mem_of_getElem? (i := 1) rfl)) (hb hby at_53) rfl ?_
  refine eLAnd X0 hx (hb hby at_56) rfl ?_
  refine eLStore X0 hx (hb hby at_57) (L' := #[.val (.long q1), .second, .val (.long q2), .second, .val (.long q3), .second, .val (.long (q3 &&& (9223372036854775807 : Int64))), .second, .val (.long (((q2 &&& (4294967295 : Int64)) + ((q3 &&& (9223372036854775807 : Int64)) &&& (4294967295 : Int64))) - (q1 &&& (4294967295 : Int64)))), .second, .val (.long ((((q2 >>> ((32 : Int32) &&& 0x3f).toInt64) + ((q3 &&& (9223372036854775807 : Int64)) >>> ((32 : Int32) &&& 0x3f).toInt64)) - (q1 >>> ((32 : Int32) &&& 0x3f).toInt64)) + ((((q2 &&& (4294967295 : Int64)) + ((q3 &&& (9223372036854775807 : Int64)) &&& (4294967295 : Int64))) - (q1 &&& (4294967295 : Int64))) >>> ((32 : Int32) &&& 0x3f).toInt64))), .second, .val (.long ((((q2 &&& (4294967295 : Int64)) + ((q3 &&& (9223372036854775807 : Int64)) &&& (4294967295 : Int64))) - (q1 &&& (4294967295 : Int64))) &&& (4294967295 : Int64))), .second, .unset, .unset]) rfl rfl ?_
  refine eLLoad X0 hx (hb hby at_59) rfl rfl ?_
  refine eLConst X0 hx (0 : Int64) (hb hby at_61) rfl rfl ?_
  refine eLCmp X0 hx (hb hby at_62) rfl ?_
  show Ends p e below (PVW s 0 0 n0 (if ((((q2 >>> ((32 : Int32) &&& 0x3f).toInt64) + ((q3 &&& (9223372036854775807 : Int64)) >>> ((32 : Int32) &&& 0x3f).toInt64)) - (q1 >>> ((32 : Int32) &&& 0x3f).toInt64)) + ((((q2 &&& (4294967295 : Int64)) + ((q3 &&& (9223372036854775807 : Int64)) &&& (4294967295 : Int64))) - (q1 &&& (4294967295 : Int64))) >>> ((32 : Int32) &&& 0x3f).toInt64)) < (0 : Int64) then (1 : Int32) else (if ((((q2 >>> ((32 : Int32) &&& 0x3f).toInt64) + ((q3 &&& (9223372036854775807 : Int64)) >>> ((32 : Int32) &&& 0x3f).toInt64)) - (q1 >>> ((32 : Int32) &&& 0x3f).toInt64)) + ((((q2 &&& (4294967295 : Int64)) + ((q3 &&& (9223372036854775807 : Int64)) &&& (4294967295 : Int64))) - (q1 &&& (4294967295 : Int64))) >>> ((32 : Int32) &&& 0x3f).toInt64)) < (2147483648 : Int64) then (f0_91 q1 q2 q3 ((((((q2 >>> ((32 : Int32) &&& 0x3f).toInt64) + ((q3 &&& (9223372036854775807 : Int64)) >>> ((32 : Int32) &&& 0x3f).toInt64)) - (q1 >>> ((32 : Int32) &&& 0x3f).toInt64)) + ((((q2 &&& (4294967295 : Int64)) + ((q3 &&& (9223372036854775807 : Int64)) &&& (4294967295 : Int64))) - (q1 &&& (4294967295 : Int64))) >>> ((32 : Int32) &&& 0x3f).toInt64)) <<< ((32 : Int32) &&& 0x3f).toInt64) ||| ((((q2 &&& (4294967295 : Int64)) + ((q3 &&& (9223372036854775807 : Int64)) &&& (4294967295 : Int64))) - (q1 &&& (4294967295 : Int64))) &&& (4294967295 : Int64)))) else (f0_91 q1 q2 q3 (9223372036854775807 : Int64))))) s₁ m 63 #[.val (.long q1), .second, .val (.long q2), .second, .val (.long q3), .second, .val (.long (q3 &&& (9223372036854775807 : Int64))), .second, .val (.long (((q2 &&& (4294967295 : Int64)) + ((q3 &&& (9223372036854775807 : Int64)) &&& (4294967295 : Int64))) - (q1 &&& (4294967295 : Int64)))), .second, .val (.long ((((q2 >>> ((32 : Int32) &&& 0x3f).toInt64) + ((q3 &&& (9223372036854775807 : Int64)) >>> ((32 : Int32) &&& 0x3f).toInt64)) - (q1 >>> ((32 : Int32) &&& 0x3f).toInt64)) + ((((q2 &&& (4294967295 : Int64)) + ((q3 &&& (9223372036854775807 : Int64)) &&& (4294967295 : Int64))) - (q1 &&& (4294967295 : Int64))) >>> ((32 : Int32) &&& 0x3f).toInt64))), .second, .val (.long ((((q2 &&& (4294967295 : Int64)) + ((q3 &&& (9223372036854775807 : Int64)) &&& (4294967295 : Int64))) - (q1 &&& (4294967295 : Int64))) &&& (4294967295 : Int64))), .second, .unset, .unset] [(.int (XT.cmpL ((((q2 >>> ((32 : Int32) &&& 0x3f).toInt64) + ((q3 &&& (9223372036854775807 : Int64)) >>> ((32 : Int32) &&& 0x3f).toInt64)) - (q1 >>> ((32 : Int32) &&& 0x3f).toInt64)) + ((((q2 &&& (4294967295 : Int64)) + ((q3 &&& (9223372036854775807 : Int64)) &&& (4294967295 : Int64))) - (q1 &&& (4294967295 : Int64))) >>> ((32 : Int32) &&& 0x3f).toInt64)) (0 : Int64)))]
  by_cases c1 : ((((q2 >>> ((32 : Int32) &&& 0x3f).toInt64) + ((q3 &&& (9223372036854775807 : Int64)) >>> ((32 : Int32) &&& 0x3f).toInt64)) - (q1 >>> ((32 : Int32) &&& 0x3f).toInt64)) + ((((q2 &&& (4294967295 : Int64)) + ((q3 &&& (9223372036854775807 : Int64)) &&& (4294967295 : Int64))) - (q1 &&& (4294967295 : Int64))) >>> ((32 : Int32) &&& 0x3f).toInt64)) < (0 : Int64)
  · rw [if_pos c1]
    refine eIfN X0 hx (hb hby at_63) (XT.ll_ge_f c1) rfl ?_
    refine eIConst X0 hx (1 : Int32) (hb hby at_66) rfl rfl ?_
    exact eRetN X0 hx (t := .boolean) Bd.returns (by simp) hlk (hb hby at_67) (by decide) (by decide) ⟨rfl, N0⟩
  · rw [if_neg c1]
    refine eIfY X0 hx (hb hby at_63) (XT.ll_ge_t c1) (by decide) (pc' := 68) rfl ?_
    refine eLLoad X0 hx (hb hby at_68) rfl rfl ?_
    refine eLdc2J X0 hx hZ hown (v := (2147483648 : Int64)) (hw _ (List.mem_of_getElem? (i := 2) rfl)) (hb hby at_70) rfl ?_
    refine eLCmp X0 hx (hb hby at_73) rfl ?_
    have K91_3 : ∀ (t2 : Int64) (T3 : State) (locs3 : List Loc), Stand p l e room_1 s m #[(.long q1), (.long q2), (.long q3)] below meth c T3 locs3 0 0 → Fr n0 locs3 → T3.heap = h0 → Ends p e below (PVW s 0 0 n0 (f0_91 q1 q2 q3 t2)) T3 m 91 #[.val (.long q1), .second, .val (.long q2), .second, .val (.long q3), .second, .val (.long (q3 &&& (9223372036854775807 : Int64))), .second, .val (.long (((q2 &&& (4294967295 : Int64)) + ((q3 &&& (9223372036854775807 : Int64)) &&& (4294967295 : Int64))) - (q1 &&& (4294967295 : Int64)))), .second, .val (.long ((((q2 >>> ((32 : Int32) &&& 0x3f).toInt64) + ((q3 &&& (9223372036854775807 : Int64)) >>> ((32 : Int32) &&& 0x3f).toInt64)) - (q1 >>> ((32 : Int32) &&& 0x3f).toInt64)) + ((((q2 &&& (4294967295 : Int64)) + ((q3 &&& (9223372036854775807 : Int64)) &&& (4294967295 : Int64))) - (q1 &&& (4294967295 : Int64))) >>> ((32 : Int32) &&& 0x3f).toInt64))), .second, .val (.long ((((q2 &&& (4294967295 : Int64)) + ((q3 &&& (9223372036854775807 : Int64)) &&& (4294967295 : Int64))) - (q1 &&& (4294967295 : Int64))) &&& (4294967295 : Int64))), .second, .unset, .unset] [(.long t2)] := by
      intro t2 T3 locs3 X3 N3 e3
      refine eLStore X3 hx (hb hby at_91) (L' := #[.val (.long q1), .second, .val (.long q2), .second, .val (.long q3), .second, .val (.long (q3 &&& (9223372036854775807 : Int64))), .second, .val (.long (((q2 &&& (4294967295 : Int64)) + ((q3 &&& (9223372036854775807 : Int64)) &&& (4294967295 : Int64))) - (q1 &&& (4294967295 : Int64)))), .second, .val (.long ((((q2 >>> ((32 : Int32) &&& 0x3f).toInt64) + ((q3 &&& (9223372036854775807 : Int64)) >>> ((32 : Int32) &&& 0x3f).toInt64)) - (q1 >>> ((32 : Int32) &&& 0x3f).toInt64)) + ((((q2 &&& (4294967295 : Int64)) + ((q3 &&& (9223372036854775807 : Int64)) &&& (4294967295 : Int64))) - (q1 &&& (4294967295 : Int64))) >>> ((32 : Int32) &&& 0x3f).toInt64))), .second, .val (.long ((((q2 &&& (4294967295 : Int64)) + ((q3 &&& (9223372036854775807 : Int64)) &&& (4294967295 : Int64))) - (q1 &&& (4294967295 : Int64))) &&& (4294967295 : Int64))), .second, .val (.long t2), .second]) rfl rfl ?_
      refine eLLoadN X3 hx (hb hby at_93) rfl rfl ?_
      refine eLLoadN X3 hx (hb hby at_94) rfl rfl ?_
      refine eLLoad X3 hx (hb hby at_95) rfl rfl ?_
      refine eCallS X3 hx hZ (y := (⟨"com/example/throttleneck/throttleneck/Millis", "until", "(JJJ)J"⟩ : MethodName)) hown (hw _ (List.mem_of_getElem? (i := 3) rfl)) (hw _ (List.mem_of_getElem? (i := 4) rfl)) (hw _ (List.mem_of_getElem? (i := 5) rfl)) (hw _ (List.mem_of_getElem? (i := 6) rfl)) (by decide) e3 (rm1 l Z a0 hw [] q1 q2 (q3 &&& (9223372036854775807 : Int64)) h0 n0 Z0) (argsL := [(.long q1), (.long q2), (.long (q3 &&& (9223372036854775807 : Int64)))]) (rest := []) (lenOf own_pd1 rfl) rfl (by rw [hml]; rfl) 0 (by exact Nat.le_refl _) (by decide) (by decide) (by decide) (by decide) (hb hby at_97) rfl (fun v4 T4 L4 q4 (X4 : Stand _ _ _ _ _ _ _ _ _ _ T4 _ 0 0) => ?_)
      obtain ⟨rfl, N4', e4⟩ := q4
      have N4 := Fr.app N3 N4'
      show Ends p e below _ T4 m 100 #[.val (.long q1), .second, .val (.long q2), .second, .val (.long q3), .second, .val (.long (q3 &&& (9223372036854775807 : Int64))), .second, .val (.long (((q2 &&& (4294967295 : Int64)) + ((q3 &&& (9223372036854775807 : Int64)) &&& (4294967295 : Int64))) - (q1 &&& (4294967295 : Int64)))), .second, .val (.long ((((q2 >>> ((32 : Int32) &&& 0x3f).toInt64) + ((q3 &&& (9223372036854775807 : Int64)) >>> ((32 : Int32) &&& 0x3f).toInt64)) - (q1 >>> ((32 : Int32) &&& 0x3f).toInt64)) + ((((q2 &&& (4294967295 : Int64)) + ((q3 &&& (9223372036854775807 : Int64)) &&& (4294967295 : Int64))) - (q1 &&& (4294967295 : Int64))) >>> ((32 : Int32) &&& 0x3f).toInt64))), .second, .val (.long ((((q2 &&& (4294967295 : Int64)) + ((q3 &&& (9223372036854775807 : Int64)) &&& (4294967295 : Int64))) - (q1 &&& (4294967295 : Int64))) &&& (4294967295 : Int64))), .second, .val (.long t2), .second] [(.long (fUntil_0 q1 q2 (q3 &&& (9223372036854775807 : Int64))))]
      refine eLLoad X4 hx (hb hby at_100) rfl rfl ?_
      refine eLCmp X4 hx (hb hby at_102) rfl ?_
      show Ends p e below (PVW s 0 0 n0 (if (fUntil_0 q1 q2 (q3 &&& (9223372036854775807 : Int64))) = t2 then (1 : Int32) else (0 : Int32))) T4 m 103 #[.val (.long q1), .second, .val (.long q2), .second, .val (.long q3), .second, .val (.long (q3 &&& (9223372036854775807 : Int64))), .second, .val (.long (((q2 &&& (4294967295 : Int64)) + ((q3 &&& (9223372036854775807 : Int64)) &&& (4294967295 : Int64))) - (q1 &&& (4294967295 : Int64)))), .second, .val (.long ((((q2 >>> ((32 : Int32) &&& 0x3f).toInt64) + ((q3 &&& (9223372036854775807 : Int64)) >>> ((32 : Int32) &&& 0x3f).toInt64)) - (q1 >>> ((32 : Int32) &&& 0x3f).toInt64)) + ((((q2 &&& (4294967295 : Int64)) + ((q3 &&& (9223372036854775807 : Int64)) &&& (4294967295 : Int64))) - (q1 &&& (4294967295 : Int64))) >>> ((32 : Int32) &&& 0x3f).toInt64))), .second, .val (.long ((((q2 &&& (4294967295 : Int64)) + ((q3 &&& (9223372036854775807 : Int64)) &&& (4294967295 : Int64))) - (q1 &&& (4294967295 : Int64))) &&& (4294967295 : Int64))), .second, .val (.long t2), .second] [(.int (XT.cmpL (fUntil_0 q1 q2 (q3 &&& (9223372036854775807 : Int64))) t2))]
      by_cases c5 : (fUntil_0 q1 q2 (q3 &&& (9223372036854775807 : Int64))) = t2
      · rw [if_pos c5]
        refine eIfN X4 hx (hb hby at_103) (XT.ll_ne_f c5) rfl ?_
        refine eIConst X4 hx (1 : Int32) (hb hby at_106) rfl rfl ?_
        refine eGoto X4 hx (hb hby at_107) (by decide) (pc' := 111) rfl ?_
        exact eRetN X4 hx (t := .boolean) Bd.returns (by simp) hlk (hb hby at_111) (by decide) (by decide) ⟨rfl, N4⟩
      · rw [if_neg c5]
        refine eIfY X4 hx (hb hby at_103) (XT.ll_ne_t c5) (by decide) (pc' := 110) rfl ?_
        refine eIConst X4 hx (0 : Int32) (hb hby at_110) rfl rfl ?_
        exact eRetN X4 hx (t := .boolean) Bd.returns (by simp) hlk (hb hby at_111) (by decide) (by decide) ⟨rfl, N4⟩
    show Ends p e below (PVW s 0 0 n0 (if ((((q2 >>> ((32 : Int32) &&& 0x3f).toInt64) + ((q3 &&& (9223372036854775807 : Int64)) >>> ((32 : Int32) &&& 0x3f).toInt64)) - (q1 >>> ((32 : Int32) &&& 0x3f).toInt64)) + ((((q2 &&& (4294967295 : Int64)) + ((q3 &&& (9223372036854775807 : Int64)) &&& (4294967295 : Int64))) - (q1 &&& (4294967295 : Int64))) >>> ((32 : Int32) &&& 0x3f).toInt64)) < (2147483648 : Int64) then (f0_91 q1 q2 q3 ((((((q2 >>> ((32 : Int32) &&& 0x3f).toInt64) + ((q3 &&& (9223372036854775807 : Int64)) >>> ((32 : Int32) &&& 0x3f).toInt64)) - (q1 >>> ((32 : Int32) &&& 0x3f).toInt64)) + ((((q2 &&& (4294967295 : Int64)) + ((q3 &&& (9223372036854775807 : Int64)) &&& (4294967295 : Int64))) - (q1 &&& (4294967295 : Int64))) >>> ((32 : Int32) &&& 0x3f).toInt64)) <<< ((32 : Int32) &&& 0x3f).toInt64) ||| ((((q2 &&& (4294967295 : Int64)) + ((q3 &&& (9223372036854775807 : Int64)) &&& (4294967295 : Int64))) - (q1 &&& (4294967295 : Int64))) &&& (4294967295 : Int64)))) else (f0_91 q1 q2 q3 (9223372036854775807 : Int64)))) s₁ m 74 #[.val (.long q1), .second, .val (.long q2), .second, .val (.long q3), .second, .val (.long (q3 &&& (9223372036854775807 : Int64))), .second, .val (.long (((q2 &&& (4294967295 : Int64)) + ((q3 &&& (9223372036854775807 : Int64)) &&& (4294967295 : Int64))) - (q1 &&& (4294967295 : Int64)))), .second, .val (.long ((((q2 >>> ((32 : Int32) &&& 0x3f).toInt64) + ((q3 &&& (9223372036854775807 : Int64)) >>> ((32 : Int32) &&& 0x3f).toInt64)) - (q1 >>> ((32 : Int32) &&& 0x3f).toInt64)) + ((((q2 &&& (4294967295 : Int64)) + ((q3 &&& (9223372036854775807 : Int64)) &&& (4294967295 : Int64))) - (q1 &&& (4294967295 : Int64))) >>> ((32 : Int32) &&& 0x3f).toInt64))), .second, .val (.long ((((q2 &&& (4294967295 : Int64)) + ((q3 &&& (9223372036854775807 : Int64)) &&& (4294967295 : Int64))) - (q1 &&& (4294967295 : Int64))) &&& (4294967295 : Int64))), .second, .unset, .unset] [(.int (XT.cmpL ((((q2 >>> ((32 : Int32) &&& 0x3f).toInt64) + ((q3 &&& (9223372036854775807 : Int64)) >>> ((32 : Int32) &&& 0x3f).toInt64)) - (q1 >>> ((32 : Int32) &&& 0x3f).toInt64)) + ((((q2 &&& (4294967295 : Int64)) + ((q3 &&& (9223372036854775807 : Int64)) &&& (4294967295 : Int64))) - (q1 &&& (4294967295 : Int64))) >>> ((32 : Int32) &&& 0x3f).toInt64)) (2147483648 : Int64)))]
    by_cases c6 : ((((q2 >>> ((32 : Int32) &&& 0x3f).toInt64) + ((q3 &&& (9223372036854775807 : Int64)) >>> ((32 : Int32) &&& 0x3f).toInt64)) - (q1 >>> ((32 : Int32) &&& 0x3f).toInt64)) + ((((q2 &&& (4294967295 : Int64)) + ((q3 &&& (9223372036854775807 : Int64)) &&& (4294967295 : Int64))) - (q1 &&& (4294967295 : Int64))) >>> ((32 : Int32) &&& 0x3f).toInt64)) < (2147483648 : Int64)
    · rw [if_pos c6]
      refine eIfY X0 hx (hb hby at_74) (XT.ll_lt_t c6) (by decide) (pc' := 83) rfl ?_
      refine eLLoad X0 hx (hb hby at_83) rfl rfl ?_
      refine eBipush X0 hx (32 : Int32) (hb hby at_85) rfl rfl ?_
      refine eLShl X0 hx (hb hby at_87) rfl ?_
      refine eLLoad X0 hx (hb hby at_88) rfl rfl ?_
      refine eLOr X0 hx (hb hby at_90) rfl ?_
      exact K91_3 ((((((q2 >>> ((32 : Int32) &&& 0x3f).toInt64) + ((q3 &&& (9223372036854775807 : Int64)) >>> ((32 : Int32) &&& 0x3f).toInt64)) - (q1 >>> ((32 : Int32) &&& 0x3f).toInt64)) + ((((q2 &&& (4294967295 : Int64)) + ((q3 &&& (9223372036854775807 : Int64)) &&& (4294967295 : Int64))) - (q1 &&& (4294967295 : Int64))) >>> ((32 : Int32) &&& 0x3f).toInt64)) <<< ((32 : Int32) &&& 0x3f).toInt64) ||| ((((q2 &&& (4294967295 : Int64)) + ((q3 &&& (9223372036854775807 : Int64)) &&& (4294967295 : Int64))) - (q1 &&& (4294967295 : Int64))) &&& (4294967295 : Int64))) s₁ _ X0 N0 e0
    · rw [if_neg c6]
      refine eIfN X0 hx (hb hby at_74) (XT.ll_lt_f c6) rfl ?_
      refine eLdc2J X0 hx hZ hown (v := (9223372036854775807 : Int64)) (hw _ (List.mem_of_getElem? (i := 0) rfl)) (hb hby at_77) rfl ?_
      refine eGoto X0 hx (hb hby at_80) (by decide) (pc' := 91) rfl ?_
      exact K91_3 (9223372036854775807 : Int64) s₁ _ X0 N0 e0
theorem own_plus (a b : Int64) (ha : 0 ≤ a.toInt) (hb : 0 ≤ b.toInt) : (fPlus_0 a b).toInt = if a.toInt + b.toInt < 9223372036854775808 then a.toInt + b.toInt else 9223372036854775807 := by
  have h1 := c_ladd a b
  have h2 := c_lsub 9223372036854775807 b
  have r1 := rng64 (a + b)
  have r2 := rng64 (9223372036854775807 - b)
  have r3 := rng64 a
  have r4 := rng64 b
  unfold fPlus_0
  simp only [Int64.lt_iff_toInt_lt, Int64.reduceToInt] at *
  split <;> split <;> (try simp only [Int64.reduceToInt]) <;> omega
theorem own_until (t v q : Int64) (hq : 0 ≤ q.toInt) (hr : 0 ≤ v.toInt + q.toInt - t.toInt) : (fUntil_0 t v q).toInt = if v.toInt + q.toInt - t.toInt < 9223372036854775808 then v.toInt + q.toInt - t.toInt else 9223372036854775807 := by
  have r1 := rng64 t
  have r2 := rng64 v
  have r3 := rng64 q
  have h1 := c_lsub t v
  have h2 := c_lsub q (t - v)
  have h3 := c_lsub v t
  have r4 := rng64 (t - v)
  have r5 := rng64 (q - (t - v))
  have r6 := rng64 (v - t)
  unfold fUntil_0
  split
  · rename_i c; simp only [Int64.lt_iff_toInt_lt] at c; split <;> omega
  · rename_i c; simp only [Int64.lt_iff_toInt_lt] at c
    split
    · rename_i c2; simp only [Int64.lt_iff_toInt_lt, Int64.reduceToInt] at c2; split <;> simp only [Int64.reduceToInt] <;> omega
    · rename_i c2; simp only [Int64.lt_iff_toInt_lt, Int64.reduceToInt] at c2
      rw [own_plus _ _ (by omega) hq]; split <;> split <;> omega
theorem law_eq (q1 q2 q3 : Int64) : f0_0 q1 q2 q3 = 1 := by
  have hp := c_maskL q3 9223372036854775807 63 (by decide) (by decide)
  unfold f0_0 f0_91
  generalize (q3 &&& 9223372036854775807) = q at *
  have m1 := c_maskL q2 4294967295 32 (by decide) (by decide)
  have m2 := c_maskL q 4294967295 32 (by decide) (by decide)
  have m3 := c_maskL q1 4294967295 32 (by decide) (by decide)
  have s1 := c_lshr q2 32 32 (by decide)
  have s2 := c_lshr q 32 32 (by decide)
  have s3 := c_lshr q1 32 32 (by decide)
  have r1 := rng64 q1
  have r2 := rng64 q2
  have r3 := rng64 q
  generalize (q2 &&& 4294967295) = b2 at *
  generalize (q &&& 4294967295) = b3 at *
  generalize (q1 &&& 4294967295) = b1 at *
  generalize (q2 >>> ((32 : Int32) &&& 0x3f).toInt64) = u2 at *
  generalize (q >>> ((32 : Int32) &&& 0x3f).toInt64) = u3 at *
  generalize (q1 >>> ((32 : Int32) &&& 0x3f).toInt64) = u1 at *
  have a1 := c_ladd b2 b3
  have a2 := c_lsub (b2 + b3) b1
  have t1 := rng64 (b2 + b3)
  have t2 := rng64 (b2 + b3 - b1)
  have lo : (b2 + b3 - b1).toInt = b2.toInt + b3.toInt - b1.toInt := by omega
  have s4 := c_lshr (b2 + b3 - b1) 32 32 (by decide)
  have m4 := c_maskL (b2 + b3 - b1) 4294967295 32 (by decide) (by decide)
  generalize (b2 + b3 - b1) = lw at *
  generalize (lw >>> ((32 : Int32) &&& 0x3f).toInt64) = u4 at *
  have a3 := c_ladd u2 u3
  have a4 := c_lsub (u2 + u3) u1
  have a5 := c_ladd (u2 + u3 - u1) u4
  have t3 := rng64 (u2 + u3)
  have t4 := rng64 (u2 + u3 - u1)
  have t5 := rng64 (u2 + u3 - u1 + u4)
  have hi : (u2 + u3 - u1 + u4).toInt = u2.toInt + u3.toInt - u1.toInt + u4.toInt := by omega
  have sh := c_lshl (u2 + u3 - u1 + u4) 32 32 (by decide)
  generalize (u2 + u3 - u1 + u4) = hv at *
  generalize (lw &&& 4294967295) = lm at *
  have t6 := rng64 (hv <<< ((32 : Int32) &&& 0x3f).toInt64)
  have ho := c_orL (hv <<< ((32 : Int32) &&& 0x3f).toInt64) lm 32 (by decide) 4294967296 (by decide)
  have t7 := rng64 ((hv <<< ((32 : Int32) &&& 0x3f).toInt64) ||| lm)
  generalize ((hv <<< ((32 : Int32) &&& 0x3f).toInt64) ||| lm) = res at *
  generalize (hv <<< ((32 : Int32) &&& 0x3f).toInt64) = hs at *
  have ex : q2.toInt + q.toInt - q1.toInt = hv.toInt * 4294967296 + lm.toInt := by omega
  split
  · rfl
  · rename_i c1
    simp only [Int64.lt_iff_toInt_lt, Int64.reduceToInt] at c1
    have un := own_until q1 q2 q (by omega) (by omega)
    split
    · rename_i c2
      simp only [Int64.lt_iff_toInt_lt, Int64.reduceToInt] at c2
      rw [if_pos]
      apply Int64.toInt_inj.mp
      rw [un, if_pos (by omega)]
      have := ho (by omega) (by omega) (by omega)
      omega
    · rename_i c2
      simp only [Int64.lt_iff_toInt_lt, Int64.reduceToInt] at c2
      rw [if_pos]
      apply Int64.toInt_inj.mp
      rw [un, if_neg (by omega)]
      rfl
set_option maxRecDepth 65536 in
set_option maxHeartbeats 40000000 in
theorem comes_1 {Post : Tables → Env → Array Value → State → Outcome → State → Prop} (hpost : ∀ tb e args s v u, (limb_1_1.after args s (.returned v) u = true ∧ limb_1_2.after args s (.returned v) u = true ∧ True) → FrameEnd s (.returned v) u (Jvm.fieldLocs frame_1_writes args s ++ Jvm.arrayLocs frame_1_arrays args s ++ Jvm.staticLocs frame_1_statics s) 0 0 → Post tb e args s (.returned v) u) :
    ArmFor flags0 classFile x code maxLocals ret World_1 tables_1 room_1 Calls_1 rest_1 Pre_1 Post := by
  intro l hfl _ _ p e ha hc hk s m args below hf hA hF happ hP
  obtain ⟨hcalls, hrest, hpre⟩ := hP
  obtain ⟨-, -, -, hnamed, -, -, -, hat⟩ := (Spec.applies_iff hf).mp happ
  obtain ⟨hg, hn⟩ := and_e (Cond.before_iff.mp (show (Jvm.Cond.and given_1 narrow_1).before args s = true from hpre))
  obtain ⟨g1, g2⟩ := and_e hg
  obtain ⟨g3, g4⟩ := and_e g2
  obtain ⟨g5, g6⟩ := and_e g4
  obtain ⟨w0, w1, w2, rfl⟩ : ∃ w0 w1 w2 : Value, args = #[w0, w1, w2] := by
    have hs : args.size = 3 := by simpa [Cond.value, given_1] using g1
    obtain ⟨L⟩ := args
    match L, hs with
    | [w0, w1, w2], _ => exact ⟨w0, w1, w2, rfl⟩
  have hw := fun d (hd : d ∈ tables_1) => atoms_spec (ws := Jvm.Cond.code x code maxLocals ret :: tables_1) hat d (List.mem_cons_of_mem _ hd)
  have hfit : Fit s := fun {y c} hc i hi => by
    obtain ⟨ha, rfl⟩ := Array.getElem?_eq_some_iff.mp hc
    have q := List.all_eq_true.mp ((Array.all_eq_true_iff_forall_mem.mp hF) _ (Array.getElem_mem ha)) i (List.mem_range.mpr hi)
    simpa [Array.getElem?_eq_getElem hi] using q
  obtain ⟨i0, ei0⟩ := isL_v g3
  obtain rfl : w0 = (.long i0) := Option.some.inj ei0
  obtain ⟨i1, ei1⟩ := isL_v g5
  obtain rfl : w1 = (.long i1) := Option.some.inj ei1
  obtain ⟨i2, ei2⟩ := isL_v g6
  obtain rfl : w2 = (.long i2) := Option.some.inj ei2
  obtain ⟨n, o, h1, h2, h3, _, L, rfl, ⟨hv, N⟩, hq⟩ := rm0 l s _ hw tables_1 i0 i1 i2 s.heap s.heap.size (Nat.le_refl _) p e ha hc hk s m _ below hf ((Spec.applies_iff_loose hf).mp happ).1 ⟨rfl, State.Warmed39.refl s, rfl⟩ trivial
  rw [law_eq] at hv
  subst hv
  refine ⟨n, _, h1, h2, h3, hpost _ _ _ _ _ _ ⟨Cond.after_iff.mpr rfl, Cond.after_iff.mpr (eq_i res_at (Term.int_eval (1)) rfl), trivial⟩ ⟨hq.1, hq.2.1, (hq.2.2.sift fun y hy => Or.inr (N y hy)).mono (by decide) (by decide)⟩⟩
theorem main_1_1 : Claimed_1_1 := comes_1 fun _ _ _ _ _ _ h hF => ⟨h.1, hF⟩
theorem main_1_2 : Claimed_1_2 := comes_1 fun _ _ _ _ _ _ h hF => ⟨h.2.1, hF⟩
end Jvm.Pilot.@@N@@
namespace Jvm.Pilot.@@N@@
open Jvm Jvm.ClassFile Sem Op Lib Jvm.Free Jvm.Stand Jvm.Pilot.@@N@@.Jvm.D
/-! MADE BY PROGRAM (witnessworld.py) out of the Statement's table words and the real class files: 9 classes; the members and pool entries that the words name. The judged class is class 1, her method 1. -/
namespace start1
open Jvm.ClassFile
def u (s : String) : CpInfo := .utf8 (stringToUtf16 s)
/-- a pool by its gaps: so many unusable entries, then the entry; so many at the end -/
def gap : Nat → List CpInfo → List CpInfo
  | 0, r => r
  | n + 1, r => .unusable :: gap n r
def poolList (es : List (Nat × CpInfo)) (last : Nat) : List CpInfo := es.foldr (fun e r => gap e.1 (e.2 :: r)) (gap last [])
def pool (es : List (Nat × CpInfo)) (last : Nat) : Array CpInfo := ⟨poolList es last⟩
def fileOf (pool : Array CpInfo) (this : Nat) (attrs : Array Attribute := #[]) (ms : Array MethodInfo := #[]) (fl : Nat := 33) (sup : Nat := 0) (ifs : Array Nat := #[]) (fds : Array FieldInfo := #[]) : ClassFile where
  minorVersion := 0
  majorVersion := 65
  constantPool := pool
  accessFlags := fl
  thisClass := this
  superClass := sup
  interfaces := ifs
  fields := fds
  methods := ms
  attributes := attrs
def plain (name : String) (sup : Option ClassId) : Class where
  name := name
  kind := .ordinary
  loader := none
  accessFlags := 33
  super := sup
  interfaces := #[]
  cf := none
  fields := #[]
  methods := #[]
  instanceTypes := #[]
  staticTypes := #[]
  resolved := #[]
  callSites := []
  init := .initialized
  statics := none
  mirror := none

def pool0 : Array CpInfo := pool [(5, u "<init>"), (0, u "()V"), (1, .class_ 10), (1, u "java/lang/Object")] 113

def k0m0 : Method := { name := "<init>", desc := "()V", sig := { parameters := [], returnType := none }, accessFlags := 1, code := none }
/-- java/lang/Object -/
def k0 : Class := { plain "java/lang/Object" none with
  accessFlags := 33
  interfaces := #[]
  cf := some (fileOf pool0 8 #[] #[{ accessFlags := 1, nameIndex := 5, descriptorIndex := 6, attributes := #[] }] 33 0 #[] #[])
  fields := #[]
  methods := #[k0m0]
  instanceTypes := #[]
  staticTypes := #[]
  resolved := Array.replicate 124 none
  statics := none }

def pool1 : Array CpInfo := pool [(2, .class_ 4), (1, u "java/lang/Object"), (0, u "<init>"), (0, u "()V"), (2, .long 9223372036854775807), (1, .long 4294967295), (1, .long 2147483648), (1, .methodref 16 17), (0, .class_ 18), (0, .nameAndType 19 20), (0, u "com/example/throttleneck/throttleneck/Millis"), (0, u "until"), (0, u "(JJJ)J"), (0, .class_ 22), (0, u "com/example/throttleneck/throttleneck/MillisUntilPinLaw"), (2, u "law"), (0, u "(JJJ)Z")] 3

def k1m0 : Method := { name := "<init>", desc := "()V", sig := { parameters := [], returnType := none }, accessFlags := 2, code := none }
def k1c1 : Code := { maxStack := 6, maxLocals := 16, code := code, exceptionTable := #[], attributes := #[] }
def k1m1 : Method := { name := "law", desc := "(JJJ)Z", sig := { parameters := [.long, .long, .long], returnType := some .boolean }, accessFlags := 9, code := some k1c1 }
/-- com/example/throttleneck/throttleneck/MillisUntilPinLaw -/
def k1 : Class := { plain "com/example/throttleneck/throttleneck/MillisUntilPinLaw" (some 0) with
  accessFlags := 49
  interfaces := #[]
  cf := some (fileOf pool1 21 #[] #[{ accessFlags := 2, nameIndex := 5, descriptorIndex := 6, attributes := #[] }, { accessFlags := 9, nameIndex := 25, descriptorIndex := 26, attributes := #[] }] 49 2 #[] #[])
  fields := #[]
  methods := #[k1m0, k1m1]
  instanceTypes := #[]
  staticTypes := #[]
  resolved := Array.replicate 30 none
  statics := none }

def pool2 : Array CpInfo := pool [(2, .class_ 4), (1, u "java/lang/Object"), (0, u "<init>"), (0, u "()V"), (16, .long 9223372036854775807), (28, .methodref 53 54), (0, .class_ 55), (0, .nameAndType 56 57), (0, u "com/example/throttleneck/throttleneck/Millis"), (0, u "plus"), (0, u "(JJ)J"), (5, u "until"), (0, u "(JJJ)J")] 18

def k2m0 : Method := { name := "<init>", desc := "()V", sig := { parameters := [], returnType := none }, accessFlags := 2, code := none }
def k2c1 : Code := { maxStack := 6, maxLocals := 10, code := prog_15_method_3_code, exceptionTable := #[], attributes := #[] }
def k2m1 : Method := { name := "until", desc := "(JJJ)J", sig := { parameters := [.long, .long, .long], returnType := some .long }, accessFlags := 8, code := some k2c1 }
def k2c2 : Code := { maxStack := 6, maxLocals := 4, code := prog_15_method_4_code, exceptionTable := #[], attributes := #[] }
def k2m2 : Method := { name := "plus", desc := "(JJ)J", sig := { parameters := [.long, .long], returnType := some .long }, accessFlags := 8, code := some k2c2 }
/-- com/example/throttleneck/throttleneck/Millis -/
def k2 : Class := { plain "com/example/throttleneck/throttleneck/Millis" (some 0) with
  accessFlags := 48
  interfaces := #[]
  cf := some (fileOf pool2 53 #[] #[{ accessFlags := 2, nameIndex := 5, descriptorIndex := 6, attributes := #[] }, { accessFlags := 8, nameIndex := 63, descriptorIndex := 64, attributes := #[] }, { accessFlags := 8, nameIndex := 56, descriptorIndex := 57, attributes := #[] }] 48 2 #[] #[])
  fields := #[]
  methods := #[k2m0, k2m1, k2m2]
  instanceTypes := #[]
  staticTypes := #[]
  resolved := Array.replicate 83 none
  statics := none }

def pool3 : Array CpInfo := pool [(1, u "java/lang/Cloneable"), (0, .class_ 1), (0, u "java/lang/Object"), (0, .class_ 3)] 3

/-- java/lang/Cloneable -/
def k3 : Class := { plain "java/lang/Cloneable" (some 0) with
  accessFlags := 1537
  interfaces := #[]
  cf := some (fileOf pool3 2 #[] #[] 1537 4 #[] #[])
  fields := #[]
  methods := #[]
  instanceTypes := #[]
  staticTypes := #[]
  resolved := Array.replicate 8 none
  statics := none }

def pool4 : Array CpInfo := pool [(1, u "java/io/Serializable"), (0, .class_ 1), (0, u "java/lang/Object"), (0, .class_ 3)] 3

/-- java/io/Serializable -/
def k4 : Class := { plain "java/io/Serializable" (some 0) with
  accessFlags := 1537
  interfaces := #[]
  cf := some (fileOf pool4 2 #[] #[] 1537 4 #[] #[])
  fields := #[]
  methods := #[]
  instanceTypes := #[]
  staticTypes := #[]
  resolved := Array.replicate 8 none
  statics := none }

/-- the primitive byte -/
def k5 : Class := { plain "byte" none with kind := .primitive 'B', accessFlags := 0x411 }
/-- [B -/
def k6 : Class := { plain "[B" (some 0) with kind := .array 5 .byte, interfaces := #[3, 4], accessFlags := 1041 }

/-- the primitive int -/
def k7 : Class := { plain "int" none with kind := .primitive 'I', accessFlags := 0x411 }
/-- [I -/
def k8 : Class := { plain "[I" (some 0) with kind := .array 7 .int, interfaces := #[3, 4], accessFlags := 1041 }

def heap : Heap := #[]
def classes : Array Class := #[k0, k1, k2, k3, k4, k5, k6, k7, k8]
def interned : List (Array UInt16 × Addr) := []
def slotsUsed : Nat := 0
def theMethod : MethodId := ⟨1, 1⟩
def args0 : Array Value := #[.long 5, .long 7, .long 9]
def aboutOver (below : List Frame) : State where
  vm := { classes := classes, interned := interned.toArray }
  heap := heap
  slotsUsed := slotsUsed
  threads := #[{ frames := .invoking theMethod args0 :: below }]
def below0 : List Frame := [.native { method := ⟨0, 0⟩, args := #[] }]
def about1 : State := aboutOver below0
def p0 : Program := .bare "" "" ""
def e0 : Env := launch0.env 0 0 0
theorem w_frames : about1.frames = Frame.invoking theMethod args0 :: below0 := rfl
set_option maxRecDepth 65536 in
theorem w_args : argsFit about1.vm theMethod args0 = true := by decide +kernel
set_option maxRecDepth 65536 in
theorem w_heap : heapFits about1 = true := by decide +kernel
set_option maxRecDepth 65536 in
theorem w_runnable : about1.curStatus? = some .runnable := by decide +kernel
set_option maxRecDepth 65536 in
theorem w_alone : about1.alone = true := by decide +kernel
set_option maxRecDepth 65536 in
theorem w_named : about1.methodNamed? x = some theMethod := by decide +kernel
set_option maxRecDepth 65536 in
theorem w_hears : about1.hears theMethod below0 = true := by decide +kernel
set_option maxRecDepth 65536 in
theorem w_ripe : about1.ripe theMethod args0 below0 = true := by decide +kernel
theorem w_running : about1.status = .running := rfl
set_option maxRecDepth 65536 in
theorem w_room : about1.hasRoom e0.platform room_1 = true :=
  launch0.hasRoom_least _ room_1 (by decide +kernel) (by decide +kernel) (by decide +kernel) (by decide +kernel) (by decide +kernel) (by decide +kernel)
theorem allAtoms_all (ts : List Jvm.Cond) (a : Array Jvm.Value) (st : Jvm.State) : (allAtoms ts).before a st = ts.all (fun c => c.before a st) := by
  induction ts with
  | nil => rfl
  | cons c t ih =>
    show (Jvm.Cond.and c (allAtoms t)).before a st = _
    rw [Jvm.Cond.before_and, ih, List.all_cons]
def words1 : List Jvm.Cond := Jvm.Cond.code x code maxLocals ret :: tables_1
/-- a 'code' word, met by the world's own term for the bytes: nothing is compared byte by byte -/
theorem code_word {y : MethodName} {bytes : ByteArray} {mx : Nat} {rt : Option FieldType} {a : Array Value} {s : State} {m : MethodId} {meth : Method} {c : Code} (h1 : s.methodNamed? y = some m) (h2 : s.vm.method? m = some meth) (h3 : meth.code = some c) (h4 : c.code = bytes)
    (h5 : (c.maxLocals == mx && c.exceptionTable.isEmpty && decide (c.maxStack ≤ mostOperands) && decide (meth.sig.returnType = rt) && !meth.locks && decide (parseMethodDescriptor y.desc = some meth.sig)) = true) : (Jvm.Cond.code y bytes mx rt).before a s = true := by
  simp only [Bool.and_eq_true, beq_iff_eq, Bool.not_eq_true', decide_eq_true_eq] at h5
  obtain ⟨⟨⟨⟨⟨g1, g2⟩, g3⟩, g4⟩, g5⟩, g6⟩ := h5
  simp [Cond.before, Cond.holds, Cond.value, h1, h2, h3, h4, g1, g2, g3, g4, g5, g6]
def isCode : Jvm.Cond → Bool
  | .code _ _ _ _ => true
  | _ => false
theorem all_split {L : List Jvm.Cond} {P : Jvm.Cond → Bool} (h1 : L.all (fun c => isCode c || P c) = true) (h2 : ∀ c ∈ L.filter isCode, P c = true) : L.all P = true := by
  refine List.all_eq_true.mpr fun c hc => ?_
  have h := List.all_eq_true.mp h1 c hc
  rcases Bool.eq_false_or_eq_true (isCode c) with hi | hi
  · exact h2 c (List.mem_filter.mpr ⟨hc, hi⟩)
  · simpa [hi] using h
set_option maxRecDepth 65536 in
theorem w_c0 : (Jvm.Cond.code x code maxLocals ret).before args0 about1 = true := code_word (m := ⟨1, 1⟩) (meth := k1m1) (c := k1c1) (by decide +kernel) rfl rfl rfl (by decide +kernel)
set_option maxRecDepth 65536 in
theorem w_c1 : (Jvm.Cond.code ({ cls := "com/example/throttleneck/throttleneck/Millis", name := "until", desc := "(JJJ)J" } : Jvm.MethodName) prog_15_method_3_code (10 : Nat) (Option.some Jvm.ClassFile.FieldType.long)).before args0 about1 = true := code_word (m := ⟨2, 1⟩) (meth := k2m1) (c := k2c1) (by decide +kernel) rfl rfl rfl (by decide +kernel)
set_option maxRecDepth 65536 in
theorem w_c2 : (Jvm.Cond.code ({ cls := "com/example/throttleneck/throttleneck/Millis", name := "plus", desc := "(JJ)J" } : Jvm.MethodName) prog_15_method_4_code (4 : Nat) (Option.some Jvm.ClassFile.FieldType.long)).before args0 about1 = true := code_word (m := ⟨2, 2⟩) (meth := k2m2) (c := k2c2) (by decide +kernel) rfl rfl rfl (by decide +kernel)
def codes1 : List Jvm.Cond := [Jvm.Cond.code x code maxLocals ret, Jvm.Cond.code ({ cls := "com/example/throttleneck/throttleneck/Millis", name := "until", desc := "(JJJ)J" } : Jvm.MethodName) prog_15_method_3_code (10 : Nat) (Option.some Jvm.ClassFile.FieldType.long), Jvm.Cond.code ({ cls := "com/example/throttleneck/throttleneck/Millis", name := "plus", desc := "(JJ)J" } : Jvm.MethodName) prog_15_method_4_code (4 : Nat) (Option.some Jvm.ClassFile.FieldType.long)]
set_option maxRecDepth 65536 in
theorem codes_eq : words1.filter isCode = codes1 := rfl
theorem w_codes : ∀ c ∈ words1.filter isCode, c.before args0 about1 = true := by
  rw [codes_eq]
  intro c hc
  simp only [codes1, List.mem_cons, List.not_mem_nil, or_false] at hc
  rcases hc with rfl | rfl | rfl
  · exact w_c0
  · exact w_c1
  · exact w_c2
set_option maxRecDepth 65536 in
theorem w_t1 : words1.all (fun c => isCode c || c.before args0 about1) = true := by decide +kernel
theorem w_tables : (allAtoms (Jvm.Cond.code x code maxLocals ret :: tables_1)).before args0 about1 = true := by
  rw [allAtoms_all]
  show words1.all (fun c => c.before args0 about1) = true
  refine all_split ?_ w_codes
  rw [w_t1]
set_option maxRecDepth 65536 in
theorem w_case : (Jvm.Cond.and given_1 narrow_1).before args0 about1 = true := by decide +kernel
theorem w_applies : (headSpec (Jvm.Cond.code x code maxLocals ret :: tables_1) room_1).applies x e0.platform about1 = true :=
  (Spec.applies_iff w_frames).mpr ⟨w_running, w_runnable, w_alone, w_named, w_hears, w_ripe, w_room, w_tables⟩
theorem atStart : AtStart classFile x code maxLocals ret World_1 tables_1 room_1 Calls_1 rest_1 Pre_1 launch0 p0 e0 about1 theMethod args0 below0 :=
  ⟨lists_1, trivial, launch0.admits_env _ _ _, launch0.least_env, fairChoices_fair.cas, fairChoices_fair.clock, w_frames, w_args, w_heap, w_applies, trivial, trivial, w_case⟩
end start1
theorem witness_1 : WitnessClaimed_1 := ⟨start1.p0, start1.e0, start1.about1, start1.theMethod, start1.args0, start1.below0, start1.atStart⟩
end Jvm.Pilot.@@N@@
