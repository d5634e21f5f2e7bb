import JvmDerived
import JvmDerived.Pilot.@@N@@Statement
import JvmDerived.Pilot.@@N@@Code
set_option linter.unusedVariables false
set_option linter.unusedSimpArgs false
@@BLOCK:TracedD.lean.txt@@
namespace Jvm.RoadKit
open Sem ClassFile Op Lib Jvm.Stand Jvm.Free Jvm.LawKit
section New
variable {p : Program} {l : Launch} {e : Env} {R : Room} {s : State} {m : MethodId} {args : Array Value} {below : List Frame} {meth : Method} {c : Code} {T : State} {locs : List Loc} {cells slots : Nat}
theorem retI (X : Stand p l e R s m args below meth c T locs cells slots) (hx : p.tables.exec = Jvm.exec) {pc : Nat} {Ls : Array Slot} {z : Int32} {rest : List Value} (hret : meth.sig.returnType = some .int) (hd : decode c.code pc = .ok (.ireturn, 1)) {fs : List Frame}
    (hl : ∀ (f : JFrame) (acts : List Action), f.method = m → f.locked = none → f.entered = [] → (doReturn e (T.setTop f) acts (some (.int z))).1 = T.setFrames fs) : Steps p.tables e below (T.setTop (mkF m pc Ls (.int z :: rest))) (T.setFrames fs) := by
  have hm' : T.vm.method? m = some meth := X.method'
  have hn : narrow .int (.int z) = .int z := rfl
  show Steps p.tables e below (T.setTop { method := m, pc := pc, locals := Ls, stack := _ :: rest, locked := none }) _
  jvm_step X.here [X.here.top, hx, hd, hm', hret, hn]
  first | (intro acts; rw [hl _ acts rfl rfl rfl]) | rw [hl _ _ rfl rfl rfl]
  exact Steps.refl _
end New
end Jvm.RoadKit
namespace Jvm.Own.Fw
open Sem ClassFile Op Lib Jvm.Stand Jvm.Free Jvm.LawKit Jvm.RoadKit
variable {p : Program} {l : Launch} {e : Env} {R : Room} {s : State} {m : MethodId} {args : Array Value} {below : List Frame} {meth : Method} {c : Code} {T S : State} {G : JFrame} {locs : List Loc} {cells slots : Nat} {pc pc' : Nat} {Ls : Array Slot} {St : List Value}
theorem iloadN {i : Fin 4} {v : Int32} (k : Goes p e below S G T (mkF m pc Ls St)) (X : Stand p l e R s m args below meth c T locs cells slots) (hx : p.tables.exec = Jvm.exec) (hd : decode c.code pc = .ok (.iload_n i, 1)) (hl : Ls[i.val]? = some (.val (.int v))) (hp : pc + 1 = pc') : Goes p e below S G T (mkF m pc' Ls (.int v :: St)) := by
  subst hp; exact fun t q => k t (XS.iloadN X.here hx rfl hd hl q)
theorem iload {i : Nat} {v : Int32} (k : Goes p e below S G T (mkF m pc Ls St)) (X : Stand p l e R s m args below meth c T locs cells slots) (hx : p.tables.exec = Jvm.exec) (hd : decode c.code pc = .ok (.iload i, 2)) (hl : Ls[i]? = some (.val (.int v))) (hp : pc + 2 = pc') : Goes p e below S G T (mkF m pc' Ls (.int v :: St)) := by
  subst hp; exact fun t q => k t (XS.iload X.here hx rfl hd hl q)
theorem lloadN {i : Fin 4} {v : Int64} (k : Goes p e below S G T (mkF m pc Ls St)) (X : Stand p l e R s m args below meth c T locs cells slots) (hx : p.tables.exec = Jvm.exec) (hd : decode c.code pc = .ok (.lload_n i, 1)) (hl : Ls[i.val]? = some (.val (.long v))) (hp : pc + 1 = pc') : Goes p e below S G T (mkF m pc' Ls (.long v :: St)) := by
  subst hp; exact fun t q => k t (XS.lloadN X.here hx rfl hd hl q)
theorem lload {i : Nat} {v : Int64} (k : Goes p e below S G T (mkF m pc Ls St)) (X : Stand p l e R s m args below meth c T locs cells slots) (hx : p.tables.exec = Jvm.exec) (hd : decode c.code pc = .ok (.lload i, 2)) (hl : Ls[i]? = some (.val (.long v))) (hp : pc + 2 = pc') : Goes p e below S G T (mkF m pc' Ls (.long v :: St)) := by
  subst hp; exact fun t q => k t (XS.lload X.here hx rfl hd hl q)
theorem aloadN {i : Fin 4} {v : Value} (k : Goes p e below S G T (mkF m pc Ls St)) (X : Stand p l e R s m args below meth c T locs cells slots) (hx : p.tables.exec = Jvm.exec) (hd : decode c.code pc = .ok (.aload_n i, 1)) (hl : Ls[i.val]? = some (.val v)) (hv : v.isRef = true) (hp : pc + 1 = pc') : Goes p e below S G T (mkF m pc' Ls (v :: St)) := by
  subst hp; exact fun t q => k t (XS.aloadN X.here hx rfl hd hl hv q)
theorem aload {i : Nat} {v : Value} (k : Goes p e below S G T (mkF m pc Ls St)) (X : Stand p l e R s m args below meth c T locs cells slots) (hx : p.tables.exec = Jvm.exec) (hd : decode c.code pc = .ok (.aload i, 2)) (hl : Ls[i]? = some (.val v)) (hv : v.isRef = true) (hp : pc + 2 = pc') : Goes p e below S G T (mkF m pc' Ls (v :: St)) := by
  subst hp; exact fun t q => k t (XS.aload X.here hx rfl hd hl hv q)
theorem istoreN {i : Fin 4} {v : Int32} {Ls' : Array Slot} (k : Goes p e below S G T (mkF m pc Ls (.int v :: St))) (X : Stand p l e R s m args below meth c T locs cells slots) (hx : p.tables.exec = Jvm.exec) (hd : decode c.code pc = .ok (.istore_n i, 1)) (hl : storeLocals Ls i.val (.int v) = some Ls') (hp : pc + 1 = pc') : Goes p e below S G T (mkF m pc' Ls' St) := by
  subst hp; exact fun t q => k t (XS.istoreN X.here hx rfl hd rfl hl q)
theorem istore {i : Nat} {v : Int32} {Ls' : Array Slot} (k : Goes p e below S G T (mkF m pc Ls (.int v :: St))) (X : Stand p l e R s m args below meth c T locs cells slots) (hx : p.tables.exec = Jvm.exec) (hd : decode c.code pc = .ok (.istore i, 2)) (hl : storeLocals Ls i (.int v) = some Ls') (hp : pc + 2 = pc') : Goes p e below S G T (mkF m pc' Ls' St) := by
  subst hp; exact fun t q => k t (XS.istore X.here hx rfl hd rfl hl q)
theorem lstoreN {i : Fin 4} {v : Int64} {Ls' : Array Slot} (k : Goes p e below S G T (mkF m pc Ls (.long v :: St))) (X : Stand p l e R s m args below meth c T locs cells slots) (hx : p.tables.exec = Jvm.exec) (hd : decode c.code pc = .ok (.lstore_n i, 1)) (hl : storeLocals Ls i.val (.long v) = some Ls') (hp : pc + 1 = pc') : Goes p e below S G T (mkF m pc' Ls' St) := by
  subst hp; exact fun t q => k t (XS.lstoreN X.here hx rfl hd rfl hl q)
theorem lstore {i : Nat} {v : Int64} {Ls' : Array Slot} (k : Goes p e below S G T (mkF m pc Ls (.long v :: St))) (X : Stand p l e R s m args below meth c T locs cells slots) (hx : p.tables.exec = Jvm.exec) (hd : decode c.code pc = .ok (.lstore i, 2)) (hl : storeLocals Ls i (.long v) = some Ls') (hp : pc + 2 = pc') : Goes p e below S G T (mkF m pc' Ls' St) := by
  subst hp; exact fun t q => k t (XS.lstore X.here hx rfl hd rfl hl q)
theorem astoreN {i : Fin 4} {v : Value} {Ls' : Array Slot} (k : Goes p e below S G T (mkF m pc Ls (v :: St))) (X : Stand p l e R s m args below meth c T locs cells slots) (hx : p.tables.exec = Jvm.exec) (hd : decode c.code pc = .ok (.astore_n i, 1)) (hv : v.isRef = true) (hl : storeLocals Ls i.val v = some Ls') (hp : pc + 1 = pc') : Goes p e below S G T (mkF m pc' Ls' St) := by
  subst hp; exact fun t q => k t (XS.astoreN X.here hx rfl hd rfl hv hl q)
theorem astore {i : Nat} {v : Value} {Ls' : Array Slot} (k : Goes p e below S G T (mkF m pc Ls (v :: St))) (X : Stand p l e R s m args below meth c T locs cells slots) (hx : p.tables.exec = Jvm.exec) (hd : decode c.code pc = .ok (.astore i, 2)) (hv : v.isRef = true) (hl : storeLocals Ls i v = some Ls') (hp : pc + 2 = pc') : Goes p e below S G T (mkF m pc' Ls' St) := by
  subst hp; exact fun t q => k t (XS.astore X.here hx rfl hd rfl hv hl q)
theorem iconst {i : Int} {z : Int32} (k : Goes p e below S G T (mkF m pc Ls St)) (X : Stand p l e R s m args below meth c T locs cells slots) (hx : p.tables.exec = Jvm.exec) (hd : decode c.code pc = .ok (.iconst i, 1)) (hz : Int32.ofInt i = z) (hp : pc + 1 = pc') : Goes p e below S G T (mkF m pc' Ls (.int z :: St)) := by
  subst hp; exact fun t q => k t (XS.iconst X.here hx rfl hd (hz ▸ q))
theorem bipush {i : Int} {z : Int32} (k : Goes p e below S G T (mkF m pc Ls St)) (X : Stand p l e R s m args below meth c T locs cells slots) (hx : p.tables.exec = Jvm.exec) (hd : decode c.code pc = .ok (.bipush i, 2)) (hz : (Int8.ofInt i).toInt32 = z) (hp : pc + 2 = pc') : Goes p e below S G T (mkF m pc' Ls (.int z :: St)) := by
  subst hp; exact fun t q => k t (XS.bipush X.here hx rfl hd (hz ▸ q))
theorem sipush {i : Int} {z : Int32} (k : Goes p e below S G T (mkF m pc Ls St)) (X : Stand p l e R s m args below meth c T locs cells slots) (hx : p.tables.exec = Jvm.exec) (hd : decode c.code pc = .ok (.sipush i, 3)) (hz : (Int16.ofInt i).toInt32 = z) (hp : pc + 3 = pc') : Goes p e below S G T (mkF m pc' Ls (.int z :: St)) := by
  subst hp; exact fun t q => k t (XS.sipush X.here hx rfl hd (hz ▸ q))
theorem lconst {i : Fin 2} {z : Int64} (k : Goes p e below S G T (mkF m pc Ls St)) (X : Stand p l e R s m args below meth c T locs cells slots) (hx : p.tables.exec = Jvm.exec) (hd : decode c.code pc = .ok (.lconst i, 1)) (hz : Int64.ofNat i = z) (hp : pc + 1 = pc') : Goes p e below S G T (mkF m pc' Ls (.long z :: St)) := by
  subst hp; exact fun t q => k t (XS.lconst X.here hx rfl hd (hz ▸ q))
theorem aconstNull  (k : Goes p e below S G T (mkF m pc Ls St)) (X : Stand p l e R s m args below meth c T locs cells slots) (hx : p.tables.exec = Jvm.exec) (hd : decode c.code pc = .ok (.aconst_null, 1)) (hp : pc + 1 = pc') : Goes p e below S G T (mkF m pc' Ls (.null :: St)) := by
  subst hp; exact fun t q => k t (XS.aconstNull X.here hx rfl hd q)
theorem iadd {x y z : Int32} (k : Goes p e below S G T (mkF m pc Ls (.int y :: .int x :: St))) (X : Stand p l e R s m args below meth c T locs cells slots) (hx : p.tables.exec = Jvm.exec) (hd : decode c.code pc = .ok (.iadd, 1)) (hz : x + y = z) (hp : pc + 1 = pc') : Goes p e below S G T (mkF m pc' Ls (.int z :: St)) := by
  subst hp; exact fun t q => k t (XS.iadd X.here hx rfl hd rfl (hz ▸ q))
theorem isub {x y z : Int32} (k : Goes p e below S G T (mkF m pc Ls (.int y :: .int x :: St))) (X : Stand p l e R s m args below meth c T locs cells slots) (hx : p.tables.exec = Jvm.exec) (hd : decode c.code pc = .ok (.isub, 1)) (hz : x - y = z) (hp : pc + 1 = pc') : Goes p e below S G T (mkF m pc' Ls (.int z :: St)) := by
  subst hp; exact fun t q => k t (XS.isub X.here hx rfl hd rfl (hz ▸ q))
theorem lsub {x y z : Int64} (k : Goes p e below S G T (mkF m pc Ls (.long y :: .long x :: St))) (X : Stand p l e R s m args below meth c T locs cells slots) (hx : p.tables.exec = Jvm.exec) (hd : decode c.code pc = .ok (.lsub, 1)) (hz : x - y = z) (hp : pc + 1 = pc') : Goes p e below S G T (mkF m pc' Ls (.long z :: St)) := by
  subst hp; exact fun t q => k t (XS.lsub X.here hx rfl hd rfl (hz ▸ q))
theorem imul {x y z : Int32} (k : Goes p e below S G T (mkF m pc Ls (.int y :: .int x :: St))) (X : Stand p l e R s m args below meth c T locs cells slots) (hx : p.tables.exec = Jvm.exec) (hd : decode c.code pc = .ok (.imul, 1)) (hz : x * y = z) (hp : pc + 1 = pc') : Goes p e below S G T (mkF m pc' Ls (.int z :: St)) := by
  subst hp; exact fun t q => k t (XS.imul X.here hx rfl hd rfl (hz ▸ q))
theorem lmul {x y z : Int64} (k : Goes p e below S G T (mkF m pc Ls (.long y :: .long x :: St))) (X : Stand p l e R s m args below meth c T locs cells slots) (hx : p.tables.exec = Jvm.exec) (hd : decode c.code pc = .ok (.lmul, 1)) (hz : x * y = z) (hp : pc + 1 = pc') : Goes p e below S G T (mkF m pc' Ls (.long z :: St)) := by
  subst hp; exact fun t q => k t (XS.lmul X.here hx rfl hd rfl (hz ▸ q))
theorem iand {x y z : Int32} (k : Goes p e below S G T (mkF m pc Ls (.int y :: .int x :: St))) (X : Stand p l e R s m args below meth c T locs cells slots) (hx : p.tables.exec = Jvm.exec) (hd : decode c.code pc = .ok (.iand, 1)) (hz : x &&& y = z) (hp : pc + 1 = pc') : Goes p e below S G T (mkF m pc' Ls (.int z :: St)) := by
  subst hp; exact fun t q => k t (XS.iand X.here hx rfl hd rfl (hz ▸ q))
theorem ineg {x : Int32} {z : Int32} (k : Goes p e below S G T (mkF m pc Ls (.int x :: St))) (X : Stand p l e R s m args below meth c T locs cells slots) (hx : p.tables.exec = Jvm.exec) (hd : decode c.code pc = .ok (.ineg, 1)) (hz : -x = z) (hp : pc + 1 = pc') : Goes p e below S G T (mkF m pc' Ls (.int z :: St)) := by
  subst hp; exact fun t q => k t (XS.ineg X.here hx rfl hd rfl (hz ▸ q))
theorem lneg {x : Int64} {z : Int64} (k : Goes p e below S G T (mkF m pc Ls (.long x :: St))) (X : Stand p l e R s m args below meth c T locs cells slots) (hx : p.tables.exec = Jvm.exec) (hd : decode c.code pc = .ok (.lneg, 1)) (hz : -x = z) (hp : pc + 1 = pc') : Goes p e below S G T (mkF m pc' Ls (.long z :: St)) := by
  subst hp; exact fun t q => k t (XS.lneg X.here hx rfl hd rfl (hz ▸ q))
theorem l2i {x : Int64} {z : Int32} (k : Goes p e below S G T (mkF m pc Ls (.long x :: St))) (X : Stand p l e R s m args below meth c T locs cells slots) (hx : p.tables.exec = Jvm.exec) (hd : decode c.code pc = .ok (.l2i, 1)) (hz : x.toInt32 = z) (hp : pc + 1 = pc') : Goes p e below S G T (mkF m pc' Ls (.int z :: St)) := by
  subst hp; exact fun t q => k t (XS.l2i X.here hx rfl hd rfl (hz ▸ q))
theorem i2b {x : Int32} {z : Int32} (k : Goes p e below S G T (mkF m pc Ls (.int x :: St))) (X : Stand p l e R s m args below meth c T locs cells slots) (hx : p.tables.exec = Jvm.exec) (hd : decode c.code pc = .ok (.i2b, 1)) (hz : x.toInt8.toInt32 = z) (hp : pc + 1 = pc') : Goes p e below S G T (mkF m pc' Ls (.int z :: St)) := by
  subst hp; exact fun t q => k t (XS.i2b X.here hx rfl hd rfl (hz ▸ q))
theorem i2c {x : Int32} {z : Int32} (k : Goes p e below S G T (mkF m pc Ls (.int x :: St))) (X : Stand p l e R s m args below meth c T locs cells slots) (hx : p.tables.exec = Jvm.exec) (hd : decode c.code pc = .ok (.i2c, 1)) (hz : x.toUInt32.toUInt16.toUInt32.toInt32 = z) (hp : pc + 1 = pc') : Goes p e below S G T (mkF m pc' Ls (.int z :: St)) := by
  subst hp; exact fun t q => k t (XS.i2c X.here hx rfl hd rfl (hz ▸ q))
theorem ishl {x y z : Int32} (k : Goes p e below S G T (mkF m pc Ls (.int y :: .int x :: St))) (X : Stand p l e R s m args below meth c T locs cells slots) (hx : p.tables.exec = Jvm.exec) (hd : decode c.code pc = .ok (.ishl, 1)) (hz : x <<< (y &&& 31) = z) (hp : pc + 1 = pc') : Goes p e below S G T (mkF m pc' Ls (.int z :: St)) := by
  subst hp; exact fun t q => k t (XS.ishl X.here hx rfl hd rfl (hz ▸ q))
theorem ishr {x y z : Int32} (k : Goes p e below S G T (mkF m pc Ls (.int y :: .int x :: St))) (X : Stand p l e R s m args below meth c T locs cells slots) (hx : p.tables.exec = Jvm.exec) (hd : decode c.code pc = .ok (.ishr, 1)) (hz : x >>> (y &&& 31) = z) (hp : pc + 1 = pc') : Goes p e below S G T (mkF m pc' Ls (.int z :: St)) := by
  subst hp; exact fun t q => k t (XS.ishr X.here hx rfl hd rfl (hz ▸ q))
theorem iushr {x y z : Int32} (k : Goes p e below S G T (mkF m pc Ls (.int y :: .int x :: St))) (X : Stand p l e R s m args below meth c T locs cells slots) (hx : p.tables.exec = Jvm.exec) (hd : decode c.code pc = .ok (.iushr, 1)) (hz : (x.toUInt32 >>> (y &&& 31).toUInt32).toInt32 = z) (hp : pc + 1 = pc') : Goes p e below S G T (mkF m pc' Ls (.int z :: St)) := by
  subst hp; exact fun t q => k t (XS.iushr X.here hx rfl hd rfl (hz ▸ q))
theorem idiv {x y z : Int32} (k : Goes p e below S G T (mkF m pc Ls (.int y :: .int x :: St))) (X : Stand p l e R s m args below meth c T locs cells slots) (hx : p.tables.exec = Jvm.exec) (hd : decode c.code pc = .ok (.idiv, 1)) (hy : y ≠ 0) (hz : x / y = z) (hp : pc + 1 = pc') : Goes p e below S G T (mkF m pc' Ls (.int z :: St)) := by
  subst hp; exact fun t q => k t (XS.idiv X.here hx rfl hd rfl hy (hz ▸ q))
theorem ldiv {x y z : Int64} (k : Goes p e below S G T (mkF m pc Ls (.long y :: .long x :: St))) (X : Stand p l e R s m args below meth c T locs cells slots) (hx : p.tables.exec = Jvm.exec) (hd : decode c.code pc = .ok (.ldiv, 1)) (hy : y ≠ 0) (hz : x / y = z) (hp : pc + 1 = pc') : Goes p e below S G T (mkF m pc' Ls (.long z :: St)) := by
  subst hp; exact fun t q => k t (XS.ldiv X.here hx rfl hd rfl hy (hz ▸ q))
theorem lrem {x y z : Int64} (k : Goes p e below S G T (mkF m pc Ls (.long y :: .long x :: St))) (X : Stand p l e R s m args below meth c T locs cells slots) (hx : p.tables.exec = Jvm.exec) (hd : decode c.code pc = .ok (.lrem, 1)) (hy : y ≠ 0) (hz : x % y = z) (hp : pc + 1 = pc') : Goes p e below S G T (mkF m pc' Ls (.long z :: St)) := by
  subst hp; exact fun t q => k t (XS.lrem X.here hx rfl hd rfl hy (by rw [lrem_mod]; exact hz ▸ q))
theorem lcmp {x y : Int64} (k : Goes p e below S G T (mkF m pc Ls (.long y :: .long x :: St))) (X : Stand p l e R s m args below meth c T locs cells slots) (hx : p.tables.exec = Jvm.exec) (hd : decode c.code pc = .ok (.lcmp, 1)) (hp : pc + 1 = pc') : Goes p e below S G T (mkF m pc' Ls (.int (lcmpW x y) :: St)) := by
  subst hp; exact fun t q => k t (XS.lcmp X.here hx rfl hd rfl q)
theorem iinc {i : Nat} {cst : Int} {x z : Int32} {Ls' : Array Slot} (k : Goes p e below S G T (mkF m pc Ls St)) (X : Stand p l e R s m args below meth c T locs cells slots) (hx : p.tables.exec = Jvm.exec) (hd : decode c.code pc = .ok (.iinc i cst, 3)) (hl : Ls[i]? = some (.val (.int x))) (hz : x + Int32.ofInt cst = z) (hl' : storeLocals Ls i (.int z) = some Ls') (hp : pc + 3 = pc') : Goes p e below S G T (mkF m pc' Ls' St) := by
  subst hp; exact fun t q => k t (XS.iinc X.here hx rfl hd hl (hz ▸ hl') q)
theorem dup {v : Value} (k : Goes p e below S G T (mkF m pc Ls (v :: St))) (X : Stand p l e R s m args below meth c T locs cells slots) (hx : p.tables.exec = Jvm.exec) (hd : decode c.code pc = .ok (.dup, 1)) (hc : v.category = 1) (hp : pc + 1 = pc') : Goes p e below S G T (mkF m pc' Ls (v :: v :: St)) := by
  subst hp; exact fun t q => k t (XS.dup X.here hx rfl hd rfl hc q)
theorem pop {v : Value} (k : Goes p e below S G T (mkF m pc Ls (v :: St))) (X : Stand p l e R s m args below meth c T locs cells slots) (hx : p.tables.exec = Jvm.exec) (hd : decode c.code pc = .ok (.pop, 1)) (hc : v.category = 1) (hp : pc + 1 = pc') : Goes p e below S G T (mkF m pc' Ls St) := by
  subst hp; exact fun t q => k t (XS.pop X.here hx rfl hd rfl hc q)
theorem goto {o : Int} (k : Goes p e below S G T (mkF m pc Ls St)) (X : Stand p l e R s m args below meth c T locs cells slots) (hx : p.tables.exec = Jvm.exec) (hd : decode c.code pc = .ok (.goto o, 3)) (ho : 0 ≤ (pc : Int) + o) (hp : ((pc : Int) + o).toNat = pc') : Goes p e below S G T (mkF m pc' Ls St) := fun t q => k t (XS.goto X.here hx rfl rfl hd ho hp q)
theorem ifYes {o : Int} {cd : ClassFile.Cond} {x : Int32} (k : Goes p e below S G T (mkF m pc Ls (.int x :: St))) (X : Stand p l e R s m args below meth c T locs cells slots) (hx : p.tables.exec = Jvm.exec) (hd : decode c.code pc = .ok (.ifCond cd o, 3)) (hc : ifCond.holds cd x = true) (ho : 0 ≤ (pc : Int) + o) (hp : ((pc : Int) + o).toNat = pc') : Goes p e below S G T (mkF m pc' Ls St) := fun t q => k t (XS.ifYes X.here hx rfl rfl hd rfl hc ho hp q)
theorem ifNo {o : Int} {cd : ClassFile.Cond} {x : Int32} (k : Goes p e below S G T (mkF m pc Ls (.int x :: St))) (X : Stand p l e R s m args below meth c T locs cells slots) (hx : p.tables.exec = Jvm.exec) (hd : decode c.code pc = .ok (.ifCond cd o, 3)) (hc : ifCond.holds cd x = false) (hp : pc + 3 = pc') : Goes p e below S G T (mkF m pc' Ls St) := fun t q => k t (XS.ifNo X.here hx rfl hd rfl hc (by subst hp; exact q))
theorem icmpYes {o : Int} {cd : ClassFile.Cond} {x y : Int32} (k : Goes p e below S G T (mkF m pc Ls (.int y :: .int x :: St))) (X : Stand p l e R s m args below meth c T locs cells slots) (hx : p.tables.exec = Jvm.exec) (hd : decode c.code pc = .ok (.if_icmp cd o, 3)) (hc : if_icmp.holds cd x y = true) (ho : 0 ≤ (pc : Int) + o) (hp : ((pc : Int) + o).toNat = pc') : Goes p e below S G T (mkF m pc' Ls St) := fun t q => k t (XS.icmpYes X.here hx rfl rfl hd rfl hc ho hp q)
theorem icmpNo {o : Int} {cd : ClassFile.Cond} {x y : Int32} (k : Goes p e below S G T (mkF m pc Ls (.int y :: .int x :: St))) (X : Stand p l e R s m args below meth c T locs cells slots) (hx : p.tables.exec = Jvm.exec) (hd : decode c.code pc = .ok (.if_icmp cd o, 3)) (hc : if_icmp.holds cd x y = false) (hp : pc + 3 = pc') : Goes p e below S G T (mkF m pc' Ls St) := fun t q => k t (XS.icmpNo X.here hx rfl hd rfl hc (by subst hp; exact q))
theorem ifnonnullYes {o : Int} {b : Addr} (k : Goes p e below S G T (mkF m pc Ls (.ref b :: St))) (X : Stand p l e R s m args below meth c T locs cells slots) (hx : p.tables.exec = Jvm.exec) (hd : decode c.code pc = .ok (.ifnonnull o, 3)) (ho : 0 ≤ (pc : Int) + o) (hp : ((pc : Int) + o).toNat = pc') : Goes p e below S G T (mkF m pc' Ls St) := fun t q => k t (XS.ifnonnullYes X.here hx rfl rfl hd rfl ho hp q)
end Jvm.Own.Fw
namespace Jvm.Own
open Sem ClassFile Op Lib Jvm.Stand Jvm.Free Jvm.LawKit Jvm.RoadKit
theorem allC {α : Type} {P : α → Prop} {y : α} {L : List α} (q : P y) (r : ∀ x ∈ L, P x) : ∀ x ∈ y :: L, P x := fun x z => (List.mem_cons.mp z).elim (fun u => u ▸ q) (r x)
theorem allN {α : Type} {P : α → Prop} : ∀ x ∈ ([] : List α), P x := fun _ q => nomatch q
def updv (f : Nat → Value) (i : Nat) (v : Value) : Nat → Value := fun j => if j = i then v else f j
theorem fits_default (ty : FieldType) : fits ty (defaultValue ty) = true := by cases ty <;> first | rfl | decide
theorem clampNat (j : Int32) : j.toNatClampNeg = j.toInt.toNat := rfl
theorem own_nnBi2b (x : Int32) : nar .byte (x.toInt8.toInt32) = x.toInt8.toInt32 := by show x.toInt8.toInt32.toInt8.toInt32 = _; simp
theorem own_nnCi2c (x : Int32) : nar .char (x.toUInt32.toUInt16.toUInt32.toInt32) = x.toUInt32.toUInt16.toUInt32.toInt32 := by
  show x.toUInt32.toUInt16.toUInt32.toInt32.toUInt32.toUInt16.toUInt32.toInt32 = _
  generalize x.toUInt32.toUInt16 = u
  simp
theorem own_fitBi2b (x : Int32) : fits .byte (.int (x.toInt8.toInt32)) = true := fits_nar_byte x
end Jvm.Own
namespace Jvm.Own
open Jvm.RoadKit
/-! facts on int terms, for omega: each of the term's equation -/
section Ar
variable {v a b m q : Int32} {w x y : Int64}
theorem e_iadd (e : v = a + b) : (v.toInt - (a.toInt + b.toInt)) % 4294967296 = 0 ∧ -2147483648 ≤ v.toInt ∧ v.toInt < 2147483648 := by subst e; exact ⟨c_iadd _ _, rng32 _⟩
theorem e_isub (e : v = a - b) : (v.toInt - (a.toInt - b.toInt)) % 4294967296 = 0 ∧ -2147483648 ≤ v.toInt ∧ v.toInt < 2147483648 := by subst e; exact ⟨c_isub _ _, rng32 _⟩
theorem e_ineg (e : v = -a) : (v.toInt - (-a.toInt)) % 4294967296 = 0 ∧ -2147483648 ≤ v.toInt ∧ v.toInt < 2147483648 := by subst e; exact ⟨c_ineg _, rng32 _⟩
theorem e_imul (e : v = a * b) (n : Int) (h : b.toInt = n := by decide) : (v.toInt - a.toInt * n) % 4294967296 = 0 ∧ -2147483648 ≤ v.toInt ∧ v.toInt < 2147483648 := by subst e h; exact ⟨c_imul _ _, rng32 _⟩
theorem e_lsub (e : w = x - y) : (w.toInt - (x.toInt - y.toInt)) % 18446744073709551616 = 0 ∧ -9223372036854775808 ≤ w.toInt ∧ w.toInt < 9223372036854775808 := by subst e; exact ⟨c_lsub _ _, rng64 _⟩
theorem e_lneg (e : w = -x) : (w.toInt - (-x.toInt)) % 18446744073709551616 = 0 ∧ -9223372036854775808 ≤ w.toInt ∧ w.toInt < 9223372036854775808 := by subst e; exact ⟨c_lneg _, rng64 _⟩
theorem e_lmul (e : w = x * y) (n : Int) (h : y.toInt = n := by decide) : (w.toInt - x.toInt * n) % 18446744073709551616 = 0 ∧ -9223372036854775808 ≤ w.toInt ∧ w.toInt < 9223372036854775808 := by subst e h; exact ⟨c_lmul _ _, rng64 _⟩
theorem e_mask (e : v = a &&& m) (k : Nat) (n : Int) (h : k ≤ 31 ∧ m.toBitVec.toNat = 2 ^ k - 1 ∧ ((2 ^ k : Nat) : Int) = n := by decide) : v.toInt = a.toInt % n := by obtain ⟨h1, h2, rfl⟩ := h; subst e; exact c_mask _ _ k h1 h2
theorem e_ishr (e : v = a >>> (q &&& 31)) (k : Nat) (n : Int) (h : q.toBitVec.toNat % 32 = k ∧ ((2 ^ k : Nat) : Int) = n := by decide) : v.toInt = a.toInt / n := by obtain ⟨h1, rfl⟩ := h; subst e; exact c_ishr _ _ k h1
theorem e_ishl (e : v = a <<< (q &&& 31)) (k : Nat) (n : Int) (h : q.toBitVec.toNat % 32 = k ∧ ((2 ^ k : Nat) : Int) = n := by decide) : (v.toInt - a.toInt * n) % 4294967296 = 0 ∧ -2147483648 ≤ v.toInt ∧ v.toInt < 2147483648 := by obtain ⟨h1, rfl⟩ := h; subst e; exact ⟨c_ishl _ _ k h1, rng32 _⟩
theorem e_iushr (e : v = (a.toUInt32 >>> (q &&& 31).toUInt32).toInt32) (k : Nat) (n : Int) (h : q.toBitVec.toNat % 32 = k ∧ 0 < k ∧ ((2 ^ k : Nat) : Int) = n := by decide) : v.toInt = (a.toInt % 4294967296) / n := by obtain ⟨h1, h0, rfl⟩ := h; subst e; exact c_iushr _ _ k h1 h0
theorem e_l2i (e : v = x.toInt32) : (v.toInt - x.toInt) % 4294967296 = 0 ∧ -2147483648 ≤ v.toInt ∧ v.toInt < 2147483648 := by subst e; exact ⟨c_l2i _, rng32 _⟩
theorem e_i2b (e : v = a.toInt8.toInt32) : (v.toInt - a.toInt) % 256 = 0 ∧ -128 ≤ v.toInt ∧ v.toInt < 128 := by subst e; exact c_i2b _
theorem e_i2c (e : v = a.toUInt32.toUInt16.toUInt32.toInt32) : (v.toInt - a.toInt) % 65536 = 0 ∧ 0 ≤ v.toInt ∧ v.toInt < 65536 := by subst e; exact c_i2c _
theorem e_idiv (e : v = a / b) (n : Int) (h : b.toInt = n ∧ b ≠ -1 := by decide) : (0 ≤ a.toInt → v.toInt = a.toInt / n) ∧ (a.toInt < 0 → v.toInt = -((-a.toInt) / n)) := by subst e; exact c_idiv _ _ n h.1 h.2
theorem e_ldiv (e : w = x / y) (n : Int) (h : y.toInt = n ∧ y ≠ -1 := by decide) : (0 ≤ x.toInt → w.toInt = x.toInt / n) ∧ (x.toInt < 0 → w.toInt = -((-x.toInt) / n)) := by subst e; exact c_ldiv _ _ n h.1 h.2
theorem e_lrem (e : w = x % y) (n : Int) (h : y.toInt = n := by decide) : (0 ≤ x.toInt → w.toInt = x.toInt % n) ∧ (x.toInt < 0 → w.toInt = -((-x.toInt) % n)) := by subst e h; rw [Int64.toInt_mod]; exact tr _ _
theorem e_lat (e : v = (a.toInt8.toInt32 &&& 255).toUInt32.toUInt16.toUInt32.toInt32) : 0 ≤ a.toInt → a.toInt < 256 → v.toInt = a.toInt := by
  intro q1 q2
  subst e
  have c1 := c_i2b a
  have c2 := e_mask (v := a.toInt8.toInt32 &&& 255) rfl 8 256
  have c3 := c_i2c (a.toInt8.toInt32 &&& 255)
  omega
theorem e_iaddN (e : v = a + b) (h : -2147483648 ≤ a.toInt + b.toInt ∧ a.toInt + b.toInt < 2147483648) : v.toInt = a.toInt + b.toInt := by have := e_iadd e; omega
theorem e_isubN (e : v = a - b) (h : -2147483648 ≤ a.toInt - b.toInt ∧ a.toInt - b.toInt < 2147483648) : v.toInt = a.toInt - b.toInt := by have := e_isub e; omega
theorem e_ishlN (e : v = a <<< (q &&& 31)) (k : Nat) (n : Int) (h' : -2147483648 ≤ a.toInt * n ∧ a.toInt * n < 2147483648) (h : q.toBitVec.toNat % 32 = k ∧ ((2 ^ k : Nat) : Int) = n := by decide) : v.toInt = a.toInt * n := by
  have q := e_ishl e k n h
  generalize a.toInt * n = z at *
  omega
theorem e_inegN (e : v = -a) (h : -2147483648 < a.toInt) : v.toInt = -a.toInt := by have := e_ineg e; have := rng32 a; omega
theorem e_imulN (e : v = a * b) (n : Int) (h' : -2147483648 ≤ a.toInt * n ∧ a.toInt * n < 2147483648) (h : b.toInt = n := by decide) : v.toInt = a.toInt * n := by
  have q := e_imul e n h
  generalize a.toInt * n = z at *
  omega
theorem e_idivM (e : v = a / b) (n : Int) (q : a.toInt ≤ 0) (h : b.toInt = n ∧ b ≠ -1 := by decide) : v.toInt = -((-a.toInt) / n) := by
  have := e_idiv e n h
  rcases Int.lt_or_eq_of_le q with q | q
  · exact this.2 q
  · rw [this.1 (by omega), q]; simp
theorem e_i2bN (e : v = a.toInt8.toInt32) (q : -128 ≤ a.toInt ∧ a.toInt < 128) : v.toInt = a.toInt := by have := e_i2b e; omega
theorem e_i2cN (e : v = a.toUInt32.toUInt16.toUInt32.toInt32) (q : 0 ≤ a.toInt ∧ a.toInt < 65536) : v.toInt = a.toInt := by have := e_i2c e; omega
theorem i_lt {a b : Int32} (h : a < b) : a.toInt < b.toInt := Int32.lt_iff_toInt_lt.mp h
theorem i_nlt {a b : Int32} (h : ¬ a < b) : ¬ a.toInt < b.toInt := fun q => h (Int32.lt_iff_toInt_lt.mpr q)
theorem i_neq {a b : Int32} (h : ¬ a = b) : ¬ a.toInt = b.toInt := fun q => h (Int32.toInt_inj.mp q)
theorem j_lt {a b : Int64} (h : a < b) : a.toInt < b.toInt := Int64.lt_iff_toInt_lt.mp h
theorem j_nlt {a b : Int64} (h : ¬ a < b) : ¬ a.toInt < b.toInt := fun q => h (Int64.lt_iff_toInt_lt.mpr q)
theorem o_lt {a b : Int32} (h : a.toInt < b.toInt) : a < b := Int32.lt_iff_toInt_lt.mpr h
theorem o_nlt {a b : Int32} (h : ¬ a.toInt < b.toInt) : ¬ a < b := fun q => h (Int32.lt_iff_toInt_lt.mp q)
theorem o_eq {a b : Int32} (h : a.toInt = b.toInt) : a = b := Int32.toInt_inj.mp h
theorem o_neq {a b : Int32} (h : ¬ a.toInt = b.toInt) : ¬ a = b := fun q => h (congrArg Int32.toInt q)
theorem u_lt {a b : Int64} (h : a.toInt < b.toInt) : a < b := Int64.lt_iff_toInt_lt.mpr h
theorem u_nlt {a b : Int64} (h : ¬ a.toInt < b.toInt) : ¬ a < b := fun q => h (Int64.lt_iff_toInt_lt.mp q)
end Ar
end Jvm.Own
namespace Jvm.Own
open Sem ClassFile Op Lib Bundle Jvm.Stand Jvm.Free Jvm.LawKit Jvm.RoadKit
abbrev Dc (B : ByteArray) (pc : Nat) (i : Instr) (len pc' : Nat) : Prop := decode B pc = .ok (i, len) ∧ pc + len = pc'
abbrev Dj (B : ByteArray) (pc : Nat) (i : Instr) (o : Int) (pc' pc'' : Nat) : Prop := decode B pc = .ok (i, 3) ∧ pc + 3 = pc' ∧ 0 ≤ (pc : Int) + o ∧ ((pc : Int) + o).toNat = pc''
def Md (md : Bool) (EL : List (String × Nat)) (s Z : State) (a0 : Array Value) (h0 : Heap) (vm : Vm) (h : Heap) : Prop :=
  (md = false ∧ vm = s.vm) ∨ (md = true ∧ EW Z a0 EL ∧ (∃ k0, s.Since vm k0 ∧ k0 ≤ h.size) ∧ CHr Z EL s.vm h0 vm h)
def Wk (md : Bool) (EL : List (String × Nat)) (p : Program) (l : Launch) (e : Env) (R : Room) (s : State) (m : MethodId) (args : Array Value) (below : List Frame) (meth : Method) (c : Code) (S : State) (G : JFrame) (own : String) (B : ByteArray) (ml : Nat) (mn : String) (rt : Option FieldType) (Z : State) (a0 : Array Value) (n0 : Nat) (h0 : Heap) (vm : Vm) (h : Heap) (cells slots pc : Nat) (Ls : Array Slot) (St : List Value) : Prop :=
  (p.tables.exec = Jvm.exec ∧ c.code = B ∧ c.maxLocals = ml ∧ meth.name = mn ∧ meth.sig.returnType = rt ∧ meth.locks = false) ∧ Z.Warmed39 vm ∧ vm.findClass own = some m.cls ∧ Old Z n0 h ∧ h0.size ≤ h.size ∧ Md md EL s Z a0 h0 vm h ∧
    ∃ T locs, Stand p l e R (s.setVm vm) m args below meth c T locs cells slots ∧ T.heap = h ∧ Fr n0 locs ∧ Goes p e below S G T (mkF m pc Ls St)
section Wk
variable {md : Bool} {EL : List (String × Nat)} {p : Program} {l : Launch} {e : Env} {R : Room} {s : State} {m : MethodId} {args : Array Value} {below : List Frame} {meth : Method} {c : Code} {S : State} {G : JFrame} {own : String} {B : ByteArray} {ml : Nat} {mn : String} {rt : Option FieldType} {Z : State} {a0 : Array Value} {n0 : Nat} {h0 : Heap} {vm : Vm} {h h' : Heap} {cells slots pc pc' : Nat} {Ls Ls' : Array Slot} {St St' : List Value}
theorem Md.keep {ws : List Addr} (M : Md md EL s Z a0 h0 vm h) (K : Keep h h' ws) (hs : md = false ∨ ∀ w ∈ ws, Safe Z EL vm h w) : Md md EL s Z a0 h0 vm h' := by
  rcases M with ⟨e, q⟩ | ⟨e, w, ⟨k0, q1, q2⟩, q3⟩
  · exact Or.inl ⟨e, q⟩
  · rcases hs with hs | hs
    · rw [hs] at e; cases e
    · exact Or.inr ⟨e, w, ⟨k0, q1, Nat.le_trans q2 K.1⟩, q3.trans (CHr.keep K hs q3.1)⟩
theorem Wk.old (k : Wk md EL p l e R s m args below meth c S G own B ml mn rt Z a0 n0 h0 vm h cells slots pc Ls St) : Old Z n0 h := k.2.2.2.1
theorem Wk.sz (k : Wk md EL p l e R s m args below meth c S G own B ml mn rt Z a0 n0 h0 vm h cells slots pc Ls St) : h0.size ≤ h.size := k.2.2.2.2.1
theorem Wk.n0le (k : Wk md EL p l e R s m args below meth c S G own B ml mn rt Z a0 n0 h0 vm h cells slots pc Ls St) : n0 ≤ h.size := k.old.1 ▸ k.old.2.1
theorem Wk.al (k : Wk md EL p l e R s m args below meth c S G own B ml mn rt Z a0 n0 h0 vm h cells slots pc Ls St) : Z.vm.Alike vm := k.2.1.alike
theorem Wk.chv (k : Wk true EL p l e R s m args below meth c S G own B ml mn rt Z a0 n0 h0 vm h cells slots pc Ls St) : CHv Z EL vm h := by
  rcases k.2.2.2.2.2.1 with ⟨q, -⟩ | ⟨-, -, -, q⟩
  · cases q
  · exact q.1
theorem Wk.plain (k : Wk md EL p l e R s m args below meth c S G own B ml mn rt Z a0 n0 h0 vm h cells slots pc Ls St)
    (f : ∀ {s' T locs}, Stand p l e R s' m args below meth c T locs cells slots → p.tables.exec = Jvm.exec → c.code = B → Goes p e below S G T (mkF m pc Ls St) → Goes p e below S G T (mkF m pc' Ls' St')) :
    Wk md EL p l e R s m args below meth c S G own B ml mn rt Z a0 n0 h0 vm h cells slots pc' Ls' St' := by
  obtain ⟨q1, q2, q3, q4, q5, q6, T, locs, X, eT, N, g⟩ := k
  exact ⟨q1, q2, q3, q4, q5, q6, T, locs, X, eT, N, f X q1.1 q1.2.1 g⟩
theorem Wk.same (k : Wk md EL p l e R s m args below meth c S G own B ml mn rt Z a0 n0 h0 vm h cells slots pc Ls St)
    (f : ∀ {s' : State} {T locs}, Stand p l e R s' m args below meth c T locs cells slots → p.tables.exec = Jvm.exec → c.code = B → c.maxLocals = ml → Z.Warmed39 s'.vm → s'.vm.findClass own = some m.cls → T.heap = h →
      ∃ T', Stand p l e R s' m args below meth c T' locs cells slots ∧ T'.heap = h ∧ ∀ target, Steps p.tables e below (T'.setTop (mkF m pc' Ls' St')) target → Steps p.tables e below (T.setTop (mkF m pc Ls St)) target) :
    Wk md EL p l e R s m args below meth c S G own B ml mn rt Z a0 n0 h0 vm h cells slots pc' Ls' St' := by
  obtain ⟨q1, q2, q3, q4, q5, q6, T, locs, X, eT, N, g⟩ := k
  obtain ⟨T', X', eT', st⟩ := f X q1.1 q1.2.1 q1.2.2.1 q2 q3 eT
  exact ⟨q1, q2, q3, q4, q5, q6, T', locs, X', eT', N, fun t q => g t (st t q)⟩
theorem Wk.grow {cells' slots' : Nat} (k : Wk md EL p l e R s m args below meth c S G own B ml mn rt Z a0 n0 h0 vm h cells slots pc Ls St) {P : Heap → Prop}
    (f : ∀ {s' : State} {T locs}, Stand p l e R s' m args below meth c T locs cells slots → p.tables.exec = Jvm.exec → c.code = B → Z.Warmed39 s'.vm → s'.vm.findClass own = some m.cls → T.heap = h →
      ∃ T' h', Stand p l e R s' m args below meth c T' locs cells' slots' ∧ T'.heap = h' ∧ Ext h h' ∧ P h' ∧ ∀ target, Steps p.tables e below (T'.setTop (mkF m pc' Ls' St')) target → Steps p.tables e below (T.setTop (mkF m pc Ls St)) target) :
    ∃ h', Keep h h' [] ∧ P h' ∧ Wk md EL p l e R s m args below meth c S G own B ml mn rt Z a0 n0 h0 vm h' cells' slots' pc' Ls' St' := by
  obtain ⟨q1, q2, q3, q4, q5, q6, T, locs, X, eT, N, g⟩ := k
  obtain ⟨T', h', X', eT', E, hP, st⟩ := f X q1.1 q1.2.1 q2 q3 eT
  have K : Keep h h' [] := (Keep.refl h []).ext E
  exact ⟨h', K, hP, q1, q2, q3, q4.ext E, Nat.le_trans q5 E.1, q6.keep K (Or.inr fun _ z => nomatch z), T', locs, X', eT', N, fun t q => g t (st t q)⟩
theorem Wk.write {a : Addr} {sl : Nat} {v : Value} (k : Wk md EL p l e R s m args below meth c S G own B ml mn rt Z a0 n0 h0 vm h cells slots pc Ls St) (ha : n0 ≤ a) (hs : md = false ∨ Safe Z EL vm h a)
    (f : ∀ {s' : State} {T locs}, Stand p l e R s' m args below meth c T locs cells slots → p.tables.exec = Jvm.exec → c.code = B → meth.name = mn → Z.Warmed39 s'.vm → s'.vm.findClass own = some m.cls → T.heap = h →
      ∃ T' h', Stand p l e R s' m args below meth c T' (locs ++ [⟨a, sl⟩]) cells slots ∧ T'.heap = h' ∧ Wr h h' a sl v ∧ ∀ target, Steps p.tables e below (T'.setTop (mkF m pc' Ls' St')) target → Steps p.tables e below (T.setTop (mkF m pc Ls St)) target) :
    ∃ h', Wr h h' a sl v ∧ Wk md EL p l e R s m args below meth c S G own B ml mn rt Z a0 n0 h0 vm h' cells slots pc' Ls' St' := by
  obtain ⟨q1, q2, q3, q4, q5, q6, T, locs, X, eT, N, g⟩ := k
  obtain ⟨T', h', X', eT', W, st⟩ := f X q1.1 q1.2.1 q1.2.2.2.1 q2 q3 eT
  have K : Keep h h' [a] := Keep.of_wr W
  exact ⟨h', W, q1, q2, q3, q4.wr W ha, Nat.le_trans q5 K.1, q6.keep K (hs.imp id fun z w hw => by cases List.mem_singleton.mp hw; exact z), T', _, X', eT', Fr.snoc X' N ha, fun t q => g t (st t q)⟩
namespace Wk
theorem iloadN {i : Fin 4} {v : Int32} (k : Wk md EL p l e R s m args below meth c S G own B ml mn rt Z a0 n0 h0 vm h cells slots pc Ls St) (hd : Dc B pc (.iload_n i) 1 pc') (hl : Ls[i.val]? = some (.val (.int v))) : Wk md EL p l e R s m args below meth c S G own B ml mn rt Z a0 n0 h0 vm h cells slots pc' Ls (.int v :: St) :=
  k.plain fun X hx hb g => Fw.iloadN g X hx (by rw [hb]; exact hd.1) hl hd.2
theorem iload {i : Nat} {v : Int32} (k : Wk md EL p l e R s m args below meth c S G own B ml mn rt Z a0 n0 h0 vm h cells slots pc Ls St) (hd : Dc B pc (.iload i) 2 pc') (hl : Ls[i]? = some (.val (.int v))) : Wk md EL p l e R s m args below meth c S G own B ml mn rt Z a0 n0 h0 vm h cells slots pc' Ls (.int v :: St) :=
  k.plain fun X hx hb g => Fw.iload g X hx (by rw [hb]; exact hd.1) hl hd.2
theorem lloadN {i : Fin 4} {v : Int64} (k : Wk md EL p l e R s m args below meth c S G own B ml mn rt Z a0 n0 h0 vm h cells slots pc Ls St) (hd : Dc B pc (.lload_n i) 1 pc') (hl : Ls[i.val]? = some (.val (.long v))) : Wk md EL p l e R s m args below meth c S G own B ml mn rt Z a0 n0 h0 vm h cells slots pc' Ls (.long v :: St) :=
  k.plain fun X hx hb g => Fw.lloadN g X hx (by rw [hb]; exact hd.1) hl hd.2
theorem lload {i : Nat} {v : Int64} (k : Wk md EL p l e R s m args below meth c S G own B ml mn rt Z a0 n0 h0 vm h cells slots pc Ls St) (hd : Dc B pc (.lload i) 2 pc') (hl : Ls[i]? = some (.val (.long v))) : Wk md EL p l e R s m args below meth c S G own B ml mn rt Z a0 n0 h0 vm h cells slots pc' Ls (.long v :: St) :=
  k.plain fun X hx hb g => Fw.lload g X hx (by rw [hb]; exact hd.1) hl hd.2
theorem aloadN {i : Fin 4} {v : Value} (k : Wk md EL p l e R s m args below meth c S G own B ml mn rt Z a0 n0 h0 vm h cells slots pc Ls St) (hd : Dc B pc (.aload_n i) 1 pc') (hl : Ls[i.val]? = some (.val v)) (hv : v.isRef = true) : Wk md EL p l e R s m args below meth c S G own B ml mn rt Z a0 n0 h0 vm h cells slots pc' Ls (v :: St) :=
  k.plain fun X hx hb g => Fw.aloadN g X hx (by rw [hb]; exact hd.1) hl hv hd.2
theorem aload {i : Nat} {v : Value} (k : Wk md EL p l e R s m args below meth c S G own B ml mn rt Z a0 n0 h0 vm h cells slots pc Ls St) (hd : Dc B pc (.aload i) 2 pc') (hl : Ls[i]? = some (.val v)) (hv : v.isRef = true) : Wk md EL p l e R s m args below meth c S G own B ml mn rt Z a0 n0 h0 vm h cells slots pc' Ls (v :: St) :=
  k.plain fun X hx hb g => Fw.aload g X hx (by rw [hb]; exact hd.1) hl hv hd.2
theorem istoreN {i : Fin 4} {v : Int32} {Ls' : Array Slot} (k : Wk md EL p l e R s m args below meth c S G own B ml mn rt Z a0 n0 h0 vm h cells slots pc Ls (.int v :: St)) (hd : Dc B pc (.istore_n i) 1 pc') (hl : storeLocals Ls i.val (.int v) = some Ls') : Wk md EL p l e R s m args below meth c S G own B ml mn rt Z a0 n0 h0 vm h cells slots pc' Ls' St :=
  k.plain fun X hx hb g => Fw.istoreN g X hx (by rw [hb]; exact hd.1) hl hd.2
theorem istore {i : Nat} {v : Int32} {Ls' : Array Slot} (k : Wk md EL p l e R s m args below meth c S G own B ml mn rt Z a0 n0 h0 vm h cells slots pc Ls (.int v :: St)) (hd : Dc B pc (.istore i) 2 pc') (hl : storeLocals Ls i (.int v) = some Ls') : Wk md EL p l e R s m args below meth c S G own B ml mn rt Z a0 n0 h0 vm h cells slots pc' Ls' St :=
  k.plain fun X hx hb g => Fw.istore g X hx (by rw [hb]; exact hd.1) hl hd.2
theorem lstoreN {i : Fin 4} {v : Int64} {Ls' : Array Slot} (k : Wk md EL p l e R s m args below meth c S G own B ml mn rt Z a0 n0 h0 vm h cells slots pc Ls (.long v :: St)) (hd : Dc B pc (.lstore_n i) 1 pc') (hl : storeLocals Ls i.val (.long v) = some Ls') : Wk md EL p l e R s m args below meth c S G own B ml mn rt Z a0 n0 h0 vm h cells slots pc' Ls' St :=
  k.plain fun X hx hb g => Fw.lstoreN g X hx (by rw [hb]; exact hd.1) hl hd.2
theorem lstore {i : Nat} {v : Int64} {Ls' : Array Slot} (k : Wk md EL p l e R s m args below meth c S G own B ml mn rt Z a0 n0 h0 vm h cells slots pc Ls (.long v :: St)) (hd : Dc B pc (.lstore i) 2 pc') (hl : storeLocals Ls i (.long v) = some Ls') : Wk md EL p l e R s m args below meth c S G own B ml mn rt Z a0 n0 h0 vm h cells slots pc' Ls' St :=
  k.plain fun X hx hb g => Fw.lstore g X hx (by rw [hb]; exact hd.1) hl hd.2
theorem astoreN {i : Fin 4} {v : Value} {Ls' : Array Slot} (k : Wk md EL p l e R s m args below meth c S G own B ml mn rt Z a0 n0 h0 vm h cells slots pc Ls (v :: St)) (hd : Dc B pc (.astore_n i) 1 pc') (hv : v.isRef = true) (hl : storeLocals Ls i.val v = some Ls') : Wk md EL p l e R s m args below meth c S G own B ml mn rt Z a0 n0 h0 vm h cells slots pc' Ls' St :=
  k.plain fun X hx hb g => Fw.astoreN g X hx (by rw [hb]; exact hd.1) hv hl hd.2
theorem astore {i : Nat} {v : Value} {Ls' : Array Slot} (k : Wk md EL p l e R s m args below meth c S G own B ml mn rt Z a0 n0 h0 vm h cells slots pc Ls (v :: St)) (hd : Dc B pc (.astore i) 2 pc') (hv : v.isRef = true) (hl : storeLocals Ls i v = some Ls') : Wk md EL p l e R s m args below meth c S G own B ml mn rt Z a0 n0 h0 vm h cells slots pc' Ls' St :=
  k.plain fun X hx hb g => Fw.astore g X hx (by rw [hb]; exact hd.1) hv hl hd.2
theorem iconst {i : Int} (k : Wk md EL p l e R s m args below meth c S G own B ml mn rt Z a0 n0 h0 vm h cells slots pc Ls St) (hd : Dc B pc (.iconst i) 1 pc') (z : Int32) (hz : Int32.ofInt i = z := by decide) : Wk md EL p l e R s m args below meth c S G own B ml mn rt Z a0 n0 h0 vm h cells slots pc' Ls (.int z :: St) :=
  k.plain fun X hx hb g => Fw.iconst g X hx (by rw [hb]; exact hd.1) hz hd.2
theorem bipush {i : Int} (k : Wk md EL p l e R s m args below meth c S G own B ml mn rt Z a0 n0 h0 vm h cells slots pc Ls St) (hd : Dc B pc (.bipush i) 2 pc') (z : Int32) (hz : (Int8.ofInt i).toInt32 = z := by decide) : Wk md EL p l e R s m args below meth c S G own B ml mn rt Z a0 n0 h0 vm h cells slots pc' Ls (.int z :: St) :=
  k.plain fun X hx hb g => Fw.bipush g X hx (by rw [hb]; exact hd.1) hz hd.2
theorem sipush {i : Int} (k : Wk md EL p l e R s m args below meth c S G own B ml mn rt Z a0 n0 h0 vm h cells slots pc Ls St) (hd : Dc B pc (.sipush i) 3 pc') (z : Int32) (hz : (Int16.ofInt i).toInt32 = z := by decide) : Wk md EL p l e R s m args below meth c S G own B ml mn rt Z a0 n0 h0 vm h cells slots pc' Ls (.int z :: St) :=
  k.plain fun X hx hb g => Fw.sipush g X hx (by rw [hb]; exact hd.1) hz hd.2
theorem lconst {i : Fin 2} (k : Wk md EL p l e R s m args below meth c S G own B ml mn rt Z a0 n0 h0 vm h cells slots pc Ls St) (hd : Dc B pc (.lconst i) 1 pc') (z : Int64) (hz : Int64.ofNat i = z := by decide) : Wk md EL p l e R s m args below meth c S G own B ml mn rt Z a0 n0 h0 vm h cells slots pc' Ls (.long z :: St) :=
  k.plain fun X hx hb g => Fw.lconst g X hx (by rw [hb]; exact hd.1) hz hd.2
theorem aconstNull  (k : Wk md EL p l e R s m args below meth c S G own B ml mn rt Z a0 n0 h0 vm h cells slots pc Ls St) (hd : Dc B pc (.aconst_null) 1 pc') : Wk md EL p l e R s m args below meth c S G own B ml mn rt Z a0 n0 h0 vm h cells slots pc' Ls (.null :: St) :=
  k.plain fun X hx hb g => Fw.aconstNull g X hx (by rw [hb]; exact hd.1) hd.2
theorem iadd {x y z : Int32} (k : Wk md EL p l e R s m args below meth c S G own B ml mn rt Z a0 n0 h0 vm h cells slots pc Ls (.int y :: .int x :: St)) (hd : Dc B pc (.iadd) 1 pc') (hz : x + y = z := by decide) : Wk md EL p l e R s m args below meth c S G own B ml mn rt Z a0 n0 h0 vm h cells slots pc' Ls (.int z :: St) :=
  k.plain fun X hx hb g => Fw.iadd g X hx (by rw [hb]; exact hd.1) hz hd.2
theorem isub {x y z : Int32} (k : Wk md EL p l e R s m args below meth c S G own B ml mn rt Z a0 n0 h0 vm h cells slots pc Ls (.int y :: .int x :: St)) (hd : Dc B pc (.isub) 1 pc') (hz : x - y = z := by decide) : Wk md EL p l e R s m args below meth c S G own B ml mn rt Z a0 n0 h0 vm h cells slots pc' Ls (.int z :: St) :=
  k.plain fun X hx hb g => Fw.isub g X hx (by rw [hb]; exact hd.1) hz hd.2
theorem lsub {x y z : Int64} (k : Wk md EL p l e R s m args below meth c S G own B ml mn rt Z a0 n0 h0 vm h cells slots pc Ls (.long y :: .long x :: St)) (hd : Dc B pc (.lsub) 1 pc') (hz : x - y = z := by decide) : Wk md EL p l e R s m args below meth c S G own B ml mn rt Z a0 n0 h0 vm h cells slots pc' Ls (.long z :: St) :=
  k.plain fun X hx hb g => Fw.lsub g X hx (by rw [hb]; exact hd.1) hz hd.2
theorem imul {x y z : Int32} (k : Wk md EL p l e R s m args below meth c S G own B ml mn rt Z a0 n0 h0 vm h cells slots pc Ls (.int y :: .int x :: St)) (hd : Dc B pc (.imul) 1 pc') (hz : x * y = z := by decide) : Wk md EL p l e R s m args below meth c S G own B ml mn rt Z a0 n0 h0 vm h cells slots pc' Ls (.int z :: St) :=
  k.plain fun X hx hb g => Fw.imul g X hx (by rw [hb]; exact hd.1) hz hd.2
theorem lmul {x y z : Int64} (k : Wk md EL p l e R s m args below meth c S G own B ml mn rt Z a0 n0 h0 vm h cells slots pc Ls (.long y :: .long x :: St)) (hd : Dc B pc (.lmul) 1 pc') (hz : x * y = z := by decide) : Wk md EL p l e R s m args below meth c S G own B ml mn rt Z a0 n0 h0 vm h cells slots pc' Ls (.long z :: St) :=
  k.plain fun X hx hb g => Fw.lmul g X hx (by rw [hb]; exact hd.1) hz hd.2
theorem iand {x y z : Int32} (k : Wk md EL p l e R s m args below meth c S G own B ml mn rt Z a0 n0 h0 vm h cells slots pc Ls (.int y :: .int x :: St)) (hd : Dc B pc (.iand) 1 pc') (hz : x &&& y = z := by decide) : Wk md EL p l e R s m args below meth c S G own B ml mn rt Z a0 n0 h0 vm h cells slots pc' Ls (.int z :: St) :=
  k.plain fun X hx hb g => Fw.iand g X hx (by rw [hb]; exact hd.1) hz hd.2
theorem ineg {x : Int32} {z : Int32} (k : Wk md EL p l e R s m args below meth c S G own B ml mn rt Z a0 n0 h0 vm h cells slots pc Ls (.int x :: St)) (hd : Dc B pc (.ineg) 1 pc') (hz : -x = z := by decide) : Wk md EL p l e R s m args below meth c S G own B ml mn rt Z a0 n0 h0 vm h cells slots pc' Ls (.int z :: St) :=
  k.plain fun X hx hb g => Fw.ineg g X hx (by rw [hb]; exact hd.1) hz hd.2
theorem lneg {x : Int64} {z : Int64} (k : Wk md EL p l e R s m args below meth c S G own B ml mn rt Z a0 n0 h0 vm h cells slots pc Ls (.long x :: St)) (hd : Dc B pc (.lneg) 1 pc') (hz : -x = z := by decide) : Wk md EL p l e R s m args below meth c S G own B ml mn rt Z a0 n0 h0 vm h cells slots pc' Ls (.long z :: St) :=
  k.plain fun X hx hb g => Fw.lneg g X hx (by rw [hb]; exact hd.1) hz hd.2
theorem l2i {x : Int64} {z : Int32} (k : Wk md EL p l e R s m args below meth c S G own B ml mn rt Z a0 n0 h0 vm h cells slots pc Ls (.long x :: St)) (hd : Dc B pc (.l2i) 1 pc') (hz : x.toInt32 = z := by decide) : Wk md EL p l e R s m args below meth c S G own B ml mn rt Z a0 n0 h0 vm h cells slots pc' Ls (.int z :: St) :=
  k.plain fun X hx hb g => Fw.l2i g X hx (by rw [hb]; exact hd.1) hz hd.2
theorem i2b {x : Int32} {z : Int32} (k : Wk md EL p l e R s m args below meth c S G own B ml mn rt Z a0 n0 h0 vm h cells slots pc Ls (.int x :: St)) (hd : Dc B pc (.i2b) 1 pc') (hz : x.toInt8.toInt32 = z := by decide) : Wk md EL p l e R s m args below meth c S G own B ml mn rt Z a0 n0 h0 vm h cells slots pc' Ls (.int z :: St) :=
  k.plain fun X hx hb g => Fw.i2b g X hx (by rw [hb]; exact hd.1) hz hd.2
theorem i2c {x : Int32} {z : Int32} (k : Wk md EL p l e R s m args below meth c S G own B ml mn rt Z a0 n0 h0 vm h cells slots pc Ls (.int x :: St)) (hd : Dc B pc (.i2c) 1 pc') (hz : x.toUInt32.toUInt16.toUInt32.toInt32 = z := by decide) : Wk md EL p l e R s m args below meth c S G own B ml mn rt Z a0 n0 h0 vm h cells slots pc' Ls (.int z :: St) :=
  k.plain fun X hx hb g => Fw.i2c g X hx (by rw [hb]; exact hd.1) hz hd.2
theorem ishl {x y z : Int32} (k : Wk md EL p l e R s m args below meth c S G own B ml mn rt Z a0 n0 h0 vm h cells slots pc Ls (.int y :: .int x :: St)) (hd : Dc B pc (.ishl) 1 pc') (hz : x <<< (y &&& 31) = z := by decide) : Wk md EL p l e R s m args below meth c S G own B ml mn rt Z a0 n0 h0 vm h cells slots pc' Ls (.int z :: St) :=
  k.plain fun X hx hb g => Fw.ishl g X hx (by rw [hb]; exact hd.1) hz hd.2
theorem ishr {x y z : Int32} (k : Wk md EL p l e R s m args below meth c S G own B ml mn rt Z a0 n0 h0 vm h cells slots pc Ls (.int y :: .int x :: St)) (hd : Dc B pc (.ishr) 1 pc') (hz : x >>> (y &&& 31) = z := by decide) : Wk md EL p l e R s m args below meth c S G own B ml mn rt Z a0 n0 h0 vm h cells slots pc' Ls (.int z :: St) :=
  k.plain fun X hx hb g => Fw.ishr g X hx (by rw [hb]; exact hd.1) hz hd.2
theorem iushr {x y z : Int32} (k : Wk md EL p l e R s m args below meth c S G own B ml mn rt Z a0 n0 h0 vm h cells slots pc Ls (.int y :: .int x :: St)) (hd : Dc B pc (.iushr) 1 pc') (hz : (x.toUInt32 >>> (y &&& 31).toUInt32).toInt32 = z := by decide) : Wk md EL p l e R s m args below meth c S G own B ml mn rt Z a0 n0 h0 vm h cells slots pc' Ls (.int z :: St) :=
  k.plain fun X hx hb g => Fw.iushr g X hx (by rw [hb]; exact hd.1) hz hd.2
theorem idiv {x y z : Int32} (k : Wk md EL p l e R s m args below meth c S G own B ml mn rt Z a0 n0 h0 vm h cells slots pc Ls (.int y :: .int x :: St)) (hd : Dc B pc (.idiv) 1 pc') (hy : y ≠ 0) (hz : x / y = z := by decide) : Wk md EL p l e R s m args below meth c S G own B ml mn rt Z a0 n0 h0 vm h cells slots pc' Ls (.int z :: St) :=
  k.plain fun X hx hb g => Fw.idiv g X hx (by rw [hb]; exact hd.1) hy hz hd.2
theorem ldiv {x y z : Int64} (k : Wk md EL p l e R s m args below meth c S G own B ml mn rt Z a0 n0 h0 vm h cells slots pc Ls (.long y :: .long x :: St)) (hd : Dc B pc (.ldiv) 1 pc') (hy : y ≠ 0) (hz : x / y = z := by decide) : Wk md EL p l e R s m args below meth c S G own B ml mn rt Z a0 n0 h0 vm h cells slots pc' Ls (.long z :: St) :=
  k.plain fun X hx hb g => Fw.ldiv g X hx (by rw [hb]; exact hd.1) hy hz hd.2
theorem lrem {x y z : Int64} (k : Wk md EL p l e R s m args below meth c S G own B ml mn rt Z a0 n0 h0 vm h cells slots pc Ls (.long y :: .long x :: St)) (hd : Dc B pc (.lrem) 1 pc') (hy : y ≠ 0) (hz : x % y = z := by decide) : Wk md EL p l e R s m args below meth c S G own B ml mn rt Z a0 n0 h0 vm h cells slots pc' Ls (.long z :: St) :=
  k.plain fun X hx hb g => Fw.lrem g X hx (by rw [hb]; exact hd.1) hy hz hd.2
theorem lcmp {x y : Int64} (k : Wk md EL p l e R s m args below meth c S G own B ml mn rt Z a0 n0 h0 vm h cells slots pc Ls (.long y :: .long x :: St)) (hd : Dc B pc (.lcmp) 1 pc') : Wk md EL p l e R s m args below meth c S G own B ml mn rt Z a0 n0 h0 vm h cells slots pc' Ls (.int (lcmpW x y) :: St) :=
  k.plain fun X hx hb g => Fw.lcmp g X hx (by rw [hb]; exact hd.1) hd.2
theorem iinc {i : Nat} {cst : Int} {x z : Int32} {Ls' : Array Slot} (k : Wk md EL p l e R s m args below meth c S G own B ml mn rt Z a0 n0 h0 vm h cells slots pc Ls St) (hd : Dc B pc (.iinc i cst) 3 pc') (hl : Ls[i]? = some (.val (.int x))) (hz : x + Int32.ofInt cst = z) (hl' : storeLocals Ls i (.int z) = some Ls') : Wk md EL p l e R s m args below meth c S G own B ml mn rt Z a0 n0 h0 vm h cells slots pc' Ls' St :=
  k.plain fun X hx hb g => Fw.iinc g X hx (by rw [hb]; exact hd.1) hl hz hl' hd.2
theorem dup {v : Value} (k : Wk md EL p l e R s m args below meth c S G own B ml mn rt Z a0 n0 h0 vm h cells slots pc Ls (v :: St)) (hd : Dc B pc (.dup) 1 pc') (hc : v.category = 1 := by decide) : Wk md EL p l e R s m args below meth c S G own B ml mn rt Z a0 n0 h0 vm h cells slots pc' Ls (v :: v :: St) :=
  k.plain fun X hx hb g => Fw.dup g X hx (by rw [hb]; exact hd.1) hc hd.2
theorem pop {v : Value} (k : Wk md EL p l e R s m args below meth c S G own B ml mn rt Z a0 n0 h0 vm h cells slots pc Ls (v :: St)) (hd : Dc B pc (.pop) 1 pc') (hc : v.category = 1 := by decide) : Wk md EL p l e R s m args below meth c S G own B ml mn rt Z a0 n0 h0 vm h cells slots pc' Ls St :=
  k.plain fun X hx hb g => Fw.pop g X hx (by rw [hb]; exact hd.1) hc hd.2
theorem goto {pc'' : Nat} {o : Int} (k : Wk md EL p l e R s m args below meth c S G own B ml mn rt Z a0 n0 h0 vm h cells slots pc Ls St) (hd : Dj B pc (.goto o) o pc' pc'') : Wk md EL p l e R s m args below meth c S G own B ml mn rt Z a0 n0 h0 vm h cells slots pc'' Ls St :=
  k.plain fun X hx hb g => Fw.goto g X hx (by rw [hb]; exact hd.1) hd.2.2.1 hd.2.2.2
theorem ifYes {pc'' : Nat} {o : Int} {cd : ClassFile.Cond} {x : Int32} (k : Wk md EL p l e R s m args below meth c S G own B ml mn rt Z a0 n0 h0 vm h cells slots pc Ls (.int x :: St)) (hd : Dj B pc (.ifCond cd o) o pc' pc'') (hc : ifCond.holds cd x = true := by decide) : Wk md EL p l e R s m args below meth c S G own B ml mn rt Z a0 n0 h0 vm h cells slots pc'' Ls St :=
  k.plain fun X hx hb g => Fw.ifYes g X hx (by rw [hb]; exact hd.1) hc hd.2.2.1 hd.2.2.2
theorem ifNo {pc'' : Nat} {o : Int} {cd : ClassFile.Cond} {x : Int32} (k : Wk md EL p l e R s m args below meth c S G own B ml mn rt Z a0 n0 h0 vm h cells slots pc Ls (.int x :: St)) (hd : Dj B pc (.ifCond cd o) o pc' pc'') (hc : ifCond.holds cd x = false := by decide) : Wk md EL p l e R s m args below meth c S G own B ml mn rt Z a0 n0 h0 vm h cells slots pc' Ls St :=
  k.plain fun X hx hb g => Fw.ifNo g X hx (by rw [hb]; exact hd.1) hc hd.2.1
theorem icmpYes {pc'' : Nat} {o : Int} {cd : ClassFile.Cond} {x y : Int32} (k : Wk md EL p l e R s m args below meth c S G own B ml mn rt Z a0 n0 h0 vm h cells slots pc Ls (.int y :: .int x :: St)) (hd : Dj B pc (.if_icmp cd o) o pc' pc'') (hc : if_icmp.holds cd x y = true := by decide) : Wk md EL p l e R s m args below meth c S G own B ml mn rt Z a0 n0 h0 vm h cells slots pc'' Ls St :=
  k.plain fun X hx hb g => Fw.icmpYes g X hx (by rw [hb]; exact hd.1) hc hd.2.2.1 hd.2.2.2
theorem icmpNo {pc'' : Nat} {o : Int} {cd : ClassFile.Cond} {x y : Int32} (k : Wk md EL p l e R s m args below meth c S G own B ml mn rt Z a0 n0 h0 vm h cells slots pc Ls (.int y :: .int x :: St)) (hd : Dj B pc (.if_icmp cd o) o pc' pc'') (hc : if_icmp.holds cd x y = false := by decide) : Wk md EL p l e R s m args below meth c S G own B ml mn rt Z a0 n0 h0 vm h cells slots pc' Ls St :=
  k.plain fun X hx hb g => Fw.icmpNo g X hx (by rw [hb]; exact hd.1) hc hd.2.1
theorem ifnonnullYes {pc'' : Nat} {o : Int} {b : Addr} (k : Wk md EL p l e R s m args below meth c S G own B ml mn rt Z a0 n0 h0 vm h cells slots pc Ls (.ref b :: St)) (hd : Dj B pc (.ifnonnull o) o pc' pc'') : Wk md EL p l e R s m args below meth c S G own B ml mn rt Z a0 n0 h0 vm h cells slots pc'' Ls St :=
  k.plain fun X hx hb g => Fw.ifnonnullYes g X hx (by rw [hb]; exact hd.1) hd.2.2.1 hd.2.2.2
end Wk
end Wk
/-! objects and arrays -/
section Objs
variable {Z : State} {h h' : Heap} {a b : Addr} {a0 : Array Value} {L : String × List (String × String × String × Value)} {vs vs' : List Value}
abbrev Lay : Type := String × List (String × String × String × Value)
def LOk (Z : State) (a0 : Array Value) (L : Lay) : Prop :=
  (∀ q ∈ L.2, Laid Z a0 L.1 q.1 q.2.1 q.2.2.1 ∧ ∃ t, parseFieldDescriptor q.2.2.1 = some t ∧ defaultValue t = q.2.2.2) ∧ (L.2.map fun q => q.2.1).Nodup
def Obj (Z : State) (h : Heap) (a : Addr) (L : Lay) (vs : List Value) : Prop :=
  Exa Z h a L.1 ∧ vs.length = L.2.length ∧ ∀ (i : Nat) (q : String × String × String × Value) (v : Value), L.2[i]? = some q → vs[i]? = some v → Fld Z h a q.1 q.2.1 q.2.2.1 v
theorem Obj.lt (O : Obj Z h a L vs) : a < h.size := O.1.lt
theorem Obj.exa (O : Obj Z h a L vs) : Exa Z h a L.1 := O.1
theorem Obj.keep {ws : List Addr} (O : Obj Z h a L vs) (W : Keep h h' ws) (n : a ∉ ws) : Obj Z h' a L vs := ⟨O.1.keep W, O.2.1, fun i q v q1 q2 => (O.2.2 i q v q1 q2).keep W n⟩
theorem Obj.ext (O : Obj Z h a L vs) (E : Ext h h') : Obj Z h' a L vs := ⟨O.1.ext E, O.2.1, fun i q v q1 q2 => (O.2.2 i q v q1 q2).ext E⟩
theorem Obj.at (O : Obj Z h a L vs) (i : Nat) {C f d : String} {v w : Value} (e : L.2[i]? = some (C, f, d, w)) (e' : vs[i]? = some v) : Fld Z h a C f d v := O.2.2 i _ v e e'
theorem Obj.put (O : Obj Z h a L vs) (K : LOk Z a0 L) (k : Nat) {C f d : String} {v w : Value} (e : L.2[k]? = some (C, f, d, w)) (W : Wr h h' a (Jvm.RoadKit.slotOf Z C f d) v) : Obj Z h' a L (vs.set k v) := by
  obtain ⟨O1, O2, O3⟩ := O
  refine ⟨O1.wr W, by rw [List.length_set]; exact O2, fun j q u hj hu => ?_⟩
  have hk : k < vs.length := by rw [O2]; exact (List.getElem?_eq_some_iff.mp e).1
  by_cases hne : k = j
  · subst hne
    cases hj.symm.trans e
    rw [List.getElem?_set_self hk] at hu
    cases hu
    exact (O3 k _ _ e (List.getElem?_eq_getElem hk)).same W
  · rw [List.getElem?_set_ne hne] at hu
    obtain ⟨l1, t1, ht1, -⟩ := K.1 _ (List.mem_of_getElem? hj)
    obtain ⟨l2, t2, ht2, -⟩ := K.1 _ (List.mem_of_getElem? e)
    refine (O3 j q u hj hu).other W (Or.inr (Jvm.RoadKit.slot_ne l1 l2 (fun heq => ?_) ht1 ht2))
    have e1 : (L.2.map fun q => q.2.1)[j]? = some q.2.1 := by simp [List.getElem?_map, hj]
    have e2 : (L.2.map fun q => q.2.1)[k]? = some f := by simp [List.getElem?_map, e]
    have hl1 := (List.getElem?_eq_some_iff.mp e1).1
    exact hne (((List.getElem?_inj hl1 K.2).mp (by rw [e1, e2, heq])).symm)
theorem Obj.new (K : LOk Z a0 L) (A : Exa Z h b L.1) (D : ∀ {O nm d : String} {ty : FieldType}, Laid Z a0 L.1 O nm d → parseFieldDescriptor d = some ty → Fld Z h b O nm d (defaultValue ty)) : Obj Z h b L (L.2.map fun q => q.2.2.2) := by
  refine ⟨A, by simp, fun i q v hq hv => ?_⟩
  obtain ⟨l1, t1, ht1, e1⟩ := K.1 _ (List.mem_of_getElem? hq)
  rw [List.getElem?_map, hq] at hv
  cases hv
  show Fld Z h b q.1 q.2.1 q.2.2.1 q.2.2.2
  rw [← e1]
  exact D l1 ht1
def FL (Z : State) (a0 : Array Value) (own : String) (index : Nat) (C f d : String) : Prop := ∃ R0 host, ((Cond.fieldLink own index R0 f d).before a0 Z = true ∨ (Cond.fieldLinkNest own index R0 f d host).before a0 Z = true) ∧ Via Z R0 C f d
def FP (Z : State) (a0 : Array Value) (own : String) (index : Nat) (C f d : String) : Prop := ∃ R0, (Cond.fieldLink own index R0 f d).before a0 Z = true ∧ Via Z R0 C f d
def PW (Z : State) (a0 : Array Value) (own mn : String) (L : Lay) (C f d : String) (ty : FieldType) : Prop :=
  LOk Z a0 L ∧ ((Cond.lays L.1 C f d).before a0 Z = true ∨ ((Cond.laysFinal L.1 C f d).before a0 Z = true ∧ own = C ∧ mn = "<init>")) ∧ (∃ kk, (Cond.instantiable L.1 kk).before a0 Z = true) ∧ parseFieldDescriptor d = some ty
def NW (Z : State) (a0 : Array Value) (L : Lay) (n : Nat) : Prop := LOk Z a0 L ∧ (Cond.instantiable L.1 n).before a0 Z = true ∧ (Cond.initialized L.1).before a0 Z = true
def OvT (Z : State) (ty : FieldType) (k : ClassId) : Prop := (∀ C, ty = .object C → Ovr Z k C) ∧ ∀ t, ty = .array t → OvrA Z k t (FieldType.array t).toString
theorem OvT.of_prim {ty : FieldType} {k : ClassId} (q : refKind ty = false) : OvT Z ty k := ⟨fun C e => (by subst e; cases q), fun t e => (by subst e; cases q)⟩
def Ary (Z : State) (h : Heap) (a : Addr) (T : String × FieldType) (n : Nat) (f : Nat → Value) : Prop :=
  (T.1 = "" ∨ Exa Z h a T.1) ∧ ∃ c : Cell, Arr Z h a c T.2 ∧ OvT Z T.2 c.cls ∧ c.slots.size = n ∧ n < 2147483648 ∧ (∀ i, i < n → c.slots[i]? = some (f i)) ∧ ∀ i, i < n → fits T.2 (f i) = true
variable {T : String × FieldType} {n : Nat} {f : Nat → Value}
theorem Ary.lt (A : Ary Z h a T n f) : a < h.size := by obtain ⟨-, c, q, -⟩ := A; exact (Array.getElem?_eq_some_iff.mp q.1).1
theorem Ary.exa (A : Ary Z h a T n f) (q : T.1 ≠ "") : Exa Z h a T.1 := A.1.resolve_left q
theorem Ary.keep {ws : List Addr} (A : Ary Z h a T n f) (W : Keep h h' ws) (q : a ∉ ws) : Ary Z h' a T n f := by
  obtain ⟨e, c, A1, r⟩ := A; exact ⟨e.imp id (·.keep W), c, ⟨W.2.1 a c A1.1 q, A1.2⟩, r⟩
theorem Ary.norm {g : Nat → Value} (A : Ary Z h a T n f) (q : ∀ i, i < n → f i = g i) : Ary Z h a T n g := by
  obtain ⟨x, c, A1, hk, hs, hn, hf, hfit⟩ := A
  exact ⟨x, c, A1, hk, hs, hn, fun i hi => by rw [← q i hi]; exact hf i hi, fun i hi => by rw [← q i hi]; exact hfit i hi⟩
theorem Ary.open (A : Ary Z h a T n f) {j : Int32} {i : Nat} (q : ¬ j < 0 ∧ j.toNatClampNeg = i ∧ i < n) : ∃ c : Cell, Arr Z h a c T.2 ∧ ¬ (j < 0 ∨ c.slots.size ≤ j.toNatClampNeg) ∧ c.slots[j.toNatClampNeg]? = some (f i) ∧ OvT Z T.2 c.cls ∧ fits T.2 (f i) = true := by
  obtain ⟨-, c, A1, hk, hs, hn, hf, hfit⟩ := A
  refine ⟨c, A1, fun x => x.elim q.1 (fun y => by omega), by rw [q.2.1]; exact hf i q.2.2, hk, hfit i q.2.2⟩
theorem Ary.set (A : Ary Z h a T n f) {j : Nat} {v : Value} (W : Wr h h' a j v) {i : Nat} (e : j = i) (hv : fits T.2 v = true) : Ary Z h' a T n (updv f i v) := by
  subst e
  obtain ⟨x, c, A1, hk, hs, hn, hf, hfit⟩ := A
  refine ⟨x.imp id (·.wr W), _, A1.same W, hk, by rw [sz_set]; exact hs, hn, fun i hi => ?_, fun i hi => ?_⟩
  · by_cases q : i = j
    · subst q; simp [Cell.setSlot, updv, hs, hi]
    · simp [Cell.setSlot, updv, q, Array.getElem?_setIfInBounds_ne (Ne.symm q), hf i hi]
  · by_cases q : i = j
    · subst q; simp [updv, hv]
    · simp [updv, q, hfit i hi]
theorem Ary.new {z : Int32} {k : ClassId} (A : Arr Z h a (newA k T.2 z) T.2) (O : OvT Z T.2 k) (E : Exa Z h a T.1) (q : ¬ z < 0) (e : z.toNatClampNeg = n) : Ary Z h a T n (fun _ => defaultValue T.2) := by
  subst e
  refine ⟨Or.inr E, _, A, O, sz_new _ _ _, (back32 q).2, fun i hi => ?_, fun i hi => fits_default T.2⟩
  simp [newA, hi]
def lv (V : List Value) : Nat → Value := fun i => V.getD i .null
end Objs
/-! steps on the heap -/
section Ops
variable {md : Bool} {EL : List (String × Nat)} {p : Program} {l : Launch} {e : Env} {R : Room} {s : State} {m : MethodId} {args : Array Value} {below : List Frame} {meth : Method} {c : Code} {S : State} {G : JFrame} {own : String} {B : ByteArray} {ml : Nat} {mn : String} {rt : Option FieldType} {Z : State} {a0 : Array Value} {n0 : Nat} {h0 : Heap} {vm : Vm} {h h' : Heap} {cells slots pc pc' : Nat} {Ls Ls' : Array Slot} {St St' : List Value} {L : Lay} {vs vs' : List Value} {a : Addr} {C f d : String} {v w : Value} {index : Nat} {ty : FieldType} {A : String × FieldType} {n : Nat} {F F' : Nat → Value}
theorem Wk.getS (k : Wk md EL p l e R s m args below meth c S G own B ml mn rt Z a0 n0 h0 vm h cells slots pc Ls St) (w : FL Z a0 own index C f d) (F : Sta Z Z.heap C f d v) (hd : Dc B pc (.getstatic index) 3 pc') :
    Wk md EL p l e R s m args below meth c S G own B ml mn rt Z a0 n0 h0 vm h cells slots pc' Ls (v :: St) := by
  have O := k.old
  obtain ⟨hd, rfl⟩ := hd
  obtain ⟨R0, host, w, via⟩ := w
  refine k.same fun X hx hb _ hZ hown eT => ?_
  exact getS2 X hx hZ hown w via eT (F.ext O.2) (g := mkF m pc Ls St) rfl (by rw [hb]; exact hd)
theorem Wk.getF (k : Wk md EL p l e R s m args below meth c S G own B ml mn rt Z a0 n0 h0 vm h cells slots pc Ls (.ref a :: St)) (w' : FL Z a0 own index C f d) (O : Obj Z h a L vs) (i : Nat) (hd : Dc B pc (.getfield index) 3 pc') (hi : L.2[i]? = some (C, f, d, w)) (hv : vs[i]? = some v) :
    Wk md EL p l e R s m args below meth c S G own B ml mn rt Z a0 n0 h0 vm h cells slots pc' Ls (v :: St) := by
  obtain ⟨hd, rfl⟩ := hd
  obtain ⟨R0, host, w, via⟩ := w'
  refine k.same fun X hx hb _ hZ hown eT => ?_
  exact Jvm.RoadKit.getF X hx hZ hown w via eT (O.at i hi hv) (g := mkF m pc Ls (.ref a :: St)) rfl rfl (by rw [hb]; exact hd)
theorem Wk.putF (k : Wk md EL p l e R s m args below meth c S G own B ml mn rt Z a0 n0 h0 vm h cells slots pc Ls (v :: .ref a :: St)) (wl : FL Z a0 own index C f d) (W : PW Z a0 own mn L C f d ty) (O : Obj Z h a L vs) (i : Nat) (ha : n0 ≤ a) (hs : md = false ∨ Safe Z EL vm h a) (hd : Dc B pc (.putfield index) 3 pc') (hi : L.2[i]? = some (C, f, d, w))
    (hn : narrow ty v = v) (hf : fits ty v = true) (hv : vs.set i v = vs') :
    ∃ h', Keep h h' [a] ∧ Obj Z h' a L vs' ∧ Wk md EL p l e R s m args below meth c S G own B ml mn rt Z a0 n0 h0 vm h' cells slots pc' Ls St := by
  obtain ⟨hd, rfl⟩ := hd
  obtain ⟨R0, host, wl, via⟩ := wl
  obtain ⟨W1, W2, ⟨kk, W3⟩, W4⟩ := W
  have hi' : i < vs.length := by rw [O.2.1]; exact (List.getElem?_eq_some_iff.mp hi).1
  obtain ⟨h', Wr', k⟩ := k.write (a := a) (sl := Jvm.RoadKit.slotOf Z C f d) (v := v) (pc' := pc + 3) (Ls' := Ls) (St' := St) ha hs fun X hx hb hnm hZ hown eT => by
    exact Jvm.RoadKit.putF X hx hZ hown wl via eT (O.at i hi (List.getElem?_eq_getElem hi')) O.exa (W2.imp id fun q => ⟨q.1, q.2.1, hnm.trans q.2.2⟩) W3 W4 hn hf (g := mkF m pc Ls (v :: .ref a :: St)) rfl rfl (by rw [hb]; exact hd)
  exact ⟨h', Keep.of_wr Wr', hv ▸ O.put W1 i hi Wr', k⟩
theorem Wk.putN {v' : Value} (k : Wk md EL p l e R s m args below meth c S G own B ml mn rt Z a0 n0 h0 vm h cells slots pc Ls (v :: .ref a :: St)) (wl : FP Z a0 own index C f d) (W : PW Z a0 own mn L C f d ty) (O : Obj Z h a L vs) (i : Nat) (ha : n0 ≤ a) (hs : md = false ∨ Safe Z EL vm h a) (hd : Dc B pc (.putfield index) 3 pc') (hi : L.2[i]? = some (C, f, d, w))
    (hn : narrow ty v = v') (hf : fits ty v' = true) (hv : vs.set i v' = vs') :
    ∃ h', Keep h h' [a] ∧ Obj Z h' a L vs' ∧ Wk md EL p l e R s m args below meth c S G own B ml mn rt Z a0 n0 h0 vm h' cells slots pc' Ls St := by
  obtain ⟨hd, rfl⟩ := hd
  obtain ⟨R0, wl, via⟩ := wl
  obtain ⟨W1, W2, ⟨kk, W3⟩, W4⟩ := W
  have hi' : i < vs.length := by rw [O.2.1]; exact (List.getElem?_eq_some_iff.mp hi).1
  obtain ⟨h', Wr', k⟩ := k.write (a := a) (sl := Jvm.RoadKit.slotOf Z C f d) (v := v') (pc' := pc + 3) (Ls' := Ls) (St' := St) ha hs fun X hx hb hnm hZ hown eT => by
    exact Jvm.RoadKit.putFN X hx hZ hown wl via eT (O.at i hi (List.getElem?_eq_getElem hi')) O.exa (W2.imp id fun q => ⟨q.1, q.2.1, hnm.trans q.2.2⟩) W3 W4 hn hf (g := mkF m pc Ls (v :: .ref a :: St)) rfl rfl (by rw [hb]; exact hd)
  exact ⟨h', Keep.of_wr Wr', hv ▸ O.put W1 i hi Wr', k⟩
theorem Wk.new (k : Wk md EL p l e R s m args below meth c S G own B ml mn rt Z a0 n0 h0 vm h cells slots pc Ls St) (wl : (Cond.classLink own index L.1).before a0 Z = true) (W : NW Z a0 L n) (hd : Dc B pc (.new index) 3 pc') (hc : cells + 1 ≤ R.cells ∧ slots + n ≤ R.slots) (hv : (L.2.map fun q => q.2.2.2) = vs) :
    ∃ b h', h.size ≤ b ∧ Keep h h' [] ∧ Obj Z h' b L vs ∧ Wk md EL p l e R s m args below meth c S G own B ml mn rt Z a0 n0 h0 vm h' (cells + 1) (slots + n) pc' Ls (.ref b :: St) := by
  obtain ⟨hd, rfl⟩ := hd
  subst hv
  obtain ⟨h', K, O, k⟩ := k.grow (P := fun h' => Obj Z h' h.size L (L.2.map fun q => q.2.2.2)) (cells' := cells + 1) (slots' := slots + n) (pc' := pc + 3) (Ls' := Ls) (St' := .ref h.size :: St) fun X hx hb hZ hown eT => by
    obtain ⟨T', h', X', eT', E, A, D, -, st⟩ := newO X hx hZ hown wl W.2.1 W.2.2 eT (g := mkF m pc Ls St) rfl (by rw [hb]; exact hd) hc.1 hc.2
    exact ⟨T', h', X', eT', E, Obj.new W.1 A D, st⟩
  exact ⟨h.size, h', Nat.le_refl _, K, O, k⟩
theorem Wk.newP {aty : ArrayType} {z : Int32} (k : Wk md EL p l e R s m args below meth c S G own B ml mn rt Z a0 n0 h0 vm h cells slots pc Ls (.int z :: St)) (A : String) (w : (Cond.arrayClass (newarray.typeOf aty)).before a0 Z = true) (hA : "[" ++ (newarray.typeOf aty).toString = A ∧ refKind (newarray.typeOf aty) = false) (hd : Dc B pc (.newarray aty) 2 pc') (cap : Nat) (hz : ¬ z < 0) (hn : z.toNatClampNeg = n) (hcap : n ≤ cap) (hc : cap * 8 ≤ 536870912 ∧ cells + 1 ≤ R.cells ∧ slots + cap ≤ R.slots) (hF : ∀ j, j < n → defaultValue (newarray.typeOf aty) = F j) :
    ∃ b h', h.size ≤ b ∧ Keep h h' [] ∧ Ary Z h' b (A, newarray.typeOf aty) n F ∧ Wk md EL p l e R s m args below meth c S G own B ml mn rt Z a0 n0 h0 vm h' (cells + 1) (slots + cap) pc' Ls (.ref b :: St) := by
  obtain ⟨hd, rfl⟩ := hd
  subst hn
  obtain ⟨h', K, O, k⟩ := k.grow (P := fun h' => Ary Z h' h.size (A, newarray.typeOf aty) z.toNatClampNeg F) (cells' := cells + 1) (slots' := slots + cap) (pc' := pc + 2) (Ls' := Ls) (St' := .ref h.size :: St) fun X hx hb hZ hown eT => by
    obtain ⟨T', h', cA, X', eT', E, Aa, U, st⟩ := newPE (aty := aty) X hx hZ w eT (g := mkF m pc Ls (.int z :: St)) rfl (by rw [hb]; exact hd) rfl hz hcap hc.1 hc.2.1 hc.2.2 hA.1
    exact ⟨T', h', X', eT', E, (Ary.new (T := (A, newarray.typeOf aty)) Aa (OvT.of_prim hA.2) U hz rfl).norm hF, st⟩
  exact ⟨h.size, h', Nat.le_refl _, K, O, k⟩
theorem Wk.alen {z : Int32} (k : Wk md EL p l e R s m args below meth c S G own B ml mn rt Z a0 n0 h0 vm h cells slots pc Ls (.ref a :: St)) (O : Ary Z h a A n F) (hd : Dc B pc .arraylength 1 pc') (hz : Int32.ofNat n = z) :
    Wk md EL p l e R s m args below meth c S G own B ml mn rt Z a0 n0 h0 vm h cells slots pc' Ls (.int z :: St) := by
  obtain ⟨hd, rfl⟩ := hd
  obtain ⟨-, cl, A1, -, hs, -⟩ := O
  refine k.same fun X hx hb _ hZ hown eT => ⟨_, X, eT, fun t q => ?_⟩
  exact X.arraylength hx (by rw [eT]; exact A1.1) (State.isArrayOf_alike hZ.alike A1.2.1) (g := mkF m pc Ls (.ref a :: St)) rfl rfl (by rw [hb]; exact hd) _ (by rw [hs, show n.toInt32 = z from hz]; exact q)
theorem Wk.cald {j : Int32} {i : Nat} (k : Wk md EL p l e R s m args below meth c S G own B ml mn rt Z a0 n0 h0 vm h cells slots pc Ls (.int j :: .ref a :: St)) (O : Ary Z h a (C, .char) n F) (hd : Dc B pc .caload 1 pc') (hj : ¬ j < 0 ∧ j.toNatClampNeg = i ∧ i < n) (hv : F i = v) : Wk md EL p l e R s m args below meth c S G own B ml mn rt Z a0 n0 h0 vm h cells slots pc' Ls (v :: St) := by
  obtain ⟨hd, rfl⟩ := hd; subst hv
  obtain ⟨cl, A1, hin, hat, -, -⟩ := O.open hj
  exact k.same fun X hx hb _ hZ hown eT => ⟨_, X, eT, fun t q => X.caload hx (j := j) (v := F i) (by rw [eT]; exact A1.1) (State.isArrayOf_alike hZ.alike A1.2.1) A1.2.2 hin hat (g := mkF m pc Ls (.int j :: .ref a :: St)) rfl rfl (by rw [hb]; exact hd) _ q⟩
theorem Wk.bald {j : Int32} {i : Nat} (k : Wk md EL p l e R s m args below meth c S G own B ml mn rt Z a0 n0 h0 vm h cells slots pc Ls (.int j :: .ref a :: St)) (O : Ary Z h a (C, .byte) n F) (hd : Dc B pc .baload 1 pc') (hj : ¬ j < 0 ∧ j.toNatClampNeg = i ∧ i < n) (hv : F i = v) : Wk md EL p l e R s m args below meth c S G own B ml mn rt Z a0 n0 h0 vm h cells slots pc' Ls (v :: St) := by
  obtain ⟨hd, rfl⟩ := hd; subst hv
  obtain ⟨cl, A1, hin, hat, -, -⟩ := O.open hj
  exact k.same fun X hx hb _ hZ hown eT => ⟨_, X, eT, fun t q => X.baloadBytes hx (j := j) (v := F i) (by rw [eT]; exact A1.1) (State.isArrayOf_alike hZ.alike A1.2.1) A1.2.2 hin hat (g := mkF m pc Ls (.int j :: .ref a :: St)) rfl rfl (by rw [hb]; exact hd) _ q⟩
theorem Wk.stB {j x : Int32} {i : Nat} (k : Wk md EL p l e R s m args below meth c S G own B ml mn rt Z a0 n0 h0 vm h cells slots pc Ls (.int x :: .int j :: .ref a :: St)) (O : Ary Z h a (C, .byte) n F) (ha : n0 ≤ a) (hs : md = false ∨ Safe Z EL vm h a) (hd : Dc B pc .bastore 1 pc') (hj : ¬ j < 0 ∧ j.toNatClampNeg = i ∧ i < n) (hv : (.int (nar .byte x)) = v) (hf : fits .byte v = true) (hF : ∀ q, q < n → updv F i v q = F' q) :
    ∃ h', Keep h h' [a] ∧ Ary Z h' a (C, .byte) n F' ∧ Wk md EL p l e R s m args below meth c S G own B ml mn rt Z a0 n0 h0 vm h' cells slots pc' Ls St := by
  obtain ⟨hd, rfl⟩ := hd
  obtain ⟨cl, A1, hin, -, -, -⟩ := O.open hj
  subst hv
  obtain ⟨h', W, k⟩ := k.write (a := a) (sl := j.toNatClampNeg) (v := .int (nar .byte x)) (pc' := pc + 1) (Ls' := Ls) (St' := St) ha hs fun X hx hb _ hZ hown eT => stB X hx hZ eT A1 hin (g := mkF m pc Ls (.int x :: .int j :: .ref a :: St)) rfl rfl (by rw [hb]; exact hd)
  exact ⟨h', Keep.of_wr W, (O.set W hj.2.1 hf).norm hF, k⟩
theorem Wk.stC {j x : Int32} {i : Nat} (k : Wk md EL p l e R s m args below meth c S G own B ml mn rt Z a0 n0 h0 vm h cells slots pc Ls (.int x :: .int j :: .ref a :: St)) (O : Ary Z h a (C, .char) n F) (ha : n0 ≤ a) (hs : md = false ∨ Safe Z EL vm h a) (hd : Dc B pc .castore 1 pc') (hj : ¬ j < 0 ∧ j.toNatClampNeg = i ∧ i < n) (hv : (.int (nar .char x)) = v) (hf : fits .char v = true) (hF : ∀ q, q < n → updv F i v q = F' q) :
    ∃ h', Keep h h' [a] ∧ Ary Z h' a (C, .char) n F' ∧ Wk md EL p l e R s m args below meth c S G own B ml mn rt Z a0 n0 h0 vm h' cells slots pc' Ls St := by
  obtain ⟨hd, rfl⟩ := hd
  obtain ⟨cl, A1, hin, -, -, -⟩ := O.open hj
  subst hv
  obtain ⟨h', W, k⟩ := k.write (a := a) (sl := j.toNatClampNeg) (v := .int (nar .char x)) (pc' := pc + 1) (Ls' := Ls) (St' := St) ha hs fun X hx hb _ hZ hown eT => stC X hx hZ eT A1 hin (g := mkF m pc Ls (.int x :: .int j :: .ref a :: St)) rfl rfl (by rw [hb]; exact hd)
  exact ⟨h', Keep.of_wr W, (O.set W hj.2.1 hf).norm hF, k⟩
end Ops
/-! contracts and calls -/
section Calls
variable {md : Bool} {EL : List (String × Nat)} {p : Program} {l : Launch} {e : Env} {R : Room} {s : State} {m : MethodId} {args : Array Value} {below : List Frame} {meth : Method} {c : Code} {S : State} {G : JFrame} {own : String} {B : ByteArray} {ml : Nat} {mn : String} {rt : Option FieldType} {Z : State} {a0 : Array Value} {n0 : Nat} {h0 : Heap} {vm : Vm} {h h' : Heap} {cells slots pc pc' : Nat} {Ls Ls' : Array Slot} {St St' : List Value} {index : Nat} {y z : MethodName} {cd : Cond} {rm : Room} {as' : Array Value} {maxL np ck sk W len : Nat} {ret : Option FieldType} {Q : Option Value → Heap → Prop} {argsL rest : List Value}
def Mt (md : Bool) (EL : List (String × Nat)) (l : Launch) (y : MethodName) (cd : Cond) (rm : Room) (as' : Array Value) (Z : State) (a0 : Array Value) (h0 : Heap) (n0 : Nat) (Q : Option Value → Heap → Prop) : Prop :=
  Old Z n0 h0 → (md = true → EW Z a0 EL) → ∀ ws : List Cond, MetFree l y (head1 (cd :: ws) rm) (fun a U => a = as' ∧ Z.Warmed39 U.vm ∧ U.heap = h0 ∧ (md = true → CHv Z EL U.vm h0)) (fun _ _ _ _ _ => True)
    (fun _ U o U' => ∃ v L, o = .returned v ∧ (Fr n0 L ∧ Q v U'.heap) ∧ ((md = false ∧ FrameEnd U o U' L rm.cells rm.slots) ∨ (md = true ∧ CHr Z EL U.vm U.heap U'.vm U'.heap ∧ ReturnedEndW U o U' L rm.cells rm.slots)))
def Py (l : Launch) (R : Room) (p : Program) (e : Env) (below : List Frame) (s : State) (args : Array Value) (n0 : Nat) (y : MethodName) (len W : Nat) (as' : Array Value) (h : Heap) (ck sk : Nat) (Q : Option Value → Heap → Prop) : Prop :=
  Back l R p e below s args y len W (fun A a => a = as' ∧ A.U.heap = h ∧ A.cells + ck ≤ R.cells ∧ A.slots + sk ≤ R.slots) (fun A _ v B => ∃ L, (Fr n0 L ∧ Q v B.U.heap) ∧ B.locs = A.locs ++ L ∧ B.cells = A.cells + ck ∧ B.slots = A.slots + sk)
def CW (Z : State) (a0 : Array Value) (y : MethodName) (cd : Cond) (maxL : Nat) (ret : Option FieldType) (np : Nat) : Prop :=
  (∃ bytes, cd = .code y bytes maxL ret ∨ ∃ hs, cd = .codeWith y bytes maxL ret hs) ∧ cd.before a0 Z = true ∧ (Cond.initialized y.cls).before a0 Z = true ∧ (y.cls ≠ "java/lang/invoke/MethodHandle" ∧ y.cls ≠ "java/lang/invoke/VarHandle") ∧ ∃ ps r, parseMethodDescriptor y.desc = some ⟨ps, r⟩ ∧ ps.length = np
theorem Mt.free (M : Mt false EL l y cd rm as' Z a0 h n0 Q) (O : Old Z n0 h) :
    MetFree l y (head1 [cd] rm) (fun a U => a = as' ∧ Z.Warmed39 U.vm ∧ U.heap = h) (fun _ _ _ _ _ => True) (fun _ U o U' => ∃ v L, o = .returned v ∧ (Fr n0 L ∧ Q v U'.heap) ∧ FrameEnd U o U' L rm.cells rm.slots) := by
  intro p e ha hc hk s m args below hf happ hP hK
  obtain ⟨n, o, h1, h2, h3, v, L, e1, e2, e3⟩ := M O (fun q => nomatch q) [] p e ha hc hk s m args below hf happ ⟨hP.1, hP.2.1, hP.2.2, fun q => nomatch q⟩ hK
  refine ⟨n, o, h1, h2, h3, v, L, e1, e2, ?_⟩
  rcases e3 with ⟨-, e3⟩ | ⟨q, -⟩
  · exact e3
  · cases q
theorem Mt.pay (M : Mt false EL l y cd rm as' Z a0 h n0 Q) (C : CW Z a0 y cd maxL ret np) (O : Old Z n0 h) (hZ : Z.Warmed39 s.vm) (hf : rm.frames + 1 ≤ R.frames) (hl : W + (maxL + 11) + rm.locals ≤ R.locals) : Py l R p e below s args n0 y len W as' h rm.cells rm.slots Q := by
  obtain ⟨⟨bytes, hc⟩, wc, wz, -, -⟩ := C
  have F := M.free O
  rcases hc with rfl | ⟨hs, rfl⟩
  · exact backOf (Q := fun v h L => Fr n0 L ∧ Q v h) F hZ wc wz hf hl
  · exact backOfWith (Q := fun v h L => Fr n0 L ∧ Q v h) F hZ wc wz hf hl
def Cl (md : Bool) (EL : List (String × Nat)) (p : Program) (l : Launch) (e : Env) (R : Room) (s : State) (m : MethodId) (args : Array Value) (below : List Frame) (meth : Method) (c : Code) (S : State) (G : JFrame) (own : String) (B : ByteArray) (ml : Nat) (mn : String) (rt : Option FieldType) (Z : State) (a0 : Array Value) (n0 : Nat) (h0 : Heap) (vm : Vm) (h : Heap) (cells slots pc : Nat) (Ls : Array Slot) (rest : List Value) (Q : Option Value → Heap → Prop) : Prop :=
  ∀ ws : List Addr, (∀ v h', Q v h' → Keep h h' ws) → (∀ w ∈ ws, n0 ≤ w) → (md = false ∨ ∀ w ∈ ws, Safe Z EL vm h w) → ∃ v h', Q v h' ∧ Wk md EL p l e R s m args below meth c S G own B ml mn rt Z a0 n0 h0 vm h' cells slots pc Ls (v.toList ++ rest)
theorem Wk.called (k : Wk md EL p l e R s m args below meth c S G own B ml mn rt Z a0 n0 h0 vm h cells slots pc Ls St)
    (f : ∀ {s' : State} {T locs}, Stand p l e R s' m args below meth c T locs cells slots → p.tables.exec = Jvm.exec → c.code = B → c.maxLocals = ml → Z.Warmed39 s'.vm → s'.vm.findClass own = some m.cls → T.heap = h →
      ∃ v vm₁ B', s'.WarmedH vm₁ ∧ Stand p l e R s' m args below meth c (Pt.U B') (Pt.locs B') (Pt.cells B') (Pt.slots B') ∧ (∃ L, (Fr n0 L ∧ Q v (Pt.U B').heap) ∧ Pt.locs B' = locs ++ L ∧ Pt.cells B' = cells + ck ∧ Pt.slots B' = slots + sk) ∧ Steps p.tables e below (T.setTop (mkF m pc Ls St)) ((Pt.U B').setTop (mkF m pc' Ls (v.toList ++ rest)))) :
    Cl md EL p l e R s m args below meth c S G own B ml mn rt Z a0 n0 h0 vm h (cells + ck) (slots + sk) pc' Ls rest Q := by
  intro ws hq hn hs
  obtain ⟨q1, q2, q3, q4, q5, q6, T, locs, X, eT, N, g⟩ := k
  obtain ⟨v, vm₁, ⟨T', L', c', n'⟩, -, X', ⟨L, ⟨N', hQ⟩, e1, e2, e3⟩, st⟩ := f X q1.1 q1.2.1 q1.2.2.1 q2 q3 eT
  dsimp only [Pt.U, Pt.locs, Pt.cells, Pt.slots] at X' hQ e1 e2 e3 st
  subst e1 e2 e3
  have K := hq _ _ hQ
  exact ⟨v, T'.heap, hQ, q1, q2, q3, q4.keep K hn, Nat.le_trans q5 K.1, q6.keep K hs, T', _, X', rfl, N.app N', fun t q => g t (st.trans q)⟩
def Pv (h0 : Heap) (w : Value) : Option Value → Heap → Prop := fun v h => v = some w ∧ h = h0
def P0 (h0 : Heap) : Option Value → Heap → Prop := fun v h => v = none ∧ h = h0
def KpV (h0 : Heap) (ws : List Addr) (Q : Value → Heap → Prop) : Option Value → Heap → Prop := fun v h => ∃ w, v = some w ∧ Keep h0 h ws ∧ Q w h
def K0 (h0 : Heap) (ws : List Addr) (Q : Heap → Prop) : Option Value → Heap → Prop := fun v h => v = none ∧ Keep h0 h ws ∧ Q h
theorem Cl.pv {w : Value} (k : Cl md EL p l e R s m args below meth c S G own B ml mn rt Z a0 n0 h0 vm h cells slots pc Ls rest (Pv h w)) : Wk md EL p l e R s m args below meth c S G own B ml mn rt Z a0 n0 h0 vm h cells slots pc Ls (w :: rest) := by
  obtain ⟨v, h', ⟨rfl, rfl⟩, k2⟩ := k [] (fun v h' q => q.2 ▸ Keep.refl _ _) (fun _ q => nomatch q) (Or.inr fun _ q => nomatch q)
  exact k2
theorem Cl.p0 (k : Cl md EL p l e R s m args below meth c S G own B ml mn rt Z a0 n0 h0 vm h cells slots pc Ls rest (P0 h)) : Wk md EL p l e R s m args below meth c S G own B ml mn rt Z a0 n0 h0 vm h cells slots pc Ls rest := by
  obtain ⟨v, h', ⟨rfl, rfl⟩, k2⟩ := k [] (fun v h' q => q.2 ▸ Keep.refl _ _) (fun _ q => nomatch q) (Or.inr fun _ q => nomatch q)
  exact k2
theorem Cl.kv {ws : List Addr} {Q : Value → Heap → Prop} (k : Cl md EL p l e R s m args below meth c S G own B ml mn rt Z a0 n0 h0 vm h cells slots pc Ls rest (KpV h ws Q)) (hn : ∀ w ∈ ws, n0 ≤ w := by exact all0) (hs : md = false ∨ ∀ w ∈ ws, Safe Z EL vm h w := by exact Or.inl rfl) :
    ∃ w h', Keep h h' ws ∧ Q w h' ∧ Wk md EL p l e R s m args below meth c S G own B ml mn rt Z a0 n0 h0 vm h' cells slots pc Ls (w :: rest) := by
  obtain ⟨v, h', ⟨w, rfl, K, q⟩, k⟩ := k ws (fun v h' q => q.choose_spec.2.1) hn hs
  exact ⟨w, h', K, q, k⟩
theorem Cl.k0 {ws : List Addr} {Q : Heap → Prop} (k : Cl md EL p l e R s m args below meth c S G own B ml mn rt Z a0 n0 h0 vm h cells slots pc Ls rest (K0 h ws Q)) (hn : ∀ w ∈ ws, n0 ≤ w := by exact all0) (hs : md = false ∨ ∀ w ∈ ws, Safe Z EL vm h w := by exact Or.inl rfl) :
    ∃ h', Keep h h' ws ∧ Q h' ∧ Wk md EL p l e R s m args below meth c S G own B ml mn rt Z a0 n0 h0 vm h' cells slots pc Ls rest := by
  obtain ⟨v, h', ⟨rfl, K, q⟩, k⟩ := k ws (fun v h' q => q.2.1) hn hs
  exact ⟨h', K, q, k⟩
theorem wsum (m : MethodId) (Ls : Array Slot) (St : List Value) : 2 * (mkF m pc Ls St).monitorRoom + (rest.map fun v => v.category).sum ≤ (rest.map fun v => v.category).sum := by
  show 2 * 0 + _ ≤ _; rw [Nat.mul_zero, Nat.zero_add]; exact Nat.le_refl _
theorem wsW {W : Nat} (m : MethodId) (Ls : Array Slot) (St : List Value) (h : (rest.map fun v => v.category).sum = W) : 2 * (mkF m pc Ls St).monitorRoom + (rest.map fun v => v.category).sum ≤ W := by rw [← h]; exact wsum m Ls St
theorem CW.plen {maxL np : Nat} (C : CW Z a0 y cd maxL ret np) (e : argsL.length = np) : ∀ sig, parseMethodDescriptor y.desc = some sig → argsL.length = sig.parameters.length := fun sig h => by
  obtain ⟨-, -, -, -, ps, r, hpd, hnp⟩ := C
  cases hpd.symm.trans h; exact e.trans hnp.symm
def SC (Z : State) (a0 : Array Value) (y : MethodName) (cd : Cond) (maxL : Nat) (ret : Option FieldType) (np : Nat) : Prop := (Cond.static y).before a0 Z = true ∧ CW Z a0 y cd maxL ret np
def IC (Z : State) (a0 : Array Value) (y : MethodName) (cd : Cond) (maxL : Nat) (np : Nat) : Prop := (Cond.instanceMethod y).before a0 Z = true ∧ y.name = "<init>" ∧ CW Z a0 y cd maxL none np
def VC (Z : State) (a0 : Array Value) (y z : MethodName) (C : String) (cd : Cond) (maxL : Nat) (ret : Option FieldType) (np : Nat) : Prop :=
  (Cond.declares y).before a0 Z = true ∧ (∀ s : State, Z.Warmed39 s.vm → NotFace s y) ∧ (Cond.selects C y z).before a0 Z = true ∧ (Cond.instanceMethod z).before a0 Z = true ∧ (y.cls ≠ "java/lang/invoke/MethodHandle" ∧ y.cls ≠ "java/lang/invoke/VarHandle") ∧ y.desc = z.desc ∧ CW Z a0 z cd maxL ret np
def UC (Z : State) (a0 : Array Value) (y z : MethodName) (C : String) (cd : Cond) (maxL : Nat) (ret : Option FieldType) (np : Nat) : Prop :=
  ∃ owner, (Cond.sameMethod y.cls owner y.name y.desc).before a0 Z = true ∧ (Cond.declares ⟨owner, y.name, y.desc⟩).before a0 Z = true ∧ (owner ≠ "java/lang/invoke/MethodHandle" ∧ owner ≠ "java/lang/invoke/VarHandle") ∧ (Cond.selects C y z).before a0 Z = true ∧ (Cond.instanceMethod z).before a0 Z = true ∧ y.desc = z.desc ∧ CW Z a0 z cd maxL ret np
def FC (Z : State) (a0 : Array Value) (y z : MethodName) (C : String) (cd : Cond) (maxL : Nat) (ret : Option FieldType) (np : Nat) : Prop :=
  (Cond.declares y).before a0 Z = true ∧ (∀ (s : State) (args : Array Value), Z.Warmed39 s.vm → (Cond.interfaceMethod y.cls y.cls y.name y.desc).before args s = true) ∧ (Cond.selects C y z).before a0 Z = true ∧ (Cond.instanceMethod z).before a0 Z = true ∧ (Cond.publicMethod z).before a0 Z = true ∧ (Cond.unhidden C y.name y.desc).before a0 Z = true ∧ (Cond.castable C y.cls).before a0 Z = true ∧
    (y.cls ≠ "java/lang/invoke/MethodHandle" ∧ y.cls ≠ "java/lang/invoke/VarHandle") ∧ y.desc = z.desc ∧ CW Z a0 z cd maxL ret np
def PC (Z : State) (a0 : Array Value) (y : MethodName) (bytes : ByteArray) (maxL : Nat) (ret : Option FieldType) (np : Nat) : Prop :=
  (Cond.instanceMethod y).before a0 Z = true ∧ (∀ (s : State) (args : Array Value), Z.Warmed39 s.vm → (Cond.selects y.cls y y).before args s = true ∧ s.PrivateAt y) ∧ CW Z a0 y (.code y bytes maxL ret) maxL ret np
theorem Wk.callS (k : Wk md EL p l e R s m args below meth c S G own B ml mn rt Z a0 n0 h0 vm h cells slots pc Ls St) (wl : (Cond.methodLink own index y).before a0 Z = true) (C : SC Z a0 y cd maxL ret argsL.length) (M : Mt false [] l y cd rm argsL.toArray Z a0 h n0 Q)
    (hd : Dc B pc (.invokestatic index) 3 pc') (W : Nat) (hst : St = argsL.reverse ++ rest) (hL : Ls.size = ml := by rfl) (hW : (rest.map fun v => v.category).sum = W := by rfl) (hr : rm.frames + 1 ≤ R.frames ∧ W + (maxL + 11) + rm.locals ≤ R.locals ∧ cells + rm.cells ≤ R.cells ∧ slots + rm.slots ≤ R.slots := by decide) :
    Cl md EL p l e R s m args below meth c S G own B ml mn rt Z a0 n0 h0 vm h (cells + rm.cells) (slots + rm.slots) pc' Ls rest Q := by
  have O := k.old
  obtain ⟨hd, rfl⟩ := hd
  obtain ⟨ws, C⟩ := C
  refine k.called fun {s' T locs} X hx hb hml hZ hown eT => ?_
  have P := M.pay (p := p) (e := e) (below := below) (s := s') (args := args) (R := R) (len := 3) (W := W) C O hZ hr.1 hr.2.1
  have hlen := C.plen (argsL := argsL) rfl
  obtain ⟨⟨bytes, hc⟩, wc, wz, hy, -⟩ := C
  rcases hc with rfl | ⟨hs, rfl⟩
  · obtain ⟨v, vm₁, B', q1, q2, q3, q4⟩ := Jvm.LawKit.callS X hx hown (mvT hZ wl) (mvT hZ ws) (mvT hZ wz) (mvT hZ wc) hy P (g := mkF m pc Ls St) rfl (by rw [hml]; exact hL) (argsL := argsL) (rest := rest) hlen hst (wsW m Ls St hW) (by rw [hb]; exact hd) (fun _ _ => ⟨rfl, eT, hr.2.2.1, hr.2.2.2⟩)
    exact ⟨v, vm₁, B', q1, q2, q3, q4 _ (Steps.refl _)⟩
  · obtain ⟨v, vm₁, B', q1, q2, q3, q4⟩ := callSH X hx hown (mvT hZ wl) (mvT hZ ws) (mvT hZ wz) (mvT hZ wc) hy P (g := mkF m pc Ls St) rfl (by rw [hml]; exact hL) (argsL := argsL) (rest := rest) hlen hst (wsW m Ls St hW) (by rw [hb]; exact hd) (fun _ _ => ⟨rfl, eT, hr.2.2.1, hr.2.2.2⟩)
    exact ⟨v, vm₁, B', q1, q2, q3, q4 _ (Steps.refl _)⟩
theorem Wk.callI {a : Addr} (k : Wk md EL p l e R s m args below meth c S G own B ml mn rt Z a0 n0 h0 vm h cells slots pc Ls St) (wl : (Cond.methodLink own index y).before a0 Z = true) (C : IC Z a0 y cd maxL argsL.length) (M : Mt false [] l y cd rm (.ref a :: argsL).toArray Z a0 h n0 Q)
    (hd : Dc B pc (.invokespecial index) 3 pc') (W : Nat) (hst : St = argsL.reverse ++ .ref a :: rest) (hL : Ls.size = ml := by rfl) (hW : (rest.map fun v => v.category).sum = W := by rfl) (hr : rm.frames + 1 ≤ R.frames ∧ W + (maxL + 11) + rm.locals ≤ R.locals ∧ cells + rm.cells ≤ R.cells ∧ slots + rm.slots ≤ R.slots := by decide) :
    Cl md EL p l e R s m args below meth c S G own B ml mn rt Z a0 n0 h0 vm h (cells + rm.cells) (slots + rm.slots) pc' Ls rest Q := by
  have O := k.old
  obtain ⟨hd, rfl⟩ := hd
  obtain ⟨ws, hy1, C⟩ := C
  refine k.called fun {s' T locs} X hx hb hml hZ hown eT => ?_
  have P := M.pay (p := p) (e := e) (below := below) (s := s') (args := args) (R := R) (len := 3) (W := W) C O hZ hr.1 hr.2.1
  have hlen := C.plen (argsL := argsL) rfl
  obtain ⟨⟨bytes, hc⟩, wc, wz, hy, -⟩ := C
  rcases hc with rfl | ⟨hs, rfl⟩
  · exact X.specialBack hx hy1 hown (mvT hZ wl) (mvT hZ ws) (mvT hZ wc) hy P (g := mkF m pc Ls St) rfl (by rw [hml]; exact hL) (Steps.refl _) (a := a) (argsL := argsL) (rest := rest) hlen hst (wsW m Ls St hW) (by rw [hb]; exact hd) (fun _ _ => ⟨rfl, eT, hr.2.2.1, hr.2.2.2⟩)
  · exact X.specialBackH hx hy1 hown (mvT hZ wl) (mvT hZ ws) (mvT hZ wc) hy P (g := mkF m pc Ls St) rfl (by rw [hml]; exact hL) (Steps.refl _) (a := a) (argsL := argsL) (rest := rest) hlen hst (wsW m Ls St hW) (by rw [hb]; exact hd) (fun _ _ => ⟨rfl, eT, hr.2.2.1, hr.2.2.2⟩)
theorem Wk.callV {a : Addr} {C : String} (k : Wk md EL p l e R s m args below meth c S G own B ml mn rt Z a0 n0 h0 vm h cells slots pc Ls St) (wl : (Cond.methodLink own index y).before a0 Z = true) (V : VC Z a0 y z C cd maxL ret argsL.length) (E : Exa Z h a C) (M : Mt false [] l z cd rm (.ref a :: argsL).toArray Z a0 h n0 Q)
    (hd : Dc B pc (.invokevirtual index) 3 pc') (W : Nat) (hst : St = argsL.reverse ++ .ref a :: rest) (hL : Ls.size = ml := by rfl) (hW : (rest.map fun v => v.category).sum = W := by rfl) (hr : rm.frames + 1 ≤ R.frames ∧ W + (maxL + 11) + rm.locals ≤ R.locals ∧ cells + rm.cells ≤ R.cells ∧ slots + rm.slots ≤ R.slots := by decide) :
    Cl md EL p l e R s m args below meth c S G own B ml mn rt Z a0 n0 h0 vm h (cells + rm.cells) (slots + rm.slots) pc' Ls rest Q := by
  have O := k.old
  obtain ⟨hd, rfl⟩ := hd
  obtain ⟨v1, v2, v3, v4, v5, v6, C⟩ := V
  refine k.called fun {s' T locs} X hx hb hml hZ hown eT => ?_
  have P := M.pay (p := p) (e := e) (below := below) (s := s') (args := args) (R := R) (len := 3) (W := W) C O hZ hr.1 hr.2.1
  obtain ⟨cq, kq, qa, qb, qc⟩ := isOf hZ eT E
  exact X.virtualBack hx hown (mvT hZ wl) (mvT hZ v1) (v2 s' hZ) (mvT hZ v3) (mvT hZ v4) v5 P qa qc (g := mkF m pc Ls St) rfl (by rw [hml]; exact hL) (Steps.refl _) (argsL := argsL) (rest := rest) (fun sig q => C.plen (argsL := argsL) rfl sig (v6 ▸ q)) hst (wsW m Ls St hW) (by rw [hb]; exact hd) (fun _ _ => ⟨rfl, eT, hr.2.2.1, hr.2.2.2⟩)
theorem Wk.callU {a : Addr} {C : String} (k : Wk md EL p l e R s m args below meth c S G own B ml mn rt Z a0 n0 h0 vm h cells slots pc Ls St) (wl : (Cond.methodLink own index y).before a0 Z = true) (V : UC Z a0 y z C cd maxL ret argsL.length) (E : Exa Z h a C) (M : Mt false [] l z cd rm (.ref a :: argsL).toArray Z a0 h n0 Q)
    (hd : Dc B pc (.invokevirtual index) 3 pc') (W : Nat) (hst : St = argsL.reverse ++ .ref a :: rest) (hL : Ls.size = ml := by rfl) (hW : (rest.map fun v => v.category).sum = W := by rfl) (hr : rm.frames + 1 ≤ R.frames ∧ W + (maxL + 11) + rm.locals ≤ R.locals ∧ cells + rm.cells ≤ R.cells ∧ slots + rm.slots ≤ R.slots := by decide) :
    Cl md EL p l e R s m args below meth c S G own B ml mn rt Z a0 n0 h0 vm h (cells + rm.cells) (slots + rm.slots) pc' Ls rest Q := by
  have O := k.old
  obtain ⟨hd, rfl⟩ := hd
  obtain ⟨owner, v1, v2, v3, v4, v5, v6, C⟩ := V
  refine k.called fun {s' T locs} X hx hb hml hZ hown eT => ?_
  have P := M.pay (p := p) (e := e) (below := below) (s := s') (args := args) (R := R) (len := 3) (W := W) C O hZ hr.1 hr.2.1
  obtain ⟨cq, kq, qa, qb, qc⟩ := isOf hZ eT E
  exact X.virtualBackUp hx hown (mvT hZ wl) (mvT hZ v1) (mvT hZ v2) v3 (mvT hZ v4) (mvT hZ v5) P qa qc (g := mkF m pc Ls St) rfl (by rw [hml]; exact hL) (Steps.refl _) (argsL := argsL) (rest := rest) (fun sig q => C.plen (argsL := argsL) rfl sig (v6 ▸ q)) hst (wsW m Ls St hW) (by rw [hb]; exact hd) (fun _ _ => ⟨rfl, eT, hr.2.2.1, hr.2.2.2⟩)
theorem Wk.callP {a : Addr} {C : String} {bytes : ByteArray} (k : Wk md EL p l e R s m args below meth c S G own B ml mn rt Z a0 n0 h0 vm h cells slots pc Ls St) (wl : (Cond.methodLink own index y).before a0 Z = true) (V : PC Z a0 y bytes maxL ret argsL.length) (E : Exa Z h a C) (M : Mt false [] l y (.code y bytes maxL ret) rm (.ref a :: argsL).toArray Z a0 h n0 Q)
    (hd : Dc B pc (.invokevirtual index) 3 pc') (W : Nat) (hst : St = argsL.reverse ++ .ref a :: rest) (hL : Ls.size = ml := by rfl) (hW : (rest.map fun v => v.category).sum = W := by rfl) (hr : rm.frames + 1 ≤ R.frames ∧ W + (maxL + 11) + rm.locals ≤ R.locals ∧ cells + rm.cells ≤ R.cells ∧ slots + rm.slots ≤ R.slots := by decide) :
    Cl md EL p l e R s m args below meth c S G own B ml mn rt Z a0 n0 h0 vm h (cells + rm.cells) (slots + rm.slots) pc' Ls rest Q := by
  have O := k.old
  obtain ⟨hd, rfl⟩ := hd
  obtain ⟨v1, v2, C⟩ := V
  refine k.called fun {s' T locs} X hx hb hml hZ hown eT => ?_
  have P := M.pay (p := p) (e := e) (below := below) (s := s') (args := args) (R := R) (len := 3) (W := W) C O hZ hr.1 hr.2.1
  obtain ⟨cl, q1, q2⟩ := E.cell
  exact X.privateBack hx hown (mvT hZ wl) (mvT hZ v1) (v2 s' args hZ).1 (v2 s' args hZ).2 (mvT hZ C.2.1) C.2.2.2.1 P (g := mkF m pc Ls St) rfl (by rw [hml]; exact hL) (Steps.refl _) (a := a) (by rw [eT]; exact q1) q2 (argsL := argsL) (rest := rest) (C.plen rfl) hst (wsW m Ls St hW) (by rw [hb]; exact hd) (fun _ _ => ⟨rfl, eT, hr.2.2.1, hr.2.2.2⟩)
theorem Wk.callX {a : Addr} {C : String} {bytes : ByteArray} (k : Wk md EL p l e R s m args below meth c S G own B ml mn rt Z a0 n0 h0 vm h cells slots pc Ls St) (wl : (Cond.methodLink own index y).before a0 Z = true) (w2 : (Cond.sameMethod y.cls y.cls y.name y.desc).before a0 Z = true) (w3 : (Cond.instanceMethod y).before a0 Z = true) (w4 : (Cond.superclass own y.cls).before a0 Z = true) (hn : y.name ≠ "<init>") (V : CW Z a0 y (.code y bytes maxL ret) maxL ret argsL.length) (E : Exa Z h a C) (M : Mt false [] l y (.code y bytes maxL ret) rm (.ref a :: argsL).toArray Z a0 h n0 Q)
    (hd : Dc B pc (.invokespecial index) 3 pc') (W : Nat) (hst : St = argsL.reverse ++ .ref a :: rest) (hL : Ls.size = ml := by rfl) (hW : (rest.map fun v => v.category).sum = W := by rfl) (hr : rm.frames + 1 ≤ R.frames ∧ W + (maxL + 11) + rm.locals ≤ R.locals ∧ cells + rm.cells ≤ R.cells ∧ slots + rm.slots ≤ R.slots := by decide) :
    Cl md EL p l e R s m args below meth c S G own B ml mn rt Z a0 n0 h0 vm h (cells + rm.cells) (slots + rm.slots) pc' Ls rest Q := by
  have O := k.old
  obtain ⟨hd, rfl⟩ := hd
  refine k.called fun {s' T locs} X hx hb hml hZ hown eT => ?_
  have P := M.pay (p := p) (e := e) (below := below) (s := s') (args := args) (R := R) (len := 3) (W := W) V O hZ hr.1 hr.2.1
  exact superBack X hx hZ hown wl w2 w3 w4 hn P eT (Ins.self E) (g := mkF m pc Ls St) rfl (by rw [hml]; exact hL) V.2.1 (argsL := argsL) (rest := rest) (V.plen rfl) hst (wsW m Ls St hW) (by rw [hb]; exact hd) (fun _ _ => ⟨rfl, eT, hr.2.2.1, hr.2.2.2⟩)
end Calls
/-! the start and the end of a walk; the other steps -/
section More
variable {md : Bool} {EL : List (String × Nat)} {p : Program} {l : Launch} {e : Env} {R : Room} {s : State} {m : MethodId} {args : Array Value} {below : List Frame} {meth : Method} {c : Code} {S : State} {G : JFrame} {own : String} {B : ByteArray} {ml : Nat} {mn : String} {rt : Option FieldType} {Z : State} {a0 : Array Value} {n0 : Nat} {h0 : Heap} {vm : Vm} {h h' : Heap} {cells slots pc pc' : Nat} {Ls Ls' : Array Slot} {St St' : List Value} {index : Nat} {Q : Option Value → Heap → Prop} {rest : List Value} {a b : Addr}
theorem nlt {x y : Addr} (q : x < h.size) (r : h.size ≤ y) : x ≠ y := Nat.ne_of_lt (Nat.lt_of_lt_of_le q r)
theorem nlt' {x y : Addr} (q : x < h.size) (r : h.size ≤ y) : y ≠ x := Ne.symm (nlt q r)
theorem Old.nlt {x y : Addr} (O : Old Z n0 h) (q : x < Z.heap.size) (r : n0 ≤ y) : x ≠ y := O.ne q r
def En (md : Bool) (EL : List (String × Nat)) (p : Program) (e : Env) (R : Room) (s : State) (below : List Frame) (S : State) (G : JFrame) (Z : State) (n0 : Nat) (h0 : Heap) (Q : Option Value → Heap → Prop) : Prop :=
  ∃ s₂ o, Steps p.tables e below (S.setTop G) s₂ ∧ s₂.status = .running ∧ Ended s₂ below o ∧ ∃ v L, o = .returned v ∧ (Fr n0 L ∧ Q v s₂.heap) ∧ ((md = false ∧ FrameEnd s o s₂ L R.cells R.slots) ∨ (md = true ∧ CHr Z EL s.vm h0 s₂.vm s₂.heap ∧ ReturnedEndW s o s₂ L R.cells R.slots))
theorem Mt.go {y : MethodName} {bytes : ByteArray} {maxL : Nat} {ret : Option FieldType} {cd : Cond} {rm : Room} {as' : Array Value} (hp : plainFor y = true) (hcd : cd = .code y bytes maxL ret ∨ ∃ hs, cd = .codeWith y bytes maxL ret hs) (hef : ∀ m, entryFrame m as' maxL = mkF m 0 Ls [])
    (W : ∀ {p e s m below meth c s₁ vm}, Wk md EL p l e rm s m as' below meth c s₁ (entryFrame m as' maxL) y.cls bytes maxL y.name ret Z a0 n0 h0 vm h0 0 0 0 Ls [] → En md EL p e rm s below s₁ (entryFrame m as' maxL) Z n0 h0 Q) :
    Mt md EL l y cd rm as' Z a0 h0 n0 Q := by
  intro O hEW ws
  have key : ∀ p e s m args below meth c s₁, BodyLoose p l y (head1 (cd :: ws) rm) bytes maxL ret e s m args below meth c s₁ → c.maxLocals = maxL → (args = as' ∧ Z.Warmed39 s.vm ∧ s.heap = h0 ∧ (md = true → CHv Z EL s.vm h0)) → True →
      ∃ s₂ o, Steps p.tables e below (s₁.setTop (entryFrame m args maxL)) s₂ ∧ s₂.status = .running ∧ Ended s₂ below o ∧ ∃ v L, o = .returned v ∧ (Fr n0 L ∧ Q v s₂.heap) ∧ ((md = false ∧ FrameEnd s o s₂ L rm.cells rm.slots) ∨ (md = true ∧ CHr Z EL s.vm s.heap s₂.vm s₂.heap ∧ ReturnedEndW s o s₂ L rm.cells rm.slots)) := by
    intro p e s m args below meth c s₁ Bd hml hP _
    obtain ⟨rfl, hZ, hh, hC⟩ := hP
    have X : Stand p l e rm s m args below meth c s₁ [] 0 0 := Stand.of_body Bd
    have k : Wk md EL p l e rm s m args below meth c s₁ (entryFrame m args maxL) y.cls bytes maxL y.name ret Z a0 n0 h0 s.vm h0 0 0 0 Ls [] := by
      refine ⟨⟨Bd.exec, Bd.bytes, hml, (name_of_methodNamed Bd.named Bd.method).1, Bd.returns, BodyLoose.notSynchronized Bd⟩, hZ, findClass_of_methodNamed Bd.named, O, Nat.le_refl _, ?_, s₁, [], X, ?_, Fr.nil n0, fun t q => castTop (hef m) q⟩
      · cases md
        · exact Or.inl ⟨rfl, rfl⟩
        · exact Or.inr ⟨rfl, hEW rfl, ⟨h0.size, (State.WarmedH.refl s).since _, Nat.le_refl _⟩, CHr.refl (hC rfl)⟩
      · rw [← hh, Bd.state]; rfl
    obtain ⟨s₂, o, h1, h2, h3, v, L, e1, e2, e3⟩ := W k
    refine ⟨s₂, o, h1, h2, h3, v, L, e1, e2, ?_⟩
    rcases e3 with e3 | e3
    · exact Or.inl e3
    · exact Or.inr ⟨e3.1, by rw [hh]; exact e3.2.1, e3.2.2⟩
  rcases hcd with rfl | ⟨hs, rfl⟩
  · exact MetFree.of_bodySF hp hisR key
  · exact MetFree.of_bodySF hp hisWith key
theorem Wk.fin {v : Option Value} (k : Wk md EL p l e R s m args below meth c S G own B ml mn rt Z a0 n0 h0 vm h cells slots pc Ls St) (hv : rt = none → v = none) (hc : cells ≤ R.cells ∧ slots ≤ R.slots) (hq : Q v h)
    (f : ∀ {s' : State} {T locs} {fs : List Frame}, Stand p l e R s' m args below meth c T locs cells slots → p.tables.exec = Jvm.exec → c.code = B → meth.sig.returnType = rt → (∀ (f : JFrame) (acts : List Action), f.method = m → f.locked = none → f.entered = [] → (doReturn e (T.setTop f) acts v).1 = T.setFrames fs) → Steps p.tables e below (T.setTop (mkF m pc Ls St)) (T.setFrames fs)) :
    En md EL p e R s below S G Z n0 h0 Q := by
  obtain ⟨⟨q1, q1b, q1c, q1d, q1e, q1f⟩, q2, q3, q4, q5, q6, T, locs, X, eT, N, g⟩ := k
  have hv' : meth.sig.returnType = none → v = none := fun z => hv (q1e.symm.trans z)
  rcases q6 with ⟨rfl, rfl⟩ | ⟨rfl, hEW, ⟨k0, hS, hk⟩, hC⟩
  · obtain ⟨fs, hr, hrun, hended, hW, hsame⟩ := X.leave hv' q1f
    exact ⟨_, _, g _ (f X q1 q1b q1e hr), hrun, hended, v, locs, rfl, ⟨N, by show Q v T.heap; rw [eT]; exact hq⟩, Or.inl ⟨rfl, ⟨_, rfl⟩, hW, hsame.mono hc.1 hc.2⟩⟩
  · obtain ⟨fs, hr, hrun, hended, w1, w2, w3, w4⟩ := X.leaveW hS (by rw [eT]; exact hk) hv' q1f
    refine ⟨_, _, g _ (f X q1 q1b q1e hr), hrun, hended, v, locs, rfl, ⟨N, by show Q v T.heap; rw [eT]; exact hq⟩, Or.inr ⟨rfl, ?_, w1, w2, w3, w4.mono hc.1 hc.2⟩⟩
    have A := CHv.at X q2 hEW hC.1
    show CHr Z EL s.vm h0 T.vm T.heap
    rw [eT]; exact hC.trans A
theorem Wk.ret0 (k : Wk md EL p l e R s m args below meth c S G own B ml mn rt Z a0 n0 h0 vm h cells slots pc Ls []) (hd : Dc B pc .return_ 1 pc') (hr : rt = none) (hq : Q none h) (hc : cells ≤ R.cells ∧ slots ≤ R.slots := by decide) : En md EL p e R s below S G Z n0 h0 Q :=
  k.fin (fun _ => rfl) hc hq fun X hx hb hrt hl => X.returnOut hx (hrt.trans hr) (by rw [hb]; exact hd.1) hl
theorem Wk.retI {z : Int32} (k : Wk md EL p l e R s m args below meth c S G own B ml mn rt Z a0 n0 h0 vm h cells slots pc Ls (.int z :: St)) (hd : Dc B pc .ireturn 1 pc') (hr : rt = some .int) (hq : Q (some (.int z)) h) (hc : cells ≤ R.cells ∧ slots ≤ R.slots := by decide) : En md EL p e R s below S G Z n0 h0 Q :=
  k.fin (fun q => by rw [hr] at q; cases q) hc hq fun X hx hb hrt hl => Jvm.RoadKit.retI X hx (hrt.trans hr) (by rw [hb]; exact hd.1) hl
theorem Wk.retN {z z' : Int32} {t : FieldType} (k : Wk md EL p l e R s m args below meth c S G own B ml mn rt Z a0 n0 h0 vm h cells slots pc Ls (.int z :: St)) (hd : Dc B pc .ireturn 1 pc') (hr : rt = some t) (ht : t = .boolean ∨ t = .byte ∨ t = .char ∨ t = .short) (hz : nar t z = z') (hq : Q (some (.int z')) h) (hc : cells ≤ R.cells ∧ slots ≤ R.slots := by decide) : En md EL p e R s below S G Z n0 h0 Q := by
  subst hz
  exact k.fin (fun q => by rw [hr] at q; cases q) hc hq fun X hx hb hrt hl => Jvm.RoadKit.retN X hx (hrt.trans hr) ht (by rw [hb]; exact hd.1) hl
theorem Wk.retA {v : Value} {t : FieldType} (k : Wk md EL p l e R s m args below meth c S G own B ml mn rt Z a0 n0 h0 vm h cells slots pc Ls (v :: St)) (hd : Dc B pc .areturn 1 pc') (hr : rt = some t) (hq : Q (some v) h) (ht : t.isReference = true := by rfl) (hv : v.isRef = true := by rfl) (hn : narrow t v = v := by rfl) (hc : cells ≤ R.cells ∧ slots ≤ R.slots := by decide) : En md EL p e R s below S G Z n0 h0 Q :=
  k.fin (fun q => by rw [hr] at q; cases q) hc hq fun X hx hb hrt hl => Jvm.RoadKit.retOut X hx (hrt.trans hr) hn (Or.inr (Or.inr (Or.inr (Or.inr ⟨rfl, ht, hv⟩)))) (by rw [hb]; exact hd.1) hl
theorem selPriv {y : MethodName} {C : String} {s : State} {args a' : Array Value} (hy : y.cls ≠ "java/lang/invoke/MethodHandle" ∧ y.cls ≠ "java/lang/invoke/VarHandle") (hs : (Cond.selects C y y).before a' s = true) (hp : (Cond.privateMethod y).before a' s = true) (hi : (Cond.instanceMethod y).before a' s = true) : (Cond.selects y.cls y y).before args s = true := by
  obtain ⟨c2, r2, m2, -, q2, q3, -, kP, hkP, hkPi⟩ := Cond.selects_spec hs
  obtain ⟨mk, methM, hnamed, hmethM, -, -⟩ := Cond.instanceMethod_spec hi
  have hfound : s.methodFound? y.cls y.name y.desc = some mk := State.methodFound?_of_named hnamed hy
  have hc := findClass_of_methodNamed hnamed
  obtain rfl : m2 = mk := Option.some.inj (q3.symm.trans hnamed)
  have hsel : selectMethod {} s.vm m2.cls m2 = .method m2 := selectMethod_private hmethM (Cond.privateMethod_at hp m2 methM hnamed hmethM)
  simp only [Cond.before, Cond.holds, Cond.value, hc, hfound, hnamed, hsel, hkP]
  simp; exact hkPi
theorem sameOf {y y' : MethodName} {C : String} {s : State} {args a' : Array Value} (hy : y.cls ≠ "java/lang/invoke/MethodHandle" ∧ y.cls ≠ "java/lang/invoke/VarHandle") (hcl : y'.cls = y.cls) (hd : (Cond.declares y).before a' s = true) (hs : (Cond.selects C y' y').before a' s = true) : (Cond.sameMethod y.cls y.cls y.name y.desc).before args s = true := by
  obtain ⟨r0, r, hn, hrm, hstR, hsigR⟩ := Cond.declares_spec hd
  obtain ⟨c2, r2, m2, -, -, q3, -, kP, hkP, hkPi⟩ := Cond.selects_spec hs
  have hfound : s.methodFound? y.cls y.name y.desc = some r0 := State.methodFound?_of_named hn hy
  have hc := findClass_of_methodNamed hn
  have hc2 := findClass_of_methodNamed q3
  rw [hcl] at hc2
  have e : r0.cls = m2.cls := Option.some.inj (hc.symm.trans hc2)
  rw [← e] at hkP
  have hn' : s.methodNamed? ⟨y.cls, y.name, y.desc⟩ = some r0 := hn
  simp only [Cond.before, Cond.holds, Cond.value, hc, hfound, hn', hkP]
  simp; exact hkPi
theorem nfOf {y y' : MethodName} {C : String} {s : State} {a' : Array Value} (hcl : y'.cls = y.cls) (hs : (Cond.selects C y' y').before a' s = true) : NotFace s y := fun r0 h0 => by
  obtain ⟨c2, r2, m2, -, -, q3, -, kP, hkP, hkPi⟩ := Cond.selects_spec hs
  have hc2 := findClass_of_methodNamed q3
  rw [hcl] at hc2
  have e : r0.cls = m2.cls := Option.some.inj ((findClass_of_methodNamed h0).symm.trans hc2)
  exact ⟨kP, by rw [e]; exact hkP, hkPi⟩
/-! single steps -/
theorem Wk.initO (k : Wk md EL p l e R s m args below meth c S G own B ml mn rt Z a0 n0 h0 vm h cells slots pc Ls (.ref a :: St)) (w1 : (Cond.methodLink own index Lib.objectInit).before a0 Z = true) (w2 : (Cond.instanceMethod Lib.objectInit).before a0 Z = true) (w3 : (Cond.code Lib.objectInit ⟨#[0xb1]⟩ 1 none).before a0 Z = true) (hd : Dc B pc (.invokespecial index) 3 pc') (W : Nat) (hL : Ls.size = ml := by rfl) (hW : (St.map fun v => v.category).sum = W := by rfl) (hr : 1 ≤ R.frames ∧ W + 12 ≤ R.locals := by decide) :
    Wk md EL p l e R s m args below meth c S G own B ml mn rt Z a0 n0 h0 vm h cells slots pc' Ls St := by
  obtain ⟨hd, rfl⟩ := hd
  exact k.same fun X hx hb hml hZ hown eT => Jvm.RoadKit.initO X hx hZ hown w1 w2 w3 eT (g := mkF m pc Ls (.ref a :: St)) rfl (by rw [hml]; exact hL) rfl (by rw [hb]; exact hd) hr.1 (wsW m Ls (.ref a :: St) hW) hr.2
theorem Wk.castY {K : String} (k : Wk md EL p l e R s m args below meth c S G own B ml mn rt Z a0 n0 h0 vm h cells slots pc Ls (.ref a :: St)) (w : (Cond.classLink own index K).before a0 Z = true) (F : Ins Z h a K true) (hd : Dc B pc (.checkcast index) 3 pc') :
    Wk md EL p l e R s m args below meth c S G own B ml mn rt Z a0 n0 h0 vm h cells slots pc' Ls (.ref a :: St) := by
  obtain ⟨hd, rfl⟩ := hd
  exact k.same fun X hx hb hml hZ hown eT => Jvm.RoadKit.castY X hx hZ hown w eT F (g := mkF m pc Ls (.ref a :: St)) rfl rfl (by rw [hb]; exact hd)
theorem Wk.ldcI {v : Int32} (k : Wk md EL p l e R s m args below meth c S G own B ml mn rt Z a0 n0 h0 vm h cells slots pc Ls St) (w : (Cond.constant own index v).before a0 Z = true) (hd : Dc B pc (.ldc index) 2 pc') :
    Wk md EL p l e R s m args below meth c S G own B ml mn rt Z a0 n0 h0 vm h cells slots pc' Ls (.int v :: St) := by
  obtain ⟨hd, rfl⟩ := hd
  exact k.same fun X hx hb hml hZ hown eT => ⟨_, X, eT, fun t q => X.ldcInt hx hown (mvT hZ w) (g := mkF m pc Ls St) rfl (by rw [hb]; exact hd) _ q⟩
theorem Wk.ldcJ {v : Int64} (k : Wk md EL p l e R s m args below meth c S G own B ml mn rt Z a0 n0 h0 vm h cells slots pc Ls St) (w : (Cond.constantLong own index v).before a0 Z = true) (hd : Dc B pc (.ldc2_w index) 3 pc') :
    Wk md EL p l e R s m args below meth c S G own B ml mn rt Z a0 n0 h0 vm h cells slots pc' Ls (.long v :: St) := by
  obtain ⟨hd, rfl⟩ := hd
  exact k.same fun X hx hb hml hZ hown eT => ⟨_, X, eT, fun t q => X.ldc2Long hx hown (mvT hZ w) (g := mkF m pc Ls St) rfl (by rw [hb]; exact hd) _ q⟩
def okS : Slot → Bool
  | .second => false
  | .val v => v.category == 1
  | .unset => true
theorem stoA {A : List Slot} {x : Slot} {t : List Slot} {v : Value} (hx : okS x = true) (hv : v.category = 1) : storeLocals (A ++ x :: t).toArray A.length v = some (A ++ .val v :: t).toArray := by
  have q : (A ++ x :: t).toArray[A.length]? = some x := by simp
  rw [storeLocals_cat1 (x := x) q hv]
  · simp
  · cases x <;> simp_all [okS]
/-! copies of arrays -/
theorem ofNat_clamp {n : Nat} (h : n < 2147483648) : (Int32.ofNat n).toNatClampNeg = n ∧ ¬ (Int32.ofNat n) < 0 := by
  have e : (Int32.ofNat n).toInt = n := Int32.toInt_ofNat_small h
  refine ⟨by rw [clampNat, e]; rfl, fun q => ?_⟩
  rw [Int32.lt_iff_toInt_lt, e] at q
  have : (0 : Int32).toInt = 0 := rfl
  omega
theorem Ary.arv {T : String × FieldType} {n : Nat} {f : Nat → Value} (A : Ary Z h a T n f) (dv : Value) : ∃ k, OvT Z T.2 k ∧ n < 2147483648 ∧ Arv Z h a k T.2 (Int32.ofNat n) ((List.range n).map f) dv := by
  obtain ⟨-, c, A1, hk, hs, hn, hf, hfit⟩ := A
  have g : ∀ i, i < n → ((List.range n).map f).getD i dv = f i := fun i hi => by simp [List.getD_eq_getElem?_getD, hi]
  refine ⟨c.cls, hk, hn, c, A1, rfl, by rw [hs, (ofNat_clamp hn).1], (ofNat_clamp hn).2, fun i hi => ?_, fun i hi => ?_⟩
  · rw [hs] at hi; rw [g i hi]; exact hf i hi
  · rw [hs] at hi; rw [g i hi]; exact hfit i hi
theorem Ary.of_arv {T : String × FieldType} {n : Nat} {f : Nat → Value} {k : ClassId} {z : Int32} {vs : List Value} {dv : Value} (F : Arv Z h a k T.2 z vs dv) (O : OvT Z T.2 k) (E : T.1 = "" ∨ Exa Z h a T.1) (hz : z.toNatClampNeg = n) (g : ∀ i, i < n → vs.getD i dv = f i) : Ary Z h a T n f := by
  obtain ⟨c, A1, hk, hs, hn, H, G⟩ := F
  have hs' : c.slots.size = n := hs.trans hz
  subst hk
  refine ⟨E, c, A1, O, hs', by rw [← hz]; exact (back32 hn).2, fun i hi => ?_, fun i hi => ?_⟩
  · rw [← g i hi]; exact H i (by rw [hs']; exact hi)
  · rw [← g i hi]; exact G i (by rw [hs']; exact hi)
def cpyv (f g : Nat → Value) (sp dp nn : Nat) : Nat → Value := fun i => if dp ≤ i ∧ i < dp + nn then f (i - dp + sp) else g i
theorem cpy_list {f g : Nat → Value} {sp dp nn n : Nat} (h : dp + nn ≤ n) (dv : Value) (us : List Value) (hus : us.length = nn) (hu : ∀ i, i < nn → us.getD i dv = f (i + sp)) : ∀ i, i < n → (((List.range n).map g).take dp ++ us ++ ((List.range n).map g).drop (dp + nn)).getD i dv = cpyv f g sp dp nn i := fun i hi => by
  have l1 : (((List.range n).map g).take dp).length = dp := by simp; omega
  rw [List.getD_eq_getElem?_getD]
  by_cases c1 : i < dp
  · rw [List.append_assoc, List.getElem?_append_left (by rw [l1]; exact c1)]
    simp [cpyv, List.getElem?_take, c1, hi, Nat.not_le.mpr c1]
  · by_cases c2 : i < dp + nn
    · rw [List.getElem?_append_left (by rw [List.length_append, l1, hus]; exact c2), List.getElem?_append_right (by rw [l1]; omega), l1]
      have := hu (i - dp) (by omega)
      rw [List.getD_eq_getElem?_getD] at this
      rw [this]
      simp [cpyv, Nat.not_lt.mp c1, c2]
    · rw [List.getElem?_append_right (by rw [List.length_append, l1, hus]; omega), List.length_append, l1, hus, List.getElem?_drop]
      have e : dp + nn + (i - (dp + nn)) = i := by omega
      rw [e]
      simp [cpyv, hi, c2]
theorem Wk.acopy {T T' : String × FieldType} {n n' : Nat} {f g F : Nat → Value} {sp dp nn : Int32} {sp' dp' nn' : Nat} (k : Wk md EL p l e R s m args below meth c S G own B ml mn rt Z a0 n0 h0 vm h cells slots pc Ls (.int nn :: .int dp :: .ref b :: .int sp :: .ref a :: St))
    (w1 : (Cond.methodLink own index Jvm.Stand.acN).before a0 Z = true) (w2 : (Cond.native Jvm.Stand.acN).before a0 Z = true) (w3 : (Cond.static Jvm.Stand.acN).before a0 Z = true) (w4 : (Cond.initialized "java/lang/System").before a0 Z = true)
    (A : Ary Z h a T n f) (A' : Ary Z h b T' n' g) (hty : T.2 = T'.2 ∧ refKind T.2 = false) (h1 : ¬ sp < 0 ∧ sp.toNatClampNeg = sp') (h2 : ¬ dp < 0 ∧ dp.toNatClampNeg = dp') (h3 : ¬ nn < 0 ∧ nn.toNatClampNeg = nn') (h4 : sp' + nn' ≤ n) (h5 : dp' + nn' ≤ n') (hF : ∀ j, j < n' → cpyv f g sp' dp' nn' j = F j) (ge : n0 ≤ b) (hd : Dc B pc (.invokestatic index) 3 pc')
    (W : Nat) (hs : md = false ∨ Safe Z EL vm h b := by exact Or.inl rfl) (hL : Ls.size = ml := by rfl) (hW : (St.map fun v => v.category).sum = W := by rfl) (hr : 1 ≤ R.frames ∧ W + (nativeFrameWords "java/lang/System" "arraycopy" 5 + 11) ≤ R.locals := by decide) :
    ∃ h', Keep h h' [b] ∧ Ary Z h' b T' n' F ∧ Wk md EL p l e R s m args below meth c S G own B ml mn rt Z a0 n0 h0 vm h' cells slots pc' Ls St := by
  obtain ⟨hd, rfl⟩ := hd
  obtain ⟨h1, rfl⟩ := h1
  obtain ⟨h2, rfl⟩ := h2
  obtain ⟨h3, rfl⟩ := h3
  obtain ⟨q1, q2, q3, q4, q5, q6, T0, locs, X, eT, N, gg⟩ := k
  obtain ⟨ka, -, hA, VA⟩ := A.arv .null
  obtain ⟨kb, hO, hB, VB⟩ := A'.arv .null
  obtain ⟨T1, h', L, X', eT', N', K, V, st⟩ := cpA X q1.1 q2 q3 w1 w2 w3 w4 eT VA VB (us := (List.range nn.toNatClampNeg).map fun i => f (i + sp.toNatClampNeg)) (Or.inl hty) h1 h2 h3 (by rw [(ofNat_clamp hA).1]; exact h4) (by rw [(ofNat_clamp hB).1]; exact h5)
    (by
      refine List.map_congr_left fun i hi => ?_
      have hi' := List.mem_range.mp hi
      have hlt : i + sp.toNatClampNeg < n := by omega
      rw [Nat.add_comm sp.toNatClampNeg i]
      simp [List.getD_eq_getElem?_getD, hlt]) (by simpa using h5) N ge (g := mkF m pc Ls (.int nn :: .int dp :: .ref b :: .int sp :: .ref a :: St)) rfl (by rw [q1.2.2.1]; exact hL) rfl (by rw [q1.2.1]; exact hd) hr.1 (wsW m Ls _ hW) hr.2
  refine ⟨h', K, ?_, q1, q2, q3, q4.keep K (allS ge all0), Nat.le_trans q5 K.1, q6.keep K (hs.imp id fun z => allS z all0), T1, L, X', eT', N', fun t q => gg t (st t q)⟩
  exact (Ary.of_arv V hO (A'.1.imp id (·.keep K)) (ofNat_clamp hB).1 (cpy_list h5 .null _ (by simp) (fun i hi => by simp [List.getD_eq_getElem?_getD, hi]))).norm hF
theorem Wk.aclone {T : String × FieldType} {n : Nat} {f : Nat → Value} (k : Wk md EL p l e R s m args below meth c S G own B ml mn rt Z a0 n0 h0 vm h cells slots pc Ls (.ref a :: St)) (w1 : (Cond.methodLink own index ⟨T.1, "clone", "()Ljava/lang/Object;"⟩).before a0 Z = true) (w2 : (Cond.sameMethod T.1 "java/lang/Object" "clone" "()Ljava/lang/Object;").before a0 Z = true) (w3 : (Cond.native ⟨"java/lang/Object", "clone", "()Ljava/lang/Object;"⟩).before a0 Z = true)
    (w4 : (Cond.instanceMethod ⟨"java/lang/Object", "clone", "()Ljava/lang/Object;"⟩).before a0 Z = true) (w5 : (Cond.selects T.1 ⟨T.1, "clone", "()Ljava/lang/Object;"⟩ ⟨"java/lang/Object", "clone", "()Ljava/lang/Object;"⟩).before a0 Z = true) (w6 : (Cond.castable T.1 "java/lang/Cloneable").before a0 Z = true)
    (A : Ary Z h a T n f) (hn : T.1 ≠ "") (hd : Dc B pc (.invokevirtual index) 3 pc') (W : Nat) (hL : Ls.size = ml := by rfl) (hW : (St.map fun v => v.category).sum = W := by rfl) (hr : 1 ≤ R.frames ∧ W + 14 ≤ R.locals ∧ cells + 1 ≤ R.cells ∧ slots + n ≤ R.slots := by decide) :
    ∃ b h', h.size ≤ b ∧ Keep h h' [] ∧ Ary Z h' b T n f ∧ Wk md EL p l e R s m args below meth c S G own B ml mn rt Z a0 n0 h0 vm h' (cells + 1) (slots + n) pc' Ls (.ref b :: St) := by
  obtain ⟨hd, rfl⟩ := hd
  have E := A.exa hn
  obtain ⟨-, cl, A1, hk, hs, hlt, hf, hfit⟩ := A
  have FC : FitC Z cl := fitC_of A1 fun i hi v hv => by rw [hs] at hi; rw [hf i hi] at hv; cases hv; exact hfit i hi
  obtain ⟨q1, q2, q3, q4, q5, q6, T0, locs, X, eT, N, gg⟩ := k
  obtain ⟨T1, h', X', eT', Ex, A', E', st⟩ := cloneA X q1.1 q2 q3 w1 w2 w3 w4 w5 w6 eT A1 E FC (g := mkF m pc Ls (.ref a :: St)) rfl (by rw [q1.2.2.1]; exact hL) rfl (by rw [q1.2.1]; exact hd) hr.1 (wsW m Ls _ hW) hr.2.1 (cap := n) (by rw [hs]; exact Nat.le_refl _) hr.2.2.1 hr.2.2.2
  have K : Keep h h' [] := (Keep.refl h []).ext Ex
  exact ⟨h.size, h', Nat.le_refl _, K, ⟨Or.inr E', cloneOf cl, A', hk, hs, hlt, hf, hfit⟩, q1, q2, q3, q4.ext Ex, Nat.le_trans q5 Ex.1, q6.keep K (Or.inr fun _ z => nomatch z), T1, locs, X', eT', N, fun t q => gg t (st t q)⟩
end More
/-! walks that load String constants -/
section LitW
variable {EL : List (String × Nat)} {p : Program} {l : Launch} {e : Env} {R : Room} {s : State} {m : MethodId} {args : Array Value} {below : List Frame} {meth : Method} {c : Code} {S : State} {G : JFrame} {own : String} {B : ByteArray} {ml : Nat} {mn : String} {rt : Option FieldType} {Z : State} {a0 : Array Value} {n0 : Nat} {h0 : Heap} {vm : Vm} {h h' : Heap} {cells slots pc pc' : Nat} {Ls Ls' : Array Slot} {St St' : List Value} {index : Nat} {y z : MethodName} {cd : Cond} {rm : Room} {as' : Array Value} {maxL np W len : Nat} {ret : Option FieldType} {Q : Option Value → Heap → Prop} {argsL rest : List Value}
abbrev litL : Lay := ("java/lang/String", [("java/lang/String", "value", "[B", .null), ("java/lang/String", "coder", "B", .int 0)])
theorem Wk.ldcS {text : String} {vs : List Value} {n : Nat} (k : Wk true EL p l e R s m args below meth c S G own B ml mn rt Z a0 n0 h0 vm h cells slots pc Ls St) (w : (Cond.stringLink own index text).before a0 Z = true) (wS : ∀ a ∈ Bundle.stringAtoms, a.before a0 Z = true) (hmem : (own, index) ∈ EL)
    (ht : (∀ c ∈ text.toList, c.toNat < 256) ∧ text.toList.map (fun c => Value.int (Jvm.Lit.byteI c.toNat.toUInt16)) = vs) (hl : vs.length = n) (hd : Dc B pc (.ldc index) 2 pc') (hc : 4 * n ≤ 536870912 ∧ cells + 2 ≤ R.cells ∧ slots + (4 * n + 4) ≤ R.slots := by decide) :
    ∃ a b vm' h', Keep h h' [] ∧ CHr Z EL vm h vm' h' ∧ Obj Z h' a litL [.ref b, .int 0] ∧ Ary Z h' b ("", .byte) n (lv vs) ∧ (∀ x, Safe Z EL vm' h' x → x ≠ a ∧ x ≠ b) ∧ Wk true EL p l e R s m args below meth c S G own B ml mn rt Z a0 n0 h0 vm' h' (cells + 2) (slots + (4 * n + 4)) pc' Ls (.ref a :: St) := by
  obtain ⟨hd, rfl⟩ := hd
  obtain ⟨q1, q2, q3, q4, q5, q6, T, locs, X, eT, N, g⟩ := k
  rcases q6 with ⟨q, -⟩ | ⟨-, hEW, ⟨k0, hS, hk⟩, hC⟩
  · cases q
  have hlt : text.toList.length = n := by rw [← hl, ← ht.2, List.length_map]
  have hn : n < 2147483648 := by omega
  obtain ⟨a, T', h', k1, b, kc, X', eT', E, hS', hk', hW, ho, F1, F2, F3, F4, -, -, hR, -, hne, st⟩ := ldcCH X q1.1 q2 q3 w wS eT hS hk hEW hmem hC.1 (z := Int32.ofNat n) ht (ofNat_clamp hn).2 (by rw [(ofNat_clamp hn).1, hl]) (g := mkF m pc Ls St) rfl (by rw [q1.2.1]; exact hd) (n := 4 * n) (by rw [hlt]; exact Nat.le_refl _) hc.1 hc.2.1 hc.2.2
  have K : Keep h h' [] := (Keep.refl h []).ext E
  refine ⟨a, b, T'.vm, h', K, hR, ⟨F1, rfl, ?_⟩, ?_, hne, q1, hW, ho, q4.ext E, Nat.le_trans q5 E.1, Or.inr ⟨rfl, hEW, ⟨k1, hS', hk'⟩, hC.trans hR⟩, T', locs, X', eT', N, fun t q => g t (st t q)⟩
  · intro i q v hi hv
    match i, hi, hv with
    | 0, hi, hv => cases hi; cases hv; exact F3
    | 1, hi, hv => cases hi; cases hv; exact F2
  · refine Ary.of_arv (T := ("", .byte)) F4 (OvT.of_prim rfl) (Or.inl rfl) (ofNat_clamp hn).1 fun i hi => ?_
    rw [← hl] at hi
    simp [lv, List.getD_eq_getElem?_getD, hi]
theorem backS_of_with {Pre : Pt → Array Value → Prop} {Post : Pt → Array Value → Option Value → Pt → Prop} {S : Spec} {P : Array Value → State → Prop}
    {K : Program → Env → List Frame → State → Array Value → Prop} {Q : Array Value → State → Outcome → State → Prop} {bytes : ByteArray} {hs : List (Nat × Nat × Nat × Nat)} {E : Array Value → State → Outcome → State → List Loc → Nat → Nat → Prop}
    (hM : MetFree l y S P K Q) (hframes : S.room.frames + 1 ≤ R.frames) (hlocals : W + (maxL + 11) + S.room.locals ≤ R.locals)
    (hpre : ∀ m meth c (A : Pt) a, Stand p l e R s m args below meth c A.U A.locs A.cells A.slots → Pre A a → S.pre.before a A.U = true ∧ (Cond.codeWith y bytes maxL ret hs).before a A.U = true ∧ (Cond.initialized y.cls).before a A.U = true ∧ A.cells + S.room.cells ≤ R.cells ∧ A.slots + S.room.slots ≤ R.slots)
    (hP : ∀ m meth c (A : Pt) a (g : JFrame) mk, Stand p l e R s m args below meth c A.U A.locs A.cells A.slots → Pre A a → P a (A.U.calling g mk a))
    (hK : ∀ m meth c (A : Pt) a (g : JFrame) mk, Stand p l e R s m args below meth c A.U A.locs A.cells A.slots → Pre A a → K p e (A.U.setTop g).frames (A.U.calling g mk a) a)
    (hQ : ∀ a first o t, Q a first o t → ∃ L k n, ReturnedEndW first o t L k n ∧ E a first o t L k n)
    (hpost : ∀ m meth c (A : Pt) a (g : JFrame) mk v t L k n, Stand p l e R s m args below meth c A.U A.locs A.cells A.slots → Pre A a → Q a (A.U.calling g mk a) (.returned v) t → ReturnedEndW (A.U.calling g mk a) (.returned v) t L k n → E a (A.U.calling g mk a) (.returned v) t L k n →
      Post A a v ⟨(({ A.U with heap := t.heap, slotsUsed := t.slotsUsed } : State).setVm t.vm), A.locs ++ L, A.cells + k, A.slots + n⟩) :
    BackS l R p e below s args y len W Pre Post := by
  intro m meth c A g ig mk a X hg hsize hdg hW hn hp
  obtain ⟨h1, h2, h3, h4, h5⟩ := hpre m meth c A a X hp
  obtain ⟨U, Ls, c0, s0⟩ := A
  dsimp only [Pt.U, Pt.locs, Pt.cells, Pt.slots] at h1 h2 h3 h4 h5 X hn ⊢
  obtain ⟨mk', methY, cY, hn', hmY, hcY, -, hlY, -, -, -, -⟩ := Cond.codeWith_spec h2
  cases hn.symm.trans hn'
  obtain ⟨kY, hkY, -⟩ := className_of_methodNamed hn
  have hinitY : kY.init = .initialized := Cond.initialized_spec (findClass_of_methodNamed hn) hkY h3
  have h : At U g.method c below := by rw [hg]; exact X.here
  have happ : S.appliesLoose y e.platform (U.calling g mk a) = true :=
    Spec.appliesLoose_calling (g := g) h hdg hn hkY hinitY (X.room_calling (g := g) (R' := S.room) hsize hmY hcY hframes (by rw [hlY]; omega) h4 h5) h1
  obtain ⟨mid, hmid⟩ := h.above
  have hfr : (U.setTop g).frames = (.java g :: mid) ++ below := by rw [State.frames_setTop' g h.top, hmid]; rfl
  obtain ⟨o, s₂, hsteps, -, hend, hq⟩ := Steps.callFree hM p X.admits X.cas X.clock (acts := []) hfr happ (hP m meth c ⟨U, Ls, c0, s0⟩ a g mk X hp) (hK m meth c ⟨U, Ls, c0, s0⟩ a g mk X hp)
  have hq' : Q a (U.calling g mk a) o s₂ := hq
  rw [State.frames_setTop' g h.top] at hend
  obtain ⟨L, k, n, hfe, hE⟩ := hQ _ _ _ _ hq'
  obtain ⟨⟨v, rfl⟩, hW₂, hB₂, e2, q2, q3, q4, q5, q6⟩ := id hfe
  have e3 : s₂ = ({ (U.calling g mk a).setFrames s₂.frames with heap := s₂.heap, slotsUsed := s₂.slotsUsed } : State).setVm s₂.vm := by
    have : s₂ = ({ s₂ with vm := (U.calling g mk a).vm } : State).setVm s₂.vm := rfl
    rw [e2] at this
    exact this
  obtain ⟨c₂, i₂, len₂, hc₂, hd₂, hf₂⟩ := hend
  have hW' : U.Warmed39 s₂.vm := hW₂
  have hcc : c₂ = c := by
    have h1 : s₂.code? g.method = U.code? g.method := by rw [State.code?_eq, State.code?_eq, hW'.alike.method?]
    exact Option.some.inj (hc₂.symm.trans (h1.trans h.code))
  subst hcc
  have hlen : len₂ = len := by rw [hdg] at hd₂; cases hd₂; rfl
  subst hlen
  obtain ⟨g₀, hg0⟩ := Option.isSome_iff_exists.mp h.top
  obtain ⟨r, hr⟩ := State.topJava?_eq_some.mp hg0
  have hs₂ : s₂ = (({ U with heap := s₂.heap, slotsUsed := s₂.slotsUsed } : State).setVm s₂.vm).setTop { g with pc := g.pc + len₂, stack := v.toList ++ g.stack } := by
    have hr' : (({ U with heap := s₂.heap, slotsUsed := s₂.slotsUsed } : State).setVm s₂.vm).frames = .java g₀ :: r := hr
    refine e3.trans ?_
    rw [hf₂, State.calling_eq h.top, State.setFrames_setFrames, State.setTop_of_frames _ hr', hr]
    rfl
  have hsame : U.sameButNew ({ U with heap := s₂.heap, slotsUsed := s₂.slotsUsed } : State) L k n := by
    refine ⟨?_, q2, q3, q4, q5, q6⟩
    obtain ⟨t, ht, -⟩ := State.frames_cons hr
    show ({ U with heap := s₂.heap, slotsUsed := s₂.slotsUsed } : State) = { U.setFrames U.frames with heap := s₂.heap, slotsUsed := s₂.slotsUsed }
    rw [State.setFrames_self ht]
  subst hg
  obtain ⟨X', hS⟩ := X.movedW (T₂ := (({ U with heap := s₂.heap, slotsUsed := s₂.slotsUsed } : State).setVm s₂.vm)) ((X.here.setHeapUsed s₂.heap s₂.slotsUsed).setVm hW'.alike) X.tail rfl rfl hW' hB₂ hsame
  refine ⟨v, ⟨(({ U with heap := s₂.heap, slotsUsed := s₂.slotsUsed } : State).setVm s₂.vm), Ls ++ L, c0 + k, s0 + n⟩, X', hS, hsame.2.1, hpost _ meth _ ⟨U, Ls, c0, s0⟩ a g mk v s₂ L k n X hp hq' hfe hE, ?_⟩
  show Steps p.tables e below _ ((({ U with heap := s₂.heap, slotsUsed := s₂.slotsUsed } : State).setVm s₂.vm).setTop { g with pc := g.pc + len₂, stack := v.toList ++ g.stack })
  rw [← hs₂]
  exact hsteps
theorem Mt.freeW (M : Mt true EL l y cd rm as' Z a0 h n0 Q) (O : Old Z n0 h) (hEW : EW Z a0 EL) :
    MetFree l y (head1 [cd] rm) (fun a U => a = as' ∧ Z.Warmed39 U.vm ∧ U.heap = h ∧ CHv Z EL U.vm h) (fun _ _ _ _ _ => True) (fun _ U o U' => ∃ v L, o = .returned v ∧ (Fr n0 L ∧ Q v U'.heap) ∧ CHr Z EL U.vm U.heap U'.vm U'.heap ∧ ReturnedEndW U o U' L rm.cells rm.slots) := by
  intro p e ha hc hk s m args below hf happ hP hK
  obtain ⟨n, o, h1, h2, h3, v, L, e1, e2, e3⟩ := M O (fun _ => hEW) [] p e ha hc hk s m args below hf happ ⟨hP.1, hP.2.1, hP.2.2.1, fun _ => hP.2.2.2⟩ hK
  refine ⟨n, o, h1, h2, h3, v, L, e1, e2, ?_⟩
  rcases e3 with ⟨q, -⟩ | ⟨-, e3⟩
  · cases q
  · exact e3
theorem Mt.payW (M : Mt true EL l y cd rm as' Z a0 h n0 Q) (C : CW Z a0 y cd maxL ret np) (O : Old Z n0 h) (hZ : Z.Warmed39 vm) (hf : rm.frames + 1 ≤ R.frames) (hl : W + (maxL + 11) + rm.locals ≤ R.locals) (hEW : EW Z a0 EL) (H : CHv Z EL vm h) :
    BackS l R p e below (s.setVm vm) args y len W (fun A a => a = as' ∧ A.U.heap = h ∧ A.cells + rm.cells ≤ R.cells ∧ A.slots + rm.slots ≤ R.slots)
      (fun A _ v B => ∃ L, (Fr n0 L ∧ Q v B.U.heap) ∧ B.locs = A.locs ++ L ∧ B.cells = A.cells + rm.cells ∧ B.slots = A.slots + rm.slots ∧ CHr Z EL vm h B.U.vm B.U.heap) := by
  obtain ⟨⟨bytes, hc⟩, wc, wz, -, -⟩ := C
  have F := M.freeW O hEW
  rcases hc with rfl | ⟨hs, rfl⟩
  · exact backOfSH (Q := fun v h L => Fr n0 L ∧ Q v h) F hZ wc wz hf hl hEW H
  · exact backS_of_with (bytes := bytes) (maxL := maxL) (ret := ret) (hs := hs) (E := fun _ first o t L k n => k = rm.cells ∧ n = rm.slots ∧ (∃ v, o = .returned v ∧ (Fr n0 L ∧ Q v t.heap)) ∧ CHr Z EL first.vm first.heap t.vm t.heap) F hf hl
      (fun m meth c A a Y hp => have hU : Z.Warmed39 A.U.vm := wtrans (s := s.setVm vm) hZ Y.warmed
        ⟨by show (Cond.and _ .tt).before a A.U = true; rw [Cond.before_and, mv hU wc]; rfl, mv hU wc, mv hU wz, hp.2.2.1, hp.2.2.2⟩)
      (fun m meth c A a g mk Y hp => ⟨hp.1, wtrans (s := s.setVm vm) hZ Y.warmed, hp.2.1, (CHv.at Y hZ hEW H).1⟩) (fun _ _ _ _ _ _ _ _ _ => trivial)
      (fun _ _ _ _ ⟨v, L, h1, h2, h3, h4⟩ => ⟨L, _, _, h4, rfl, rfl, ⟨v, h1, h2⟩, h3⟩)
      (fun m meth c A a g mk v t L k n Y hp _ _ ⟨e1, e2, ⟨v', e3, e4⟩, e5⟩ => by
        cases e3; subst e1 e2
        refine ⟨L, e4, rfl, rfl, rfl, (CHv.at Y hZ hEW H).trans ?_⟩
        rw [← hp.2.1]; exact e5)
def ClW (EL : List (String × Nat)) (p : Program) (l : Launch) (e : Env) (R : Room) (s : State) (m : MethodId) (args : Array Value) (below : List Frame) (meth : Method) (c : Code) (S : State) (G : JFrame) (own : String) (B : ByteArray) (ml : Nat) (mn : String) (rt : Option FieldType) (Z : State) (a0 : Array Value) (n0 : Nat) (h0 : Heap) (vm : Vm) (h : Heap) (cells slots pc : Nat) (Ls : Array Slot) (rest : List Value) (Q : Option Value → Heap → Prop) : Prop :=
  ∀ ws : List Addr, (∀ v h', Q v h' → Keep h h' ws) → (∀ w ∈ ws, n0 ≤ w) → ∃ v vm' h', Q v h' ∧ CHr Z EL vm h vm' h' ∧ Wk true EL p l e R s m args below meth c S G own B ml mn rt Z a0 n0 h0 vm' h' cells slots pc Ls (v.toList ++ rest)
theorem Wk.calledW {ck sk : Nat} (k : Wk true EL p l e R s m args below meth c S G own B ml mn rt Z a0 n0 h0 vm h cells slots pc Ls St)
    (f : ∀ {T locs}, Stand p l e R (s.setVm vm) m args below meth c T locs cells slots → p.tables.exec = Jvm.exec → c.code = B → c.maxLocals = ml → Z.Warmed39 vm → vm.findClass own = some m.cls → T.heap = h → EW Z a0 EL → CHv Z EL vm h →
      ∃ v vm₁ B', (s.setVm vm).WarmedH vm₁ ∧ Stand p l e R ((s.setVm vm).setVm (Pt.U B').vm) m args below meth c (Pt.U B') (Pt.locs B') (Pt.cells B') (Pt.slots B') ∧ (s.setVm vm).Since (Pt.U B').vm (Pt.U B').heap.size ∧ T.heap.size ≤ (Pt.U B').heap.size ∧
        (∃ L, (Fr n0 L ∧ Q v (Pt.U B').heap) ∧ Pt.locs B' = locs ++ L ∧ Pt.cells B' = cells + ck ∧ Pt.slots B' = slots + sk ∧ CHr Z EL vm h (Pt.U B').vm (Pt.U B').heap) ∧ Steps p.tables e below (T.setTop (mkF m pc Ls St)) ((Pt.U B').setTop (mkF m pc' Ls (v.toList ++ rest)))) :
    ClW EL p l e R s m args below meth c S G own B ml mn rt Z a0 n0 h0 vm h (cells + ck) (slots + sk) pc' Ls rest Q := by
  intro ws hq hn
  obtain ⟨q1, q2, q3, q4, q5, q6, T, locs, X, eT, N, g⟩ := k
  rcases q6 with ⟨q, -⟩ | ⟨-, hEW, ⟨k0, hS, hk⟩, hC⟩
  · cases q
  obtain ⟨v, vm₁, ⟨T', L', c', n'⟩, -, X', hS2, hg2, ⟨L, ⟨N', hQ⟩, e1, e2, e3, hR⟩, st⟩ := f X q1.1 q1.2.1 q1.2.2.1 q2 q3 eT hEW hC.1
  dsimp only [Pt.U, Pt.locs, Pt.cells, Pt.slots] at X' hQ e1 e2 e3 st hR hS2 hg2
  subst e1 e2 e3
  have K := hq _ _ hQ
  have hW : Z.Warmed39 T'.vm := State.Warmed39.trans (t := s.setVm vm) q2 hS2.1
  exact ⟨v, T'.vm, T'.heap, hQ, hR, q1, hW, by rw [hS2.1.alike.findClass]; exact q3, q4.keep K hn, Nat.le_trans q5 K.1, Or.inr ⟨rfl, hEW, ⟨_, foldS hS (by rw [eT]; exact hk) hS2 hg2, Nat.le_refl _⟩, hC.trans hR⟩, T', _, X', rfl, N.app N', fun t q => g t (st.trans q)⟩
theorem ClW.kv {ws : List Addr} {Q : Value → Heap → Prop} (k : ClW EL p l e R s m args below meth c S G own B ml mn rt Z a0 n0 h0 vm h cells slots pc Ls rest (KpV h ws Q)) (hn : ∀ w ∈ ws, n0 ≤ w := by exact all0) :
    ∃ w vm' h', Keep h h' ws ∧ CHr Z EL vm h vm' h' ∧ Q w h' ∧ Wk true EL p l e R s m args below meth c S G own B ml mn rt Z a0 n0 h0 vm' h' cells slots pc Ls (w :: rest) := by
  obtain ⟨v, vm', h', ⟨w, rfl, K, q⟩, hR, k⟩ := k ws (fun v h' q => q.choose_spec.2.1) hn
  exact ⟨w, vm', h', K, hR, q, k⟩
theorem ClW.k0 {ws : List Addr} {Q : Heap → Prop} (k : ClW EL p l e R s m args below meth c S G own B ml mn rt Z a0 n0 h0 vm h cells slots pc Ls rest (K0 h ws Q)) (hn : ∀ w ∈ ws, n0 ≤ w := by exact all0) :
    ∃ vm' h', Keep h h' ws ∧ CHr Z EL vm h vm' h' ∧ Q h' ∧ Wk true EL p l e R s m args below meth c S G own B ml mn rt Z a0 n0 h0 vm' h' cells slots pc Ls rest := by
  obtain ⟨v, vm', h', ⟨rfl, K, q⟩, hR, k⟩ := k ws (fun v h' q => q.2.1) hn
  exact ⟨vm', h', K, hR, q, k⟩
theorem Wk.callSW (k : Wk true EL p l e R s m args below meth c S G own B ml mn rt Z a0 n0 h0 vm h cells slots pc Ls St) (wl : (Cond.methodLink own index y).before a0 Z = true) (C : SC Z a0 y cd maxL ret argsL.length) (M : Mt true EL l y cd rm argsL.toArray Z a0 h n0 Q)
    (hd : Dc B pc (.invokestatic index) 3 pc') (W : Nat) (hst : St = argsL.reverse ++ rest) (hL : Ls.size = ml := by rfl) (hW : (rest.map fun v => v.category).sum = W := by rfl) (hr : rm.frames + 1 ≤ R.frames ∧ W + (maxL + 11) + rm.locals ≤ R.locals ∧ cells + rm.cells ≤ R.cells ∧ slots + rm.slots ≤ R.slots := by decide) :
    ClW EL p l e R s m args below meth c S G own B ml mn rt Z a0 n0 h0 vm h (cells + rm.cells) (slots + rm.slots) pc' Ls rest Q := by
  have O := k.old
  obtain ⟨hd, rfl⟩ := hd
  obtain ⟨ws, C⟩ := C
  refine k.calledW fun {T locs} X hx hb hml hZ hown eT hEW H => ?_
  have P := M.payW (p := p) (e := e) (below := below) (s := s) (args := args) (R := R) (len := 3) (W := W) C O hZ hr.1 hr.2.1 hEW H
  have hlen := C.plen (argsL := argsL) rfl
  obtain ⟨⟨bytes, hc⟩, wc, wz, hy, -⟩ := C
  have hZ' : Z.Warmed39 (s.setVm vm).vm := hZ
  have hown' : (s.setVm vm).vm.findClass own = some m.cls := hown
  obtain ⟨mk, methM, hnamed, hmethM, hsig⟩ : ∃ mk methM, (s.setVm vm).methodNamed? y = some mk ∧ (s.setVm vm).vm.method? mk = some methM ∧ parseMethodDescriptor y.desc = some methM.sig := by
    rcases hc with rfl | ⟨hs, rfl⟩
    · have w := mvT (args := args) hZ' wc
      obtain ⟨mk, hnamed⟩ := Cond.code_named w
      obtain ⟨methM, cM, hmethM, -, -, -, -, -, -, hsig⟩ := Cond.code_spec hnamed w
      exact ⟨mk, methM, hnamed, hmethM, hsig⟩
    · obtain ⟨mk, methM, cM, hnamed, hmethM, -, -, -, -, -, -, hsig⟩ := Cond.codeWith_spec (mvT (args := args) hZ' wc)
      exact ⟨mk, methM, hnamed, hmethM, hsig⟩
  exact X.staticBackS hx hown' (mvT hZ' wl) (mvT hZ' ws) (mvT hZ' wz) hnamed hmethM hsig hy P (g := mkF m pc Ls St) rfl (by rw [hml]; exact hL) (Steps.refl _) (argsL := argsL) (rest := rest) hlen hst (wsW m Ls St hW) (by rw [hb]; exact hd) (fun _ _ => ⟨rfl, eT, hr.2.2.1, hr.2.2.2⟩)
theorem Wk.callIW {a : Addr} (k : Wk true EL p l e R s m args below meth c S G own B ml mn rt Z a0 n0 h0 vm h cells slots pc Ls St) (wl : (Cond.methodLink own index y).before a0 Z = true) (C : IC Z a0 y cd maxL argsL.length) (M : Mt true EL l y cd rm (.ref a :: argsL).toArray Z a0 h n0 Q)
    (hd : Dc B pc (.invokespecial index) 3 pc') (W : Nat) (hst : St = argsL.reverse ++ .ref a :: rest) (hL : Ls.size = ml := by rfl) (hW : (rest.map fun v => v.category).sum = W := by rfl) (hr : rm.frames + 1 ≤ R.frames ∧ W + (maxL + 11) + rm.locals ≤ R.locals ∧ cells + rm.cells ≤ R.cells ∧ slots + rm.slots ≤ R.slots := by decide) :
    ClW EL p l e R s m args below meth c S G own B ml mn rt Z a0 n0 h0 vm h (cells + rm.cells) (slots + rm.slots) pc' Ls rest Q := by
  have O := k.old
  obtain ⟨hd, rfl⟩ := hd
  obtain ⟨ws, hy1, C⟩ := C
  refine k.calledW fun {T locs} X hx hb hml hZ hown eT hEW H => ?_
  have P := M.payW (p := p) (e := e) (below := below) (s := s) (args := args) (R := R) (len := 3) (W := W) C O hZ hr.1 hr.2.1 hEW H
  have hlen := C.plen (argsL := argsL) rfl
  obtain ⟨⟨bytes, hc⟩, wc, wz, hy, -⟩ := C
  have hZ' : Z.Warmed39 (s.setVm vm).vm := hZ
  have hown' : (s.setVm vm).vm.findClass own = some m.cls := hown
  rcases hc with rfl | ⟨hs, rfl⟩
  · exact X.specialBackS hx hy1 hown' (mvT hZ' wl) (mvT hZ' ws) (mvT hZ' wc) hy P (g := mkF m pc Ls St) rfl (by rw [hml]; exact hL) (Steps.refl _) (a := a) (argsL := argsL) (rest := rest) hlen hst (wsW m Ls St hW) (by rw [hb]; exact hd) (fun _ _ => ⟨rfl, eT, hr.2.2.1, hr.2.2.2⟩)
  · have hpl : e.platform.magicAccessors = ({} : Platform).magicAccessors := by rw [X.admits.platform]
    obtain ⟨mk, methM, cM, kP, vm₁, hnamed, hmethM, -, -, -, -, hkP, -, hW₁, hstep₁⟩ :=
      Steps.initColdArgsH (e := e) X.here hx X.warmed hpl hown' hy1 hy (mvT (args := args) hZ' wl) (mvT hZ' ws) (mvT hZ' wc) (f := mkF m pc Ls St) rfl hlen hst (by rw [hb]; exact hd)
    have X₁ := X.noted hW₁
    obtain ⟨v, B', X', hS, hgr, hpost, hsteps⟩ := P m meth c ⟨T.setVm vm₁, locs, cells, slots⟩ (mkF m pc Ls rest) (.invokespecial index) mk (.ref a :: argsL).toArray X₁ rfl (by rw [hml]; exact hL) (by rw [hb]; exact hd) (wsW m Ls rest hW) (X₁.named hnamed) ⟨rfl, eT, hr.2.2.1, hr.2.2.2⟩
    exact ⟨v, vm₁, B', hW₁, X', hS, hgr, hpost, (hstep₁ _ fun acts => by rw [doInvoke_state]; exact Steps.refl _).trans hsteps⟩
theorem Safe.nul {x : Addr} {L : Lay} {vs : List Value} (hal : Z.vm.Alike vm) (O : Obj Z h x L vs) (i : Nat) {w : Value} (e : L.2[i]? = some ("java/lang/String", "value", "[B", w)) (e' : vs[i]? = some .null) (hL : L.1 ≠ "[B" := by decide) : Safe Z EL vm h x := fun Bb => by
  obtain ⟨cell, k, e1, e2, e3, -, -⟩ := O.exa
  have nm : ∀ {n : String} {c : ClassId}, vm.findClass n = some c → c = cell.cls → n = L.1 := fun {n c} f e => by
    subst e
    rw [hal.findClass] at f
    obtain ⟨k1, q1, q2⟩ := Vm.findClass_spec f
    obtain ⟨k2, q3, q4⟩ := Vm.findClass_spec e2
    cases q1.symm.trans q3
    exact q2.symm.trans q4
  obtain ⟨p, -, u, a, -, q, -, F, rfl | rfl⟩ := Bb
  · obtain ⟨cell', cf, kf, i', f, f1, f2, f3, f4, f5, f6, f7⟩ := O.at i e e'
    obtain ⟨cS, ⟨⟨s1, s2, s3, ⟨cv, kv, iv, s4, s4'⟩, s5, s6, s7, s8, s9⟩, -⟩, -⟩ := F
    cases f1.symm.trans s1
    obtain ⟨kv', z4⟩ := ff_back (U := Wst Z vm h) hal s4
    cases f2.symm.trans z4
    cases f7.symm.trans s8
  · cases (show h[q.sd]? = some q.SA from F.hd).symm.trans e1
    obtain ⟨cS, -, -, f, -⟩ := F
    exact hL (nm f rfl).symm
end LitW
/-! arrays of int kinds: their contents as functions to Int32 -/
section Sym
variable {md : Bool} {EL : List (String × Nat)} {p : Program} {l : Launch} {e : Env} {R : Room} {s : State} {m : MethodId} {args : Array Value} {below : List Frame} {meth : Method} {c : Code} {S : State} {G : JFrame} {own : String} {B : ByteArray} {ml : Nat} {mn : String} {rt : Option FieldType} {Z : State} {a0 : Array Value} {n0 : Nat} {h0 : Heap} {vm : Vm} {h h' : Heap} {cells slots pc pc' : Nat} {Ls Ls' : Array Slot} {St St' : List Value} {f g : Nat → Int32} {n i : Nat}
theorem Ary.ext {a : Addr} {T : String × FieldType} {F : Nat → Value} (A : Ary Z h a T n F) (E : Ext h h') : Ary Z h' a T n F := A.keep ((Keep.refl h []).ext E) nin0
def bv (f : Nat → Int32) : Nat → Value := fun i => .int (f i)
def lvi (L : List Int32) : Nat → Int32 := fun i => L.getD i 0
def updi (f : Nat → Int32) (i : Nat) (v : Int32) : Nat → Int32 := fun j => if j = i then v else f j
def cpyi (f g : Nat → Int32) (sp dp nn : Nat) : Nat → Int32 := fun i => if dp ≤ i ∧ i < dp + nn then f (i - dp + sp) else g i
theorem bv_at : bv f i = .int (f i) := rfl
theorem bv_upd {v : Int32} : ∀ q, q < n → updv (bv f) i (.int v) q = bv (updi f i v) q := fun q _ => by
  by_cases h : q = i <;> simp [updv, bv, updi, h]
theorem bv_cpy {sp dp nn : Nat} : ∀ q, q < n → cpyv (bv f) (bv g) sp dp nn q = bv (cpyi f g sp dp nn) q := fun q _ => by
  by_cases h : dp ≤ q ∧ q < dp + nn <;> simp [cpyv, bv, cpyi, h]
theorem bv_zero : ∀ j, j < n → Value.int 0 = bv (fun _ => 0) j := fun _ _ => rfl
theorem bi_const {L : List Int32} (e : L = List.replicate n 0) : ∀ j, j < n → Value.int 0 = bv (lvi L) j := fun j hj => by subst e; simp [bv, lvi, List.getD_eq_getElem?_getD, hj]
theorem bi_set {V V' : List Int32} {v : Int32} (e : V.set i v = V') (hi : i < V.length) : ∀ j, j < n → updv (bv (lvi V)) i (.int v) j = bv (lvi V') j := fun j _ => by
  subst e
  by_cases q : j = i
  · subst q; simp [updv, bv, lvi, List.getD_eq_getElem?_getD, hi]
  · simp [updv, bv, lvi, q, List.getD_eq_getElem?_getD, List.getElem?_set_ne (Ne.symm q)]
theorem lv_bi {L : List Int32} {V : List Value} (e : L.map Value.int = V) (hn : L.length = n) : ∀ j, j < n → lv V j = bv (lvi L) j := fun j hj => by
  subst e hn; simp [lv, bv, lvi, List.getD_eq_getElem?_getD, hj]
theorem Wk.top {x y : Int32} (k : Wk md EL p l e R s m args below meth c S G own B ml mn rt Z a0 n0 h0 vm h cells slots pc Ls (.int x :: St)) (e' : x = y) : Wk md EL p l e R s m args below meth c S G own B ml mn rt Z a0 n0 h0 vm h cells slots pc Ls (.int y :: St) := e' ▸ k
theorem ixS {j q : Int32} {N : Nat} (h1 : ¬ j < 0) (h2 : j < q) (e : q.toNatClampNeg = N) : ¬ j < 0 ∧ j.toNatClampNeg = j.toNatClampNeg ∧ j.toNatClampNeg < N := by
  refine ⟨h1, rfl, ?_⟩
  rw [← e, clampNat, clampNat]
  rw [Int32.lt_iff_toInt_lt] at h1 h2
  have : (0 : Int32).toInt = 0 := rfl
  omega
theorem lenS {q : Int32} (h : ¬ q < 0) : Int32.ofNat q.toNatClampNeg = q := by
  rw [Int32.lt_iff_toInt_lt] at h
  have z : (0 : Int32).toInt = 0 := rfl
  have r := q.toInt_lt
  apply Int32.toInt_inj.mp
  rw [Int32.toInt_ofNat_small (by rw [clampNat]; omega), clampNat]
  omega
theorem nnS {q : Int32} (h : ¬ q < 0) : ¬ q < 0 ∧ q.toNatClampNeg = q.toNatClampNeg := ⟨h, rfl⟩
end Sym
/-! exceptions made by the walk (library RW15, RW16); merges -/
section Exc
open Jvm.Free.Exc
variable {EL : List (String × Nat)} {p : Program} {l : Launch} {e : Env} {R : Room} {s : State} {m : MethodId} {args : Array Value} {below : List Frame} {meth : Method} {c : Code} {S : State} {G : JFrame} {own : String} {B : ByteArray} {ml : Nat} {mn : String} {rt : Option FieldType} {Z : State} {a0 : Array Value} {n0 : Nat} {h0 : Heap} {vm : Vm} {h h' : Heap} {cells slots pc pc' : Nat} {Ls Ls' : Array Slot} {St St' : List Value} {index n : Nat} {Q : Option Value → Heap → Prop} {argsL rest : List Value} {a b : Addr} {L : Lay} {vs : List Value} {y : MethodName} {rm : Room} {bytes : ByteArray} {maxL : Nat} {ret : Option FieldType} {as' : Array Value} {W len : Nat} {md : Bool}
abbrev Wk.At (_ : Wk md EL p l e R s m args below meth c S G own B ml mn rt Z a0 n0 h0 vm h cells slots pc Ls St) (pc' : Nat) (Ls' : Array Slot) (St' : List Value) : Prop := Wk md EL p l e R s m args below meth c S G own B ml mn rt Z a0 n0 h0 vm h cells slots pc' Ls' St'
def Kn (Z s : State) (below : List Frame) : Prop := Z.vm.MethodsKnown ∧ Z.vm.FramesKnown below ∧ ThS Z s.heap
def MtK (EL : List (String × Nat)) (l : Launch) (y : MethodName) (cd : Cond) (rm : Room) (as' : Array Value) (Z : State) (a0 : Array Value) (h0 : Heap) (n0 : Nat) (Q : Option Value → Heap → Prop) : Prop :=
  Old Z n0 h0 → EW Z a0 EL → ∀ ws : List Cond, MetFree l y (head1 (cd :: ws) rm) (fun a U => a = as' ∧ Z.Warmed39 U.vm ∧ U.heap = h0 ∧ CHv Z EL U.vm h0) (fun _ _ bl s _ => s.vm.MethodsKnown ∧ s.vm.FramesKnown bl)
    (fun _ U o U' => ∃ v L, o = .returned v ∧ (Fr n0 L ∧ Q v U'.heap) ∧ CHr Z EL U.vm U.heap U'.vm U'.heap ∧ ReturnedEndW U o U' L rm.cells rm.slots)
theorem MtK.go (hp : plainFor y = true) (hef : ∀ m, entryFrame m as' maxL = mkF m 0 Ls [])
    (W : ∀ {p e s m below meth c s₁ vm}, Wk true EL p l e rm s m as' below meth c s₁ (entryFrame m as' maxL) y.cls bytes maxL y.name ret Z a0 n0 h0 vm h0 0 0 0 Ls [] → Kn Z s below → En true EL p e rm s below s₁ (entryFrame m as' maxL) Z n0 h0 Q) :
    MtK EL l y (.code y bytes maxL ret) rm as' Z a0 h0 n0 Q := by
  intro O hEW ws
  refine MetFree.of_bodySF hp hisR ?_
  intro p e s m args below meth c s₁ Bd hml hP hK
  obtain ⟨rfl, hZ, hh, hC⟩ := hP
  have X : Stand p l e rm s m args below meth c s₁ [] 0 0 := Stand.of_body Bd
  have k : Wk true EL p l e rm s m args below meth c s₁ (entryFrame m args maxL) y.cls bytes maxL y.name ret Z a0 n0 h0 s.vm h0 0 0 0 Ls [] := by
    refine ⟨⟨Bd.exec, Bd.bytes, hml, (name_of_methodNamed Bd.named Bd.method).1, Bd.returns, BodyLoose.notSynchronized Bd⟩, hZ, findClass_of_methodNamed Bd.named, O, Nat.le_refl _, Or.inr ⟨rfl, hEW, ⟨h0.size, (State.WarmedH.refl s).since _, Nat.le_refl _⟩, CHr.refl hC⟩, s₁, [], X, ?_, Fr.nil n0, fun t q => castTop (hef m) q⟩
    rw [← hh, Bd.state]; rfl
  have kn : Kn Z s below := ⟨hK.1.alikeC hZ.alike.symm, hK.2.alikeC hZ.alike.symm, by rw [hh]; exact ThS.start.ext O.2⟩
  obtain ⟨s₂, o, h1, h2, h3, v, L, e1, e2, e3⟩ := W k kn
  refine ⟨s₂, o, h1, h2, h3, v, L, e1, e2, ?_⟩
  rcases e3 with ⟨q, -⟩ | e3
  · cases q
  · exact ⟨by rw [hh]; exact e3.2.1, e3.2.2⟩
theorem Wk.callSK (k : Wk true EL p l e R s m args below meth c S G own B ml mn rt Z a0 n0 h0 vm h cells slots pc Ls St) (wl : (Cond.methodLink own index y).before a0 Z = true) (C : SC Z a0 y (.code y bytes maxL ret) maxL ret argsL.length) (M : MtK EL l y (.code y bytes maxL ret) rm argsL.toArray Z a0 h n0 Q) (kn : Kn Z s below)
    (hd : Dc B pc (.invokestatic index) 3 pc') (W : Nat) (hst : St = argsL.reverse ++ rest) (hL : Ls.size = ml := by rfl) (hW : (rest.map fun v => v.category).sum = W := by rfl) (hr : rm.frames + 1 ≤ R.frames ∧ W + (maxL + 11) + rm.locals ≤ R.locals ∧ cells + rm.cells ≤ R.cells ∧ slots + rm.slots ≤ R.slots := by decide) :
    ClW EL p l e R s m args below meth c S G own B ml mn rt Z a0 n0 h0 vm h (cells + rm.cells) (slots + rm.slots) pc' Ls rest Q := by
  have O := k.old
  obtain ⟨hd, rfl⟩ := hd
  obtain ⟨ws, C⟩ := C
  refine k.calledW fun {T locs} X hx hb hml hZ hown eT hEW H => ?_
  have hlen := C.plen (argsL := argsL) rfl
  obtain ⟨-, wc, wz, hy, -⟩ := C
  have P := backOfSKH (p := p) (e := e) (below := below) (s := s) (args := args) (R := R) (len := 3) (W := W) (Q := fun v h L => Fr n0 L ∧ Q v h) (M O hEW []) hZ wc wz hr.1 hr.2.1 hEW H (kn.1.alikeC hZ.alike) (kn.2.1.alikeC hZ.alike)
  have hZ' : Z.Warmed39 (s.setVm vm).vm := hZ
  have hown' : (s.setVm vm).vm.findClass own = some m.cls := hown
  obtain ⟨mk, methM, hnamed, hmethM, hsig⟩ : ∃ mk methM, (s.setVm vm).methodNamed? y = some mk ∧ (s.setVm vm).vm.method? mk = some methM ∧ parseMethodDescriptor y.desc = some methM.sig := by
    have w := mvT (args := args) hZ' wc
    obtain ⟨mk, hnamed⟩ := Cond.code_named w
    obtain ⟨methM, cM, hmethM, -, -, -, -, -, -, hsig⟩ := Cond.code_spec hnamed w
    exact ⟨mk, methM, hnamed, hmethM, hsig⟩
  exact X.staticBackS hx hown' (mvT hZ' wl) (mvT hZ' ws) (mvT hZ' wz) hnamed hmethM hsig hy P (g := mkF m pc Ls St) rfl (by rw [hml]; exact hL) (Steps.refl _) (argsL := argsL) (rest := rest) hlen hst (wsW m Ls St hW) (by rw [hb]; exact hd) (fun _ _ => ⟨rfl, eT, hr.2.2.1, hr.2.2.2⟩)
def ObjU (Z : State) (h : Heap) (a : Addr) (L : Lay) (vs : List Value) : Prop := Obj Z h a L vs ∧ Unt h a
theorem ObjU.keep {ws : List Addr} (O : ObjU Z h a L vs) (K : Keep h h' ws) (q : a ∉ ws) : ObjU Z h' a L vs := ⟨O.1.keep K q, O.2.keep K q⟩
theorem ObjU.lt (O : ObjU Z h a L vs) : a < h.size := O.1.lt
theorem ObjU.exa (O : ObjU Z h a L vs) : Exa Z h a L.1 := O.1.exa
theorem Wk.newU (k : Wk md EL p l e R s m args below meth c S G own B ml mn rt Z a0 n0 h0 vm h cells slots pc Ls St) (wl : (Cond.classLink own index L.1).before a0 Z = true) (W : NW Z a0 L n) (hd : Dc B pc (.new index) 3 pc') (hc : cells + 1 ≤ R.cells ∧ slots + n ≤ R.slots) (hv : (L.2.map fun q => q.2.2.2) = vs) :
    ∃ b h', h.size ≤ b ∧ Keep h h' [] ∧ ObjU Z h' b L vs ∧ Wk md EL p l e R s m args below meth c S G own B ml mn rt Z a0 n0 h0 vm h' (cells + 1) (slots + n) pc' Ls (.ref b :: St) := by
  obtain ⟨hd, rfl⟩ := hd
  subst hv
  obtain ⟨h', K, O, k⟩ := k.grow (P := fun h' => ObjU Z h' h.size L (L.2.map fun q => q.2.2.2)) (cells' := cells + 1) (slots' := slots + n) (pc' := pc + 3) (Ls' := Ls) (St' := .ref h.size :: St) fun X hx hb hZ hown eT => by
    obtain ⟨T', h', X', eT', E, A, D, U, st⟩ := newO X hx hZ hown wl W.2.1 W.2.2 eT (g := mkF m pc Ls St) rfl (by rw [hb]; exact hd) hc.1 hc.2
    exact ⟨T', h', X', eT', E, ⟨Obj.new W.1 A D, U⟩, st⟩
  exact ⟨h.size, h', Nat.le_refl _, K, O, k⟩
abbrev excL (rc : String) : Lay := (rc, [("java/lang/Throwable", "detailMessage", "Ljava/lang/String;", .null)])
end Exc
/-! Throwable.fillInStackTrace() as one step of a walk, where the table doesn't say that Throwable itself lays 'suppressedExceptions' -/
section Thr
open Jvm.Free.Exc LibCode.Throwable
def thrA (rc : String) : List Cond := [.initialized tN, .superclass tN "java/lang/Object", .instanceMethod tFill, .codeSync tFill Fill.code 1 (some (.object tN)), .instanceMethod tFill0, .native tFill0, .instanceMethod tInit0, .code tInit0 Init0.code 1 none, .instanceMethod oInit, .code oInit ⟨#[0xb1]⟩ 1 none,
  .methodLink tN 1 oInit, .methodLink tN 27 tFill, .methodLink tN 202 tFill0, .fieldLink tN 7 tN "cause" thD, .fieldLink tN 17 tN "stackTrace" steD, .fieldLink tN 24 tN "suppressedExceptions" listD, .fieldLink tN 13 tN "UNASSIGNED_STACK" steD, .laysStatic tN "UNASSIGNED_STACK" steD, .fieldLink tN 20 tN "SUPPRESSED_SENTINEL" listD, .laysStatic tN "SUPPRESSED_SENTINEL" listD,
  .declares tFill, .selects rc tFill0 tFill0, .selects rc tFill tFill, .lays rc tN "cause" thD, .lays rc tN "stackTrace" steD, .lays rc tN "suppressedExceptions" listD, .lays rc tN "detailMessage" msgD, .fieldLink tN 198 tN "backtrace" obD, .lays rc tN "backtrace" obD, .arrayOver (.object "java/lang/Object"), .soleField tN "backtrace", .soleField tN "depth", .lays rc tN "depth" "I"]
set_option maxHeartbeats 16000000 in
theorem thrC {args : Array Value} {s : State} {pl : Platform} {rc : String} (howns : pl.frameOwnsMonitors = true) (hfin : pl.finalization = false) (hpl : pl.magicAccessors = ({} : Platform).magicAccessors) (h : ∀ c ∈ thrA rc, c.before args s = true) :
    ∃ T : ThrowableC, T.Links pl s ∧ s.vm.findClass tN = some T.cT ∧ s.methodNamed? tFill = some T.fill ∧ s.methodNamed? tFill0 = some T.fill0 ∧ s.fieldFound? tN "stackTrace" steD = some (T.cT, T.kT, T.i17, T.fStack) ∧ s.fieldFound? tN "UNASSIGNED_STACK" steD = some (T.cT, T.kT, T.i13, T.fUnassigned) ∧
      T.fStack.name = "stackTrace" ∧ T.fStack.type = .array (.object "java/lang/StackTraceElement") ∧ ∃ cell, s.heap[T.aS]? = some cell ∧ cell.vm.isStatics = true := by
  have w : ∀ c, c ∈ thrA rc → c.holds args s none s [] = true := fun c hc => h c hc
  -- the class, its methods
  obtain ⟨⟨c, j0⟩, g0, n0, m0, b0, d0, l0, s0⟩ := Cond.native_spec (w (.native tFill0) (by simp [thrA]))
  have fc : s.vm.findClass tN = some c := findClass_of_methodNamed n0
  obtain ⟨k, hk, nm⟩ := Vm.findClass_spec fc
  obtain ⟨_, k', _, _, hk', _, _, hord, _, hni⟩ := Cond.superclass_spec fc (w (.superclass tN "java/lang/Object") (by simp [thrA]))
  cases Option.some.inj (hk.symm.trans hk')
  obtain ⟨jF, gF, nF, mF, aF, sF, bF, -, -⟩ := Cond.ownMethod (x := tFill) fc hk (w (.instanceMethod tFill) (by simp [thrA]))
  obtain ⟨gF', oF, mF', cF, yF, zF, rF, lF, -, pF⟩ := Cond.codeSync_spec nF (w (.codeSync tFill Fill.code 1 (some (.object tN))) (by simp [thrA]))
  cases Option.some.inj (mF.symm.trans mF')
  obtain ⟨j0', g0', n0', m0', a0, t0, u0, v0, w0⟩ := Cond.ownMethod (x := tFill0) fc hk (w (.instanceMethod tFill0) (by simp [thrA]))
  obtain rfl : j0 = j0' := by have := Option.some.inj (n0.symm.trans n0'); simpa using this
  cases Option.some.inj (m0.symm.trans m0')
  obtain ⟨jZ, gZ, nZ, mZ, aZ, -, -, -, -⟩ := Cond.ownMethod (x := tInit0) fc hk (w (.instanceMethod tInit0) (by simp [thrA]))
  obtain ⟨gZ', oZ, mZ', cZ, yZ, zZ, -, lZ, -, -⟩ := Cond.code_spec nZ (w (.code tInit0 Init0.code 1 none) (by simp [thrA]))
  cases Option.some.inj (mZ.symm.trans mZ')
  obtain ⟨iO, gO, nO, mO, sO, bO⟩ := Cond.instanceMethod_spec (w (.instanceMethod oInit) (by simp [thrA]))
  obtain ⟨gO', oO, mO', cO, yO, zO, -, lO, -, pO⟩ := Cond.code_spec nO (w (.code oInit ⟨#[0xb1]⟩ 1 none) (by simp [thrA]))
  cases Option.some.inj (mO.symm.trans mO')
  obtain ⟨kO, hkO, nmO⟩ := Vm.findClass_spec (findClass_of_methodNamed nO)
  obtain ⟨e1, e2⟩ := name_of_methodNamed nO mO
  -- the links
  obtain ⟨q1, r1, cf, x1, y1, f1, z1⟩ := Cond.linkedMethod fc hk nO (w (.methodLink tN 1 oInit) (by simp [thrA])) pl hpl
  obtain ⟨q27, r27, cf2, x27, y27, f27, z27⟩ := Cond.linkedMethod fc hk nF (w (.methodLink tN 27 tFill) (by simp [thrA])) pl hpl
  cases Option.some.inj (f1.symm.trans f27)
  obtain ⟨q202, r202, cf3, x202, y202, f202, z202⟩ := Cond.linkedMethod fc hk n0 (w (.methodLink tN 202 tFill0) (by simp [thrA])) pl hpl
  cases Option.some.inj (f1.symm.trans f202)
  -- the fields
  obtain ⟨q7, i7, f7, A7⟩ := Cond.ownField (t := .object tN) fc hk (by decide +kernel) (w (.fieldLink tN 7 tN "cause" thD) (by simp [thrA])) (w (.lays rc tN "cause" thD) (by simp [thrA])) pl hpl
  obtain ⟨q17, i17, f17, A17⟩ := Cond.ownField (t := .array (.object "java/lang/StackTraceElement")) fc hk (by decide +kernel) (w (.fieldLink tN 17 tN "stackTrace" steD) (by simp [thrA])) (w (.lays rc tN "stackTrace" steD) (by simp [thrA])) pl hpl
  obtain ⟨q24, i24, f24, A24⟩ := Cond.ownField (t := .object "java/util/List") fc hk (by decide +kernel) (w (.fieldLink tN 24 tN "suppressedExceptions" listD) (by simp [thrA])) (w (.lays rc tN "suppressedExceptions" listD) (by simp [thrA])) pl hpl
  obtain ⟨q13, i13, f13, aS, cS, B13⟩ := Cond.ownStatic (t := .array (.object "java/lang/StackTraceElement")) fc hk (by decide +kernel) (w (.fieldLink tN 13 tN "UNASSIGNED_STACK" steD) (by simp [thrA])) (w (.laysStatic tN "UNASSIGNED_STACK" steD) (by simp [thrA])) pl hpl
  obtain ⟨q20, i20, f20, _, _, B20⟩ := Cond.ownStatic (t := .object "java/util/List") fc hk (by decide +kernel) (w (.fieldLink tN 20 tN "SUPPRESSED_SENTINEL" listD) (by simp [thrA])) (w (.laysStatic tN "SUPPRESSED_SENTINEL" listD) (by simp [thrA])) pl hpl
  obtain ⟨cX, kX, c2, k2, i2, f2, fX, hX, ffM, sM, finM, -⟩ := Cond.lays_spec (w (.lays rc tN "detailMessage" msgD) (by simp [thrA]))
  obtain ⟨_, dS, hdS, hnS⟩ := Cond.laysAt fX hX A17.2.2.2.2.2.2.2 (w (.lays rc tN "stackTrace" steD) (by simp [thrA]))
  obtain ⟨_, dP, hdP, hnP⟩ := Cond.laysAt fX hX A24.2.2.2.2.2.2.2 (w (.lays rc tN "suppressedExceptions" listD) (by simp [thrA]))
  have apart : f17.slot ≠ f24.slot := Cond.laysApart hdS hdP hnS hnP (by rw [A17.2.2.2.2.2.1, A24.2.2.2.2.2.1]; decide)
  have par : ∀ {y : MethodName} {g : Method} {ps : List FieldType}, parseMethodDescriptor y.desc = some g.sig → (parseMethodDescriptor y.desc).map (·.parameters) = some ps → g.sig.parameters = ps := fun q r => by rw [q] at r; simpa using r
  refine ⟨{ cT := c, kT := k, cO := c, aS := aS, fillIdx := jF, fill0Idx := j0, initSIdx := jZ, obj := iO, kObj := kO, methFill := gF, methFill0 := g0, methInitS := gZ, methObj := gO, codeFill := oF, codeInitS := oZ, codeObj := oO, fBack := f7, fDepth := f7, fStack := f17, fCause := f7, fSupp := f24, fMsg := f2, fUnassigned := f13, fSentinel := f20, cfT := cf, ci1 := q1, n1 := r1, ci27 := q27, n27 := r27, ci202 := q202, n202 := r202, ci7 := q7, i7 := i7, ci13 := q13, i13 := i13, ci17 := q17, i17 := i17, ci20 := q20, i20 := i20, ci24 := q24, i24 := i24 }, ?_, fc, nF, n0, A17.2.2.2.2.2.2.2, B13.2.2.2.2.2.2.2.2.2.2.2, A17.2.2.2.2.2.1, A17.2.2.2.2.2.2.1, cS, B13.2.2.2.2.2.2.2.1, B13.2.2.2.2.2.2.2.2.1⟩
  exact { owns := howns, noFinalization := hfin, cls := hk, name := nm, boot := Vm.findClass_boot fc hk, notInterface := hni, initialized := Cond.initialized_spec fc hk (w (.initialized tN) (by simp [thrA])), statics := B13.2.2.2.2.2.2.1, fillAt := aF, fillCode := cF, fillBytes := yF, fillLocals := zF, fillLocks := lF, fillStatic := sF, fillAbstract := bF, fillReturns := rF, fillParams := par pF (by decide +kernel), fill0At := a0, fill0Name := v0, fill0Desc := w0, fill0Params := par s0 (by decide +kernel), fill0Static := t0, fill0Native := b0, fill0Code := d0, fill0Locks := l0, fill0Abstract := u0, stackInstance := A17.2.2.2.1, stackNotFinal := A17.2.2.2.2.1, unassignedStatic := B13.2.2.2.1, objClass := hkO, objClassName := nmO, objMethod := mO, objName := e1, objStatic := sO, objAbstract := bO, objFound := by rw [e2]; exact lookupSpecial_of_named nO mO sO, objParams := by rw [par pO (by decide +kernel : _ = some [])]; rfl, objCode := cO, objBytes := yO, objLocks := lO, causeInstance := A7.2.2.2.1, causeNotFinal := A7.2.2.2.2.1, sentinelStatic := B20.2.2.2.1, suppInstance := A24.2.2.2.1, suppNotFinal := A24.2.2.2.2.1, msgInstance := sM, msgNotFinal := finM, stackApartSupp := apart, file := f1, mlink1 := x1, mright1 := y1, pool1 := z1, mlink27 := x27, mright27 := y27, pool27 := z27, mlink202 := x202, mright202 := y202, pool202 := z202, link7 := A7.1, right7 := A7.2.1, at7 := A7.2.2.1, link13 := B13.1, right13 := B13.2.1, at13 := B13.2.2.1, link17 := A17.1, right17 := A17.2.1, at17 := A17.2.2.1, link20 := B20.1, right20 := B20.2.1, at20 := B20.2.2.1, link24 := A24.1, right24 := A24.2.1, at24 := A24.2.2.1 }
end Thr
section Thr2
open Jvm.Free.Exc
variable {p : Program} {l : Launch} {e : Env} {R : Room} {s : State} {m : MethodId} {args : Array Value} {below : List Frame} {meth : Method} {c : Code} {T : State} {locs : List Loc} {cells slots : Nat} {Z : State} {a0 : Array Value} {h h' : Heap} {rc : String}
theorem thrA_ok : (thrA rc).all xOk = true := rfl
set_option maxHeartbeats 16000000 in
theorem thrFill (X : Stand p l e R s m args below meth c T locs cells slots) (hx : p.tables.exec = Jvm.exec) (hl : l.stackTraces = true) (hZ : Z.Warmed39 s.vm) (hown : s.vm.findClass tN = some m.cls) (hT0 : ThS Z s.heap) (hTK : s.vm.MethodsKnown) (hB : s.vm.FramesKnown below) (A : ∀ d ∈ thrA rc, d.before a0 Z = true) {n : Nat} (wi : (Cond.instantiable rc n).before a0 Z = true) (eT : T.heap = h)
    {a : Addr} {u v : Value} (hu : u.isRef = true) (E : Exa Z h a rc) (U : Unt h a) (Fs : Fld Z h a tN "stackTrace" steD u) (Fb : Fld Z h a tN "backtrace" obD .null) (Fm : Fld Z h a tN "detailMessage" msgD v) (Sv : Sta Z h tN "UNASSIGNED_STACK" steD u)
    {g : JFrame} (hg : g.method = m) (hsize : g.locals.size = c.maxLocals) (hs : g.stack = [.ref a]) (hd : decode c.code g.pc = .ok (.invokevirtual 27, 3)) (hmr : 2 * g.monitorRoom ≤ 0) (hf : 3 ≤ R.frames) (hlo : 42 ≤ R.locals) (hc : cells + 1 ≤ R.cells) (hsl : slots + 2752 ≤ R.slots) :
    ∃ (T' : State) (L : List Loc) (k : Nat), Stand p l e R s m args below meth c T' (locs ++ L) (cells + 1) (slots + k) ∧ k ≤ 2752 ∧ (∀ y ∈ L, y.base = a) ∧ Exa Z T'.heap a rc ∧ Fld Z T'.heap a tN "detailMessage" msgD v ∧ Steps p.tables e below (T.setTop g) (T'.setTop { g with pc := g.pc + 3, stack := [.ref a] }) := by
  subst eT
  have W : ∀ d ∈ thrA rc, d.before args s = true := fun d hd => mvX hT0 hZ (List.all_eq_true.mp thrA_ok d hd) (A d hd)
  have w : ∀ d, d ∈ thrA rc → d.holds args s none s [] = true := fun d hd => W d hd
  have htr : e.platform.stackTraces = true := by rw [X.admits.platform]; exact hl
  have howns : e.platform.frameOwnsMonitors = true := by rw [X.admits.platform]
  have hfin : e.platform.finalization = false := by rw [X.admits.platform]
  have hpl : e.platform.magicAccessors = ({} : Platform).magicAccessors := by rw [X.admits.platform]
  obtain ⟨Th, L, fT, nF, nF0, ffS, ffU, nmS, tyS, cS0, hS0, hiS0⟩ := thrC (args := args) (rc := rc) howns hfin hpl W
  have hal : Z.vm.Alike s.vm := hZ.alike
  -- the receiver's cell
  obtain ⟨cell, kZ, hcell, hfZ, hkZ, hst, hsz⟩ := id E
  obtain ⟨cu, hcu, hvm, hmon⟩ := U
  cases hcell.symm.trans hcu
  obtain ⟨cw, kw, i1, i2, i3, -⟩ := Cond.instantiable_spec wi
  cases hfZ.symm.trans i1
  cases hkZ.symm.trans i2
  obtain ⟨kX, hkX, ek⟩ := hal.2.2 _ _ hkZ
  have hfX : s.vm.findClass rc = some cell.cls := by rw [hal.findClass]; exact hfZ
  have hord : kX.kind = .ordinary := by rw [ek]; exact i3
  have hszX : cell.slots.size = kX.instanceTypes.size := by rw [ek]; exact hsz i3
  -- its fields
  obtain ⟨c1, cf1, k1, j1, f1, b1, b2, -, -, -, -, b7⟩ := Fs
  cases hcell.symm.trans b1
  obtain ⟨k1', r1, -⟩ := State.fieldFound?_setVm (s := Z) hal b2
  cases (show s.fieldFound? tN "stackTrace" steD = _ from r1).symm.trans ffS
  obtain ⟨c2, cf2, k2, j2, f2, d1, d2, -, -, -, -, d7⟩ := Fb
  cases hcell.symm.trans d1
  obtain ⟨k2', r2, -⟩ := State.fieldFound?_setVm (s := Z) hal d2
  obtain ⟨c3, cf3, k3, j3, f3, m1, m2, m3, m4, m5, m6, m7⟩ := Fm
  cases hcell.symm.trans m1
  obtain ⟨k3', r3, -⟩ := State.fieldFound?_setVm (s := Z) hal m2
  obtain ⟨q198, i198, fB, A198⟩ := Cond.ownField (t := .object "java/lang/Object") fT L.cls (by decide +kernel) (w (.fieldLink tN 198 tN "backtrace" obD) (by simp [thrA])) (w (.lays rc tN "backtrace" obD) (by simp [thrA])) e.platform hpl
  cases (show s.fieldFound? tN "backtrace" obD = _ from r2).symm.trans A198.2.2.2.2.2.2.2
  obtain ⟨cD1, kD1, cD, kD, iD, fD, -, -, hffD, hstD, -⟩ := Cond.lays_spec (w (.lays rc tN "depth" "I") (by simp [thrA]))
  cases Option.some.inj ((Cond.lays_declared (w (.lays rc tN "depth" "I") (by simp [thrA])) hffD).symm.trans fT)
  obtain ⟨hkD, hatD⟩ := State.fieldFound?_spec hffD
  cases Option.some.inj (hkD.symm.trans L.cls)
  obtain ⟨hnD, htD⟩ := State.fieldFound?_type hffD (t := .int) (by decide +kernel)
  have hfb := Cond.soleField_find fT L.cls (w (.soleField tN "backtrace") (by simp [thrA])) A198.2.2.1 A198.2.2.2.2.2.1 A198.2.2.2.1
  have hfd := Cond.soleField_find fT L.cls (w (.soleField tN "depth") (by simp [thrA])) hatD hnD hstD
  obtain ⟨comp, cO, kO, -, -, hkO, hkindO, hO⟩ := Cond.arrayOver_spec (W (.arrayOver (.object "java/lang/Object")) (by simp [thrA]))
  -- what may be stored
  obtain ⟨tS, dS, hdS, hnS⟩ := Cond.laysAt hfX hkX ffS (w (.lays rc tN "stackTrace" steD) (by simp [thrA]))
  obtain ⟨tB, dB, hdB, hnB⟩ := Cond.laysAt hfX hkX A198.2.2.2.2.2.2.2 (w (.lays rc tN "backtrace" obD) (by simp [thrA]))
  obtain ⟨tD, dD, hdD, hnD'⟩ := Cond.laysAt hfX hkX hffD (w (.lays rc tN "depth" "I") (by simp [thrA]))
  obtain ⟨tM, dM, hdM, hnM⟩ := Cond.laysAt hfX hkX (show s.fieldFound? tN "detailMessage" msgD = _ from r3) (w (.lays rc tN "detailMessage" msgD) (by simp [thrA]))
  have nmM := (State.fieldFound?_type (show s.fieldFound? tN "detailMessage" msgD = _ from r3) (t := .object "java/lang/String") (by decide +kernel)).1
  have mS := Cond.laysApart hdM hdS hnM hnS (by rw [nmM, nmS]; decide)
  have mB := Cond.laysApart hdM hdB hnM hnB (by rw [nmM, A198.2.2.2.2.2.1]; decide)
  have mD := Cond.laysApart hdM hdD hnM hnD' (by rw [nmM, hnD]; decide)
  have tk : ∀ {f : Field} {x : Value}, kX.instanceTypes[f.slot]? = some f.type → fits f.type x = true → Jvm.Takes s cell f x := fun {f x} h1 h2 => by
    obtain ⟨q1, q2⟩ := Takes.of_laid (v := x) hkX hord h1 h2
    exact ⟨by rw [hszX]; simpa using q1, by rw [hvm]; exact q2⟩
  have hsel0 : selectMethod e.platform s.vm cell.cls Th.fill0 = .method Th.fill0 := by
    obtain ⟨c2, r2, m2, q1, q2, q3, q4, -⟩ := Cond.selects_spec (w (.selects rc tFill0 tFill0) (by simp [thrA]))
    cases Option.some.inj (q1.symm.trans hfX)
    cases Option.some.inj (q2.symm.trans (State.methodFound?_of_named nF0 (by decide)))
    cases Option.some.inj (q3.symm.trans nF0)
    rw [Launch.admits_selectMethod X.admits]; exact q4
  -- the statics
  obtain ⟨cf4, i4, k4, f4, sa, cS, s1, s2, s3, s4, s5, s6, s7⟩ := Sv
  obtain ⟨k4', r4, ek4⟩ := State.fieldFound?_setVm (s := Z) hal s1
  cases (show s.fieldFound? tN "UNASSIGNED_STACK" steD = _ from r4).symm.trans ffU
  have hsa : Th.kT.statics = some sa := by rw [ek4]; exact s4
  cases Option.some.inj (hsa.symm.trans L.statics)
  have hneS : Th.aS ≠ a := fun q => by rw [q, hcell] at s5; rw [← Option.some.inj s5, hvm] at s6; cases s6
  have hSE := W (.selects rc tFill tFill) (by simp [thrA])
  obtain ⟨v6, vm6, ⟨T6, L6, c6, n6⟩, hW6, X6, ⟨hv6, C6, k, hk, hD6, q1, q2, q3, q4, hL6, hc6, hn6⟩, come⟩ := X.virtualBack hx (own := tN) (C := rc) (index := 27) (y := tFill) (z := tFill) hown (W (.methodLink tN 27 tFill) (by simp [thrA])) (W (.declares tFill) (by simp [thrA])) (notFace_of_selects hSE) hSE (W (.instanceMethod tFill) (by simp [thrA])) (by decide)
    (fillPaysAny (l := l) (W := 0) hx htr Th L nF (u0 := ⟨u, hu⟩) (self := a) (cell := cell) (cellS := cS) (fun _ => by rw [hvm]; simp) (by rw [hvm]; simp) (by rw [hmon]) (by rw [hmon]) b7 hsel0 hneS (fun q => by rw [q] at s6; cases s6) s7 (tk tS (by rw [tyS]; exact fits_refV_array _ ⟨u, hu⟩))
      ⟨{ ci198 := q198, i198 := _, fBack := _ }, ⟨A198.1, A198.2.1, A198.2.2.1, A198.2.2.2.1⟩, d7⟩ hTK hB fT hO hkO hkindO hfb hfd
      (fun x => tk tB (by rw [A198.2.2.2.2.2.2.1]; rfl)) (fun x => tk tD (by rw [htD]; rfl)) (by omega) (by omega))
    (b := a) (cB := cell.cls) hfX ⟨cell, hcell, rfl, by rw [hvm]; rfl⟩ (g := g) hg hsize (Steps.refl _) (argsL := []) (rest := [])
    (fun sig q => by rw [show parseMethodDescriptor tFill.desc = some ⟨[], some (.object tN)⟩ from by decide +kernel] at q; rw [← Option.some.inj q]; rfl) hs (by simpa using hmr) hd
    (fun vmx hWx => ⟨rfl, hc, hsl, hcell, s5⟩)
  dsimp only [Pt.U, Pt.locs, Pt.cells, Pt.slots] at X6 hD6 hL6 hc6 hn6 come
  subst hv6 hL6 hc6 hn6
  refine ⟨T6, _, k, X6, hk, ?_, ⟨C6, kZ, hD6, by rw [q1]; exact hfZ, by rw [q1]; exact hkZ, by rw [q2]; exact hst, fun o => by rw [q3]; exact hsz o⟩, ⟨C6, cf3, k3, j3, f3, hD6, m2, m3, by rw [q2]; exact m4, by rw [q2]; exact m5, by rw [q1]; exact m6, (q4 _ mB mD mS).trans m7⟩, come⟩
  intro y hy
  simp only [List.mem_cons, List.not_mem_nil, or_false] at hy
  rcases hy with rfl | rfl | rfl <;> rfl
end Thr2
section Thr3
open Jvm.Free.Exc
variable {md : Bool} {EL : List (String × Nat)} {p : Program} {l : Launch} {e : Env} {R : Room} {s : State} {m : MethodId} {args : Array Value} {below : List Frame} {meth : Method} {c : Code} {S : State} {G : JFrame} {own : String} {B : ByteArray} {ml : Nat} {mn : String} {rt : Option FieldType} {Z : State} {a0 : Array Value} {n0 : Nat} {h0 : Heap} {vm : Vm} {h h' : Heap} {cells slots pc pc' : Nat} {Ls Ls' : Array Slot} {St St' : List Value} {index n : Nat} {Q : Option Value → Heap → Prop} {argsL rest : List Value} {a b : Addr} {L : Lay} {vs vs' : List Value} {y : MethodName} {rm : Room} {bytes : ByteArray} {maxL : Nat} {ret : Option FieldType} {as' : Array Value} {C f d : String} {v w : Value} {ty : FieldType}
def MtF (l : Launch) (y : MethodName) (cd : Cond) (rm : Room) (as' : Array Value) (Z : State) (h0 : Heap) (n0 : Nat) (Q : Option Value → Heap → Prop) : Prop :=
  Old Z n0 h0 → MetFree l y (head1 [cd] rm) (fun a U => a = as' ∧ Z.Warmed39 U.vm ∧ U.heap = h0) (fun _ _ bl s _ => s.vm.MethodsKnown ∧ s.vm.FramesKnown bl) (fun _ U o U' => ∃ v L, o = .returned v ∧ (Fr n0 L ∧ Q v U'.heap) ∧ FrameEnd U o U' L rm.cells rm.slots)
theorem MtF.go (hp : plainFor y = true) (hef : ∀ m, entryFrame m as' maxL = mkF m 0 Ls [])
    (W : ∀ {p e s m below meth c s₁ vm}, Wk false [] p l e rm s m as' below meth c s₁ (entryFrame m as' maxL) y.cls bytes maxL y.name ret Z a0 n0 h0 vm h0 0 0 0 Ls [] → Kn Z s below → En false [] p e rm s below s₁ (entryFrame m as' maxL) Z n0 h0 Q) :
    MtF l y (.code y bytes maxL ret) rm as' Z h0 n0 Q := by
  intro O
  refine MetFree.of_bodySF hp hisR ?_
  intro p e s m args below meth c s₁ Bd hml hP hK
  obtain ⟨rfl, hZ, hh⟩ := hP
  have X : Stand p l e rm s m args below meth c s₁ [] 0 0 := Stand.of_body Bd
  have k : Wk false [] p l e rm s m args below meth c s₁ (entryFrame m args maxL) y.cls bytes maxL y.name ret Z a0 n0 h0 s.vm h0 0 0 0 Ls [] := by
    refine ⟨⟨Bd.exec, Bd.bytes, hml, (name_of_methodNamed Bd.named Bd.method).1, Bd.returns, BodyLoose.notSynchronized Bd⟩, hZ, findClass_of_methodNamed Bd.named, O, Nat.le_refl _, Or.inl ⟨rfl, rfl⟩, s₁, [], X, ?_, Fr.nil n0, fun t q => castTop (hef m) q⟩
    rw [← hh, Bd.state]; rfl
  have kn : Kn Z s below := ⟨hK.1.alikeC hZ.alike.symm, hK.2.alikeC hZ.alike.symm, by rw [hh]; exact ThS.start.ext O.2⟩
  obtain ⟨s₂, o, h1, h2, h3, v, L, e1, e2, e3⟩ := W k kn
  refine ⟨s₂, o, h1, h2, h3, v, L, e1, e2, ?_⟩
  rcases e3 with ⟨-, q⟩ | ⟨q, -⟩
  · exact q
  · cases q
theorem Wk.callIF (k : Wk md EL p l e R s m args below meth c S G own B ml mn rt Z a0 n0 h0 vm h cells slots pc Ls St) (wl : (Cond.methodLink own index y).before a0 Z = true) (C : IC Z a0 y (.code y bytes maxL none) maxL argsL.length) (M : MtF l y (.code y bytes maxL none) rm (.ref a :: argsL).toArray Z h n0 Q) (kn : Kn Z s below)
    (hd : Dc B pc (.invokespecial index) 3 pc') (W : Nat) (hst : St = argsL.reverse ++ .ref a :: rest) (hL : Ls.size = ml := by rfl) (hW : (rest.map fun v => v.category).sum = W := by rfl) (hr : rm.frames + 1 ≤ R.frames ∧ W + (maxL + 11) + rm.locals ≤ R.locals ∧ cells + rm.cells ≤ R.cells ∧ slots + rm.slots ≤ R.slots := by decide) :
    Cl md EL p l e R s m args below meth c S G own B ml mn rt Z a0 n0 h0 vm h (cells + rm.cells) (slots + rm.slots) pc' Ls rest Q := by
  have O := k.old
  obtain ⟨hd, rfl⟩ := hd
  obtain ⟨ws, hy1, C⟩ := C
  refine k.called fun {s' T locs} X hx hb hml hZ hown eT => ?_
  have hlen := C.plen (argsL := argsL) rfl
  obtain ⟨-, wc, wz, hy, -⟩ := C
  have P := backOfKL (p := p) (e := e) (below := below) (s := s') (args := args) (R := R) (len := 3) (W := W) (Q := fun v h L => Fr n0 L ∧ Q v h) (M O) hZ wc wz hr.1 hr.2.1 (kn.1.alikeC hZ.alike) (kn.2.1.alikeC hZ.alike)
  exact X.specialBack hx hy1 hown (mvT hZ wl) (mvT hZ ws) (mvT hZ wc) hy P (g := mkF m pc Ls St) rfl (by rw [hml]; exact hL) (Steps.refl _) (a := a) (argsL := argsL) (rest := rest) hlen hst (wsW m Ls St hW) (by rw [hb]; exact hd) (fun _ _ => ⟨rfl, eT, hr.2.2.1, hr.2.2.2⟩)
def Wa (a : Addr) (p : Program) (l : Launch) (e : Env) (R : Room) (s : State) (m : MethodId) (args : Array Value) (below : List Frame) (meth : Method) (c : Code) (S : State) (G : JFrame) (own : String) (B : ByteArray) (ml : Nat) (mn : String) (Z : State) (h : Heap) (pc : Nat) (Ls : Array Slot) (St : List Value) : Prop :=
  p.tables.exec = Jvm.exec ∧ c.code = B ∧ c.maxLocals = ml ∧ meth.name = mn ∧ Z.Warmed39 s.vm ∧ s.vm.findClass own = some m.cls ∧ ∃ T locs, Stand p l e R s m args below meth c T locs 0 0 ∧ T.heap = h ∧ (∀ y ∈ locs, y.base = a) ∧ Goes p e below S G T (mkF m pc Ls St)
theorem Wa.ald {i : Fin 4} (k : Wa a p l e R s m args below meth c S G own B ml mn Z h pc Ls St) (hd : Dc B pc (.aload_n i) 1 pc') (hl : Ls[i.val]? = some (.val v)) (hv : v.isRef = true) : Wa a p l e R s m args below meth c S G own B ml mn Z h pc' Ls (v :: St) := by
  obtain ⟨q1, q2, q3, q4, q5, q6, T, locs, X, eT, N, g⟩ := k
  exact ⟨q1, q2, q3, q4, q5, q6, T, locs, X, eT, N, Fw.aloadN g X q1 (by rw [q2]; exact hd.1) hl hv hd.2⟩
theorem Wa.obj (k : Wa a p l e R s m args below meth c S G own B ml mn Z h pc Ls [.ref a]) (w1 : (Cond.methodLink own index Lib.objectInit).before a0 Z = true) (w2 : (Cond.instanceMethod Lib.objectInit).before a0 Z = true) (w3 : (Cond.code Lib.objectInit ⟨#[0xb1]⟩ 1 none).before a0 Z = true) (hd : Dc B pc (.invokespecial index) 3 pc') (hL : Ls.size = ml) (hr : 1 ≤ R.frames ∧ 0 + 12 ≤ R.locals) :
    Wa a p l e R s m args below meth c S G own B ml mn Z h pc' Ls [] := by
  obtain ⟨hd, rfl⟩ := hd
  obtain ⟨q1, q2, q3, q4, q5, q6, T, locs, X, eT, N, g⟩ := k
  obtain ⟨T', X', eT', st⟩ := Jvm.RoadKit.initO X q1 q5 q6 w1 w2 w3 eT (g := mkF m pc Ls [.ref a]) rfl (by rw [q3]; exact hL) rfl (by rw [q2]; exact hd) hr.1 (wsW m Ls [.ref a] (rest := []) rfl) hr.2
  exact ⟨q1, q2, q3, q4, q5, q6, T', locs, X', eT', N, fun t q => g t (st t q)⟩
theorem Wa.gs (k : Wa a p l e R s m args below meth c S G own B ml mn Z h pc Ls St) (w : FL Z a0 own index C f d) (F : Sta Z h C f d v) (hd : Dc B pc (.getstatic index) 3 pc') :
    Wa a p l e R s m args below meth c S G own B ml mn Z h pc' Ls (v :: St) := by
  obtain ⟨hd, rfl⟩ := hd
  obtain ⟨R0, host, w, via⟩ := w
  obtain ⟨q1, q2, q3, q4, q5, q6, T, locs, X, eT, N, g⟩ := k
  obtain ⟨T', X', eT', st⟩ := getS2 X q1 q5 q6 w via eT F (g := mkF m pc Ls St) rfl (by rw [q2]; exact hd)
  exact ⟨q1, q2, q3, q4, q5, q6, T', locs, X', eT', N, fun t q => g t (st t q)⟩
theorem Wa.pf (k : Wa a p l e R s m args below meth c S G own B ml mn Z h pc Ls (v :: .ref a :: St)) (wl : FL Z a0 own index C f d) (W : PW Z a0 own mn L C f d ty) (O : Obj Z h a L vs) (i : Nat) (hd : Dc B pc (.putfield index) 3 pc') (hi : L.2[i]? = some (C, f, d, w)) (hn : narrow ty v = v) (hf : fits ty v = true) (hv : vs.set i v = vs') :
    ∃ h', Keep h h' [a] ∧ Obj Z h' a L vs' ∧ Wa a p l e R s m args below meth c S G own B ml mn Z h' pc' Ls St := by
  obtain ⟨hd, rfl⟩ := hd
  obtain ⟨R0, host, wl, via⟩ := wl
  obtain ⟨W1, W2, ⟨kk, W3⟩, W4⟩ := W
  have hi' : i < vs.length := by rw [O.2.1]; exact (List.getElem?_eq_some_iff.mp hi).1
  obtain ⟨q1, q2, q3, q4, q5, q6, T, locs, X, eT, N, g⟩ := k
  obtain ⟨T', h', X', eT', Wr', st⟩ := Jvm.RoadKit.putF X q1 q5 q6 wl via eT (O.at i hi (List.getElem?_eq_getElem hi')) O.exa (W2.imp id fun q => ⟨q.1, q.2.1, q4.trans q.2.2⟩) W3 W4 hn hf (g := mkF m pc Ls (v :: .ref a :: St)) rfl rfl (by rw [q2]; exact hd)
  refine ⟨h', Keep.of_wr Wr', hv ▸ O.put W1 i hi Wr', q1, q2, q3, q4, q5, q6, T', _, X', eT', fun y hy => ?_, fun t q => g t (st t q)⟩
  rcases List.mem_append.mp hy with hy | hy
  · exact N y hy
  · rw [List.mem_singleton.mp hy]
theorem keep_same {s' : State} {locs : List Loc} {k n : Nat} (hs : s.sameButNew s' locs k n) (hL : ∀ y ∈ locs, y.base = a) : Keep s.heap s'.heap [a] := by
  refine ⟨hs.2.1, fun x c q hx => ?_, fun x c q => ?_⟩
  · obtain ⟨c', q1, q2, q3, q4⟩ := hs.2.2.2.2.2 x c q
    have : c'.slots = c.slots := Array.ext_getElem? fun i => q4 i fun hm => hx (List.mem_singleton.mpr (hL _ hm))
    rw [q1, q2, this]
  · obtain ⟨c', q1, q2, q3, -⟩ := hs.2.2.2.2.2 x c q
    exact ⟨c', q1, by rw [q2], by rw [q2], q3⟩
theorem unt_same {s' : State} {locs : List Loc} {k n : Nat} (hs : s.sameButNew s' locs k n) (U : Unt s.heap a) : Unt s'.heap a := by
  obtain ⟨c, u1, u2, u3⟩ := U
  obtain ⟨c', q1, q2, -⟩ := hs.2.2.2.2.2 a c u1
  exact ⟨c', q1, by rw [q2]; exact u2, by rw [q2]; exact u3⟩
abbrev rmT : Room := { frames := 3, cells := 1, slots := 2752, locals := 42 }
set_option maxHeartbeats 16000000 in
theorem thrInit {msg u w : Value} {w1 w2 w3 w4 w5 : Value} (hp : plainFor (ctor 1 tN) = true) (hl : l.stackTraces = true) (A : ∀ d ∈ thrA L.1, d.before a0 Z = true) (wi : (Cond.instantiable L.1 n).before a0 Z = true) (hB : topCode 1 = B) (wm : FL Z a0 tN 31 tN "detailMessage" msgD) (lk7 : FL Z a0 tN 7 tN "cause" thD) (lk13 : FL Z a0 tN 13 tN "UNASSIGNED_STACK" steD) (lk17 : FL Z a0 tN 17 tN "stackTrace" steD) (lk20 : FL Z a0 tN 20 tN "SUPPRESSED_SENTINEL" listD) (lk24 : FL Z a0 tN 24 tN "suppressedExceptions" listD)
    (K : LOk Z a0 L) (K1 : LOk Z a0 (excL L.1)) (i1 : Nat) (f1 : L.2[i1]? = some (tN, "cause", thD, w1)) (i2 : Nat) (f2 : L.2[i2]? = some (tN, "stackTrace", steD, w2)) (i3 : Nat) (f3 : L.2[i3]? = some (tN, "suppressedExceptions", listD, w3)) (i4 : Nat) (f4 : L.2[i4]? = some (tN, "backtrace", obD, w4)) (i5 : Nat) (f5 : L.2[i5]? = some (tN, "detailMessage", msgD, w5))
    (S1 : Sta Z Z.heap tN "UNASSIGNED_STACK" steD u) (hu : u.isRef = true) (S2 : Sta Z Z.heap tN "SUPPRESSED_SENTINEL" listD w) (hw : w.isRef = true) (O : ObjU Z h0 a L vs) (hm : msg.isRef = true) (ha : n0 ≤ a) (hvs : ((vs.set i1 (.ref a)).set i2 u).set i3 w = vs') (g2 : vs'[i2]? = some u) (g4 : vs'[i4]? = some .null) (g5 : vs'[i5]? = some .null) :
    MtF l (ctor 1 tN) (.code (ctor 1 tN) B 2 none) rmT #[.ref a, msg] Z h0 n0 (K0 h0 [a] fun h => Obj Z h a (excL L.1) [msg]) := by
  subst hB
  intro Od
  refine MetFree.of_bodySF hp hisR ?_
  intro p e s m args below meth c s₁ Bd hml hP hK
  obtain ⟨rfl, hZ, hh⟩ := hP
  have X : Stand p l e rmT s m _ below meth c s₁ [] 0 0 := Stand.of_body Bd
  have hT0 : ThS Z s.heap := by rw [hh]; exact ThS.start.ext Od.2
  have hef : ∀ m, entryFrame m #[.ref a, msg] 2 = mkF m 0 #[.val (.ref a), .val msg] [] := fun m => by
    rcases ref_cases hm with rfl | ⟨_, rfl⟩ <;> rfl
  have k : Wa a p l e rmT s m #[.ref a, msg] below meth c s₁ (entryFrame m #[.ref a, msg] 2) tN (topCode 1) 2 "<init>" Z h0 0 #[.val (.ref a), .val msg] [] := by
    refine ⟨Bd.exec, Bd.bytes, hml, (name_of_methodNamed Bd.named Bd.method).1, hZ, findClass_of_methodNamed Bd.named, s₁, [], X, ?_, fun y hy => (nomatch hy), fun t q => castTop (hef m) q⟩
    rw [← hh, Bd.state]; rfl
  have ld : ∀ {f d : String}, (Cond.lays L.1 tN f d) ∈ thrA L.1 → (Cond.lays L.1 tN f d).before a0 Z = true := fun q => A _ q
  replace k := (k.ald (v := .ref a) (by decide +kernel : Dc (topCode 1) 0 (.aload_n 0) 1 1) rfl rfl).obj (index := 1) (A (.methodLink tN 1 oInit) (by simp [thrA])) (A (.instanceMethod oInit) (by simp [thrA])) (A (.code oInit ⟨#[0xb1]⟩ 1 none) (by simp [thrA])) (by decide +kernel : Dc (topCode 1) 1 (.invokespecial 1) 3 4) rfl (by decide)
  replace k := (k.ald (v := .ref a) (by decide +kernel : Dc (topCode 1) 4 (.aload_n 0) 1 5) rfl rfl).ald (v := .ref a) (by decide +kernel : Dc (topCode 1) 5 (.aload_n 0) 1 6) rfl rfl
  obtain ⟨h1, K1', O1, k⟩ := k.pf lk7 (ty := .object "java/lang/Throwable") ⟨K, Or.inl (ld (by simp [thrA])), ⟨_, wi⟩, by decide +kernel⟩ O.1 i1 (by decide +kernel : Dc (topCode 1) 6 (.putfield 7) 3 9) f1 rfl rfl rfl
  have Od1 := Od.keep K1' (allS ha all0)
  replace k := (k.ald (v := .ref a) (by decide +kernel : Dc (topCode 1) 9 (.aload_n 0) 1 10) rfl rfl).gs lk13 (S1.ext Od1.2) (by decide +kernel : Dc (topCode 1) 10 (.getstatic 13) 3 13)
  obtain ⟨h2, K2, O2, k⟩ := k.pf lk17 (ty := .array (.object "java/lang/StackTraceElement")) ⟨K, Or.inl (ld (by simp [thrA])), ⟨_, wi⟩, by decide +kernel⟩ O1 i2 (by decide +kernel : Dc (topCode 1) 13 (.putfield 17) 3 16) f2 (narrow_isRef _ hu) (fits_refV_array _ ⟨u, hu⟩) rfl
  have Od2 := Od1.keep K2 (allS ha all0)
  replace k := (k.ald (v := .ref a) (by decide +kernel : Dc (topCode 1) 16 (.aload_n 0) 1 17) rfl rfl).gs lk20 (S2.ext Od2.2) (by decide +kernel : Dc (topCode 1) 17 (.getstatic 20) 3 20)
  obtain ⟨h3, K3, O3, k⟩ := k.pf lk24 (ty := .object "java/util/List") ⟨K, Or.inl (ld (by simp [thrA])), ⟨_, wi⟩, by decide +kernel⟩ O2 i3 (by decide +kernel : Dc (topCode 1) 20 (.putfield 24) 3 23) f3 (narrow_isRef _ hw) (fits_refV_object _ ⟨w, hw⟩) hvs
  have Od3 := Od2.keep K3 (allS ha all0)
  replace k := k.ald (v := .ref a) (by decide +kernel : Dc (topCode 1) 23 (.aload_n 0) 1 24) rfl rfl
  obtain ⟨q1, q2, q3, q4, q5, q6, T, locs, X, eT, N, g⟩ := k
  have U3 : Unt h3 a := by rw [← eT]; exact unt_same (s' := T.setVm s.vm) X.same (by rw [hh]; exact O.2)
  obtain ⟨T', L', kk, X', hk, hL', E', F', st⟩ := thrFill X q1 hl q5 q6 hT0 hK.1 hK.2 A wi eT hu O3.exa U3 (O3.at i2 f2 g2) (O3.at i4 f4 g4) (O3.at i5 f5 g5) (S1.ext Od3.2) (g := mkF m 24 #[.val (.ref a), .val msg] [.ref a]) rfl (by rw [q3]; rfl) rfl (by rw [q2]; exact (by decide +kernel : decode (topCode 1) 24 = .ok (.invokevirtual 27, 3))) (Nat.le_refl 0) (by decide) (by decide) (by decide) (by decide)
  have g1 : Goes p e below s₁ (entryFrame m #[.ref a, msg] 2) T' (mkF m 27 #[.val (.ref a), .val msg] [.ref a]) := fun t q => g t (st.trans q)
  have g2' := Fw.aloadN (Fw.aloadN (Fw.pop g1 X' q1 (by rw [q2]; decide +kernel) rfl (pc' := 28) rfl) X' q1 (i := 0) (v := .ref a) (by rw [q2]; decide +kernel) rfl rfl (pc' := 29) rfl) X' q1 (i := 1) (v := msg) (by rw [q2]; decide +kernel) rfl hm (pc' := 30) rfl
  obtain ⟨R0, host, wl, via⟩ := wm
  obtain ⟨T2, h4, X2, eT2, Wr2, st2⟩ := Jvm.RoadKit.putF X' q1 q5 q6 wl via rfl F' E' (Or.inl (ld (by simp [thrA]))) wi (ty := .object "java/lang/String") (by decide +kernel) (narrow_isRef _ hm) (fits_refV_object _ ⟨msg, hm⟩) (g := mkF m 30 #[.val (.ref a), .val msg] [msg, .ref a]) rfl rfl (by rw [q2]; exact (by decide +kernel : decode (topCode 1) 30 = .ok (.putfield 31, 3)))
  obtain ⟨fs, hr, hrun, hended, hW, hsame⟩ := X2.leave (v := none) (fun _ => rfl) (BodyLoose.notSynchronized Bd)
  have hb : ∀ y ∈ (locs ++ L') ++ [⟨a, Jvm.RoadKit.slotOf Z tN "detailMessage" msgD⟩], y.base = a := fun y hy => by
    rcases List.mem_append.mp hy with hy | hy
    · rcases List.mem_append.mp hy with hy | hy
      · exact N y hy
      · exact hL' y hy
    · rw [List.mem_singleton.mp hy]
  refine ⟨_, _, g2' _ (st2 _ (X2.returnOut (pc := 33) q1 Bd.returns (by rw [q2]; exact (by decide +kernel : decode (topCode 1) 33 = .ok (.return_, 1))) hr)), hrun, hended, none, _, rfl, ⟨fun y hy => by rw [hb y hy]; exact ha, rfl, ?_, ?_⟩, ⟨_, rfl⟩, hW, hsame.mono (by decide) (by show 0 + kk ≤ 2752; omega)⟩
  · rw [← hh]; exact keep_same (s' := T2.setVm s.vm) X2.same hb
  · show Obj Z T2.heap a (excL L.1) [msg]
    rw [eT2]
    refine ⟨E'.wr Wr2, rfl, fun i q v hq hv => ?_⟩
    match i with
    | 0 => cases hq; cases hv; exact F'.same Wr2
    | i + 1 => simp at hq
end Thr3
/-! decimal figures in a byte[] (z570, z849): what getChars writes -/
section Dec
def nd (m : Nat) : Nat := if m < 10 then 1 else nd (m / 10) + 1
theorem nd_lt {m : Nat} (h : m < 10) : nd m = 1 := by rw [nd, if_pos h]
theorem nd_ge {m : Nat} (h : ¬ m < 10) : nd m = nd (m / 10) + 1 := by rw [nd, if_neg h]
theorem nd_eq : ∀ (L m : Nat), (L = 0 ∨ 10 ^ L ≤ m) → m < 10 ^ (L + 1) → nd m = L + 1
  | 0, m, _, h => nd_lt (by simpa using h)
  | L + 1, m, h, h' => by
    have h : 10 ^ (L + 1) ≤ m := h.resolve_left (by omega)
    have p1 : 10 ^ (L + 1) = 10 ^ L * 10 := Nat.pow_succ 10 L
    have p2 : 10 ^ (L + 1 + 1) = 10 ^ (L + 1) * 10 := Nat.pow_succ 10 (L + 1)
    have p3 : 0 < 10 ^ L := Nat.pow_pos (by decide)
    rw [nd_ge (by omega), nd_eq L (m / 10) (Or.inr (by omega)) (by omega)]
theorem nd_100 {x : Nat} (h : 100 ≤ x) : nd x = nd (x / 100) + 2 := by
  rw [nd_ge (by omega), nd_ge (m := x / 10) (by omega), Nat.div_div_eq_div_mul]
def DGs (f : Nat → Int32) (e m n : Nat) : Prop := ∀ j, j < n → (f (e - 1 - j)).toInt = ((48 + m / 10 ^ j % 10 : Nat) : Int)
def GI (m e sg : Nat) (f1 f : Nat → Int32) (x c k : Nat) : Prop := x = m / 10 ^ k ∧ c + k = e ∧ nd x + sg ≤ c ∧ nd m = nd x + k ∧ DGs f e m k ∧ ∀ j, j < c → f j = f1 j
def GF (m e sg : Nat) (f1 f : Nat → Int32) : Prop := DGs f e m (nd m) ∧ (sg = 1 → f (e - nd m - 1) = 45) ∧ ∀ j, j < e - (nd m + sg) → f j = f1 j
theorem GI.start {m e sg : Nat} {f1 : Nat → Int32} (h : nd m + sg ≤ e) : GI m e sg f1 f1 m e 0 := ⟨by simp, rfl, h, rfl, fun j q => absurd q (Nat.not_lt_zero _), fun _ _ => rfl⟩
theorem updi_eq {f : Nat → Int32} {i : Nat} {v : Int32} : updi f i v i = v := if_pos rfl
theorem updi_ne {f : Nat → Int32} {i j : Nat} {v : Int32} (h : j ≠ i) : updi f i v j = f j := if_neg h
theorem GI.one {m e sg : Nat} {f1 f : Nat → Int32} {x c k : Nat} {o : Int32} (I : GI m e sg f1 f x c k) (hc : 0 < c) (ho : o.toInt = ((48 + x % 10 : Nat) : Int)) : x / 10 = m / 10 ^ (k + 1) ∧ DGs (updi f (c - 1) o) e m (k + 1) ∧ ∀ j, j < c - 1 → updi f (c - 1) o j = f1 j := by
  obtain ⟨e1, e2, e3, e4, e5, e6⟩ := I
  refine ⟨by rw [e1, Nat.div_div_eq_div_mul, Nat.pow_succ], fun j hj => ?_, fun j hj => ?_⟩
  · by_cases q : j = k
    · subst q
      rw [show e - 1 - j = c - 1 by omega, updi_eq, ho, e1]
    · rw [updi_ne (by omega)]; exact e5 j (by omega)
  · rw [updi_ne (by omega)]; exact e6 j (by omega)
theorem GI.turn {m e sg : Nat} {f1 f : Nat → Int32} {x c k : Nat} {o t : Int32} (I : GI m e sg f1 f x c k) (hx : 100 ≤ x) (ho : o.toInt = ((48 + x % 10 : Nat) : Int)) (ht : t.toInt = ((48 + x / 10 % 10 : Nat) : Int)) : GI m e sg f1 (updi (updi f (c - 1) o) (c - 1 - 1) t) (x / 100) (c - 1 - 1) (k + 2) := by
  have hn := nd_100 hx
  obtain ⟨e1, e2, e3, e4, e5, e6⟩ := id I
  obtain ⟨a1, a2, a3⟩ := I.one (by omega) ho
  have I2 : GI m e 0 f1 (updi f (c - 1) o) (x / 10) (c - 1) (k + 1) := ⟨a1, by omega, by have := nd_ge (m := x) (by omega); omega, by have := nd_ge (m := x) (by omega); omega, a2, a3⟩
  obtain ⟨b1, b2, b3⟩ := I2.one (by omega) ht
  exact ⟨by rw [← b1, Nat.div_div_eq_div_mul], by omega, by omega, by omega, b2, b3⟩
theorem GI.fin {m e sg : Nat} {f1 f f' : Nat → Int32} {x c k c' : Nat} (I : GI m e sg f1 f x c k) (hc : c' + nd x = c) (hd : DGs f' e m (nd m)) (hf : ∀ j, j < c' → f' j = f1 j) : (sg = 0 → GF m e sg f1 f') ∧ (sg = 1 → GF m e sg f1 (updi f' (c' - 1) 45)) := by
  obtain ⟨e1, e2, e3, e4, e5, e6⟩ := I
  refine ⟨fun h => ⟨hd, fun q => by omega, fun j q => hf j (by omega)⟩, fun h => ⟨fun j q => ?_, fun _ => ?_, fun j q => ?_⟩⟩
  · rw [updi_ne (by omega)]; exact hd j q
  · rw [show e - nd m - 1 = c' - 1 by omega, updi_eq]
  · rw [updi_ne (by omega)]; exact hf j (by omega)
theorem GI.end1 {m e sg : Nat} {f1 f : Nat → Int32} {x c k : Nat} {o : Int32} (I : GI m e sg f1 f x c k) (hx : x < 10) (ho : o.toInt = ((48 + x % 10 : Nat) : Int)) : (sg = 0 → GF m e sg f1 (updi f (c - 1) o)) ∧ (sg = 1 → GF m e sg f1 (updi (updi f (c - 1) o) (c - 1 - 1) 45)) := by
  have hn := nd_lt hx
  obtain ⟨e1, e2, e3, e4, e5, e6⟩ := id I
  obtain ⟨a1, a2, a3⟩ := I.one (by omega) ho
  exact I.fin (by omega) (by rw [e4, hn, Nat.add_comm]; exact a2) a3
theorem GI.end2 {m e sg : Nat} {f1 f : Nat → Int32} {x c k : Nat} {o t : Int32} (I : GI m e sg f1 f x c k) (hx : x < 100) (hx' : ¬ x < 10) (ho : o.toInt = ((48 + x % 10 : Nat) : Int)) (ht : t.toInt = ((48 + x / 10 % 10 : Nat) : Int)) : (sg = 0 → GF m e sg f1 (updi (updi f (c - 1) o) (c - 1 - 1) t)) ∧ (sg = 1 → GF m e sg f1 (updi (updi (updi f (c - 1) o) (c - 1 - 1) t) (c - 1 - 1 - 1) 45)) := by
  have hn := nd_ge hx'
  have hn2 := nd_lt (m := x / 10) (by omega)
  obtain ⟨e1, e2, e3, e4, e5, e6⟩ := id I
  obtain ⟨a1, a2, a3⟩ := I.one (by omega) ho
  have I2 : GI m e 0 f1 (updi f (c - 1) o) (x / 10) (c - 1) (k + 1) := ⟨a1, by omega, by omega, by omega, a2, a3⟩
  obtain ⟨b1, b2, b3⟩ := I2.one (by omega) ht
  exact I.fin (by omega) (by rw [e4, hn, hn2, show 1 + 1 + k = k + 1 + 1 by omega]; exact b2) b3
end Dec
section Dec2
theorem cm1 {c d : Int32} (e : d = c + (-1)) (h : 0 < c.toInt) : d.toInt = c.toInt - 1 ∧ d.toNatClampNeg = c.toNatClampNeg - 1 := by
  have r := rng32 c
  have z : (-1 : Int32).toInt = -1 := rfl
  have e := e_iaddN e (by omega)
  rw [clampNat, clampNat]
  omega
theorem n10 {r : Int32} {fO : Nat → Int32} {x : Nat} (h : ∀ i, i < 100 → fO i = Int32.ofNat (48 + i % 10)) (h1 : 0 ≤ r.toInt) (h2 : r.toInt < 100) (hx : r.toInt % 10 = ((x % 10 : Nat) : Int)) : (fO r.toNatClampNeg).toInt8.toInt32.toInt = ((48 + x % 10 : Nat) : Int) := by
  have e : (fO r.toNatClampNeg).toInt = ((48 + x % 10 : Nat) : Int) := by rw [clampNat, h _ (by omega), Int32.toInt_ofNat_of_lt (by omega)]; omega
  rw [e_i2bN (v := (fO r.toNatClampNeg).toInt8.toInt32) rfl (by omega), e]
theorem n100 {r : Int32} {fT : Nat → Int32} {x : Nat} (h : ∀ i, i < 100 → fT i = Int32.ofNat (48 + i / 10)) (h1 : 0 ≤ r.toInt) (h2 : r.toInt < 100) (hx : r.toInt / 10 = ((x % 10 : Nat) : Int)) : (fT r.toNatClampNeg).toInt8.toInt32.toInt = ((48 + x % 10 : Nat) : Int) := by
  have e : (fT r.toNatClampNeg).toInt = ((48 + x % 10 : Nat) : Int) := by rw [clampNat, h _ (by omega), Int32.toInt_ofNat_of_lt (by omega)]; omega
  rw [e_i2bN (v := (fT r.toNatClampNeg).toInt8.toInt32) rfl (by omega), e]
def GJ (m e sg : Nat) (f1 f : Nat → Int32) (N i c : Int32) (k : Nat) : Prop := i.toInt ≤ 0 ∧ 0 ≤ c.toInt ∧ c.toInt ≤ N.toInt ∧ GI m e sg f1 f (-i.toInt).toNat c.toNatClampNeg k
variable {m e sg k : Nat} {f1 f fO fT : Nat → Int32} {N i c p : Int32}
theorem nd_pos (x : Nat) : 1 ≤ nd x := by rw [nd]; split <;> omega
variable {c1 c2 c3 q r n : Int32}
theorem GJ.qr (dq : q = i / 100) (dr : r = q * 100 - i) (I : GJ m e sg f1 f N i c k) (h : ¬ ((-100) < i)) : q.toInt = -((-i.toInt) / 100) ∧ r.toInt = (-i.toInt) % 100 := by
  have r0 := rng32 i
  have z : (-100 : Int32).toInt = -100 := rfl
  have := i_nlt h
  have e1 := e_idivM dq 100 I.1
  obtain ⟨u, du⟩ : ∃ u, u = q * 100 := ⟨_, rfl⟩
  have e2 := e_imulN du 100 (by omega)
  rw [← du] at dr
  have e3 := e_isubN dr (by omega)
  omega
theorem GJ.pl (I : GJ m e sg f1 f N i c k) : (nd (-i.toInt).toNat + sg : Int) ≤ c.toInt := by
  have := I.2.2.2.2.2.1
  have := I.2.1
  rw [clampNat] at *
  omega
theorem GJ.bt (d1 : c1 = c + (-1)) (d2 : c2 = c1 + (-1)) (dq : q = i / 100) (dr : r = q * 100 - i) (I : GJ m e sg f1 f N i c k) (h : ¬ ((-100) < i)) : ¬ (c1 < 0) ∧ c1 < N ∧ ¬ (c2 < 0) ∧ c2 < N ∧ ¬ (r < 0) ∧ r < 100 := by
  have hq := I.qr dq dr h
  have hc := I.pl
  have z : (-100 : Int32).toInt = -100 := rfl
  have z0 : (0 : Int32).toInt = 0 := rfl
  have z1 : (100 : Int32).toInt = 100 := rfl
  have hh := i_nlt h
  have hn := nd_100 (x := (-i.toInt).toNat) (by omega)
  have := I.2.2.1
  have p1 := nd_pos ((-i.toInt).toNat / 100)
  have c1 := (cm1 d1 (by omega)).1
  have c2 := (cm1 d2 (by omega)).1
  refine ⟨o_nlt ?_, o_lt ?_, o_nlt ?_, o_lt ?_, o_nlt ?_, o_lt ?_⟩ <;> omega
theorem GJ.turn (d1 : c1 = c + (-1)) (d2 : c2 = c1 + (-1)) (dq : q = i / 100) (dr : r = q * 100 - i) (I : GJ m e sg f1 f N i c k) (h : ¬ ((-100) < i)) (hO : ∀ i, i < 100 → fO i = Int32.ofNat (48 + i % 10)) (hT : ∀ i, i < 100 → fT i = Int32.ofNat (48 + i / 10)) :
    GJ m e sg f1 (updi (updi f c1.toNatClampNeg (fO r.toNatClampNeg).toInt8.toInt32) c2.toNatClampNeg (fT r.toNatClampNeg).toInt8.toInt32) N q c2 (k + 2) := by
  have hq := I.qr dq dr h
  have hc := I.pl
  have z : (-100 : Int32).toInt = -100 := rfl
  have hh := i_nlt h
  have hn := nd_100 (x := (-i.toInt).toNat) (by omega)
  have := I.2.2.1
  have p1 := nd_pos ((-i.toInt).toNat / 100)
  have c1 := cm1 d1 (by omega)
  have c2 := cm1 d2 (by omega)
  refine ⟨by omega, by omega, by omega, ?_⟩
  have t := I.2.2.2.turn (by omega) (n10 hO (r := r) (by omega) (by omega) (by omega)) (n100 hT (r := r) (by omega) (by omega) (by omega))
  rw [c2.2, c1.2, show (-q.toInt).toNat = (-i.toInt).toNat / 100 by omega]
  exact t
theorem GJ.dec (dq : q = i / 100) (I : GJ m e sg f1 f N i c k) (h : ¬ ((-100) < i)) {n : Nat} (hx : (-i.toInt).toNat < n + 1) : (-q.toInt).toNat < n := by
  have hq := (I.qr dq rfl h).1
  have z : (-100 : Int32).toInt = -100 := rfl
  have hh := i_nlt h
  omega
theorem GJ.ng (h1 : i.toInt ≤ 0) (dn : n = -i) (h : (-100) < i) : n.toInt = -i.toInt ∧ -i.toInt < 100 := by
  have z : (-100 : Int32).toInt = -100 := rfl
  have := i_lt h
  have := e_inegN dn (by omega)
  omega
theorem GJ.b1 (d1 : c1 = c + (-1)) (dn : n = -i) (I : GJ m e sg f1 f N i c k) (h : (-100) < i) : ¬ (c1 < 0) ∧ c1 < N ∧ ¬ (n < 0) ∧ n < 100 := by
  have q := GJ.ng I.1 dn h
  have hc := I.pl
  have p1 := nd_pos (-i.toInt).toNat
  have z0 : (0 : Int32).toInt = 0 := rfl
  have z1 : (100 : Int32).toInt = 100 := rfl
  have := I.1
  have := I.2.2.1
  have c1 := (cm1 d1 (by omega)).1
  refine ⟨o_nlt ?_, o_lt ?_, o_nlt ?_, o_lt ?_⟩ <;> omega
theorem GJ.b2 (d1 : c1 = c + (-1)) (d2 : c2 = c1 + (-1)) (I : GJ m e sg f1 f N i c k) (h : i < (-9)) : ¬ (c2 < 0) ∧ c2 < N := by
  have z : (-9 : Int32).toInt = -9 := rfl
  have hh := i_lt h
  have hc := I.pl
  have p1 := nd_ge (m := (-i.toInt).toNat) (by omega)
  have p2 := nd_pos ((-i.toInt).toNat / 10)
  have z0 : (0 : Int32).toInt = 0 := rfl
  have := I.2.2.1
  have c1 := (cm1 d1 (by omega)).1
  have c2 := (cm1 d2 (by omega)).1
  refine ⟨o_nlt ?_, o_lt ?_⟩ <;> omega
theorem GJ.b1s (d1 : c1 = c + (-1)) (d2 : c2 = c1 + (-1)) (I : GJ m e sg f1 f N i c k) (hs : sg = 1) : ¬ (c2 < 0) ∧ c2 < N := by
  have hc := I.pl
  have p1 := nd_pos (-i.toInt).toNat
  have z0 : (0 : Int32).toInt = 0 := rfl
  have := I.2.2.1
  have c1 := (cm1 d1 (by omega)).1
  have c2 := (cm1 d2 (by omega)).1
  refine ⟨o_nlt ?_, o_lt ?_⟩ <;> omega
theorem GJ.b2s (d1 : c1 = c + (-1)) (d2 : c2 = c1 + (-1)) (d3 : c3 = c2 + (-1)) (I : GJ m e sg f1 f N i c k) (h : i < (-9)) (hs : sg = 1) : ¬ (c3 < 0) ∧ c3 < N := by
  have z : (-9 : Int32).toInt = -9 := rfl
  have hh := i_lt h
  have hc := I.pl
  have p1 := nd_ge (m := (-i.toInt).toNat) (by omega)
  have p2 := nd_pos ((-i.toInt).toNat / 10)
  have z0 : (0 : Int32).toInt = 0 := rfl
  have := I.2.2.1
  have c1 := (cm1 d1 (by omega)).1
  have c2 := (cm1 d2 (by omega)).1
  have c3 := (cm1 d3 (by omega)).1
  refine ⟨o_nlt ?_, o_lt ?_⟩ <;> omega
theorem GJ.e1 (d1 : c1 = c + (-1)) (d2 : c2 = c1 + (-1)) (dn : n = -i) (I : GJ m e sg f1 f N i c k) (h : (-100) < i) (h9 : ¬ (i < (-9))) (hO : ∀ i, i < 100 → fO i = Int32.ofNat (48 + i % 10)) :
    (sg = 0 → GF m e sg f1 (updi f c1.toNatClampNeg (fO n.toNatClampNeg).toInt8.toInt32)) ∧ (sg = 1 → GF m e sg f1 (updi (updi f c1.toNatClampNeg (fO n.toNatClampNeg).toInt8.toInt32) c2.toNatClampNeg 45)) := by
  have z : (-9 : Int32).toInt = -9 := rfl
  have hh := i_nlt h9
  have q := GJ.ng I.1 dn h
  have hc := I.pl
  have p1 := nd_pos (-i.toInt).toNat
  have := I.1
  have t := I.2.2.2.end1 (by omega) (n10 hO (r := n) (by omega) (by omega) (by omega))
  have c1 := cm1 d1 (by omega)
  rw [c1.2]
  refine ⟨t.1, fun s1 => ?_⟩
  have c2 := cm1 d2 (by omega)
  rw [c2.2, c1.2]
  exact t.2 s1
theorem GJ.e2 (d1 : c1 = c + (-1)) (d2 : c2 = c1 + (-1)) (d3 : c3 = c2 + (-1)) (dn : n = -i) (I : GJ m e sg f1 f N i c k) (h : (-100) < i) (h9 : i < (-9)) (hO : ∀ i, i < 100 → fO i = Int32.ofNat (48 + i % 10)) (hT : ∀ i, i < 100 → fT i = Int32.ofNat (48 + i / 10)) :
    (sg = 0 → GF m e sg f1 (updi (updi f c1.toNatClampNeg (fO n.toNatClampNeg).toInt8.toInt32) c2.toNatClampNeg (fT n.toNatClampNeg).toInt8.toInt32)) ∧ (sg = 1 → GF m e sg f1 (updi (updi (updi f c1.toNatClampNeg (fO n.toNatClampNeg).toInt8.toInt32) c2.toNatClampNeg (fT n.toNatClampNeg).toInt8.toInt32) c3.toNatClampNeg 45)) := by
  have z : (-9 : Int32).toInt = -9 := rfl
  have hh := i_lt h9
  have q := GJ.ng I.1 dn h
  have hc := I.pl
  have p1 := nd_ge (m := (-i.toInt).toNat) (by omega)
  have p2 := nd_pos ((-i.toInt).toNat / 10)
  have := I.1
  have t := I.2.2.2.end2 (by omega) (by omega) (n10 hO (r := n) (by omega) (by omega) (by omega)) (n100 hT (r := n) (by omega) (by omega) (by omega))
  have c1 := cm1 d1 (by omega)
  have c2 := cm1 d2 (by omega)
  rw [c2.2, c1.2]
  refine ⟨t.1, fun s1 => ?_⟩
  have c3 := cm1 d3 (by omega)
  rw [c3.2, c2.2, c1.2]
  exact t.2 s1
def sgnI (p : Int32) : Nat := if p < 0 then 1 else 0
def ssz (p : Int32) : Int32 := Int32.ofNat (nd p.toInt.natAbs + sgnI p)
theorem nd_le : ∀ (L m : Nat), m < 10 ^ (L + 1) → nd m ≤ L + 1
  | 0, m, h => by rw [nd_lt (by simpa using h)]; decide
  | L + 1, m, h => by
    by_cases q : m < 10
    · rw [nd_lt q]; omega
    · have := nd_le L (m / 10) (by have : 10 ^ (L + 1 + 1) = 10 ^ (L + 1) * 10 := Nat.pow_succ 10 (L + 1); omega)
      rw [nd_ge q]; omega
theorem sgnI_le (p : Int32) : sgnI p ≤ 1 := by unfold sgnI; split <;> decide
theorem ssz_int (p : Int32) : (ssz p).toInt = ((nd p.toInt.natAbs + sgnI p : Nat) : Int) ∧ 1 ≤ nd p.toInt.natAbs ∧ nd p.toInt.natAbs ≤ 10 ∧ sgnI p ≤ 1 := by
  have r := rng32 p
  have a := nd_le 9 p.toInt.natAbs (by have : (10 : Nat) ^ (9 + 1) = 10000000000 := by decide
                                       omega)
  have b := sgnI_le p
  exact ⟨Int32.toInt_ofNat_of_lt (by omega), nd_pos _, a, b⟩
theorem GJ.s1 {z q : Int32} (hz : z = ssz p) (h1 : ¬ (q < z)) (h2 : ¬ (N < q)) (hp : p < 0) : GJ p.toInt.natAbs q.toNatClampNeg (sgnI p) f1 f1 N p q 0 := by
  have a := ssz_int p
  rw [← hz] at a
  have := i_nlt h1; have := i_nlt h2; have := i_lt hp
  have z0 : (0 : Int32).toInt = 0 := rfl
  refine ⟨by omega, by omega, by omega, ?_⟩
  rw [show (-p.toInt).toNat = p.toInt.natAbs by omega]
  exact GI.start (by rw [clampNat]; omega)
theorem GJ.s0 {z q : Int32} (hz : z = ssz p) (h1 : ¬ (q < z)) (h2 : ¬ (N < q)) (hp : ¬ (p < 0)) : GJ p.toInt.natAbs q.toNatClampNeg (sgnI p) f1 f1 N (-p) q 0 := by
  have a := ssz_int p
  rw [← hz] at a
  have := i_nlt h1; have := i_nlt h2; have := i_nlt hp
  have z0 : (0 : Int32).toInt = 0 := rfl
  have e := e_inegN (v := -p) rfl (by omega)
  refine ⟨by omega, by omega, by omega, ?_⟩
  rw [show (-(-p).toInt).toNat = p.toInt.natAbs by omega]
  exact GI.start (by rw [clampNat]; omega)
end Dec2
def nz (p : Int32) : Nat := nd p.toInt.natAbs + sgnI p
def GN (f : Nat → Int32) (o : Nat) (p : Int32) : Prop := DGs f (o + nz p) p.toInt.natAbs (nd p.toInt.natAbs) ∧ (p < 0 → f o = 45)
theorem GN.congr {p : Int32} {o : Nat} {f g : Nat → Int32} (h : GN f o p) (e : ∀ j, o ≤ j → j < o + nz p → g j = f j) : GN g o p := by
  have := nd_pos p.toInt.natAbs
  refine ⟨fun j hj => ?_, fun q => ?_⟩
  · rw [e _ (by unfold nz; omega) (by unfold nz; omega)]; exact h.1 j hj
  · rw [e _ (by omega) (by unfold nz; omega)]; exact h.2 q
theorem cpyi_in {f g : Nat → Int32} {sp dp nn i : Nat} (h1 : dp ≤ i) (h2 : i < dp + nn) : cpyi f g sp dp nn i = f (i - dp + sp) := if_pos ⟨h1, h2⟩
theorem cpyi_out {f g : Nat → Int32} {sp dp nn i : Nat} (h : i < dp ∨ dp + nn ≤ i) : cpyi f g sp dp nn i = g i := if_neg (by omega)
theorem shl0 (x : Int32) : x <<< ((0 : Int32) &&& 31) = x := by
  obtain ⟨v, e⟩ : ∃ v, v = x <<< ((0 : Int32) &&& 31) := ⟨_, rfl⟩
  rw [← e]
  have := e_ishl e 0 1
  have := rng32 x
  exact o_eq (by omega)
theorem shr0 (x : Int32) : x >>> ((0 : Int32) &&& 31) = x := by
  obtain ⟨v, e⟩ : ∃ v, v = x >>> ((0 : Int32) &&& 31) := ⟨_, rfl⟩
  rw [← e]
  have := e_ishr e 0 1
  exact o_eq (by omega)
theorem Ary.len {Z : State} {h : Heap} {a : Addr} {T : String × FieldType} {n n' : Nat} {F : Nat → Value} (A : Ary Z h a T n F) (e : n = n') : Ary Z h a T n' F := e ▸ A
/-! the same for longs -/
section DecL
def GK (m e sg : Nat) (f1 f : Nat → Int32) (N : Int32) (i : Int64) (c : Int32) (k : Nat) : Prop := i.toInt ≤ 0 ∧ 0 ≤ c.toInt ∧ c.toInt ≤ N.toInt ∧ GI m e sg f1 f (-i.toInt).toNat c.toNatClampNeg k
variable {m e sg k : Nat} {f1 f fO fT : Nat → Int32} {N c c1 c2 r n : Int32} {i q p u w : Int64}
theorem GK.qr (dq : q = i / 100) (dr : r = (q * 100 - i).toInt32) (I : GK m e sg f1 f N i c k) (h : ¬ ((-2147483648) < i)) : q.toInt = -((-i.toInt) / 100) ∧ r.toInt = (-i.toInt) % 100 := by
  have r0 := rng64 i
  have z : (-2147483648 : Int64).toInt = -2147483648 := rfl
  have := j_nlt h
  have e1 := (e_ldiv dq 100).2 (by omega)
  obtain ⟨u, du⟩ : ∃ u, u = q * 100 := ⟨_, rfl⟩
  have e2 := e_lmul du 100
  obtain ⟨w, dw⟩ : ∃ w, w = q * 100 - i := ⟨_, rfl⟩
  rw [← dw] at dr
  rw [← du] at dw
  have e3 := e_lsub dw
  have e4 := e_l2i dr
  omega
theorem GK.pl (I : GK m e sg f1 f N i c k) : (nd (-i.toInt).toNat + sg : Int) ≤ c.toInt := by
  have := I.2.2.2.2.2.1
  have := I.2.1
  rw [clampNat] at *
  omega
theorem GK.bt (d1 : c1 = c + (-1)) (d2 : c2 = c1 + (-1)) (dq : q = i / 100) (dr : r = (q * 100 - i).toInt32) (I : GK m e sg f1 f N i c k) (h : ¬ ((-2147483648) < i)) : ¬ (c1 < 0) ∧ c1 < N ∧ ¬ (c2 < 0) ∧ c2 < N ∧ ¬ (r < 0) ∧ r < 100 := by
  have hq := I.qr dq dr h
  have hc := I.pl
  have z : (-2147483648 : Int64).toInt = -2147483648 := rfl
  have z0 : (0 : Int32).toInt = 0 := rfl
  have z1 : (100 : Int32).toInt = 100 := rfl
  have hh := j_nlt h
  have hn := nd_100 (x := (-i.toInt).toNat) (by omega)
  have := I.2.2.1
  have p1 := nd_pos ((-i.toInt).toNat / 100)
  have c1 := (cm1 d1 (by omega)).1
  have c2 := (cm1 d2 (by omega)).1
  refine ⟨o_nlt ?_, o_lt ?_, o_nlt ?_, o_lt ?_, o_nlt ?_, o_lt ?_⟩ <;> omega
theorem GK.turn (d1 : c1 = c + (-1)) (d2 : c2 = c1 + (-1)) (dq : q = i / 100) (dr : r = (q * 100 - i).toInt32) (I : GK m e sg f1 f N i c k) (h : ¬ ((-2147483648) < i)) (hO : ∀ i, i < 100 → fO i = Int32.ofNat (48 + i % 10)) (hT : ∀ i, i < 100 → fT i = Int32.ofNat (48 + i / 10)) :
    GK m e sg f1 (updi (updi f c1.toNatClampNeg (fO r.toNatClampNeg).toInt8.toInt32) c2.toNatClampNeg (fT r.toNatClampNeg).toInt8.toInt32) N q c2 (k + 2) := by
  have hq := I.qr dq dr h
  have hc := I.pl
  have z : (-2147483648 : Int64).toInt = -2147483648 := rfl
  have hh := j_nlt h
  have hn := nd_100 (x := (-i.toInt).toNat) (by omega)
  have := I.2.2.1
  have p1 := nd_pos ((-i.toInt).toNat / 100)
  have c1 := cm1 d1 (by omega)
  have c2 := cm1 d2 (by omega)
  refine ⟨by omega, by omega, by omega, ?_⟩
  have t := I.2.2.2.turn (by omega) (n10 hO (r := r) (by omega) (by omega) (by omega)) (n100 hT (r := r) (by omega) (by omega) (by omega))
  rw [c2.2, c1.2, show (-q.toInt).toNat = (-i.toInt).toNat / 100 by omega]
  exact t
theorem GK.dec (dq : q = i / 100) (I : GK m e sg f1 f N i c k) (h : ¬ ((-2147483648) < i)) {n : Nat} (hx : (-i.toInt).toNat < n + 1) : (-q.toInt).toNat < n := by
  have hq := (I.qr dq rfl h).1
  have z : (-2147483648 : Int64).toInt = -2147483648 := rfl
  have hh := j_nlt h
  omega
theorem GK.int {j : Int32} (dj : j = i.toInt32) (I : GK m e sg f1 f N i c k) (h : (-2147483648) < i) : GJ m e sg f1 f N j c k := by
  have z : (-2147483648 : Int64).toInt = -2147483648 := rfl
  have := j_lt h
  have := e_l2i dj
  have := I.1
  have ej : j.toInt = i.toInt := by omega
  unfold GJ
  rw [ej]
  exact I
def sgnL (p : Int64) : Nat := if p < 0 then 1 else 0
def sszL (p : Int64) : Int32 := Int32.ofNat (nd p.toInt.natAbs + sgnL p)
theorem sgnL_y (h : p < 0) : sgnL p = 1 := if_pos h
theorem sgnL_n (h : ¬ (p < 0)) : sgnL p = 0 := if_neg h
theorem sgnL_le (p : Int64) : sgnL p ≤ 1 := by unfold sgnL; split <;> decide
theorem sszL_int (p : Int64) : (sszL p).toInt = ((nd p.toInt.natAbs + sgnL p : Nat) : Int) ∧ 1 ≤ nd p.toInt.natAbs ∧ nd p.toInt.natAbs ≤ 19 ∧ sgnL p ≤ 1 := by
  have r := rng64 p
  have a := nd_le 18 p.toInt.natAbs (by have : (10 : Nat) ^ (18 + 1) = 10000000000000000000 := rfl
                                        omega)
  have b := sgnL_le p
  exact ⟨Int32.toInt_ofNat_of_lt (by omega), nd_pos _, a, b⟩
theorem e_sszL {v : Int32} {p : Int64} (e : v = sszL p) : 1 ≤ v.toInt ∧ v.toInt ≤ 20 := by subst e; have := sszL_int p; omega
def nzL (p : Int64) : Nat := nd p.toInt.natAbs + sgnL p
theorem nzL_int {v : Int32} {p : Int64} (e : v = sszL p) : v.toInt = nzL p ∧ 1 ≤ nzL p ∧ nzL p ≤ 20 := by subst e; have := sszL_int p; unfold nzL; omega
theorem GK.s1 {z q : Int32} (hz : z = sszL p) (h1 : ¬ (q < z)) (h2 : ¬ (N < q)) (hp : p < 0) : GK p.toInt.natAbs q.toNatClampNeg (sgnL p) f1 f1 N p q 0 := by
  have a := sszL_int p
  rw [← hz] at a
  have := i_nlt h1; have := i_nlt h2; have := j_lt hp
  have z0 : (0 : Int64).toInt = 0 := rfl
  refine ⟨by omega, by omega, by omega, ?_⟩
  rw [show (-p.toInt).toNat = p.toInt.natAbs by omega]
  exact GI.start (by rw [clampNat]; omega)
theorem GK.s0' {z q : Int32} {i : Int64} (di : i = -p) (hz : z = sszL p) (h1 : ¬ (q < z)) (h2 : ¬ (N < q)) (hp : ¬ (p < 0)) : GK p.toInt.natAbs q.toNatClampNeg (sgnL p) f1 f1 N i q 0 := by
  have a := sszL_int p
  rw [← hz] at a
  have := i_nlt h1; have := i_nlt h2; have := j_nlt hp
  have z0 : (0 : Int64).toInt = 0 := rfl
  have := rng64 p
  have e := e_lneg di
  refine ⟨by omega, by omega, by omega, ?_⟩
  rw [show (-i.toInt).toNat = p.toInt.natAbs by omega]
  exact GI.start (by rw [clampNat]; omega)
theorem GK.s0 {z q : Int32} (hz : z = sszL p) (h1 : ¬ (q < z)) (h2 : ¬ (N < q)) (hp : ¬ (p < 0)) : GK p.toInt.natAbs q.toNatClampNeg (sgnL p) f1 f1 N (-p) q 0 := GK.s0' rfl hz h1 h2 hp
def GNL (f : Nat → Int32) (o : Nat) (p : Int64) : Prop := DGs f (o + nzL p) p.toInt.natAbs (nd p.toInt.natAbs) ∧ (p < 0 → f o = 45)
theorem GF.numL {p : Int64} {e o : Nat} {f1 f : Nat → Int32} (h : GF p.toInt.natAbs e (sgnL p) f1 f) (he : e = o + nzL p) : GNL f o p ∧ ∀ j, j < o → f j = f1 j := by
  subst he
  obtain ⟨a, b, c⟩ := h
  refine ⟨⟨a, fun q => ?_⟩, fun j q => c j (by unfold nzL; omega)⟩
  have hs := sgnL_y q
  have := b hs
  rwa [show o + nzL p - nd p.toInt.natAbs - 1 = o by unfold nzL; omega] at this
theorem GNL.congr {p : Int64} {o : Nat} {f g : Nat → Int32} (h : GNL f o p) (e : ∀ j, o ≤ j → j < o + nzL p → g j = f j) : GNL g o p := by
  have := nd_pos p.toInt.natAbs
  refine ⟨fun j hj => ?_, fun q => ?_⟩
  · rw [e _ (by unfold nzL; omega) (by unfold nzL; omega)]; exact h.1 j hj
  · rw [e _ (by omega) (by unfold nzL; omega)]; exact h.2 q
end DecL
end Jvm.Own
namespace Jvm.Pilot.@@N@@
set_option maxRecDepth 65536
set_option maxHeartbeats 40000000
open Jvm Jvm.ClassFile Sem Op Lib Jvm.Free Jvm.Stand Jvm.LawKit Jvm.RoadKit Jvm.Own Bundle Jvm.Pilot.@@N@@.Jvm.D
def HW (a0 : Array Value) (Z : State) : Prop := ∀ d ∈ tables_1, d.before a0 Z = true
abbrev ATB : String × FieldType := ("[B", .byte)
abbrev ATC : String × FieldType := ("[C", .char)
abbrev rmk (f c s l : Nat) : Room := { frames := f, cells := c, slots := s, locals := l }
variable {l : Launch} {Z : State} {a0 : Array Value} {n0 : Nat} {h0 : Heap}
theorem HW.at (hw : HW a0 Z) (i : Nat) {d : Cond} (e : tables_1[i]? = some d) : d.before a0 Z = true := hw d (List.mem_of_getElem? e)

abbrev lo8 (c : Int32) : Int32 := (c >>> ((0 : Int32) &&& 31)).toInt8.toInt32
abbrev hi8 (c : Int32) : Int32 := (c >>> ((8 : Int32) &&& 31)).toInt8.toInt32
abbrev gcv (x y : Int32) : Int32 := (((x &&& 255) <<< ((0 : Int32) &&& 31)) ||| ((y &&& 255) <<< ((8 : Int32) &&& 31))).toUInt32.toUInt16.toUInt32.toInt32
abbrev latc (x : Int32) : Int32 := (x &&& 255).toUInt32.toUInt16.toUInt32.toInt32
theorem e_lo8 {v c : Int32} (e : v = lo8 c) : -128 ≤ v.toInt ∧ v.toInt < 128 := (e_i2b e).2
theorem e_hi8 {v c : Int32} (e : v = hi8 c) : -128 ≤ v.toInt ∧ v.toInt < 128 := (e_i2b e).2
theorem e_gcv {v x y : Int32} (e : v = gcv x y) : 0 ≤ v.toInt ∧ v.toInt < 65536 := (e_i2c e).2
theorem e_latc {v x : Int32} (e : v = latc x) : v.toInt = x.toInt % 256 := by
  subst e
  show ((x &&& 255).toUInt32.toUInt16.toUInt32.toInt32).toInt = _
  have c2 := e_mask (v := x &&& 255) rfl 8 256
  have c3 := c_i2c (x &&& 255)
  omega
def L7 : List Int32 := [58, 32, 108, 105, 110, 101, 32]
def L2 : List Int32 := [58, 32]
def Msg (f : Nat → Int32) (p1 p2 : Int32) (q : Int64) (f1 f2 : Nat → Int32) : Prop := (∀ i, i < p1.toNatClampNeg → f i = f1 i) ∧ (∀ j, j < 7 → f (p1.toNatClampNeg + j) = lvi L7 j) ∧ GNL f (p1.toNatClampNeg + 7) q ∧ (∀ j, j < 2 → f (p1.toNatClampNeg + 7 + nzL q + j) = lvi L2 j) ∧ ∀ i, i < p2.toNatClampNeg → f (p1.toNatClampNeg + 9 + nzL q + i) = f2 i
theorem msg_of {p1 p2 : Int32} {q : Int64} {f1 f2 A0 A1 B B' C' F : Nat → Int32} {E0 E2 E2s E3s : Nat} (h0 : E0 = p1.toNatClampNeg) (h2 : E2 = p1.toNatClampNeg + 7 + nzL q) (h2s : E2s = E2) (h3s : E3s = p1.toNatClampNeg + 9 + nzL q)
    (a : ∀ i, i < p1.toNatClampNeg → A0 i = f1 i) (b : ∀ i, i < p1.toNatClampNeg + 7 → A1 i = cpyi (lvi L7) A0 0 E0 7 i) (g : GF q.toInt.natAbs E2 (sgnL q) A1 B) (c : ∀ i, i < p1.toNatClampNeg + 7 + nzL q → B' i = B i)
    (d : ∀ i, i < p1.toNatClampNeg + 9 + nzL q → C' i = cpyi (lvi L2) B' 0 E2s 2 i) (e : ∀ i, i < p1.toNatClampNeg + 9 + nzL q + p2.toNatClampNeg → F i = cpyi f2 C' 0 E3s p2.toNatClampNeg i) : Msg F p1 p2 q f1 f2 := by
  subst h2s h0
  obtain ⟨n1, k1⟩ := g.numL h2
  unfold Msg
  generalize p1.toNatClampNeg = s at *
  have F1 : ∀ j, j < s + 9 + nzL q → F j = C' j := fun j hj => by rw [e j (by omega), cpyi_out (by omega)]
  have F2 : ∀ j, j < s + 7 + nzL q → F j = B j := fun j hj => by rw [F1 j (by omega), d j (by omega), cpyi_out (by omega), c j hj]
  refine ⟨fun i hi => ?_, fun j hj => ?_, n1.congr fun j q1 q2 => F2 j q2, fun j hj => ?_, fun i hi => ?_⟩
  · rw [F2 i (by omega), k1 i (by omega), b i (by omega), cpyi_out (by omega), a i hi]
  · rw [F2 _ (by omega), k1 _ (by omega), b _ (by omega), cpyi_in (by omega) (by omega), show s + j - s + 0 = j by omega]
  · rw [F1 _ (by omega), d _ (by omega), cpyi_in (by omega) (by omega), show s + 7 + nzL q + j - E2s + 0 = j by omega]
  · rw [e _ (by omega), cpyi_in (by omega) (by omega), show s + 9 + nzL q + i - E3s + 0 = i by omega]
theorem msg_pos {p1 p2 x0 x1 x2 x3 x4 s : Int32} {q : Int64} (a1 : ¬ (p1 < 0)) (a2 : p1 < 3) (a3 : ¬ (p2 < 0)) (a4 : p2 < 3) (hs : s = sszL q) (e0 : x0 = 0 + p1) (e1 : x1 = x0 + 7) (e2 : x2 = x1 + s) (e3 : x3 = x2 + 2) (e4 : x4 = x3 + p2) :
    (x0.toNatClampNeg = p1.toNatClampNeg ∧ x1.toNatClampNeg = p1.toNatClampNeg + 7 ∧ x2.toNatClampNeg = p1.toNatClampNeg + 7 + nzL q ∧ x3.toNatClampNeg = p1.toNatClampNeg + 9 + nzL q ∧ x4.toNatClampNeg = p1.toNatClampNeg + 9 + nzL q + p2.toNatClampNeg) ∧ p1.toNatClampNeg < 3 ∧ p2.toNatClampNeg < 3 ∧ nzL q ≤ 20 ∧ 1 ≤ nzL q := by
  have a := nzL_int hs
  have c0 : (0 : Int32).toInt = 0 := rfl
  have c7 : (7 : Int32).toInt = 7 := rfl
  have c2 : (2 : Int32).toInt = 2 := rfl
  have c3 : (3 : Int32).toInt = 3 := rfl
  have := i_nlt a1; have := i_lt a2; have := i_nlt a3; have := i_lt a4
  have := e_iaddN e0 (by omega)
  have := e_iaddN e1 (by omega)
  have := e_iaddN e2 (by omega)
  have := e_iaddN e3 (by omega)
  have := e_iaddN e4 (by omega)
  simp only [clampNat]
  omega
theorem ng16 {x y : Int32} (e : y = x - 16) (h : ¬ (0 < y)) (hx : x.toNatClampNeg < 1000) : x.toNatClampNeg ≤ 16 := by
  have c0 : (0 : Int32).toInt = 0 := rfl
  have c1 : (16 : Int32).toInt = 16 := rfl
  have := i_nlt h
  rw [clampNat] at *
  by_cases q : x.toInt < 0
  · omega
  · have := e_isubN e (by have := rng32 x; omega)
    omega
theorem lt_nlt {a b c : Int32} (h : a < b) (k : ¬ (c < b)) : a < c := by
  have := i_lt h; have := i_nlt k
  exact o_lt (by omega)
/-! the law's own helpers -/
def ndv (v : Int64) : Int32 := Int32.ofNat (nd v.toInt.natAbs)
theorem ndv_int {n : Int32} {v : Int64} (e : n = ndv v) : n.toInt = nd v.toInt.natAbs ∧ 1 ≤ nd v.toInt.natAbs ∧ nd v.toInt.natAbs ≤ 19 := by
  subst e
  have a := sszL_int v
  exact ⟨Int32.toInt_ofNat_of_lt (by omega), a.2.1, a.2.2.1⟩
theorem e_ndv {n : Int32} {v : Int64} (e : n = ndv v) : 1 ≤ n.toInt ∧ n.toInt ≤ 19 := by have := ndv_int e; omega
/-- v = line or -line, not positive -/
theorem vneg {q : Int64} (h : q < 0) : ndv q = sszL q - 1 := by
  obtain ⟨s, hs⟩ : ∃ s, s = sszL q := ⟨_, rfl⟩
  obtain ⟨n, hn⟩ : ∃ n, n = ndv q := ⟨_, rfl⟩
  obtain ⟨t, ht⟩ : ∃ t, t = s - 1 := ⟨_, rfl⟩
  rw [← hs, ← hn, ← ht]
  have a := sszL_int q
  rw [← hs, sgnL_y h] at a
  have b := ndv_int hn
  have c1 : (1 : Int32).toInt = 1 := rfl
  have := e_isubN ht (by omega)
  exact o_eq (by omega)
theorem vpos {q v : Int64} (e : v = -q) (h : ¬ (q < 0)) : ndv v = sszL q ∧ ¬ (0 < v) ∧ v.toInt.natAbs = q.toInt.natAbs := by
  have c0 : (0 : Int64).toInt = 0 := rfl
  have := j_nlt h
  have := rng64 q
  have := e_lneg e
  have h3 : v.toInt.natAbs = q.toInt.natAbs := by omega
  refine ⟨?_, u_nlt (by omega), h3⟩
  unfold ndv sszL
  rw [h3, sgnL_n h, Nat.add_zero]
theorem dig_eq {x l a b v : Int32} {m T d r n : Int64} (ed : d = m / T) (er : r = d % 10) (en : n = -r) (el : l = n.toInt32) (ea : a = 48 + l) (eb : b = a.toUInt32.toUInt16.toUInt32.toInt32) (ev : v = latc x) (hm : ¬ (0 < m)) (hT : 0 < T) (hd : x.toInt = 48 + (m.toInt.natAbs : Int) / T.toInt % 10) : v = b := by
  have z0 : (0 : Int64).toInt = 0 := rfl
  have z48 : (48 : Int32).toInt = 48 := rfl
  have h1 := j_nlt hm
  have h2 := j_lt hT
  have hn : (m.toInt.natAbs : Int) = -m.toInt := by omega
  rw [hn] at hd
  have q1 : d.toInt = -((-m.toInt) / T.toInt) := by
    have q := e_ldiv ed T.toInt ⟨rfl, fun q => by rw [q] at h2; exact absurd h2 (by decide)⟩
    rcases Int.lt_or_eq_of_le (show m.toInt ≤ 0 by omega) with h | h
    · exact q.2 h
    · rw [q.1 (by omega), h]; simp
  have p0 : 0 ≤ (-m.toInt) / T.toInt := Int.ediv_nonneg (by omega) (by omega)
  generalize (-m.toInt) / T.toInt = D at *
  have q2 : r.toInt = -(D % 10) := by
    have q := e_lrem er 10
    rcases Int.lt_or_eq_of_le (show d.toInt ≤ 0 by omega) with h | h
    · rw [q.2 h, q1]; omega
    · rw [q.1 (by omega), h]; omega
  have q2' := e_lneg en
  have q3 := e_l2i el
  have q4 := e_iaddN ea (by omega)
  have q5 := e_i2c eb
  have q6 := e_latc ev
  exact o_eq (by omega)
/-- the figure j of line, ahead of 'end' -/
theorem dg_at {f : Nat → Int32} {o : Nat} {q v T : Int64} {en k n a b : Int32} {j : Nat} (Q : GNL f o q) (he : en.toInt = o + nzL q) (hv : v.toInt.natAbs = q.toInt.natAbs) (hn : n = ndv v) (ea : a = en - 1) (eb : b = a - k) (hk : k.toInt = j) (ho : o < 100) (hj : k < n) (hT : T.toInt = (10 ^ j : Nat)) :
    ¬ (b < 0) ∧ b < en ∧ (f b.toNatClampNeg).toInt = 48 + (v.toInt.natAbs : Int) / T.toInt % 10 := by
  have a1 := ndv_int hn
  rw [hv] at a1
  have a2 := i_lt hj
  have z1 : (1 : Int32).toInt = 1 := rfl
  have z0 : (0 : Int32).toInt = 0 := rfl
  have a3 := sszL_int q
  have a4 : nzL q = nd q.toInt.natAbs + sgnL q := rfl
  have := e_isubN ea (by omega)
  have := e_isubN eb (by omega)
  refine ⟨o_nlt (by omega), o_lt (by omega), ?_⟩
  have g := Q.1 j (by omega)
  rw [show o + nzL q - 1 - j = b.toNatClampNeg by rw [clampNat]; omega] at g
  rw [g, hv, hT]
  simp
section AtL
variable {f fs fm : Nat → Int32} {p8 p9 : Int32} {q : Int64} {c d x k a b n en : Int32} {j : Nat}
theorem o_lt7 (x8 : ¬ (p8 < 0) ∧ p8 < 3) : p8.toNatClampNeg + 7 < 100 := by
  have := i_nlt x8.1; have := i_lt x8.2
  have : (3 : Int32).toInt = 3 := rfl
  rw [clampNat]; omega
theorem lt0 (h : q < 0) : ¬ (0 < q) := by
  have := j_lt h
  have : (0 : Int64).toInt = 0 := rfl
  exact u_nlt (by omega)
theorem atp_0 (M : Msg f p8 p9 q fs fm) (h : ¬ (p8 < 1)) (hc : 0 < p8 → latc (fs 0) = c) : latc (f (0 : Int32).toNatClampNeg) = c := by
  have := i_nlt h
  have : (1 : Int32).toInt = 1 := rfl
  have z : (0 : Int32).toInt = 0 := rfl
  rw [show (0 : Int32).toNatClampNeg = 0 from rfl, M.1 0 (by rw [clampNat]; omega)]
  exact hc (o_lt (by omega))
theorem atp_1 (M : Msg f p8 p9 q fs fm) (x8 : ¬ (p8 < 0) ∧ p8 < 3) (h : ¬ (p8 < 2)) (hc : 1 < p8 → latc (fs 1) = c) : latc (f (1 : Int32).toNatClampNeg) = c := by
  have := i_nlt h
  have : (2 : Int32).toInt = 2 := rfl
  have z : (1 : Int32).toInt = 1 := rfl
  rw [show (1 : Int32).toNatClampNeg = 1 from rfl, M.1 1 (by rw [clampNat]; omega)]
  exact hc (o_lt (by omega))
theorem pl8 (x8 : ¬ (p8 < 0) ∧ p8 < 3) (e : x = p8 + k) (hk : k.toInt = j) (hj : j < 100) : x.toNatClampNeg = p8.toNatClampNeg + j := by
  have := i_nlt x8.1; have := i_lt x8.2
  have : (3 : Int32).toInt = 3 := rfl
  have : (0 : Int32).toInt = 0 := rfl
  have := e_iaddN e (by omega)
  rw [clampNat, clampNat]; omega
theorem atp_L (M : Msg f p8 p9 q fs fm) (x8 : ¬ (p8 < 0) ∧ p8 < 3) (e : x = p8 + k) (hk : k.toInt = j) (hj : j < 7) (hd : latc (lvi L7 j) = d) : latc (f x.toNatClampNeg) = d := by
  rw [pl8 x8 e hk (by omega), M.2.1 j hj, hd]
theorem atp_M (M : Msg f p8 p9 q fs fm) (x8 : ¬ (p8 < 0) ∧ p8 < 3) (e : x = p8 + 7) (h : q < 0) : latc (f x.toNatClampNeg) = 45 := by
  rw [pl8 x8 e (j := 7) rfl (by omega), M.2.2.1.2 h]
  decide
theorem en_n (h : q < 0) (x8 : ¬ (p8 < 0) ∧ p8 < 3) (e1 : a = p8 + 7) (e2 : b = a + 1) (e3 : n = sszL q - 1) (e4 : en = b + n) : en.toInt = ((p8.toNatClampNeg + 7 : Nat) : Int) + nzL q := by
  obtain ⟨s, hs⟩ : ∃ s, s = sszL q := ⟨_, rfl⟩
  rw [← hs] at e3
  have q1 := nzL_int hs
  have := i_nlt x8.1; have := i_lt x8.2
  have : (3 : Int32).toInt = 3 := rfl
  have : (0 : Int32).toInt = 0 := rfl
  have : (1 : Int32).toInt = 1 := rfl
  have : (7 : Int32).toInt = 7 := rfl
  have := e_iaddN e1 (by omega)
  have := e_iaddN e2 (by omega)
  have := e_isubN e3 (by omega)
  have := e_iaddN e4 (by omega)
  rw [clampNat]; omega
theorem en_p (h : ¬ (q < 0)) (x8 : ¬ (p8 < 0) ∧ p8 < 3) (e1 : a = p8 + 7) (e2 : b = a + 0) (e3 : n = sszL q) (e4 : en = b + n) : en.toInt = ((p8.toNatClampNeg + 7 : Nat) : Int) + nzL q := by
  have q1 := nzL_int e3
  have := i_nlt x8.1; have := i_lt x8.2
  have : (3 : Int32).toInt = 3 := rfl
  have : (0 : Int32).toInt = 0 := rfl
  have : (7 : Int32).toInt = 7 := rfl
  have := e_iaddN e1 (by omega)
  have := e_iaddN e2 (by omega)
  have := e_iaddN e4 (by omega)
  rw [clampNat]; omega
theorem plE (x8 : ¬ (p8 < 0) ∧ p8 < 3) (he : en.toInt = ((p8.toNatClampNeg + 7 : Nat) : Int) + nzL q) (e : x = en + k) (hk : k.toInt = j) (hj : j < 100) : x.toNatClampNeg = p8.toNatClampNeg + 7 + nzL q + j := by
  have q1 := nzL_int (p := q) rfl
  have := o_lt7 x8
  have := e_iaddN e (by omega)
  rw [clampNat x]; omega
theorem atp_E (M : Msg f p8 p9 q fs fm) (x8 : ¬ (p8 < 0) ∧ p8 < 3) (he : en.toInt = ((p8.toNatClampNeg + 7 : Nat) : Int) + nzL q) (e : x = en + k) (hk : k.toInt = j) (hj : j < 2) (hd : latc (lvi L2 j) = d) : latc (f x.toNatClampNeg) = d := by
  rw [plE x8 he e hk (by omega), M.2.2.2.1 j hj, hd]
theorem atp_F {J j1 : Int32} (M : Msg f p8 p9 q fs fm) (x8 : ¬ (p8 < 0) ∧ p8 < 3) (he : en.toInt = ((p8.toNatClampNeg + 7 : Nat) : Int) + nzL q) (e : x = en + k) (hk : k.toInt = ((2 + j : Nat) : Int)) (x9 : ¬ (p9 < 0) ∧ p9 < 3) (h : ¬ (p9 < j1)) (hj : j1.toInt = ((j + 1 : Nat) : Int)) (hc : J < p9 → latc (fm j) = c) (hJ : J.toInt = j := by rfl) : latc (f x.toNatClampNeg) = c := by
  have := i_nlt h
  have := i_nlt x9.1; have := i_lt x9.2
  have : (3 : Int32).toInt = 3 := rfl
  rw [plE x8 he e hk (by omega), show p8.toNatClampNeg + 7 + nzL q + (2 + j) = p8.toNatClampNeg + 9 + nzL q + j by omega, M.2.2.2.2 j (by rw [clampNat]; omega)]
  exact hc (o_lt (by omega))
end AtL
theorem nd_lo : ∀ (k m : Nat), 10 ^ k ≤ m → k < nd m
  | 0, m, _ => nd_pos m
  | k + 1, m, h => by
    have p : 10 ^ (k + 1) = 10 ^ k * 10 := Nat.pow_succ 10 k
    have p3 : 0 < 10 ^ k := Nat.pow_pos (by decide)
    have := nd_lo k (m / 10) (by omega)
    rw [nd_ge (by omega)]; omega
def gef (v p : Int64) : Int32 := if (-p) < v then 0 else 1
theorem ds_0 {v : Int64} : (1 : Int32).toInt = ((min 1 (nd v.toInt.natAbs) : Nat) : Int) := by
  have := nd_pos v.toInt.natAbs
  rw [show min 1 (nd v.toInt.natAbs) = 1 by omega]; rfl
theorem ds_step {v p : Int64} {s s' g : Int32} (k : Nat) (h : ¬ (0 < v)) (hs : s.toInt = ((min (k + 1) (nd v.toInt.natAbs) : Nat) : Int)) (e : g = gef v p) (hp : (-p).toInt = -((10 ^ (k + 1) : Nat) : Int)) (f : s' = s + g) (hk : k < 100) : s'.toInt = ((min (k + 1 + 1) (nd v.toInt.natAbs) : Nat) : Int) := by
  have c0 : (0 : Int64).toInt = 0 := rfl
  have z0 : (0 : Int32).toInt = 0 := rfl
  have z1 : (1 : Int32).toInt = 1 := rfl
  have h1 := j_nlt h
  by_cases q : 10 ^ (k + 1) ≤ v.toInt.natAbs
  · have n1 := nd_lo _ _ q
    have hg : g = 1 := e.trans (if_neg (u_nlt (by omega)))
    subst hg
    have := e_iaddN f (by omega)
    omega
  · have n1 := nd_le k v.toInt.natAbs (by omega)
    have hg : g = 0 := e.trans (if_pos (u_lt (by omega)))
    subst hg
    have := e_iaddN f (by omega)
    omega
theorem ds_fin {v : Int64} {s : Int32} (hs : s.toInt = ((min (18 + 1) (nd v.toInt.natAbs) : Nat) : Int)) : s = ndv v := by
  have q := ndv_int (v := v) rfl
  exact o_eq (by omega)
abbrev TS_CS (Z : State) (w_CS : Int32) : Prop := Sta Z Z.heap "java/lang/String" "COMPACT_STRINGS" "Z" (.int w_CS)
abbrev TS_SF (Z : State) (w_SF : Value) : Prop := Sta Z Z.heap "jdk/internal/util/Preconditions" "SIOOBE_FORMATTER" "Ljava/util/function/BiFunction;" w_SF
abbrev TS_US (Z : State) (w_US : Value) : Prop := Sta Z Z.heap "java/lang/Throwable" "UNASSIGNED_STACK" "[Ljava/lang/StackTraceElement;" w_US
abbrev TS_SS (Z : State) (w_SS : Value) : Prop := Sta Z Z.heap "java/lang/Throwable" "SUPPRESSED_SENTINEL" "Ljava/util/List;" w_SS
abbrev TS_DO (Z : State) (w_DO : Addr) : Prop := Sta Z Z.heap "java/lang/Integer" "DigitOnes" "[B" (.ref w_DO)
abbrev TS_DT (Z : State) (w_DT : Addr) : Prop := Sta Z Z.heap "java/lang/Integer" "DigitTens" "[B" (.ref w_DT)
def Gl (Z : State) (w_CS : Int32) (w_SF : Value) (w_DO : Addr) (w_DT : Addr) (w_fO : Nat → Int32) (w_fT : Nat → Int32) (w_US : Value) (w_SS : Value) : Prop := TS_CS Z w_CS ∧ TS_SF Z w_SF ∧ TS_US Z w_US ∧ TS_SS Z w_SS ∧ TS_DO Z w_DO ∧ TS_DT Z w_DT ∧ w_SF.isRef = true ∧ w_US.isRef = true ∧ w_SS.isRef = true ∧ ¬ (w_CS = 0) ∧ Ary Z Z.heap w_DO ATB 100 (bv w_fO) ∧ Ary Z Z.heap w_DT ATB 100 (bv w_fT) ∧ (∀ i, i < 100 → w_fO i = Int32.ofNat (48 + i % 10)) ∧ (∀ i, i < 100 → w_fT i = Int32.ofNat (48 + i / 10))
theorem Gl.S_CS {w_CS : Int32} {w_SF : Value} {w_DO : Addr} {w_DT : Addr} {w_fO : Nat → Int32} {w_fT : Nat → Int32} {w_US : Value} {w_SS : Value} (G : Gl Z w_CS w_SF w_DO w_DT w_fO w_fT w_US w_SS) : TS_CS Z w_CS := G.1
theorem Gl.S_SF {w_CS : Int32} {w_SF : Value} {w_DO : Addr} {w_DT : Addr} {w_fO : Nat → Int32} {w_fT : Nat → Int32} {w_US : Value} {w_SS : Value} (G : Gl Z w_CS w_SF w_DO w_DT w_fO w_fT w_US w_SS) : TS_SF Z w_SF := G.2.1
theorem Gl.S_US {w_CS : Int32} {w_SF : Value} {w_DO : Addr} {w_DT : Addr} {w_fO : Nat → Int32} {w_fT : Nat → Int32} {w_US : Value} {w_SS : Value} (G : Gl Z w_CS w_SF w_DO w_DT w_fO w_fT w_US w_SS) : TS_US Z w_US := G.2.2.1
theorem Gl.S_SS {w_CS : Int32} {w_SF : Value} {w_DO : Addr} {w_DT : Addr} {w_fO : Nat → Int32} {w_fT : Nat → Int32} {w_US : Value} {w_SS : Value} (G : Gl Z w_CS w_SF w_DO w_DT w_fO w_fT w_US w_SS) : TS_SS Z w_SS := G.2.2.2.1
theorem Gl.S_DO {w_CS : Int32} {w_SF : Value} {w_DO : Addr} {w_DT : Addr} {w_fO : Nat → Int32} {w_fT : Nat → Int32} {w_US : Value} {w_SS : Value} (G : Gl Z w_CS w_SF w_DO w_DT w_fO w_fT w_US w_SS) : TS_DO Z w_DO := G.2.2.2.2.1
theorem Gl.S_DT {w_CS : Int32} {w_SF : Value} {w_DO : Addr} {w_DT : Addr} {w_fO : Nat → Int32} {w_fT : Nat → Int32} {w_US : Value} {w_SS : Value} (G : Gl Z w_CS w_SF w_DO w_DT w_fO w_fT w_US w_SS) : TS_DT Z w_DT := G.2.2.2.2.2.1
theorem Gl.r_SF {w_CS : Int32} {w_SF : Value} {w_DO : Addr} {w_DT : Addr} {w_fO : Nat → Int32} {w_fT : Nat → Int32} {w_US : Value} {w_SS : Value} (G : Gl Z w_CS w_SF w_DO w_DT w_fO w_fT w_US w_SS) : w_SF.isRef = true := G.2.2.2.2.2.2.1
theorem Gl.r_US {w_CS : Int32} {w_SF : Value} {w_DO : Addr} {w_DT : Addr} {w_fO : Nat → Int32} {w_fT : Nat → Int32} {w_US : Value} {w_SS : Value} (G : Gl Z w_CS w_SF w_DO w_DT w_fO w_fT w_US w_SS) : w_US.isRef = true := G.2.2.2.2.2.2.2.1
theorem Gl.r_SS {w_CS : Int32} {w_SF : Value} {w_DO : Addr} {w_DT : Addr} {w_fO : Nat → Int32} {w_fT : Nat → Int32} {w_US : Value} {w_SS : Value} (G : Gl Z w_CS w_SF w_DO w_DT w_fO w_fT w_US w_SS) : w_SS.isRef = true := G.2.2.2.2.2.2.2.2.1
theorem Gl.h_CS {w_CS : Int32} {w_SF : Value} {w_DO : Addr} {w_DT : Addr} {w_fO : Nat → Int32} {w_fT : Nat → Int32} {w_US : Value} {w_SS : Value} (G : Gl Z w_CS w_SF w_DO w_DT w_fO w_fT w_US w_SS) : ¬ (w_CS = 0) := G.2.2.2.2.2.2.2.2.2.1
theorem Gl.A_DO {w_CS : Int32} {w_SF : Value} {w_DO : Addr} {w_DT : Addr} {w_fO : Nat → Int32} {w_fT : Nat → Int32} {w_US : Value} {w_SS : Value} (G : Gl Z w_CS w_SF w_DO w_DT w_fO w_fT w_US w_SS) : Ary Z Z.heap w_DO ATB 100 (bv w_fO) := G.2.2.2.2.2.2.2.2.2.2.1
theorem Gl.A_DT {w_CS : Int32} {w_SF : Value} {w_DO : Addr} {w_DT : Addr} {w_fO : Nat → Int32} {w_fT : Nat → Int32} {w_US : Value} {w_SS : Value} (G : Gl Z w_CS w_SF w_DO w_DT w_fO w_fT w_US w_SS) : Ary Z Z.heap w_DT ATB 100 (bv w_fT) := G.2.2.2.2.2.2.2.2.2.2.2.1
theorem Gl.h_DO {w_CS : Int32} {w_SF : Value} {w_DO : Addr} {w_DT : Addr} {w_fO : Nat → Int32} {w_fT : Nat → Int32} {w_US : Value} {w_SS : Value} (G : Gl Z w_CS w_SF w_DO w_DT w_fO w_fT w_US w_SS) : (∀ i, i < 100 → w_fO i = Int32.ofNat (48 + i % 10)) := G.2.2.2.2.2.2.2.2.2.2.2.2.1
theorem Gl.h_DT {w_CS : Int32} {w_SF : Value} {w_DO : Addr} {w_DT : Addr} {w_fO : Nat → Int32} {w_fT : Nat → Int32} {w_US : Value} {w_SS : Value} (G : Gl Z w_CS w_SF w_DO w_DT w_fO w_fT w_US w_SS) : (∀ i, i < 100 → w_fT i = Int32.ofNat (48 + i / 10)) := G.2.2.2.2.2.2.2.2.2.2.2.2.2
variable {w_CS : Int32} {w_SF : Value} {w_DO : Addr} {w_DT : Addr} {w_fO : Nat → Int32} {w_fT : Nat → Int32} {w_US : Value} {w_SS : Value}
abbrev w_6 (hw : HW a0 Z) := hw.at 6 rfl
abbrev w_5 (hw : HW a0 Z) := hw.at 5 rfl
abbrev w_19 (hw : HW a0 Z) := hw.at 19 rfl
abbrev w_20 (hw : HW a0 Z) := hw.at 20 rfl
abbrev w_21 (hw : HW a0 Z) := hw.at 21 rfl
abbrev w_22 (hw : HW a0 Z) := hw.at 22 rfl
abbrev w_23 (hw : HW a0 Z) := hw.at 23 rfl
theorem strAt (hw : HW a0 Z) : ∀ a ∈ Bundle.stringAtoms, a.before a0 Z = true := allC (w_6 hw) (allC (w_5 hw) (allC (w_19 hw) (allC (w_20 hw) (allC (w_21 hw) (allC (w_22 hw) (allC (w_23 hw) (allN)))))))
abbrev w_18 (hw : HW a0 Z) := hw.at 18 rfl
abbrev w_135 (hw : HW a0 Z) := hw.at 135 rfl
abbrev w_109 (hw : HW a0 Z) := hw.at 109 rfl
theorem ewC (hw : HW a0 Z) : EW Z a0 consts_1 := (EW.cons (w_109 hw) (by decide) (EW.cons (w_135 hw) (by decide) (EW.cons (w_18 hw) (by decide) EW.nil)))
abbrev w_189 (hw : HW a0 Z) := hw.at 189 rfl
abbrev w_207 (hw : HW a0 Z) := hw.at 207 rfl
abbrev w_202 (hw : HW a0 Z) := hw.at 202 rfl
abbrev w_208 (hw : HW a0 Z) := hw.at 208 rfl
abbrev w_209 (hw : HW a0 Z) := hw.at 209 rfl
abbrev w_210 (hw : HW a0 Z) := hw.at 210 rfl
abbrev w_211 (hw : HW a0 Z) := hw.at 211 rfl
abbrev w_212 (hw : HW a0 Z) := hw.at 212 rfl
abbrev w_16 (hw : HW a0 Z) := hw.at 16 rfl
abbrev w_17 (hw : HW a0 Z) := hw.at 17 rfl
abbrev w_191 (hw : HW a0 Z) := hw.at 191 rfl
abbrev w_200 (hw : HW a0 Z) := hw.at 200 rfl
abbrev w_213 (hw : HW a0 Z) := hw.at 213 rfl
abbrev w_192 (hw : HW a0 Z) := hw.at 192 rfl
abbrev w_195 (hw : HW a0 Z) := hw.at 195 rfl
abbrev w_198 (hw : HW a0 Z) := hw.at 198 rfl
abbrev w_194 (hw : HW a0 Z) := hw.at 194 rfl
abbrev w_220 (hw : HW a0 Z) := hw.at 220 rfl
abbrev w_197 (hw : HW a0 Z) := hw.at 197 rfl
abbrev w_221 (hw : HW a0 Z) := hw.at 221 rfl
abbrev w_201 (hw : HW a0 Z) := hw.at 201 rfl
abbrev w_222 (hw : HW a0 Z) := hw.at 222 rfl
abbrev w_203 (hw : HW a0 Z) := hw.at 203 rfl
abbrev w_193 (hw : HW a0 Z) := hw.at 193 rfl
abbrev w_196 (hw : HW a0 Z) := hw.at 196 rfl
abbrev w_199 (hw : HW a0 Z) := hw.at 199 rfl
abbrev w_223 (hw : HW a0 Z) := hw.at 223 rfl
abbrev w_218 (hw : HW a0 Z) := hw.at 218 rfl
abbrev w_224 (hw : HW a0 Z) := hw.at 224 rfl
abbrev w_204 (hw : HW a0 Z) := hw.at 204 rfl
abbrev w_205 (hw : HW a0 Z) := hw.at 205 rfl
abbrev w_206 (hw : HW a0 Z) := hw.at 206 rfl
abbrev w_225 (hw : HW a0 Z) := hw.at 225 rfl
theorem thrW (hw : HW a0 Z) : ∀ d ∈ thrA "com/example/fala/fala/format/InvalidInputException", d.before a0 Z = true := allC (w_189 hw) (allC (w_207 hw) (allC (w_202 hw) (allC (w_208 hw) (allC (w_209 hw) (allC (w_210 hw) (allC (w_211 hw) (allC (w_212 hw) (allC (w_16 hw) (allC (w_17 hw) (allC (w_191 hw) (allC (w_200 hw) (allC (w_213 hw) (allC (w_192 hw) (allC (w_195 hw) (allC (w_198 hw) (allC (w_194 hw) (allC (w_220 hw) (allC (w_197 hw) (allC (w_221 hw) (allC (w_201 hw) (allC (w_222 hw) (allC (w_203 hw) (allC (w_193 hw) (allC (w_196 hw) (allC (w_199 hw) (allC (w_223 hw) (allC (w_218 hw) (allC (w_224 hw) (allC (w_204 hw) (allC (w_205 hw) (allC (w_206 hw) (allC (w_225 hw) (allN)))))))))))))))))))))))))))))))))
abbrev L_InvalidInputException : Jvm.Own.Lay := ("com/example/fala/fala/format/InvalidInputException", [("java/lang/Throwable", "cause", "Ljava/lang/Throwable;", .null), ("java/lang/Throwable", "stackTrace", "[Ljava/lang/StackTraceElement;", .null), ("java/lang/Throwable", "suppressedExceptions", "Ljava/util/List;", .null), ("java/lang/Throwable", "detailMessage", "Ljava/lang/String;", .null), ("java/lang/Throwable", "backtrace", "Ljava/lang/Object;", .null), ("java/lang/Throwable", "depth", "I", (.int 0))])
theorem dvL_InvalidInputException : (L_InvalidInputException.2.map fun q => q.2.2.2) = [.null, .null, .null, .null, .null, (.int 0)] := rfl
theorem okL_InvalidInputException (hw : HW a0 Z) : LOk Z a0 L_InvalidInputException := ⟨allC ⟨Or.inl (w_193 hw), (.object "java/lang/Throwable"), by decide +kernel, rfl⟩ (allC ⟨Or.inl (w_196 hw), (.array (.object "java/lang/StackTraceElement")), by decide +kernel, rfl⟩ (allC ⟨Or.inl (w_199 hw), (.object "java/util/List"), by decide +kernel, rfl⟩ (allC ⟨Or.inl (w_223 hw), (.object "java/lang/String"), by decide +kernel, rfl⟩ (allC ⟨Or.inl (w_224 hw), (.object "java/lang/Object"), by decide +kernel, rfl⟩ (allC ⟨Or.inl (w_225 hw), .int, by decide +kernel, rfl⟩ (allN)))))), by decide +kernel⟩
abbrev Y0 : MethodName := ⟨"java/lang/Throwable", "<init>", "(Ljava/lang/String;)V"⟩
abbrev J0 := jdk_78_method_2_code
abbrev C0 : Cond := .code Y0 J0 2 none
abbrev L_exc : Jvm.Own.Lay := excL "com/example/fala/fala/format/InvalidInputException"
theorem okL_exc (hw : HW a0 Z) : LOk Z a0 L_exc := ⟨allC ⟨Or.inl (w_223 hw), .object "java/lang/String", by decide +kernel, rfl⟩ allN, by decide +kernel⟩
theorem pn_Throwable : plainName "java/lang/Throwable" = true := by first | (simp [plainName, overriddenIn]; done) | decide +kernel
theorem PN0 : plainFor Y0 = true := plainFor_of_name pn_Throwable
abbrev w_42 (hw : HW a0 Z) := hw.at 42 rfl
abbrev w_227 (hw : HW a0 Z) := hw.at 227 rfl
theorem fl_227 (hw : HW a0 Z) : FL Z a0 "java/lang/Throwable" 31 "java/lang/Throwable" "detailMessage" "Ljava/lang/String;" := ⟨_, "", Or.inl (w_227 hw), Via.refl⟩
theorem fl_192 (hw : HW a0 Z) : FL Z a0 "java/lang/Throwable" 7 "java/lang/Throwable" "cause" "Ljava/lang/Throwable;" := ⟨_, "", Or.inl (w_192 hw), Via.refl⟩
theorem fl_194 (hw : HW a0 Z) : FL Z a0 "java/lang/Throwable" 13 "java/lang/Throwable" "UNASSIGNED_STACK" "[Ljava/lang/StackTraceElement;" := ⟨_, "", Or.inl (w_194 hw), Via.refl⟩
theorem fl_195 (hw : HW a0 Z) : FL Z a0 "java/lang/Throwable" 17 "java/lang/Throwable" "stackTrace" "[Ljava/lang/StackTraceElement;" := ⟨_, "", Or.inl (w_195 hw), Via.refl⟩
theorem fl_197 (hw : HW a0 Z) : FL Z a0 "java/lang/Throwable" 20 "java/lang/Throwable" "SUPPRESSED_SENTINEL" "Ljava/util/List;" := ⟨_, "", Or.inl (w_197 hw), Via.refl⟩
theorem fl_198 (hw : HW a0 Z) : FL Z a0 "java/lang/Throwable" 24 "java/lang/Throwable" "suppressedExceptions" "Ljava/util/List;" := ⟨_, "", Or.inl (w_198 hw), Via.refl⟩
theorem R_thr {a1 a2 : Addr} (hw : HW a0 Z) (G : Gl Z w_CS w_SF w_DO w_DT w_fO w_fT w_US w_SS) (hst : l.stackTraces = true) (O : ObjU Z h0 a1 L_InvalidInputException [.null, .null, .null, .null, .null, .int 0]) (N : n0 ≤ a1) : MtF l Y0 C0 rmT #[.ref a1, .ref a2] Z h0 n0 (K0 h0 [a1] fun h => Obj Z h a1 L_exc [.ref a2]) :=
  thrInit (a0 := a0) (L := L_InvalidInputException) PN0 hst (thrW hw) (w_42 hw) rfl (fl_227 hw) (fl_192 hw) (fl_194 hw) (fl_195 hw) (fl_197 hw) (fl_198 hw) (okL_InvalidInputException hw) (okL_exc hw) 0 rfl 1 rfl 2 rfl 4 rfl 3 rfl G.S_US G.r_US G.S_SS G.r_SS O rfl N rfl rfl rfl rfl
abbrev Y1 : MethodName := ⟨"java/lang/Exception", "<init>", "(Ljava/lang/String;)V"⟩
abbrev J1 := jdk_59_method_2_code
abbrev C1 : Cond := .code Y1 J1 2 none
theorem D1_0 : Dc J1 0 (.aload_n 0) 1 1 := by decide +kernel
theorem D1_1 : Dc J1 1 (.aload_n 1) 1 2 := by decide +kernel
theorem D1_2 : Dc J1 2 (.invokespecial 7) 3 5 := by decide +kernel
abbrev w_185 (hw : HW a0 Z) := hw.at 185 rfl
abbrev w_190 (hw : HW a0 Z) := hw.at 190 rfl
theorem pd_Ljava_lang_String_r_V : parseMethodDescriptor "(Ljava/lang/String;)V" = some ⟨[(.object "java/lang/String")], none⟩ := by decide +kernel
abbrev w_186 (hw : HW a0 Z) := hw.at 186 rfl
theorem I0 (hw : HW a0 Z) : IC Z a0 Y0 C0 2 1 := ⟨(w_186 hw), rfl, ⟨⟨_, Or.inl rfl⟩, (w_190 hw), (w_189 hw), by decide, _, _, pd_Ljava_lang_String_r_V, rfl⟩⟩
theorem D1_5 : Dc J1 5 .return_ 1 6 := by decide +kernel
theorem pn_Exception : plainName "java/lang/Exception" = true := by first | (simp [plainName, overriddenIn]; done) | decide +kernel
theorem PN1 : plainFor Y1 = true := plainFor_of_name pn_Exception
theorem ef_RR_2 {x0 : Addr} {x1 : Addr}  (m : MethodId) : entryFrame m #[(.ref x0), (.ref x1)] 2 = mkF m 0 #[.val (.ref x0), .val (.ref x1)] [] := by
  first | (simp [entryFrame, mkF, argsToLocals, Value.category]; done) | rfl
theorem R_exi {a1 a2 : Addr} (hw : HW a0 Z) (G : Gl Z w_CS w_SF w_DO w_DT w_fO w_fT w_US w_SS) (hst : l.stackTraces = true) (O : ObjU Z h0 a1 L_InvalidInputException [.null, .null, .null, .null, .null, .int 0]) (N : n0 ≤ a1) : MtF l Y1 C1 (rmk 4 1 2752 55) #[.ref a1, .ref a2] Z h0 n0 (K0 h0 [a1] fun h => Obj Z h a1 L_exc [.ref a2]) := by
  refine MtF.go (a0 := a0) PN1 ef_RR_2 fun k kn => ?_
  replace k := k |>.aloadN D1_0 rfl rfl |>.aloadN D1_1 rfl rfl
  obtain ⟨h1, K1, O1, k⟩ := (k.callIF (w_185 hw) (I0 hw) (R_thr hw G hst O N) kn D1_2 0 rfl).k0 (allS N all0)
  exact k.ret0 D1_5 rfl ⟨rfl, K1, O1⟩
abbrev Y2 : MethodName := ⟨"com/example/fala/fala/format/InvalidInputException", "<init>", "(Ljava/lang/String;)V"⟩
abbrev J2 := prog_33_method_1_code
abbrev C2 : Cond := .code Y2 J2 2 none
theorem D2_0 : Dc J2 0 (.aload_n 0) 1 1 := by decide +kernel
theorem D2_1 : Dc J2 1 (.aload_n 1) 1 2 := by decide +kernel
theorem D2_2 : Dc J2 2 (.invokespecial 1) 3 5 := by decide +kernel
abbrev w_180 (hw : HW a0 Z) := hw.at 180 rfl
abbrev w_184 (hw : HW a0 Z) := hw.at 184 rfl
abbrev w_183 (hw : HW a0 Z) := hw.at 183 rfl
abbrev w_181 (hw : HW a0 Z) := hw.at 181 rfl
theorem I1 (hw : HW a0 Z) : IC Z a0 Y1 C1 2 1 := ⟨(w_181 hw), rfl, ⟨⟨_, Or.inl rfl⟩, (w_184 hw), (w_183 hw), by decide, _, _, pd_Ljava_lang_String_r_V, rfl⟩⟩
theorem D2_5 : Dc J2 5 .return_ 1 6 := by decide +kernel
theorem pn_InvalidInputException : plainName "com/example/fala/fala/format/InvalidInputException" = true := by first | (simp [plainName, overriddenIn]; done) | decide +kernel
theorem PN2 : plainFor Y2 = true := plainFor_of_name pn_InvalidInputException
theorem R_iei {a1 a2 : Addr} (hw : HW a0 Z) (G : Gl Z w_CS w_SF w_DO w_DT w_fO w_fT w_US w_SS) (hst : l.stackTraces = true) (O : ObjU Z h0 a1 L_InvalidInputException [.null, .null, .null, .null, .null, .int 0]) (N : n0 ≤ a1) : MtF l Y2 C2 (rmk 5 1 2752 68) #[.ref a1, .ref a2] Z h0 n0 (K0 h0 [a1] fun h => Obj Z h a1 L_exc [.ref a2]) := by
  refine MtF.go (a0 := a0) PN2 ef_RR_2 fun k kn => ?_
  replace k := k |>.aloadN D2_0 rfl rfl |>.aloadN D2_1 rfl rfl
  obtain ⟨h1, K1, O1, k⟩ := (k.callIF (w_180 hw) (I1 hw) (R_exi hw G hst O N) kn D2_2 0 rfl).k0 (allS N all0)
  exact k.ret0 D2_5 rfl ⟨rfl, K1, O1⟩
theorem sszL_of {p : Int64} (L s : Nat) (hn : nd p.toInt.natAbs = L) (hs : sgnL p = s) : Int32.ofNat (L + s) = sszL p := by unfold sszL; rw [hn, hs]
theorem sln0 {p x : Int64} (e : p = x) (hp : p < 0) (b : (-10) < x) : Int32.ofNat 2 = sszL p := by
  subst e
  have := j_lt hp
  have := j_lt b
  have : (-10 : Int64).toInt = -10 := rfl
  have : (10 : Nat) ^ 0 = 1 := rfl
  have : (10 : Nat) ^ (0 + 1) = 10 := rfl
  have := rng64 p
  have : (0 : Int64).toInt = 0 := rfl
  exact sszL_of 1 1 (nd_eq 0 p.toInt.natAbs (Or.inl rfl) (by omega)) (sgnL_y hp)
theorem slp0 {p x : Int64} (e : x = -p) (hp : ¬ (p < 0)) (b : (-10) < x) : Int32.ofNat 1 = sszL p := by
  have := j_nlt hp
  have := j_lt b
  have : (-10 : Int64).toInt = -10 := rfl
  have : (10 : Nat) ^ 0 = 1 := rfl
  have : (10 : Nat) ^ (0 + 1) = 10 := rfl
  have := rng64 p
  have : (0 : Int64).toInt = 0 := rfl
  have := e_lneg e
  exact sszL_of 1 0 (nd_eq 0 p.toInt.natAbs (Or.inl rfl) (by omega)) (sgnL_n hp)
theorem sln1 {p x : Int64} (e : p = x) (hp : p < 0) (a : ¬ ((-10) < x)) (b : (-100) < x) : Int32.ofNat 3 = sszL p := by
  subst e
  have := j_lt hp
  have := j_nlt a
  have : (-10 : Int64).toInt = -10 := rfl
  have := j_lt b
  have : (-100 : Int64).toInt = -100 := rfl
  have : (10 : Nat) ^ 1 = 10 := rfl
  have : (10 : Nat) ^ (1 + 1) = 100 := rfl
  have := rng64 p
  have : (0 : Int64).toInt = 0 := rfl
  exact sszL_of 2 1 (nd_eq 1 p.toInt.natAbs (Or.inr (by omega)) (by omega)) (sgnL_y hp)
theorem slp1 {p x : Int64} (e : x = -p) (hp : ¬ (p < 0)) (a : ¬ ((-10) < x)) (b : (-100) < x) : Int32.ofNat 2 = sszL p := by
  have := j_nlt hp
  have := j_nlt a
  have : (-10 : Int64).toInt = -10 := rfl
  have := j_lt b
  have : (-100 : Int64).toInt = -100 := rfl
  have : (10 : Nat) ^ 1 = 10 := rfl
  have : (10 : Nat) ^ (1 + 1) = 100 := rfl
  have := rng64 p
  have : (0 : Int64).toInt = 0 := rfl
  have := e_lneg e
  exact sszL_of 2 0 (nd_eq 1 p.toInt.natAbs (Or.inr (by omega)) (by omega)) (sgnL_n hp)
theorem sln2 {p x : Int64} (e : p = x) (hp : p < 0) (a : ¬ ((-100) < x)) (b : (-1000) < x) : Int32.ofNat 4 = sszL p := by
  subst e
  have := j_lt hp
  have := j_nlt a
  have : (-100 : Int64).toInt = -100 := rfl
  have := j_lt b
  have : (-1000 : Int64).toInt = -1000 := rfl
  have : (10 : Nat) ^ 2 = 100 := rfl
  have : (10 : Nat) ^ (2 + 1) = 1000 := rfl
  have := rng64 p
  have : (0 : Int64).toInt = 0 := rfl
  exact sszL_of 3 1 (nd_eq 2 p.toInt.natAbs (Or.inr (by omega)) (by omega)) (sgnL_y hp)
theorem slp2 {p x : Int64} (e : x = -p) (hp : ¬ (p < 0)) (a : ¬ ((-100) < x)) (b : (-1000) < x) : Int32.ofNat 3 = sszL p := by
  have := j_nlt hp
  have := j_nlt a
  have : (-100 : Int64).toInt = -100 := rfl
  have := j_lt b
  have : (-1000 : Int64).toInt = -1000 := rfl
  have : (10 : Nat) ^ 2 = 100 := rfl
  have : (10 : Nat) ^ (2 + 1) = 1000 := rfl
  have := rng64 p
  have : (0 : Int64).toInt = 0 := rfl
  have := e_lneg e
  exact sszL_of 3 0 (nd_eq 2 p.toInt.natAbs (Or.inr (by omega)) (by omega)) (sgnL_n hp)
theorem sln3 {p x : Int64} (e : p = x) (hp : p < 0) (a : ¬ ((-1000) < x)) (b : (-10000) < x) : Int32.ofNat 5 = sszL p := by
  subst e
  have := j_lt hp
  have := j_nlt a
  have : (-1000 : Int64).toInt = -1000 := rfl
  have := j_lt b
  have : (-10000 : Int64).toInt = -10000 := rfl
  have : (10 : Nat) ^ 3 = 1000 := rfl
  have : (10 : Nat) ^ (3 + 1) = 10000 := rfl
  have := rng64 p
  have : (0 : Int64).toInt = 0 := rfl
  exact sszL_of 4 1 (nd_eq 3 p.toInt.natAbs (Or.inr (by omega)) (by omega)) (sgnL_y hp)
theorem slp3 {p x : Int64} (e : x = -p) (hp : ¬ (p < 0)) (a : ¬ ((-1000) < x)) (b : (-10000) < x) : Int32.ofNat 4 = sszL p := by
  have := j_nlt hp
  have := j_nlt a
  have : (-1000 : Int64).toInt = -1000 := rfl
  have := j_lt b
  have : (-10000 : Int64).toInt = -10000 := rfl
  have : (10 : Nat) ^ 3 = 1000 := rfl
  have : (10 : Nat) ^ (3 + 1) = 10000 := rfl
  have := rng64 p
  have : (0 : Int64).toInt = 0 := rfl
  have := e_lneg e
  exact sszL_of 4 0 (nd_eq 3 p.toInt.natAbs (Or.inr (by omega)) (by omega)) (sgnL_n hp)
theorem sln4 {p x : Int64} (e : p = x) (hp : p < 0) (a : ¬ ((-10000) < x)) (b : (-100000) < x) : Int32.ofNat 6 = sszL p := by
  subst e
  have := j_lt hp
  have := j_nlt a
  have : (-10000 : Int64).toInt = -10000 := rfl
  have := j_lt b
  have : (-100000 : Int64).toInt = -100000 := rfl
  have : (10 : Nat) ^ 4 = 10000 := rfl
  have : (10 : Nat) ^ (4 + 1) = 100000 := rfl
  have := rng64 p
  have : (0 : Int64).toInt = 0 := rfl
  exact sszL_of 5 1 (nd_eq 4 p.toInt.natAbs (Or.inr (by omega)) (by omega)) (sgnL_y hp)
theorem slp4 {p x : Int64} (e : x = -p) (hp : ¬ (p < 0)) (a : ¬ ((-10000) < x)) (b : (-100000) < x) : Int32.ofNat 5 = sszL p := by
  have := j_nlt hp
  have := j_nlt a
  have : (-10000 : Int64).toInt = -10000 := rfl
  have := j_lt b
  have : (-100000 : Int64).toInt = -100000 := rfl
  have : (10 : Nat) ^ 4 = 10000 := rfl
  have : (10 : Nat) ^ (4 + 1) = 100000 := rfl
  have := rng64 p
  have : (0 : Int64).toInt = 0 := rfl
  have := e_lneg e
  exact sszL_of 5 0 (nd_eq 4 p.toInt.natAbs (Or.inr (by omega)) (by omega)) (sgnL_n hp)
theorem sln5 {p x : Int64} (e : p = x) (hp : p < 0) (a : ¬ ((-100000) < x)) (b : (-1000000) < x) : Int32.ofNat 7 = sszL p := by
  subst e
  have := j_lt hp
  have := j_nlt a
  have : (-100000 : Int64).toInt = -100000 := rfl
  have := j_lt b
  have : (-1000000 : Int64).toInt = -1000000 := rfl
  have : (10 : Nat) ^ 5 = 100000 := rfl
  have : (10 : Nat) ^ (5 + 1) = 1000000 := rfl
  have := rng64 p
  have : (0 : Int64).toInt = 0 := rfl
  exact sszL_of 6 1 (nd_eq 5 p.toInt.natAbs (Or.inr (by omega)) (by omega)) (sgnL_y hp)
theorem slp5 {p x : Int64} (e : x = -p) (hp : ¬ (p < 0)) (a : ¬ ((-100000) < x)) (b : (-1000000) < x) : Int32.ofNat 6 = sszL p := by
  have := j_nlt hp
  have := j_nlt a
  have : (-100000 : Int64).toInt = -100000 := rfl
  have := j_lt b
  have : (-1000000 : Int64).toInt = -1000000 := rfl
  have : (10 : Nat) ^ 5 = 100000 := rfl
  have : (10 : Nat) ^ (5 + 1) = 1000000 := rfl
  have := rng64 p
  have : (0 : Int64).toInt = 0 := rfl
  have := e_lneg e
  exact sszL_of 6 0 (nd_eq 5 p.toInt.natAbs (Or.inr (by omega)) (by omega)) (sgnL_n hp)
theorem sln6 {p x : Int64} (e : p = x) (hp : p < 0) (a : ¬ ((-1000000) < x)) (b : (-10000000) < x) : Int32.ofNat 8 = sszL p := by
  subst e
  have := j_lt hp
  have := j_nlt a
  have : (-1000000 : Int64).toInt = -1000000 := rfl
  have := j_lt b
  have : (-10000000 : Int64).toInt = -10000000 := rfl
  have : (10 : Nat) ^ 6 = 1000000 := rfl
  have : (10 : Nat) ^ (6 + 1) = 10000000 := rfl
  have := rng64 p
  have : (0 : Int64).toInt = 0 := rfl
  exact sszL_of 7 1 (nd_eq 6 p.toInt.natAbs (Or.inr (by omega)) (by omega)) (sgnL_y hp)
theorem slp6 {p x : Int64} (e : x = -p) (hp : ¬ (p < 0)) (a : ¬ ((-1000000) < x)) (b : (-10000000) < x) : Int32.ofNat 7 = sszL p := by
  have := j_nlt hp
  have := j_nlt a
  have : (-1000000 : Int64).toInt = -1000000 := rfl
  have := j_lt b
  have : (-10000000 : Int64).toInt = -10000000 := rfl
  have : (10 : Nat) ^ 6 = 1000000 := rfl
  have : (10 : Nat) ^ (6 + 1) = 10000000 := rfl
  have := rng64 p
  have : (0 : Int64).toInt = 0 := rfl
  have := e_lneg e
  exact sszL_of 7 0 (nd_eq 6 p.toInt.natAbs (Or.inr (by omega)) (by omega)) (sgnL_n hp)
theorem sln7 {p x : Int64} (e : p = x) (hp : p < 0) (a : ¬ ((-10000000) < x)) (b : (-100000000) < x) : Int32.ofNat 9 = sszL p := by
  subst e
  have := j_lt hp
  have := j_nlt a
  have : (-10000000 : Int64).toInt = -10000000 := rfl
  have := j_lt b
  have : (-100000000 : Int64).toInt = -100000000 := rfl
  have : (10 : Nat) ^ 7 = 10000000 := rfl
  have : (10 : Nat) ^ (7 + 1) = 100000000 := rfl
  have := rng64 p
  have : (0 : Int64).toInt = 0 := rfl
  exact sszL_of 8 1 (nd_eq 7 p.toInt.natAbs (Or.inr (by omega)) (by omega)) (sgnL_y hp)
theorem slp7 {p x : Int64} (e : x = -p) (hp : ¬ (p < 0)) (a : ¬ ((-10000000) < x)) (b : (-100000000) < x) : Int32.ofNat 8 = sszL p := by
  have := j_nlt hp
  have := j_nlt a
  have : (-10000000 : Int64).toInt = -10000000 := rfl
  have := j_lt b
  have : (-100000000 : Int64).toInt = -100000000 := rfl
  have : (10 : Nat) ^ 7 = 10000000 := rfl
  have : (10 : Nat) ^ (7 + 1) = 100000000 := rfl
  have := rng64 p
  have : (0 : Int64).toInt = 0 := rfl
  have := e_lneg e
  exact sszL_of 8 0 (nd_eq 7 p.toInt.natAbs (Or.inr (by omega)) (by omega)) (sgnL_n hp)
theorem sln8 {p x : Int64} (e : p = x) (hp : p < 0) (a : ¬ ((-100000000) < x)) (b : (-1000000000) < x) : Int32.ofNat 10 = sszL p := by
  subst e
  have := j_lt hp
  have := j_nlt a
  have : (-100000000 : Int64).toInt = -100000000 := rfl
  have := j_lt b
  have : (-1000000000 : Int64).toInt = -1000000000 := rfl
  have : (10 : Nat) ^ 8 = 100000000 := rfl
  have : (10 : Nat) ^ (8 + 1) = 1000000000 := rfl
  have := rng64 p
  have : (0 : Int64).toInt = 0 := rfl
  exact sszL_of 9 1 (nd_eq 8 p.toInt.natAbs (Or.inr (by omega)) (by omega)) (sgnL_y hp)
theorem slp8 {p x : Int64} (e : x = -p) (hp : ¬ (p < 0)) (a : ¬ ((-100000000) < x)) (b : (-1000000000) < x) : Int32.ofNat 9 = sszL p := by
  have := j_nlt hp
  have := j_nlt a
  have : (-100000000 : Int64).toInt = -100000000 := rfl
  have := j_lt b
  have : (-1000000000 : Int64).toInt = -1000000000 := rfl
  have : (10 : Nat) ^ 8 = 100000000 := rfl
  have : (10 : Nat) ^ (8 + 1) = 1000000000 := rfl
  have := rng64 p
  have : (0 : Int64).toInt = 0 := rfl
  have := e_lneg e
  exact sszL_of 9 0 (nd_eq 8 p.toInt.natAbs (Or.inr (by omega)) (by omega)) (sgnL_n hp)
theorem sln9 {p x : Int64} (e : p = x) (hp : p < 0) (a : ¬ ((-1000000000) < x)) (b : (-10000000000) < x) : Int32.ofNat 11 = sszL p := by
  subst e
  have := j_lt hp
  have := j_nlt a
  have : (-1000000000 : Int64).toInt = -1000000000 := rfl
  have := j_lt b
  have : (-10000000000 : Int64).toInt = -10000000000 := rfl
  have : (10 : Nat) ^ 9 = 1000000000 := rfl
  have : (10 : Nat) ^ (9 + 1) = 10000000000 := rfl
  have := rng64 p
  have : (0 : Int64).toInt = 0 := rfl
  exact sszL_of 10 1 (nd_eq 9 p.toInt.natAbs (Or.inr (by omega)) (by omega)) (sgnL_y hp)
theorem slp9 {p x : Int64} (e : x = -p) (hp : ¬ (p < 0)) (a : ¬ ((-1000000000) < x)) (b : (-10000000000) < x) : Int32.ofNat 10 = sszL p := by
  have := j_nlt hp
  have := j_nlt a
  have : (-1000000000 : Int64).toInt = -1000000000 := rfl
  have := j_lt b
  have : (-10000000000 : Int64).toInt = -10000000000 := rfl
  have : (10 : Nat) ^ 9 = 1000000000 := rfl
  have : (10 : Nat) ^ (9 + 1) = 10000000000 := rfl
  have := rng64 p
  have : (0 : Int64).toInt = 0 := rfl
  have := e_lneg e
  exact sszL_of 10 0 (nd_eq 9 p.toInt.natAbs (Or.inr (by omega)) (by omega)) (sgnL_n hp)
theorem sln10 {p x : Int64} (e : p = x) (hp : p < 0) (a : ¬ ((-10000000000) < x)) (b : (-100000000000) < x) : Int32.ofNat 12 = sszL p := by
  subst e
  have := j_lt hp
  have := j_nlt a
  have : (-10000000000 : Int64).toInt = -10000000000 := rfl
  have := j_lt b
  have : (-100000000000 : Int64).toInt = -100000000000 := rfl
  have : (10 : Nat) ^ 10 = 10000000000 := rfl
  have : (10 : Nat) ^ (10 + 1) = 100000000000 := rfl
  have := rng64 p
  have : (0 : Int64).toInt = 0 := rfl
  exact sszL_of 11 1 (nd_eq 10 p.toInt.natAbs (Or.inr (by omega)) (by omega)) (sgnL_y hp)
theorem slp10 {p x : Int64} (e : x = -p) (hp : ¬ (p < 0)) (a : ¬ ((-10000000000) < x)) (b : (-100000000000) < x) : Int32.ofNat 11 = sszL p := by
  have := j_nlt hp
  have := j_nlt a
  have : (-10000000000 : Int64).toInt = -10000000000 := rfl
  have := j_lt b
  have : (-100000000000 : Int64).toInt = -100000000000 := rfl
  have : (10 : Nat) ^ 10 = 10000000000 := rfl
  have : (10 : Nat) ^ (10 + 1) = 100000000000 := rfl
  have := rng64 p
  have : (0 : Int64).toInt = 0 := rfl
  have := e_lneg e
  exact sszL_of 11 0 (nd_eq 10 p.toInt.natAbs (Or.inr (by omega)) (by omega)) (sgnL_n hp)
theorem sln11 {p x : Int64} (e : p = x) (hp : p < 0) (a : ¬ ((-100000000000) < x)) (b : (-1000000000000) < x) : Int32.ofNat 13 = sszL p := by
  subst e
  have := j_lt hp
  have := j_nlt a
  have : (-100000000000 : Int64).toInt = -100000000000 := rfl
  have := j_lt b
  have : (-1000000000000 : Int64).toInt = -1000000000000 := rfl
  have : (10 : Nat) ^ 11 = 100000000000 := rfl
  have : (10 : Nat) ^ (11 + 1) = 1000000000000 := rfl
  have := rng64 p
  have : (0 : Int64).toInt = 0 := rfl
  exact sszL_of 12 1 (nd_eq 11 p.toInt.natAbs (Or.inr (by omega)) (by omega)) (sgnL_y hp)
theorem slp11 {p x : Int64} (e : x = -p) (hp : ¬ (p < 0)) (a : ¬ ((-100000000000) < x)) (b : (-1000000000000) < x) : Int32.ofNat 12 = sszL p := by
  have := j_nlt hp
  have := j_nlt a
  have : (-100000000000 : Int64).toInt = -100000000000 := rfl
  have := j_lt b
  have : (-1000000000000 : Int64).toInt = -1000000000000 := rfl
  have : (10 : Nat) ^ 11 = 100000000000 := rfl
  have : (10 : Nat) ^ (11 + 1) = 1000000000000 := rfl
  have := rng64 p
  have : (0 : Int64).toInt = 0 := rfl
  have := e_lneg e
  exact sszL_of 12 0 (nd_eq 11 p.toInt.natAbs (Or.inr (by omega)) (by omega)) (sgnL_n hp)
theorem sln12 {p x : Int64} (e : p = x) (hp : p < 0) (a : ¬ ((-1000000000000) < x)) (b : (-10000000000000) < x) : Int32.ofNat 14 = sszL p := by
  subst e
  have := j_lt hp
  have := j_nlt a
  have : (-1000000000000 : Int64).toInt = -1000000000000 := rfl
  have := j_lt b
  have : (-10000000000000 : Int64).toInt = -10000000000000 := rfl
  have : (10 : Nat) ^ 12 = 1000000000000 := rfl
  have : (10 : Nat) ^ (12 + 1) = 10000000000000 := rfl
  have := rng64 p
  have : (0 : Int64).toInt = 0 := rfl
  exact sszL_of 13 1 (nd_eq 12 p.toInt.natAbs (Or.inr (by omega)) (by omega)) (sgnL_y hp)
theorem slp12 {p x : Int64} (e : x = -p) (hp : ¬ (p < 0)) (a : ¬ ((-1000000000000) < x)) (b : (-10000000000000) < x) : Int32.ofNat 13 = sszL p := by
  have := j_nlt hp
  have := j_nlt a
  have : (-1000000000000 : Int64).toInt = -1000000000000 := rfl
  have := j_lt b
  have : (-10000000000000 : Int64).toInt = -10000000000000 := rfl
  have : (10 : Nat) ^ 12 = 1000000000000 := rfl
  have : (10 : Nat) ^ (12 + 1) = 10000000000000 := rfl
  have := rng64 p
  have : (0 : Int64).toInt = 0 := rfl
  have := e_lneg e
  exact sszL_of 13 0 (nd_eq 12 p.toInt.natAbs (Or.inr (by omega)) (by omega)) (sgnL_n hp)
theorem sln13 {p x : Int64} (e : p = x) (hp : p < 0) (a : ¬ ((-10000000000000) < x)) (b : (-100000000000000) < x) : Int32.ofNat 15 = sszL p := by
  subst e
  have := j_lt hp
  have := j_nlt a
  have : (-10000000000000 : Int64).toInt = -10000000000000 := rfl
  have := j_lt b
  have : (-100000000000000 : Int64).toInt = -100000000000000 := rfl
  have : (10 : Nat) ^ 13 = 10000000000000 := rfl
  have : (10 : Nat) ^ (13 + 1) = 100000000000000 := rfl
  have := rng64 p
  have : (0 : Int64).toInt = 0 := rfl
  exact sszL_of 14 1 (nd_eq 13 p.toInt.natAbs (Or.inr (by omega)) (by omega)) (sgnL_y hp)
theorem slp13 {p x : Int64} (e : x = -p) (hp : ¬ (p < 0)) (a : ¬ ((-10000000000000) < x)) (b : (-100000000000000) < x) : Int32.ofNat 14 = sszL p := by
  have := j_nlt hp
  have := j_nlt a
  have : (-10000000000000 : Int64).toInt = -10000000000000 := rfl
  have := j_lt b
  have : (-100000000000000 : Int64).toInt = -100000000000000 := rfl
  have : (10 : Nat) ^ 13 = 10000000000000 := rfl
  have : (10 : Nat) ^ (13 + 1) = 100000000000000 := rfl
  have := rng64 p
  have : (0 : Int64).toInt = 0 := rfl
  have := e_lneg e
  exact sszL_of 14 0 (nd_eq 13 p.toInt.natAbs (Or.inr (by omega)) (by omega)) (sgnL_n hp)
theorem sln14 {p x : Int64} (e : p = x) (hp : p < 0) (a : ¬ ((-100000000000000) < x)) (b : (-1000000000000000) < x) : Int32.ofNat 16 = sszL p := by
  subst e
  have := j_lt hp
  have := j_nlt a
  have : (-100000000000000 : Int64).toInt = -100000000000000 := rfl
  have := j_lt b
  have : (-1000000000000000 : Int64).toInt = -1000000000000000 := rfl
  have : (10 : Nat) ^ 14 = 100000000000000 := rfl
  have : (10 : Nat) ^ (14 + 1) = 1000000000000000 := rfl
  have := rng64 p
  have : (0 : Int64).toInt = 0 := rfl
  exact sszL_of 15 1 (nd_eq 14 p.toInt.natAbs (Or.inr (by omega)) (by omega)) (sgnL_y hp)
theorem slp14 {p x : Int64} (e : x = -p) (hp : ¬ (p < 0)) (a : ¬ ((-100000000000000) < x)) (b : (-1000000000000000) < x) : Int32.ofNat 15 = sszL p := by
  have := j_nlt hp
  have := j_nlt a
  have : (-100000000000000 : Int64).toInt = -100000000000000 := rfl
  have := j_lt b
  have : (-1000000000000000 : Int64).toInt = -1000000000000000 := rfl
  have : (10 : Nat) ^ 14 = 100000000000000 := rfl
  have : (10 : Nat) ^ (14 + 1) = 1000000000000000 := rfl
  have := rng64 p
  have : (0 : Int64).toInt = 0 := rfl
  have := e_lneg e
  exact sszL_of 15 0 (nd_eq 14 p.toInt.natAbs (Or.inr (by omega)) (by omega)) (sgnL_n hp)
theorem sln15 {p x : Int64} (e : p = x) (hp : p < 0) (a : ¬ ((-1000000000000000) < x)) (b : (-10000000000000000) < x) : Int32.ofNat 17 = sszL p := by
  subst e
  have := j_lt hp
  have := j_nlt a
  have : (-1000000000000000 : Int64).toInt = -1000000000000000 := rfl
  have := j_lt b
  have : (-10000000000000000 : Int64).toInt = -10000000000000000 := rfl
  have : (10 : Nat) ^ 15 = 1000000000000000 := rfl
  have : (10 : Nat) ^ (15 + 1) = 10000000000000000 := rfl
  have := rng64 p
  have : (0 : Int64).toInt = 0 := rfl
  exact sszL_of 16 1 (nd_eq 15 p.toInt.natAbs (Or.inr (by omega)) (by omega)) (sgnL_y hp)
theorem slp15 {p x : Int64} (e : x = -p) (hp : ¬ (p < 0)) (a : ¬ ((-1000000000000000) < x)) (b : (-10000000000000000) < x) : Int32.ofNat 16 = sszL p := by
  have := j_nlt hp
  have := j_nlt a
  have : (-1000000000000000 : Int64).toInt = -1000000000000000 := rfl
  have := j_lt b
  have : (-10000000000000000 : Int64).toInt = -10000000000000000 := rfl
  have : (10 : Nat) ^ 15 = 1000000000000000 := rfl
  have : (10 : Nat) ^ (15 + 1) = 10000000000000000 := rfl
  have := rng64 p
  have : (0 : Int64).toInt = 0 := rfl
  have := e_lneg e
  exact sszL_of 16 0 (nd_eq 15 p.toInt.natAbs (Or.inr (by omega)) (by omega)) (sgnL_n hp)
theorem sln16 {p x : Int64} (e : p = x) (hp : p < 0) (a : ¬ ((-10000000000000000) < x)) (b : (-100000000000000000) < x) : Int32.ofNat 18 = sszL p := by
  subst e
  have := j_lt hp
  have := j_nlt a
  have : (-10000000000000000 : Int64).toInt = -10000000000000000 := rfl
  have := j_lt b
  have : (-100000000000000000 : Int64).toInt = -100000000000000000 := rfl
  have : (10 : Nat) ^ 16 = 10000000000000000 := rfl
  have : (10 : Nat) ^ (16 + 1) = 100000000000000000 := rfl
  have := rng64 p
  have : (0 : Int64).toInt = 0 := rfl
  exact sszL_of 17 1 (nd_eq 16 p.toInt.natAbs (Or.inr (by omega)) (by omega)) (sgnL_y hp)
theorem slp16 {p x : Int64} (e : x = -p) (hp : ¬ (p < 0)) (a : ¬ ((-10000000000000000) < x)) (b : (-100000000000000000) < x) : Int32.ofNat 17 = sszL p := by
  have := j_nlt hp
  have := j_nlt a
  have : (-10000000000000000 : Int64).toInt = -10000000000000000 := rfl
  have := j_lt b
  have : (-100000000000000000 : Int64).toInt = -100000000000000000 := rfl
  have : (10 : Nat) ^ 16 = 10000000000000000 := rfl
  have : (10 : Nat) ^ (16 + 1) = 100000000000000000 := rfl
  have := rng64 p
  have : (0 : Int64).toInt = 0 := rfl
  have := e_lneg e
  exact sszL_of 17 0 (nd_eq 16 p.toInt.natAbs (Or.inr (by omega)) (by omega)) (sgnL_n hp)
theorem sln17 {p x : Int64} (e : p = x) (hp : p < 0) (a : ¬ ((-100000000000000000) < x)) (b : (-1000000000000000000) < x) : Int32.ofNat 19 = sszL p := by
  subst e
  have := j_lt hp
  have := j_nlt a
  have : (-100000000000000000 : Int64).toInt = -100000000000000000 := rfl
  have := j_lt b
  have : (-1000000000000000000 : Int64).toInt = -1000000000000000000 := rfl
  have : (10 : Nat) ^ 17 = 100000000000000000 := rfl
  have : (10 : Nat) ^ (17 + 1) = 1000000000000000000 := rfl
  have := rng64 p
  have : (0 : Int64).toInt = 0 := rfl
  exact sszL_of 18 1 (nd_eq 17 p.toInt.natAbs (Or.inr (by omega)) (by omega)) (sgnL_y hp)
theorem slp17 {p x : Int64} (e : x = -p) (hp : ¬ (p < 0)) (a : ¬ ((-100000000000000000) < x)) (b : (-1000000000000000000) < x) : Int32.ofNat 18 = sszL p := by
  have := j_nlt hp
  have := j_nlt a
  have : (-100000000000000000 : Int64).toInt = -100000000000000000 := rfl
  have := j_lt b
  have : (-1000000000000000000 : Int64).toInt = -1000000000000000000 := rfl
  have : (10 : Nat) ^ 17 = 100000000000000000 := rfl
  have : (10 : Nat) ^ (17 + 1) = 1000000000000000000 := rfl
  have := rng64 p
  have : (0 : Int64).toInt = 0 := rfl
  have := e_lneg e
  exact sszL_of 18 0 (nd_eq 17 p.toInt.natAbs (Or.inr (by omega)) (by omega)) (sgnL_n hp)
theorem sln18 {p x : Int64} (e : p = x) (hp : p < 0) (a : ¬ ((-1000000000000000000) < x)) : Int32.ofNat 20 = sszL p := by
  subst e
  have := j_lt hp
  have := j_nlt a
  have : (-1000000000000000000 : Int64).toInt = -1000000000000000000 := rfl
  have : (10 : Nat) ^ 18 = 1000000000000000000 := rfl
  have : (10 : Nat) ^ (18 + 1) = 10000000000000000000 := rfl
  have := rng64 p
  have : (0 : Int64).toInt = 0 := rfl
  exact sszL_of 19 1 (nd_eq 18 p.toInt.natAbs (Or.inr (by omega)) (by omega)) (sgnL_y hp)
theorem slp18 {p x : Int64} (e : x = -p) (hp : ¬ (p < 0)) (a : ¬ ((-1000000000000000000) < x)) : Int32.ofNat 19 = sszL p := by
  have := j_nlt hp
  have := j_nlt a
  have : (-1000000000000000000 : Int64).toInt = -1000000000000000000 := rfl
  have : (10 : Nat) ^ 18 = 1000000000000000000 := rfl
  have : (10 : Nat) ^ (18 + 1) = 10000000000000000000 := rfl
  have := rng64 p
  have : (0 : Int64).toInt = 0 := rfl
  have := e_lneg e
  exact sszL_of 19 0 (nd_eq 18 p.toInt.natAbs (Or.inr (by omega)) (by omega)) (sgnL_n hp)
abbrev Y3 : MethodName := ⟨"java/lang/Long", "stringSize", "(J)I"⟩
abbrev J3 := jdk_35_method_15_code
abbrev C3 : Cond := .code Y3 J3 6 (some .int)
theorem D3_0 : Dc J3 0 (.iconst 1) 1 1 := by decide +kernel
theorem D3_1 : Dc J3 1 (.istore_n 2) 1 2 := by decide +kernel
theorem sto2 {x0 x1 x : Slot} {t : List Slot} {v : Value} (hx : okS x = true := by rfl) (hv : v.category = 1 := by rfl) : storeLocals (List.toArray (x0 :: x1 :: x :: t)) 2 v = some (List.toArray (x0 :: x1 :: .val v :: t)) := stoA (A := [x0, x1]) hx hv
theorem D3_2 : Dc J3 2 (.lload_n 0) 1 3 := by decide +kernel
theorem D3_3 : Dc J3 3 (.lconst 0) 1 4 := by decide +kernel
theorem D3_4 : Dc J3 4 .lcmp 1 5 := by decide +kernel
theorem D3_5 : Dj J3 5 (.ifCond .lt 8) 8 8 13 := by decide +kernel
theorem D3_13 : Dc J3 13 (.ldc2_w 140) 3 16 := by decide +kernel
abbrev w_123 (hw : HW a0 Z) := hw.at 123 rfl
theorem D3_16 : Dc J3 16 (.lstore_n 3) 1 17 := by decide +kernel
theorem D3_17 : Dc J3 17 (.iconst 1) 1 18 := by decide +kernel
theorem D3_18 : Dc J3 18 (.istore 5) 2 20 := by decide +kernel
theorem sto5 {x0 x1 x2 x3 x4 x : Slot} {t : List Slot} {v : Value} (hx : okS x = true := by rfl) (hv : v.category = 1 := by rfl) : storeLocals (List.toArray (x0 :: x1 :: x2 :: x3 :: x4 :: x :: t)) 5 v = some (List.toArray (x0 :: x1 :: x2 :: x3 :: x4 :: .val v :: t)) := stoA (A := [x0, x1, x2, x3, x4]) hx hv
theorem D3_20 : Dc J3 20 (.iload 5) 2 22 := by decide +kernel
theorem D3_22 : Dc J3 22 (.bipush 19) 2 24 := by decide +kernel
theorem D3_24 : Dj J3 24 (.if_icmp .ge 26) 26 27 50 := by decide +kernel
theorem D3_27 : Dc J3 27 (.lload_n 0) 1 28 := by decide +kernel
theorem D3_28 : Dc J3 28 (.lload_n 3) 1 29 := by decide +kernel
theorem D3_29 : Dc J3 29 .lcmp 1 30 := by decide +kernel
theorem D3_30 : Dj J3 30 (.ifCond .le 8) 8 33 38 := by decide +kernel
theorem D3_33 : Dc J3 33 (.iload 5) 2 35 := by decide +kernel
theorem D3_35 : Dc J3 35 (.iload_n 2) 1 36 := by decide +kernel
theorem D3_36 : Dc J3 36 .iadd 1 37 := by decide +kernel
theorem D3_37 : Dc J3 37 .ireturn 1 38 := by decide +kernel
theorem D3_38 : Dc J3 38 (.ldc2_w 53) 3 41 := by decide +kernel
abbrev w_287 (hw : HW a0 Z) := hw.at 287 rfl
theorem D3_41 : Dc J3 41 (.lload_n 3) 1 42 := by decide +kernel
theorem D3_42 : Dc J3 42 .lmul 1 43 := by decide +kernel
theorem D3_43 : Dc J3 43 (.lstore_n 3) 1 44 := by decide +kernel
theorem D3_44 : Dc J3 44 (.iinc 5 1) 3 47 := by decide +kernel
theorem D3_47 : Dj J3 47 (.goto (-27)) (-27) 50 20 := by decide +kernel
theorem D3_50 : Dc J3 50 (.bipush 19) 2 52 := by decide +kernel
theorem D3_52 : Dc J3 52 (.iload_n 2) 1 53 := by decide +kernel
theorem D3_53 : Dc J3 53 .iadd 1 54 := by decide +kernel
theorem D3_54 : Dc J3 54 .ireturn 1 55 := by decide +kernel
theorem D3_8 : Dc J3 8 (.iconst 0) 1 9 := by decide +kernel
theorem D3_9 : Dc J3 9 (.istore_n 2) 1 10 := by decide +kernel
theorem D3_10 : Dc J3 10 (.lload_n 0) 1 11 := by decide +kernel
theorem D3_11 : Dc J3 11 .lneg 1 12 := by decide +kernel
theorem D3_12 : Dc J3 12 (.lstore_n 0) 1 13 := by decide +kernel
theorem pn_Long : plainName "java/lang/Long" = true := by first | (simp [plainName, overriddenIn]; done) | decide +kernel
theorem PN3 : plainFor Y3 = true := plainFor_of_name pn_Long
theorem ef_J_6 {x0 : Int64}  (m : MethodId) : entryFrame m #[(.long x0)] 6 = mkF m 0 #[.val (.long x0), .second, .unset, .unset, .unset, .unset] [] := by
  first | (simp [entryFrame, mkF, argsToLocals, Value.category]; done) | rfl
theorem R_ssl {q1 : Int64} (hw : HW a0 Z) (G : Gl Z w_CS w_SF w_DO w_DT w_fO w_fT w_US w_SS) : Mt false [] l Y3 C3 (rmk 0 0 0 0) #[.long q1] Z a0 h0 n0 (Pv h0 (.int (sszL q1))) := by
  refine Mt.go PN3 (Or.inl rfl) ef_J_6 fun k => ?_
  replace k := k |>.iconst D3_0 1 |>.istoreN D3_1 sto2 |>.lloadN D3_2 rfl |>.lconst D3_3 0 |>.lcmp D3_4
  by_cases hc5_1 : q1 < 0
  · replace k := k |>.ifYes D3_5 ((if0 _ _).trans (tlt ((lw_lt _ _).mpr hc5_1)).1) |>.ldcJ (w_123 hw) D3_13 |>.lstoreN D3_16 (Ls' := #[.val (.long q1), .second, .val (.int 1), .val (.long (-10)), .second, .unset]) rfl |>.iconst D3_17 1 |>.istore D3_18 sto5 |>.iload D3_20 rfl |>.bipush D3_22 19 |>.icmpNo D3_24  |>.lloadN D3_27 rfl |>.lloadN D3_28 rfl |>.lcmp D3_29
    by_cases hc30_2 : (-10) < q1
    · replace k := k |>.ifNo D3_30 ((if0 _ _).trans (tlt ((lw_gt _ _).mpr hc30_2)).2.2.2) |>.iload D3_33 rfl |>.iloadN D3_35 rfl |>.iadd D3_36 (z := 2)
      exact k.retI D3_37 rfl ⟨congrArg some (congrArg Value.int (sln0 rfl hc5_1 hc30_2)), rfl⟩
    · replace k := k |>.ifYes D3_30 ((if0 _ _).trans (flt (fun q => hc30_2 ((lw_gt _ _).mp q))).2.2.2) |>.ldcJ (w_287 hw) D3_38 |>.lloadN D3_41 rfl |>.lmul D3_42 (z := (-100)) |>.lstoreN D3_43 (Ls' := #[.val (.long q1), .second, .val (.int 1), .val (.long (-100)), .second, .val (.int 1)]) rfl |>.iinc D3_44 rfl (z := 2) (by decide) sto5 |>.goto D3_47 |>.iload D3_20 rfl |>.bipush D3_22 19 |>.icmpNo D3_24  |>.lloadN D3_27 rfl |>.lloadN D3_28 rfl
      replace k := k |>.lcmp D3_29
      by_cases hc30_3 : (-100) < q1
      · replace k := k |>.ifNo D3_30 ((if0 _ _).trans (tlt ((lw_gt _ _).mpr hc30_3)).2.2.2) |>.iload D3_33 rfl |>.iloadN D3_35 rfl |>.iadd D3_36 (z := 3)
        exact k.retI D3_37 rfl ⟨congrArg some (congrArg Value.int (sln1 rfl hc5_1 hc30_2 hc30_3)), rfl⟩
      · replace k := k |>.ifYes D3_30 ((if0 _ _).trans (flt (fun q => hc30_3 ((lw_gt _ _).mp q))).2.2.2) |>.ldcJ (w_287 hw) D3_38 |>.lloadN D3_41 rfl |>.lmul D3_42 (z := (-1000)) |>.lstoreN D3_43 (Ls' := #[.val (.long q1), .second, .val (.int 1), .val (.long (-1000)), .second, .val (.int 2)]) rfl |>.iinc D3_44 rfl (z := 3) (by decide) sto5 |>.goto D3_47 |>.iload D3_20 rfl |>.bipush D3_22 19 |>.icmpNo D3_24  |>.lloadN D3_27 rfl |>.lloadN D3_28 rfl
        replace k := k |>.lcmp D3_29
        by_cases hc30_4 : (-1000) < q1
        · replace k := k |>.ifNo D3_30 ((if0 _ _).trans (tlt ((lw_gt _ _).mpr hc30_4)).2.2.2) |>.iload D3_33 rfl |>.iloadN D3_35 rfl |>.iadd D3_36 (z := 4)
          exact k.retI D3_37 rfl ⟨congrArg some (congrArg Value.int (sln2 rfl hc5_1 hc30_3 hc30_4)), rfl⟩
        · replace k := k |>.ifYes D3_30 ((if0 _ _).trans (flt (fun q => hc30_4 ((lw_gt _ _).mp q))).2.2.2) |>.ldcJ (w_287 hw) D3_38 |>.lloadN D3_41 rfl |>.lmul D3_42 (z := (-10000)) |>.lstoreN D3_43 (Ls' := #[.val (.long q1), .second, .val (.int 1), .val (.long (-10000)), .second, .val (.int 3)]) rfl |>.iinc D3_44 rfl (z := 4) (by decide) sto5 |>.goto D3_47 |>.iload D3_20 rfl |>.bipush D3_22 19 |>.icmpNo D3_24  |>.lloadN D3_27 rfl |>.lloadN D3_28 rfl
          replace k := k |>.lcmp D3_29
          by_cases hc30_5 : (-10000) < q1
          · replace k := k |>.ifNo D3_30 ((if0 _ _).trans (tlt ((lw_gt _ _).mpr hc30_5)).2.2.2) |>.iload D3_33 rfl |>.iloadN D3_35 rfl |>.iadd D3_36 (z := 5)
            exact k.retI D3_37 rfl ⟨congrArg some (congrArg Value.int (sln3 rfl hc5_1 hc30_4 hc30_5)), rfl⟩
          · replace k := k |>.ifYes D3_30 ((if0 _ _).trans (flt (fun q => hc30_5 ((lw_gt _ _).mp q))).2.2.2) |>.ldcJ (w_287 hw) D3_38 |>.lloadN D3_41 rfl |>.lmul D3_42 (z := (-100000)) |>.lstoreN D3_43 (Ls' := #[.val (.long q1), .second, .val (.int 1), .val (.long (-100000)), .second, .val (.int 4)]) rfl |>.iinc D3_44 rfl (z := 5) (by decide) sto5 |>.goto D3_47 |>.iload D3_20 rfl |>.bipush D3_22 19 |>.icmpNo D3_24  |>.lloadN D3_27 rfl |>.lloadN D3_28 rfl
            replace k := k |>.lcmp D3_29
            by_cases hc30_6 : (-100000) < q1
            · replace k := k |>.ifNo D3_30 ((if0 _ _).trans (tlt ((lw_gt _ _).mpr hc30_6)).2.2.2) |>.iload D3_33 rfl |>.iloadN D3_35 rfl |>.iadd D3_36 (z := 6)
              exact k.retI D3_37 rfl ⟨congrArg some (congrArg Value.int (sln4 rfl hc5_1 hc30_5 hc30_6)), rfl⟩
            · replace k := k |>.ifYes D3_30 ((if0 _ _).trans (flt (fun q => hc30_6 ((lw_gt _ _).mp q))).2.2.2) |>.ldcJ (w_287 hw) D3_38 |>.lloadN D3_41 rfl |>.lmul D3_42 (z := (-1000000)) |>.lstoreN D3_43 (Ls' := #[.val (.long q1), .second, .val (.int 1), .val (.long (-1000000)), .second, .val (.int 5)]) rfl |>.iinc D3_44 rfl (z := 6) (by decide) sto5 |>.goto D3_47 |>.iload D3_20 rfl |>.bipush D3_22 19 |>.icmpNo D3_24  |>.lloadN D3_27 rfl |>.lloadN D3_28 rfl
              replace k := k |>.lcmp D3_29
              by_cases hc30_7 : (-1000000) < q1
              · replace k := k |>.ifNo D3_30 ((if0 _ _).trans (tlt ((lw_gt _ _).mpr hc30_7)).2.2.2) |>.iload D3_33 rfl |>.iloadN D3_35 rfl |>.iadd D3_36 (z := 7)
                exact k.retI D3_37 rfl ⟨congrArg some (congrArg Value.int (sln5 rfl hc5_1 hc30_6 hc30_7)), rfl⟩
              · replace k := k |>.ifYes D3_30 ((if0 _ _).trans (flt (fun q => hc30_7 ((lw_gt _ _).mp q))).2.2.2) |>.ldcJ (w_287 hw) D3_38 |>.lloadN D3_41 rfl |>.lmul D3_42 (z := (-10000000)) |>.lstoreN D3_43 (Ls' := #[.val (.long q1), .second, .val (.int 1), .val (.long (-10000000)), .second, .val (.int 6)]) rfl |>.iinc D3_44 rfl (z := 7) (by decide) sto5 |>.goto D3_47 |>.iload D3_20 rfl |>.bipush D3_22 19 |>.icmpNo D3_24  |>.lloadN D3_27 rfl |>.lloadN D3_28 rfl
                replace k := k |>.lcmp D3_29
                by_cases hc30_8 : (-10000000) < q1
                · replace k := k |>.ifNo D3_30 ((if0 _ _).trans (tlt ((lw_gt _ _).mpr hc30_8)).2.2.2) |>.iload D3_33 rfl |>.iloadN D3_35 rfl |>.iadd D3_36 (z := 8)
                  exact k.retI D3_37 rfl ⟨congrArg some (congrArg Value.int (sln6 rfl hc5_1 hc30_7 hc30_8)), rfl⟩
                · replace k := k |>.ifYes D3_30 ((if0 _ _).trans (flt (fun q => hc30_8 ((lw_gt _ _).mp q))).2.2.2) |>.ldcJ (w_287 hw) D3_38 |>.lloadN D3_41 rfl |>.lmul D3_42 (z := (-100000000)) |>.lstoreN D3_43 (Ls' := #[.val (.long q1), .second, .val (.int 1), .val (.long (-100000000)), .second, .val (.int 7)]) rfl |>.iinc D3_44 rfl (z := 8) (by decide) sto5 |>.goto D3_47 |>.iload D3_20 rfl |>.bipush D3_22 19 |>.icmpNo D3_24  |>.lloadN D3_27 rfl |>.lloadN D3_28 rfl
                  replace k := k |>.lcmp D3_29
                  by_cases hc30_9 : (-100000000) < q1
                  · replace k := k |>.ifNo D3_30 ((if0 _ _).trans (tlt ((lw_gt _ _).mpr hc30_9)).2.2.2) |>.iload D3_33 rfl |>.iloadN D3_35 rfl |>.iadd D3_36 (z := 9)
                    exact k.retI D3_37 rfl ⟨congrArg some (congrArg Value.int (sln7 rfl hc5_1 hc30_8 hc30_9)), rfl⟩
                  · replace k := k |>.ifYes D3_30 ((if0 _ _).trans (flt (fun q => hc30_9 ((lw_gt _ _).mp q))).2.2.2) |>.ldcJ (w_287 hw) D3_38 |>.lloadN D3_41 rfl |>.lmul D3_42 (z := (-1000000000)) |>.lstoreN D3_43 (Ls' := #[.val (.long q1), .second, .val (.int 1), .val (.long (-1000000000)), .second, .val (.int 8)]) rfl |>.iinc D3_44 rfl (z := 9) (by decide) sto5 |>.goto D3_47 |>.iload D3_20 rfl |>.bipush D3_22 19 |>.icmpNo D3_24  |>.lloadN D3_27 rfl |>.lloadN D3_28 rfl
                    replace k := k |>.lcmp D3_29
                    by_cases hc30_10 : (-1000000000) < q1
                    · replace k := k |>.ifNo D3_30 ((if0 _ _).trans (tlt ((lw_gt _ _).mpr hc30_10)).2.2.2) |>.iload D3_33 rfl |>.iloadN D3_35 rfl |>.iadd D3_36 (z := 10)
                      exact k.retI D3_37 rfl ⟨congrArg some (congrArg Value.int (sln8 rfl hc5_1 hc30_9 hc30_10)), rfl⟩
                    · replace k := k |>.ifYes D3_30 ((if0 _ _).trans (flt (fun q => hc30_10 ((lw_gt _ _).mp q))).2.2.2) |>.ldcJ (w_287 hw) D3_38 |>.lloadN D3_41 rfl |>.lmul D3_42 (z := (-10000000000)) |>.lstoreN D3_43 (Ls' := #[.val (.long q1), .second, .val (.int 1), .val (.long (-10000000000)), .second, .val (.int 9)]) rfl |>.iinc D3_44 rfl (z := 10) (by decide) sto5 |>.goto D3_47 |>.iload D3_20 rfl |>.bipush D3_22 19 |>.icmpNo D3_24  |>.lloadN D3_27 rfl |>.lloadN D3_28 rfl
                      replace k := k |>.lcmp D3_29
                      by_cases hc30_11 : (-10000000000) < q1
                      · replace k := k |>.ifNo D3_30 ((if0 _ _).trans (tlt ((lw_gt _ _).mpr hc30_11)).2.2.2) |>.iload D3_33 rfl |>.iloadN D3_35 rfl |>.iadd D3_36 (z := 11)
                        exact k.retI D3_37 rfl ⟨congrArg some (congrArg Value.int (sln9 rfl hc5_1 hc30_10 hc30_11)), rfl⟩
                      · replace k := k |>.ifYes D3_30 ((if0 _ _).trans (flt (fun q => hc30_11 ((lw_gt _ _).mp q))).2.2.2) |>.ldcJ (w_287 hw) D3_38 |>.lloadN D3_41 rfl |>.lmul D3_42 (z := (-100000000000)) |>.lstoreN D3_43 (Ls' := #[.val (.long q1), .second, .val (.int 1), .val (.long (-100000000000)), .second, .val (.int 10)]) rfl |>.iinc D3_44 rfl (z := 11) (by decide) sto5 |>.goto D3_47 |>.iload D3_20 rfl |>.bipush D3_22 19 |>.icmpNo D3_24  |>.lloadN D3_27 rfl |>.lloadN D3_28 rfl
                        replace k := k |>.lcmp D3_29
                        by_cases hc30_12 : (-100000000000) < q1
                        · replace k := k |>.ifNo D3_30 ((if0 _ _).trans (tlt ((lw_gt _ _).mpr hc30_12)).2.2.2) |>.iload D3_33 rfl |>.iloadN D3_35 rfl |>.iadd D3_36 (z := 12)
                          exact k.retI D3_37 rfl ⟨congrArg some (congrArg Value.int (sln10 rfl hc5_1 hc30_11 hc30_12)), rfl⟩
                        · replace k := k |>.ifYes D3_30 ((if0 _ _).trans (flt (fun q => hc30_12 ((lw_gt _ _).mp q))).2.2.2) |>.ldcJ (w_287 hw) D3_38 |>.lloadN D3_41 rfl |>.lmul D3_42 (z := (-1000000000000)) |>.lstoreN D3_43 (Ls' := #[.val (.long q1), .second, .val (.int 1), .val (.long (-1000000000000)), .second, .val (.int 11)]) rfl |>.iinc D3_44 rfl (z := 12) (by decide) sto5 |>.goto D3_47 |>.iload D3_20 rfl |>.bipush D3_22 19 |>.icmpNo D3_24  |>.lloadN D3_27 rfl |>.lloadN D3_28 rfl
                          replace k := k |>.lcmp D3_29
                          by_cases hc30_13 : (-1000000000000) < q1
                          · replace k := k |>.ifNo D3_30 ((if0 _ _).trans (tlt ((lw_gt _ _).mpr hc30_13)).2.2.2) |>.iload D3_33 rfl |>.iloadN D3_35 rfl |>.iadd D3_36 (z := 13)
                            exact k.retI D3_37 rfl ⟨congrArg some (congrArg Value.int (sln11 rfl hc5_1 hc30_12 hc30_13)), rfl⟩
                          · replace k := k |>.ifYes D3_30 ((if0 _ _).trans (flt (fun q => hc30_13 ((lw_gt _ _).mp q))).2.2.2) |>.ldcJ (w_287 hw) D3_38 |>.lloadN D3_41 rfl |>.lmul D3_42 (z := (-10000000000000)) |>.lstoreN D3_43 (Ls' := #[.val (.long q1), .second, .val (.int 1), .val (.long (-10000000000000)), .second, .val (.int 12)]) rfl |>.iinc D3_44 rfl (z := 13) (by decide) sto5 |>.goto D3_47 |>.iload D3_20 rfl |>.bipush D3_22 19 |>.icmpNo D3_24  |>.lloadN D3_27 rfl |>.lloadN D3_28 rfl
                            replace k := k |>.lcmp D3_29
                            by_cases hc30_14 : (-10000000000000) < q1
                            · replace k := k |>.ifNo D3_30 ((if0 _ _).trans (tlt ((lw_gt _ _).mpr hc30_14)).2.2.2) |>.iload D3_33 rfl |>.iloadN D3_35 rfl |>.iadd D3_36 (z := 14)
                              exact k.retI D3_37 rfl ⟨congrArg some (congrArg Value.int (sln12 rfl hc5_1 hc30_13 hc30_14)), rfl⟩
                            · replace k := k |>.ifYes D3_30 ((if0 _ _).trans (flt (fun q => hc30_14 ((lw_gt _ _).mp q))).2.2.2) |>.ldcJ (w_287 hw) D3_38 |>.lloadN D3_41 rfl |>.lmul D3_42 (z := (-100000000000000)) |>.lstoreN D3_43 (Ls' := #[.val (.long q1), .second, .val (.int 1), .val (.long (-100000000000000)), .second, .val (.int 13)]) rfl |>.iinc D3_44 rfl (z := 14) (by decide) sto5 |>.goto D3_47 |>.iload D3_20 rfl |>.bipush D3_22 19 |>.icmpNo D3_24  |>.lloadN D3_27 rfl |>.lloadN D3_28 rfl
                              replace k := k |>.lcmp D3_29
                              by_cases hc30_15 : (-100000000000000) < q1
                              · replace k := k |>.ifNo D3_30 ((if0 _ _).trans (tlt ((lw_gt _ _).mpr hc30_15)).2.2.2) |>.iload D3_33 rfl |>.iloadN D3_35 rfl |>.iadd D3_36 (z := 15)
                                exact k.retI D3_37 rfl ⟨congrArg some (congrArg Value.int (sln13 rfl hc5_1 hc30_14 hc30_15)), rfl⟩
                              · replace k := k |>.ifYes D3_30 ((if0 _ _).trans (flt (fun q => hc30_15 ((lw_gt _ _).mp q))).2.2.2) |>.ldcJ (w_287 hw) D3_38 |>.lloadN D3_41 rfl |>.lmul D3_42 (z := (-1000000000000000)) |>.lstoreN D3_43 (Ls' := #[.val (.long q1), .second, .val (.int 1), .val (.long (-1000000000000000)), .second, .val (.int 14)]) rfl |>.iinc D3_44 rfl (z := 15) (by decide) sto5 |>.goto D3_47 |>.iload D3_20 rfl |>.bipush D3_22 19 |>.icmpNo D3_24  |>.lloadN D3_27 rfl |>.lloadN D3_28 rfl
                                replace k := k |>.lcmp D3_29
                                by_cases hc30_16 : (-1000000000000000) < q1
                                · replace k := k |>.ifNo D3_30 ((if0 _ _).trans (tlt ((lw_gt _ _).mpr hc30_16)).2.2.2) |>.iload D3_33 rfl |>.iloadN D3_35 rfl |>.iadd D3_36 (z := 16)
                                  exact k.retI D3_37 rfl ⟨congrArg some (congrArg Value.int (sln14 rfl hc5_1 hc30_15 hc30_16)), rfl⟩
                                · replace k := k |>.ifYes D3_30 ((if0 _ _).trans (flt (fun q => hc30_16 ((lw_gt _ _).mp q))).2.2.2) |>.ldcJ (w_287 hw) D3_38 |>.lloadN D3_41 rfl |>.lmul D3_42 (z := (-10000000000000000)) |>.lstoreN D3_43 (Ls' := #[.val (.long q1), .second, .val (.int 1), .val (.long (-10000000000000000)), .second, .val (.int 15)]) rfl |>.iinc D3_44 rfl (z := 16) (by decide) sto5 |>.goto D3_47 |>.iload D3_20 rfl |>.bipush D3_22 19 |>.icmpNo D3_24  |>.lloadN D3_27 rfl |>.lloadN D3_28 rfl
                                  replace k := k |>.lcmp D3_29
                                  by_cases hc30_17 : (-10000000000000000) < q1
                                  · replace k := k |>.ifNo D3_30 ((if0 _ _).trans (tlt ((lw_gt _ _).mpr hc30_17)).2.2.2) |>.iload D3_33 rfl |>.iloadN D3_35 rfl |>.iadd D3_36 (z := 17)
                                    exact k.retI D3_37 rfl ⟨congrArg some (congrArg Value.int (sln15 rfl hc5_1 hc30_16 hc30_17)), rfl⟩
                                  · replace k := k |>.ifYes D3_30 ((if0 _ _).trans (flt (fun q => hc30_17 ((lw_gt _ _).mp q))).2.2.2) |>.ldcJ (w_287 hw) D3_38 |>.lloadN D3_41 rfl |>.lmul D3_42 (z := (-100000000000000000)) |>.lstoreN D3_43 (Ls' := #[.val (.long q1), .second, .val (.int 1), .val (.long (-100000000000000000)), .second, .val (.int 16)]) rfl |>.iinc D3_44 rfl (z := 17) (by decide) sto5 |>.goto D3_47 |>.iload D3_20 rfl |>.bipush D3_22 19 |>.icmpNo D3_24  |>.lloadN D3_27 rfl |>.lloadN D3_28 rfl
                                    replace k := k |>.lcmp D3_29
                                    by_cases hc30_18 : (-100000000000000000) < q1
                                    · replace k := k |>.ifNo D3_30 ((if0 _ _).trans (tlt ((lw_gt _ _).mpr hc30_18)).2.2.2) |>.iload D3_33 rfl |>.iloadN D3_35 rfl |>.iadd D3_36 (z := 18)
                                      exact k.retI D3_37 rfl ⟨congrArg some (congrArg Value.int (sln16 rfl hc5_1 hc30_17 hc30_18)), rfl⟩
                                    · replace k := k |>.ifYes D3_30 ((if0 _ _).trans (flt (fun q => hc30_18 ((lw_gt _ _).mp q))).2.2.2) |>.ldcJ (w_287 hw) D3_38 |>.lloadN D3_41 rfl |>.lmul D3_42 (z := (-1000000000000000000)) |>.lstoreN D3_43 (Ls' := #[.val (.long q1), .second, .val (.int 1), .val (.long (-1000000000000000000)), .second, .val (.int 17)]) rfl |>.iinc D3_44 rfl (z := 18) (by decide) sto5 |>.goto D3_47 |>.iload D3_20 rfl |>.bipush D3_22 19 |>.icmpNo D3_24  |>.lloadN D3_27 rfl |>.lloadN D3_28 rfl
                                      replace k := k |>.lcmp D3_29
                                      by_cases hc30_19 : (-1000000000000000000) < q1
                                      · replace k := k |>.ifNo D3_30 ((if0 _ _).trans (tlt ((lw_gt _ _).mpr hc30_19)).2.2.2) |>.iload D3_33 rfl |>.iloadN D3_35 rfl |>.iadd D3_36 (z := 19)
                                        exact k.retI D3_37 rfl ⟨congrArg some (congrArg Value.int (sln17 rfl hc5_1 hc30_18 hc30_19)), rfl⟩
                                      · replace k := k |>.ifYes D3_30 ((if0 _ _).trans (flt (fun q => hc30_19 ((lw_gt _ _).mp q))).2.2.2) |>.ldcJ (w_287 hw) D3_38 |>.lloadN D3_41 rfl |>.lmul D3_42 (z := 8446744073709551616) |>.lstoreN D3_43 (Ls' := #[.val (.long q1), .second, .val (.int 1), .val (.long 8446744073709551616), .second, .val (.int 18)]) rfl |>.iinc D3_44 rfl (z := 19) (by decide) sto5 |>.goto D3_47 |>.iload D3_20 rfl |>.bipush D3_22 19 |>.icmpYes D3_24  |>.bipush D3_50 19 |>.iloadN D3_52 rfl
                                        replace k := k |>.iadd D3_53 (z := 20)
                                        exact k.retI D3_54 rfl ⟨congrArg some (congrArg Value.int (sln18 rfl hc5_1 hc30_19)), rfl⟩
  · replace k := k |>.ifNo D3_5 ((if0 _ _).trans (flt (fun q => hc5_1 ((lw_lt _ _).mp q))).1) |>.iconst D3_8 0 |>.istoreN D3_9 sto2 |>.lloadN D3_10 rfl |>.lneg D3_11 rfl |>.lstoreN D3_12 (Ls' := #[.val (.long (-q1)), .second, .val (.int 0), .unset, .unset, .unset]) rfl |>.ldcJ (w_123 hw) D3_13 |>.lstoreN D3_16 (Ls' := #[.val (.long (-q1)), .second, .val (.int 0), .val (.long (-10)), .second, .unset]) rfl |>.iconst D3_17 1 |>.istore D3_18 sto5 |>.iload D3_20 rfl |>.bipush D3_22 19
    replace k := k |>.icmpNo D3_24  |>.lloadN D3_27 rfl |>.lloadN D3_28 rfl |>.lcmp D3_29
    by_cases hc30_20 : (-10) < (-q1)
    · replace k := k |>.ifNo D3_30 ((if0 _ _).trans (tlt ((lw_gt _ _).mpr hc30_20)).2.2.2) |>.iload D3_33 rfl |>.iloadN D3_35 rfl |>.iadd D3_36 (z := 1)
      exact k.retI D3_37 rfl ⟨congrArg some (congrArg Value.int (slp0 rfl hc5_1 hc30_20)), rfl⟩
    · replace k := k |>.ifYes D3_30 ((if0 _ _).trans (flt (fun q => hc30_20 ((lw_gt _ _).mp q))).2.2.2) |>.ldcJ (w_287 hw) D3_38 |>.lloadN D3_41 rfl |>.lmul D3_42 (z := (-100)) |>.lstoreN D3_43 (Ls' := #[.val (.long (-q1)), .second, .val (.int 0), .val (.long (-100)), .second, .val (.int 1)]) rfl |>.iinc D3_44 rfl (z := 2) (by decide) sto5 |>.goto D3_47 |>.iload D3_20 rfl |>.bipush D3_22 19 |>.icmpNo D3_24  |>.lloadN D3_27 rfl |>.lloadN D3_28 rfl
      replace k := k |>.lcmp D3_29
      by_cases hc30_21 : (-100) < (-q1)
      · replace k := k |>.ifNo D3_30 ((if0 _ _).trans (tlt ((lw_gt _ _).mpr hc30_21)).2.2.2) |>.iload D3_33 rfl |>.iloadN D3_35 rfl |>.iadd D3_36 (z := 2)
        exact k.retI D3_37 rfl ⟨congrArg some (congrArg Value.int (slp1 rfl hc5_1 hc30_20 hc30_21)), rfl⟩
      · replace k := k |>.ifYes D3_30 ((if0 _ _).trans (flt (fun q => hc30_21 ((lw_gt _ _).mp q))).2.2.2) |>.ldcJ (w_287 hw) D3_38 |>.lloadN D3_41 rfl |>.lmul D3_42 (z := (-1000)) |>.lstoreN D3_43 (Ls' := #[.val (.long (-q1)), .second, .val (.int 0), .val (.long (-1000)), .second, .val (.int 2)]) rfl |>.iinc D3_44 rfl (z := 3) (by decide) sto5 |>.goto D3_47 |>.iload D3_20 rfl |>.bipush D3_22 19 |>.icmpNo D3_24  |>.lloadN D3_27 rfl |>.lloadN D3_28 rfl
        replace k := k |>.lcmp D3_29
        by_cases hc30_22 : (-1000) < (-q1)
        · replace k := k |>.ifNo D3_30 ((if0 _ _).trans (tlt ((lw_gt _ _).mpr hc30_22)).2.2.2) |>.iload D3_33 rfl |>.iloadN D3_35 rfl |>.iadd D3_36 (z := 3)
          exact k.retI D3_37 rfl ⟨congrArg some (congrArg Value.int (slp2 rfl hc5_1 hc30_21 hc30_22)), rfl⟩
        · replace k := k |>.ifYes D3_30 ((if0 _ _).trans (flt (fun q => hc30_22 ((lw_gt _ _).mp q))).2.2.2) |>.ldcJ (w_287 hw) D3_38 |>.lloadN D3_41 rfl |>.lmul D3_42 (z := (-10000)) |>.lstoreN D3_43 (Ls' := #[.val (.long (-q1)), .second, .val (.int 0), .val (.long (-10000)), .second, .val (.int 3)]) rfl |>.iinc D3_44 rfl (z := 4) (by decide) sto5 |>.goto D3_47 |>.iload D3_20 rfl |>.bipush D3_22 19 |>.icmpNo D3_24  |>.lloadN D3_27 rfl |>.lloadN D3_28 rfl
          replace k := k |>.lcmp D3_29
          by_cases hc30_23 : (-10000) < (-q1)
          · replace k := k |>.ifNo D3_30 ((if0 _ _).trans (tlt ((lw_gt _ _).mpr hc30_23)).2.2.2) |>.iload D3_33 rfl |>.iloadN D3_35 rfl |>.iadd D3_36 (z := 4)
            exact k.retI D3_37 rfl ⟨congrArg some (congrArg Value.int (slp3 rfl hc5_1 hc30_22 hc30_23)), rfl⟩
          · replace k := k |>.ifYes D3_30 ((if0 _ _).trans (flt (fun q => hc30_23 ((lw_gt _ _).mp q))).2.2.2) |>.ldcJ (w_287 hw) D3_38 |>.lloadN D3_41 rfl |>.lmul D3_42 (z := (-100000)) |>.lstoreN D3_43 (Ls' := #[.val (.long (-q1)), .second, .val (.int 0), .val (.long (-100000)), .second, .val (.int 4)]) rfl |>.iinc D3_44 rfl (z := 5) (by decide) sto5 |>.goto D3_47 |>.iload D3_20 rfl |>.bipush D3_22 19 |>.icmpNo D3_24  |>.lloadN D3_27 rfl |>.lloadN D3_28 rfl
            replace k := k |>.lcmp D3_29
            by_cases hc30_24 : (-100000) < (-q1)
            · replace k := k |>.ifNo D3_30 ((if0 _ _).trans (tlt ((lw_gt _ _).mpr hc30_24)).2.2.2) |>.iload D3_33 rfl |>.iloadN D3_35 rfl |>.iadd D3_36 (z := 5)
              exact k.retI D3_37 rfl ⟨congrArg some (congrArg Value.int (slp4 rfl hc5_1 hc30_23 hc30_24)), rfl⟩
            · replace k := k |>.ifYes D3_30 ((if0 _ _).trans (flt (fun q => hc30_24 ((lw_gt _ _).mp q))).2.2.2) |>.ldcJ (w_287 hw) D3_38 |>.lloadN D3_41 rfl |>.lmul D3_42 (z := (-1000000)) |>.lstoreN D3_43 (Ls' := #[.val (.long (-q1)), .second, .val (.int 0), .val (.long (-1000000)), .second, .val (.int 5)]) rfl |>.iinc D3_44 rfl (z := 6) (by decide) sto5 |>.goto D3_47 |>.iload D3_20 rfl |>.bipush D3_22 19 |>.icmpNo D3_24  |>.lloadN D3_27 rfl |>.lloadN D3_28 rfl
              replace k := k |>.lcmp D3_29
              by_cases hc30_25 : (-1000000) < (-q1)
              · replace k := k |>.ifNo D3_30 ((if0 _ _).trans (tlt ((lw_gt _ _).mpr hc30_25)).2.2.2) |>.iload D3_33 rfl |>.iloadN D3_35 rfl |>.iadd D3_36 (z := 6)
                exact k.retI D3_37 rfl ⟨congrArg some (congrArg Value.int (slp5 rfl hc5_1 hc30_24 hc30_25)), rfl⟩
              · replace k := k |>.ifYes D3_30 ((if0 _ _).trans (flt (fun q => hc30_25 ((lw_gt _ _).mp q))).2.2.2) |>.ldcJ (w_287 hw) D3_38 |>.lloadN D3_41 rfl |>.lmul D3_42 (z := (-10000000)) |>.lstoreN D3_43 (Ls' := #[.val (.long (-q1)), .second, .val (.int 0), .val (.long (-10000000)), .second, .val (.int 6)]) rfl |>.iinc D3_44 rfl (z := 7) (by decide) sto5 |>.goto D3_47 |>.iload D3_20 rfl |>.bipush D3_22 19 |>.icmpNo D3_24  |>.lloadN D3_27 rfl |>.lloadN D3_28 rfl
                replace k := k |>.lcmp D3_29
                by_cases hc30_26 : (-10000000) < (-q1)
                · replace k := k |>.ifNo D3_30 ((if0 _ _).trans (tlt ((lw_gt _ _).mpr hc30_26)).2.2.2) |>.iload D3_33 rfl |>.iloadN D3_35 rfl |>.iadd D3_36 (z := 7)
                  exact k.retI D3_37 rfl ⟨congrArg some (congrArg Value.int (slp6 rfl hc5_1 hc30_25 hc30_26)), rfl⟩
                · replace k := k |>.ifYes D3_30 ((if0 _ _).trans (flt (fun q => hc30_26 ((lw_gt _ _).mp q))).2.2.2) |>.ldcJ (w_287 hw) D3_38 |>.lloadN D3_41 rfl |>.lmul D3_42 (z := (-100000000)) |>.lstoreN D3_43 (Ls' := #[.val (.long (-q1)), .second, .val (.int 0), .val (.long (-100000000)), .second, .val (.int 7)]) rfl |>.iinc D3_44 rfl (z := 8) (by decide) sto5 |>.goto D3_47 |>.iload D3_20 rfl |>.bipush D3_22 19 |>.icmpNo D3_24  |>.lloadN D3_27 rfl |>.lloadN D3_28 rfl
                  replace k := k |>.lcmp D3_29
                  by_cases hc30_27 : (-100000000) < (-q1)
                  · replace k := k |>.ifNo D3_30 ((if0 _ _).trans (tlt ((lw_gt _ _).mpr hc30_27)).2.2.2) |>.iload D3_33 rfl |>.iloadN D3_35 rfl |>.iadd D3_36 (z := 8)
                    exact k.retI D3_37 rfl ⟨congrArg some (congrArg Value.int (slp7 rfl hc5_1 hc30_26 hc30_27)), rfl⟩
                  · replace k := k |>.ifYes D3_30 ((if0 _ _).trans (flt (fun q => hc30_27 ((lw_gt _ _).mp q))).2.2.2) |>.ldcJ (w_287 hw) D3_38 |>.lloadN D3_41 rfl |>.lmul D3_42 (z := (-1000000000)) |>.lstoreN D3_43 (Ls' := #[.val (.long (-q1)), .second, .val (.int 0), .val (.long (-1000000000)), .second, .val (.int 8)]) rfl |>.iinc D3_44 rfl (z := 9) (by decide) sto5 |>.goto D3_47 |>.iload D3_20 rfl |>.bipush D3_22 19 |>.icmpNo D3_24  |>.lloadN D3_27 rfl |>.lloadN D3_28 rfl
                    replace k := k |>.lcmp D3_29
                    by_cases hc30_28 : (-1000000000) < (-q1)
                    · replace k := k |>.ifNo D3_30 ((if0 _ _).trans (tlt ((lw_gt _ _).mpr hc30_28)).2.2.2) |>.iload D3_33 rfl |>.iloadN D3_35 rfl |>.iadd D3_36 (z := 9)
                      exact k.retI D3_37 rfl ⟨congrArg some (congrArg Value.int (slp8 rfl hc5_1 hc30_27 hc30_28)), rfl⟩
                    · replace k := k |>.ifYes D3_30 ((if0 _ _).trans (flt (fun q => hc30_28 ((lw_gt _ _).mp q))).2.2.2) |>.ldcJ (w_287 hw) D3_38 |>.lloadN D3_41 rfl |>.lmul D3_42 (z := (-10000000000)) |>.lstoreN D3_43 (Ls' := #[.val (.long (-q1)), .second, .val (.int 0), .val (.long (-10000000000)), .second, .val (.int 9)]) rfl |>.iinc D3_44 rfl (z := 10) (by decide) sto5 |>.goto D3_47 |>.iload D3_20 rfl |>.bipush D3_22 19 |>.icmpNo D3_24  |>.lloadN D3_27 rfl |>.lloadN D3_28 rfl
                      replace k := k |>.lcmp D3_29
                      by_cases hc30_29 : (-10000000000) < (-q1)
                      · replace k := k |>.ifNo D3_30 ((if0 _ _).trans (tlt ((lw_gt _ _).mpr hc30_29)).2.2.2) |>.iload D3_33 rfl |>.iloadN D3_35 rfl |>.iadd D3_36 (z := 10)
                        exact k.retI D3_37 rfl ⟨congrArg some (congrArg Value.int (slp9 rfl hc5_1 hc30_28 hc30_29)), rfl⟩
                      · replace k := k |>.ifYes D3_30 ((if0 _ _).trans (flt (fun q => hc30_29 ((lw_gt _ _).mp q))).2.2.2) |>.ldcJ (w_287 hw) D3_38 |>.lloadN D3_41 rfl |>.lmul D3_42 (z := (-100000000000)) |>.lstoreN D3_43 (Ls' := #[.val (.long (-q1)), .second, .val (.int 0), .val (.long (-100000000000)), .second, .val (.int 10)]) rfl |>.iinc D3_44 rfl (z := 11) (by decide) sto5 |>.goto D3_47 |>.iload D3_20 rfl |>.bipush D3_22 19 |>.icmpNo D3_24  |>.lloadN D3_27 rfl |>.lloadN D3_28 rfl
                        replace k := k |>.lcmp D3_29
                        by_cases hc30_30 : (-100000000000) < (-q1)
                        · replace k := k |>.ifNo D3_30 ((if0 _ _).trans (tlt ((lw_gt _ _).mpr hc30_30)).2.2.2) |>.iload D3_33 rfl |>.iloadN D3_35 rfl |>.iadd D3_36 (z := 11)
                          exact k.retI D3_37 rfl ⟨congrArg some (congrArg Value.int (slp10 rfl hc5_1 hc30_29 hc30_30)), rfl⟩
                        · replace k := k |>.ifYes D3_30 ((if0 _ _).trans (flt (fun q => hc30_30 ((lw_gt _ _).mp q))).2.2.2) |>.ldcJ (w_287 hw) D3_38 |>.lloadN D3_41 rfl |>.lmul D3_42 (z := (-1000000000000)) |>.lstoreN D3_43 (Ls' := #[.val (.long (-q1)), .second, .val (.int 0), .val (.long (-1000000000000)), .second, .val (.int 11)]) rfl |>.iinc D3_44 rfl (z := 12) (by decide) sto5 |>.goto D3_47 |>.iload D3_20 rfl |>.bipush D3_22 19 |>.icmpNo D3_24  |>.lloadN D3_27 rfl |>.lloadN D3_28 rfl
                          replace k := k |>.lcmp D3_29
                          by_cases hc30_31 : (-1000000000000) < (-q1)
                          · replace k := k |>.ifNo D3_30 ((if0 _ _).trans (tlt ((lw_gt _ _).mpr hc30_31)).2.2.2) |>.iload D3_33 rfl |>.iloadN D3_35 rfl |>.iadd D3_36 (z := 12)
                            exact k.retI D3_37 rfl ⟨congrArg some (congrArg Value.int (slp11 rfl hc5_1 hc30_30 hc30_31)), rfl⟩
                          · replace k := k |>.ifYes D3_30 ((if0 _ _).trans (flt (fun q => hc30_31 ((lw_gt _ _).mp q))).2.2.2) |>.ldcJ (w_287 hw) D3_38 |>.lloadN D3_41 rfl |>.lmul D3_42 (z := (-10000000000000)) |>.lstoreN D3_43 (Ls' := #[.val (.long (-q1)), .second, .val (.int 0), .val (.long (-10000000000000)), .second, .val (.int 12)]) rfl |>.iinc D3_44 rfl (z := 13) (by decide) sto5 |>.goto D3_47 |>.iload D3_20 rfl |>.bipush D3_22 19 |>.icmpNo D3_24  |>.lloadN D3_27 rfl |>.lloadN D3_28 rfl
                            replace k := k |>.lcmp D3_29
                            by_cases hc30_32 : (-10000000000000) < (-q1)
                            · replace k := k |>.ifNo D3_30 ((if0 _ _).trans (tlt ((lw_gt _ _).mpr hc30_32)).2.2.2) |>.iload D3_33 rfl |>.iloadN D3_35 rfl |>.iadd D3_36 (z := 13)
                              exact k.retI D3_37 rfl ⟨congrArg some (congrArg Value.int (slp12 rfl hc5_1 hc30_31 hc30_32)), rfl⟩
                            · replace k := k |>.ifYes D3_30 ((if0 _ _).trans (flt (fun q => hc30_32 ((lw_gt _ _).mp q))).2.2.2) |>.ldcJ (w_287 hw) D3_38 |>.lloadN D3_41 rfl |>.lmul D3_42 (z := (-100000000000000)) |>.lstoreN D3_43 (Ls' := #[.val (.long (-q1)), .second, .val (.int 0), .val (.long (-100000000000000)), .second, .val (.int 13)]) rfl |>.iinc D3_44 rfl (z := 14) (by decide) sto5 |>.goto D3_47 |>.iload D3_20 rfl |>.bipush D3_22 19 |>.icmpNo D3_24  |>.lloadN D3_27 rfl |>.lloadN D3_28 rfl
                              replace k := k |>.lcmp D3_29
                              by_cases hc30_33 : (-100000000000000) < (-q1)
                              · replace k := k |>.ifNo D3_30 ((if0 _ _).trans (tlt ((lw_gt _ _).mpr hc30_33)).2.2.2) |>.iload D3_33 rfl |>.iloadN D3_35 rfl |>.iadd D3_36 (z := 14)
                                exact k.retI D3_37 rfl ⟨congrArg some (congrArg Value.int (slp13 rfl hc5_1 hc30_32 hc30_33)), rfl⟩
                              · replace k := k |>.ifYes D3_30 ((if0 _ _).trans (flt (fun q => hc30_33 ((lw_gt _ _).mp q))).2.2.2) |>.ldcJ (w_287 hw) D3_38 |>.lloadN D3_41 rfl |>.lmul D3_42 (z := (-1000000000000000)) |>.lstoreN D3_43 (Ls' := #[.val (.long (-q1)), .second, .val (.int 0), .val (.long (-1000000000000000)), .second, .val (.int 14)]) rfl |>.iinc D3_44 rfl (z := 15) (by decide) sto5 |>.goto D3_47 |>.iload D3_20 rfl |>.bipush D3_22 19 |>.icmpNo D3_24  |>.lloadN D3_27 rfl |>.lloadN D3_28 rfl
                                replace k := k |>.lcmp D3_29
                                by_cases hc30_34 : (-1000000000000000) < (-q1)
                                · replace k := k |>.ifNo D3_30 ((if0 _ _).trans (tlt ((lw_gt _ _).mpr hc30_34)).2.2.2) |>.iload D3_33 rfl |>.iloadN D3_35 rfl |>.iadd D3_36 (z := 15)
                                  exact k.retI D3_37 rfl ⟨congrArg some (congrArg Value.int (slp14 rfl hc5_1 hc30_33 hc30_34)), rfl⟩
                                · replace k := k |>.ifYes D3_30 ((if0 _ _).trans (flt (fun q => hc30_34 ((lw_gt _ _).mp q))).2.2.2) |>.ldcJ (w_287 hw) D3_38 |>.lloadN D3_41 rfl |>.lmul D3_42 (z := (-10000000000000000)) |>.lstoreN D3_43 (Ls' := #[.val (.long (-q1)), .second, .val (.int 0), .val (.long (-10000000000000000)), .second, .val (.int 15)]) rfl |>.iinc D3_44 rfl (z := 16) (by decide) sto5 |>.goto D3_47 |>.iload D3_20 rfl |>.bipush D3_22 19 |>.icmpNo D3_24  |>.lloadN D3_27 rfl |>.lloadN D3_28 rfl
                                  replace k := k |>.lcmp D3_29
                                  by_cases hc30_35 : (-10000000000000000) < (-q1)
                                  · replace k := k |>.ifNo D3_30 ((if0 _ _).trans (tlt ((lw_gt _ _).mpr hc30_35)).2.2.2) |>.iload D3_33 rfl |>.iloadN D3_35 rfl |>.iadd D3_36 (z := 16)
                                    exact k.retI D3_37 rfl ⟨congrArg some (congrArg Value.int (slp15 rfl hc5_1 hc30_34 hc30_35)), rfl⟩
                                  · replace k := k |>.ifYes D3_30 ((if0 _ _).trans (flt (fun q => hc30_35 ((lw_gt _ _).mp q))).2.2.2) |>.ldcJ (w_287 hw) D3_38 |>.lloadN D3_41 rfl |>.lmul D3_42 (z := (-100000000000000000)) |>.lstoreN D3_43 (Ls' := #[.val (.long (-q1)), .second, .val (.int 0), .val (.long (-100000000000000000)), .second, .val (.int 16)]) rfl |>.iinc D3_44 rfl (z := 17) (by decide) sto5 |>.goto D3_47 |>.iload D3_20 rfl |>.bipush D3_22 19 |>.icmpNo D3_24  |>.lloadN D3_27 rfl |>.lloadN D3_28 rfl
                                    replace k := k |>.lcmp D3_29
                                    by_cases hc30_36 : (-100000000000000000) < (-q1)
                                    · replace k := k |>.ifNo D3_30 ((if0 _ _).trans (tlt ((lw_gt _ _).mpr hc30_36)).2.2.2) |>.iload D3_33 rfl |>.iloadN D3_35 rfl |>.iadd D3_36 (z := 17)
                                      exact k.retI D3_37 rfl ⟨congrArg some (congrArg Value.int (slp16 rfl hc5_1 hc30_35 hc30_36)), rfl⟩
                                    · replace k := k |>.ifYes D3_30 ((if0 _ _).trans (flt (fun q => hc30_36 ((lw_gt _ _).mp q))).2.2.2) |>.ldcJ (w_287 hw) D3_38 |>.lloadN D3_41 rfl |>.lmul D3_42 (z := (-1000000000000000000)) |>.lstoreN D3_43 (Ls' := #[.val (.long (-q1)), .second, .val (.int 0), .val (.long (-1000000000000000000)), .second, .val (.int 17)]) rfl |>.iinc D3_44 rfl (z := 18) (by decide) sto5 |>.goto D3_47 |>.iload D3_20 rfl |>.bipush D3_22 19 |>.icmpNo D3_24  |>.lloadN D3_27 rfl |>.lloadN D3_28 rfl
                                      replace k := k |>.lcmp D3_29
                                      by_cases hc30_37 : (-1000000000000000000) < (-q1)
                                      · replace k := k |>.ifNo D3_30 ((if0 _ _).trans (tlt ((lw_gt _ _).mpr hc30_37)).2.2.2) |>.iload D3_33 rfl |>.iloadN D3_35 rfl |>.iadd D3_36 (z := 18)
                                        exact k.retI D3_37 rfl ⟨congrArg some (congrArg Value.int (slp17 rfl hc5_1 hc30_36 hc30_37)), rfl⟩
                                      · replace k := k |>.ifYes D3_30 ((if0 _ _).trans (flt (fun q => hc30_37 ((lw_gt _ _).mp q))).2.2.2) |>.ldcJ (w_287 hw) D3_38 |>.lloadN D3_41 rfl |>.lmul D3_42 (z := 8446744073709551616) |>.lstoreN D3_43 (Ls' := #[.val (.long (-q1)), .second, .val (.int 0), .val (.long 8446744073709551616), .second, .val (.int 18)]) rfl |>.iinc D3_44 rfl (z := 19) (by decide) sto5 |>.goto D3_47 |>.iload D3_20 rfl |>.bipush D3_22 19 |>.icmpYes D3_24  |>.bipush D3_50 19 |>.iloadN D3_52 rfl
                                        replace k := k |>.iadd D3_53 (z := 19)
                                        exact k.retI D3_54 rfl ⟨congrArg some (congrArg Value.int (slp18 rfl hc5_1 hc30_37)), rfl⟩
abbrev Y4 : MethodName := ⟨"java/lang/Long", "getChars", "(JI[B)I"⟩
abbrev J4 := jdk_35_method_14_code
abbrev C4 : Cond := .code Y4 J4 11 (some .int)
theorem D4_24 : Dc J4 24 (.lload_n 0) 1 25 := by decide +kernel
theorem D4_25 : Dc J4 25 (.ldc2_w 129) 3 28 := by decide +kernel
abbrev w_132 (hw : HW a0 Z) := hw.at 132 rfl
theorem D4_28 : Dc J4 28 .lcmp 1 29 := by decide +kernel
theorem D4_29 : Dj J4 29 (.ifCond .gt 53) 53 32 82 := by decide +kernel
theorem D4_32 : Dc J4 32 (.lload_n 0) 1 33 := by decide +kernel
theorem D4_33 : Dc J4 33 (.ldc2_w 131) 3 36 := by decide +kernel
abbrev w_306 (hw : HW a0 Z) := hw.at 306 rfl
theorem D4_36 : Dc J4 36 .ldiv 1 37 := by decide +kernel
theorem D4_37 : Dc J4 37 (.lstore 4) 2 39 := by decide +kernel
theorem D4_39 : Dc J4 39 (.lload 4) 2 41 := by decide +kernel
theorem D4_41 : Dc J4 41 (.ldc2_w 131) 3 44 := by decide +kernel
theorem D4_44 : Dc J4 44 .lmul 1 45 := by decide +kernel
theorem D4_45 : Dc J4 45 (.lload_n 0) 1 46 := by decide +kernel
theorem D4_46 : Dc J4 46 .lsub 1 47 := by decide +kernel
theorem D4_47 : Dc J4 47 .l2i 1 48 := by decide +kernel
theorem D4_48 : Dc J4 48 (.istore 6) 2 50 := by decide +kernel
theorem sto6 {x0 x1 x2 x3 x4 x5 x : Slot} {t : List Slot} {v : Value} (hx : okS x = true := by rfl) (hv : v.category = 1 := by rfl) : storeLocals (List.toArray (x0 :: x1 :: x2 :: x3 :: x4 :: x5 :: x :: t)) 6 v = some (List.toArray (x0 :: x1 :: x2 :: x3 :: x4 :: x5 :: .val v :: t)) := stoA (A := [x0, x1, x2, x3, x4, x5]) hx hv
theorem D4_50 : Dc J4 50 (.lload 4) 2 52 := by decide +kernel
theorem D4_52 : Dc J4 52 (.lstore_n 0) 1 53 := by decide +kernel
theorem D4_53 : Dc J4 53 (.aload_n 3) 1 54 := by decide +kernel
theorem D4_54 : Dc J4 54 (.iinc 7 (-1)) 3 57 := by decide +kernel
theorem sto7 {x0 x1 x2 x3 x4 x5 x6 x : Slot} {t : List Slot} {v : Value} (hx : okS x = true := by rfl) (hv : v.category = 1 := by rfl) : storeLocals (List.toArray (x0 :: x1 :: x2 :: x3 :: x4 :: x5 :: x6 :: x :: t)) 7 v = some (List.toArray (x0 :: x1 :: x2 :: x3 :: x4 :: x5 :: x6 :: .val v :: t)) := stoA (A := [x0, x1, x2, x3, x4, x5, x6]) hx hv
theorem D4_57 : Dc J4 57 (.iload 7) 2 59 := by decide +kernel
theorem D4_59 : Dc J4 59 (.getstatic 133) 3 62 := by decide +kernel
abbrev w_133 (hw : HW a0 Z) := hw.at 133 rfl
theorem fl_133 (hw : HW a0 Z) : FL Z a0 "java/lang/Long" 133 "java/lang/Integer" "DigitOnes" "[B" := ⟨_, "", Or.inl (w_133 hw), Via.refl⟩
theorem D4_62 : Dc J4 62 (.iload 6) 2 64 := by decide +kernel
theorem D4_64 : Dc J4 64 .baload 1 65 := by decide +kernel
theorem D4_65 : Dc J4 65 .bastore 1 66 := by decide +kernel
theorem D4_66 : Dc J4 66 (.aload_n 3) 1 67 := by decide +kernel
theorem D4_67 : Dc J4 67 (.iinc 7 (-1)) 3 70 := by decide +kernel
theorem D4_70 : Dc J4 70 (.iload 7) 2 72 := by decide +kernel
theorem D4_72 : Dc J4 72 (.getstatic 137) 3 75 := by decide +kernel
abbrev w_288 (hw : HW a0 Z) := hw.at 288 rfl
theorem fl_288 (hw : HW a0 Z) : FL Z a0 "java/lang/Long" 137 "java/lang/Integer" "DigitTens" "[B" := ⟨_, "", Or.inl (w_288 hw), Via.refl⟩
theorem D4_75 : Dc J4 75 (.iload 6) 2 77 := by decide +kernel
theorem D4_77 : Dc J4 77 .baload 1 78 := by decide +kernel
theorem D4_78 : Dc J4 78 .bastore 1 79 := by decide +kernel
theorem D4_79 : Dj J4 79 (.goto (-55)) (-55) 82 24 := by decide +kernel
theorem LP_gl {p : Program} {e : Env} {R : Room} {s : State} {m : MethodId} {args : Array Value} {below : List Frame} {meth : Method} {c : Code} {S : State} {g : JFrame} {ml : Nat} {mn : String} {rt : Option FieldType} {vm : Vm} {cells slots : Nat} {a1 : Addr} {vN : Int32} {f1 : Nat → Int32} {M E sg : Nat} {q1 ng : Int32} (hw : HW a0 Z) (G : Gl Z w_CS w_SF w_DO w_DT w_fO w_fT w_US w_SS) (N1 : n0 ≤ a1) : ∀ (n : Nat) {vi : Int64} {vc : Int32} {f2 : Nat → Int32} {y4 y5 y6 : Slot} {hx : Heap} {kk : Nat}, okS y6 = true → ((y4 = .unset ∧ y5 = .unset) ∨ ∃ q : Int64, y4 = .val (.long q) ∧ y5 = .second) → (-vi.toInt).toNat < n → GK M E sg f1 f2 vN vi vc kk → Ary Z hx a1 ATB vN.toNatClampNeg (bv f2) → Wk false [] p l e R s m args below meth c S g "java/lang/Long" J4 ml mn rt Z a0 n0 h0 vm hx cells slots 24 #[.val (.long vi), .second, .val (.int q1), .val (.ref a1), y4, y5, y6, .val (.int vc), .val (.int ng), .unset, .unset] [] → ∃ (wi : Int64) (wc : Int32) (f3 : Nat → Int32) (z4 z5 z6 : Slot) (hy : Heap) (kl : Nat), okS z6 = true ∧ (-2147483648) < wi ∧ GK M E sg f1 f3 vN wi wc kl ∧ Keep hx hy [a1] ∧ Ary Z hy a1 ATB vN.toNatClampNeg (bv f3) ∧ Wk false [] p l e R s m args below meth c S g "java/lang/Long" J4 ml mn rt Z a0 n0 h0 vm hy cells slots 82 #[.val (.long wi), .second, .val (.int q1), .val (.ref a1), z4, z5, z6, .val (.int wc), .val (.int ng), .unset, .unset] [] := by
  intro n
  induction n with
  | zero => intro vi vc f2 y4 y5 y6 hx kk _ _ hl; exact absurd hl (Nat.not_lt_zero _)
  | succ n ih =>
    intro vi vc f2 y4 y5 y6 hx kk o6 hy hl I A k
    replace k := k |>.lloadN D4_24 rfl |>.ldcJ (w_132 hw) D4_25 |>.lcmp D4_28
    by_cases hc29_1 : (-2147483648) < vi
    · replace k := k |>.ifYes D4_29 ((if0 _ _).trans (tlt ((lw_gt _ _).mpr hc29_1)).2.2.1)
      exact ⟨vi, vc, f2, y4, y5, y6, hx, kk, o6, hc29_1, I, Keep.refl hx [a1], A, k⟩
    · replace k := k |>.ifNo D4_29 ((if0 _ _).trans (flt (fun q => hc29_1 ((lw_gt _ _).mp q))).2.2.1)
      obtain ⟨x1, x2, x3, x4, x5, x6⟩ := I.bt rfl rfl rfl rfl hc29_1
      have sl : ∀ v : Int64, storeLocals #[.val (.long vi), .second, .val (.int q1), .val (.ref a1), y4, y5, y6, .val (.int vc), .val (.int ng), .unset, .unset] 4 (.long v) = some #[.val (.long vi), .second, .val (.int q1), .val (.ref a1), .val (.long v), .second, y6, .val (.int vc), .val (.int ng), .unset, .unset] := by
        intro v
        rcases hy with ⟨rfl, rfl⟩ | ⟨q, rfl, rfl⟩ <;> rfl
      replace k := k |>.lloadN D4_32 rfl |>.ldcJ (w_306 hw) D4_33 |>.ldiv D4_36 (by decide) rfl |>.lstore D4_37 (sl _) |>.lload D4_39 rfl |>.ldcJ (w_306 hw) D4_41 |>.lmul D4_44 rfl |>.lloadN D4_45 rfl |>.lsub D4_46 rfl |>.l2i D4_47 rfl |>.istore D4_48 (sto6 o6) |>.lload D4_50 rfl
      replace k := k |>.lstoreN D4_52 (Ls' := #[.val (.long (vi / 100)), .second, .val (.int q1), .val (.ref a1), .val (.long (vi / 100)), .second, .val (.int ((((vi / 100) * 100) - vi).toInt32)), .val (.int vc), .val (.int ng), .unset, .unset]) rfl |>.aloadN D4_53 rfl rfl |>.iinc D4_54 rfl (z := (vc + (-1))) rfl sto7 |>.iload D4_57 rfl |>.getS (fl_133 hw) G.S_DO D4_59 |>.iload D4_62 rfl |>.bald (G.A_DO.ext k.old.2) D4_64 (i := ((((vi / 100) * 100) - vi).toInt32).toNatClampNeg) (ixS x5 x6 rfl) bv_at
      obtain ⟨h2, K2, O2, k⟩ := k.stB A N1 (Or.inl rfl) D4_65 (i := (vc + (-1)).toNatClampNeg) (ixS x1 x2 rfl) (v := (.int (nar .byte (w_fO ((((vi / 100) * 100) - vi).toInt32).toNatClampNeg)))) rfl (fits_nar_byte _) bv_upd
      replace k := k |>.aloadN D4_66 rfl rfl |>.iinc D4_67 rfl (z := ((vc + (-1)) + (-1))) rfl sto7 |>.iload D4_70 rfl |>.getS (fl_288 hw) G.S_DT D4_72 |>.iload D4_75 rfl |>.bald (G.A_DT.ext k.old.2) D4_77 (i := ((((vi / 100) * 100) - vi).toInt32).toNatClampNeg) (ixS x5 x6 rfl) bv_at
      obtain ⟨h3, K3, O3, k⟩ := k.stB O2 N1 (Or.inl rfl) D4_78 (i := ((vc + (-1)) + (-1)).toNatClampNeg) (ixS x3 x4 rfl) (v := (.int (nar .byte (w_fT ((((vi / 100) * 100) - vi).toInt32).toNatClampNeg)))) rfl (fits_nar_byte _) bv_upd
      replace k := k |>.goto D4_79
      obtain ⟨wi, wc, f3, z4, z5, z6, hy2, kl, o1, u1, u2, u3, u4, k⟩ := ih rfl (Or.inr ⟨_, rfl, rfl⟩) (I.dec rfl hc29_1 hl) (I.turn rfl rfl rfl rfl hc29_1 G.h_DO G.h_DT) O3 k
      exact ⟨wi, wc, f3, z4, z5, z6, hy2, kl, o1, u1, u2, (K2.trans K3 (allS (Or.inl (List.mem_of_getElem? (i := 0) rfl)) all0)).trans u3 (allS (Or.inl (List.mem_of_getElem? (i := 0) rfl)) all0), u4, k⟩
theorem D4_86 : Dc J4 86 (.iload 10) 2 88 := by decide +kernel
theorem D4_88 : Dc J4 88 (.bipush (-100)) 2 90 := by decide +kernel
theorem D4_90 : Dj J4 90 (.if_icmp .gt 53) 53 93 143 := by decide +kernel
theorem D4_93 : Dc J4 93 (.iload 10) 2 95 := by decide +kernel
theorem D4_95 : Dc J4 95 (.bipush 100) 2 97 := by decide +kernel
theorem D4_97 : Dc J4 97 .idiv 1 98 := by decide +kernel
theorem D4_98 : Dc J4 98 (.istore 9) 2 100 := by decide +kernel
theorem sto9 {x0 x1 x2 x3 x4 x5 x6 x7 x8 x : Slot} {t : List Slot} {v : Value} (hx : okS x = true := by rfl) (hv : v.category = 1 := by rfl) : storeLocals (List.toArray (x0 :: x1 :: x2 :: x3 :: x4 :: x5 :: x6 :: x7 :: x8 :: x :: t)) 9 v = some (List.toArray (x0 :: x1 :: x2 :: x3 :: x4 :: x5 :: x6 :: x7 :: x8 :: .val v :: t)) := stoA (A := [x0, x1, x2, x3, x4, x5, x6, x7, x8]) hx hv
theorem D4_100 : Dc J4 100 (.iload 9) 2 102 := by decide +kernel
theorem D4_102 : Dc J4 102 (.bipush 100) 2 104 := by decide +kernel
theorem D4_104 : Dc J4 104 .imul 1 105 := by decide +kernel
theorem D4_105 : Dc J4 105 (.iload 10) 2 107 := by decide +kernel
theorem D4_107 : Dc J4 107 .isub 1 108 := by decide +kernel
theorem D4_108 : Dc J4 108 (.istore 6) 2 110 := by decide +kernel
theorem D4_110 : Dc J4 110 (.iload 9) 2 112 := by decide +kernel
theorem D4_112 : Dc J4 112 (.istore 10) 2 114 := by decide +kernel
theorem sto10 {x0 x1 x2 x3 x4 x5 x6 x7 x8 x9 x : Slot} {t : List Slot} {v : Value} (hx : okS x = true := by rfl) (hv : v.category = 1 := by rfl) : storeLocals (List.toArray (x0 :: x1 :: x2 :: x3 :: x4 :: x5 :: x6 :: x7 :: x8 :: x9 :: x :: t)) 10 v = some (List.toArray (x0 :: x1 :: x2 :: x3 :: x4 :: x5 :: x6 :: x7 :: x8 :: x9 :: .val v :: t)) := stoA (A := [x0, x1, x2, x3, x4, x5, x6, x7, x8, x9]) hx hv
theorem D4_114 : Dc J4 114 (.aload_n 3) 1 115 := by decide +kernel
theorem D4_115 : Dc J4 115 (.iinc 7 (-1)) 3 118 := by decide +kernel
theorem D4_118 : Dc J4 118 (.iload 7) 2 120 := by decide +kernel
theorem D4_120 : Dc J4 120 (.getstatic 133) 3 123 := by decide +kernel
theorem D4_123 : Dc J4 123 (.iload 6) 2 125 := by decide +kernel
theorem D4_125 : Dc J4 125 .baload 1 126 := by decide +kernel
theorem D4_126 : Dc J4 126 .bastore 1 127 := by decide +kernel
theorem D4_127 : Dc J4 127 (.aload_n 3) 1 128 := by decide +kernel
theorem D4_128 : Dc J4 128 (.iinc 7 (-1)) 3 131 := by decide +kernel
theorem D4_131 : Dc J4 131 (.iload 7) 2 133 := by decide +kernel
theorem D4_133 : Dc J4 133 (.getstatic 137) 3 136 := by decide +kernel
theorem D4_136 : Dc J4 136 (.iload 6) 2 138 := by decide +kernel
theorem D4_138 : Dc J4 138 .baload 1 139 := by decide +kernel
theorem D4_139 : Dc J4 139 .bastore 1 140 := by decide +kernel
theorem D4_140 : Dj J4 140 (.goto (-54)) (-54) 143 86 := by decide +kernel
theorem LP_gm {p : Program} {e : Env} {R : Room} {s : State} {m : MethodId} {args : Array Value} {below : List Frame} {meth : Method} {c : Code} {S : State} {g : JFrame} {ml : Nat} {mn : String} {rt : Option FieldType} {vm : Vm} {cells slots : Nat} {a1 : Addr} {vN : Int32} {f1 : Nat → Int32} {M E sg : Nat} {q1 ng : Int32} {ql : Int64} {y4 y5 : Slot} (hw : HW a0 Z) (G : Gl Z w_CS w_SF w_DO w_DT w_fO w_fT w_US w_SS) (N1 : n0 ≤ a1) : ∀ (n : Nat) {vi vc : Int32} {f2 : Nat → Int32} {ys yr : Slot} {hx : Heap} {kk : Nat}, okS ys = true → okS yr = true → (-vi.toInt).toNat < n → GJ M E sg f1 f2 vN vi vc kk → Ary Z hx a1 ATB vN.toNatClampNeg (bv f2) → Wk false [] p l e R s m args below meth c S g "java/lang/Long" J4 ml mn rt Z a0 n0 h0 vm hx cells slots 86 #[.val (.long ql), .second, .val (.int q1), .val (.ref a1), y4, y5, yr, .val (.int vc), .val (.int ng), ys, .val (.int vi)] [] → ∃ (wi wc : Int32) (f3 : Nat → Int32) (yt yu : Slot) (hy : Heap) (kl : Nat), okS yt = true ∧ okS yu = true ∧ (-100) < wi ∧ GJ M E sg f1 f3 vN wi wc kl ∧ Keep hx hy [a1] ∧ Ary Z hy a1 ATB vN.toNatClampNeg (bv f3) ∧ Wk false [] p l e R s m args below meth c S g "java/lang/Long" J4 ml mn rt Z a0 n0 h0 vm hy cells slots 143 #[.val (.long ql), .second, .val (.int q1), .val (.ref a1), y4, y5, yu, .val (.int wc), .val (.int ng), yt, .val (.int wi)] [] := by
  intro n
  induction n with
  | zero => intro vi vc f2 ys yr hx kk _ _ hl; exact absurd hl (Nat.not_lt_zero _)
  | succ n ih =>
    intro vi vc f2 ys yr hx kk oq or hl I A k
    replace k := k |>.iload D4_86 rfl |>.bipush D4_88 (-100)
    by_cases hc90_1 : (-100) < vi
    · replace k := k |>.icmpYes D4_90 (tlt hc90_1).2.2.1
      exact ⟨vi, vc, f2, ys, yr, hx, kk, oq, or, hc90_1, I, Keep.refl hx [a1], A, k⟩
    · replace k := k |>.icmpNo D4_90 (flt hc90_1).2.2.1
      obtain ⟨x1, x2, x3, x4, x5, x6⟩ := I.bt rfl rfl rfl rfl hc90_1
      replace k := k |>.iload D4_93 rfl |>.bipush D4_95 100 |>.idiv D4_97 (by decide) rfl |>.istore D4_98 (sto9 oq) |>.iload D4_100 rfl |>.bipush D4_102 100 |>.imul D4_104 rfl |>.iload D4_105 rfl |>.isub D4_107 rfl |>.istore D4_108 (sto6 or) |>.iload D4_110 rfl |>.istore D4_112 sto10
      replace k := k |>.aloadN D4_114 rfl rfl |>.iinc D4_115 rfl (z := (vc + (-1))) rfl sto7 |>.iload D4_118 rfl |>.getS (fl_133 hw) G.S_DO D4_120 |>.iload D4_123 rfl |>.bald (G.A_DO.ext k.old.2) D4_125 (i := (((vi / 100) * 100) - vi).toNatClampNeg) (ixS x5 x6 rfl) bv_at
      obtain ⟨h2, K2, O2, k⟩ := k.stB A N1 (Or.inl rfl) D4_126 (i := (vc + (-1)).toNatClampNeg) (ixS x1 x2 rfl) (v := (.int (nar .byte (w_fO (((vi / 100) * 100) - vi).toNatClampNeg)))) rfl (fits_nar_byte _) bv_upd
      replace k := k |>.aloadN D4_127 rfl rfl |>.iinc D4_128 rfl (z := ((vc + (-1)) + (-1))) rfl sto7 |>.iload D4_131 rfl |>.getS (fl_288 hw) G.S_DT D4_133 |>.iload D4_136 rfl |>.bald (G.A_DT.ext k.old.2) D4_138 (i := (((vi / 100) * 100) - vi).toNatClampNeg) (ixS x5 x6 rfl) bv_at
      obtain ⟨h3, K3, O3, k⟩ := k.stB O2 N1 (Or.inl rfl) D4_139 (i := ((vc + (-1)) + (-1)).toNatClampNeg) (ixS x3 x4 rfl) (v := (.int (nar .byte (w_fT (((vi / 100) * 100) - vi).toNatClampNeg)))) rfl (fits_nar_byte _) bv_upd
      replace k := k |>.goto D4_140
      obtain ⟨wi, wc, f3, yt, yu, hy, kl, o1, o2, u1, u2, u3, u4, k⟩ := ih rfl rfl (I.dec rfl hc90_1 hl) (I.turn rfl rfl rfl rfl hc90_1 G.h_DO G.h_DT) O3 k
      exact ⟨wi, wc, f3, yt, yu, hy, kl, o1, o2, u1, u2, (K2.trans K3 (allS (Or.inl (List.mem_of_getElem? (i := 0) rfl)) all0)).trans u3 (allS (Or.inl (List.mem_of_getElem? (i := 0) rfl)) all0), u4, k⟩
theorem D4_0 : Dc J4 0 (.iload_n 2) 1 1 := by decide +kernel
theorem D4_1 : Dc J4 1 (.istore 7) 2 3 := by decide +kernel
theorem D4_3 : Dc J4 3 (.lload_n 0) 1 4 := by decide +kernel
theorem D4_4 : Dc J4 4 (.lconst 0) 1 5 := by decide +kernel
theorem D4_5 : Dc J4 5 .lcmp 1 6 := by decide +kernel
theorem D4_6 : Dj J4 6 (.ifCond .ge 7) 7 9 13 := by decide +kernel
theorem D4_9 : Dc J4 9 (.iconst 1) 1 10 := by decide +kernel
theorem D4_10 : Dj J4 10 (.goto 4) 4 13 14 := by decide +kernel
theorem D4_14 : Dc J4 14 (.istore 8) 2 16 := by decide +kernel
theorem sto8 {x0 x1 x2 x3 x4 x5 x6 x7 x : Slot} {t : List Slot} {v : Value} (hx : okS x = true := by rfl) (hv : v.category = 1 := by rfl) : storeLocals (List.toArray (x0 :: x1 :: x2 :: x3 :: x4 :: x5 :: x6 :: x7 :: x :: t)) 8 v = some (List.toArray (x0 :: x1 :: x2 :: x3 :: x4 :: x5 :: x6 :: x7 :: .val v :: t)) := stoA (A := [x0, x1, x2, x3, x4, x5, x6, x7]) hx hv
theorem D4_16 : Dc J4 16 (.iload 8) 2 18 := by decide +kernel
theorem D4_18 : Dj J4 18 (.ifCond .ne 6) 6 21 24 := by decide +kernel
theorem D4_82 : Dc J4 82 (.lload_n 0) 1 83 := by decide +kernel
theorem D4_83 : Dc J4 83 .l2i 1 84 := by decide +kernel
theorem D4_84 : Dc J4 84 (.istore 10) 2 86 := by decide +kernel
theorem D4_143 : Dc J4 143 (.aload_n 3) 1 144 := by decide +kernel
theorem D4_144 : Dc J4 144 (.iinc 7 (-1)) 3 147 := by decide +kernel
theorem D4_147 : Dc J4 147 (.iload 7) 2 149 := by decide +kernel
theorem D4_149 : Dc J4 149 (.getstatic 133) 3 152 := by decide +kernel
theorem D4_152 : Dc J4 152 (.iload 10) 2 154 := by decide +kernel
theorem D4_154 : Dc J4 154 .ineg 1 155 := by decide +kernel
theorem D4_155 : Dc J4 155 .baload 1 156 := by decide +kernel
theorem D4_156 : Dc J4 156 .bastore 1 157 := by decide +kernel
theorem D4_157 : Dc J4 157 (.iload 10) 2 159 := by decide +kernel
theorem D4_159 : Dc J4 159 (.bipush (-9)) 2 161 := by decide +kernel
theorem D4_161 : Dj J4 161 (.if_icmp .ge 17) 17 164 178 := by decide +kernel
theorem D4_164 : Dc J4 164 (.aload_n 3) 1 165 := by decide +kernel
theorem D4_165 : Dc J4 165 (.iinc 7 (-1)) 3 168 := by decide +kernel
theorem D4_168 : Dc J4 168 (.iload 7) 2 170 := by decide +kernel
theorem D4_170 : Dc J4 170 (.getstatic 137) 3 173 := by decide +kernel
theorem D4_173 : Dc J4 173 (.iload 10) 2 175 := by decide +kernel
theorem D4_175 : Dc J4 175 .ineg 1 176 := by decide +kernel
theorem D4_176 : Dc J4 176 .baload 1 177 := by decide +kernel
theorem D4_177 : Dc J4 177 .bastore 1 178 := by decide +kernel
theorem D4_178 : Dc J4 178 (.iload 8) 2 180 := by decide +kernel
theorem D4_180 : Dj J4 180 (.ifCond .eq 12) 12 183 192 := by decide +kernel
theorem D4_183 : Dc J4 183 (.aload_n 3) 1 184 := by decide +kernel
theorem D4_184 : Dc J4 184 (.iinc 7 (-1)) 3 187 := by decide +kernel
theorem D4_187 : Dc J4 187 (.iload 7) 2 189 := by decide +kernel
theorem D4_189 : Dc J4 189 (.bipush 45) 2 191 := by decide +kernel
theorem D4_191 : Dc J4 191 .bastore 1 192 := by decide +kernel
theorem D4_192 : Dc J4 192 (.iload 7) 2 194 := by decide +kernel
theorem D4_194 : Dc J4 194 .ireturn 1 195 := by decide +kernel
theorem D4_13 : Dc J4 13 (.iconst 0) 1 14 := by decide +kernel
theorem D4_21 : Dc J4 21 (.lload_n 0) 1 22 := by decide +kernel
theorem D4_22 : Dc J4 22 .lneg 1 23 := by decide +kernel
theorem D4_23 : Dc J4 23 (.lstore_n 0) 1 24 := by decide +kernel
theorem PN4 : plainFor Y4 = true := plainFor_of_name pn_Long
theorem ef_JIR_11 {x0 : Int64} {x1 : Int32} {x2 : Addr}  (m : MethodId) : entryFrame m #[(.long x0), (.int x1), (.ref x2)] 11 = mkF m 0 #[.val (.long x0), .second, .val (.int x1), .val (.ref x2), .unset, .unset, .unset, .unset, .unset, .unset, .unset] [] := by
  first | (simp [entryFrame, mkF, argsToLocals, Value.category]; done) | rfl
theorem R_gcl {a1 : Addr} {q9 : Int64} {q1 vN : Int32} {f1 : Nat → Int32} (hw : HW a0 Z) (G : Gl Z w_CS w_SF w_DO w_DT w_fO w_fT w_US w_SS) (A : Ary Z h0 a1 ATB vN.toNatClampNeg (bv f1)) (N1 : n0 ≤ a1) (x1 : ¬ (q1 < (sszL q9))) (x2 : ¬ (vN < q1)) : Mt false [] l Y4 C4 (rmk 0 0 0 0) #[.long q9, .int q1, .ref a1] Z a0 h0 n0 (KpV h0 [a1] fun v h => ∃ (z : Int32) (f : Nat → Int32), v = .int z ∧ Ary Z h a1 ATB vN.toNatClampNeg (bv f) ∧ GF q9.toInt.natAbs q1.toNatClampNeg (sgnL q9) f1 f) := by
  refine Mt.go PN4 (Or.inl rfl) ef_JIR_11 fun k => ?_
  replace k := k |>.iloadN D4_0 rfl |>.istore D4_1 sto7 |>.lloadN D4_3 rfl |>.lconst D4_4 0 |>.lcmp D4_5
  by_cases hc6_1 : q9 < 0
  · replace k := k |>.ifNo D4_6 ((if0 _ _).trans (tlt ((lw_lt _ _).mpr hc6_1)).2.1) |>.iconst D4_9 1 |>.goto D4_10 |>.istore D4_14 sto8 |>.iload D4_16 rfl |>.ifYes D4_18 
    obtain ⟨vi, vc, f3, z4, z5, z6, hy, kl, o1, u0, IK, KL, AL, k⟩ := LP_gl hw G N1 _ rfl (Or.inl ⟨rfl, rfl⟩) (Nat.lt_succ_self _) (GK.s1 rfl x1 x2 hc6_1) A k
    replace k := k |>.lloadN D4_82 rfl |>.l2i D4_83 rfl |>.istore D4_84 sto10
    obtain ⟨wi, wc, f4, yt, yu, hz, km, o2, o3, u1, I, KM, AM, k⟩ := LP_gm hw G N1 _ rfl o1 (Nat.lt_succ_self _) (IK.int rfl u0) AL k
    obtain ⟨y1, y2, y3, y4⟩ := I.b1 rfl rfl u1
    replace k := k |>.aloadN D4_143 rfl rfl |>.iinc D4_144 rfl (z := (wc + (-1))) rfl sto7 |>.iload D4_147 rfl |>.getS (fl_133 hw) G.S_DO D4_149 |>.iload D4_152 rfl |>.ineg D4_154 rfl |>.bald (G.A_DO.ext k.old.2) D4_155 (i := (-wi).toNatClampNeg) (ixS y3 y4 rfl) bv_at
    obtain ⟨h2, K2, O2, k⟩ := k.stB AM N1 (Or.inl rfl) D4_156 (i := (wc + (-1)).toNatClampNeg) (ixS y1 y2 rfl) (v := (.int (nar .byte (w_fO (-wi).toNatClampNeg)))) rfl (fits_nar_byte _) bv_upd
    replace k := k |>.iload D4_157 rfl |>.bipush D4_159 (-9)
    by_cases hc161_3 : wi < (-9)
    · replace k := k |>.icmpNo D4_161 (tlt hc161_3).2.1
      obtain ⟨y4a, y4b⟩ := I.b2 rfl rfl hc161_3
      replace k := k |>.aloadN D4_164 rfl rfl |>.iinc D4_165 rfl (z := ((wc + (-1)) + (-1))) rfl sto7 |>.iload D4_168 rfl |>.getS (fl_288 hw) G.S_DT D4_170 |>.iload D4_173 rfl |>.ineg D4_175 rfl |>.bald (G.A_DT.ext k.old.2) D4_176 (i := (-wi).toNatClampNeg) (ixS y3 y4 rfl) bv_at
      obtain ⟨h5, K5, O5, k⟩ := k.stB O2 N1 (Or.inl rfl) D4_177 (i := ((wc + (-1)) + (-1)).toNatClampNeg) (ixS y4a y4b rfl) (v := (.int (nar .byte (w_fT (-wi).toNatClampNeg)))) rfl (fits_nar_byte _) bv_upd
      replace k := k |>.iload D4_178 rfl |>.ifNo D4_180 
      obtain ⟨y6a, y6b⟩ := I.b2s rfl rfl rfl hc161_3 (sgnL_y hc6_1)
      replace k := k |>.aloadN D4_183 rfl rfl |>.iinc D4_184 rfl (z := (((wc + (-1)) + (-1)) + (-1))) rfl sto7 |>.iload D4_187 rfl |>.bipush D4_189 45
      obtain ⟨h7, K7, O7, k⟩ := k.stB O5 N1 (Or.inl rfl) D4_191 (i := (((wc + (-1)) + (-1)) + (-1)).toNatClampNeg) (ixS y6a y6b rfl) (v := (.int 45)) (by decide) (by decide) bv_upd
      replace k := k |>.iload D4_192 rfl
      exact k.retI D4_194 rfl ⟨_, rfl, ((((KL.trans KM (allS (Or.inl (List.mem_of_getElem? (i := 0) rfl)) all0)).trans K2 (allS (Or.inl (List.mem_of_getElem? (i := 0) rfl)) all0)).trans K5 (allS (Or.inl (List.mem_of_getElem? (i := 0) rfl)) all0)).trans K7 (allS (Or.inl (List.mem_of_getElem? (i := 0) rfl)) all0)), _, _, rfl, O7, (I.e2 rfl rfl rfl rfl u1 hc161_3 G.h_DO G.h_DT).2 (sgnL_y hc6_1)⟩
    · replace k := k |>.icmpYes D4_161 (flt hc161_3).2.1 |>.iload D4_178 rfl |>.ifNo D4_180 
      obtain ⟨y8a, y8b⟩ := I.b1s rfl rfl (sgnL_y hc6_1)
      replace k := k |>.aloadN D4_183 rfl rfl |>.iinc D4_184 rfl (z := ((wc + (-1)) + (-1))) rfl sto7 |>.iload D4_187 rfl |>.bipush D4_189 45
      obtain ⟨h9, K9, O9, k⟩ := k.stB O2 N1 (Or.inl rfl) D4_191 (i := ((wc + (-1)) + (-1)).toNatClampNeg) (ixS y8a y8b rfl) (v := (.int 45)) (by decide) (by decide) bv_upd
      replace k := k |>.iload D4_192 rfl
      exact k.retI D4_194 rfl ⟨_, rfl, (((KL.trans KM (allS (Or.inl (List.mem_of_getElem? (i := 0) rfl)) all0)).trans K2 (allS (Or.inl (List.mem_of_getElem? (i := 0) rfl)) all0)).trans K9 (allS (Or.inl (List.mem_of_getElem? (i := 0) rfl)) all0)), _, _, rfl, O9, (I.e1 rfl rfl rfl u1 hc161_3 G.h_DO).2 (sgnL_y hc6_1)⟩
  · replace k := k |>.ifYes D4_6 ((if0 _ _).trans (flt (fun q => hc6_1 ((lw_lt _ _).mp q))).2.1) |>.iconst D4_13 0 |>.istore D4_14 sto8 |>.iload D4_16 rfl |>.ifNo D4_18  |>.lloadN D4_21 rfl |>.lneg D4_22 rfl |>.lstoreN D4_23 (Ls' := #[.val (.long (-q9)), .second, .val (.int q1), .val (.ref a1), .unset, .unset, .unset, .val (.int q1), .val (.int 0), .unset, .unset]) rfl
    obtain ⟨vi, vc, f3, z4, z5, z6, hy, kl, o1, u0, IK, KL, AL, k⟩ := LP_gl hw G N1 _ rfl (Or.inl ⟨rfl, rfl⟩) (Nat.lt_succ_self _) (GK.s0 rfl x1 x2 hc6_1) A k
    replace k := k |>.lloadN D4_82 rfl |>.l2i D4_83 rfl |>.istore D4_84 sto10
    obtain ⟨wi, wc, f4, yt, yu, hz, km, o2, o3, u1, I, KM, AM, k⟩ := LP_gm hw G N1 _ rfl o1 (Nat.lt_succ_self _) (IK.int rfl u0) AL k
    obtain ⟨y1, y2, y3, y4⟩ := I.b1 rfl rfl u1
    replace k := k |>.aloadN D4_143 rfl rfl |>.iinc D4_144 rfl (z := (wc + (-1))) rfl sto7 |>.iload D4_147 rfl |>.getS (fl_133 hw) G.S_DO D4_149 |>.iload D4_152 rfl |>.ineg D4_154 rfl |>.bald (G.A_DO.ext k.old.2) D4_155 (i := (-wi).toNatClampNeg) (ixS y3 y4 rfl) bv_at
    obtain ⟨h10, K10, O10, k⟩ := k.stB AM N1 (Or.inl rfl) D4_156 (i := (wc + (-1)).toNatClampNeg) (ixS y1 y2 rfl) (v := (.int (nar .byte (w_fO (-wi).toNatClampNeg)))) rfl (fits_nar_byte _) bv_upd
    replace k := k |>.iload D4_157 rfl |>.bipush D4_159 (-9)
    by_cases hc161_11 : wi < (-9)
    · replace k := k |>.icmpNo D4_161 (tlt hc161_11).2.1
      obtain ⟨y12a, y12b⟩ := I.b2 rfl rfl hc161_11
      replace k := k |>.aloadN D4_164 rfl rfl |>.iinc D4_165 rfl (z := ((wc + (-1)) + (-1))) rfl sto7 |>.iload D4_168 rfl |>.getS (fl_288 hw) G.S_DT D4_170 |>.iload D4_173 rfl |>.ineg D4_175 rfl |>.bald (G.A_DT.ext k.old.2) D4_176 (i := (-wi).toNatClampNeg) (ixS y3 y4 rfl) bv_at
      obtain ⟨h13, K13, O13, k⟩ := k.stB O10 N1 (Or.inl rfl) D4_177 (i := ((wc + (-1)) + (-1)).toNatClampNeg) (ixS y12a y12b rfl) (v := (.int (nar .byte (w_fT (-wi).toNatClampNeg)))) rfl (fits_nar_byte _) bv_upd
      replace k := k |>.iload D4_178 rfl |>.ifYes D4_180  |>.iload D4_192 rfl
      exact k.retI D4_194 rfl ⟨_, rfl, (((KL.trans KM (allS (Or.inl (List.mem_of_getElem? (i := 0) rfl)) all0)).trans K10 (allS (Or.inl (List.mem_of_getElem? (i := 0) rfl)) all0)).trans K13 (allS (Or.inl (List.mem_of_getElem? (i := 0) rfl)) all0)), _, _, rfl, O13, (I.e2 rfl rfl rfl rfl u1 hc161_11 G.h_DO G.h_DT).1 (sgnL_n hc6_1)⟩
    · replace k := k |>.icmpYes D4_161 (flt hc161_11).2.1 |>.iload D4_178 rfl |>.ifYes D4_180  |>.iload D4_192 rfl
      exact k.retI D4_194 rfl ⟨_, rfl, ((KL.trans KM (allS (Or.inl (List.mem_of_getElem? (i := 0) rfl)) all0)).trans K10 (allS (Or.inl (List.mem_of_getElem? (i := 0) rfl)) all0)), _, _, rfl, O10, (I.e1 rfl rfl rfl u1 hc161_11 G.h_DO).1 (sgnL_n hc6_1)⟩
abbrev Y5 : MethodName := ⟨"java/lang/String", "length", "()I"⟩
abbrev J5 := jdk_42_method_54_code
abbrev C5 : Cond := .code Y5 J5 1 (some .int)
theorem D5_0 : Dc J5 0 (.aload_n 0) 1 1 := by decide +kernel
theorem D5_1 : Dc J5 1 (.getfield 9) 3 4 := by decide +kernel
abbrev w_24 (hw : HW a0 Z) := hw.at 24 rfl
theorem fl_24 (hw : HW a0 Z) : FL Z a0 "java/lang/String" 9 "java/lang/String" "value" "[B" := ⟨_, "", Or.inl (w_24 hw), Via.refl⟩
theorem D5_4 : Dc J5 4 .arraylength 1 5 := by decide +kernel
theorem D5_5 : Dc J5 5 (.aload_n 0) 1 6 := by decide +kernel
theorem D5_6 : Dc J5 6 (.invokevirtual 335) 3 9 := by decide +kernel
abbrev Y6 : MethodName := ⟨"java/lang/String", "coder", "()B"⟩
abbrev J6 := jdk_42_method_152_code
abbrev C6 : Cond := .code Y6 J6 1 (some .byte)
theorem D6_0 : Dc J6 0 (.getstatic 38) 3 3 := by decide +kernel
abbrev w_26 (hw : HW a0 Z) := hw.at 26 rfl
theorem fl_26 (hw : HW a0 Z) : FL Z a0 "java/lang/String" 38 "java/lang/String" "COMPACT_STRINGS" "Z" := ⟨_, "", Or.inl (w_26 hw), Via.refl⟩
theorem D6_3 : Dj J6 3 (.ifCond .eq 10) 10 6 13 := by decide +kernel
theorem D6_6 : Dc J6 6 (.aload_n 0) 1 7 := by decide +kernel
theorem D6_7 : Dc J6 7 (.getfield 15) 3 10 := by decide +kernel
abbrev w_25 (hw : HW a0 Z) := hw.at 25 rfl
theorem fl_25 (hw : HW a0 Z) : FL Z a0 "java/lang/String" 15 "java/lang/String" "coder" "B" := ⟨_, "", Or.inl (w_25 hw), Via.refl⟩
theorem D6_10 : Dj J6 10 (.goto 4) 4 13 14 := by decide +kernel
theorem D6_14 : Dc J6 14 .ireturn 1 15 := by decide +kernel
theorem pn_String : plainName "java/lang/String" = true := by first | (simp [plainName, overriddenIn]; done) | decide +kernel
theorem PN6 : plainFor Y6 = true := plainFor_of_name pn_String
theorem ef_R_1 {x0 : Addr}  (m : MethodId) : entryFrame m #[(.ref x0)] 1 = mkF m 0 #[.val (.ref x0)] [] := by
  first | (simp [entryFrame, mkF, argsToLocals, Value.category]; done) | rfl
theorem R_6_1 {a1 a2 : Addr} (hw : HW a0 Z) (G : Gl Z w_CS w_SF w_DO w_DT w_fO w_fT w_US w_SS) (pr1 : Obj Z h0 a1 litL [.ref a2, .int 0]) : Mt false [] l Y6 C6 (rmk 0 0 0 0) #[.ref a1] Z a0 h0 n0 (Pv h0 (.int 0)) := by
  refine Mt.go PN6 (Or.inl rfl) ef_R_1 fun k => ?_
  replace k := k |>.getS (fl_26 hw) G.S_CS D6_0 |>.ifNo D6_3 ((if0 _ _).trans (feq G.h_CS).1) |>.aloadN D6_6 rfl rfl |>.getF (fl_25 hw) pr1 1 D6_7 rfl rfl |>.goto D6_10
  exact k.retN (t := .byte) D6_14 rfl (by simp) (z' := 0) (by decide) ⟨rfl, rfl⟩
abbrev w_77 (hw : HW a0 Z) := hw.at 77 rfl
abbrev w_81 (hw : HW a0 Z) := hw.at 81 rfl
theorem pd__r_B : parseMethodDescriptor "()B" = some ⟨[], some .byte⟩ := by decide +kernel
abbrev w_80 (hw : HW a0 Z) := hw.at 80 rfl
abbrev w_79 (hw : HW a0 Z) := hw.at 79 rfl
abbrev w_78 (hw : HW a0 Z) := hw.at 78 rfl
theorem V_Y6_6_String (hw : HW a0 Z) : VC Z a0 Y6 Y6 "java/lang/String" C6 1 (some .byte) 0 := ⟨(w_78 hw), fun s hZ => notFace_of_selects (args := #[]) (mvT hZ (w_80 hw)), (w_80 hw), (w_79 hw), by decide, rfl, ⟨⟨_, Or.inl rfl⟩, (w_81 hw), (w_6 hw), by decide, _, _, pd__r_B, rfl⟩⟩
theorem D5_9 : Dc J5 9 .ishr 1 10 := by decide +kernel
theorem D5_10 : Dc J5 10 .ireturn 1 11 := by decide +kernel
theorem PN5 : plainFor Y5 = true := plainFor_of_name pn_String
theorem R_len {a1 a2 : Addr} {vN : Int32} {f1 : Nat → Int32} {T : String} (hw : HW a0 Z) (G : Gl Z w_CS w_SF w_DO w_DT w_fO w_fT w_US w_SS) (O : Obj Z h0 a1 litL [.ref a2, .int 0]) (A : Ary Z h0 a2 (T, .byte) vN.toNatClampNeg (bv f1)) (x1 : ¬ (vN < 0)) : Mt false [] l Y5 C5 (rmk 1 0 0 13) #[.ref a1] Z a0 h0 n0 (Pv h0 (.int vN)) := by
  refine Mt.go PN5 (Or.inl rfl) ef_R_1 fun k => ?_
  replace k := k |>.aloadN D5_0 rfl rfl |>.getF (fl_24 hw) O 0 D5_1 rfl rfl |>.alen A D5_4 (lenS x1) |>.aloadN D5_5 rfl rfl
  replace k := (k.callV (w_77 hw) (V_Y6_6_String hw) O.exa (R_6_1 hw G O) D5_6 1 rfl).pv
  replace k := k |>.ishr D5_9 rfl
  exact k.retI D5_10 rfl ⟨congrArg some (congrArg Value.int (shr0 _)), rfl⟩
abbrev Y7 : MethodName := ⟨"com/example/fala/fala/format/CsvReader", "refusal", "(Ljava/lang/String;JLjava/lang/String;)Lcom/example/fala/fala/format/InvalidInputException;"⟩
abbrev J7 := prog_29_method_9_code
abbrev C7 : Cond := .code Y7 J7 4 (some (.object "com/example/fala/fala/format/InvalidInputException"))
theorem D7_0 : Dc J7 0 (.new 109) 3 3 := by decide +kernel
abbrev w_43 (hw : HW a0 Z) := hw.at 43 rfl
theorem nw_InvalidInputException (hw : HW a0 Z) : NW Z a0 L_InvalidInputException 6 := ⟨okL_InvalidInputException hw, (w_42 hw), (w_43 hw)⟩
abbrev w_41 (hw : HW a0 Z) := hw.at 41 rfl
theorem D7_3 : Dc J7 3 .dup 1 4 := by decide +kernel
theorem D7_4 : Dc J7 4 (.new 14) 3 7 := by decide +kernel
abbrev L_StringBuilder : Jvm.Own.Lay := ("java/lang/StringBuilder", [("java/lang/AbstractStringBuilder", "value", "[B", .null), ("java/lang/AbstractStringBuilder", "coder", "B", (.int 0)), ("java/lang/AbstractStringBuilder", "count", "I", (.int 0))])
theorem dvL_StringBuilder : (L_StringBuilder.2.map fun q => q.2.2.2) = [.null, (.int 0), (.int 0)] := rfl
abbrev w_59 (hw : HW a0 Z) := hw.at 59 rfl
abbrev w_61 (hw : HW a0 Z) := hw.at 61 rfl
abbrev w_83 (hw : HW a0 Z) := hw.at 83 rfl
theorem okL_StringBuilder (hw : HW a0 Z) : LOk Z a0 L_StringBuilder := ⟨allC ⟨Or.inl (w_59 hw), (.array .byte), by decide +kernel, rfl⟩ (allC ⟨Or.inl (w_61 hw), .byte, by decide +kernel, rfl⟩ (allC ⟨Or.inl (w_83 hw), .int, by decide +kernel, rfl⟩ (allN))), by decide +kernel⟩
abbrev w_45 (hw : HW a0 Z) := hw.at 45 rfl
abbrev w_46 (hw : HW a0 Z) := hw.at 46 rfl
theorem nw_StringBuilder (hw : HW a0 Z) : NW Z a0 L_StringBuilder 4 := ⟨okL_StringBuilder hw, (w_45 hw), (w_46 hw)⟩
abbrev w_44 (hw : HW a0 Z) := hw.at 44 rfl
theorem D7_7 : Dc J7 7 .dup 1 8 := by decide +kernel
theorem D7_8 : Dc J7 8 (.invokespecial 16) 3 11 := by decide +kernel
abbrev Y8 : MethodName := ⟨"java/lang/StringBuilder", "<init>", "()V"⟩
abbrev J8 := jdk_67_method_1_code
abbrev C8 : Cond := .code Y8 J8 1 none
theorem D8_0 : Dc J8 0 (.aload_n 0) 1 1 := by decide +kernel
theorem D8_1 : Dc J8 1 (.bipush 16) 2 3 := by decide +kernel
theorem D8_3 : Dc J8 3 (.invokespecial 1) 3 6 := by decide +kernel
abbrev Y9 : MethodName := ⟨"java/lang/AbstractStringBuilder", "<init>", "(I)V"⟩
abbrev J9 := jdk_68_method_2_code
abbrev C9 : Cond := .code Y9 J9 2 none
theorem D9_0 : Dc J9 0 (.aload_n 0) 1 1 := by decide +kernel
theorem D9_1 : Dc J9 1 (.invokespecial 3) 3 4 := by decide +kernel
abbrev w_56 (hw : HW a0 Z) := hw.at 56 rfl
theorem D9_4 : Dc J9 4 (.getstatic 18) 3 7 := by decide +kernel
abbrev w_57 (hw : HW a0 Z) := hw.at 57 rfl
theorem fl_57 (hw : HW a0 Z) : FL Z a0 "java/lang/AbstractStringBuilder" 18 "java/lang/String" "COMPACT_STRINGS" "Z" := ⟨_, "", Or.inl (w_57 hw), Via.refl⟩
theorem D9_7 : Dj J9 7 (.ifCond .eq 18) 18 10 25 := by decide +kernel
theorem D9_10 : Dc J9 10 (.aload_n 0) 1 11 := by decide +kernel
theorem D9_11 : Dc J9 11 (.iload_n 1) 1 12 := by decide +kernel
theorem D9_12 : Dc J9 12 (.newarray .byte) 2 14 := by decide +kernel
theorem D9_14 : Dc J9 14 (.putfield 15) 3 17 := by decide +kernel
abbrev w_58 (hw : HW a0 Z) := hw.at 58 rfl
theorem fl_58 (hw : HW a0 Z) : FL Z a0 "java/lang/AbstractStringBuilder" 15 "java/lang/AbstractStringBuilder" "value" "[B" := ⟨_, "", Or.inl (w_58 hw), Via.refl⟩
theorem pw_AbstractStringBuilder_i_StringBuilder_value {mn : String} (hw : HW a0 Z) : PW Z a0 "java/lang/AbstractStringBuilder" mn L_StringBuilder "java/lang/AbstractStringBuilder" "value" "[B" (.array .byte) := ⟨okL_StringBuilder hw, Or.inl (w_59 hw), ⟨_, (w_45 hw)⟩, by decide +kernel⟩
theorem ls0 { x v : Value} {t : List Value} : (x :: t).set 0 v = v :: t := rfl
theorem D9_17 : Dc J9 17 (.aload_n 0) 1 18 := by decide +kernel
theorem D9_18 : Dc J9 18 (.iconst 0) 1 19 := by decide +kernel
theorem D9_19 : Dc J9 19 (.putfield 22) 3 22 := by decide +kernel
abbrev w_60 (hw : HW a0 Z) := hw.at 60 rfl
theorem fl_60 (hw : HW a0 Z) : FL Z a0 "java/lang/AbstractStringBuilder" 22 "java/lang/AbstractStringBuilder" "coder" "B" := ⟨_, "", Or.inl (w_60 hw), Via.refl⟩
theorem fp_60 (hw : HW a0 Z) : FP Z a0 "java/lang/AbstractStringBuilder" 22 "java/lang/AbstractStringBuilder" "coder" "B" := ⟨_, (w_60 hw), Via.refl⟩
theorem pw_AbstractStringBuilder_i_StringBuilder_coder {mn : String} (hw : HW a0 Z) : PW Z a0 "java/lang/AbstractStringBuilder" mn L_StringBuilder "java/lang/AbstractStringBuilder" "coder" "B" .byte := ⟨okL_StringBuilder hw, Or.inl (w_61 hw), ⟨_, (w_45 hw)⟩, by decide +kernel⟩
theorem ls1 {x0 x v : Value} {t : List Value} : (x0 :: x :: t).set 1 v = x0 :: v :: t := rfl
theorem D9_22 : Dj J9 22 (.goto 16) 16 25 38 := by decide +kernel
theorem D9_38 : Dc J9 38 .return_ 1 39 := by decide +kernel
theorem pn_AbstractStringBuilder : plainName "java/lang/AbstractStringBuilder" = true := by first | (simp [plainName, overriddenIn]; done) | decide +kernel
theorem PN9 : plainFor Y9 = true := plainFor_of_name pn_AbstractStringBuilder
theorem ef_RI_2 {x0 : Addr} {x1 : Int32}  (m : MethodId) : entryFrame m #[(.ref x0), (.int x1)] 2 = mkF m 0 #[.val (.ref x0), .val (.int x1)] [] := by
  first | (simp [entryFrame, mkF, argsToLocals, Value.category]; done) | rfl
theorem R_9_1 {a1 : Addr} (hw : HW a0 Z) (G : Gl Z w_CS w_SF w_DO w_DT w_fO w_fT w_US w_SS) (pr1 : Obj Z h0 a1 L_StringBuilder [.null, .int 0, .int 0]) (pr2 : n0 ≤ a1) : Mt false [] l Y9 C9 (rmk 1 1 16 12) #[.ref a1, .int 16] Z a0 h0 n0 (K0 h0 [a1] fun h => ∃ u1 : Addr, h0.size ≤ u1 ∧ Obj Z h a1 L_StringBuilder [.ref u1, .int 0, .int 0] ∧ Ary Z h u1 ATB 16 (bv (lvi [0, 0, 0, 0, 0, 0, 0, 0, 0, 0, 0, 0, 0, 0, 0, 0]))) := by
  refine Mt.go PN9 (Or.inl rfl) ef_RI_2 fun k => ?_
  replace k := k |>.aloadN D9_0 rfl rfl |>.initO (w_56 hw) (w_16 hw) (w_17 hw) D9_1 0 |>.getS (fl_57 hw) G.S_CS D9_4 |>.ifNo D9_7 ((if0 _ _).trans (feq G.h_CS).1) |>.aloadN D9_10 rfl rfl |>.iloadN D9_11 rfl
  have z1 := k.sz
  obtain ⟨b1, h1, g1, K1, O1, k⟩ := k.newP (aty := .byte) "[B" (w_19 hw) (by decide) D9_12 16 (by decide) (n := 16) (by decide) (by decide) (by decide) (bi_const (L := [0, 0, 0, 0, 0, 0, 0, 0, 0, 0, 0, 0, 0, 0, 0, 0]) rfl)
  have o2 := pr1.keep K1 nin0
  obtain ⟨h3, K3, O3, k⟩ := k.putF (fl_58 hw) (pw_AbstractStringBuilder_i_StringBuilder_value hw) o2 0 pr2 (Or.inl rfl) D9_14 rfl rfl rfl ls0
  replace k := k |>.aloadN D9_17 rfl rfl |>.iconst D9_18 0
  obtain ⟨h4, K4, O4, k⟩ := k.putN (fp_60 hw) (pw_AbstractStringBuilder_i_StringBuilder_coder hw) O3 1 pr2 (Or.inl rfl) D9_19 rfl (v' := (.int 0)) (by decide) (by decide) ls1
  replace k := k |>.goto D9_22
  have s_b1 := Nat.le_trans z1 g1
  have o5 := (O1.keep K3 (ninS (nlt' pr1.lt s_b1) nin0)).keep K4 (ninS (nlt' pr1.lt s_b1) nin0)
  exact k.ret0 D9_38 rfl ⟨rfl, ((((Keep.refl h0 [a1]).trans K1 all0).trans K3 (allS (Or.inl (List.mem_of_getElem? (i := 0) rfl)) all0)).trans K4 (allS (Or.inl (List.mem_of_getElem? (i := 0) rfl)) all0)), b1, s_b1, O4, o5⟩
abbrev w_50 (hw : HW a0 Z) := hw.at 50 rfl
abbrev w_55 (hw : HW a0 Z) := hw.at 55 rfl
abbrev w_54 (hw : HW a0 Z) := hw.at 54 rfl
theorem pd_I_r_V : parseMethodDescriptor "(I)V" = some ⟨[.int], none⟩ := by decide +kernel
abbrev w_51 (hw : HW a0 Z) := hw.at 51 rfl
theorem I9 (hw : HW a0 Z) : IC Z a0 Y9 C9 2 1 := ⟨(w_51 hw), rfl, ⟨⟨_, Or.inl rfl⟩, (w_55 hw), (w_54 hw), by decide, _, _, pd_I_r_V, rfl⟩⟩
theorem D8_6 : Dc J8 6 .return_ 1 7 := by decide +kernel
theorem pn_StringBuilder : plainName "java/lang/StringBuilder" = true := by first | (simp [plainName, overriddenIn]; done) | decide +kernel
theorem PN8 : plainFor Y8 = true := plainFor_of_name pn_StringBuilder
theorem R_8_1 {a1 : Addr} (hw : HW a0 Z) (G : Gl Z w_CS w_SF w_DO w_DT w_fO w_fT w_US w_SS) (pr1 : Obj Z h0 a1 L_StringBuilder [.null, .int 0, .int 0]) (pr2 : n0 ≤ a1) : Mt false [] l Y8 C8 (rmk 2 1 16 25) #[.ref a1] Z a0 h0 n0 (K0 h0 [a1] fun h => ∃ u1 : Addr, h0.size ≤ u1 ∧ Obj Z h a1 L_StringBuilder [.ref u1, .int 0, .int 0] ∧ Ary Z h u1 ATB 16 (bv (lvi [0, 0, 0, 0, 0, 0, 0, 0, 0, 0, 0, 0, 0, 0, 0, 0]))) := by
  refine Mt.go PN8 (Or.inl rfl) ef_R_1 fun k => ?_
  replace k := k |>.aloadN D8_0 rfl rfl |>.bipush D8_1 16
  have z1 := k.sz
  obtain ⟨h1, K1, ⟨u1_1, f1_0, f1_1, f1_2⟩, k⟩ := (k.callI (w_50 hw) (I9 hw) (R_9_1 hw G pr1 pr2) D8_3 0 rfl).k0 (allS pr2 all0)
  have s_u1_1 := Nat.le_trans z1 f1_0
  exact k.ret0 D8_6 rfl ⟨rfl, K1, u1_1, s_u1_1, f1_1, f1_2⟩
abbrev w_47 (hw : HW a0 Z) := hw.at 47 rfl
abbrev w_49 (hw : HW a0 Z) := hw.at 49 rfl
theorem pd__r_V : parseMethodDescriptor "()V" = some ⟨[], none⟩ := by decide +kernel
abbrev w_48 (hw : HW a0 Z) := hw.at 48 rfl
theorem I8 (hw : HW a0 Z) : IC Z a0 Y8 C8 1 0 := ⟨(w_48 hw), rfl, ⟨⟨_, Or.inl rfl⟩, (w_49 hw), (w_46 hw), by decide, _, _, pd__r_V, rfl⟩⟩
theorem D7_11 : Dc J7 11 (.aload_n 0) 1 12 := by decide +kernel
theorem D7_12 : Dc J7 12 (.invokevirtual 111) 3 15 := by decide +kernel
abbrev Y10 : MethodName := ⟨"java/lang/StringBuilder", "append", "(Ljava/lang/String;)Ljava/lang/StringBuilder;"⟩
abbrev J10 := jdk_67_method_7_code
abbrev C10 : Cond := .code Y10 J10 2 (some (.object "java/lang/StringBuilder"))
theorem D10_0 : Dc J10 0 (.aload_n 0) 1 1 := by decide +kernel
theorem D10_1 : Dc J10 1 (.aload_n 1) 1 2 := by decide +kernel
theorem D10_2 : Dc J10 2 (.invokespecial 29) 3 5 := by decide +kernel
abbrev Y11 : MethodName := ⟨"java/lang/AbstractStringBuilder", "append", "(Ljava/lang/String;)Ljava/lang/AbstractStringBuilder;"⟩
abbrev J11 := jdk_68_method_22_code
abbrev C11 : Cond := .code Y11 J11 3 (some (.object "java/lang/AbstractStringBuilder"))
theorem D11_0 : Dc J11 0 (.aload_n 1) 1 1 := by decide +kernel
theorem D11_1 : Dj J11 1 (.ifnonnull 8) 8 4 9 := by decide +kernel
theorem D11_9 : Dc J11 9 (.aload_n 1) 1 10 := by decide +kernel
theorem D11_10 : Dc J11 10 (.invokevirtual 32) 3 13 := by decide +kernel
abbrev w_76 (hw : HW a0 Z) := hw.at 76 rfl
theorem pd__r_I : parseMethodDescriptor "()I" = some ⟨[], some .int⟩ := by decide +kernel
abbrev w_75 (hw : HW a0 Z) := hw.at 75 rfl
abbrev w_74 (hw : HW a0 Z) := hw.at 74 rfl
abbrev w_73 (hw : HW a0 Z) := hw.at 73 rfl
theorem V_Y5_5_String (hw : HW a0 Z) : VC Z a0 Y5 Y5 "java/lang/String" C5 1 (some .int) 0 := ⟨(w_73 hw), fun s hZ => notFace_of_selects (args := #[]) (mvT hZ (w_75 hw)), (w_75 hw), (w_74 hw), by decide, rfl, ⟨⟨_, Or.inl rfl⟩, (w_76 hw), (w_6 hw), by decide, _, _, pd__r_I, rfl⟩⟩
abbrev w_72 (hw : HW a0 Z) := hw.at 72 rfl
theorem D11_13 : Dc J11 13 (.istore_n 2) 1 14 := by decide +kernel
theorem D11_14 : Dc J11 14 (.aload_n 0) 1 15 := by decide +kernel
theorem D11_15 : Dc J11 15 (.aload_n 0) 1 16 := by decide +kernel
theorem D11_16 : Dc J11 16 (.getfield 79) 3 19 := by decide +kernel
abbrev w_82 (hw : HW a0 Z) := hw.at 82 rfl
theorem fl_82 (hw : HW a0 Z) : FL Z a0 "java/lang/AbstractStringBuilder" 79 "java/lang/AbstractStringBuilder" "count" "I" := ⟨_, "", Or.inl (w_82 hw), Via.refl⟩
theorem D11_19 : Dc J11 19 (.iload_n 2) 1 20 := by decide +kernel
theorem D11_20 : Dc J11 20 .iadd 1 21 := by decide +kernel
theorem D11_21 : Dc J11 21 (.invokevirtual 100) 3 24 := by decide +kernel
abbrev Y12 : MethodName := ⟨"java/lang/AbstractStringBuilder", "ensureCapacityInternal", "(I)V"⟩
abbrev J12 := jdk_68_method_9_code
abbrev C12 : Cond := .code Y12 J12 3 none
theorem D12_0 : Dc J12 0 (.aload_n 0) 1 1 := by decide +kernel
theorem D12_1 : Dc J12 1 (.getfield 15) 3 4 := by decide +kernel
theorem D12_4 : Dc J12 4 .arraylength 1 5 := by decide +kernel
theorem D12_5 : Dc J12 5 (.aload_n 0) 1 6 := by decide +kernel
theorem D12_6 : Dc J12 6 (.getfield 22) 3 9 := by decide +kernel
theorem D12_9 : Dc J12 9 .ishr 1 10 := by decide +kernel
theorem D12_10 : Dc J12 10 (.istore_n 2) 1 11 := by decide +kernel
theorem D12_11 : Dc J12 11 (.iload_n 1) 1 12 := by decide +kernel
theorem D12_12 : Dc J12 12 (.iload_n 2) 1 13 := by decide +kernel
theorem D12_13 : Dc J12 13 .isub 1 14 := by decide +kernel
theorem D12_14 : Dj J12 14 (.ifCond .le 24) 24 17 38 := by decide +kernel
theorem own_d1 {p1 v0 v1 : Int32} (e0 : v0 = (0 + p1)) (e1 : v1 = (v0 - 16)) (hq0 : ¬ (p1 < 0)) (hq1 : p1 < 3) : ¬ (0 < v1) := by
  have := rng32 p1
  have : (0 : Int32).toInt = 0 := by decide
  have := i_nlt hq0
  have : (3 : Int32).toInt = 3 := by decide
  have := i_lt hq1
  have := e_iaddN e0 (by omega)
  have : (16 : Int32).toInt = 16 := by decide
  have := e_isubN e1 (by omega)
  exact o_nlt (by omega)
theorem D12_38 : Dc J12 38 .return_ 1 39 := by decide +kernel
theorem PN12 : plainFor Y12 = true := plainFor_of_name pn_AbstractStringBuilder
theorem ef_RI_3 {x0 : Addr} {x1 : Int32}  (m : MethodId) : entryFrame m #[(.ref x0), (.int x1)] 3 = mkF m 0 #[.val (.ref x0), .val (.int x1), .unset] [] := by
  first | (simp [entryFrame, mkF, argsToLocals, Value.category]; done) | rfl
theorem R_12_1 {a1 a3 : Addr} {p2 : Int32} (hw : HW a0 Z) (G : Gl Z w_CS w_SF w_DO w_DT w_fO w_fT w_US w_SS) (pr1 : Obj Z h0 a1 L_StringBuilder [.ref a3, .int 0, .int 0]) (pr2 : Ary Z h0 a3 ATB 16 (bv (lvi [0, 0, 0, 0, 0, 0, 0, 0, 0, 0, 0, 0, 0, 0, 0, 0]))) (pr3 : ¬ (0 < (p2 - 16))) : Mt false [] l Y12 C12 (rmk 0 0 0 0) #[.ref a1, .int p2] Z a0 h0 n0 (P0 h0) := by
  refine Mt.go PN12 (Or.inl rfl) ef_RI_3 fun k => ?_
  replace k := k |>.aloadN D12_0 rfl rfl |>.getF (fl_58 hw) pr1 0 D12_1 rfl rfl |>.alen pr2 D12_4 (z := 16) (by decide) |>.aloadN D12_5 rfl rfl |>.getF (fl_60 hw) pr1 1 D12_6 rfl rfl |>.ishr D12_9 (z := 16) |>.istoreN D12_10 sto2 |>.iloadN D12_11 rfl |>.iloadN D12_12 rfl |>.isub D12_13 rfl |>.ifYes D12_14 ((if0 _ _).trans (flt pr3).2.2.2)
  exact k.ret0 D12_38 rfl ⟨rfl, rfl⟩
abbrev w_84 (hw : HW a0 Z) := hw.at 84 rfl
abbrev w_88 (hw : HW a0 Z) := hw.at 88 rfl
abbrev w_87 (hw : HW a0 Z) := hw.at 87 rfl
abbrev w_86 (hw : HW a0 Z) := hw.at 86 rfl
abbrev w_85 (hw : HW a0 Z) := hw.at 85 rfl
theorem P12 (hw : HW a0 Z) : PC Z a0 Y12 jdk_68_method_9_code 3 none 1 := ⟨(w_85 hw), fun s args hZ => ⟨selPriv (by decide) (mvT (args := args) hZ (w_87 hw)) (mvP hZ (w_86 hw)) (mvT hZ (w_85 hw)), Cond.privateMethod_at (mvP hZ (w_86 hw) (args := #[]))⟩, ⟨⟨_, Or.inl rfl⟩, (w_88 hw), (w_54 hw), by decide, _, _, pd_I_r_V, rfl⟩⟩
theorem D11_24 : Dc J11 24 (.aload_n 0) 1 25 := by decide +kernel
theorem D11_25 : Dc J11 25 (.aload_n 0) 1 26 := by decide +kernel
theorem D11_26 : Dc J11 26 (.getfield 79) 3 29 := by decide +kernel
theorem D11_29 : Dc J11 29 (.aload_n 1) 1 30 := by decide +kernel
theorem D11_30 : Dc J11 30 (.invokevirtual 208) 3 33 := by decide +kernel
abbrev Y13 : MethodName := ⟨"java/lang/AbstractStringBuilder", "putStringAt", "(ILjava/lang/String;)V"⟩
abbrev J13 := jdk_68_method_73_code
abbrev C13 : Cond := .code Y13 J13 3 none
theorem D13_0 : Dc J13 0 (.aload_n 0) 1 1 := by decide +kernel
theorem D13_1 : Dc J13 1 (.aload_n 2) 1 2 := by decide +kernel
theorem D13_2 : Dc J13 2 (.invokevirtual 397) 3 5 := by decide +kernel
abbrev Y14 : MethodName := ⟨"java/lang/AbstractStringBuilder", "inflateIfNeededFor", "(Ljava/lang/String;)V"⟩
abbrev J14 := jdk_68_method_71_code
abbrev C14 : Cond := .code Y14 J14 2 none
theorem D14_0 : Dc J14 0 (.getstatic 18) 3 3 := by decide +kernel
theorem D14_3 : Dj J14 3 (.ifCond .eq 18) 18 6 21 := by decide +kernel
theorem D14_6 : Dc J14 6 (.aload_n 0) 1 7 := by decide +kernel
theorem D14_7 : Dc J14 7 (.getfield 22) 3 10 := by decide +kernel
theorem D14_10 : Dc J14 10 (.aload_n 1) 1 11 := by decide +kernel
theorem D14_11 : Dc J14 11 (.invokevirtual 40) 3 14 := by decide +kernel
abbrev w_99 (hw : HW a0 Z) := hw.at 99 rfl
theorem D14_14 : Dj J14 14 (.if_icmp .eq 7) 7 17 21 := by decide +kernel
theorem D14_21 : Dc J14 21 .return_ 1 22 := by decide +kernel
theorem PN14 : plainFor Y14 = true := plainFor_of_name pn_AbstractStringBuilder
theorem R_14_1 {a1 a2 a3 a4 : Addr} (hw : HW a0 Z) (G : Gl Z w_CS w_SF w_DO w_DT w_fO w_fT w_US w_SS) (pr1 : Obj Z h0 a1 L_StringBuilder [.ref a3, .int 0, .int 0]) (pr2 : Obj Z h0 a2 litL [.ref a4, .int 0]) : Mt false [] l Y14 C14 (rmk 1 0 0 13) #[.ref a1, .ref a2] Z a0 h0 n0 (P0 h0) := by
  refine Mt.go PN14 (Or.inl rfl) ef_RR_2 fun k => ?_
  replace k := k |>.getS (fl_57 hw) G.S_CS D14_0 |>.ifNo D14_3 ((if0 _ _).trans (feq G.h_CS).1) |>.aloadN D14_6 rfl rfl |>.getF (fl_60 hw) pr1 1 D14_7 rfl rfl |>.aloadN D14_10 rfl rfl
  replace k := (k.callV (w_99 hw) (V_Y6_6_String hw) pr2.exa (R_6_1 hw G pr2) D14_11 1 rfl).pv
  replace k := k |>.icmpYes D14_14 
  exact k.ret0 D14_21 rfl ⟨rfl, rfl⟩
abbrev w_94 (hw : HW a0 Z) := hw.at 94 rfl
abbrev w_98 (hw : HW a0 Z) := hw.at 98 rfl
abbrev w_97 (hw : HW a0 Z) := hw.at 97 rfl
abbrev w_96 (hw : HW a0 Z) := hw.at 96 rfl
abbrev w_95 (hw : HW a0 Z) := hw.at 95 rfl
theorem P14 (hw : HW a0 Z) : PC Z a0 Y14 jdk_68_method_71_code 2 none 1 := ⟨(w_95 hw), fun s args hZ => ⟨selPriv (by decide) (mvT (args := args) hZ (w_97 hw)) (mvP hZ (w_96 hw)) (mvT hZ (w_95 hw)), Cond.privateMethod_at (mvP hZ (w_96 hw) (args := #[]))⟩, ⟨⟨_, Or.inl rfl⟩, (w_98 hw), (w_54 hw), by decide, _, _, pd_Ljava_lang_String_r_V, rfl⟩⟩
theorem D13_5 : Dc J13 5 (.aload_n 2) 1 6 := by decide +kernel
theorem D13_6 : Dc J13 6 (.aload_n 0) 1 7 := by decide +kernel
theorem D13_7 : Dc J13 7 (.getfield 15) 3 10 := by decide +kernel
theorem D13_10 : Dc J13 10 (.iload_n 1) 1 11 := by decide +kernel
theorem D13_11 : Dc J13 11 (.aload_n 0) 1 12 := by decide +kernel
theorem D13_12 : Dc J13 12 (.getfield 22) 3 15 := by decide +kernel
theorem D13_15 : Dc J13 15 (.invokevirtual 399) 3 18 := by decide +kernel
abbrev Y15 : MethodName := ⟨"java/lang/String", "getBytes", "([BIB)V"⟩
abbrev J15 := jdk_42_method_147_code
abbrev C15 : Cond := .code Y15 J15 4 none
theorem D15_0 : Dc J15 0 (.aload_n 0) 1 1 := by decide +kernel
theorem D15_1 : Dc J15 1 (.invokevirtual 335) 3 4 := by decide +kernel
theorem D15_4 : Dc J15 4 (.iload_n 3) 1 5 := by decide +kernel
theorem D15_5 : Dj J15 5 (.if_icmp .ne 23) 23 8 28 := by decide +kernel
theorem D15_8 : Dc J15 8 (.aload_n 0) 1 9 := by decide +kernel
theorem D15_9 : Dc J15 9 (.getfield 9) 3 12 := by decide +kernel
theorem D15_12 : Dc J15 12 (.iconst 0) 1 13 := by decide +kernel
theorem D15_13 : Dc J15 13 (.aload_n 1) 1 14 := by decide +kernel
theorem D15_14 : Dc J15 14 (.iload_n 2) 1 15 := by decide +kernel
theorem D15_15 : Dc J15 15 (.iload_n 3) 1 16 := by decide +kernel
theorem D15_16 : Dc J15 16 .ishl 1 17 := by decide +kernel
theorem D15_17 : Dc J15 17 (.aload_n 0) 1 18 := by decide +kernel
theorem D15_18 : Dc J15 18 (.getfield 9) 3 21 := by decide +kernel
theorem D15_21 : Dc J15 21 .arraylength 1 22 := by decide +kernel
theorem D15_22 : Dc J15 22 (.invokestatic 212) 3 25 := by decide +kernel
theorem own_d2 {p1 : Int32} (hq0 : ¬ (p1 < 0)) (hq1 : p1 < 3) : 0 + p1.toNatClampNeg ≤ p1.toNatClampNeg := by
  have := rng32 p1
  have : (0 : Int32).toInt = 0 := by decide
  have := i_nlt hq0
  have : (3 : Int32).toInt = 3 := by decide
  have := i_lt hq1
  simp only [clampNat]
  omega
theorem own_d3 {p1 : Int32} (hq0 : ¬ (p1 < 0)) (hq1 : p1 < 3) : 0 + p1.toNatClampNeg ≤ 16 := by
  have := rng32 p1
  have : (0 : Int32).toInt = 0 := by decide
  have := i_nlt hq0
  have : (3 : Int32).toInt = 3 := by decide
  have := i_lt hq1
  have : (16 : Int32).toInt = 16 := by decide
  simp only [clampNat]
  omega
abbrev w_105 (hw : HW a0 Z) := hw.at 105 rfl
abbrev w_108 (hw : HW a0 Z) := hw.at 108 rfl
abbrev w_106 (hw : HW a0 Z) := hw.at 106 rfl
abbrev w_107 (hw : HW a0 Z) := hw.at 107 rfl
theorem D15_25 : Dj J15 25 (.goto 18) 18 28 43 := by decide +kernel
theorem D15_43 : Dc J15 43 .return_ 1 44 := by decide +kernel
theorem PN15 : plainFor Y15 = true := plainFor_of_name pn_String
theorem ef_RRII_4 {x0 : Addr} {x1 : Addr} {x2 : Int32} {x3 : Int32}  (m : MethodId) : entryFrame m #[(.ref x0), (.ref x1), (.int x2), (.int x3)] 4 = mkF m 0 #[.val (.ref x0), .val (.ref x1), .val (.int x2), .val (.int x3)] [] := by
  first | (simp [entryFrame, mkF, argsToLocals, Value.category]; done) | rfl
theorem R_15_1 {a1 a2 a3 : Addr} {p4 : Int32} {f5 : Nat → Int32} (hw : HW a0 Z) (G : Gl Z w_CS w_SF w_DO w_DT w_fO w_fT w_US w_SS) (pr1 : Obj Z h0 a1 litL [.ref a3, .int 0]) (pr2 : Ary Z h0 a3 (T1, .byte) p4.toNatClampNeg (bv f5)) (pr3 : ¬ (p4 < 0)) (pr4 : Ary Z h0 a2 ATB 16 (bv (lvi [0, 0, 0, 0, 0, 0, 0, 0, 0, 0, 0, 0, 0, 0, 0, 0]))) (pr5 : n0 ≤ a2) (pr6 : 0 + p4.toNatClampNeg ≤ p4.toNatClampNeg) (pr7 : 0 + p4.toNatClampNeg ≤ 16) : Mt false [] l Y15 C15 (rmk 1 0 0 18) #[.ref a1, .ref a2, .int 0, .int 0] Z a0 h0 n0 (K0 h0 [a2] fun h => Ary Z h a2 ATB 16 (bv (cpyi f5 (lvi [0, 0, 0, 0, 0, 0, 0, 0, 0, 0, 0, 0, 0, 0, 0, 0]) 0 0 p4.toNatClampNeg))) := by
  refine Mt.go PN15 (Or.inl rfl) ef_RRII_4 fun k => ?_
  replace k := k |>.aloadN D15_0 rfl rfl
  replace k := (k.callV (w_77 hw) (V_Y6_6_String hw) pr1.exa (R_6_1 hw G pr1) D15_1 0 rfl).pv
  replace k := k |>.iloadN D15_4 rfl |>.icmpNo D15_5  |>.aloadN D15_8 rfl rfl |>.getF (fl_24 hw) pr1 0 D15_9 rfl rfl |>.iconst D15_12 0 |>.aloadN D15_13 rfl rfl |>.iloadN D15_14 rfl |>.iloadN D15_15 rfl |>.ishl D15_16 (z := 0) |>.aloadN D15_17 rfl rfl |>.getF (fl_24 hw) pr1 0 D15_18 rfl rfl |>.alen pr2 D15_21 (lenS pr3)
  obtain ⟨h2, K2, O2, k⟩ := k.acopy (w_105 hw) (w_108 hw) (w_106 hw) (w_107 hw) pr2 pr4 ⟨rfl, rfl⟩ (sp' := 0) (by decide) (dp' := 0) (by decide) (nn' := p4.toNatClampNeg) (nnS pr3) pr6 pr7 bv_cpy pr5 D15_22 0
  replace k := k |>.goto D15_25
  exact k.ret0 D15_43 rfl ⟨rfl, K2, O2⟩
abbrev w_100 (hw : HW a0 Z) := hw.at 100 rfl
abbrev w_104 (hw : HW a0 Z) := hw.at 104 rfl
theorem pd_ABIB_r_V : parseMethodDescriptor "([BIB)V" = some ⟨[(.array .byte), .int, .byte], none⟩ := by decide +kernel
abbrev w_103 (hw : HW a0 Z) := hw.at 103 rfl
abbrev w_102 (hw : HW a0 Z) := hw.at 102 rfl
abbrev w_101 (hw : HW a0 Z) := hw.at 101 rfl
theorem V_Y15_15_String (hw : HW a0 Z) : VC Z a0 Y15 Y15 "java/lang/String" C15 4 none 3 := ⟨(w_101 hw), fun s hZ => notFace_of_selects (args := #[]) (mvT hZ (w_103 hw)), (w_103 hw), (w_102 hw), by decide, rfl, ⟨⟨_, Or.inl rfl⟩, (w_104 hw), (w_6 hw), by decide, _, _, pd_ABIB_r_V, rfl⟩⟩
theorem D13_18 : Dc J13 18 .return_ 1 19 := by decide +kernel
theorem PN13 : plainFor Y13 = true := plainFor_of_name pn_AbstractStringBuilder
theorem ef_RIR_3 {x0 : Addr} {x1 : Int32} {x2 : Addr}  (m : MethodId) : entryFrame m #[(.ref x0), (.int x1), (.ref x2)] 3 = mkF m 0 #[.val (.ref x0), .val (.int x1), .val (.ref x2)] [] := by
  first | (simp [entryFrame, mkF, argsToLocals, Value.category]; done) | rfl
theorem R_13_1 {a1 a2 a3 a4 : Addr} {p5 : Int32} {f6 : Nat → Int32} (hw : HW a0 Z) (G : Gl Z w_CS w_SF w_DO w_DT w_fO w_fT w_US w_SS) (pr1 : Obj Z h0 a1 L_StringBuilder [.ref a3, .int 0, .int 0]) (pr2 : Obj Z h0 a2 litL [.ref a4, .int 0]) (pr3 : Ary Z h0 a4 (T1, .byte) p5.toNatClampNeg (bv f6)) (pr4 : ¬ (p5 < 0)) (pr5 : Ary Z h0 a3 ATB 16 (bv (lvi [0, 0, 0, 0, 0, 0, 0, 0, 0, 0, 0, 0, 0, 0, 0, 0]))) (pr6 : n0 ≤ a3) (pr7 : 0 + p5.toNatClampNeg ≤ p5.toNatClampNeg) (pr8 : 0 + p5.toNatClampNeg ≤ 16) : Mt false [] l Y13 C13 (rmk 2 0 0 33) #[.ref a1, .int 0, .ref a2] Z a0 h0 n0 (K0 h0 [a3] fun h => Ary Z h a3 ATB 16 (bv (cpyi f6 (lvi [0, 0, 0, 0, 0, 0, 0, 0, 0, 0, 0, 0, 0, 0, 0, 0]) 0 0 p5.toNatClampNeg))) := by
  refine Mt.go PN13 (Or.inl rfl) ef_RIR_3 fun k => ?_
  replace k := k |>.aloadN D13_0 rfl rfl |>.aloadN D13_1 rfl rfl
  replace k := (k.callP (w_94 hw) (P14 hw) pr1.exa (R_14_1 hw G pr1 pr2) D13_2 0 rfl).p0
  replace k := k |>.aloadN D13_5 rfl rfl |>.aloadN D13_6 rfl rfl |>.getF (fl_58 hw) pr1 0 D13_7 rfl rfl |>.iloadN D13_10 rfl |>.aloadN D13_11 rfl rfl |>.getF (fl_60 hw) pr1 1 D13_12 rfl rfl
  obtain ⟨h2, K2, f2_0, k⟩ := (k.callV (w_100 hw) (V_Y15_15_String hw) pr2.exa (R_15_1 hw G pr2 pr3 pr4 pr5 pr6 pr7 pr8) D13_15 0 rfl).k0 (allS pr6 all0)
  exact k.ret0 D13_18 rfl ⟨rfl, K2, f2_0⟩
abbrev w_89 (hw : HW a0 Z) := hw.at 89 rfl
abbrev w_93 (hw : HW a0 Z) := hw.at 93 rfl
theorem pd_ILjava_lang_String_r_V : parseMethodDescriptor "(ILjava/lang/String;)V" = some ⟨[.int, (.object "java/lang/String")], none⟩ := by decide +kernel
abbrev w_92 (hw : HW a0 Z) := hw.at 92 rfl
abbrev w_91 (hw : HW a0 Z) := hw.at 91 rfl
abbrev w_90 (hw : HW a0 Z) := hw.at 90 rfl
theorem P13 (hw : HW a0 Z) : PC Z a0 Y13 jdk_68_method_73_code 3 none 2 := ⟨(w_90 hw), fun s args hZ => ⟨selPriv (by decide) (mvT (args := args) hZ (w_92 hw)) (mvP hZ (w_91 hw)) (mvT hZ (w_90 hw)), Cond.privateMethod_at (mvP hZ (w_91 hw) (args := #[]))⟩, ⟨⟨_, Or.inl rfl⟩, (w_93 hw), (w_54 hw), by decide, _, _, pd_ILjava_lang_String_r_V, rfl⟩⟩
theorem D11_33 : Dc J11 33 (.aload_n 0) 1 34 := by decide +kernel
theorem D11_34 : Dc J11 34 .dup 1 35 := by decide +kernel
theorem D11_35 : Dc J11 35 (.getfield 79) 3 38 := by decide +kernel
theorem D11_38 : Dc J11 38 (.iload_n 2) 1 39 := by decide +kernel
theorem D11_39 : Dc J11 39 .iadd 1 40 := by decide +kernel
theorem D11_40 : Dc J11 40 (.putfield 79) 3 43 := by decide +kernel
theorem pw_AbstractStringBuilder_m_StringBuilder_count {mn : String} (hw : HW a0 Z) : PW Z a0 "java/lang/AbstractStringBuilder" mn L_StringBuilder "java/lang/AbstractStringBuilder" "count" "I" .int := ⟨okL_StringBuilder hw, Or.inl (w_83 hw), ⟨_, (w_45 hw)⟩, by decide +kernel⟩
theorem ls2 {x0 x1 x v : Value} {t : List Value} : (x0 :: x1 :: x :: t).set 2 v = x0 :: x1 :: v :: t := rfl
theorem D11_43 : Dc J11 43 (.aload_n 0) 1 44 := by decide +kernel
theorem D11_44 : Dc J11 44 .areturn 1 45 := by decide +kernel
theorem PN11 : plainFor Y11 = true := plainFor_of_name pn_AbstractStringBuilder
theorem ef_RR_3 {x0 : Addr} {x1 : Addr}  (m : MethodId) : entryFrame m #[(.ref x0), (.ref x1)] 3 = mkF m 0 #[.val (.ref x0), .val (.ref x1), .unset] [] := by
  first | (simp [entryFrame, mkF, argsToLocals, Value.category]; done) | rfl
theorem R_11_1 {a1 a2 a3 a6 : Addr} {p4 : Int32} {f5 : Nat → Int32} (hw : HW a0 Z) (G : Gl Z w_CS w_SF w_DO w_DT w_fO w_fT w_US w_SS) (pr1 : Obj Z h0 a2 litL [.ref a3, .int 0]) (pr2 : Ary Z h0 a3 (T1, .byte) p4.toNatClampNeg (bv f5)) (pr3 : ¬ (p4 < 0)) (pr4 : Obj Z h0 a1 L_StringBuilder [.ref a6, .int 0, .int 0]) (pr5 : Ary Z h0 a6 ATB 16 (bv (lvi [0, 0, 0, 0, 0, 0, 0, 0, 0, 0, 0, 0, 0, 0, 0, 0]))) (pr6 : ¬ (0 < ((0 + p4) - 16))) (pr7 : n0 ≤ a6) (pr8 : 0 + p4.toNatClampNeg ≤ p4.toNatClampNeg) (pr9 : 0 + p4.toNatClampNeg ≤ 16) (pr10 : a1 ≠ a6) (pr11 : n0 ≤ a1) : Mt false [] l Y11 C11 (rmk 3 0 0 47) #[.ref a1, .ref a2] Z a0 h0 n0 (KpV h0 [a1, a6] fun v h => v = (.ref a1) ∧ Obj Z h a1 L_StringBuilder [.ref a6, .int 0, .int (0 + p4)] ∧ Ary Z h a6 ATB 16 (bv (cpyi f5 (lvi [0, 0, 0, 0, 0, 0, 0, 0, 0, 0, 0, 0, 0, 0, 0, 0]) 0 0 p4.toNatClampNeg))) := by
  refine Mt.go PN11 (Or.inl rfl) ef_RR_3 fun k => ?_
  replace k := k |>.aloadN D11_0 rfl rfl |>.ifnonnullYes D11_1 |>.aloadN D11_9 rfl rfl
  replace k := (k.callV (w_72 hw) (V_Y5_5_String hw) pr1.exa (R_len hw G pr1 pr2 pr3) D11_10 0 rfl).pv
  replace k := k |>.istoreN D11_13 sto2 |>.aloadN D11_14 rfl rfl |>.aloadN D11_15 rfl rfl |>.getF (fl_82 hw) pr4 2 D11_16 rfl rfl |>.iloadN D11_19 rfl |>.iadd D11_20 rfl
  replace k := (k.callP (w_84 hw) (P12 hw) pr4.exa (R_12_1 hw G pr4 pr5 pr6) D11_21 0 rfl).p0
  replace k := k |>.aloadN D11_24 rfl rfl |>.aloadN D11_25 rfl rfl |>.getF (fl_82 hw) pr4 2 D11_26 rfl rfl |>.aloadN D11_29 rfl rfl
  obtain ⟨h2, K2, f2_0, k⟩ := (k.callP (w_89 hw) (P13 hw) pr4.exa (R_13_1 hw G pr4 pr1 pr2 pr3 pr5 pr7 pr8 pr9) D11_30 0 rfl).k0 (allS pr7 all0)
  replace k := k |>.aloadN D11_33 rfl rfl |>.dup D11_34 rfl
  have o3 := pr4.keep K2 (ninS pr10 nin0)
  replace k := k |>.getF (fl_82 hw) o3 2 D11_35 rfl rfl |>.iloadN D11_38 rfl |>.iadd D11_39 rfl
  obtain ⟨h4, K4, O4, k⟩ := k.putF (fl_82 hw) (pw_AbstractStringBuilder_m_StringBuilder_count hw) o3 2 pr11 (Or.inl rfl) D11_40 rfl rfl rfl ls2
  replace k := k |>.aloadN D11_43 rfl rfl
  have o5 := f2_0.keep K4 (ninS (Ne.symm pr10) nin0)
  exact k.retA D11_44 rfl ⟨_, rfl, (((Keep.refl h0 [a1, a6]).trans K2 (allS (Or.inl (List.mem_of_getElem? (i := 1) rfl)) all0)).trans K4 (allS (Or.inl (List.mem_of_getElem? (i := 0) rfl)) all0)), rfl, O4, o5⟩
abbrev w_67 (hw : HW a0 Z) := hw.at 67 rfl
abbrev w_71 (hw : HW a0 Z) := hw.at 71 rfl
theorem pd_Ljava_lang_String_r_Ljava_lang_AbstractStringBuilder : parseMethodDescriptor "(Ljava/lang/String;)Ljava/lang/AbstractStringBuilder;" = some ⟨[(.object "java/lang/String")], some (.object "java/lang/AbstractStringBuilder")⟩ := by decide +kernel
theorem CW11 (hw : HW a0 Z) : CW Z a0 Y11 C11 3 (some (.object "java/lang/AbstractStringBuilder")) 1 := ⟨⟨_, Or.inl rfl⟩, (w_71 hw), (w_54 hw), by decide, _, _, pd_Ljava_lang_String_r_Ljava_lang_AbstractStringBuilder, rfl⟩
abbrev w_70 (hw : HW a0 Z) := hw.at 70 rfl
abbrev w_68 (hw : HW a0 Z) := hw.at 68 rfl
abbrev w_69 (hw : HW a0 Z) := hw.at 69 rfl
theorem D10_5 : Dc J10 5 .pop 1 6 := by decide +kernel
theorem D10_6 : Dc J10 6 (.aload_n 0) 1 7 := by decide +kernel
theorem D10_7 : Dc J10 7 .areturn 1 8 := by decide +kernel
theorem PN10 : plainFor Y10 = true := plainFor_of_name pn_StringBuilder
theorem R_10_1 {a1 a2 a3 a6 : Addr} {p4 : Int32} {f5 : Nat → Int32} (hw : HW a0 Z) (G : Gl Z w_CS w_SF w_DO w_DT w_fO w_fT w_US w_SS) (pr1 : Obj Z h0 a2 litL [.ref a3, .int 0]) (pr2 : Ary Z h0 a3 (T1, .byte) p4.toNatClampNeg (bv f5)) (pr3 : ¬ (p4 < 0)) (pr4 : Obj Z h0 a1 L_StringBuilder [.ref a6, .int 0, .int 0]) (pr5 : Ary Z h0 a6 ATB 16 (bv (lvi [0, 0, 0, 0, 0, 0, 0, 0, 0, 0, 0, 0, 0, 0, 0, 0]))) (pr6 : ¬ (0 < ((0 + p4) - 16))) (pr7 : n0 ≤ a6) (pr8 : 0 + p4.toNatClampNeg ≤ p4.toNatClampNeg) (pr9 : 0 + p4.toNatClampNeg ≤ 16) (pr10 : a1 ≠ a6) (pr11 : n0 ≤ a1) : Mt false [] l Y10 C10 (rmk 4 0 0 61) #[.ref a1, .ref a2] Z a0 h0 n0 (KpV h0 [a1, a6] fun v h => v = (.ref a1) ∧ Obj Z h a1 L_StringBuilder [.ref a6, .int 0, .int (0 + p4)] ∧ Ary Z h a6 ATB 16 (bv (cpyi f5 (lvi [0, 0, 0, 0, 0, 0, 0, 0, 0, 0, 0, 0, 0, 0, 0, 0]) 0 0 p4.toNatClampNeg))) := by
  refine Mt.go PN10 (Or.inl rfl) ef_RR_2 fun k => ?_
  replace k := k |>.aloadN D10_0 rfl rfl |>.aloadN D10_1 rfl rfl
  obtain ⟨_, h1, K1, ⟨rfl, f1_0, f1_1⟩, k⟩ := (k.callX (w_67 hw) (sameOf (y := Y11) (by decide) (by rfl) (w_70 hw) (w_87 hw)) (w_68 hw) (w_69 hw) (by decide) (CW11 hw) pr4.exa (R_11_1 hw G pr1 pr2 pr3 pr4 pr5 pr6 pr7 pr8 pr9 pr10 pr11) D10_2 0 rfl).kv (allS pr11 (allS pr7 all0))
  replace k := k |>.pop D10_5 rfl |>.aloadN D10_6 rfl rfl
  exact k.retA D10_7 rfl ⟨_, rfl, K1, rfl, f1_0, f1_1⟩
abbrev w_62 (hw : HW a0 Z) := hw.at 62 rfl
abbrev w_66 (hw : HW a0 Z) := hw.at 66 rfl
theorem pd_Ljava_lang_String_r_Ljava_lang_StringBuilder : parseMethodDescriptor "(Ljava/lang/String;)Ljava/lang/StringBuilder;" = some ⟨[(.object "java/lang/String")], some (.object "java/lang/StringBuilder")⟩ := by decide +kernel
abbrev w_65 (hw : HW a0 Z) := hw.at 65 rfl
abbrev w_64 (hw : HW a0 Z) := hw.at 64 rfl
abbrev w_63 (hw : HW a0 Z) := hw.at 63 rfl
theorem V_Y10_10_StringBuilder (hw : HW a0 Z) : VC Z a0 Y10 Y10 "java/lang/StringBuilder" C10 2 (some (.object "java/lang/StringBuilder")) 1 := ⟨(w_63 hw), fun s hZ => notFace_of_selects (args := #[]) (mvT hZ (w_65 hw)), (w_65 hw), (w_64 hw), by decide, rfl, ⟨⟨_, Or.inl rfl⟩, (w_66 hw), (w_46 hw), by decide, _, _, pd_Ljava_lang_String_r_Ljava_lang_StringBuilder, rfl⟩⟩
theorem D7_15 : Dc J7 15 (.ldc 115) 2 17 := by decide +kernel
theorem lit_109 : (∀ c ∈ ": line ".toList, c.toNat < 256) ∧ ": line ".toList.map (fun c => Value.int (Jvm.Lit.byteI c.toNat.toUInt16)) = [(.int 58), (.int 32), (.int 108), (.int 105), (.int 110), (.int 101), (.int 32)] := by decide +kernel
theorem D7_17 : Dc J7 17 (.invokevirtual 111) 3 20 := by decide +kernel
theorem own_d4 {p1 v0 v1 v2 : Int32} (e0 : v0 = (0 + p1)) (e1 : v1 = (v0 + 7)) (e2 : v2 = (v1 - 16)) (hq0 : ¬ (p1 < 0)) (hq1 : p1 < 3) : ¬ (0 < v2) := by
  have := rng32 p1
  have : (0 : Int32).toInt = 0 := by decide
  have := i_nlt hq0
  have : (3 : Int32).toInt = 3 := by decide
  have := i_lt hq1
  have := e_iaddN e0 (by omega)
  have : (7 : Int32).toInt = 7 := by decide
  have := e_iaddN e1 (by omega)
  have : (16 : Int32).toInt = 16 := by decide
  have := e_isubN e2 (by omega)
  exact o_nlt (by omega)
theorem R_12_2 {a1 a3 : Addr} {p2 p4 : Int32} {f5 : Nat → Int32} (hw : HW a0 Z) (G : Gl Z w_CS w_SF w_DO w_DT w_fO w_fT w_US w_SS) (pr1 : Obj Z h0 a1 L_StringBuilder [.ref a3, .int 0, .int p4]) (pr2 : Ary Z h0 a3 ATB 16 (bv f5)) (pr3 : ¬ (0 < (p2 - 16))) : Mt false [] l Y12 C12 (rmk 0 0 0 0) #[.ref a1, .int p2] Z a0 h0 n0 (P0 h0) := by
  refine Mt.go PN12 (Or.inl rfl) ef_RI_3 fun k => ?_
  replace k := k |>.aloadN D12_0 rfl rfl |>.getF (fl_58 hw) pr1 0 D12_1 rfl rfl |>.alen pr2 D12_4 (z := 16) (by decide) |>.aloadN D12_5 rfl rfl |>.getF (fl_60 hw) pr1 1 D12_6 rfl rfl |>.ishr D12_9 (z := 16) |>.istoreN D12_10 sto2 |>.iloadN D12_11 rfl |>.iloadN D12_12 rfl |>.isub D12_13 rfl |>.ifYes D12_14 ((if0 _ _).trans (flt pr3).2.2.2)
  exact k.ret0 D12_38 rfl ⟨rfl, rfl⟩
theorem R_14_2 {a1 a2 a3 a5 : Addr} {p4 : Int32} (hw : HW a0 Z) (G : Gl Z w_CS w_SF w_DO w_DT w_fO w_fT w_US w_SS) (pr1 : Obj Z h0 a1 L_StringBuilder [.ref a3, .int 0, .int p4]) (pr2 : Obj Z h0 a2 litL [.ref a5, .int 0]) : Mt false [] l Y14 C14 (rmk 1 0 0 13) #[.ref a1, .ref a2] Z a0 h0 n0 (P0 h0) := by
  refine Mt.go PN14 (Or.inl rfl) ef_RR_2 fun k => ?_
  replace k := k |>.getS (fl_57 hw) G.S_CS D14_0 |>.ifNo D14_3 ((if0 _ _).trans (feq G.h_CS).1) |>.aloadN D14_6 rfl rfl |>.getF (fl_60 hw) pr1 1 D14_7 rfl rfl |>.aloadN D14_10 rfl rfl
  replace k := (k.callV (w_99 hw) (V_Y6_6_String hw) pr2.exa (R_6_1 hw G pr2) D14_11 1 rfl).pv
  replace k := k |>.icmpYes D14_14 
  exact k.ret0 D14_21 rfl ⟨rfl, rfl⟩
theorem own_d5 {p1 v0 v1 : Int32} (e0 : v0 = (0 + p1)) (e1 : v1 = (v0 <<< ((0 : Int32) &&& 31))) (hq0 : ¬ (p1 < 0)) (hq1 : p1 < 3) : ¬ (v1 < 0) := by
  have := rng32 p1
  have : (0 : Int32).toInt = 0 := by decide
  have := i_nlt hq0
  have : (3 : Int32).toInt = 3 := by decide
  have := i_lt hq1
  have := e_iaddN e0 (by omega)
  have := e_ishlN e1 0 1 (by omega)
  exact o_nlt (by omega)
theorem own_d6 {p1 v0 v1 : Int32} (e0 : v0 = (0 + p1)) (e1 : v1 = (v0 <<< ((0 : Int32) &&& 31))) (hq0 : ¬ (p1 < 0)) (hq1 : p1 < 3) : v1.toNatClampNeg + 7 ≤ 16 := by
  have := rng32 p1
  have : (0 : Int32).toInt = 0 := by decide
  have := i_nlt hq0
  have : (3 : Int32).toInt = 3 := by decide
  have := i_lt hq1
  have := e_iaddN e0 (by omega)
  have := e_ishlN e1 0 1 (by omega)
  have : (7 : Int32).toInt = 7 := by decide
  have : (16 : Int32).toInt = 16 := by decide
  simp only [clampNat]
  omega
theorem R_15_2 {a1 a2 a4 : Addr} {p3 : Int32} {f5 : Nat → Int32} (hw : HW a0 Z) (G : Gl Z w_CS w_SF w_DO w_DT w_fO w_fT w_US w_SS) (pr1 : Obj Z h0 a1 litL [.ref a4, .int 0]) (pr2 : Ary Z h0 a4 ("", .byte) 7 (bv (lvi [58, 32, 108, 105, 110, 101, 32]))) (pr3 : Ary Z h0 a2 ATB 16 (bv f5)) (pr4 : n0 ≤ a2) (pr5 : ¬ ((p3 <<< ((0 : Int32) &&& 31)) < 0)) (pr6 : (p3 <<< ((0 : Int32) &&& 31)).toNatClampNeg + 7 ≤ 16) : Mt false [] l Y15 C15 (rmk 1 0 0 18) #[.ref a1, .ref a2, .int p3, .int 0] Z a0 h0 n0 (K0 h0 [a2] fun h => Ary Z h a2 ATB 16 (bv (cpyi (lvi [58, 32, 108, 105, 110, 101, 32]) f5 0 (p3 <<< ((0 : Int32) &&& 31)).toNatClampNeg 7))) := by
  refine Mt.go PN15 (Or.inl rfl) ef_RRII_4 fun k => ?_
  replace k := k |>.aloadN D15_0 rfl rfl
  replace k := (k.callV (w_77 hw) (V_Y6_6_String hw) pr1.exa (R_6_1 hw G pr1) D15_1 0 rfl).pv
  replace k := k |>.iloadN D15_4 rfl |>.icmpNo D15_5  |>.aloadN D15_8 rfl rfl |>.getF (fl_24 hw) pr1 0 D15_9 rfl rfl |>.iconst D15_12 0 |>.aloadN D15_13 rfl rfl |>.iloadN D15_14 rfl |>.iloadN D15_15 rfl |>.ishl D15_16 rfl |>.aloadN D15_17 rfl rfl |>.getF (fl_24 hw) pr1 0 D15_18 rfl rfl |>.alen pr2 D15_21 (z := 7) (by decide)
  obtain ⟨h2, K2, O2, k⟩ := k.acopy (w_105 hw) (w_108 hw) (w_106 hw) (w_107 hw) pr2 pr3 ⟨rfl, rfl⟩ (sp' := 0) (by decide) (dp' := (p3 <<< ((0 : Int32) &&& 31)).toNatClampNeg) (nnS pr5) (nn' := 7) (by decide) (by decide) pr6 bv_cpy pr4 D15_22 0
  replace k := k |>.goto D15_25
  exact k.ret0 D15_43 rfl ⟨rfl, K2, O2⟩
theorem R_13_2 {a1 a3 a4 a5 : Addr} {p2 : Int32} {f6 : Nat → Int32} (hw : HW a0 Z) (G : Gl Z w_CS w_SF w_DO w_DT w_fO w_fT w_US w_SS) (pr1 : Obj Z h0 a1 L_StringBuilder [.ref a4, .int 0, .int p2]) (pr2 : Obj Z h0 a3 litL [.ref a5, .int 0]) (pr3 : Ary Z h0 a5 ("", .byte) 7 (bv (lvi [58, 32, 108, 105, 110, 101, 32]))) (pr4 : Ary Z h0 a4 ATB 16 (bv f6)) (pr5 : n0 ≤ a4) (pr6 : ¬ ((p2 <<< ((0 : Int32) &&& 31)) < 0)) (pr7 : (p2 <<< ((0 : Int32) &&& 31)).toNatClampNeg + 7 ≤ 16) : Mt false [] l Y13 C13 (rmk 2 0 0 33) #[.ref a1, .int p2, .ref a3] Z a0 h0 n0 (K0 h0 [a4] fun h => Ary Z h a4 ATB 16 (bv (cpyi (lvi [58, 32, 108, 105, 110, 101, 32]) f6 0 (p2 <<< ((0 : Int32) &&& 31)).toNatClampNeg 7))) := by
  refine Mt.go PN13 (Or.inl rfl) ef_RIR_3 fun k => ?_
  replace k := k |>.aloadN D13_0 rfl rfl |>.aloadN D13_1 rfl rfl
  replace k := (k.callP (w_94 hw) (P14 hw) pr1.exa (R_14_2 hw G pr1 pr2) D13_2 0 rfl).p0
  replace k := k |>.aloadN D13_5 rfl rfl |>.aloadN D13_6 rfl rfl |>.getF (fl_58 hw) pr1 0 D13_7 rfl rfl |>.iloadN D13_10 rfl |>.aloadN D13_11 rfl rfl |>.getF (fl_60 hw) pr1 1 D13_12 rfl rfl
  obtain ⟨h2, K2, f2_0, k⟩ := (k.callV (w_100 hw) (V_Y15_15_String hw) pr2.exa (R_15_2 hw G pr2 pr3 pr4 pr5 pr6 pr7) D13_15 0 rfl).k0 (allS pr5 all0)
  exact k.ret0 D13_18 rfl ⟨rfl, K2, f2_0⟩
theorem R_11_2 {a1 a2 a3 a4 : Addr} {p5 : Int32} {f6 : Nat → Int32} (hw : HW a0 Z) (G : Gl Z w_CS w_SF w_DO w_DT w_fO w_fT w_US w_SS) (pr1 : Obj Z h0 a2 litL [.ref a3, .int 0]) (pr2 : Ary Z h0 a3 ("", .byte) 7 (bv (lvi [58, 32, 108, 105, 110, 101, 32]))) (pr3 : Obj Z h0 a1 L_StringBuilder [.ref a4, .int 0, .int p5]) (pr4 : Ary Z h0 a4 ATB 16 (bv f6)) (pr5 : ¬ (0 < ((p5 + 7) - 16))) (pr6 : n0 ≤ a4) (pr7 : ¬ ((p5 <<< ((0 : Int32) &&& 31)) < 0)) (pr8 : (p5 <<< ((0 : Int32) &&& 31)).toNatClampNeg + 7 ≤ 16) (pr9 : a1 ≠ a4) (pr10 : n0 ≤ a1) : Mt false [] l Y11 C11 (rmk 3 0 0 47) #[.ref a1, .ref a2] Z a0 h0 n0 (KpV h0 [a1, a4] fun v h => v = (.ref a1) ∧ Obj Z h a1 L_StringBuilder [.ref a4, .int 0, .int (p5 + 7)] ∧ Ary Z h a4 ATB 16 (bv (cpyi (lvi [58, 32, 108, 105, 110, 101, 32]) f6 0 (p5 <<< ((0 : Int32) &&& 31)).toNatClampNeg 7))) := by
  refine Mt.go PN11 (Or.inl rfl) ef_RR_3 fun k => ?_
  replace k := k |>.aloadN D11_0 rfl rfl |>.ifnonnullYes D11_1 |>.aloadN D11_9 rfl rfl
  replace k := (k.callV (w_72 hw) (V_Y5_5_String hw) pr1.exa (R_len hw G pr1 pr2 (by decide) (vN := 7)) D11_10 0 rfl).pv
  replace k := k |>.istoreN D11_13 sto2 |>.aloadN D11_14 rfl rfl |>.aloadN D11_15 rfl rfl |>.getF (fl_82 hw) pr3 2 D11_16 rfl rfl |>.iloadN D11_19 rfl |>.iadd D11_20 rfl
  replace k := (k.callP (w_84 hw) (P12 hw) pr3.exa (R_12_2 hw G pr3 pr4 pr5) D11_21 0 rfl).p0
  replace k := k |>.aloadN D11_24 rfl rfl |>.aloadN D11_25 rfl rfl |>.getF (fl_82 hw) pr3 2 D11_26 rfl rfl |>.aloadN D11_29 rfl rfl
  obtain ⟨h2, K2, f2_0, k⟩ := (k.callP (w_89 hw) (P13 hw) pr3.exa (R_13_2 hw G pr3 pr1 pr2 pr4 pr6 pr7 pr8) D11_30 0 rfl).k0 (allS pr6 all0)
  replace k := k |>.aloadN D11_33 rfl rfl |>.dup D11_34 rfl
  have o3 := pr3.keep K2 (ninS pr9 nin0)
  replace k := k |>.getF (fl_82 hw) o3 2 D11_35 rfl rfl |>.iloadN D11_38 rfl |>.iadd D11_39 rfl
  obtain ⟨h4, K4, O4, k⟩ := k.putF (fl_82 hw) (pw_AbstractStringBuilder_m_StringBuilder_count hw) o3 2 pr10 (Or.inl rfl) D11_40 rfl rfl rfl ls2
  replace k := k |>.aloadN D11_43 rfl rfl
  have o5 := f2_0.keep K4 (ninS (Ne.symm pr9) nin0)
  exact k.retA D11_44 rfl ⟨_, rfl, (((Keep.refl h0 [a1, a4]).trans K2 (allS (Or.inl (List.mem_of_getElem? (i := 1) rfl)) all0)).trans K4 (allS (Or.inl (List.mem_of_getElem? (i := 0) rfl)) all0)), rfl, O4, o5⟩
theorem R_10_2 {a1 a2 a3 a4 : Addr} {p5 : Int32} {f6 : Nat → Int32} (hw : HW a0 Z) (G : Gl Z w_CS w_SF w_DO w_DT w_fO w_fT w_US w_SS) (pr1 : Obj Z h0 a2 litL [.ref a3, .int 0]) (pr2 : Ary Z h0 a3 ("", .byte) 7 (bv (lvi [58, 32, 108, 105, 110, 101, 32]))) (pr3 : Obj Z h0 a1 L_StringBuilder [.ref a4, .int 0, .int p5]) (pr4 : Ary Z h0 a4 ATB 16 (bv f6)) (pr5 : ¬ (0 < ((p5 + 7) - 16))) (pr6 : n0 ≤ a4) (pr7 : ¬ ((p5 <<< ((0 : Int32) &&& 31)) < 0)) (pr8 : (p5 <<< ((0 : Int32) &&& 31)).toNatClampNeg + 7 ≤ 16) (pr9 : a1 ≠ a4) (pr10 : n0 ≤ a1) : Mt false [] l Y10 C10 (rmk 4 0 0 61) #[.ref a1, .ref a2] Z a0 h0 n0 (KpV h0 [a1, a4] fun v h => v = (.ref a1) ∧ Obj Z h a1 L_StringBuilder [.ref a4, .int 0, .int (p5 + 7)] ∧ Ary Z h a4 ATB 16 (bv (cpyi (lvi [58, 32, 108, 105, 110, 101, 32]) f6 0 (p5 <<< ((0 : Int32) &&& 31)).toNatClampNeg 7))) := by
  refine Mt.go PN10 (Or.inl rfl) ef_RR_2 fun k => ?_
  replace k := k |>.aloadN D10_0 rfl rfl |>.aloadN D10_1 rfl rfl
  obtain ⟨_, h1, K1, ⟨rfl, f1_0, f1_1⟩, k⟩ := (k.callX (w_67 hw) (sameOf (y := Y11) (by decide) (by rfl) (w_70 hw) (w_87 hw)) (w_68 hw) (w_69 hw) (by decide) (CW11 hw) pr3.exa (R_11_2 hw G pr1 pr2 pr3 pr4 pr5 pr6 pr7 pr8 pr9 pr10) D10_2 0 rfl).kv (allS pr10 (allS pr6 all0))
  replace k := k |>.pop D10_5 rfl |>.aloadN D10_6 rfl rfl
  exact k.retA D10_7 rfl ⟨_, rfl, K1, rfl, f1_0, f1_1⟩
theorem D7_20 : Dc J7 20 (.lload_n 1) 1 21 := by decide +kernel
theorem D7_21 : Dc J7 21 (.invokevirtual 117) 3 24 := by decide +kernel
abbrev Y16 : MethodName := ⟨"java/lang/StringBuilder", "append", "(J)Ljava/lang/StringBuilder;"⟩
abbrev J16 := jdk_67_method_16_code
abbrev C16 : Cond := .code Y16 J16 3 (some (.object "java/lang/StringBuilder"))
theorem D16_0 : Dc J16 0 (.aload_n 0) 1 1 := by decide +kernel
theorem D16_1 : Dc J16 1 (.lload_n 1) 1 2 := by decide +kernel
theorem D16_2 : Dc J16 2 (.invokespecial 56) 3 5 := by decide +kernel
abbrev Y17 : MethodName := ⟨"java/lang/AbstractStringBuilder", "append", "(J)Ljava/lang/AbstractStringBuilder;"⟩
abbrev J17 := jdk_68_method_33_code
abbrev C17 : Cond := .code Y17 J17 5 (some (.object "java/lang/AbstractStringBuilder"))
theorem D17_0 : Dc J17 0 (.aload_n 0) 1 1 := by decide +kernel
theorem D17_1 : Dc J17 1 (.getfield 79) 3 4 := by decide +kernel
theorem D17_4 : Dc J17 4 (.istore_n 3) 1 5 := by decide +kernel
theorem sto3 {x0 x1 x2 x : Slot} {t : List Slot} {v : Value} (hx : okS x = true := by rfl) (hv : v.category = 1 := by rfl) : storeLocals (List.toArray (x0 :: x1 :: x2 :: x :: t)) 3 v = some (List.toArray (x0 :: x1 :: x2 :: .val v :: t)) := stoA (A := [x0, x1, x2]) hx hv
theorem D17_5 : Dc J17 5 (.iload_n 3) 1 6 := by decide +kernel
theorem D17_6 : Dc J17 6 (.lload_n 1) 1 7 := by decide +kernel
theorem D17_7 : Dc J17 7 (.invokestatic 254) 3 10 := by decide +kernel
abbrev w_119 (hw : HW a0 Z) := hw.at 119 rfl
abbrev w_122 (hw : HW a0 Z) := hw.at 122 rfl
abbrev w_121 (hw : HW a0 Z) := hw.at 121 rfl
theorem pd_J_r_I : parseMethodDescriptor "(J)I" = some ⟨[.long], some .int⟩ := by decide +kernel
abbrev w_120 (hw : HW a0 Z) := hw.at 120 rfl
theorem S3 (hw : HW a0 Z) : SC Z a0 Y3 C3 6 (some .int) 1 := ⟨(w_120 hw), ⟨⟨_, Or.inl rfl⟩, (w_122 hw), (w_121 hw), by decide, _, _, pd_J_r_I, rfl⟩⟩
theorem D17_10 : Dc J17 10 .iadd 1 11 := by decide +kernel
theorem D17_11 : Dc J17 11 (.istore 4) 2 13 := by decide +kernel
theorem sto4 {x0 x1 x2 x3 x : Slot} {t : List Slot} {v : Value} (hx : okS x = true := by rfl) (hv : v.category = 1 := by rfl) : storeLocals (List.toArray (x0 :: x1 :: x2 :: x3 :: x :: t)) 4 v = some (List.toArray (x0 :: x1 :: x2 :: x3 :: .val v :: t)) := stoA (A := [x0, x1, x2, x3]) hx hv
theorem D17_13 : Dc J17 13 (.aload_n 0) 1 14 := by decide +kernel
theorem D17_14 : Dc J17 14 (.iload 4) 2 16 := by decide +kernel
theorem D17_16 : Dc J17 16 (.invokevirtual 100) 3 19 := by decide +kernel
theorem D12_17 : Dc J12 17 (.aload_n 0) 1 18 := by decide +kernel
theorem D12_18 : Dc J12 18 (.aload_n 0) 1 19 := by decide +kernel
theorem D12_19 : Dc J12 19 (.getfield 15) 3 22 := by decide +kernel
theorem D12_22 : Dc J12 22 (.aload_n 0) 1 23 := by decide +kernel
theorem D12_23 : Dc J12 23 (.iload_n 1) 1 24 := by decide +kernel
theorem D12_24 : Dc J12 24 (.invokevirtual 104) 3 27 := by decide +kernel
abbrev Y18 : MethodName := ⟨"java/lang/AbstractStringBuilder", "newCapacity", "(I)I"⟩
abbrev J18 := jdk_68_method_10_code
abbrev C18 : Cond := .code Y18 J18 6 (some .int)
theorem D18_0 : Dc J18 0 (.aload_n 0) 1 1 := by decide +kernel
theorem D18_1 : Dc J18 1 (.getfield 15) 3 4 := by decide +kernel
theorem D18_4 : Dc J18 4 .arraylength 1 5 := by decide +kernel
theorem D18_5 : Dc J18 5 (.istore_n 2) 1 6 := by decide +kernel
theorem D18_6 : Dc J18 6 (.iload_n 1) 1 7 := by decide +kernel
theorem D18_7 : Dc J18 7 (.aload_n 0) 1 8 := by decide +kernel
theorem D18_8 : Dc J18 8 (.getfield 22) 3 11 := by decide +kernel
theorem D18_11 : Dc J18 11 .ishl 1 12 := by decide +kernel
theorem D18_12 : Dc J18 12 (.istore_n 3) 1 13 := by decide +kernel
theorem D18_13 : Dc J18 13 (.iload_n 3) 1 14 := by decide +kernel
theorem D18_14 : Dc J18 14 (.iload_n 2) 1 15 := by decide +kernel
theorem D18_15 : Dc J18 15 .isub 1 16 := by decide +kernel
theorem D18_16 : Dc J18 16 (.istore 4) 2 18 := by decide +kernel
theorem D18_18 : Dc J18 18 (.iload_n 2) 1 19 := by decide +kernel
theorem D18_19 : Dc J18 19 (.iload 4) 2 21 := by decide +kernel
theorem D18_21 : Dc J18 21 (.iload_n 2) 1 22 := by decide +kernel
theorem D18_22 : Dc J18 22 (.iconst 2) 1 23 := by decide +kernel
theorem D18_23 : Dc J18 23 (.aload_n 0) 1 24 := by decide +kernel
theorem D18_24 : Dc J18 24 (.getfield 22) 3 27 := by decide +kernel
theorem D18_27 : Dc J18 27 .ishl 1 28 := by decide +kernel
theorem D18_28 : Dc J18 28 .iadd 1 29 := by decide +kernel
theorem D18_29 : Dc J18 29 (.invokestatic 114) 3 32 := by decide +kernel
abbrev Y19 : MethodName := ⟨"jdk/internal/util/ArraysSupport", "newLength", "(III)I"⟩
abbrev J19 := jdk_48_method_27_code
abbrev C19 : Cond := .code Y19 J19 4 (some .int)
theorem D19_0 : Dc J19 0 (.iload_n 0) 1 1 := by decide +kernel
theorem D19_1 : Dc J19 1 (.iload_n 1) 1 2 := by decide +kernel
theorem D19_2 : Dc J19 2 (.iload_n 2) 1 3 := by decide +kernel
theorem D19_3 : Dc J19 3 (.invokestatic 194) 3 6 := by decide +kernel
abbrev Y20 : MethodName := ⟨"java/lang/Math", "max", "(II)I"⟩
abbrev J20 := jdk_29_method_65_code
abbrev C20 : Cond := .code Y20 J20 2 (some .int)
theorem D20_0 : Dc J20 0 (.iload_n 0) 1 1 := by decide +kernel
theorem D20_1 : Dc J20 1 (.iload_n 1) 1 2 := by decide +kernel
theorem D20_2 : Dj J20 2 (.if_icmp .lt 7) 7 5 9 := by decide +kernel
theorem own_d7 {p1 v0 v1 v2 v3 v4 v5 v6 : Int32} {q1 : Int64} (e0 : v0 = (0 + p1)) (e1 : v1 = (v0 + 7)) (e2 : v2 = (sszL q1)) (e3 : v3 = (v1 + v2)) (e4 : v4 = (v3 - 16)) (e5 : v5 = (v3 <<< ((0 : Int32) &&& 31))) (e6 : v6 = (v5 - 16)) (hq0 : ¬ (p1 < 0)) (hq1 : p1 < 3) (hq2 : 0 < v4) : v6 < 18 := by
  have := rng32 p1
  have : (0 : Int32).toInt = 0 := by decide
  have := i_nlt hq0
  have : (3 : Int32).toInt = 3 := by decide
  have := i_lt hq1
  have := e_iaddN e0 (by omega)
  have : (7 : Int32).toInt = 7 := by decide
  have := e_iaddN e1 (by omega)
  have := rng64 q1
  have := e_sszL e2
  have := e_iaddN e3 (by omega)
  have : (16 : Int32).toInt = 16 := by decide
  have := e_isubN e4 (by omega)
  have := i_lt hq2
  have := e_ishlN e5 0 1 (by omega)
  have := e_isubN e6 (by omega)
  have : (18 : Int32).toInt = 18 := by decide
  exact o_lt (by omega)
theorem D20_9 : Dc J20 9 (.iload_n 1) 1 10 := by decide +kernel
theorem D20_10 : Dc J20 10 .ireturn 1 11 := by decide +kernel
theorem PN20 : plainFor Y20 = true := Jvm.Free.JP.mathPlain rfl (by decide +kernel)
theorem ef_II_2 {x0 : Int32} {x1 : Int32}  (m : MethodId) : entryFrame m #[(.int x0), (.int x1)] 2 = mkF m 0 #[.val (.int x0), .val (.int x1)] [] := by
  first | (simp [entryFrame, mkF, argsToLocals, Value.category]; done) | rfl
theorem R_20_1 {p1 p2 : Int32} (hw : HW a0 Z) (G : Gl Z w_CS w_SF w_DO w_DT w_fO w_fT w_US w_SS) (pr1 : p1 < p2) : Mt false [] l Y20 C20 (rmk 0 0 0 0) #[.int p1, .int p2] Z a0 h0 n0 (Pv h0 (.int p2)) := by
  refine Mt.go PN20 (Or.inl rfl) ef_II_2 fun k => ?_
  replace k := k |>.iloadN D20_0 rfl |>.iloadN D20_1 rfl |>.icmpYes D20_2 (tlt pr1).1 |>.iloadN D20_9 rfl
  exact k.retI D20_10 rfl ⟨rfl, rfl⟩
abbrev w_298 (hw : HW a0 Z) := hw.at 298 rfl
abbrev w_300 (hw : HW a0 Z) := hw.at 300 rfl
abbrev w_174 (hw : HW a0 Z) := hw.at 174 rfl
theorem pd_II_r_I : parseMethodDescriptor "(II)I" = some ⟨[.int, .int], some .int⟩ := by decide +kernel
abbrev w_299 (hw : HW a0 Z) := hw.at 299 rfl
theorem S20 (hw : HW a0 Z) : SC Z a0 Y20 C20 2 (some .int) 2 := ⟨(w_299 hw), ⟨⟨_, Or.inl rfl⟩, (w_300 hw), (w_174 hw), by decide, _, _, pd_II_r_I, rfl⟩⟩
theorem D19_6 : Dc J19 6 .iadd 1 7 := by decide +kernel
theorem D19_7 : Dc J19 7 (.istore_n 3) 1 8 := by decide +kernel
theorem D19_8 : Dc J19 8 (.iconst 0) 1 9 := by decide +kernel
theorem D19_9 : Dc J19 9 (.iload_n 3) 1 10 := by decide +kernel
theorem D19_10 : Dj J19 10 (.if_icmp .ge 11) 11 13 21 := by decide +kernel
theorem D19_13 : Dc J19 13 (.iload_n 3) 1 14 := by decide +kernel
theorem D19_14 : Dc J19 14 (.ldc 200) 2 16 := by decide +kernel
abbrev w_301 (hw : HW a0 Z) := hw.at 301 rfl
theorem D19_16 : Dj J19 16 (.if_icmp .gt 5) 5 19 21 := by decide +kernel
theorem D19_19 : Dc J19 19 (.iload_n 3) 1 20 := by decide +kernel
theorem D19_20 : Dc J19 20 .ireturn 1 21 := by decide +kernel
theorem pn_ArraysSupport : plainName "jdk/internal/util/ArraysSupport" = true := by first | (simp [plainName, overriddenIn]; done) | decide +kernel
theorem PN19 : plainFor Y19 = true := plainFor_of_name pn_ArraysSupport
theorem ef_III_4 {x0 : Int32} {x1 : Int32} {x2 : Int32}  (m : MethodId) : entryFrame m #[(.int x0), (.int x1), (.int x2)] 4 = mkF m 0 #[.val (.int x0), .val (.int x1), .val (.int x2), .unset] [] := by
  first | (simp [entryFrame, mkF, argsToLocals, Value.category]; done) | rfl
theorem R_19_1 {p1 p2 p3 : Int32} (hw : HW a0 Z) (G : Gl Z w_CS w_SF w_DO w_DT w_fO w_fT w_US w_SS) (pr1 : p2 < p3) (pr2 : 0 < (p1 + p3)) (pr3 : ¬ (2147483639 < (p1 + p3))) : Mt false [] l Y19 C19 (rmk 1 0 0 14) #[.int p1, .int p2, .int p3] Z a0 h0 n0 (Pv h0 (.int (p1 + p3))) := by
  refine Mt.go PN19 (Or.inl rfl) ef_III_4 fun k => ?_
  replace k := k |>.iloadN D19_0 rfl |>.iloadN D19_1 rfl |>.iloadN D19_2 rfl
  replace k := (k.callS (w_298 hw) (S20 hw) (R_20_1 hw G pr1) D19_3 1 rfl).pv
  replace k := k |>.iadd D19_6 rfl |>.istoreN D19_7 sto3 |>.iconst D19_8 0 |>.iloadN D19_9 rfl |>.icmpNo D19_10 (tlt pr2).2.1 |>.iloadN D19_13 rfl |>.ldcI (w_301 hw) D19_14 |>.icmpNo D19_16 (flt pr3).2.2.1 |>.iloadN D19_19 rfl
  exact k.retI D19_20 rfl ⟨rfl, rfl⟩
abbrev w_294 (hw : HW a0 Z) := hw.at 294 rfl
abbrev w_297 (hw : HW a0 Z) := hw.at 297 rfl
abbrev w_296 (hw : HW a0 Z) := hw.at 296 rfl
theorem pd_III_r_I : parseMethodDescriptor "(III)I" = some ⟨[.int, .int, .int], some .int⟩ := by decide +kernel
abbrev w_295 (hw : HW a0 Z) := hw.at 295 rfl
theorem S19 (hw : HW a0 Z) : SC Z a0 Y19 C19 4 (some .int) 3 := ⟨(w_295 hw), ⟨⟨_, Or.inl rfl⟩, (w_297 hw), (w_296 hw), by decide, _, _, pd_III_r_I, rfl⟩⟩
theorem D18_32 : Dc J18 32 (.istore 5) 2 34 := by decide +kernel
theorem D18_34 : Dc J18 34 (.iload 5) 2 36 := by decide +kernel
theorem D18_36 : Dc J18 36 (.ldc 39) 2 38 := by decide +kernel
abbrev w_302 (hw : HW a0 Z) := hw.at 302 rfl
theorem D18_38 : Dj J18 38 (.if_icmp .ne 13) 13 41 51 := by decide +kernel
theorem D18_51 : Dc J18 51 (.iload 5) 2 53 := by decide +kernel
theorem D18_53 : Dc J18 53 (.aload_n 0) 1 54 := by decide +kernel
theorem D18_54 : Dc J18 54 (.getfield 22) 3 57 := by decide +kernel
theorem D18_57 : Dc J18 57 .ishr 1 58 := by decide +kernel
theorem D18_58 : Dc J18 58 .ireturn 1 59 := by decide +kernel
theorem PN18 : plainFor Y18 = true := plainFor_of_name pn_AbstractStringBuilder
theorem ef_RI_6 {x0 : Addr} {x1 : Int32}  (m : MethodId) : entryFrame m #[(.ref x0), (.int x1)] 6 = mkF m 0 #[.val (.ref x0), .val (.int x1), .unset, .unset, .unset, .unset] [] := by
  first | (simp [entryFrame, mkF, argsToLocals, Value.category]; done) | rfl
theorem R_18_1 {a1 a3 : Addr} {p2 p4 : Int32} {f5 : Nat → Int32} (hw : HW a0 Z) (G : Gl Z w_CS w_SF w_DO w_DT w_fO w_fT w_US w_SS) (pr1 : Obj Z h0 a1 L_StringBuilder [.ref a3, .int 0, .int p4]) (pr2 : Ary Z h0 a3 ATB 16 (bv f5)) (pr3 : ((p2 <<< ((0 : Int32) &&& 31)) - 16) < 18) : Mt false [] l Y18 C18 (rmk 2 0 0 29) #[.ref a1, .int p2] Z a0 h0 n0 (Pv h0 (.int 34)) := by
  refine Mt.go PN18 (Or.inl rfl) ef_RI_6 fun k => ?_
  replace k := k |>.aloadN D18_0 rfl rfl |>.getF (fl_58 hw) pr1 0 D18_1 rfl rfl |>.alen pr2 D18_4 (z := 16) (by decide) |>.istoreN D18_5 sto2 |>.iloadN D18_6 rfl |>.aloadN D18_7 rfl rfl |>.getF (fl_60 hw) pr1 1 D18_8 rfl rfl |>.ishl D18_11 rfl |>.istoreN D18_12 sto3 |>.iloadN D18_13 rfl |>.iloadN D18_14 rfl |>.isub D18_15 rfl
  replace k := k |>.istore D18_16 sto4 |>.iloadN D18_18 rfl |>.iload D18_19 rfl |>.iloadN D18_21 rfl |>.iconst D18_22 2 |>.aloadN D18_23 rfl rfl |>.getF (fl_60 hw) pr1 1 D18_24 rfl rfl |>.ishl D18_27 (z := 2) |>.iadd D18_28 (z := 18)
  replace k := (k.callS (w_294 hw) (S19 hw) (R_19_1 hw G pr3 (by decide) (by decide) (p1 := 16) (p3 := 18)) D18_29 0 rfl).pv
  replace k := k |>.top (y := 34) (by decide) |>.istore D18_32 sto5 |>.iload D18_34 rfl |>.ldcI (w_302 hw) D18_36 |>.icmpYes D18_38  |>.iload D18_51 rfl |>.aloadN D18_53 rfl rfl |>.getF (fl_60 hw) pr1 1 D18_54 rfl rfl |>.ishr D18_57 (z := 34)
  exact k.retI D18_58 rfl ⟨rfl, rfl⟩
abbrev w_289 (hw : HW a0 Z) := hw.at 289 rfl
abbrev w_293 (hw : HW a0 Z) := hw.at 293 rfl
theorem pd_I_r_I : parseMethodDescriptor "(I)I" = some ⟨[.int], some .int⟩ := by decide +kernel
abbrev w_292 (hw : HW a0 Z) := hw.at 292 rfl
abbrev w_291 (hw : HW a0 Z) := hw.at 291 rfl
abbrev w_290 (hw : HW a0 Z) := hw.at 290 rfl
theorem P18 (hw : HW a0 Z) : PC Z a0 Y18 jdk_68_method_10_code 6 (some .int) 1 := ⟨(w_290 hw), fun s args hZ => ⟨selPriv (by decide) (mvT (args := args) hZ (w_292 hw)) (mvP hZ (w_291 hw)) (mvT hZ (w_290 hw)), Cond.privateMethod_at (mvP hZ (w_291 hw) (args := #[]))⟩, ⟨⟨_, Or.inl rfl⟩, (w_293 hw), (w_54 hw), by decide, _, _, pd_I_r_I, rfl⟩⟩
theorem D12_27 : Dc J12 27 (.aload_n 0) 1 28 := by decide +kernel
theorem D12_28 : Dc J12 28 (.getfield 22) 3 31 := by decide +kernel
theorem D12_31 : Dc J12 31 .ishl 1 32 := by decide +kernel
theorem D12_32 : Dc J12 32 (.invokestatic 108) 3 35 := by decide +kernel
abbrev Y21 : MethodName := ⟨"java/util/Arrays", "copyOf", "([BI)[B"⟩
abbrev J21 := jdk_65_method_121_code
abbrev C21 : Cond := .code Y21 J21 3 (some (.array .byte))
theorem D21_0 : Dc J21 0 (.iload_n 1) 1 1 := by decide +kernel
theorem D21_1 : Dc J21 1 (.aload_n 0) 1 2 := by decide +kernel
theorem D21_2 : Dc J21 2 .arraylength 1 3 := by decide +kernel
theorem D21_3 : Dj J21 3 (.if_icmp .ne 11) 11 6 14 := by decide +kernel
theorem D21_14 : Dc J21 14 (.iload_n 1) 1 15 := by decide +kernel
theorem D21_15 : Dc J21 15 (.newarray .byte) 2 17 := by decide +kernel
theorem D21_17 : Dc J21 17 (.astore_n 2) 1 18 := by decide +kernel
theorem D21_18 : Dc J21 18 (.aload_n 0) 1 19 := by decide +kernel
theorem D21_19 : Dc J21 19 (.iconst 0) 1 20 := by decide +kernel
theorem D21_20 : Dc J21 20 (.aload_n 2) 1 21 := by decide +kernel
theorem D21_21 : Dc J21 21 (.iconst 0) 1 22 := by decide +kernel
theorem D21_22 : Dc J21 22 (.aload_n 0) 1 23 := by decide +kernel
theorem D21_23 : Dc J21 23 .arraylength 1 24 := by decide +kernel
theorem D21_24 : Dc J21 24 (.iload_n 1) 1 25 := by decide +kernel
theorem D21_25 : Dc J21 25 (.invokestatic 304) 3 28 := by decide +kernel
abbrev Y22 : MethodName := ⟨"java/lang/Math", "min", "(II)I"⟩
abbrev J22 := jdk_29_method_69_code
abbrev C22 : Cond := .code Y22 J22 2 (some .int)
theorem D22_0 : Dc J22 0 (.iload_n 0) 1 1 := by decide +kernel
theorem D22_1 : Dc J22 1 (.iload_n 1) 1 2 := by decide +kernel
theorem D22_2 : Dj J22 2 (.if_icmp .gt 7) 7 5 9 := by decide +kernel
theorem D22_5 : Dc J22 5 (.iload_n 0) 1 6 := by decide +kernel
theorem D22_6 : Dj J22 6 (.goto 4) 4 9 10 := by decide +kernel
theorem D22_10 : Dc J22 10 .ireturn 1 11 := by decide +kernel
theorem PN22 : plainFor Y22 = true := Jvm.Free.JP.mathPlain rfl (by decide +kernel)
theorem R_22_1 {p1 p2 : Int32} (hw : HW a0 Z) (G : Gl Z w_CS w_SF w_DO w_DT w_fO w_fT w_US w_SS) (pr1 : ¬ (p2 < p1)) : Mt false [] l Y22 C22 (rmk 0 0 0 0) #[.int p1, .int p2] Z a0 h0 n0 (Pv h0 (.int p1)) := by
  refine Mt.go PN22 (Or.inl rfl) ef_II_2 fun k => ?_
  replace k := k |>.iloadN D22_0 rfl |>.iloadN D22_1 rfl |>.icmpNo D22_2 (flt pr1).2.2.1 |>.iloadN D22_5 rfl |>.goto D22_6
  exact k.retI D22_10 rfl ⟨rfl, rfl⟩
abbrev w_172 (hw : HW a0 Z) := hw.at 172 rfl
abbrev w_175 (hw : HW a0 Z) := hw.at 175 rfl
abbrev w_173 (hw : HW a0 Z) := hw.at 173 rfl
theorem S22 (hw : HW a0 Z) : SC Z a0 Y22 C22 2 (some .int) 2 := ⟨(w_173 hw), ⟨⟨_, Or.inl rfl⟩, (w_175 hw), (w_174 hw), by decide, _, _, pd_II_r_I, rfl⟩⟩
theorem D21_28 : Dc J21 28 (.invokestatic 150) 3 31 := by decide +kernel
abbrev w_176 (hw : HW a0 Z) := hw.at 176 rfl
theorem D21_31 : Dc J21 31 (.aload_n 2) 1 32 := by decide +kernel
theorem D21_32 : Dc J21 32 .areturn 1 33 := by decide +kernel
theorem pn_Arrays : plainName "java/util/Arrays" = true := by first | (simp [plainName, overriddenIn]; done) | decide +kernel
theorem PN21 : plainFor Y21 = true := plainFor_of_name pn_Arrays
theorem R_21_1 {a1 : Addr} {f2 : Nat → Int32} (hw : HW a0 Z) (G : Gl Z w_CS w_SF w_DO w_DT w_fO w_fT w_US w_SS) (pr1 : Ary Z h0 a1 ATB 16 (bv f2)) : Mt false [] l Y21 C21 (rmk 1 1 34 18) #[.ref a1, .int 34] Z a0 h0 n0 (KpV h0 [] fun v h => ∃ u1 : Addr, v = (.ref u1) ∧ h0.size ≤ u1 ∧ Ary Z h u1 ATB 34 (bv (cpyi f2 (lvi [0, 0, 0, 0, 0, 0, 0, 0, 0, 0, 0, 0, 0, 0, 0, 0, 0, 0, 0, 0, 0, 0, 0, 0, 0, 0, 0, 0, 0, 0, 0, 0, 0, 0]) 0 0 16))) := by
  refine Mt.go PN21 (Or.inl rfl) ef_RI_3 fun k => ?_
  have nz := k.n0le
  replace k := k |>.iloadN D21_0 rfl |>.aloadN D21_1 rfl rfl |>.alen pr1 D21_2 (z := 16) (by decide) |>.icmpYes D21_3  |>.iloadN D21_14 rfl
  have z1 := k.sz
  obtain ⟨b1, h1, g1, K1, O1, k⟩ := k.newP (aty := .byte) "[B" (w_19 hw) (by decide) D21_15 34 (by decide) (n := 34) (by decide) (by decide) (by decide) (bi_const (L := [0, 0, 0, 0, 0, 0, 0, 0, 0, 0, 0, 0, 0, 0, 0, 0, 0, 0, 0, 0, 0, 0, 0, 0, 0, 0, 0, 0, 0, 0, 0, 0, 0, 0]) rfl)
  replace k := k |>.astoreN D21_17 rfl sto2 |>.aloadN D21_18 rfl rfl |>.iconst D21_19 0 |>.aloadN D21_20 rfl rfl |>.iconst D21_21 0 |>.aloadN D21_22 rfl rfl
  have o2 := pr1.keep K1 nin0
  replace k := k |>.alen o2 D21_23 (z := 16) (by decide) |>.iloadN D21_24 rfl
  replace k := (k.callS (w_172 hw) (S22 hw) (R_22_1 hw G (by decide) (p1 := 16) (p2 := 34)) D21_25 4 rfl).pv
  have s_b1 := Nat.le_trans z1 g1
  have n_b1 := Nat.le_trans nz s_b1
  obtain ⟨h4, K4, O4, k⟩ := k.acopy (w_176 hw) (w_108 hw) (w_106 hw) (w_107 hw) o2 O1 ⟨rfl, rfl⟩ (sp' := 0) (by decide) (dp' := 0) (by decide) (nn' := 16) (by decide) (by decide) (by decide) bv_cpy n_b1 D21_28 0
  replace k := k |>.aloadN D21_31 rfl rfl
  exact k.retA D21_32 rfl ⟨_, rfl, (K1.trans K4 (allS (Or.inr s_b1) all0)), b1, rfl, s_b1, O4⟩
abbrev w_303 (hw : HW a0 Z) := hw.at 303 rfl
abbrev w_305 (hw : HW a0 Z) := hw.at 305 rfl
abbrev w_164 (hw : HW a0 Z) := hw.at 164 rfl
theorem pd_ABI_r_AB : parseMethodDescriptor "([BI)[B" = some ⟨[(.array .byte), .int], some (.array .byte)⟩ := by decide +kernel
abbrev w_304 (hw : HW a0 Z) := hw.at 304 rfl
theorem S21 (hw : HW a0 Z) : SC Z a0 Y21 C21 3 (some (.array .byte)) 2 := ⟨(w_304 hw), ⟨⟨_, Or.inl rfl⟩, (w_305 hw), (w_164 hw), by decide, _, _, pd_ABI_r_AB, rfl⟩⟩
theorem D12_35 : Dc J12 35 (.putfield 15) 3 38 := by decide +kernel
theorem pw_AbstractStringBuilder_m_StringBuilder_value {mn : String} (hw : HW a0 Z) : PW Z a0 "java/lang/AbstractStringBuilder" mn L_StringBuilder "java/lang/AbstractStringBuilder" "value" "[B" (.array .byte) := ⟨okL_StringBuilder hw, Or.inl (w_59 hw), ⟨_, (w_45 hw)⟩, by decide +kernel⟩
theorem R_12_4 {a1 a3 : Addr} {p2 p4 : Int32} {f5 : Nat → Int32} (hw : HW a0 Z) (G : Gl Z w_CS w_SF w_DO w_DT w_fO w_fT w_US w_SS) (pr1 : Obj Z h0 a1 L_StringBuilder [.ref a3, .int 0, .int p4]) (pr2 : Ary Z h0 a3 ATB 16 (bv f5)) (pr3 : 0 < (p2 - 16)) (pr4 : ((p2 <<< ((0 : Int32) &&& 31)) - 16) < 18) (pr5 : n0 ≤ a1) : Mt false [] l Y12 C12 (rmk 3 1 34 48) #[.ref a1, .int p2] Z a0 h0 n0 (K0 h0 [a1] fun h => ∃ u1 : Addr, h0.size ≤ u1 ∧ Obj Z h a1 L_StringBuilder [.ref u1, .int 0, .int p4] ∧ Ary Z h u1 ATB 34 (bv (cpyi f5 (lvi [0, 0, 0, 0, 0, 0, 0, 0, 0, 0, 0, 0, 0, 0, 0, 0, 0, 0, 0, 0, 0, 0, 0, 0, 0, 0, 0, 0, 0, 0, 0, 0, 0, 0]) 0 0 16))) := by
  refine Mt.go PN12 (Or.inl rfl) ef_RI_3 fun k => ?_
  replace k := k |>.aloadN D12_0 rfl rfl |>.getF (fl_58 hw) pr1 0 D12_1 rfl rfl |>.alen pr2 D12_4 (z := 16) (by decide) |>.aloadN D12_5 rfl rfl |>.getF (fl_60 hw) pr1 1 D12_6 rfl rfl |>.ishr D12_9 (z := 16) |>.istoreN D12_10 sto2 |>.iloadN D12_11 rfl |>.iloadN D12_12 rfl |>.isub D12_13 rfl |>.ifNo D12_14 ((if0 _ _).trans (tlt pr3).2.2.2) |>.aloadN D12_17 rfl rfl
  replace k := k |>.aloadN D12_18 rfl rfl |>.getF (fl_58 hw) pr1 0 D12_19 rfl rfl |>.aloadN D12_22 rfl rfl |>.iloadN D12_23 rfl
  replace k := (k.callP (w_289 hw) (P18 hw) pr1.exa (R_18_1 hw G pr1 pr2 pr4) D12_24 2 rfl).pv
  replace k := k |>.aloadN D12_27 rfl rfl |>.getF (fl_60 hw) pr1 1 D12_28 rfl rfl |>.ishl D12_31 (z := 34)
  have z2 := k.sz
  obtain ⟨_, h2, K2, ⟨u1_2, rfl, f2_0, f2_1⟩, k⟩ := (k.callS (w_303 hw) (S21 hw) (R_21_1 hw G pr2) D12_32 1 rfl).kv
  have o3 := pr1.keep K2 nin0
  obtain ⟨h4, K4, O4, k⟩ := k.putF (fl_58 hw) (pw_AbstractStringBuilder_m_StringBuilder_value hw) o3 0 pr5 (Or.inl rfl) D12_35 rfl rfl rfl ls0
  have s_u1_2 := Nat.le_trans z2 f2_0
  have o5 := f2_1.keep K4 (ninS (nlt' pr1.lt s_u1_2) nin0)
  exact k.ret0 D12_38 rfl ⟨rfl, (((Keep.refl h0 [a1]).trans K2 all0).trans K4 (allS (Or.inl (List.mem_of_getElem? (i := 0) rfl)) all0)), u1_2, s_u1_2, O4, o5⟩
theorem D17_19 : Dc J17 19 (.aload_n 0) 1 20 := by decide +kernel
theorem D17_20 : Dc J17 20 (.invokevirtual 83) 3 23 := by decide +kernel
abbrev Y23 : MethodName := ⟨"java/lang/AbstractStringBuilder", "isLatin1", "()Z"⟩
abbrev J23 := jdk_68_method_68_code
abbrev C23 : Cond := .code Y23 J23 1 (some .boolean)
theorem D23_0 : Dc J23 0 (.getstatic 18) 3 3 := by decide +kernel
theorem D23_3 : Dj J23 3 (.ifCond .eq 14) 14 6 17 := by decide +kernel
theorem D23_6 : Dc J23 6 (.aload_n 0) 1 7 := by decide +kernel
theorem D23_7 : Dc J23 7 (.getfield 22) 3 10 := by decide +kernel
theorem D23_10 : Dj J23 10 (.ifCond .ne 7) 7 13 17 := by decide +kernel
theorem D23_13 : Dc J23 13 (.iconst 1) 1 14 := by decide +kernel
theorem D23_14 : Dj J23 14 (.goto 4) 4 17 18 := by decide +kernel
theorem D23_18 : Dc J23 18 .ireturn 1 19 := by decide +kernel
theorem PN23 : plainFor Y23 = true := plainFor_of_name pn_AbstractStringBuilder
theorem R_23_1 {a1 a2 : Addr} {p3 : Int32} (hw : HW a0 Z) (G : Gl Z w_CS w_SF w_DO w_DT w_fO w_fT w_US w_SS) (pr1 : Obj Z h0 a1 L_StringBuilder [.ref a2, .int 0, .int p3]) : Mt false [] l Y23 C23 (rmk 0 0 0 0) #[.ref a1] Z a0 h0 n0 (Pv h0 (.int 1)) := by
  refine Mt.go PN23 (Or.inl rfl) ef_R_1 fun k => ?_
  replace k := k |>.getS (fl_57 hw) G.S_CS D23_0 |>.ifNo D23_3 ((if0 _ _).trans (feq G.h_CS).1) |>.aloadN D23_6 rfl rfl |>.getF (fl_60 hw) pr1 1 D23_7 rfl rfl |>.ifNo D23_10  |>.iconst D23_13 1 |>.goto D23_14
  exact k.retN (t := .boolean) D23_18 rfl (by simp) (z' := 1) (by decide) ⟨rfl, rfl⟩
abbrev w_124 (hw : HW a0 Z) := hw.at 124 rfl
abbrev w_128 (hw : HW a0 Z) := hw.at 128 rfl
theorem pd__r_Z : parseMethodDescriptor "()Z" = some ⟨[], some .boolean⟩ := by decide +kernel
abbrev w_127 (hw : HW a0 Z) := hw.at 127 rfl
abbrev w_126 (hw : HW a0 Z) := hw.at 126 rfl
abbrev w_125 (hw : HW a0 Z) := hw.at 125 rfl
theorem V_Y23_23_StringBuilder (hw : HW a0 Z) : VC Z a0 Y23 Y23 "java/lang/StringBuilder" C23 1 (some .boolean) 0 := ⟨(w_125 hw), fun s hZ => notFace_of_selects (args := #[]) (mvT hZ (w_127 hw)), (w_127 hw), (w_126 hw), by decide, rfl, ⟨⟨_, Or.inl rfl⟩, (w_128 hw), (w_54 hw), by decide, _, _, pd__r_Z, rfl⟩⟩
theorem D17_23 : Dj J17 23 (.ifCond .eq 17) 17 26 40 := by decide +kernel
theorem D17_26 : Dc J17 26 (.lload_n 1) 1 27 := by decide +kernel
theorem D17_27 : Dc J17 27 (.iload 4) 2 29 := by decide +kernel
theorem D17_29 : Dc J17 29 (.aload_n 0) 1 30 := by decide +kernel
theorem D17_30 : Dc J17 30 (.getfield 15) 3 33 := by decide +kernel
theorem D17_33 : Dc J17 33 (.invokestatic 259) 3 36 := by decide +kernel
theorem own_d8 {p1 v0 v1 v2 v3 v4 : Int32} {q1 : Int64} (e0 : v0 = (0 + p1)) (e1 : v1 = (v0 + 7)) (e2 : v2 = (sszL q1)) (e3 : v3 = (v1 + v2)) (e4 : v4 = (v3 - 16)) (hq0 : ¬ (p1 < 0)) (hq1 : p1 < 3) (hq2 : 0 < v4) : ¬ (v3 < v2) := by
  have := rng32 p1
  have : (0 : Int32).toInt = 0 := by decide
  have := i_nlt hq0
  have : (3 : Int32).toInt = 3 := by decide
  have := i_lt hq1
  have := e_iaddN e0 (by omega)
  have : (7 : Int32).toInt = 7 := by decide
  have := e_iaddN e1 (by omega)
  have := rng64 q1
  have := e_sszL e2
  have := e_iaddN e3 (by omega)
  have : (16 : Int32).toInt = 16 := by decide
  have := e_isubN e4 (by omega)
  have := i_lt hq2
  exact o_nlt (by omega)
theorem own_d9 {p1 v0 v1 v2 v3 v4 : Int32} {q1 : Int64} (e0 : v0 = (0 + p1)) (e1 : v1 = (v0 + 7)) (e2 : v2 = (sszL q1)) (e3 : v3 = (v1 + v2)) (e4 : v4 = (v3 - 16)) (hq0 : ¬ (p1 < 0)) (hq1 : p1 < 3) (hq2 : 0 < v4) : ¬ (34 < v3) := by
  have := rng32 p1
  have : (0 : Int32).toInt = 0 := by decide
  have := i_nlt hq0
  have : (3 : Int32).toInt = 3 := by decide
  have := i_lt hq1
  have := e_iaddN e0 (by omega)
  have : (7 : Int32).toInt = 7 := by decide
  have := e_iaddN e1 (by omega)
  have := rng64 q1
  have := e_sszL e2
  have := e_iaddN e3 (by omega)
  have : (16 : Int32).toInt = 16 := by decide
  have := e_isubN e4 (by omega)
  have := i_lt hq2
  have : (34 : Int32).toInt = 34 := by decide
  exact o_nlt (by omega)
abbrev w_129 (hw : HW a0 Z) := hw.at 129 rfl
abbrev w_131 (hw : HW a0 Z) := hw.at 131 rfl
theorem pd_JIAB_r_I : parseMethodDescriptor "(JI[B)I" = some ⟨[.long, .int, (.array .byte)], some .int⟩ := by decide +kernel
abbrev w_130 (hw : HW a0 Z) := hw.at 130 rfl
theorem S4 (hw : HW a0 Z) : SC Z a0 Y4 C4 11 (some .int) 3 := ⟨(w_130 hw), ⟨⟨_, Or.inl rfl⟩, (w_131 hw), (w_121 hw), by decide, _, _, pd_JIAB_r_I, rfl⟩⟩
theorem D17_36 : Dc J17 36 .pop 1 37 := by decide +kernel
theorem D17_37 : Dj J17 37 (.goto 15) 15 40 52 := by decide +kernel
theorem D17_52 : Dc J17 52 (.aload_n 0) 1 53 := by decide +kernel
theorem D17_53 : Dc J17 53 (.iload 4) 2 55 := by decide +kernel
theorem D17_55 : Dc J17 55 (.putfield 79) 3 58 := by decide +kernel
theorem D17_58 : Dc J17 58 (.aload_n 0) 1 59 := by decide +kernel
theorem D17_59 : Dc J17 59 .areturn 1 60 := by decide +kernel
theorem PN17 : plainFor Y17 = true := plainFor_of_name pn_AbstractStringBuilder
theorem ef_RJ_5 {x0 : Addr} {x1 : Int64}  (m : MethodId) : entryFrame m #[(.ref x0), (.long x1)] 5 = mkF m 0 #[.val (.ref x0), .val (.long x1), .second, .unset, .unset] [] := by
  first | (simp [entryFrame, mkF, argsToLocals, Value.category]; done) | rfl
theorem R_17_2 {a1 a3 : Addr} {q2 : Int64} {p4 : Int32} {f5 : Nat → Int32} (hw : HW a0 Z) (G : Gl Z w_CS w_SF w_DO w_DT w_fO w_fT w_US w_SS) (pr1 : Obj Z h0 a1 L_StringBuilder [.ref a3, .int 0, .int p4]) (pr2 : Ary Z h0 a3 ATB 16 (bv f5)) (pr3 : 0 < ((p4 + (sszL q2)) - 16)) (pr4 : (((p4 + (sszL q2)) <<< ((0 : Int32) &&& 31)) - 16) < 18) (pr5 : n0 ≤ a1) (pr6 : ¬ ((p4 + (sszL q2)) < (sszL q2))) (pr7 : ¬ (34 < (p4 + (sszL q2)))) : Mt false [] l Y17 C17 (rmk 4 1 34 62) #[.ref a1, .long q2] Z a0 h0 n0 (KpV h0 [a1] fun v h => ∃ (u1 : Addr) (g2 : Nat → Int32), v = (.ref a1) ∧ h0.size ≤ u1 ∧ Obj Z h a1 L_StringBuilder [.ref u1, .int 0, .int (p4 + (sszL q2))] ∧ Ary Z h u1 ATB 34 (bv g2) ∧ GF (q2 : Int64).toInt.natAbs (p4 + (sszL q2)).toNatClampNeg (sgnL q2) (cpyi f5 (lvi [0, 0, 0, 0, 0, 0, 0, 0, 0, 0, 0, 0, 0, 0, 0, 0, 0, 0, 0, 0, 0, 0, 0, 0, 0, 0, 0, 0, 0, 0, 0, 0, 0, 0]) 0 0 16) g2) := by
  refine Mt.go PN17 (Or.inl rfl) ef_RJ_5 fun k => ?_
  have nz := k.n0le
  replace k := k |>.aloadN D17_0 rfl rfl |>.getF (fl_82 hw) pr1 2 D17_1 rfl rfl |>.istoreN D17_4 sto3 |>.iloadN D17_5 rfl |>.lloadN D17_6 rfl
  replace k := (k.callS (w_119 hw) (S3 hw) (R_ssl hw G (q1 := q2)) D17_7 1 rfl).pv
  replace k := k |>.iadd D17_10 rfl |>.istore D17_11 sto4 |>.aloadN D17_13 rfl rfl |>.iload D17_14 rfl
  have z1 := k.sz
  obtain ⟨h1, K1, ⟨u1_1, f1_0, f1_1, f1_2⟩, k⟩ := (k.callP (w_84 hw) (P12 hw) pr1.exa (R_12_4 hw G pr1 pr2 pr3 pr4 pr5) D17_16 0 rfl).k0 (allS pr5 all0)
  replace k := k |>.aloadN D17_19 rfl rfl
  replace k := (k.callV (w_124 hw) (V_Y23_23_StringBuilder hw) f1_1.exa (R_23_1 hw G f1_1) D17_20 0 rfl).pv
  replace k := k |>.ifNo D17_23  |>.lloadN D17_26 rfl |>.iload D17_27 rfl |>.aloadN D17_29 rfl rfl |>.getF (fl_58 hw) f1_1 0 D17_30 rfl rfl
  have s_u1_1 := Nat.le_trans z1 f1_0
  have n_u1_1 := Nat.le_trans nz s_u1_1
  obtain ⟨_, h3, K3, ⟨_, g3, rfl, O3, G3⟩, k⟩ := (k.callS (w_129 hw) (S4 hw) (R_gcl hw G f1_2 n_u1_1 pr6 pr7 (vN := 34)) D17_33 0 rfl).kv (allS n_u1_1 all0)
  replace k := k |>.pop D17_36 rfl |>.goto D17_37 |>.aloadN D17_52 rfl rfl |>.iload D17_53 rfl
  have o4 := f1_1.keep K3 (ninS (nlt pr1.lt s_u1_1) nin0)
  obtain ⟨h5, K5, O5, k⟩ := k.putF (fl_82 hw) (pw_AbstractStringBuilder_m_StringBuilder_count hw) o4 2 pr5 (Or.inl rfl) D17_55 rfl rfl rfl ls2
  replace k := k |>.aloadN D17_58 rfl rfl
  have o6 := O3.keep K5 (ninS (nlt' pr1.lt s_u1_1) nin0)
  exact k.retA D17_59 rfl ⟨_, rfl, ((K1.trans K3 (allS (Or.inr s_u1_1) all0)).trans K5 (allS (Or.inl (List.mem_of_getElem? (i := 0) rfl)) all0)), u1_1, g3, rfl, s_u1_1, O5, o6, G3⟩
abbrev w_115 (hw : HW a0 Z) := hw.at 115 rfl
abbrev w_118 (hw : HW a0 Z) := hw.at 118 rfl
theorem pd_J_r_Ljava_lang_AbstractStringBuilder : parseMethodDescriptor "(J)Ljava/lang/AbstractStringBuilder;" = some ⟨[.long], some (.object "java/lang/AbstractStringBuilder")⟩ := by decide +kernel
theorem CW17 (hw : HW a0 Z) : CW Z a0 Y17 C17 5 (some (.object "java/lang/AbstractStringBuilder")) 1 := ⟨⟨_, Or.inl rfl⟩, (w_118 hw), (w_54 hw), by decide, _, _, pd_J_r_Ljava_lang_AbstractStringBuilder, rfl⟩
abbrev w_117 (hw : HW a0 Z) := hw.at 117 rfl
abbrev w_116 (hw : HW a0 Z) := hw.at 116 rfl
theorem D16_5 : Dc J16 5 .pop 1 6 := by decide +kernel
theorem D16_6 : Dc J16 6 (.aload_n 0) 1 7 := by decide +kernel
theorem D16_7 : Dc J16 7 .areturn 1 8 := by decide +kernel
theorem PN16 : plainFor Y16 = true := plainFor_of_name pn_StringBuilder
theorem ef_RJ_3 {x0 : Addr} {x1 : Int64}  (m : MethodId) : entryFrame m #[(.ref x0), (.long x1)] 3 = mkF m 0 #[.val (.ref x0), .val (.long x1), .second] [] := by
  first | (simp [entryFrame, mkF, argsToLocals, Value.category]; done) | rfl
theorem R_16_2 {a1 a3 : Addr} {q2 : Int64} {p4 : Int32} {f5 : Nat → Int32} (hw : HW a0 Z) (G : Gl Z w_CS w_SF w_DO w_DT w_fO w_fT w_US w_SS) (pr1 : Obj Z h0 a1 L_StringBuilder [.ref a3, .int 0, .int p4]) (pr2 : Ary Z h0 a3 ATB 16 (bv f5)) (pr3 : 0 < ((p4 + (sszL q2)) - 16)) (pr4 : (((p4 + (sszL q2)) <<< ((0 : Int32) &&& 31)) - 16) < 18) (pr5 : n0 ≤ a1) (pr6 : ¬ ((p4 + (sszL q2)) < (sszL q2))) (pr7 : ¬ (34 < (p4 + (sszL q2)))) : Mt false [] l Y16 C16 (rmk 5 1 34 78) #[.ref a1, .long q2] Z a0 h0 n0 (KpV h0 [a1] fun v h => ∃ (u1 : Addr) (g2 : Nat → Int32), v = (.ref a1) ∧ h0.size ≤ u1 ∧ Obj Z h a1 L_StringBuilder [.ref u1, .int 0, .int (p4 + (sszL q2))] ∧ Ary Z h u1 ATB 34 (bv g2) ∧ GF (q2 : Int64).toInt.natAbs (p4 + (sszL q2)).toNatClampNeg (sgnL q2) (cpyi f5 (lvi [0, 0, 0, 0, 0, 0, 0, 0, 0, 0, 0, 0, 0, 0, 0, 0, 0, 0, 0, 0, 0, 0, 0, 0, 0, 0, 0, 0, 0, 0, 0, 0, 0, 0]) 0 0 16) g2) := by
  refine Mt.go PN16 (Or.inl rfl) ef_RJ_3 fun k => ?_
  replace k := k |>.aloadN D16_0 rfl rfl |>.lloadN D16_1 rfl
  have z1 := k.sz
  obtain ⟨_, h1, K1, ⟨u1_1, g2_1, rfl, f1_0, f1_1, f1_2, f1_3⟩, k⟩ := (k.callX (w_115 hw) (sameOf (y := Y17) (by decide) (by rfl) (w_117 hw) (w_87 hw)) (w_116 hw) (w_69 hw) (by decide) (CW17 hw) pr1.exa (R_17_2 hw G pr1 pr2 pr3 pr4 pr5 pr6 pr7) D16_2 0 rfl).kv (allS pr5 all0)
  replace k := k |>.pop D16_5 rfl |>.aloadN D16_6 rfl rfl
  have s_u1_1 := Nat.le_trans z1 f1_0
  exact k.retA D16_7 rfl ⟨_, rfl, K1, u1_1, g2_1, rfl, s_u1_1, f1_1, f1_2, f1_3⟩
abbrev w_110 (hw : HW a0 Z) := hw.at 110 rfl
abbrev w_114 (hw : HW a0 Z) := hw.at 114 rfl
theorem pd_J_r_Ljava_lang_StringBuilder : parseMethodDescriptor "(J)Ljava/lang/StringBuilder;" = some ⟨[.long], some (.object "java/lang/StringBuilder")⟩ := by decide +kernel
abbrev w_113 (hw : HW a0 Z) := hw.at 113 rfl
abbrev w_112 (hw : HW a0 Z) := hw.at 112 rfl
abbrev w_111 (hw : HW a0 Z) := hw.at 111 rfl
theorem V_Y16_16_StringBuilder (hw : HW a0 Z) : VC Z a0 Y16 Y16 "java/lang/StringBuilder" C16 3 (some (.object "java/lang/StringBuilder")) 1 := ⟨(w_111 hw), fun s hZ => notFace_of_selects (args := #[]) (mvT hZ (w_113 hw)), (w_113 hw), (w_112 hw), by decide, rfl, ⟨⟨_, Or.inl rfl⟩, (w_114 hw), (w_46 hw), by decide, _, _, pd_J_r_Ljava_lang_StringBuilder, rfl⟩⟩
theorem D7_24 : Dc J7 24 (.ldc 120) 2 26 := by decide +kernel
theorem lit_135 : (∀ c ∈ ": ".toList, c.toNat < 256) ∧ ": ".toList.map (fun c => Value.int (Jvm.Lit.byteI c.toNat.toUInt16)) = [(.int 58), (.int 32)] := by decide +kernel
theorem D7_26 : Dc J7 26 (.invokevirtual 111) 3 29 := by decide +kernel
theorem own_d10 {p1 v0 v1 v2 v3 v4 v5 v6 : Int32} {q1 : Int64} (e0 : v0 = (0 + p1)) (e1 : v1 = (v0 + 7)) (e2 : v2 = (sszL q1)) (e3 : v3 = (v1 + v2)) (e4 : v4 = (v3 - 16)) (e5 : v5 = (v3 + 2)) (e6 : v6 = (v5 - 34)) (hq0 : ¬ (p1 < 0)) (hq1 : p1 < 3) (hq2 : 0 < v4) : ¬ (0 < v6) := by
  have := rng32 p1
  have : (0 : Int32).toInt = 0 := by decide
  have := i_nlt hq0
  have : (3 : Int32).toInt = 3 := by decide
  have := i_lt hq1
  have := e_iaddN e0 (by omega)
  have : (7 : Int32).toInt = 7 := by decide
  have := e_iaddN e1 (by omega)
  have := rng64 q1
  have := e_sszL e2
  have := e_iaddN e3 (by omega)
  have : (16 : Int32).toInt = 16 := by decide
  have := e_isubN e4 (by omega)
  have := i_lt hq2
  have : (2 : Int32).toInt = 2 := by decide
  have := e_iaddN e5 (by omega)
  have : (34 : Int32).toInt = 34 := by decide
  have := e_isubN e6 (by omega)
  exact o_nlt (by omega)
theorem R_12_5 {a1 a3 : Addr} {p2 p4 : Int32} {f5 : Nat → Int32} (hw : HW a0 Z) (G : Gl Z w_CS w_SF w_DO w_DT w_fO w_fT w_US w_SS) (pr1 : Obj Z h0 a1 L_StringBuilder [.ref a3, .int 0, .int p4]) (pr2 : Ary Z h0 a3 ATB 34 (bv f5)) (pr3 : ¬ (0 < (p2 - 34))) : Mt false [] l Y12 C12 (rmk 0 0 0 0) #[.ref a1, .int p2] Z a0 h0 n0 (P0 h0) := by
  refine Mt.go PN12 (Or.inl rfl) ef_RI_3 fun k => ?_
  replace k := k |>.aloadN D12_0 rfl rfl |>.getF (fl_58 hw) pr1 0 D12_1 rfl rfl |>.alen pr2 D12_4 (z := 34) (by decide) |>.aloadN D12_5 rfl rfl |>.getF (fl_60 hw) pr1 1 D12_6 rfl rfl |>.ishr D12_9 (z := 34) |>.istoreN D12_10 sto2 |>.iloadN D12_11 rfl |>.iloadN D12_12 rfl |>.isub D12_13 rfl |>.ifYes D12_14 ((if0 _ _).trans (flt pr3).2.2.2)
  exact k.ret0 D12_38 rfl ⟨rfl, rfl⟩
theorem own_d11 {p1 v0 v1 v2 v3 v4 v5 : Int32} {q1 : Int64} (e0 : v0 = (0 + p1)) (e1 : v1 = (v0 + 7)) (e2 : v2 = (sszL q1)) (e3 : v3 = (v1 + v2)) (e4 : v4 = (v3 - 16)) (e5 : v5 = (v3 <<< ((0 : Int32) &&& 31))) (hq0 : ¬ (p1 < 0)) (hq1 : p1 < 3) (hq2 : 0 < v4) : ¬ (v5 < 0) := by
  have := rng32 p1
  have : (0 : Int32).toInt = 0 := by decide
  have := i_nlt hq0
  have : (3 : Int32).toInt = 3 := by decide
  have := i_lt hq1
  have := e_iaddN e0 (by omega)
  have : (7 : Int32).toInt = 7 := by decide
  have := e_iaddN e1 (by omega)
  have := rng64 q1
  have := e_sszL e2
  have := e_iaddN e3 (by omega)
  have : (16 : Int32).toInt = 16 := by decide
  have := e_isubN e4 (by omega)
  have := i_lt hq2
  have := e_ishlN e5 0 1 (by omega)
  exact o_nlt (by omega)
theorem own_d12 {p1 v0 v1 v2 v3 v4 v5 : Int32} {q1 : Int64} (e0 : v0 = (0 + p1)) (e1 : v1 = (v0 + 7)) (e2 : v2 = (sszL q1)) (e3 : v3 = (v1 + v2)) (e4 : v4 = (v3 - 16)) (e5 : v5 = (v3 <<< ((0 : Int32) &&& 31))) (hq0 : ¬ (p1 < 0)) (hq1 : p1 < 3) (hq2 : 0 < v4) : v5.toNatClampNeg + 2 ≤ 34 := by
  have := rng32 p1
  have : (0 : Int32).toInt = 0 := by decide
  have := i_nlt hq0
  have : (3 : Int32).toInt = 3 := by decide
  have := i_lt hq1
  have := e_iaddN e0 (by omega)
  have : (7 : Int32).toInt = 7 := by decide
  have := e_iaddN e1 (by omega)
  have := rng64 q1
  have := e_sszL e2
  have := e_iaddN e3 (by omega)
  have : (16 : Int32).toInt = 16 := by decide
  have := e_isubN e4 (by omega)
  have := i_lt hq2
  have := e_ishlN e5 0 1 (by omega)
  have : (2 : Int32).toInt = 2 := by decide
  have : (34 : Int32).toInt = 34 := by decide
  simp only [clampNat]
  omega
theorem R_15_3 {a1 a2 a4 : Addr} {p3 : Int32} {f5 : Nat → Int32} (hw : HW a0 Z) (G : Gl Z w_CS w_SF w_DO w_DT w_fO w_fT w_US w_SS) (pr1 : Obj Z h0 a1 litL [.ref a4, .int 0]) (pr2 : Ary Z h0 a4 ("", .byte) 2 (bv (lvi [58, 32]))) (pr3 : Ary Z h0 a2 ATB 34 (bv f5)) (pr4 : n0 ≤ a2) (pr5 : ¬ ((p3 <<< ((0 : Int32) &&& 31)) < 0)) (pr6 : (p3 <<< ((0 : Int32) &&& 31)).toNatClampNeg + 2 ≤ 34) : Mt false [] l Y15 C15 (rmk 1 0 0 18) #[.ref a1, .ref a2, .int p3, .int 0] Z a0 h0 n0 (K0 h0 [a2] fun h => Ary Z h a2 ATB 34 (bv (cpyi (lvi [58, 32]) f5 0 (p3 <<< ((0 : Int32) &&& 31)).toNatClampNeg 2))) := by
  refine Mt.go PN15 (Or.inl rfl) ef_RRII_4 fun k => ?_
  replace k := k |>.aloadN D15_0 rfl rfl
  replace k := (k.callV (w_77 hw) (V_Y6_6_String hw) pr1.exa (R_6_1 hw G pr1) D15_1 0 rfl).pv
  replace k := k |>.iloadN D15_4 rfl |>.icmpNo D15_5  |>.aloadN D15_8 rfl rfl |>.getF (fl_24 hw) pr1 0 D15_9 rfl rfl |>.iconst D15_12 0 |>.aloadN D15_13 rfl rfl |>.iloadN D15_14 rfl |>.iloadN D15_15 rfl |>.ishl D15_16 rfl |>.aloadN D15_17 rfl rfl |>.getF (fl_24 hw) pr1 0 D15_18 rfl rfl |>.alen pr2 D15_21 (z := 2) (by decide)
  obtain ⟨h2, K2, O2, k⟩ := k.acopy (w_105 hw) (w_108 hw) (w_106 hw) (w_107 hw) pr2 pr3 ⟨rfl, rfl⟩ (sp' := 0) (by decide) (dp' := (p3 <<< ((0 : Int32) &&& 31)).toNatClampNeg) (nnS pr5) (nn' := 2) (by decide) (by decide) pr6 bv_cpy pr4 D15_22 0
  replace k := k |>.goto D15_25
  exact k.ret0 D15_43 rfl ⟨rfl, K2, O2⟩
theorem R_13_3 {a1 a3 a4 a5 : Addr} {p2 : Int32} {f6 : Nat → Int32} (hw : HW a0 Z) (G : Gl Z w_CS w_SF w_DO w_DT w_fO w_fT w_US w_SS) (pr1 : Obj Z h0 a1 L_StringBuilder [.ref a4, .int 0, .int p2]) (pr2 : Obj Z h0 a3 litL [.ref a5, .int 0]) (pr3 : Ary Z h0 a5 ("", .byte) 2 (bv (lvi [58, 32]))) (pr4 : Ary Z h0 a4 ATB 34 (bv f6)) (pr5 : n0 ≤ a4) (pr6 : ¬ ((p2 <<< ((0 : Int32) &&& 31)) < 0)) (pr7 : (p2 <<< ((0 : Int32) &&& 31)).toNatClampNeg + 2 ≤ 34) : Mt false [] l Y13 C13 (rmk 2 0 0 33) #[.ref a1, .int p2, .ref a3] Z a0 h0 n0 (K0 h0 [a4] fun h => Ary Z h a4 ATB 34 (bv (cpyi (lvi [58, 32]) f6 0 (p2 <<< ((0 : Int32) &&& 31)).toNatClampNeg 2))) := by
  refine Mt.go PN13 (Or.inl rfl) ef_RIR_3 fun k => ?_
  replace k := k |>.aloadN D13_0 rfl rfl |>.aloadN D13_1 rfl rfl
  replace k := (k.callP (w_94 hw) (P14 hw) pr1.exa (R_14_2 hw G pr1 pr2) D13_2 0 rfl).p0
  replace k := k |>.aloadN D13_5 rfl rfl |>.aloadN D13_6 rfl rfl |>.getF (fl_58 hw) pr1 0 D13_7 rfl rfl |>.iloadN D13_10 rfl |>.aloadN D13_11 rfl rfl |>.getF (fl_60 hw) pr1 1 D13_12 rfl rfl
  obtain ⟨h2, K2, f2_0, k⟩ := (k.callV (w_100 hw) (V_Y15_15_String hw) pr2.exa (R_15_3 hw G pr2 pr3 pr4 pr5 pr6 pr7) D13_15 0 rfl).k0 (allS pr5 all0)
  exact k.ret0 D13_18 rfl ⟨rfl, K2, f2_0⟩
theorem R_11_3 {a1 a2 a3 a4 : Addr} {p5 : Int32} {f6 : Nat → Int32} (hw : HW a0 Z) (G : Gl Z w_CS w_SF w_DO w_DT w_fO w_fT w_US w_SS) (pr1 : Obj Z h0 a2 litL [.ref a3, .int 0]) (pr2 : Ary Z h0 a3 ("", .byte) 2 (bv (lvi [58, 32]))) (pr3 : Obj Z h0 a1 L_StringBuilder [.ref a4, .int 0, .int p5]) (pr4 : Ary Z h0 a4 ATB 34 (bv f6)) (pr5 : ¬ (0 < ((p5 + 2) - 34))) (pr6 : n0 ≤ a4) (pr7 : ¬ ((p5 <<< ((0 : Int32) &&& 31)) < 0)) (pr8 : (p5 <<< ((0 : Int32) &&& 31)).toNatClampNeg + 2 ≤ 34) (pr9 : a1 ≠ a4) (pr10 : n0 ≤ a1) : Mt false [] l Y11 C11 (rmk 3 0 0 47) #[.ref a1, .ref a2] Z a0 h0 n0 (KpV h0 [a1, a4] fun v h => v = (.ref a1) ∧ Obj Z h a1 L_StringBuilder [.ref a4, .int 0, .int (p5 + 2)] ∧ Ary Z h a4 ATB 34 (bv (cpyi (lvi [58, 32]) f6 0 (p5 <<< ((0 : Int32) &&& 31)).toNatClampNeg 2))) := by
  refine Mt.go PN11 (Or.inl rfl) ef_RR_3 fun k => ?_
  replace k := k |>.aloadN D11_0 rfl rfl |>.ifnonnullYes D11_1 |>.aloadN D11_9 rfl rfl
  replace k := (k.callV (w_72 hw) (V_Y5_5_String hw) pr1.exa (R_len hw G pr1 pr2 (by decide) (vN := 2)) D11_10 0 rfl).pv
  replace k := k |>.istoreN D11_13 sto2 |>.aloadN D11_14 rfl rfl |>.aloadN D11_15 rfl rfl |>.getF (fl_82 hw) pr3 2 D11_16 rfl rfl |>.iloadN D11_19 rfl |>.iadd D11_20 rfl
  replace k := (k.callP (w_84 hw) (P12 hw) pr3.exa (R_12_5 hw G pr3 pr4 pr5) D11_21 0 rfl).p0
  replace k := k |>.aloadN D11_24 rfl rfl |>.aloadN D11_25 rfl rfl |>.getF (fl_82 hw) pr3 2 D11_26 rfl rfl |>.aloadN D11_29 rfl rfl
  obtain ⟨h2, K2, f2_0, k⟩ := (k.callP (w_89 hw) (P13 hw) pr3.exa (R_13_3 hw G pr3 pr1 pr2 pr4 pr6 pr7 pr8) D11_30 0 rfl).k0 (allS pr6 all0)
  replace k := k |>.aloadN D11_33 rfl rfl |>.dup D11_34 rfl
  have o3 := pr3.keep K2 (ninS pr9 nin0)
  replace k := k |>.getF (fl_82 hw) o3 2 D11_35 rfl rfl |>.iloadN D11_38 rfl |>.iadd D11_39 rfl
  obtain ⟨h4, K4, O4, k⟩ := k.putF (fl_82 hw) (pw_AbstractStringBuilder_m_StringBuilder_count hw) o3 2 pr10 (Or.inl rfl) D11_40 rfl rfl rfl ls2
  replace k := k |>.aloadN D11_43 rfl rfl
  have o5 := f2_0.keep K4 (ninS (Ne.symm pr9) nin0)
  exact k.retA D11_44 rfl ⟨_, rfl, (((Keep.refl h0 [a1, a4]).trans K2 (allS (Or.inl (List.mem_of_getElem? (i := 1) rfl)) all0)).trans K4 (allS (Or.inl (List.mem_of_getElem? (i := 0) rfl)) all0)), rfl, O4, o5⟩
theorem R_10_3 {a1 a2 a3 a4 : Addr} {p5 : Int32} {f6 : Nat → Int32} (hw : HW a0 Z) (G : Gl Z w_CS w_SF w_DO w_DT w_fO w_fT w_US w_SS) (pr1 : Obj Z h0 a2 litL [.ref a3, .int 0]) (pr2 : Ary Z h0 a3 ("", .byte) 2 (bv (lvi [58, 32]))) (pr3 : Obj Z h0 a1 L_StringBuilder [.ref a4, .int 0, .int p5]) (pr4 : Ary Z h0 a4 ATB 34 (bv f6)) (pr5 : ¬ (0 < ((p5 + 2) - 34))) (pr6 : n0 ≤ a4) (pr7 : ¬ ((p5 <<< ((0 : Int32) &&& 31)) < 0)) (pr8 : (p5 <<< ((0 : Int32) &&& 31)).toNatClampNeg + 2 ≤ 34) (pr9 : a1 ≠ a4) (pr10 : n0 ≤ a1) : Mt false [] l Y10 C10 (rmk 4 0 0 61) #[.ref a1, .ref a2] Z a0 h0 n0 (KpV h0 [a1, a4] fun v h => v = (.ref a1) ∧ Obj Z h a1 L_StringBuilder [.ref a4, .int 0, .int (p5 + 2)] ∧ Ary Z h a4 ATB 34 (bv (cpyi (lvi [58, 32]) f6 0 (p5 <<< ((0 : Int32) &&& 31)).toNatClampNeg 2))) := by
  refine Mt.go PN10 (Or.inl rfl) ef_RR_2 fun k => ?_
  replace k := k |>.aloadN D10_0 rfl rfl |>.aloadN D10_1 rfl rfl
  obtain ⟨_, h1, K1, ⟨rfl, f1_0, f1_1⟩, k⟩ := (k.callX (w_67 hw) (sameOf (y := Y11) (by decide) (by rfl) (w_70 hw) (w_87 hw)) (w_68 hw) (w_69 hw) (by decide) (CW11 hw) pr3.exa (R_11_3 hw G pr1 pr2 pr3 pr4 pr5 pr6 pr7 pr8 pr9 pr10) D10_2 0 rfl).kv (allS pr10 (allS pr6 all0))
  replace k := k |>.pop D10_5 rfl |>.aloadN D10_6 rfl rfl
  exact k.retA D10_7 rfl ⟨_, rfl, K1, rfl, f1_0, f1_1⟩
theorem D7_29 : Dc J7 29 (.aload_n 3) 1 30 := by decide +kernel
theorem D7_30 : Dc J7 30 (.invokevirtual 111) 3 33 := by decide +kernel
theorem own_d13 {p1 p2 v0 v1 v2 v3 v4 v5 v6 v7 : Int32} {q1 : Int64} (e0 : v0 = (0 + p1)) (e1 : v1 = (v0 + 7)) (e2 : v2 = (sszL q1)) (e3 : v3 = (v1 + v2)) (e4 : v4 = (v3 - 16)) (e5 : v5 = (v3 + 2)) (e6 : v6 = (v5 + p2)) (e7 : v7 = (v6 - 34)) (hq0 : ¬ (p1 < 0)) (hq1 : p1 < 3) (hq2 : ¬ (p2 < 0)) (hq3 : p2 < 3) (hq4 : 0 < v4) : ¬ (0 < v7) := by
  have := rng32 p1
  have : (0 : Int32).toInt = 0 := by decide
  have := i_nlt hq0
  have : (3 : Int32).toInt = 3 := by decide
  have := i_lt hq1
  have := rng32 p2
  have := i_nlt hq2
  have := i_lt hq3
  have := e_iaddN e0 (by omega)
  have : (7 : Int32).toInt = 7 := by decide
  have := e_iaddN e1 (by omega)
  have := rng64 q1
  have := e_sszL e2
  have := e_iaddN e3 (by omega)
  have : (16 : Int32).toInt = 16 := by decide
  have := e_isubN e4 (by omega)
  have := i_lt hq4
  have : (2 : Int32).toInt = 2 := by decide
  have := e_iaddN e5 (by omega)
  have := e_iaddN e6 (by omega)
  have : (34 : Int32).toInt = 34 := by decide
  have := e_isubN e7 (by omega)
  exact o_nlt (by omega)
theorem own_d14 {p1 v0 v1 v2 v3 v4 v5 v6 : Int32} {q1 : Int64} (e0 : v0 = (0 + p1)) (e1 : v1 = (v0 + 7)) (e2 : v2 = (sszL q1)) (e3 : v3 = (v1 + v2)) (e4 : v4 = (v3 - 16)) (e5 : v5 = (v3 + 2)) (e6 : v6 = (v5 <<< ((0 : Int32) &&& 31))) (hq0 : ¬ (p1 < 0)) (hq1 : p1 < 3) (hq2 : 0 < v4) : ¬ (v6 < 0) := by
  have := rng32 p1
  have : (0 : Int32).toInt = 0 := by decide
  have := i_nlt hq0
  have : (3 : Int32).toInt = 3 := by decide
  have := i_lt hq1
  have := e_iaddN e0 (by omega)
  have : (7 : Int32).toInt = 7 := by decide
  have := e_iaddN e1 (by omega)
  have := rng64 q1
  have := e_sszL e2
  have := e_iaddN e3 (by omega)
  have : (16 : Int32).toInt = 16 := by decide
  have := e_isubN e4 (by omega)
  have := i_lt hq2
  have : (2 : Int32).toInt = 2 := by decide
  have := e_iaddN e5 (by omega)
  have := e_ishlN e6 0 1 (by omega)
  exact o_nlt (by omega)
theorem own_d15 {p2 : Int32} (hq0 : ¬ (p2 < 0)) (hq1 : p2 < 3) : 0 + p2.toNatClampNeg ≤ p2.toNatClampNeg := by
  have := rng32 p2
  have : (0 : Int32).toInt = 0 := by decide
  have := i_nlt hq0
  have : (3 : Int32).toInt = 3 := by decide
  have := i_lt hq1
  simp only [clampNat]
  omega
theorem own_d16 {p1 p2 v0 v1 v2 v3 v4 v5 v6 : Int32} {q1 : Int64} (e0 : v0 = (0 + p1)) (e1 : v1 = (v0 + 7)) (e2 : v2 = (sszL q1)) (e3 : v3 = (v1 + v2)) (e4 : v4 = (v3 - 16)) (e5 : v5 = (v3 + 2)) (e6 : v6 = (v5 <<< ((0 : Int32) &&& 31))) (hq0 : ¬ (p1 < 0)) (hq1 : p1 < 3) (hq2 : ¬ (p2 < 0)) (hq3 : p2 < 3) (hq4 : 0 < v4) : v6.toNatClampNeg + p2.toNatClampNeg ≤ 34 := by
  have := rng32 p1
  have : (0 : Int32).toInt = 0 := by decide
  have := i_nlt hq0
  have : (3 : Int32).toInt = 3 := by decide
  have := i_lt hq1
  have := rng32 p2
  have := i_nlt hq2
  have := i_lt hq3
  have := e_iaddN e0 (by omega)
  have : (7 : Int32).toInt = 7 := by decide
  have := e_iaddN e1 (by omega)
  have := rng64 q1
  have := e_sszL e2
  have := e_iaddN e3 (by omega)
  have : (16 : Int32).toInt = 16 := by decide
  have := e_isubN e4 (by omega)
  have := i_lt hq4
  have : (2 : Int32).toInt = 2 := by decide
  have := e_iaddN e5 (by omega)
  have := e_ishlN e6 0 1 (by omega)
  have : (34 : Int32).toInt = 34 := by decide
  simp only [clampNat]
  omega
theorem R_15_4 {a1 a2 a4 : Addr} {p3 p5 : Int32} {f6 f7 : Nat → Int32} (hw : HW a0 Z) (G : Gl Z w_CS w_SF w_DO w_DT w_fO w_fT w_US w_SS) (pr1 : Obj Z h0 a1 litL [.ref a4, .int 0]) (pr2 : Ary Z h0 a4 (T2, .byte) p5.toNatClampNeg (bv f6)) (pr3 : ¬ (p5 < 0)) (pr4 : Ary Z h0 a2 ATB 34 (bv f7)) (pr5 : n0 ≤ a2) (pr6 : ¬ ((p3 <<< ((0 : Int32) &&& 31)) < 0)) (pr7 : 0 + p5.toNatClampNeg ≤ p5.toNatClampNeg) (pr8 : (p3 <<< ((0 : Int32) &&& 31)).toNatClampNeg + p5.toNatClampNeg ≤ 34) : Mt false [] l Y15 C15 (rmk 1 0 0 18) #[.ref a1, .ref a2, .int p3, .int 0] Z a0 h0 n0 (K0 h0 [a2] fun h => Ary Z h a2 ATB 34 (bv (cpyi f6 f7 0 (p3 <<< ((0 : Int32) &&& 31)).toNatClampNeg p5.toNatClampNeg))) := by
  refine Mt.go PN15 (Or.inl rfl) ef_RRII_4 fun k => ?_
  replace k := k |>.aloadN D15_0 rfl rfl
  replace k := (k.callV (w_77 hw) (V_Y6_6_String hw) pr1.exa (R_6_1 hw G pr1) D15_1 0 rfl).pv
  replace k := k |>.iloadN D15_4 rfl |>.icmpNo D15_5  |>.aloadN D15_8 rfl rfl |>.getF (fl_24 hw) pr1 0 D15_9 rfl rfl |>.iconst D15_12 0 |>.aloadN D15_13 rfl rfl |>.iloadN D15_14 rfl |>.iloadN D15_15 rfl |>.ishl D15_16 rfl |>.aloadN D15_17 rfl rfl |>.getF (fl_24 hw) pr1 0 D15_18 rfl rfl |>.alen pr2 D15_21 (lenS pr3)
  obtain ⟨h2, K2, O2, k⟩ := k.acopy (w_105 hw) (w_108 hw) (w_106 hw) (w_107 hw) pr2 pr4 ⟨rfl, rfl⟩ (sp' := 0) (by decide) (dp' := (p3 <<< ((0 : Int32) &&& 31)).toNatClampNeg) (nnS pr6) (nn' := p5.toNatClampNeg) (nnS pr3) pr7 pr8 bv_cpy pr5 D15_22 0
  replace k := k |>.goto D15_25
  exact k.ret0 D15_43 rfl ⟨rfl, K2, O2⟩
theorem R_13_4 {a1 a3 a4 a5 : Addr} {p2 p6 : Int32} {f7 f8 : Nat → Int32} (hw : HW a0 Z) (G : Gl Z w_CS w_SF w_DO w_DT w_fO w_fT w_US w_SS) (pr1 : Obj Z h0 a1 L_StringBuilder [.ref a4, .int 0, .int p2]) (pr2 : Obj Z h0 a3 litL [.ref a5, .int 0]) (pr3 : Ary Z h0 a5 (T2, .byte) p6.toNatClampNeg (bv f7)) (pr4 : ¬ (p6 < 0)) (pr5 : Ary Z h0 a4 ATB 34 (bv f8)) (pr6 : n0 ≤ a4) (pr7 : ¬ ((p2 <<< ((0 : Int32) &&& 31)) < 0)) (pr8 : 0 + p6.toNatClampNeg ≤ p6.toNatClampNeg) (pr9 : (p2 <<< ((0 : Int32) &&& 31)).toNatClampNeg + p6.toNatClampNeg ≤ 34) : Mt false [] l Y13 C13 (rmk 2 0 0 33) #[.ref a1, .int p2, .ref a3] Z a0 h0 n0 (K0 h0 [a4] fun h => Ary Z h a4 ATB 34 (bv (cpyi f7 f8 0 (p2 <<< ((0 : Int32) &&& 31)).toNatClampNeg p6.toNatClampNeg))) := by
  refine Mt.go PN13 (Or.inl rfl) ef_RIR_3 fun k => ?_
  replace k := k |>.aloadN D13_0 rfl rfl |>.aloadN D13_1 rfl rfl
  replace k := (k.callP (w_94 hw) (P14 hw) pr1.exa (R_14_2 hw G pr1 pr2) D13_2 0 rfl).p0
  replace k := k |>.aloadN D13_5 rfl rfl |>.aloadN D13_6 rfl rfl |>.getF (fl_58 hw) pr1 0 D13_7 rfl rfl |>.iloadN D13_10 rfl |>.aloadN D13_11 rfl rfl |>.getF (fl_60 hw) pr1 1 D13_12 rfl rfl
  obtain ⟨h2, K2, f2_0, k⟩ := (k.callV (w_100 hw) (V_Y15_15_String hw) pr2.exa (R_15_4 hw G pr2 pr3 pr4 pr5 pr6 pr7 pr8 pr9) D13_15 0 rfl).k0 (allS pr6 all0)
  exact k.ret0 D13_18 rfl ⟨rfl, K2, f2_0⟩
theorem R_11_4 {a1 a2 a3 a6 : Addr} {p4 p7 : Int32} {f5 f8 : Nat → Int32} (hw : HW a0 Z) (G : Gl Z w_CS w_SF w_DO w_DT w_fO w_fT w_US w_SS) (pr1 : Obj Z h0 a2 litL [.ref a3, .int 0]) (pr2 : Ary Z h0 a3 (T2, .byte) p4.toNatClampNeg (bv f5)) (pr3 : ¬ (p4 < 0)) (pr4 : Obj Z h0 a1 L_StringBuilder [.ref a6, .int 0, .int p7]) (pr5 : Ary Z h0 a6 ATB 34 (bv f8)) (pr6 : ¬ (0 < ((p7 + p4) - 34))) (pr7 : n0 ≤ a6) (pr8 : ¬ ((p7 <<< ((0 : Int32) &&& 31)) < 0)) (pr9 : 0 + p4.toNatClampNeg ≤ p4.toNatClampNeg) (pr10 : (p7 <<< ((0 : Int32) &&& 31)).toNatClampNeg + p4.toNatClampNeg ≤ 34) (pr11 : a1 ≠ a6) (pr12 : n0 ≤ a1) : Mt false [] l Y11 C11 (rmk 3 0 0 47) #[.ref a1, .ref a2] Z a0 h0 n0 (KpV h0 [a1, a6] fun v h => v = (.ref a1) ∧ Obj Z h a1 L_StringBuilder [.ref a6, .int 0, .int (p7 + p4)] ∧ Ary Z h a6 ATB 34 (bv (cpyi f5 f8 0 (p7 <<< ((0 : Int32) &&& 31)).toNatClampNeg p4.toNatClampNeg))) := by
  refine Mt.go PN11 (Or.inl rfl) ef_RR_3 fun k => ?_
  replace k := k |>.aloadN D11_0 rfl rfl |>.ifnonnullYes D11_1 |>.aloadN D11_9 rfl rfl
  replace k := (k.callV (w_72 hw) (V_Y5_5_String hw) pr1.exa (R_len hw G pr1 pr2 pr3) D11_10 0 rfl).pv
  replace k := k |>.istoreN D11_13 sto2 |>.aloadN D11_14 rfl rfl |>.aloadN D11_15 rfl rfl |>.getF (fl_82 hw) pr4 2 D11_16 rfl rfl |>.iloadN D11_19 rfl |>.iadd D11_20 rfl
  replace k := (k.callP (w_84 hw) (P12 hw) pr4.exa (R_12_5 hw G pr4 pr5 pr6) D11_21 0 rfl).p0
  replace k := k |>.aloadN D11_24 rfl rfl |>.aloadN D11_25 rfl rfl |>.getF (fl_82 hw) pr4 2 D11_26 rfl rfl |>.aloadN D11_29 rfl rfl
  obtain ⟨h2, K2, f2_0, k⟩ := (k.callP (w_89 hw) (P13 hw) pr4.exa (R_13_4 hw G pr4 pr1 pr2 pr3 pr5 pr7 pr8 pr9 pr10) D11_30 0 rfl).k0 (allS pr7 all0)
  replace k := k |>.aloadN D11_33 rfl rfl |>.dup D11_34 rfl
  have o3 := pr4.keep K2 (ninS pr11 nin0)
  replace k := k |>.getF (fl_82 hw) o3 2 D11_35 rfl rfl |>.iloadN D11_38 rfl |>.iadd D11_39 rfl
  obtain ⟨h4, K4, O4, k⟩ := k.putF (fl_82 hw) (pw_AbstractStringBuilder_m_StringBuilder_count hw) o3 2 pr12 (Or.inl rfl) D11_40 rfl rfl rfl ls2
  replace k := k |>.aloadN D11_43 rfl rfl
  have o5 := f2_0.keep K4 (ninS (Ne.symm pr11) nin0)
  exact k.retA D11_44 rfl ⟨_, rfl, (((Keep.refl h0 [a1, a6]).trans K2 (allS (Or.inl (List.mem_of_getElem? (i := 1) rfl)) all0)).trans K4 (allS (Or.inl (List.mem_of_getElem? (i := 0) rfl)) all0)), rfl, O4, o5⟩
theorem R_10_4 {a1 a2 a3 a6 : Addr} {p4 p7 : Int32} {f5 f8 : Nat → Int32} (hw : HW a0 Z) (G : Gl Z w_CS w_SF w_DO w_DT w_fO w_fT w_US w_SS) (pr1 : Obj Z h0 a2 litL [.ref a3, .int 0]) (pr2 : Ary Z h0 a3 (T2, .byte) p4.toNatClampNeg (bv f5)) (pr3 : ¬ (p4 < 0)) (pr4 : Obj Z h0 a1 L_StringBuilder [.ref a6, .int 0, .int p7]) (pr5 : Ary Z h0 a6 ATB 34 (bv f8)) (pr6 : ¬ (0 < ((p7 + p4) - 34))) (pr7 : n0 ≤ a6) (pr8 : ¬ ((p7 <<< ((0 : Int32) &&& 31)) < 0)) (pr9 : 0 + p4.toNatClampNeg ≤ p4.toNatClampNeg) (pr10 : (p7 <<< ((0 : Int32) &&& 31)).toNatClampNeg + p4.toNatClampNeg ≤ 34) (pr11 : a1 ≠ a6) (pr12 : n0 ≤ a1) : Mt false [] l Y10 C10 (rmk 4 0 0 61) #[.ref a1, .ref a2] Z a0 h0 n0 (KpV h0 [a1, a6] fun v h => v = (.ref a1) ∧ Obj Z h a1 L_StringBuilder [.ref a6, .int 0, .int (p7 + p4)] ∧ Ary Z h a6 ATB 34 (bv (cpyi f5 f8 0 (p7 <<< ((0 : Int32) &&& 31)).toNatClampNeg p4.toNatClampNeg))) := by
  refine Mt.go PN10 (Or.inl rfl) ef_RR_2 fun k => ?_
  replace k := k |>.aloadN D10_0 rfl rfl |>.aloadN D10_1 rfl rfl
  obtain ⟨_, h1, K1, ⟨rfl, f1_0, f1_1⟩, k⟩ := (k.callX (w_67 hw) (sameOf (y := Y11) (by decide) (by rfl) (w_70 hw) (w_87 hw)) (w_68 hw) (w_69 hw) (by decide) (CW11 hw) pr4.exa (R_11_4 hw G pr1 pr2 pr3 pr4 pr5 pr6 pr7 pr8 pr9 pr10 pr11 pr12) D10_2 0 rfl).kv (allS pr12 (allS pr7 all0))
  replace k := k |>.pop D10_5 rfl |>.aloadN D10_6 rfl rfl
  exact k.retA D10_7 rfl ⟨_, rfl, K1, rfl, f1_0, f1_1⟩
theorem D7_33 : Dc J7 33 (.invokevirtual 99) 3 36 := by decide +kernel
abbrev Y24 : MethodName := ⟨"java/lang/StringBuilder", "toString", "()Ljava/lang/String;"⟩
abbrev J24 := jdk_67_method_42_code
abbrev C24 : Cond := .code Y24 J24 1 (some (.object "java/lang/String"))
theorem D24_0 : Dc J24 0 (.new 18) 3 3 := by decide +kernel
abbrev L_String : Jvm.Own.Lay := ("java/lang/String", [("java/lang/String", "value", "[B", .null), ("java/lang/String", "coder", "B", (.int 0))])
theorem dvL_String : (L_String.2.map fun q => q.2.2.2) = [.null, (.int 0)] := rfl
theorem okL_String (hw : HW a0 Z) : LOk Z a0 L_String := ⟨allC ⟨Or.inr (w_20 hw), (.array .byte), by decide +kernel, rfl⟩ (allC ⟨Or.inr (w_21 hw), .byte, by decide +kernel, rfl⟩ (allN)), by decide +kernel⟩
theorem nw_String (hw : HW a0 Z) : NW Z a0 L_String 4 := ⟨okL_String hw, (w_5 hw), (w_6 hw)⟩
abbrev w_141 (hw : HW a0 Z) := hw.at 141 rfl
theorem D24_3 : Dc J24 3 .dup 1 4 := by decide +kernel
theorem D24_4 : Dc J24 4 (.aload_n 0) 1 5 := by decide +kernel
theorem D24_5 : Dc J24 5 (.invokespecial 137) 3 8 := by decide +kernel
abbrev Y25 : MethodName := ⟨"java/lang/String", "<init>", "(Ljava/lang/StringBuilder;)V"⟩
abbrev J25 := jdk_42_method_53_code
abbrev C25 : Cond := .code Y25 J25 2 none
theorem D25_0 : Dc J25 0 (.aload_n 0) 1 1 := by decide +kernel
theorem D25_1 : Dc J25 1 (.aload_n 1) 1 2 := by decide +kernel
theorem D25_2 : Dc J25 2 .aconst_null 1 3 := by decide +kernel
theorem D25_3 : Dc J25 3 (.invokespecial 489) 3 6 := by decide +kernel
abbrev Y26 : MethodName := ⟨"java/lang/String", "<init>", "(Ljava/lang/AbstractStringBuilder;Ljava/lang/Void;)V"⟩
abbrev J26 := jdk_42_method_150_code
abbrev C26 : Cond := .code Y26 J26 5 none
theorem D26_0 : Dc J26 0 (.aload_n 0) 1 1 := by decide +kernel
theorem D26_1 : Dc J26 1 (.invokespecial 1) 3 4 := by decide +kernel
abbrev w_15 (hw : HW a0 Z) := hw.at 15 rfl
theorem D26_4 : Dc J26 4 (.aload_n 1) 1 5 := by decide +kernel
theorem D26_5 : Dc J26 5 (.invokevirtual 552) 3 8 := by decide +kernel
abbrev Y27 : MethodName := ⟨"java/lang/AbstractStringBuilder", "getValue", "()[B"⟩
abbrev J27 := jdk_68_method_64_code
abbrev C27 : Cond := .code Y27 J27 1 (some (.array .byte))
theorem D27_0 : Dc J27 0 (.aload_n 0) 1 1 := by decide +kernel
theorem D27_1 : Dc J27 1 (.getfield 15) 3 4 := by decide +kernel
theorem D27_4 : Dc J27 4 .areturn 1 5 := by decide +kernel
theorem PN27 : plainFor Y27 = true := plainFor_of_name pn_AbstractStringBuilder
theorem R_27_1 {a1 a2 : Addr} {p3 : Int32} (hw : HW a0 Z) (G : Gl Z w_CS w_SF w_DO w_DT w_fO w_fT w_US w_SS) (pr1 : Obj Z h0 a1 L_StringBuilder [.ref a2, .int 0, .int p3]) : Mt false [] l Y27 C27 (rmk 0 0 0 0) #[.ref a1] Z a0 h0 n0 (Pv h0 (.ref a2)) := by
  refine Mt.go PN27 (Or.inl rfl) ef_R_1 fun k => ?_
  replace k := k |>.aloadN D27_0 rfl rfl |>.getF (fl_58 hw) pr1 0 D27_1 rfl rfl
  exact k.retA D27_4 rfl ⟨rfl, rfl⟩
abbrev w_148 (hw : HW a0 Z) := hw.at 148 rfl
abbrev w_152 (hw : HW a0 Z) := hw.at 152 rfl
theorem pd__r_AB : parseMethodDescriptor "()[B" = some ⟨[], some (.array .byte)⟩ := by decide +kernel
abbrev w_151 (hw : HW a0 Z) := hw.at 151 rfl
abbrev w_150 (hw : HW a0 Z) := hw.at 150 rfl
abbrev w_149 (hw : HW a0 Z) := hw.at 149 rfl
theorem V_Y27_27_StringBuilder (hw : HW a0 Z) : VC Z a0 Y27 Y27 "java/lang/StringBuilder" C27 1 (some (.array .byte)) 0 := ⟨(w_149 hw), fun s hZ => notFace_of_selects (args := #[]) (mvT hZ (w_151 hw)), (w_151 hw), (w_150 hw), by decide, rfl, ⟨⟨_, Or.inl rfl⟩, (w_152 hw), (w_54 hw), by decide, _, _, pd__r_AB, rfl⟩⟩
theorem D26_8 : Dc J26 8 (.astore_n 3) 1 9 := by decide +kernel
theorem D26_9 : Dc J26 9 (.aload_n 1) 1 10 := by decide +kernel
theorem D26_10 : Dc J26 10 (.invokevirtual 549) 3 13 := by decide +kernel
abbrev Y28 : MethodName := ⟨"java/lang/StringBuilder", "length", "()I"⟩
abbrev J28 := jdk_67_method_93_code
abbrev C28 : Cond := .code Y28 J28 1 (some .int)
theorem D28_0 : Dc J28 0 (.aload_n 0) 1 1 := by decide +kernel
theorem D28_1 : Dc J28 1 (.invokespecial 343) 3 4 := by decide +kernel
abbrev Y29 : MethodName := ⟨"java/lang/AbstractStringBuilder", "length", "()I"⟩
abbrev J29 := jdk_68_method_6_code
abbrev C29 : Cond := .code Y29 J29 1 (some .int)
theorem D29_0 : Dc J29 0 (.aload_n 0) 1 1 := by decide +kernel
theorem D29_1 : Dc J29 1 (.getfield 79) 3 4 := by decide +kernel
theorem D29_4 : Dc J29 4 .ireturn 1 5 := by decide +kernel
theorem PN29 : plainFor Y29 = true := plainFor_of_name pn_AbstractStringBuilder
theorem R_29_1 {a1 a2 : Addr} {p3 : Int32} (hw : HW a0 Z) (G : Gl Z w_CS w_SF w_DO w_DT w_fO w_fT w_US w_SS) (pr1 : Obj Z h0 a1 L_StringBuilder [.ref a2, .int 0, .int p3]) : Mt false [] l Y29 C29 (rmk 0 0 0 0) #[.ref a1] Z a0 h0 n0 (Pv h0 (.int p3)) := by
  refine Mt.go PN29 (Or.inl rfl) ef_R_1 fun k => ?_
  replace k := k |>.aloadN D29_0 rfl rfl |>.getF (fl_82 hw) pr1 2 D29_1 rfl rfl
  exact k.retI D29_4 rfl ⟨rfl, rfl⟩
abbrev w_159 (hw : HW a0 Z) := hw.at 159 rfl
abbrev w_160 (hw : HW a0 Z) := hw.at 160 rfl
theorem CW29 (hw : HW a0 Z) : CW Z a0 Y29 C29 1 (some .int) 0 := ⟨⟨_, Or.inl rfl⟩, (w_160 hw), (w_54 hw), by decide, _, _, pd__r_I, rfl⟩
abbrev w_154 (hw : HW a0 Z) := hw.at 154 rfl
abbrev w_155 (hw : HW a0 Z) := hw.at 155 rfl
theorem D28_4 : Dc J28 4 .ireturn 1 5 := by decide +kernel
theorem PN28 : plainFor Y28 = true := plainFor_of_name pn_StringBuilder
theorem R_28_1 {a1 a2 : Addr} {p3 : Int32} (hw : HW a0 Z) (G : Gl Z w_CS w_SF w_DO w_DT w_fO w_fT w_US w_SS) (pr1 : Obj Z h0 a1 L_StringBuilder [.ref a2, .int 0, .int p3]) : Mt false [] l Y28 C28 (rmk 1 0 0 12) #[.ref a1] Z a0 h0 n0 (Pv h0 (.int p3)) := by
  refine Mt.go PN28 (Or.inl rfl) ef_R_1 fun k => ?_
  replace k := k |>.aloadN D28_0 rfl rfl
  replace k := (k.callX (w_159 hw) (sameOf (y := Y29) (by decide) (by rfl) (w_154 hw) (w_87 hw)) (w_155 hw) (w_69 hw) (by decide) (CW29 hw) pr1.exa (R_29_1 hw G pr1) D28_1 0 rfl).pv
  exact k.retI D28_4 rfl ⟨rfl, rfl⟩
abbrev w_153 (hw : HW a0 Z) := hw.at 153 rfl
abbrev w_158 (hw : HW a0 Z) := hw.at 158 rfl
abbrev w_156 (hw : HW a0 Z) := hw.at 156 rfl
abbrev w_157 (hw : HW a0 Z) := hw.at 157 rfl
theorem V_Y29_28_StringBuilder (hw : HW a0 Z) : VC Z a0 Y29 Y28 "java/lang/StringBuilder" C28 1 (some .int) 0 := ⟨(w_154 hw), fun s hZ => nfOf (y := Y29) (by rfl) (mvT (args := #[]) hZ (w_87 hw)), (w_156 hw), (w_157 hw), by decide, rfl, ⟨⟨_, Or.inl rfl⟩, (w_158 hw), (w_46 hw), by decide, _, _, pd__r_I, rfl⟩⟩
theorem D26_13 : Dc J26 13 (.istore 4) 2 15 := by decide +kernel
theorem D26_15 : Dc J26 15 (.aload_n 1) 1 16 := by decide +kernel
theorem D26_16 : Dc J26 16 (.invokevirtual 1047) 3 19 := by decide +kernel
abbrev w_161 (hw : HW a0 Z) := hw.at 161 rfl
theorem D26_19 : Dj J26 19 (.ifCond .eq 22) 22 22 41 := by decide +kernel
theorem D26_22 : Dc J26 22 (.aload_n 0) 1 23 := by decide +kernel
theorem D26_23 : Dc J26 23 (.iconst 0) 1 24 := by decide +kernel
theorem D26_24 : Dc J26 24 (.putfield 15) 3 27 := by decide +kernel
theorem fp_25 (hw : HW a0 Z) : FP Z a0 "java/lang/String" 15 "java/lang/String" "coder" "B" := ⟨_, (w_25 hw), Via.refl⟩
theorem pw_String_i_String_coder (hw : HW a0 Z) : PW Z a0 "java/lang/String" "<init>" L_String "java/lang/String" "coder" "B" .byte := ⟨okL_String hw, Or.inr ⟨(w_21 hw), rfl, rfl⟩, ⟨_, (w_5 hw)⟩, by decide +kernel⟩
theorem D26_27 : Dc J26 27 (.aload_n 0) 1 28 := by decide +kernel
theorem D26_28 : Dc J26 28 (.aload_n 3) 1 29 := by decide +kernel
theorem D26_29 : Dc J26 29 (.iconst 0) 1 30 := by decide +kernel
theorem D26_30 : Dc J26 30 (.iload 4) 2 32 := by decide +kernel
theorem D26_32 : Dc J26 32 (.invokestatic 54) 3 35 := by decide +kernel
abbrev Y30 : MethodName := ⟨"java/util/Arrays", "copyOfRange", "([BII)[B"⟩
abbrev J30 := jdk_65_method_132_code
abbrev C30 : Cond := .code Y30 J30 3 (some (.array .byte))
theorem D30_0 : Dc J30 0 (.iload_n 1) 1 1 := by decide +kernel
theorem D30_1 : Dj J30 1 (.ifCond .ne 9) 9 4 10 := by decide +kernel
theorem D30_4 : Dc J30 4 (.iload_n 2) 1 5 := by decide +kernel
theorem D30_5 : Dc J30 5 (.aload_n 0) 1 6 := by decide +kernel
theorem D30_6 : Dc J30 6 .arraylength 1 7 := by decide +kernel
theorem D30_7 : Dj J30 7 (.if_icmp .eq 10) 10 10 17 := by decide +kernel
theorem own_d17 {p1 p2 v0 v1 v2 v3 v4 v5 v6 : Int32} {q1 : Int64} (e0 : v0 = (0 + p1)) (e1 : v1 = (v0 + 7)) (e2 : v2 = (sszL q1)) (e3 : v3 = (v1 + v2)) (e4 : v4 = (v3 - 16)) (e5 : v5 = (v3 + 2)) (e6 : v6 = (v5 + p2)) (hq0 : ¬ (p1 < 0)) (hq1 : p1 < 3) (hq2 : ¬ (p2 < 0)) (hq3 : p2 < 3) (hq4 : 0 < v4) : ¬ (v6 = 34) := by
  have := rng32 p1
  have : (0 : Int32).toInt = 0 := by decide
  have := i_nlt hq0
  have : (3 : Int32).toInt = 3 := by decide
  have := i_lt hq1
  have := rng32 p2
  have := i_nlt hq2
  have := i_lt hq3
  have := e_iaddN e0 (by omega)
  have : (7 : Int32).toInt = 7 := by decide
  have := e_iaddN e1 (by omega)
  have := rng64 q1
  have := e_sszL e2
  have := e_iaddN e3 (by omega)
  have : (16 : Int32).toInt = 16 := by decide
  have := e_isubN e4 (by omega)
  have := i_lt hq4
  have : (2 : Int32).toInt = 2 := by decide
  have := e_iaddN e5 (by omega)
  have := e_iaddN e6 (by omega)
  have : (34 : Int32).toInt = 34 := by decide
  exact o_neq (by omega)
theorem D30_10 : Dc J30 10 (.aload_n 0) 1 11 := by decide +kernel
theorem D30_11 : Dc J30 11 (.iload_n 1) 1 12 := by decide +kernel
theorem D30_12 : Dc J30 12 (.iload_n 2) 1 13 := by decide +kernel
theorem D30_13 : Dc J30 13 (.invokestatic 339) 3 16 := by decide +kernel
abbrev Y31 : MethodName := ⟨"java/util/Arrays", "copyOfRangeByte", "([BII)[B"⟩
abbrev J31 := jdk_65_method_133_code
abbrev C31 : Cond := .code Y31 J31 5 (some (.array .byte))
theorem D31_0 : Dc J31 0 (.iload_n 1) 1 1 := by decide +kernel
theorem D31_1 : Dc J31 1 (.iload_n 2) 1 2 := by decide +kernel
theorem D31_2 : Dc J31 2 (.invokestatic 343) 3 5 := by decide +kernel
abbrev Y32 : MethodName := ⟨"java/util/Arrays", "checkLength", "(II)V"⟩
abbrev J32 := jdk_65_method_131_code
abbrev C32 : Cond := .code Y32 J32 2 none
theorem D32_0 : Dc J32 0 (.iload_n 1) 1 1 := by decide +kernel
theorem D32_1 : Dc J32 1 (.iload_n 0) 1 2 := by decide +kernel
theorem D32_2 : Dj J32 2 (.if_icmp .ge 35) 35 5 37 := by decide +kernel
theorem own_d18 {p1 p2 v0 v1 v2 v3 v4 v5 v6 : Int32} {q1 : Int64} (e0 : v0 = (0 + p1)) (e1 : v1 = (v0 + 7)) (e2 : v2 = (sszL q1)) (e3 : v3 = (v1 + v2)) (e4 : v4 = (v3 - 16)) (e5 : v5 = (v3 + 2)) (e6 : v6 = (v5 + p2)) (hq0 : ¬ (p1 < 0)) (hq1 : p1 < 3) (hq2 : ¬ (p2 < 0)) (hq3 : p2 < 3) (hq4 : 0 < v4) : ¬ (v6 < 0) := by
  have := rng32 p1
  have : (0 : Int32).toInt = 0 := by decide
  have := i_nlt hq0
  have : (3 : Int32).toInt = 3 := by decide
  have := i_lt hq1
  have := rng32 p2
  have := i_nlt hq2
  have := i_lt hq3
  have := e_iaddN e0 (by omega)
  have : (7 : Int32).toInt = 7 := by decide
  have := e_iaddN e1 (by omega)
  have := rng64 q1
  have := e_sszL e2
  have := e_iaddN e3 (by omega)
  have : (16 : Int32).toInt = 16 := by decide
  have := e_isubN e4 (by omega)
  have := i_lt hq4
  have : (2 : Int32).toInt = 2 := by decide
  have := e_iaddN e5 (by omega)
  have := e_iaddN e6 (by omega)
  exact o_nlt (by omega)
theorem D32_37 : Dc J32 37 .return_ 1 38 := by decide +kernel
theorem PN32 : plainFor Y32 = true := plainFor_of_name pn_Arrays
theorem R_32_1 {p1 : Int32} (hw : HW a0 Z) (G : Gl Z w_CS w_SF w_DO w_DT w_fO w_fT w_US w_SS) (pr1 : ¬ (p1 < 0)) : Mt false [] l Y32 C32 (rmk 0 0 0 0) #[.int 0, .int p1] Z a0 h0 n0 (P0 h0) := by
  refine Mt.go PN32 (Or.inl rfl) ef_II_2 fun k => ?_
  replace k := k |>.iloadN D32_0 rfl |>.iloadN D32_1 rfl |>.icmpYes D32_2 (flt pr1).2.1
  exact k.ret0 D32_37 rfl ⟨rfl, rfl⟩
abbrev w_169 (hw : HW a0 Z) := hw.at 169 rfl
abbrev w_171 (hw : HW a0 Z) := hw.at 171 rfl
theorem pd_II_r_V : parseMethodDescriptor "(II)V" = some ⟨[.int, .int], none⟩ := by decide +kernel
abbrev w_170 (hw : HW a0 Z) := hw.at 170 rfl
theorem S32 (hw : HW a0 Z) : SC Z a0 Y32 C32 2 none 2 := ⟨(w_170 hw), ⟨⟨_, Or.inl rfl⟩, (w_171 hw), (w_164 hw), by decide, _, _, pd_II_r_V, rfl⟩⟩
theorem D31_5 : Dc J31 5 (.iload_n 2) 1 6 := by decide +kernel
theorem D31_6 : Dc J31 6 (.iload_n 1) 1 7 := by decide +kernel
theorem D31_7 : Dc J31 7 .isub 1 8 := by decide +kernel
theorem D31_8 : Dc J31 8 (.istore_n 3) 1 9 := by decide +kernel
theorem D31_9 : Dc J31 9 (.iload_n 3) 1 10 := by decide +kernel
theorem D31_10 : Dc J31 10 (.newarray .byte) 2 12 := by decide +kernel
theorem own_d19 {p1 p2 v0 v1 v2 v3 v4 v5 v6 v7 : Int32} {q1 : Int64} (e0 : v0 = (0 + p1)) (e1 : v1 = (v0 + 7)) (e2 : v2 = (sszL q1)) (e3 : v3 = (v1 + v2)) (e4 : v4 = (v3 - 16)) (e5 : v5 = (v3 + 2)) (e6 : v6 = (v5 + p2)) (e7 : v7 = (v6 - 0)) (hq0 : ¬ (p1 < 0)) (hq1 : p1 < 3) (hq2 : ¬ (p2 < 0)) (hq3 : p2 < 3) (hq4 : 0 < v4) : ¬ (v7 < 0) := by
  have := rng32 p1
  have : (0 : Int32).toInt = 0 := by decide
  have := i_nlt hq0
  have : (3 : Int32).toInt = 3 := by decide
  have := i_lt hq1
  have := rng32 p2
  have := i_nlt hq2
  have := i_lt hq3
  have := e_iaddN e0 (by omega)
  have : (7 : Int32).toInt = 7 := by decide
  have := e_iaddN e1 (by omega)
  have := rng64 q1
  have := e_sszL e2
  have := e_iaddN e3 (by omega)
  have : (16 : Int32).toInt = 16 := by decide
  have := e_isubN e4 (by omega)
  have := i_lt hq4
  have : (2 : Int32).toInt = 2 := by decide
  have := e_iaddN e5 (by omega)
  have := e_iaddN e6 (by omega)
  have := e_isubN e7 (by omega)
  exact o_nlt (by omega)
theorem own_d20 {p1 p2 v0 v1 v2 v3 v4 v5 v6 v7 : Int32} {q1 : Int64} (e0 : v0 = (0 + p1)) (e1 : v1 = (v0 + 7)) (e2 : v2 = (sszL q1)) (e3 : v3 = (v1 + v2)) (e4 : v4 = (v3 - 16)) (e5 : v5 = (v3 + 2)) (e6 : v6 = (v5 + p2)) (e7 : v7 = (v6 - 0)) (hq0 : ¬ (p1 < 0)) (hq1 : p1 < 3) (hq2 : ¬ (p2 < 0)) (hq3 : p2 < 3) (hq4 : 0 < v4) : v7.toNatClampNeg ≤ 80 := by
  have := rng32 p1
  have : (0 : Int32).toInt = 0 := by decide
  have := i_nlt hq0
  have : (3 : Int32).toInt = 3 := by decide
  have := i_lt hq1
  have := rng32 p2
  have := i_nlt hq2
  have := i_lt hq3
  have := e_iaddN e0 (by omega)
  have : (7 : Int32).toInt = 7 := by decide
  have := e_iaddN e1 (by omega)
  have := rng64 q1
  have := e_sszL e2
  have := e_iaddN e3 (by omega)
  have : (16 : Int32).toInt = 16 := by decide
  have := e_isubN e4 (by omega)
  have := i_lt hq4
  have : (2 : Int32).toInt = 2 := by decide
  have := e_iaddN e5 (by omega)
  have := e_iaddN e6 (by omega)
  have := e_isubN e7 (by omega)
  have : (80 : Int32).toInt = 80 := by decide
  simp only [clampNat]
  omega
theorem D31_12 : Dc J31 12 (.astore 4) 2 14 := by decide +kernel
theorem D31_14 : Dc J31 14 (.aload_n 0) 1 15 := by decide +kernel
theorem D31_15 : Dc J31 15 (.iload_n 1) 1 16 := by decide +kernel
theorem D31_16 : Dc J31 16 (.aload 4) 2 18 := by decide +kernel
theorem D31_18 : Dc J31 18 (.iconst 0) 1 19 := by decide +kernel
theorem D31_19 : Dc J31 19 (.aload_n 0) 1 20 := by decide +kernel
theorem D31_20 : Dc J31 20 .arraylength 1 21 := by decide +kernel
theorem D31_21 : Dc J31 21 (.iload_n 1) 1 22 := by decide +kernel
theorem D31_22 : Dc J31 22 .isub 1 23 := by decide +kernel
theorem D31_23 : Dc J31 23 (.iload_n 3) 1 24 := by decide +kernel
theorem D31_24 : Dc J31 24 (.invokestatic 304) 3 27 := by decide +kernel
theorem own_d21 {p1 p2 v0 v1 v2 v3 v4 v5 v6 v7 : Int32} {q1 : Int64} (e0 : v0 = (0 + p1)) (e1 : v1 = (v0 + 7)) (e2 : v2 = (sszL q1)) (e3 : v3 = (v1 + v2)) (e4 : v4 = (v3 - 16)) (e5 : v5 = (v3 + 2)) (e6 : v6 = (v5 + p2)) (e7 : v7 = (v6 - 0)) (hq0 : ¬ (p1 < 0)) (hq1 : p1 < 3) (hq2 : ¬ (p2 < 0)) (hq3 : p2 < 3) (hq4 : 0 < v4) : v7 < 34 := by
  have := rng32 p1
  have : (0 : Int32).toInt = 0 := by decide
  have := i_nlt hq0
  have : (3 : Int32).toInt = 3 := by decide
  have := i_lt hq1
  have := rng32 p2
  have := i_nlt hq2
  have := i_lt hq3
  have := e_iaddN e0 (by omega)
  have : (7 : Int32).toInt = 7 := by decide
  have := e_iaddN e1 (by omega)
  have := rng64 q1
  have := e_sszL e2
  have := e_iaddN e3 (by omega)
  have : (16 : Int32).toInt = 16 := by decide
  have := e_isubN e4 (by omega)
  have := i_lt hq4
  have : (2 : Int32).toInt = 2 := by decide
  have := e_iaddN e5 (by omega)
  have := e_iaddN e6 (by omega)
  have := e_isubN e7 (by omega)
  have : (34 : Int32).toInt = 34 := by decide
  exact o_lt (by omega)
theorem D22_9 : Dc J22 9 (.iload_n 1) 1 10 := by decide +kernel
theorem R_22_2 {p1 p2 : Int32} (hw : HW a0 Z) (G : Gl Z w_CS w_SF w_DO w_DT w_fO w_fT w_US w_SS) (pr1 : p2 < p1) : Mt false [] l Y22 C22 (rmk 0 0 0 0) #[.int p1, .int p2] Z a0 h0 n0 (Pv h0 (.int p2)) := by
  refine Mt.go PN22 (Or.inl rfl) ef_II_2 fun k => ?_
  replace k := k |>.iloadN D22_0 rfl |>.iloadN D22_1 rfl |>.icmpYes D22_2 (tlt pr1).2.2.1 |>.iloadN D22_9 rfl
  exact k.retI D22_10 rfl ⟨rfl, rfl⟩
theorem D31_27 : Dc J31 27 (.invokestatic 150) 3 30 := by decide +kernel
theorem own_d22 {p1 p2 v0 v1 v2 v3 v4 v5 v6 v7 : Int32} {q1 : Int64} (e0 : v0 = (0 + p1)) (e1 : v1 = (v0 + 7)) (e2 : v2 = (sszL q1)) (e3 : v3 = (v1 + v2)) (e4 : v4 = (v3 - 16)) (e5 : v5 = (v3 + 2)) (e6 : v6 = (v5 + p2)) (e7 : v7 = (v6 - 0)) (hq0 : ¬ (p1 < 0)) (hq1 : p1 < 3) (hq2 : ¬ (p2 < 0)) (hq3 : p2 < 3) (hq4 : 0 < v4) : 0 + v7.toNatClampNeg ≤ 34 := by
  have := rng32 p1
  have : (0 : Int32).toInt = 0 := by decide
  have := i_nlt hq0
  have : (3 : Int32).toInt = 3 := by decide
  have := i_lt hq1
  have := rng32 p2
  have := i_nlt hq2
  have := i_lt hq3
  have := e_iaddN e0 (by omega)
  have : (7 : Int32).toInt = 7 := by decide
  have := e_iaddN e1 (by omega)
  have := rng64 q1
  have := e_sszL e2
  have := e_iaddN e3 (by omega)
  have : (16 : Int32).toInt = 16 := by decide
  have := e_isubN e4 (by omega)
  have := i_lt hq4
  have : (2 : Int32).toInt = 2 := by decide
  have := e_iaddN e5 (by omega)
  have := e_iaddN e6 (by omega)
  have := e_isubN e7 (by omega)
  have : (34 : Int32).toInt = 34 := by decide
  simp only [clampNat]
  omega
theorem own_d23 {p1 p2 v0 v1 v2 v3 v4 v5 v6 v7 : Int32} {q1 : Int64} (e0 : v0 = (0 + p1)) (e1 : v1 = (v0 + 7)) (e2 : v2 = (sszL q1)) (e3 : v3 = (v1 + v2)) (e4 : v4 = (v3 - 16)) (e5 : v5 = (v3 + 2)) (e6 : v6 = (v5 + p2)) (e7 : v7 = (v6 - 0)) (hq0 : ¬ (p1 < 0)) (hq1 : p1 < 3) (hq2 : ¬ (p2 < 0)) (hq3 : p2 < 3) (hq4 : 0 < v4) : 0 + v7.toNatClampNeg ≤ v7.toNatClampNeg := by
  have := rng32 p1
  have : (0 : Int32).toInt = 0 := by decide
  have := i_nlt hq0
  have : (3 : Int32).toInt = 3 := by decide
  have := i_lt hq1
  have := rng32 p2
  have := i_nlt hq2
  have := i_lt hq3
  have := e_iaddN e0 (by omega)
  have : (7 : Int32).toInt = 7 := by decide
  have := e_iaddN e1 (by omega)
  have := rng64 q1
  have := e_sszL e2
  have := e_iaddN e3 (by omega)
  have : (16 : Int32).toInt = 16 := by decide
  have := e_isubN e4 (by omega)
  have := i_lt hq4
  have : (2 : Int32).toInt = 2 := by decide
  have := e_iaddN e5 (by omega)
  have := e_iaddN e6 (by omega)
  have := e_isubN e7 (by omega)
  simp only [clampNat]
  omega
theorem D31_30 : Dc J31 30 (.aload 4) 2 32 := by decide +kernel
theorem D31_32 : Dc J31 32 .areturn 1 33 := by decide +kernel
theorem PN31 : plainFor Y31 = true := plainFor_of_name pn_Arrays
theorem ef_RII_5 {x0 : Addr} {x1 : Int32} {x2 : Int32}  (m : MethodId) : entryFrame m #[(.ref x0), (.int x1), (.int x2)] 5 = mkF m 0 #[.val (.ref x0), .val (.int x1), .val (.int x2), .unset, .unset] [] := by
  first | (simp [entryFrame, mkF, argsToLocals, Value.category]; done) | rfl
theorem R_31_1 {a1 : Addr} {p2 : Int32} {f3 : Nat → Int32} (hw : HW a0 Z) (G : Gl Z w_CS w_SF w_DO w_DT w_fO w_fT w_US w_SS) (pr1 : ¬ (p2 < 0)) (pr2 : ¬ ((p2 - 0) < 0)) (pr3 : (p2 - 0).toNatClampNeg ≤ 80) (pr4 : Ary Z h0 a1 ATB 34 (bv f3)) (pr5 : (p2 - 0) < 34) (pr6 : 0 + (p2 - 0).toNatClampNeg ≤ 34) (pr7 : 0 + (p2 - 0).toNatClampNeg ≤ (p2 - 0).toNatClampNeg) : Mt false [] l Y31 C31 (rmk 1 1 80 18) #[.ref a1, .int 0, .int p2] Z a0 h0 n0 (KpV h0 [] fun v h => ∃ u1 : Addr, v = (.ref u1) ∧ h0.size ≤ u1 ∧ Ary Z h u1 ATB (p2 - 0).toNatClampNeg (bv (cpyi f3 (fun _ => 0) 0 0 (p2 - 0).toNatClampNeg))) := by
  refine Mt.go PN31 (Or.inl rfl) ef_RII_5 fun k => ?_
  have nz := k.n0le
  replace k := k |>.iloadN D31_0 rfl |>.iloadN D31_1 rfl
  replace k := (k.callS (w_169 hw) (S32 hw) (R_32_1 hw G pr1) D31_2 0 rfl).p0
  replace k := k |>.iloadN D31_5 rfl |>.iloadN D31_6 rfl |>.isub D31_7 rfl |>.istoreN D31_8 sto3 |>.iloadN D31_9 rfl
  have z2 := k.sz
  obtain ⟨b2, h2, g2, K2, O2, k⟩ := k.newP (aty := .byte) "[B" (w_19 hw) (by decide) D31_10 80 pr2 (n := (p2 - 0).toNatClampNeg) rfl pr3 (by decide) bv_zero
  replace k := k |>.astore D31_12 rfl sto4 |>.aloadN D31_14 rfl rfl |>.iloadN D31_15 rfl |>.aload D31_16 rfl rfl |>.iconst D31_18 0 |>.aloadN D31_19 rfl rfl
  have o3 := pr4.keep K2 nin0
  replace k := k |>.alen o3 D31_20 (z := 34) (by decide) |>.iloadN D31_21 rfl |>.isub D31_22 (z := 34) |>.iloadN D31_23 rfl
  replace k := (k.callS (w_172 hw) (S22 hw) (R_22_2 hw G pr5 (p1 := 34)) D31_24 4 rfl).pv
  have s_b2 := Nat.le_trans z2 g2
  have n_b2 := Nat.le_trans nz s_b2
  obtain ⟨h5, K5, O5, k⟩ := k.acopy (w_176 hw) (w_108 hw) (w_106 hw) (w_107 hw) o3 O2 ⟨rfl, rfl⟩ (sp' := 0) (by decide) (dp' := 0) (by decide) (nn' := (p2 - 0).toNatClampNeg) (nnS pr2) pr6 pr7 bv_cpy n_b2 D31_27 0
  replace k := k |>.aload D31_30 rfl rfl
  exact k.retA D31_32 rfl ⟨_, rfl, (K2.trans K5 (allS (Or.inr s_b2) all0)), b2, rfl, s_b2, O5⟩
abbrev w_166 (hw : HW a0 Z) := hw.at 166 rfl
abbrev w_168 (hw : HW a0 Z) := hw.at 168 rfl
theorem pd_ABII_r_AB : parseMethodDescriptor "([BII)[B" = some ⟨[(.array .byte), .int, .int], some (.array .byte)⟩ := by decide +kernel
abbrev w_167 (hw : HW a0 Z) := hw.at 167 rfl
theorem S31 (hw : HW a0 Z) : SC Z a0 Y31 C31 5 (some (.array .byte)) 3 := ⟨(w_167 hw), ⟨⟨_, Or.inl rfl⟩, (w_168 hw), (w_164 hw), by decide, _, _, pd_ABII_r_AB, rfl⟩⟩
theorem D30_16 : Dc J30 16 .areturn 1 17 := by decide +kernel
theorem PN30 : plainFor Y30 = true := plainFor_of_name pn_Arrays
theorem ef_RII_3 {x0 : Addr} {x1 : Int32} {x2 : Int32}  (m : MethodId) : entryFrame m #[(.ref x0), (.int x1), (.int x2)] 3 = mkF m 0 #[.val (.ref x0), .val (.int x1), .val (.int x2)] [] := by
  first | (simp [entryFrame, mkF, argsToLocals, Value.category]; done) | rfl
theorem R_30_1 {a1 : Addr} {p2 : Int32} {f3 : Nat → Int32} (hw : HW a0 Z) (G : Gl Z w_CS w_SF w_DO w_DT w_fO w_fT w_US w_SS) (pr1 : Ary Z h0 a1 ATB 34 (bv f3)) (pr2 : ¬ (p2 = 34)) (pr3 : ¬ (p2 < 0)) (pr4 : ¬ ((p2 - 0) < 0)) (pr5 : (p2 - 0).toNatClampNeg ≤ 80) (pr6 : (p2 - 0) < 34) (pr7 : 0 + (p2 - 0).toNatClampNeg ≤ 34) (pr8 : 0 + (p2 - 0).toNatClampNeg ≤ (p2 - 0).toNatClampNeg) : Mt false [] l Y30 C30 (rmk 2 1 80 34) #[.ref a1, .int 0, .int p2] Z a0 h0 n0 (KpV h0 [] fun v h => ∃ u1 : Addr, v = (.ref u1) ∧ h0.size ≤ u1 ∧ Ary Z h u1 ATB (p2 - 0).toNatClampNeg (bv (cpyi f3 (fun _ => 0) 0 0 (p2 - 0).toNatClampNeg))) := by
  refine Mt.go PN30 (Or.inl rfl) ef_RII_3 fun k => ?_
  replace k := k |>.iloadN D30_0 rfl |>.ifNo D30_1  |>.iloadN D30_4 rfl |>.aloadN D30_5 rfl rfl |>.alen pr1 D30_6 (z := 34) (by decide) |>.icmpNo D30_7 (feq pr2).1 |>.aloadN D30_10 rfl rfl |>.iloadN D30_11 rfl |>.iloadN D30_12 rfl
  have z1 := k.sz
  obtain ⟨_, h1, K1, ⟨u1_1, rfl, f1_0, f1_1⟩, k⟩ := (k.callS (w_166 hw) (S31 hw) (R_31_1 hw G pr3 pr4 pr5 pr1 pr6 pr7 pr8) D30_13 0 rfl).kv
  have s_u1_1 := Nat.le_trans z1 f1_0
  exact k.retA D30_16 rfl ⟨_, rfl, K1, u1_1, rfl, s_u1_1, f1_1⟩
abbrev w_162 (hw : HW a0 Z) := hw.at 162 rfl
abbrev w_165 (hw : HW a0 Z) := hw.at 165 rfl
abbrev w_163 (hw : HW a0 Z) := hw.at 163 rfl
theorem S30 (hw : HW a0 Z) : SC Z a0 Y30 C30 3 (some (.array .byte)) 3 := ⟨(w_163 hw), ⟨⟨_, Or.inl rfl⟩, (w_165 hw), (w_164 hw), by decide, _, _, pd_ABII_r_AB, rfl⟩⟩
theorem D26_35 : Dc J26 35 (.putfield 9) 3 38 := by decide +kernel
theorem pw_String_i_String_value (hw : HW a0 Z) : PW Z a0 "java/lang/String" "<init>" L_String "java/lang/String" "value" "[B" (.array .byte) := ⟨okL_String hw, Or.inr ⟨(w_20 hw), rfl, rfl⟩, ⟨_, (w_5 hw)⟩, by decide +kernel⟩
theorem D26_38 : Dj J26 38 (.goto 59) 59 41 97 := by decide +kernel
theorem D26_97 : Dc J26 97 .return_ 1 98 := by decide +kernel
theorem PN26 : plainFor Y26 = true := plainFor_of_name pn_String
theorem ef_RRN_5 {x0 : Addr} {x1 : Addr}  (m : MethodId) : entryFrame m #[(.ref x0), (.ref x1), .null] 5 = mkF m 0 #[.val (.ref x0), .val (.ref x1), .val .null, .unset, .unset] [] := by
  first | (simp [entryFrame, mkF, argsToLocals, Value.category]; done) | rfl
theorem R_26_1 {a1 a2 a3 : Addr} {p4 : Int32} {f5 : Nat → Int32} (hw : HW a0 Z) (G : Gl Z w_CS w_SF w_DO w_DT w_fO w_fT w_US w_SS) (pr1 : Obj Z h0 a2 L_StringBuilder [.ref a3, .int 0, .int p4]) (pr2 : Obj Z h0 a1 L_String [.null, .int 0]) (pr3 : n0 ≤ a1) (pr4 : Ary Z h0 a3 ATB 34 (bv f5)) (pr5 : ¬ (p4 = 34)) (pr6 : ¬ (p4 < 0)) (pr7 : ¬ ((p4 - 0) < 0)) (pr8 : (p4 - 0).toNatClampNeg ≤ 80) (pr9 : (p4 - 0) < 34) (pr10 : 0 + (p4 - 0).toNatClampNeg ≤ 34) (pr11 : 0 + (p4 - 0).toNatClampNeg ≤ (p4 - 0).toNatClampNeg) (pr12 : a3 ≠ a1) : Mt false [] l Y26 C26 (rmk 3 1 80 49) #[.ref a1, .ref a2, .null] Z a0 h0 n0 (K0 h0 [a1] fun h => ∃ u1 : Addr, h0.size ≤ u1 ∧ Obj Z h a1 L_String [.ref u1, .int 0] ∧ Ary Z h u1 ATB (p4 - 0).toNatClampNeg (bv (cpyi f5 (fun _ => 0) 0 0 (p4 - 0).toNatClampNeg))) := by
  refine Mt.go PN26 (Or.inl rfl) ef_RRN_5 fun k => ?_
  replace k := k |>.aloadN D26_0 rfl rfl |>.initO (w_15 hw) (w_16 hw) (w_17 hw) D26_1 0 |>.aloadN D26_4 rfl rfl
  replace k := (k.callV (w_148 hw) (V_Y27_27_StringBuilder hw) pr1.exa (R_27_1 hw G pr1) D26_5 0 rfl).pv
  replace k := k |>.astoreN D26_8 rfl sto3 |>.aloadN D26_9 rfl rfl
  replace k := (k.callV (w_153 hw) (V_Y29_28_StringBuilder hw) pr1.exa (R_28_1 hw G pr1) D26_10 0 rfl).pv
  replace k := k |>.istore D26_13 sto4 |>.aloadN D26_15 rfl rfl
  replace k := (k.callV (w_161 hw) (V_Y23_23_StringBuilder hw) pr1.exa (R_23_1 hw G pr1) D26_16 0 rfl).pv
  replace k := k |>.ifNo D26_19  |>.aloadN D26_22 rfl rfl |>.iconst D26_23 0
  obtain ⟨h4, K4, O4, k⟩ := k.putN (fp_25 hw) (pw_String_i_String_coder hw) pr2 1 pr3 (Or.inl rfl) D26_24 rfl (v' := (.int 0)) (by decide) (by decide) ls1
  replace k := k |>.aloadN D26_27 rfl rfl |>.aloadN D26_28 rfl rfl |>.iconst D26_29 0 |>.iload D26_30 rfl
  have o6 := pr4.keep K4 (ninS pr12 nin0)
  have z5 := k.sz
  obtain ⟨_, h5, K5, ⟨u1_5, rfl, f5_0, f5_1⟩, k⟩ := (k.callS (w_162 hw) (S30 hw) (R_30_1 hw G o6 pr5 pr6 pr7 pr8 pr9 pr10 pr11) D26_32 1 rfl).kv
  have o7 := O4.keep K5 nin0
  obtain ⟨h8, K8, O8, k⟩ := k.putF (fl_24 hw) (pw_String_i_String_value hw) o7 0 pr3 (Or.inl rfl) D26_35 rfl rfl rfl ls0
  replace k := k |>.goto D26_38
  have s_u1_5 := Nat.le_trans z5 f5_0
  have o9 := f5_1.keep K8 (ninS (nlt' pr2.lt s_u1_5) nin0)
  exact k.ret0 D26_97 rfl ⟨rfl, ((K4.trans K5 all0).trans K8 (allS (Or.inl (List.mem_of_getElem? (i := 0) rfl)) all0)), u1_5, s_u1_5, O8, o9⟩
abbrev w_145 (hw : HW a0 Z) := hw.at 145 rfl
abbrev w_147 (hw : HW a0 Z) := hw.at 147 rfl
theorem pd_Ljava_lang_AbstractStringBuilderLjava_lang_Void_r_V : parseMethodDescriptor "(Ljava/lang/AbstractStringBuilder;Ljava/lang/Void;)V" = some ⟨[(.object "java/lang/AbstractStringBuilder"), (.object "java/lang/Void")], none⟩ := by decide +kernel
abbrev w_146 (hw : HW a0 Z) := hw.at 146 rfl
theorem I26 (hw : HW a0 Z) : IC Z a0 Y26 C26 5 2 := ⟨(w_146 hw), rfl, ⟨⟨_, Or.inl rfl⟩, (w_147 hw), (w_6 hw), by decide, _, _, pd_Ljava_lang_AbstractStringBuilderLjava_lang_Void_r_V, rfl⟩⟩
theorem D25_6 : Dc J25 6 .return_ 1 7 := by decide +kernel
theorem PN25 : plainFor Y25 = true := plainFor_of_name pn_String
theorem R_25_1 {a1 a2 a3 : Addr} {p4 : Int32} {f5 : Nat → Int32} (hw : HW a0 Z) (G : Gl Z w_CS w_SF w_DO w_DT w_fO w_fT w_US w_SS) (pr1 : Obj Z h0 a2 L_StringBuilder [.ref a3, .int 0, .int p4]) (pr2 : Obj Z h0 a1 L_String [.null, .int 0]) (pr3 : n0 ≤ a1) (pr4 : Ary Z h0 a3 ATB 34 (bv f5)) (pr5 : ¬ (p4 = 34)) (pr6 : ¬ (p4 < 0)) (pr7 : ¬ ((p4 - 0) < 0)) (pr8 : (p4 - 0).toNatClampNeg ≤ 80) (pr9 : (p4 - 0) < 34) (pr10 : 0 + (p4 - 0).toNatClampNeg ≤ 34) (pr11 : 0 + (p4 - 0).toNatClampNeg ≤ (p4 - 0).toNatClampNeg) (pr12 : a3 ≠ a1) : Mt false [] l Y25 C25 (rmk 4 1 80 65) #[.ref a1, .ref a2] Z a0 h0 n0 (K0 h0 [a1] fun h => ∃ u1 : Addr, h0.size ≤ u1 ∧ Obj Z h a1 L_String [.ref u1, .int 0] ∧ Ary Z h u1 ATB (p4 - 0).toNatClampNeg (bv (cpyi f5 (fun _ => 0) 0 0 (p4 - 0).toNatClampNeg))) := by
  refine Mt.go PN25 (Or.inl rfl) ef_RR_2 fun k => ?_
  replace k := k |>.aloadN D25_0 rfl rfl |>.aloadN D25_1 rfl rfl |>.aconstNull D25_2
  have z1 := k.sz
  obtain ⟨h1, K1, ⟨u1_1, f1_0, f1_1, f1_2⟩, k⟩ := (k.callI (w_145 hw) (I26 hw) (R_26_1 hw G pr1 pr2 pr3 pr4 pr5 pr6 pr7 pr8 pr9 pr10 pr11 pr12) D25_3 0 rfl).k0 (allS pr3 all0)
  have s_u1_1 := Nat.le_trans z1 f1_0
  exact k.ret0 D25_6 rfl ⟨rfl, K1, u1_1, s_u1_1, f1_1, f1_2⟩
abbrev w_142 (hw : HW a0 Z) := hw.at 142 rfl
abbrev w_144 (hw : HW a0 Z) := hw.at 144 rfl
theorem pd_Ljava_lang_StringBuilder_r_V : parseMethodDescriptor "(Ljava/lang/StringBuilder;)V" = some ⟨[(.object "java/lang/StringBuilder")], none⟩ := by decide +kernel
abbrev w_143 (hw : HW a0 Z) := hw.at 143 rfl
theorem I25 (hw : HW a0 Z) : IC Z a0 Y25 C25 2 1 := ⟨(w_143 hw), rfl, ⟨⟨_, Or.inl rfl⟩, (w_144 hw), (w_6 hw), by decide, _, _, pd_Ljava_lang_StringBuilder_r_V, rfl⟩⟩
theorem D24_8 : Dc J24 8 .areturn 1 9 := by decide +kernel
theorem PN24 : plainFor Y24 = true := plainFor_of_name pn_StringBuilder
theorem R_24_1 {a1 a2 : Addr} {p3 : Int32} {f4 : Nat → Int32} (hw : HW a0 Z) (G : Gl Z w_CS w_SF w_DO w_DT w_fO w_fT w_US w_SS) (pr1 : Obj Z h0 a1 L_StringBuilder [.ref a2, .int 0, .int p3]) (pr2 : Ary Z h0 a2 ATB 34 (bv f4)) (pr3 : ¬ (p3 = 34)) (pr4 : ¬ (p3 < 0)) (pr5 : ¬ ((p3 - 0) < 0)) (pr6 : (p3 - 0).toNatClampNeg ≤ 80) (pr7 : (p3 - 0) < 34) (pr8 : 0 + (p3 - 0).toNatClampNeg ≤ 34) (pr9 : 0 + (p3 - 0).toNatClampNeg ≤ (p3 - 0).toNatClampNeg) : Mt false [] l Y24 C24 (rmk 5 2 84 79) #[.ref a1] Z a0 h0 n0 (KpV h0 [] fun v h => ∃ u1 u2 : Addr, v = (.ref u1) ∧ h0.size ≤ u1 ∧ h0.size ≤ u2 ∧ u2 ≠ u1 ∧ Obj Z h u1 L_String [.ref u2, .int 0] ∧ Ary Z h u2 ATB (p3 - 0).toNatClampNeg (bv (cpyi f4 (fun _ => 0) 0 0 (p3 - 0).toNatClampNeg))) := by
  refine Mt.go PN24 (Or.inl rfl) ef_R_1 fun k => ?_
  have nz := k.n0le
  have z1 := k.sz
  obtain ⟨b1, h1, g1, K1, O1, k⟩ := k.new (L := L_String) (w_141 hw) (nw_String hw) D24_0 (by decide) dvL_String
  replace k := k |>.dup D24_3 rfl |>.aloadN D24_4 rfl rfl
  have s_b1 := Nat.le_trans z1 g1
  have n_b1 := Nat.le_trans nz s_b1
  have o3 := pr1.keep K1 nin0
  have o4 := pr2.keep K1 nin0
  have z2 := k.sz
  obtain ⟨h2, K2, ⟨u1_2, f2_0, f2_1, f2_2⟩, k⟩ := (k.callI (w_142 hw) (I25 hw) (R_25_1 hw G o3 O1 n_b1 o4 pr3 pr4 pr5 pr6 pr7 pr8 pr9 (nlt pr2.lt s_b1)) D24_5 1 rfl).k0 (allS n_b1 all0)
  have s_u1_2 := Nat.le_trans z2 f2_0
  exact k.retA D24_8 rfl ⟨_, rfl, (K1.trans K2 (allS (Or.inr s_b1) all0)), b1, u1_2, rfl, s_b1, s_u1_2, (nlt' O1.lt f2_0), f2_1, f2_2⟩
abbrev w_136 (hw : HW a0 Z) := hw.at 136 rfl
abbrev w_140 (hw : HW a0 Z) := hw.at 140 rfl
theorem pd__r_Ljava_lang_String : parseMethodDescriptor "()Ljava/lang/String;" = some ⟨[], some (.object "java/lang/String")⟩ := by decide +kernel
abbrev w_139 (hw : HW a0 Z) := hw.at 139 rfl
abbrev w_138 (hw : HW a0 Z) := hw.at 138 rfl
abbrev w_137 (hw : HW a0 Z) := hw.at 137 rfl
theorem V_Y24_24_StringBuilder (hw : HW a0 Z) : VC Z a0 Y24 Y24 "java/lang/StringBuilder" C24 1 (some (.object "java/lang/String")) 0 := ⟨(w_137 hw), fun s hZ => notFace_of_selects (args := #[]) (mvT hZ (w_139 hw)), (w_139 hw), (w_138 hw), by decide, rfl, ⟨⟨_, Or.inl rfl⟩, (w_140 hw), (w_46 hw), by decide, _, _, pd__r_Ljava_lang_String, rfl⟩⟩
theorem D7_36 : Dc J7 36 (.invokespecial 122) 3 39 := by decide +kernel
abbrev w_177 (hw : HW a0 Z) := hw.at 177 rfl
abbrev w_179 (hw : HW a0 Z) := hw.at 179 rfl
abbrev w_178 (hw : HW a0 Z) := hw.at 178 rfl
theorem I2 (hw : HW a0 Z) : IC Z a0 Y2 C2 2 1 := ⟨(w_178 hw), rfl, ⟨⟨_, Or.inl rfl⟩, (w_179 hw), (w_43 hw), by decide, _, _, pd_Ljava_lang_String_r_V, rfl⟩⟩
theorem D7_39 : Dc J7 39 .areturn 1 40 := by decide +kernel
theorem own_d24 {p1 v0 v1 v2 v3 v4 : Int32} {q1 : Int64} (e0 : v0 = (0 + p1)) (e1 : v1 = (v0 + 7)) (e2 : v2 = (sszL q1)) (e3 : v3 = (v1 + v2)) (e4 : v4 = (v3 - 16)) (hq0 : ¬ (p1 < 0)) (hq1 : p1 < 3) (hq2 : ¬ (0 < v4)) : ¬ (v3 < v2) := by
  have := rng32 p1
  have : (0 : Int32).toInt = 0 := by decide
  have := i_nlt hq0
  have : (3 : Int32).toInt = 3 := by decide
  have := i_lt hq1
  have := e_iaddN e0 (by omega)
  have : (7 : Int32).toInt = 7 := by decide
  have := e_iaddN e1 (by omega)
  have := rng64 q1
  have := e_sszL e2
  have := e_iaddN e3 (by omega)
  have : (16 : Int32).toInt = 16 := by decide
  have := e_isubN e4 (by omega)
  have := i_nlt hq2
  exact o_nlt (by omega)
theorem own_d25 {p1 v0 v1 v2 v3 v4 : Int32} {q1 : Int64} (e0 : v0 = (0 + p1)) (e1 : v1 = (v0 + 7)) (e2 : v2 = (sszL q1)) (e3 : v3 = (v1 + v2)) (e4 : v4 = (v3 - 16)) (hq0 : ¬ (p1 < 0)) (hq1 : p1 < 3) (hq2 : ¬ (0 < v4)) : ¬ (16 < v3) := by
  have := rng32 p1
  have : (0 : Int32).toInt = 0 := by decide
  have := i_nlt hq0
  have : (3 : Int32).toInt = 3 := by decide
  have := i_lt hq1
  have := e_iaddN e0 (by omega)
  have : (7 : Int32).toInt = 7 := by decide
  have := e_iaddN e1 (by omega)
  have := rng64 q1
  have := e_sszL e2
  have := e_iaddN e3 (by omega)
  have : (16 : Int32).toInt = 16 := by decide
  have := e_isubN e4 (by omega)
  have := i_nlt hq2
  exact o_nlt (by omega)
theorem R_17_3 {a1 a3 : Addr} {q2 : Int64} {p4 : Int32} {f5 : Nat → Int32} (hw : HW a0 Z) (G : Gl Z w_CS w_SF w_DO w_DT w_fO w_fT w_US w_SS) (pr1 : Obj Z h0 a1 L_StringBuilder [.ref a3, .int 0, .int p4]) (pr2 : Ary Z h0 a3 ATB 16 (bv f5)) (pr3 : ¬ (0 < ((p4 + (sszL q2)) - 16))) (pr4 : ¬ ((p4 + (sszL q2)) < (sszL q2))) (pr5 : ¬ (16 < (p4 + (sszL q2)))) (pr6 : n0 ≤ a3) (pr7 : a1 ≠ a3) (pr8 : n0 ≤ a1) : Mt false [] l Y17 C17 (rmk 1 0 0 22) #[.ref a1, .long q2] Z a0 h0 n0 (KpV h0 [a1, a3] fun v h => ∃ (g1 : Nat → Int32), v = (.ref a1) ∧ Obj Z h a1 L_StringBuilder [.ref a3, .int 0, .int (p4 + (sszL q2))] ∧ Ary Z h a3 ATB 16 (bv g1) ∧ GF (q2 : Int64).toInt.natAbs (p4 + (sszL q2)).toNatClampNeg (sgnL q2) f5 g1) := by
  refine Mt.go PN17 (Or.inl rfl) ef_RJ_5 fun k => ?_
  replace k := k |>.aloadN D17_0 rfl rfl |>.getF (fl_82 hw) pr1 2 D17_1 rfl rfl |>.istoreN D17_4 sto3 |>.iloadN D17_5 rfl |>.lloadN D17_6 rfl
  replace k := (k.callS (w_119 hw) (S3 hw) (R_ssl hw G (q1 := q2)) D17_7 1 rfl).pv
  replace k := k |>.iadd D17_10 rfl |>.istore D17_11 sto4 |>.aloadN D17_13 rfl rfl |>.iload D17_14 rfl
  replace k := (k.callP (w_84 hw) (P12 hw) pr1.exa (R_12_2 hw G pr1 pr2 pr3) D17_16 0 rfl).p0
  replace k := k |>.aloadN D17_19 rfl rfl
  replace k := (k.callV (w_124 hw) (V_Y23_23_StringBuilder hw) pr1.exa (R_23_1 hw G pr1) D17_20 0 rfl).pv
  replace k := k |>.ifNo D17_23  |>.lloadN D17_26 rfl |>.iload D17_27 rfl |>.aloadN D17_29 rfl rfl |>.getF (fl_58 hw) pr1 0 D17_30 rfl rfl
  obtain ⟨_, h3, K3, ⟨_, g3, rfl, O3, G3⟩, k⟩ := (k.callS (w_129 hw) (S4 hw) (R_gcl hw G pr2 pr6 pr4 pr5 (vN := 16)) D17_33 0 rfl).kv (allS pr6 all0)
  replace k := k |>.pop D17_36 rfl |>.goto D17_37 |>.aloadN D17_52 rfl rfl |>.iload D17_53 rfl
  have o4 := pr1.keep K3 (ninS pr7 nin0)
  obtain ⟨h5, K5, O5, k⟩ := k.putF (fl_82 hw) (pw_AbstractStringBuilder_m_StringBuilder_count hw) o4 2 pr8 (Or.inl rfl) D17_55 rfl rfl rfl ls2
  replace k := k |>.aloadN D17_58 rfl rfl
  have o6 := O3.keep K5 (ninS (Ne.symm pr7) nin0)
  exact k.retA D17_59 rfl ⟨_, rfl, (((Keep.refl h0 [a1, a3]).trans K3 (allS (Or.inl (List.mem_of_getElem? (i := 1) rfl)) all0)).trans K5 (allS (Or.inl (List.mem_of_getElem? (i := 0) rfl)) all0)), g3, rfl, O5, o6, G3⟩
theorem R_16_3 {a1 a3 : Addr} {q2 : Int64} {p4 : Int32} {f5 : Nat → Int32} (hw : HW a0 Z) (G : Gl Z w_CS w_SF w_DO w_DT w_fO w_fT w_US w_SS) (pr1 : Obj Z h0 a1 L_StringBuilder [.ref a3, .int 0, .int p4]) (pr2 : Ary Z h0 a3 ATB 16 (bv f5)) (pr3 : ¬ (0 < ((p4 + (sszL q2)) - 16))) (pr4 : ¬ ((p4 + (sszL q2)) < (sszL q2))) (pr5 : ¬ (16 < (p4 + (sszL q2)))) (pr6 : n0 ≤ a3) (pr7 : a1 ≠ a3) (pr8 : n0 ≤ a1) : Mt false [] l Y16 C16 (rmk 2 0 0 38) #[.ref a1, .long q2] Z a0 h0 n0 (KpV h0 [a1, a3] fun v h => ∃ (g1 : Nat → Int32), v = (.ref a1) ∧ Obj Z h a1 L_StringBuilder [.ref a3, .int 0, .int (p4 + (sszL q2))] ∧ Ary Z h a3 ATB 16 (bv g1) ∧ GF (q2 : Int64).toInt.natAbs (p4 + (sszL q2)).toNatClampNeg (sgnL q2) f5 g1) := by
  refine Mt.go PN16 (Or.inl rfl) ef_RJ_3 fun k => ?_
  replace k := k |>.aloadN D16_0 rfl rfl |>.lloadN D16_1 rfl
  obtain ⟨_, h1, K1, ⟨g1_1, rfl, f1_0, f1_1, f1_2⟩, k⟩ := (k.callX (w_115 hw) (sameOf (y := Y17) (by decide) (by rfl) (w_117 hw) (w_87 hw)) (w_116 hw) (w_69 hw) (by decide) (CW17 hw) pr1.exa (R_17_3 hw G pr1 pr2 pr3 pr4 pr5 pr6 pr7 pr8) D16_2 0 rfl).kv (allS pr8 (allS pr6 all0))
  replace k := k |>.pop D16_5 rfl |>.aloadN D16_6 rfl rfl
  exact k.retA D16_7 rfl ⟨_, rfl, K1, g1_1, rfl, f1_0, f1_1, f1_2⟩
theorem own_d26 {p1 v0 v1 v2 v3 v4 v5 v6 v7 v8 : Int32} {q1 : Int64} (e0 : v0 = (0 + p1)) (e1 : v1 = (v0 + 7)) (e2 : v2 = (sszL q1)) (e3 : v3 = (v1 + v2)) (e4 : v4 = (v3 - 16)) (e5 : v5 = (v3 + 2)) (e6 : v6 = (v5 - 16)) (e7 : v7 = (v5 <<< ((0 : Int32) &&& 31))) (e8 : v8 = (v7 - 16)) (hq0 : ¬ (p1 < 0)) (hq1 : p1 < 3) (hq2 : ¬ (0 < v4)) (hq3 : 0 < v6) : v8 < 18 := by
  have := rng32 p1
  have : (0 : Int32).toInt = 0 := by decide
  have := i_nlt hq0
  have : (3 : Int32).toInt = 3 := by decide
  have := i_lt hq1
  have := e_iaddN e0 (by omega)
  have : (7 : Int32).toInt = 7 := by decide
  have := e_iaddN e1 (by omega)
  have := rng64 q1
  have := e_sszL e2
  have := e_iaddN e3 (by omega)
  have : (16 : Int32).toInt = 16 := by decide
  have := e_isubN e4 (by omega)
  have := i_nlt hq2
  have : (2 : Int32).toInt = 2 := by decide
  have := e_iaddN e5 (by omega)
  have := e_isubN e6 (by omega)
  have := i_lt hq3
  have := e_ishlN e7 0 1 (by omega)
  have := e_isubN e8 (by omega)
  have : (18 : Int32).toInt = 18 := by decide
  exact o_lt (by omega)
theorem own_d27 {p1 v0 v1 v2 v3 v4 v5 v6 v7 : Int32} {q1 : Int64} (e0 : v0 = (0 + p1)) (e1 : v1 = (v0 + 7)) (e2 : v2 = (sszL q1)) (e3 : v3 = (v1 + v2)) (e4 : v4 = (v3 - 16)) (e5 : v5 = (v3 + 2)) (e6 : v6 = (v5 - 16)) (e7 : v7 = (v3 <<< ((0 : Int32) &&& 31))) (hq0 : ¬ (p1 < 0)) (hq1 : p1 < 3) (hq2 : ¬ (0 < v4)) (hq3 : 0 < v6) : ¬ (v7 < 0) := by
  have := rng32 p1
  have : (0 : Int32).toInt = 0 := by decide
  have := i_nlt hq0
  have : (3 : Int32).toInt = 3 := by decide
  have := i_lt hq1
  have := e_iaddN e0 (by omega)
  have : (7 : Int32).toInt = 7 := by decide
  have := e_iaddN e1 (by omega)
  have := rng64 q1
  have := e_sszL e2
  have := e_iaddN e3 (by omega)
  have : (16 : Int32).toInt = 16 := by decide
  have := e_isubN e4 (by omega)
  have := i_nlt hq2
  have : (2 : Int32).toInt = 2 := by decide
  have := e_iaddN e5 (by omega)
  have := e_isubN e6 (by omega)
  have := i_lt hq3
  have := e_ishlN e7 0 1 (by omega)
  exact o_nlt (by omega)
theorem own_d28 {p1 v0 v1 v2 v3 v4 v5 v6 v7 : Int32} {q1 : Int64} (e0 : v0 = (0 + p1)) (e1 : v1 = (v0 + 7)) (e2 : v2 = (sszL q1)) (e3 : v3 = (v1 + v2)) (e4 : v4 = (v3 - 16)) (e5 : v5 = (v3 + 2)) (e6 : v6 = (v5 - 16)) (e7 : v7 = (v3 <<< ((0 : Int32) &&& 31))) (hq0 : ¬ (p1 < 0)) (hq1 : p1 < 3) (hq2 : ¬ (0 < v4)) (hq3 : 0 < v6) : v7.toNatClampNeg + 2 ≤ 34 := by
  have := rng32 p1
  have : (0 : Int32).toInt = 0 := by decide
  have := i_nlt hq0
  have : (3 : Int32).toInt = 3 := by decide
  have := i_lt hq1
  have := e_iaddN e0 (by omega)
  have : (7 : Int32).toInt = 7 := by decide
  have := e_iaddN e1 (by omega)
  have := rng64 q1
  have := e_sszL e2
  have := e_iaddN e3 (by omega)
  have : (16 : Int32).toInt = 16 := by decide
  have := e_isubN e4 (by omega)
  have := i_nlt hq2
  have : (2 : Int32).toInt = 2 := by decide
  have := e_iaddN e5 (by omega)
  have := e_isubN e6 (by omega)
  have := i_lt hq3
  have := e_ishlN e7 0 1 (by omega)
  have : (34 : Int32).toInt = 34 := by decide
  simp only [clampNat]
  omega
theorem R_11_6 {a1 a2 a3 a4 : Addr} {p5 : Int32} {f6 : Nat → Int32} (hw : HW a0 Z) (G : Gl Z w_CS w_SF w_DO w_DT w_fO w_fT w_US w_SS) (pr1 : Obj Z h0 a2 litL [.ref a3, .int 0]) (pr2 : Ary Z h0 a3 ("", .byte) 2 (bv (lvi [58, 32]))) (pr3 : Obj Z h0 a1 L_StringBuilder [.ref a4, .int 0, .int p5]) (pr4 : Ary Z h0 a4 ATB 16 (bv f6)) (pr5 : 0 < ((p5 + 2) - 16)) (pr6 : (((p5 + 2) <<< ((0 : Int32) &&& 31)) - 16) < 18) (pr7 : n0 ≤ a1) (pr8 : ¬ ((p5 <<< ((0 : Int32) &&& 31)) < 0)) (pr9 : (p5 <<< ((0 : Int32) &&& 31)).toNatClampNeg + 2 ≤ 34) (pr10 : a2 ≠ a1) (pr11 : a3 ≠ a1) : Mt false [] l Y11 C11 (rmk 4 1 34 62) #[.ref a1, .ref a2] Z a0 h0 n0 (KpV h0 [a1] fun v h => ∃ u1 : Addr, v = (.ref a1) ∧ h0.size ≤ u1 ∧ Obj Z h a1 L_StringBuilder [.ref u1, .int 0, .int (p5 + 2)] ∧ Ary Z h u1 ATB 34 (bv (cpyi (lvi [58, 32]) (cpyi f6 (lvi [0, 0, 0, 0, 0, 0, 0, 0, 0, 0, 0, 0, 0, 0, 0, 0, 0, 0, 0, 0, 0, 0, 0, 0, 0, 0, 0, 0, 0, 0, 0, 0, 0, 0]) 0 0 16) 0 (p5 <<< ((0 : Int32) &&& 31)).toNatClampNeg 2))) := by
  refine Mt.go PN11 (Or.inl rfl) ef_RR_3 fun k => ?_
  have nz := k.n0le
  replace k := k |>.aloadN D11_0 rfl rfl |>.ifnonnullYes D11_1 |>.aloadN D11_9 rfl rfl
  replace k := (k.callV (w_72 hw) (V_Y5_5_String hw) pr1.exa (R_len hw G pr1 pr2 (by decide) (vN := 2)) D11_10 0 rfl).pv
  replace k := k |>.istoreN D11_13 sto2 |>.aloadN D11_14 rfl rfl |>.aloadN D11_15 rfl rfl |>.getF (fl_82 hw) pr3 2 D11_16 rfl rfl |>.iloadN D11_19 rfl |>.iadd D11_20 rfl
  have z1 := k.sz
  obtain ⟨h1, K1, ⟨u1_1, f1_0, f1_1, f1_2⟩, k⟩ := (k.callP (w_84 hw) (P12 hw) pr3.exa (R_12_4 hw G pr3 pr4 pr5 pr6 pr7) D11_21 0 rfl).k0 (allS pr7 all0)
  replace k := k |>.aloadN D11_24 rfl rfl |>.aloadN D11_25 rfl rfl |>.getF (fl_82 hw) f1_1 2 D11_26 rfl rfl |>.aloadN D11_29 rfl rfl
  have s_u1_1 := Nat.le_trans z1 f1_0
  have n_u1_1 := Nat.le_trans nz s_u1_1
  have o3 := pr1.keep K1 (ninS pr10 nin0)
  have o4 := pr2.keep K1 (ninS pr11 nin0)
  obtain ⟨h2, K2, f2_0, k⟩ := (k.callP (w_89 hw) (P13 hw) f1_1.exa (R_13_3 hw G f1_1 o3 o4 f1_2 n_u1_1 pr8 pr9) D11_30 0 rfl).k0 (allS n_u1_1 all0)
  replace k := k |>.aloadN D11_33 rfl rfl |>.dup D11_34 rfl
  have o5 := f1_1.keep K2 (ninS (nlt pr3.lt s_u1_1) nin0)
  replace k := k |>.getF (fl_82 hw) o5 2 D11_35 rfl rfl |>.iloadN D11_38 rfl |>.iadd D11_39 rfl
  obtain ⟨h6, K6, O6, k⟩ := k.putF (fl_82 hw) (pw_AbstractStringBuilder_m_StringBuilder_count hw) o5 2 pr7 (Or.inl rfl) D11_40 rfl rfl rfl ls2
  replace k := k |>.aloadN D11_43 rfl rfl
  have o7 := f2_0.keep K6 (ninS (nlt' pr3.lt s_u1_1) nin0)
  exact k.retA D11_44 rfl ⟨_, rfl, ((K1.trans K2 (allS (Or.inr s_u1_1) all0)).trans K6 (allS (Or.inl (List.mem_of_getElem? (i := 0) rfl)) all0)), u1_1, rfl, s_u1_1, O6, o7⟩
theorem R_10_6 {a1 a2 a3 a4 : Addr} {p5 : Int32} {f6 : Nat → Int32} (hw : HW a0 Z) (G : Gl Z w_CS w_SF w_DO w_DT w_fO w_fT w_US w_SS) (pr1 : Obj Z h0 a2 litL [.ref a3, .int 0]) (pr2 : Ary Z h0 a3 ("", .byte) 2 (bv (lvi [58, 32]))) (pr3 : Obj Z h0 a1 L_StringBuilder [.ref a4, .int 0, .int p5]) (pr4 : Ary Z h0 a4 ATB 16 (bv f6)) (pr5 : 0 < ((p5 + 2) - 16)) (pr6 : (((p5 + 2) <<< ((0 : Int32) &&& 31)) - 16) < 18) (pr7 : n0 ≤ a1) (pr8 : ¬ ((p5 <<< ((0 : Int32) &&& 31)) < 0)) (pr9 : (p5 <<< ((0 : Int32) &&& 31)).toNatClampNeg + 2 ≤ 34) (pr10 : a2 ≠ a1) (pr11 : a3 ≠ a1) : Mt false [] l Y10 C10 (rmk 5 1 34 76) #[.ref a1, .ref a2] Z a0 h0 n0 (KpV h0 [a1] fun v h => ∃ u1 : Addr, v = (.ref a1) ∧ h0.size ≤ u1 ∧ Obj Z h a1 L_StringBuilder [.ref u1, .int 0, .int (p5 + 2)] ∧ Ary Z h u1 ATB 34 (bv (cpyi (lvi [58, 32]) (cpyi f6 (lvi [0, 0, 0, 0, 0, 0, 0, 0, 0, 0, 0, 0, 0, 0, 0, 0, 0, 0, 0, 0, 0, 0, 0, 0, 0, 0, 0, 0, 0, 0, 0, 0, 0, 0]) 0 0 16) 0 (p5 <<< ((0 : Int32) &&& 31)).toNatClampNeg 2))) := by
  refine Mt.go PN10 (Or.inl rfl) ef_RR_2 fun k => ?_
  replace k := k |>.aloadN D10_0 rfl rfl |>.aloadN D10_1 rfl rfl
  have z1 := k.sz
  obtain ⟨_, h1, K1, ⟨u1_1, rfl, f1_0, f1_1, f1_2⟩, k⟩ := (k.callX (w_67 hw) (sameOf (y := Y11) (by decide) (by rfl) (w_70 hw) (w_87 hw)) (w_68 hw) (w_69 hw) (by decide) (CW11 hw) pr3.exa (R_11_6 hw G pr1 pr2 pr3 pr4 pr5 pr6 pr7 pr8 pr9 pr10 pr11) D10_2 0 rfl).kv (allS pr7 all0)
  replace k := k |>.pop D10_5 rfl |>.aloadN D10_6 rfl rfl
  have s_u1_1 := Nat.le_trans z1 f1_0
  exact k.retA D10_7 rfl ⟨_, rfl, K1, u1_1, rfl, s_u1_1, f1_1, f1_2⟩
theorem own_d29 {p1 p2 v0 v1 v2 v3 v4 v5 v6 v7 v8 : Int32} {q1 : Int64} (e0 : v0 = (0 + p1)) (e1 : v1 = (v0 + 7)) (e2 : v2 = (sszL q1)) (e3 : v3 = (v1 + v2)) (e4 : v4 = (v3 - 16)) (e5 : v5 = (v3 + 2)) (e6 : v6 = (v5 - 16)) (e7 : v7 = (v5 + p2)) (e8 : v8 = (v7 - 34)) (hq0 : ¬ (p1 < 0)) (hq1 : p1 < 3) (hq2 : ¬ (p2 < 0)) (hq3 : p2 < 3) (hq4 : ¬ (0 < v4)) (hq5 : 0 < v6) : ¬ (0 < v8) := by
  have := rng32 p1
  have : (0 : Int32).toInt = 0 := by decide
  have := i_nlt hq0
  have : (3 : Int32).toInt = 3 := by decide
  have := i_lt hq1
  have := rng32 p2
  have := i_nlt hq2
  have := i_lt hq3
  have := e_iaddN e0 (by omega)
  have : (7 : Int32).toInt = 7 := by decide
  have := e_iaddN e1 (by omega)
  have := rng64 q1
  have := e_sszL e2
  have := e_iaddN e3 (by omega)
  have : (16 : Int32).toInt = 16 := by decide
  have := e_isubN e4 (by omega)
  have := i_nlt hq4
  have : (2 : Int32).toInt = 2 := by decide
  have := e_iaddN e5 (by omega)
  have := e_isubN e6 (by omega)
  have := i_lt hq5
  have := e_iaddN e7 (by omega)
  have : (34 : Int32).toInt = 34 := by decide
  have := e_isubN e8 (by omega)
  exact o_nlt (by omega)
theorem own_d30 {p1 v0 v1 v2 v3 v4 v5 v6 v7 : Int32} {q1 : Int64} (e0 : v0 = (0 + p1)) (e1 : v1 = (v0 + 7)) (e2 : v2 = (sszL q1)) (e3 : v3 = (v1 + v2)) (e4 : v4 = (v3 - 16)) (e5 : v5 = (v3 + 2)) (e6 : v6 = (v5 - 16)) (e7 : v7 = (v5 <<< ((0 : Int32) &&& 31))) (hq0 : ¬ (p1 < 0)) (hq1 : p1 < 3) (hq2 : ¬ (0 < v4)) (hq3 : 0 < v6) : ¬ (v7 < 0) := by
  have := rng32 p1
  have : (0 : Int32).toInt = 0 := by decide
  have := i_nlt hq0
  have : (3 : Int32).toInt = 3 := by decide
  have := i_lt hq1
  have := e_iaddN e0 (by omega)
  have : (7 : Int32).toInt = 7 := by decide
  have := e_iaddN e1 (by omega)
  have := rng64 q1
  have := e_sszL e2
  have := e_iaddN e3 (by omega)
  have : (16 : Int32).toInt = 16 := by decide
  have := e_isubN e4 (by omega)
  have := i_nlt hq2
  have : (2 : Int32).toInt = 2 := by decide
  have := e_iaddN e5 (by omega)
  have := e_isubN e6 (by omega)
  have := i_lt hq3
  have := e_ishlN e7 0 1 (by omega)
  exact o_nlt (by omega)
theorem own_d31 {p1 p2 v0 v1 v2 v3 v4 v5 v6 v7 : Int32} {q1 : Int64} (e0 : v0 = (0 + p1)) (e1 : v1 = (v0 + 7)) (e2 : v2 = (sszL q1)) (e3 : v3 = (v1 + v2)) (e4 : v4 = (v3 - 16)) (e5 : v5 = (v3 + 2)) (e6 : v6 = (v5 - 16)) (e7 : v7 = (v5 <<< ((0 : Int32) &&& 31))) (hq0 : ¬ (p1 < 0)) (hq1 : p1 < 3) (hq2 : ¬ (p2 < 0)) (hq3 : p2 < 3) (hq4 : ¬ (0 < v4)) (hq5 : 0 < v6) : v7.toNatClampNeg + p2.toNatClampNeg ≤ 34 := by
  have := rng32 p1
  have : (0 : Int32).toInt = 0 := by decide
  have := i_nlt hq0
  have : (3 : Int32).toInt = 3 := by decide
  have := i_lt hq1
  have := rng32 p2
  have := i_nlt hq2
  have := i_lt hq3
  have := e_iaddN e0 (by omega)
  have : (7 : Int32).toInt = 7 := by decide
  have := e_iaddN e1 (by omega)
  have := rng64 q1
  have := e_sszL e2
  have := e_iaddN e3 (by omega)
  have : (16 : Int32).toInt = 16 := by decide
  have := e_isubN e4 (by omega)
  have := i_nlt hq4
  have : (2 : Int32).toInt = 2 := by decide
  have := e_iaddN e5 (by omega)
  have := e_isubN e6 (by omega)
  have := i_lt hq5
  have := e_ishlN e7 0 1 (by omega)
  have : (34 : Int32).toInt = 34 := by decide
  simp only [clampNat]
  omega
theorem own_d32 {p1 p2 v0 v1 v2 v3 v4 v5 v6 v7 : Int32} {q1 : Int64} (e0 : v0 = (0 + p1)) (e1 : v1 = (v0 + 7)) (e2 : v2 = (sszL q1)) (e3 : v3 = (v1 + v2)) (e4 : v4 = (v3 - 16)) (e5 : v5 = (v3 + 2)) (e6 : v6 = (v5 - 16)) (e7 : v7 = (v5 + p2)) (hq0 : ¬ (p1 < 0)) (hq1 : p1 < 3) (hq2 : ¬ (p2 < 0)) (hq3 : p2 < 3) (hq4 : ¬ (0 < v4)) (hq5 : 0 < v6) : ¬ (v7 = 34) := by
  have := rng32 p1
  have : (0 : Int32).toInt = 0 := by decide
  have := i_nlt hq0
  have : (3 : Int32).toInt = 3 := by decide
  have := i_lt hq1
  have := rng32 p2
  have := i_nlt hq2
  have := i_lt hq3
  have := e_iaddN e0 (by omega)
  have : (7 : Int32).toInt = 7 := by decide
  have := e_iaddN e1 (by omega)
  have := rng64 q1
  have := e_sszL e2
  have := e_iaddN e3 (by omega)
  have : (16 : Int32).toInt = 16 := by decide
  have := e_isubN e4 (by omega)
  have := i_nlt hq4
  have : (2 : Int32).toInt = 2 := by decide
  have := e_iaddN e5 (by omega)
  have := e_isubN e6 (by omega)
  have := i_lt hq5
  have := e_iaddN e7 (by omega)
  have : (34 : Int32).toInt = 34 := by decide
  exact o_neq (by omega)
theorem own_d33 {p1 p2 v0 v1 v2 v3 v4 v5 v6 v7 : Int32} {q1 : Int64} (e0 : v0 = (0 + p1)) (e1 : v1 = (v0 + 7)) (e2 : v2 = (sszL q1)) (e3 : v3 = (v1 + v2)) (e4 : v4 = (v3 - 16)) (e5 : v5 = (v3 + 2)) (e6 : v6 = (v5 - 16)) (e7 : v7 = (v5 + p2)) (hq0 : ¬ (p1 < 0)) (hq1 : p1 < 3) (hq2 : ¬ (p2 < 0)) (hq3 : p2 < 3) (hq4 : ¬ (0 < v4)) (hq5 : 0 < v6) : ¬ (v7 < 0) := by
  have := rng32 p1
  have : (0 : Int32).toInt = 0 := by decide
  have := i_nlt hq0
  have : (3 : Int32).toInt = 3 := by decide
  have := i_lt hq1
  have := rng32 p2
  have := i_nlt hq2
  have := i_lt hq3
  have := e_iaddN e0 (by omega)
  have : (7 : Int32).toInt = 7 := by decide
  have := e_iaddN e1 (by omega)
  have := rng64 q1
  have := e_sszL e2
  have := e_iaddN e3 (by omega)
  have : (16 : Int32).toInt = 16 := by decide
  have := e_isubN e4 (by omega)
  have := i_nlt hq4
  have : (2 : Int32).toInt = 2 := by decide
  have := e_iaddN e5 (by omega)
  have := e_isubN e6 (by omega)
  have := i_lt hq5
  have := e_iaddN e7 (by omega)
  exact o_nlt (by omega)
theorem own_d34 {p1 p2 v0 v1 v2 v3 v4 v5 v6 v7 v8 : Int32} {q1 : Int64} (e0 : v0 = (0 + p1)) (e1 : v1 = (v0 + 7)) (e2 : v2 = (sszL q1)) (e3 : v3 = (v1 + v2)) (e4 : v4 = (v3 - 16)) (e5 : v5 = (v3 + 2)) (e6 : v6 = (v5 - 16)) (e7 : v7 = (v5 + p2)) (e8 : v8 = (v7 - 0)) (hq0 : ¬ (p1 < 0)) (hq1 : p1 < 3) (hq2 : ¬ (p2 < 0)) (hq3 : p2 < 3) (hq4 : ¬ (0 < v4)) (hq5 : 0 < v6) : ¬ (v8 < 0) := by
  have := rng32 p1
  have : (0 : Int32).toInt = 0 := by decide
  have := i_nlt hq0
  have : (3 : Int32).toInt = 3 := by decide
  have := i_lt hq1
  have := rng32 p2
  have := i_nlt hq2
  have := i_lt hq3
  have := e_iaddN e0 (by omega)
  have : (7 : Int32).toInt = 7 := by decide
  have := e_iaddN e1 (by omega)
  have := rng64 q1
  have := e_sszL e2
  have := e_iaddN e3 (by omega)
  have : (16 : Int32).toInt = 16 := by decide
  have := e_isubN e4 (by omega)
  have := i_nlt hq4
  have : (2 : Int32).toInt = 2 := by decide
  have := e_iaddN e5 (by omega)
  have := e_isubN e6 (by omega)
  have := i_lt hq5
  have := e_iaddN e7 (by omega)
  have := e_isubN e8 (by omega)
  exact o_nlt (by omega)
theorem own_d35 {p1 p2 v0 v1 v2 v3 v4 v5 v6 v7 v8 : Int32} {q1 : Int64} (e0 : v0 = (0 + p1)) (e1 : v1 = (v0 + 7)) (e2 : v2 = (sszL q1)) (e3 : v3 = (v1 + v2)) (e4 : v4 = (v3 - 16)) (e5 : v5 = (v3 + 2)) (e6 : v6 = (v5 - 16)) (e7 : v7 = (v5 + p2)) (e8 : v8 = (v7 - 0)) (hq0 : ¬ (p1 < 0)) (hq1 : p1 < 3) (hq2 : ¬ (p2 < 0)) (hq3 : p2 < 3) (hq4 : ¬ (0 < v4)) (hq5 : 0 < v6) : v8.toNatClampNeg ≤ 80 := by
  have := rng32 p1
  have : (0 : Int32).toInt = 0 := by decide
  have := i_nlt hq0
  have : (3 : Int32).toInt = 3 := by decide
  have := i_lt hq1
  have := rng32 p2
  have := i_nlt hq2
  have := i_lt hq3
  have := e_iaddN e0 (by omega)
  have : (7 : Int32).toInt = 7 := by decide
  have := e_iaddN e1 (by omega)
  have := rng64 q1
  have := e_sszL e2
  have := e_iaddN e3 (by omega)
  have : (16 : Int32).toInt = 16 := by decide
  have := e_isubN e4 (by omega)
  have := i_nlt hq4
  have : (2 : Int32).toInt = 2 := by decide
  have := e_iaddN e5 (by omega)
  have := e_isubN e6 (by omega)
  have := i_lt hq5
  have := e_iaddN e7 (by omega)
  have := e_isubN e8 (by omega)
  have : (80 : Int32).toInt = 80 := by decide
  simp only [clampNat]
  omega
theorem own_d36 {p1 p2 v0 v1 v2 v3 v4 v5 v6 v7 v8 : Int32} {q1 : Int64} (e0 : v0 = (0 + p1)) (e1 : v1 = (v0 + 7)) (e2 : v2 = (sszL q1)) (e3 : v3 = (v1 + v2)) (e4 : v4 = (v3 - 16)) (e5 : v5 = (v3 + 2)) (e6 : v6 = (v5 - 16)) (e7 : v7 = (v5 + p2)) (e8 : v8 = (v7 - 0)) (hq0 : ¬ (p1 < 0)) (hq1 : p1 < 3) (hq2 : ¬ (p2 < 0)) (hq3 : p2 < 3) (hq4 : ¬ (0 < v4)) (hq5 : 0 < v6) : v8 < 34 := by
  have := rng32 p1
  have : (0 : Int32).toInt = 0 := by decide
  have := i_nlt hq0
  have : (3 : Int32).toInt = 3 := by decide
  have := i_lt hq1
  have := rng32 p2
  have := i_nlt hq2
  have := i_lt hq3
  have := e_iaddN e0 (by omega)
  have : (7 : Int32).toInt = 7 := by decide
  have := e_iaddN e1 (by omega)
  have := rng64 q1
  have := e_sszL e2
  have := e_iaddN e3 (by omega)
  have : (16 : Int32).toInt = 16 := by decide
  have := e_isubN e4 (by omega)
  have := i_nlt hq4
  have : (2 : Int32).toInt = 2 := by decide
  have := e_iaddN e5 (by omega)
  have := e_isubN e6 (by omega)
  have := i_lt hq5
  have := e_iaddN e7 (by omega)
  have := e_isubN e8 (by omega)
  have : (34 : Int32).toInt = 34 := by decide
  exact o_lt (by omega)
theorem own_d37 {p1 p2 v0 v1 v2 v3 v4 v5 v6 v7 v8 : Int32} {q1 : Int64} (e0 : v0 = (0 + p1)) (e1 : v1 = (v0 + 7)) (e2 : v2 = (sszL q1)) (e3 : v3 = (v1 + v2)) (e4 : v4 = (v3 - 16)) (e5 : v5 = (v3 + 2)) (e6 : v6 = (v5 - 16)) (e7 : v7 = (v5 + p2)) (e8 : v8 = (v7 - 0)) (hq0 : ¬ (p1 < 0)) (hq1 : p1 < 3) (hq2 : ¬ (p2 < 0)) (hq3 : p2 < 3) (hq4 : ¬ (0 < v4)) (hq5 : 0 < v6) : 0 + v8.toNatClampNeg ≤ 34 := by
  have := rng32 p1
  have : (0 : Int32).toInt = 0 := by decide
  have := i_nlt hq0
  have : (3 : Int32).toInt = 3 := by decide
  have := i_lt hq1
  have := rng32 p2
  have := i_nlt hq2
  have := i_lt hq3
  have := e_iaddN e0 (by omega)
  have : (7 : Int32).toInt = 7 := by decide
  have := e_iaddN e1 (by omega)
  have := rng64 q1
  have := e_sszL e2
  have := e_iaddN e3 (by omega)
  have : (16 : Int32).toInt = 16 := by decide
  have := e_isubN e4 (by omega)
  have := i_nlt hq4
  have : (2 : Int32).toInt = 2 := by decide
  have := e_iaddN e5 (by omega)
  have := e_isubN e6 (by omega)
  have := i_lt hq5
  have := e_iaddN e7 (by omega)
  have := e_isubN e8 (by omega)
  have : (34 : Int32).toInt = 34 := by decide
  simp only [clampNat]
  omega
theorem own_d38 {p1 p2 v0 v1 v2 v3 v4 v5 v6 v7 v8 : Int32} {q1 : Int64} (e0 : v0 = (0 + p1)) (e1 : v1 = (v0 + 7)) (e2 : v2 = (sszL q1)) (e3 : v3 = (v1 + v2)) (e4 : v4 = (v3 - 16)) (e5 : v5 = (v3 + 2)) (e6 : v6 = (v5 - 16)) (e7 : v7 = (v5 + p2)) (e8 : v8 = (v7 - 0)) (hq0 : ¬ (p1 < 0)) (hq1 : p1 < 3) (hq2 : ¬ (p2 < 0)) (hq3 : p2 < 3) (hq4 : ¬ (0 < v4)) (hq5 : 0 < v6) : 0 + v8.toNatClampNeg ≤ v8.toNatClampNeg := by
  have := rng32 p1
  have : (0 : Int32).toInt = 0 := by decide
  have := i_nlt hq0
  have : (3 : Int32).toInt = 3 := by decide
  have := i_lt hq1
  have := rng32 p2
  have := i_nlt hq2
  have := i_lt hq3
  have := e_iaddN e0 (by omega)
  have : (7 : Int32).toInt = 7 := by decide
  have := e_iaddN e1 (by omega)
  have := rng64 q1
  have := e_sszL e2
  have := e_iaddN e3 (by omega)
  have : (16 : Int32).toInt = 16 := by decide
  have := e_isubN e4 (by omega)
  have := i_nlt hq4
  have : (2 : Int32).toInt = 2 := by decide
  have := e_iaddN e5 (by omega)
  have := e_isubN e6 (by omega)
  have := i_lt hq5
  have := e_iaddN e7 (by omega)
  have := e_isubN e8 (by omega)
  simp only [clampNat]
  omega
theorem own_d39 {p1 v0 v1 v2 v3 v4 v5 v6 v7 : Int32} {q1 : Int64} (e0 : v0 = (0 + p1)) (e1 : v1 = (v0 + 7)) (e2 : v2 = (sszL q1)) (e3 : v3 = (v1 + v2)) (e4 : v4 = (v3 - 16)) (e5 : v5 = (v3 + 2)) (e6 : v6 = (v5 - 16)) (e7 : v7 = (v3 <<< ((0 : Int32) &&& 31))) (hq0 : ¬ (p1 < 0)) (hq1 : p1 < 3) (hq2 : ¬ (0 < v4)) (hq3 : ¬ (0 < v6)) : ¬ (v7 < 0) := by
  have := rng32 p1
  have : (0 : Int32).toInt = 0 := by decide
  have := i_nlt hq0
  have : (3 : Int32).toInt = 3 := by decide
  have := i_lt hq1
  have := e_iaddN e0 (by omega)
  have : (7 : Int32).toInt = 7 := by decide
  have := e_iaddN e1 (by omega)
  have := rng64 q1
  have := e_sszL e2
  have := e_iaddN e3 (by omega)
  have : (16 : Int32).toInt = 16 := by decide
  have := e_isubN e4 (by omega)
  have := i_nlt hq2
  have : (2 : Int32).toInt = 2 := by decide
  have := e_iaddN e5 (by omega)
  have := e_isubN e6 (by omega)
  have := i_nlt hq3
  have := e_ishlN e7 0 1 (by omega)
  exact o_nlt (by omega)
theorem own_d40 {p1 v0 v1 v2 v3 v4 v5 v6 v7 : Int32} {q1 : Int64} (e0 : v0 = (0 + p1)) (e1 : v1 = (v0 + 7)) (e2 : v2 = (sszL q1)) (e3 : v3 = (v1 + v2)) (e4 : v4 = (v3 - 16)) (e5 : v5 = (v3 + 2)) (e6 : v6 = (v5 - 16)) (e7 : v7 = (v3 <<< ((0 : Int32) &&& 31))) (hq0 : ¬ (p1 < 0)) (hq1 : p1 < 3) (hq2 : ¬ (0 < v4)) (hq3 : ¬ (0 < v6)) : v7.toNatClampNeg + 2 ≤ 16 := by
  have := rng32 p1
  have : (0 : Int32).toInt = 0 := by decide
  have := i_nlt hq0
  have : (3 : Int32).toInt = 3 := by decide
  have := i_lt hq1
  have := e_iaddN e0 (by omega)
  have : (7 : Int32).toInt = 7 := by decide
  have := e_iaddN e1 (by omega)
  have := rng64 q1
  have := e_sszL e2
  have := e_iaddN e3 (by omega)
  have : (16 : Int32).toInt = 16 := by decide
  have := e_isubN e4 (by omega)
  have := i_nlt hq2
  have : (2 : Int32).toInt = 2 := by decide
  have := e_iaddN e5 (by omega)
  have := e_isubN e6 (by omega)
  have := i_nlt hq3
  have := e_ishlN e7 0 1 (by omega)
  simp only [clampNat]
  omega
theorem R_15_5 {a1 a2 a4 : Addr} {p3 : Int32} {f5 : Nat → Int32} (hw : HW a0 Z) (G : Gl Z w_CS w_SF w_DO w_DT w_fO w_fT w_US w_SS) (pr1 : Obj Z h0 a1 litL [.ref a4, .int 0]) (pr2 : Ary Z h0 a4 ("", .byte) 2 (bv (lvi [58, 32]))) (pr3 : Ary Z h0 a2 ATB 16 (bv f5)) (pr4 : n0 ≤ a2) (pr5 : ¬ ((p3 <<< ((0 : Int32) &&& 31)) < 0)) (pr6 : (p3 <<< ((0 : Int32) &&& 31)).toNatClampNeg + 2 ≤ 16) : Mt false [] l Y15 C15 (rmk 1 0 0 18) #[.ref a1, .ref a2, .int p3, .int 0] Z a0 h0 n0 (K0 h0 [a2] fun h => Ary Z h a2 ATB 16 (bv (cpyi (lvi [58, 32]) f5 0 (p3 <<< ((0 : Int32) &&& 31)).toNatClampNeg 2))) := by
  refine Mt.go PN15 (Or.inl rfl) ef_RRII_4 fun k => ?_
  replace k := k |>.aloadN D15_0 rfl rfl
  replace k := (k.callV (w_77 hw) (V_Y6_6_String hw) pr1.exa (R_6_1 hw G pr1) D15_1 0 rfl).pv
  replace k := k |>.iloadN D15_4 rfl |>.icmpNo D15_5  |>.aloadN D15_8 rfl rfl |>.getF (fl_24 hw) pr1 0 D15_9 rfl rfl |>.iconst D15_12 0 |>.aloadN D15_13 rfl rfl |>.iloadN D15_14 rfl |>.iloadN D15_15 rfl |>.ishl D15_16 rfl |>.aloadN D15_17 rfl rfl |>.getF (fl_24 hw) pr1 0 D15_18 rfl rfl |>.alen pr2 D15_21 (z := 2) (by decide)
  obtain ⟨h2, K2, O2, k⟩ := k.acopy (w_105 hw) (w_108 hw) (w_106 hw) (w_107 hw) pr2 pr3 ⟨rfl, rfl⟩ (sp' := 0) (by decide) (dp' := (p3 <<< ((0 : Int32) &&& 31)).toNatClampNeg) (nnS pr5) (nn' := 2) (by decide) (by decide) pr6 bv_cpy pr4 D15_22 0
  replace k := k |>.goto D15_25
  exact k.ret0 D15_43 rfl ⟨rfl, K2, O2⟩
theorem R_13_5 {a1 a3 a4 a5 : Addr} {p2 : Int32} {f6 : Nat → Int32} (hw : HW a0 Z) (G : Gl Z w_CS w_SF w_DO w_DT w_fO w_fT w_US w_SS) (pr1 : Obj Z h0 a1 L_StringBuilder [.ref a4, .int 0, .int p2]) (pr2 : Obj Z h0 a3 litL [.ref a5, .int 0]) (pr3 : Ary Z h0 a5 ("", .byte) 2 (bv (lvi [58, 32]))) (pr4 : Ary Z h0 a4 ATB 16 (bv f6)) (pr5 : n0 ≤ a4) (pr6 : ¬ ((p2 <<< ((0 : Int32) &&& 31)) < 0)) (pr7 : (p2 <<< ((0 : Int32) &&& 31)).toNatClampNeg + 2 ≤ 16) : Mt false [] l Y13 C13 (rmk 2 0 0 33) #[.ref a1, .int p2, .ref a3] Z a0 h0 n0 (K0 h0 [a4] fun h => Ary Z h a4 ATB 16 (bv (cpyi (lvi [58, 32]) f6 0 (p2 <<< ((0 : Int32) &&& 31)).toNatClampNeg 2))) := by
  refine Mt.go PN13 (Or.inl rfl) ef_RIR_3 fun k => ?_
  replace k := k |>.aloadN D13_0 rfl rfl |>.aloadN D13_1 rfl rfl
  replace k := (k.callP (w_94 hw) (P14 hw) pr1.exa (R_14_2 hw G pr1 pr2) D13_2 0 rfl).p0
  replace k := k |>.aloadN D13_5 rfl rfl |>.aloadN D13_6 rfl rfl |>.getF (fl_58 hw) pr1 0 D13_7 rfl rfl |>.iloadN D13_10 rfl |>.aloadN D13_11 rfl rfl |>.getF (fl_60 hw) pr1 1 D13_12 rfl rfl
  obtain ⟨h2, K2, f2_0, k⟩ := (k.callV (w_100 hw) (V_Y15_15_String hw) pr2.exa (R_15_5 hw G pr2 pr3 pr4 pr5 pr6 pr7) D13_15 0 rfl).k0 (allS pr5 all0)
  exact k.ret0 D13_18 rfl ⟨rfl, K2, f2_0⟩
theorem R_11_7 {a1 a2 a3 a4 : Addr} {p5 : Int32} {f6 : Nat → Int32} (hw : HW a0 Z) (G : Gl Z w_CS w_SF w_DO w_DT w_fO w_fT w_US w_SS) (pr1 : Obj Z h0 a2 litL [.ref a3, .int 0]) (pr2 : Ary Z h0 a3 ("", .byte) 2 (bv (lvi [58, 32]))) (pr3 : Obj Z h0 a1 L_StringBuilder [.ref a4, .int 0, .int p5]) (pr4 : Ary Z h0 a4 ATB 16 (bv f6)) (pr5 : ¬ (0 < ((p5 + 2) - 16))) (pr6 : n0 ≤ a4) (pr7 : ¬ ((p5 <<< ((0 : Int32) &&& 31)) < 0)) (pr8 : (p5 <<< ((0 : Int32) &&& 31)).toNatClampNeg + 2 ≤ 16) (pr9 : a1 ≠ a4) (pr10 : n0 ≤ a1) : Mt false [] l Y11 C11 (rmk 3 0 0 47) #[.ref a1, .ref a2] Z a0 h0 n0 (KpV h0 [a1, a4] fun v h => v = (.ref a1) ∧ Obj Z h a1 L_StringBuilder [.ref a4, .int 0, .int (p5 + 2)] ∧ Ary Z h a4 ATB 16 (bv (cpyi (lvi [58, 32]) f6 0 (p5 <<< ((0 : Int32) &&& 31)).toNatClampNeg 2))) := by
  refine Mt.go PN11 (Or.inl rfl) ef_RR_3 fun k => ?_
  replace k := k |>.aloadN D11_0 rfl rfl |>.ifnonnullYes D11_1 |>.aloadN D11_9 rfl rfl
  replace k := (k.callV (w_72 hw) (V_Y5_5_String hw) pr1.exa (R_len hw G pr1 pr2 (by decide) (vN := 2)) D11_10 0 rfl).pv
  replace k := k |>.istoreN D11_13 sto2 |>.aloadN D11_14 rfl rfl |>.aloadN D11_15 rfl rfl |>.getF (fl_82 hw) pr3 2 D11_16 rfl rfl |>.iloadN D11_19 rfl |>.iadd D11_20 rfl
  replace k := (k.callP (w_84 hw) (P12 hw) pr3.exa (R_12_2 hw G pr3 pr4 pr5) D11_21 0 rfl).p0
  replace k := k |>.aloadN D11_24 rfl rfl |>.aloadN D11_25 rfl rfl |>.getF (fl_82 hw) pr3 2 D11_26 rfl rfl |>.aloadN D11_29 rfl rfl
  obtain ⟨h2, K2, f2_0, k⟩ := (k.callP (w_89 hw) (P13 hw) pr3.exa (R_13_5 hw G pr3 pr1 pr2 pr4 pr6 pr7 pr8) D11_30 0 rfl).k0 (allS pr6 all0)
  replace k := k |>.aloadN D11_33 rfl rfl |>.dup D11_34 rfl
  have o3 := pr3.keep K2 (ninS pr9 nin0)
  replace k := k |>.getF (fl_82 hw) o3 2 D11_35 rfl rfl |>.iloadN D11_38 rfl |>.iadd D11_39 rfl
  obtain ⟨h4, K4, O4, k⟩ := k.putF (fl_82 hw) (pw_AbstractStringBuilder_m_StringBuilder_count hw) o3 2 pr10 (Or.inl rfl) D11_40 rfl rfl rfl ls2
  replace k := k |>.aloadN D11_43 rfl rfl
  have o5 := f2_0.keep K4 (ninS (Ne.symm pr9) nin0)
  exact k.retA D11_44 rfl ⟨_, rfl, (((Keep.refl h0 [a1, a4]).trans K2 (allS (Or.inl (List.mem_of_getElem? (i := 1) rfl)) all0)).trans K4 (allS (Or.inl (List.mem_of_getElem? (i := 0) rfl)) all0)), rfl, O4, o5⟩
theorem R_10_7 {a1 a2 a3 a4 : Addr} {p5 : Int32} {f6 : Nat → Int32} (hw : HW a0 Z) (G : Gl Z w_CS w_SF w_DO w_DT w_fO w_fT w_US w_SS) (pr1 : Obj Z h0 a2 litL [.ref a3, .int 0]) (pr2 : Ary Z h0 a3 ("", .byte) 2 (bv (lvi [58, 32]))) (pr3 : Obj Z h0 a1 L_StringBuilder [.ref a4, .int 0, .int p5]) (pr4 : Ary Z h0 a4 ATB 16 (bv f6)) (pr5 : ¬ (0 < ((p5 + 2) - 16))) (pr6 : n0 ≤ a4) (pr7 : ¬ ((p5 <<< ((0 : Int32) &&& 31)) < 0)) (pr8 : (p5 <<< ((0 : Int32) &&& 31)).toNatClampNeg + 2 ≤ 16) (pr9 : a1 ≠ a4) (pr10 : n0 ≤ a1) : Mt false [] l Y10 C10 (rmk 4 0 0 61) #[.ref a1, .ref a2] Z a0 h0 n0 (KpV h0 [a1, a4] fun v h => v = (.ref a1) ∧ Obj Z h a1 L_StringBuilder [.ref a4, .int 0, .int (p5 + 2)] ∧ Ary Z h a4 ATB 16 (bv (cpyi (lvi [58, 32]) f6 0 (p5 <<< ((0 : Int32) &&& 31)).toNatClampNeg 2))) := by
  refine Mt.go PN10 (Or.inl rfl) ef_RR_2 fun k => ?_
  replace k := k |>.aloadN D10_0 rfl rfl |>.aloadN D10_1 rfl rfl
  obtain ⟨_, h1, K1, ⟨rfl, f1_0, f1_1⟩, k⟩ := (k.callX (w_67 hw) (sameOf (y := Y11) (by decide) (by rfl) (w_70 hw) (w_87 hw)) (w_68 hw) (w_69 hw) (by decide) (CW11 hw) pr3.exa (R_11_7 hw G pr1 pr2 pr3 pr4 pr5 pr6 pr7 pr8 pr9 pr10) D10_2 0 rfl).kv (allS pr10 (allS pr6 all0))
  replace k := k |>.pop D10_5 rfl |>.aloadN D10_6 rfl rfl
  exact k.retA D10_7 rfl ⟨_, rfl, K1, rfl, f1_0, f1_1⟩
theorem own_d41 {p1 p2 v0 v1 v2 v3 v4 v5 v6 v7 v8 v9 v10 : Int32} {q1 : Int64} (e0 : v0 = (0 + p1)) (e1 : v1 = (v0 + 7)) (e2 : v2 = (sszL q1)) (e3 : v3 = (v1 + v2)) (e4 : v4 = (v3 - 16)) (e5 : v5 = (v3 + 2)) (e6 : v6 = (v5 - 16)) (e7 : v7 = (v5 + p2)) (e8 : v8 = (v7 - 16)) (e9 : v9 = (v7 <<< ((0 : Int32) &&& 31))) (e10 : v10 = (v9 - 16)) (hq0 : ¬ (p1 < 0)) (hq1 : p1 < 3) (hq2 : ¬ (p2 < 0)) (hq3 : p2 < 3) (hq4 : ¬ (0 < v4)) (hq5 : ¬ (0 < v6)) (hq6 : 0 < v8) : v10 < 18 := by
  have := rng32 p1
  have : (0 : Int32).toInt = 0 := by decide
  have := i_nlt hq0
  have : (3 : Int32).toInt = 3 := by decide
  have := i_lt hq1
  have := rng32 p2
  have := i_nlt hq2
  have := i_lt hq3
  have := e_iaddN e0 (by omega)
  have : (7 : Int32).toInt = 7 := by decide
  have := e_iaddN e1 (by omega)
  have := rng64 q1
  have := e_sszL e2
  have := e_iaddN e3 (by omega)
  have : (16 : Int32).toInt = 16 := by decide
  have := e_isubN e4 (by omega)
  have := i_nlt hq4
  have : (2 : Int32).toInt = 2 := by decide
  have := e_iaddN e5 (by omega)
  have := e_isubN e6 (by omega)
  have := i_nlt hq5
  have := e_iaddN e7 (by omega)
  have := e_isubN e8 (by omega)
  have := i_lt hq6
  have := e_ishlN e9 0 1 (by omega)
  have := e_isubN e10 (by omega)
  have : (18 : Int32).toInt = 18 := by decide
  exact o_lt (by omega)
theorem own_d42 {p1 p2 v0 v1 v2 v3 v4 v5 v6 v7 v8 v9 : Int32} {q1 : Int64} (e0 : v0 = (0 + p1)) (e1 : v1 = (v0 + 7)) (e2 : v2 = (sszL q1)) (e3 : v3 = (v1 + v2)) (e4 : v4 = (v3 - 16)) (e5 : v5 = (v3 + 2)) (e6 : v6 = (v5 - 16)) (e7 : v7 = (v5 + p2)) (e8 : v8 = (v7 - 16)) (e9 : v9 = (v5 <<< ((0 : Int32) &&& 31))) (hq0 : ¬ (p1 < 0)) (hq1 : p1 < 3) (hq2 : ¬ (p2 < 0)) (hq3 : p2 < 3) (hq4 : ¬ (0 < v4)) (hq5 : ¬ (0 < v6)) (hq6 : 0 < v8) : ¬ (v9 < 0) := by
  have := rng32 p1
  have : (0 : Int32).toInt = 0 := by decide
  have := i_nlt hq0
  have : (3 : Int32).toInt = 3 := by decide
  have := i_lt hq1
  have := rng32 p2
  have := i_nlt hq2
  have := i_lt hq3
  have := e_iaddN e0 (by omega)
  have : (7 : Int32).toInt = 7 := by decide
  have := e_iaddN e1 (by omega)
  have := rng64 q1
  have := e_sszL e2
  have := e_iaddN e3 (by omega)
  have : (16 : Int32).toInt = 16 := by decide
  have := e_isubN e4 (by omega)
  have := i_nlt hq4
  have : (2 : Int32).toInt = 2 := by decide
  have := e_iaddN e5 (by omega)
  have := e_isubN e6 (by omega)
  have := i_nlt hq5
  have := e_iaddN e7 (by omega)
  have := e_isubN e8 (by omega)
  have := i_lt hq6
  have := e_ishlN e9 0 1 (by omega)
  exact o_nlt (by omega)
theorem own_d43 {p1 p2 v0 v1 v2 v3 v4 v5 v6 v7 v8 : Int32} {q1 : Int64} (e0 : v0 = (0 + p1)) (e1 : v1 = (v0 + 7)) (e2 : v2 = (sszL q1)) (e3 : v3 = (v1 + v2)) (e4 : v4 = (v3 - 16)) (e5 : v5 = (v3 + 2)) (e6 : v6 = (v5 - 16)) (e7 : v7 = (v5 + p2)) (e8 : v8 = (v7 - 16)) (hq0 : ¬ (p1 < 0)) (hq1 : p1 < 3) (hq2 : ¬ (p2 < 0)) (hq3 : p2 < 3) (hq4 : ¬ (0 < v4)) (hq5 : ¬ (0 < v6)) (hq6 : 0 < v8) : 0 + p2.toNatClampNeg ≤ p2.toNatClampNeg := by
  have := rng32 p1
  have : (0 : Int32).toInt = 0 := by decide
  have := i_nlt hq0
  have : (3 : Int32).toInt = 3 := by decide
  have := i_lt hq1
  have := rng32 p2
  have := i_nlt hq2
  have := i_lt hq3
  have := e_iaddN e0 (by omega)
  have : (7 : Int32).toInt = 7 := by decide
  have := e_iaddN e1 (by omega)
  have := rng64 q1
  have := e_sszL e2
  have := e_iaddN e3 (by omega)
  have : (16 : Int32).toInt = 16 := by decide
  have := e_isubN e4 (by omega)
  have := i_nlt hq4
  have : (2 : Int32).toInt = 2 := by decide
  have := e_iaddN e5 (by omega)
  have := e_isubN e6 (by omega)
  have := i_nlt hq5
  have := e_iaddN e7 (by omega)
  have := e_isubN e8 (by omega)
  have := i_lt hq6
  simp only [clampNat]
  omega
theorem own_d44 {p1 p2 v0 v1 v2 v3 v4 v5 v6 v7 v8 v9 : Int32} {q1 : Int64} (e0 : v0 = (0 + p1)) (e1 : v1 = (v0 + 7)) (e2 : v2 = (sszL q1)) (e3 : v3 = (v1 + v2)) (e4 : v4 = (v3 - 16)) (e5 : v5 = (v3 + 2)) (e6 : v6 = (v5 - 16)) (e7 : v7 = (v5 + p2)) (e8 : v8 = (v7 - 16)) (e9 : v9 = (v5 <<< ((0 : Int32) &&& 31))) (hq0 : ¬ (p1 < 0)) (hq1 : p1 < 3) (hq2 : ¬ (p2 < 0)) (hq3 : p2 < 3) (hq4 : ¬ (0 < v4)) (hq5 : ¬ (0 < v6)) (hq6 : 0 < v8) : v9.toNatClampNeg + p2.toNatClampNeg ≤ 34 := by
  have := rng32 p1
  have : (0 : Int32).toInt = 0 := by decide
  have := i_nlt hq0
  have : (3 : Int32).toInt = 3 := by decide
  have := i_lt hq1
  have := rng32 p2
  have := i_nlt hq2
  have := i_lt hq3
  have := e_iaddN e0 (by omega)
  have : (7 : Int32).toInt = 7 := by decide
  have := e_iaddN e1 (by omega)
  have := rng64 q1
  have := e_sszL e2
  have := e_iaddN e3 (by omega)
  have : (16 : Int32).toInt = 16 := by decide
  have := e_isubN e4 (by omega)
  have := i_nlt hq4
  have : (2 : Int32).toInt = 2 := by decide
  have := e_iaddN e5 (by omega)
  have := e_isubN e6 (by omega)
  have := i_nlt hq5
  have := e_iaddN e7 (by omega)
  have := e_isubN e8 (by omega)
  have := i_lt hq6
  have := e_ishlN e9 0 1 (by omega)
  have : (34 : Int32).toInt = 34 := by decide
  simp only [clampNat]
  omega
theorem R_11_9 {a1 a2 a3 a6 : Addr} {p4 p7 : Int32} {f5 f8 : Nat → Int32} (hw : HW a0 Z) (G : Gl Z w_CS w_SF w_DO w_DT w_fO w_fT w_US w_SS) (pr1 : Obj Z h0 a2 litL [.ref a3, .int 0]) (pr2 : Ary Z h0 a3 (T2, .byte) p4.toNatClampNeg (bv f5)) (pr3 : ¬ (p4 < 0)) (pr4 : Obj Z h0 a1 L_StringBuilder [.ref a6, .int 0, .int p7]) (pr5 : Ary Z h0 a6 ATB 16 (bv f8)) (pr6 : 0 < ((p7 + p4) - 16)) (pr7 : (((p7 + p4) <<< ((0 : Int32) &&& 31)) - 16) < 18) (pr8 : n0 ≤ a1) (pr9 : ¬ ((p7 <<< ((0 : Int32) &&& 31)) < 0)) (pr10 : 0 + p4.toNatClampNeg ≤ p4.toNatClampNeg) (pr11 : (p7 <<< ((0 : Int32) &&& 31)).toNatClampNeg + p4.toNatClampNeg ≤ 34) (pr12 : a2 ≠ a1) (pr13 : a3 ≠ a1) : Mt false [] l Y11 C11 (rmk 4 1 34 62) #[.ref a1, .ref a2] Z a0 h0 n0 (KpV h0 [a1] fun v h => ∃ u1 : Addr, v = (.ref a1) ∧ h0.size ≤ u1 ∧ Obj Z h a1 L_StringBuilder [.ref u1, .int 0, .int (p7 + p4)] ∧ Ary Z h u1 ATB 34 (bv (cpyi f5 (cpyi f8 (lvi [0, 0, 0, 0, 0, 0, 0, 0, 0, 0, 0, 0, 0, 0, 0, 0, 0, 0, 0, 0, 0, 0, 0, 0, 0, 0, 0, 0, 0, 0, 0, 0, 0, 0]) 0 0 16) 0 (p7 <<< ((0 : Int32) &&& 31)).toNatClampNeg p4.toNatClampNeg))) := by
  refine Mt.go PN11 (Or.inl rfl) ef_RR_3 fun k => ?_
  have nz := k.n0le
  replace k := k |>.aloadN D11_0 rfl rfl |>.ifnonnullYes D11_1 |>.aloadN D11_9 rfl rfl
  replace k := (k.callV (w_72 hw) (V_Y5_5_String hw) pr1.exa (R_len hw G pr1 pr2 pr3) D11_10 0 rfl).pv
  replace k := k |>.istoreN D11_13 sto2 |>.aloadN D11_14 rfl rfl |>.aloadN D11_15 rfl rfl |>.getF (fl_82 hw) pr4 2 D11_16 rfl rfl |>.iloadN D11_19 rfl |>.iadd D11_20 rfl
  have z1 := k.sz
  obtain ⟨h1, K1, ⟨u1_1, f1_0, f1_1, f1_2⟩, k⟩ := (k.callP (w_84 hw) (P12 hw) pr4.exa (R_12_4 hw G pr4 pr5 pr6 pr7 pr8) D11_21 0 rfl).k0 (allS pr8 all0)
  replace k := k |>.aloadN D11_24 rfl rfl |>.aloadN D11_25 rfl rfl |>.getF (fl_82 hw) f1_1 2 D11_26 rfl rfl |>.aloadN D11_29 rfl rfl
  have s_u1_1 := Nat.le_trans z1 f1_0
  have n_u1_1 := Nat.le_trans nz s_u1_1
  have o3 := pr1.keep K1 (ninS pr12 nin0)
  have o4 := pr2.keep K1 (ninS pr13 nin0)
  obtain ⟨h2, K2, f2_0, k⟩ := (k.callP (w_89 hw) (P13 hw) f1_1.exa (R_13_4 hw G f1_1 o3 o4 pr3 f1_2 n_u1_1 pr9 pr10 pr11) D11_30 0 rfl).k0 (allS n_u1_1 all0)
  replace k := k |>.aloadN D11_33 rfl rfl |>.dup D11_34 rfl
  have o5 := f1_1.keep K2 (ninS (nlt pr4.lt s_u1_1) nin0)
  replace k := k |>.getF (fl_82 hw) o5 2 D11_35 rfl rfl |>.iloadN D11_38 rfl |>.iadd D11_39 rfl
  obtain ⟨h6, K6, O6, k⟩ := k.putF (fl_82 hw) (pw_AbstractStringBuilder_m_StringBuilder_count hw) o5 2 pr8 (Or.inl rfl) D11_40 rfl rfl rfl ls2
  replace k := k |>.aloadN D11_43 rfl rfl
  have o7 := f2_0.keep K6 (ninS (nlt' pr4.lt s_u1_1) nin0)
  exact k.retA D11_44 rfl ⟨_, rfl, ((K1.trans K2 (allS (Or.inr s_u1_1) all0)).trans K6 (allS (Or.inl (List.mem_of_getElem? (i := 0) rfl)) all0)), u1_1, rfl, s_u1_1, O6, o7⟩
theorem R_10_9 {a1 a2 a3 a6 : Addr} {p4 p7 : Int32} {f5 f8 : Nat → Int32} (hw : HW a0 Z) (G : Gl Z w_CS w_SF w_DO w_DT w_fO w_fT w_US w_SS) (pr1 : Obj Z h0 a2 litL [.ref a3, .int 0]) (pr2 : Ary Z h0 a3 (T2, .byte) p4.toNatClampNeg (bv f5)) (pr3 : ¬ (p4 < 0)) (pr4 : Obj Z h0 a1 L_StringBuilder [.ref a6, .int 0, .int p7]) (pr5 : Ary Z h0 a6 ATB 16 (bv f8)) (pr6 : 0 < ((p7 + p4) - 16)) (pr7 : (((p7 + p4) <<< ((0 : Int32) &&& 31)) - 16) < 18) (pr8 : n0 ≤ a1) (pr9 : ¬ ((p7 <<< ((0 : Int32) &&& 31)) < 0)) (pr10 : 0 + p4.toNatClampNeg ≤ p4.toNatClampNeg) (pr11 : (p7 <<< ((0 : Int32) &&& 31)).toNatClampNeg + p4.toNatClampNeg ≤ 34) (pr12 : a2 ≠ a1) (pr13 : a3 ≠ a1) : Mt false [] l Y10 C10 (rmk 5 1 34 76) #[.ref a1, .ref a2] Z a0 h0 n0 (KpV h0 [a1] fun v h => ∃ u1 : Addr, v = (.ref a1) ∧ h0.size ≤ u1 ∧ Obj Z h a1 L_StringBuilder [.ref u1, .int 0, .int (p7 + p4)] ∧ Ary Z h u1 ATB 34 (bv (cpyi f5 (cpyi f8 (lvi [0, 0, 0, 0, 0, 0, 0, 0, 0, 0, 0, 0, 0, 0, 0, 0, 0, 0, 0, 0, 0, 0, 0, 0, 0, 0, 0, 0, 0, 0, 0, 0, 0, 0]) 0 0 16) 0 (p7 <<< ((0 : Int32) &&& 31)).toNatClampNeg p4.toNatClampNeg))) := by
  refine Mt.go PN10 (Or.inl rfl) ef_RR_2 fun k => ?_
  replace k := k |>.aloadN D10_0 rfl rfl |>.aloadN D10_1 rfl rfl
  have z1 := k.sz
  obtain ⟨_, h1, K1, ⟨u1_1, rfl, f1_0, f1_1, f1_2⟩, k⟩ := (k.callX (w_67 hw) (sameOf (y := Y11) (by decide) (by rfl) (w_70 hw) (w_87 hw)) (w_68 hw) (w_69 hw) (by decide) (CW11 hw) pr4.exa (R_11_9 hw G pr1 pr2 pr3 pr4 pr5 pr6 pr7 pr8 pr9 pr10 pr11 pr12 pr13) D10_2 0 rfl).kv (allS pr8 all0)
  replace k := k |>.pop D10_5 rfl |>.aloadN D10_6 rfl rfl
  have s_u1_1 := Nat.le_trans z1 f1_0
  exact k.retA D10_7 rfl ⟨_, rfl, K1, u1_1, rfl, s_u1_1, f1_1, f1_2⟩
theorem own_d45 {p1 p2 v0 v1 v2 v3 v4 v5 v6 v7 v8 : Int32} {q1 : Int64} (e0 : v0 = (0 + p1)) (e1 : v1 = (v0 + 7)) (e2 : v2 = (sszL q1)) (e3 : v3 = (v1 + v2)) (e4 : v4 = (v3 - 16)) (e5 : v5 = (v3 + 2)) (e6 : v6 = (v5 - 16)) (e7 : v7 = (v5 + p2)) (e8 : v8 = (v7 - 16)) (hq0 : ¬ (p1 < 0)) (hq1 : p1 < 3) (hq2 : ¬ (p2 < 0)) (hq3 : p2 < 3) (hq4 : ¬ (0 < v4)) (hq5 : ¬ (0 < v6)) (hq6 : 0 < v8) : ¬ (v7 = 34) := by
  have := rng32 p1
  have : (0 : Int32).toInt = 0 := by decide
  have := i_nlt hq0
  have : (3 : Int32).toInt = 3 := by decide
  have := i_lt hq1
  have := rng32 p2
  have := i_nlt hq2
  have := i_lt hq3
  have := e_iaddN e0 (by omega)
  have : (7 : Int32).toInt = 7 := by decide
  have := e_iaddN e1 (by omega)
  have := rng64 q1
  have := e_sszL e2
  have := e_iaddN e3 (by omega)
  have : (16 : Int32).toInt = 16 := by decide
  have := e_isubN e4 (by omega)
  have := i_nlt hq4
  have : (2 : Int32).toInt = 2 := by decide
  have := e_iaddN e5 (by omega)
  have := e_isubN e6 (by omega)
  have := i_nlt hq5
  have := e_iaddN e7 (by omega)
  have := e_isubN e8 (by omega)
  have := i_lt hq6
  have : (34 : Int32).toInt = 34 := by decide
  exact o_neq (by omega)
theorem own_d46 {p1 p2 v0 v1 v2 v3 v4 v5 v6 v7 v8 : Int32} {q1 : Int64} (e0 : v0 = (0 + p1)) (e1 : v1 = (v0 + 7)) (e2 : v2 = (sszL q1)) (e3 : v3 = (v1 + v2)) (e4 : v4 = (v3 - 16)) (e5 : v5 = (v3 + 2)) (e6 : v6 = (v5 - 16)) (e7 : v7 = (v5 + p2)) (e8 : v8 = (v7 - 16)) (hq0 : ¬ (p1 < 0)) (hq1 : p1 < 3) (hq2 : ¬ (p2 < 0)) (hq3 : p2 < 3) (hq4 : ¬ (0 < v4)) (hq5 : ¬ (0 < v6)) (hq6 : 0 < v8) : ¬ (v7 < 0) := by
  have := rng32 p1
  have : (0 : Int32).toInt = 0 := by decide
  have := i_nlt hq0
  have : (3 : Int32).toInt = 3 := by decide
  have := i_lt hq1
  have := rng32 p2
  have := i_nlt hq2
  have := i_lt hq3
  have := e_iaddN e0 (by omega)
  have : (7 : Int32).toInt = 7 := by decide
  have := e_iaddN e1 (by omega)
  have := rng64 q1
  have := e_sszL e2
  have := e_iaddN e3 (by omega)
  have : (16 : Int32).toInt = 16 := by decide
  have := e_isubN e4 (by omega)
  have := i_nlt hq4
  have : (2 : Int32).toInt = 2 := by decide
  have := e_iaddN e5 (by omega)
  have := e_isubN e6 (by omega)
  have := i_nlt hq5
  have := e_iaddN e7 (by omega)
  have := e_isubN e8 (by omega)
  have := i_lt hq6
  exact o_nlt (by omega)
theorem own_d47 {p1 p2 v0 v1 v2 v3 v4 v5 v6 v7 v8 v9 : Int32} {q1 : Int64} (e0 : v0 = (0 + p1)) (e1 : v1 = (v0 + 7)) (e2 : v2 = (sszL q1)) (e3 : v3 = (v1 + v2)) (e4 : v4 = (v3 - 16)) (e5 : v5 = (v3 + 2)) (e6 : v6 = (v5 - 16)) (e7 : v7 = (v5 + p2)) (e8 : v8 = (v7 - 16)) (e9 : v9 = (v7 - 0)) (hq0 : ¬ (p1 < 0)) (hq1 : p1 < 3) (hq2 : ¬ (p2 < 0)) (hq3 : p2 < 3) (hq4 : ¬ (0 < v4)) (hq5 : ¬ (0 < v6)) (hq6 : 0 < v8) : ¬ (v9 < 0) := by
  have := rng32 p1
  have : (0 : Int32).toInt = 0 := by decide
  have := i_nlt hq0
  have : (3 : Int32).toInt = 3 := by decide
  have := i_lt hq1
  have := rng32 p2
  have := i_nlt hq2
  have := i_lt hq3
  have := e_iaddN e0 (by omega)
  have : (7 : Int32).toInt = 7 := by decide
  have := e_iaddN e1 (by omega)
  have := rng64 q1
  have := e_sszL e2
  have := e_iaddN e3 (by omega)
  have : (16 : Int32).toInt = 16 := by decide
  have := e_isubN e4 (by omega)
  have := i_nlt hq4
  have : (2 : Int32).toInt = 2 := by decide
  have := e_iaddN e5 (by omega)
  have := e_isubN e6 (by omega)
  have := i_nlt hq5
  have := e_iaddN e7 (by omega)
  have := e_isubN e8 (by omega)
  have := i_lt hq6
  have := e_isubN e9 (by omega)
  exact o_nlt (by omega)
theorem own_d48 {p1 p2 v0 v1 v2 v3 v4 v5 v6 v7 v8 v9 : Int32} {q1 : Int64} (e0 : v0 = (0 + p1)) (e1 : v1 = (v0 + 7)) (e2 : v2 = (sszL q1)) (e3 : v3 = (v1 + v2)) (e4 : v4 = (v3 - 16)) (e5 : v5 = (v3 + 2)) (e6 : v6 = (v5 - 16)) (e7 : v7 = (v5 + p2)) (e8 : v8 = (v7 - 16)) (e9 : v9 = (v7 - 0)) (hq0 : ¬ (p1 < 0)) (hq1 : p1 < 3) (hq2 : ¬ (p2 < 0)) (hq3 : p2 < 3) (hq4 : ¬ (0 < v4)) (hq5 : ¬ (0 < v6)) (hq6 : 0 < v8) : v9.toNatClampNeg ≤ 80 := by
  have := rng32 p1
  have : (0 : Int32).toInt = 0 := by decide
  have := i_nlt hq0
  have : (3 : Int32).toInt = 3 := by decide
  have := i_lt hq1
  have := rng32 p2
  have := i_nlt hq2
  have := i_lt hq3
  have := e_iaddN e0 (by omega)
  have : (7 : Int32).toInt = 7 := by decide
  have := e_iaddN e1 (by omega)
  have := rng64 q1
  have := e_sszL e2
  have := e_iaddN e3 (by omega)
  have : (16 : Int32).toInt = 16 := by decide
  have := e_isubN e4 (by omega)
  have := i_nlt hq4
  have : (2 : Int32).toInt = 2 := by decide
  have := e_iaddN e5 (by omega)
  have := e_isubN e6 (by omega)
  have := i_nlt hq5
  have := e_iaddN e7 (by omega)
  have := e_isubN e8 (by omega)
  have := i_lt hq6
  have := e_isubN e9 (by omega)
  have : (80 : Int32).toInt = 80 := by decide
  simp only [clampNat]
  omega
theorem own_d49 {p1 p2 v0 v1 v2 v3 v4 v5 v6 v7 v8 v9 : Int32} {q1 : Int64} (e0 : v0 = (0 + p1)) (e1 : v1 = (v0 + 7)) (e2 : v2 = (sszL q1)) (e3 : v3 = (v1 + v2)) (e4 : v4 = (v3 - 16)) (e5 : v5 = (v3 + 2)) (e6 : v6 = (v5 - 16)) (e7 : v7 = (v5 + p2)) (e8 : v8 = (v7 - 16)) (e9 : v9 = (v7 - 0)) (hq0 : ¬ (p1 < 0)) (hq1 : p1 < 3) (hq2 : ¬ (p2 < 0)) (hq3 : p2 < 3) (hq4 : ¬ (0 < v4)) (hq5 : ¬ (0 < v6)) (hq6 : 0 < v8) : v9 < 34 := by
  have := rng32 p1
  have : (0 : Int32).toInt = 0 := by decide
  have := i_nlt hq0
  have : (3 : Int32).toInt = 3 := by decide
  have := i_lt hq1
  have := rng32 p2
  have := i_nlt hq2
  have := i_lt hq3
  have := e_iaddN e0 (by omega)
  have : (7 : Int32).toInt = 7 := by decide
  have := e_iaddN e1 (by omega)
  have := rng64 q1
  have := e_sszL e2
  have := e_iaddN e3 (by omega)
  have : (16 : Int32).toInt = 16 := by decide
  have := e_isubN e4 (by omega)
  have := i_nlt hq4
  have : (2 : Int32).toInt = 2 := by decide
  have := e_iaddN e5 (by omega)
  have := e_isubN e6 (by omega)
  have := i_nlt hq5
  have := e_iaddN e7 (by omega)
  have := e_isubN e8 (by omega)
  have := i_lt hq6
  have := e_isubN e9 (by omega)
  have : (34 : Int32).toInt = 34 := by decide
  exact o_lt (by omega)
theorem own_d50 {p1 p2 v0 v1 v2 v3 v4 v5 v6 v7 v8 v9 : Int32} {q1 : Int64} (e0 : v0 = (0 + p1)) (e1 : v1 = (v0 + 7)) (e2 : v2 = (sszL q1)) (e3 : v3 = (v1 + v2)) (e4 : v4 = (v3 - 16)) (e5 : v5 = (v3 + 2)) (e6 : v6 = (v5 - 16)) (e7 : v7 = (v5 + p2)) (e8 : v8 = (v7 - 16)) (e9 : v9 = (v7 - 0)) (hq0 : ¬ (p1 < 0)) (hq1 : p1 < 3) (hq2 : ¬ (p2 < 0)) (hq3 : p2 < 3) (hq4 : ¬ (0 < v4)) (hq5 : ¬ (0 < v6)) (hq6 : 0 < v8) : 0 + v9.toNatClampNeg ≤ 34 := by
  have := rng32 p1
  have : (0 : Int32).toInt = 0 := by decide
  have := i_nlt hq0
  have : (3 : Int32).toInt = 3 := by decide
  have := i_lt hq1
  have := rng32 p2
  have := i_nlt hq2
  have := i_lt hq3
  have := e_iaddN e0 (by omega)
  have : (7 : Int32).toInt = 7 := by decide
  have := e_iaddN e1 (by omega)
  have := rng64 q1
  have := e_sszL e2
  have := e_iaddN e3 (by omega)
  have : (16 : Int32).toInt = 16 := by decide
  have := e_isubN e4 (by omega)
  have := i_nlt hq4
  have : (2 : Int32).toInt = 2 := by decide
  have := e_iaddN e5 (by omega)
  have := e_isubN e6 (by omega)
  have := i_nlt hq5
  have := e_iaddN e7 (by omega)
  have := e_isubN e8 (by omega)
  have := i_lt hq6
  have := e_isubN e9 (by omega)
  have : (34 : Int32).toInt = 34 := by decide
  simp only [clampNat]
  omega
theorem own_d51 {p1 p2 v0 v1 v2 v3 v4 v5 v6 v7 v8 v9 : Int32} {q1 : Int64} (e0 : v0 = (0 + p1)) (e1 : v1 = (v0 + 7)) (e2 : v2 = (sszL q1)) (e3 : v3 = (v1 + v2)) (e4 : v4 = (v3 - 16)) (e5 : v5 = (v3 + 2)) (e6 : v6 = (v5 - 16)) (e7 : v7 = (v5 + p2)) (e8 : v8 = (v7 - 16)) (e9 : v9 = (v7 - 0)) (hq0 : ¬ (p1 < 0)) (hq1 : p1 < 3) (hq2 : ¬ (p2 < 0)) (hq3 : p2 < 3) (hq4 : ¬ (0 < v4)) (hq5 : ¬ (0 < v6)) (hq6 : 0 < v8) : 0 + v9.toNatClampNeg ≤ v9.toNatClampNeg := by
  have := rng32 p1
  have : (0 : Int32).toInt = 0 := by decide
  have := i_nlt hq0
  have : (3 : Int32).toInt = 3 := by decide
  have := i_lt hq1
  have := rng32 p2
  have := i_nlt hq2
  have := i_lt hq3
  have := e_iaddN e0 (by omega)
  have : (7 : Int32).toInt = 7 := by decide
  have := e_iaddN e1 (by omega)
  have := rng64 q1
  have := e_sszL e2
  have := e_iaddN e3 (by omega)
  have : (16 : Int32).toInt = 16 := by decide
  have := e_isubN e4 (by omega)
  have := i_nlt hq4
  have : (2 : Int32).toInt = 2 := by decide
  have := e_iaddN e5 (by omega)
  have := e_isubN e6 (by omega)
  have := i_nlt hq5
  have := e_iaddN e7 (by omega)
  have := e_isubN e8 (by omega)
  have := i_lt hq6
  have := e_isubN e9 (by omega)
  simp only [clampNat]
  omega
theorem own_d52 {p1 p2 v0 v1 v2 v3 v4 v5 v6 v7 v8 v9 : Int32} {q1 : Int64} (e0 : v0 = (0 + p1)) (e1 : v1 = (v0 + 7)) (e2 : v2 = (sszL q1)) (e3 : v3 = (v1 + v2)) (e4 : v4 = (v3 - 16)) (e5 : v5 = (v3 + 2)) (e6 : v6 = (v5 - 16)) (e7 : v7 = (v5 + p2)) (e8 : v8 = (v7 - 16)) (e9 : v9 = (v5 <<< ((0 : Int32) &&& 31))) (hq0 : ¬ (p1 < 0)) (hq1 : p1 < 3) (hq2 : ¬ (p2 < 0)) (hq3 : p2 < 3) (hq4 : ¬ (0 < v4)) (hq5 : ¬ (0 < v6)) (hq6 : ¬ (0 < v8)) : ¬ (v9 < 0) := by
  have := rng32 p1
  have : (0 : Int32).toInt = 0 := by decide
  have := i_nlt hq0
  have : (3 : Int32).toInt = 3 := by decide
  have := i_lt hq1
  have := rng32 p2
  have := i_nlt hq2
  have := i_lt hq3
  have := e_iaddN e0 (by omega)
  have : (7 : Int32).toInt = 7 := by decide
  have := e_iaddN e1 (by omega)
  have := rng64 q1
  have := e_sszL e2
  have := e_iaddN e3 (by omega)
  have : (16 : Int32).toInt = 16 := by decide
  have := e_isubN e4 (by omega)
  have := i_nlt hq4
  have : (2 : Int32).toInt = 2 := by decide
  have := e_iaddN e5 (by omega)
  have := e_isubN e6 (by omega)
  have := i_nlt hq5
  have := e_iaddN e7 (by omega)
  have := e_isubN e8 (by omega)
  have := i_nlt hq6
  have := e_ishlN e9 0 1 (by omega)
  exact o_nlt (by omega)
theorem own_d53 {p1 p2 v0 v1 v2 v3 v4 v5 v6 v7 v8 : Int32} {q1 : Int64} (e0 : v0 = (0 + p1)) (e1 : v1 = (v0 + 7)) (e2 : v2 = (sszL q1)) (e3 : v3 = (v1 + v2)) (e4 : v4 = (v3 - 16)) (e5 : v5 = (v3 + 2)) (e6 : v6 = (v5 - 16)) (e7 : v7 = (v5 + p2)) (e8 : v8 = (v7 - 16)) (hq0 : ¬ (p1 < 0)) (hq1 : p1 < 3) (hq2 : ¬ (p2 < 0)) (hq3 : p2 < 3) (hq4 : ¬ (0 < v4)) (hq5 : ¬ (0 < v6)) (hq6 : ¬ (0 < v8)) : 0 + p2.toNatClampNeg ≤ p2.toNatClampNeg := by
  have := rng32 p1
  have : (0 : Int32).toInt = 0 := by decide
  have := i_nlt hq0
  have : (3 : Int32).toInt = 3 := by decide
  have := i_lt hq1
  have := rng32 p2
  have := i_nlt hq2
  have := i_lt hq3
  have := e_iaddN e0 (by omega)
  have : (7 : Int32).toInt = 7 := by decide
  have := e_iaddN e1 (by omega)
  have := rng64 q1
  have := e_sszL e2
  have := e_iaddN e3 (by omega)
  have : (16 : Int32).toInt = 16 := by decide
  have := e_isubN e4 (by omega)
  have := i_nlt hq4
  have : (2 : Int32).toInt = 2 := by decide
  have := e_iaddN e5 (by omega)
  have := e_isubN e6 (by omega)
  have := i_nlt hq5
  have := e_iaddN e7 (by omega)
  have := e_isubN e8 (by omega)
  have := i_nlt hq6
  simp only [clampNat]
  omega
theorem own_d54 {p1 p2 v0 v1 v2 v3 v4 v5 v6 v7 v8 v9 : Int32} {q1 : Int64} (e0 : v0 = (0 + p1)) (e1 : v1 = (v0 + 7)) (e2 : v2 = (sszL q1)) (e3 : v3 = (v1 + v2)) (e4 : v4 = (v3 - 16)) (e5 : v5 = (v3 + 2)) (e6 : v6 = (v5 - 16)) (e7 : v7 = (v5 + p2)) (e8 : v8 = (v7 - 16)) (e9 : v9 = (v5 <<< ((0 : Int32) &&& 31))) (hq0 : ¬ (p1 < 0)) (hq1 : p1 < 3) (hq2 : ¬ (p2 < 0)) (hq3 : p2 < 3) (hq4 : ¬ (0 < v4)) (hq5 : ¬ (0 < v6)) (hq6 : ¬ (0 < v8)) : v9.toNatClampNeg + p2.toNatClampNeg ≤ 16 := by
  have := rng32 p1
  have : (0 : Int32).toInt = 0 := by decide
  have := i_nlt hq0
  have : (3 : Int32).toInt = 3 := by decide
  have := i_lt hq1
  have := rng32 p2
  have := i_nlt hq2
  have := i_lt hq3
  have := e_iaddN e0 (by omega)
  have : (7 : Int32).toInt = 7 := by decide
  have := e_iaddN e1 (by omega)
  have := rng64 q1
  have := e_sszL e2
  have := e_iaddN e3 (by omega)
  have : (16 : Int32).toInt = 16 := by decide
  have := e_isubN e4 (by omega)
  have := i_nlt hq4
  have : (2 : Int32).toInt = 2 := by decide
  have := e_iaddN e5 (by omega)
  have := e_isubN e6 (by omega)
  have := i_nlt hq5
  have := e_iaddN e7 (by omega)
  have := e_isubN e8 (by omega)
  have := i_nlt hq6
  have := e_ishlN e9 0 1 (by omega)
  simp only [clampNat]
  omega
theorem R_15_6 {a1 a2 a4 : Addr} {p3 p5 : Int32} {f6 f7 : Nat → Int32} (hw : HW a0 Z) (G : Gl Z w_CS w_SF w_DO w_DT w_fO w_fT w_US w_SS) (pr1 : Obj Z h0 a1 litL [.ref a4, .int 0]) (pr2 : Ary Z h0 a4 (T2, .byte) p5.toNatClampNeg (bv f6)) (pr3 : ¬ (p5 < 0)) (pr4 : Ary Z h0 a2 ATB 16 (bv f7)) (pr5 : n0 ≤ a2) (pr6 : ¬ ((p3 <<< ((0 : Int32) &&& 31)) < 0)) (pr7 : 0 + p5.toNatClampNeg ≤ p5.toNatClampNeg) (pr8 : (p3 <<< ((0 : Int32) &&& 31)).toNatClampNeg + p5.toNatClampNeg ≤ 16) : Mt false [] l Y15 C15 (rmk 1 0 0 18) #[.ref a1, .ref a2, .int p3, .int 0] Z a0 h0 n0 (K0 h0 [a2] fun h => Ary Z h a2 ATB 16 (bv (cpyi f6 f7 0 (p3 <<< ((0 : Int32) &&& 31)).toNatClampNeg p5.toNatClampNeg))) := by
  refine Mt.go PN15 (Or.inl rfl) ef_RRII_4 fun k => ?_
  replace k := k |>.aloadN D15_0 rfl rfl
  replace k := (k.callV (w_77 hw) (V_Y6_6_String hw) pr1.exa (R_6_1 hw G pr1) D15_1 0 rfl).pv
  replace k := k |>.iloadN D15_4 rfl |>.icmpNo D15_5  |>.aloadN D15_8 rfl rfl |>.getF (fl_24 hw) pr1 0 D15_9 rfl rfl |>.iconst D15_12 0 |>.aloadN D15_13 rfl rfl |>.iloadN D15_14 rfl |>.iloadN D15_15 rfl |>.ishl D15_16 rfl |>.aloadN D15_17 rfl rfl |>.getF (fl_24 hw) pr1 0 D15_18 rfl rfl |>.alen pr2 D15_21 (lenS pr3)
  obtain ⟨h2, K2, O2, k⟩ := k.acopy (w_105 hw) (w_108 hw) (w_106 hw) (w_107 hw) pr2 pr4 ⟨rfl, rfl⟩ (sp' := 0) (by decide) (dp' := (p3 <<< ((0 : Int32) &&& 31)).toNatClampNeg) (nnS pr6) (nn' := p5.toNatClampNeg) (nnS pr3) pr7 pr8 bv_cpy pr5 D15_22 0
  replace k := k |>.goto D15_25
  exact k.ret0 D15_43 rfl ⟨rfl, K2, O2⟩
theorem R_13_6 {a1 a3 a4 a5 : Addr} {p2 p6 : Int32} {f7 f8 : Nat → Int32} (hw : HW a0 Z) (G : Gl Z w_CS w_SF w_DO w_DT w_fO w_fT w_US w_SS) (pr1 : Obj Z h0 a1 L_StringBuilder [.ref a4, .int 0, .int p2]) (pr2 : Obj Z h0 a3 litL [.ref a5, .int 0]) (pr3 : Ary Z h0 a5 (T2, .byte) p6.toNatClampNeg (bv f7)) (pr4 : ¬ (p6 < 0)) (pr5 : Ary Z h0 a4 ATB 16 (bv f8)) (pr6 : n0 ≤ a4) (pr7 : ¬ ((p2 <<< ((0 : Int32) &&& 31)) < 0)) (pr8 : 0 + p6.toNatClampNeg ≤ p6.toNatClampNeg) (pr9 : (p2 <<< ((0 : Int32) &&& 31)).toNatClampNeg + p6.toNatClampNeg ≤ 16) : Mt false [] l Y13 C13 (rmk 2 0 0 33) #[.ref a1, .int p2, .ref a3] Z a0 h0 n0 (K0 h0 [a4] fun h => Ary Z h a4 ATB 16 (bv (cpyi f7 f8 0 (p2 <<< ((0 : Int32) &&& 31)).toNatClampNeg p6.toNatClampNeg))) := by
  refine Mt.go PN13 (Or.inl rfl) ef_RIR_3 fun k => ?_
  replace k := k |>.aloadN D13_0 rfl rfl |>.aloadN D13_1 rfl rfl
  replace k := (k.callP (w_94 hw) (P14 hw) pr1.exa (R_14_2 hw G pr1 pr2) D13_2 0 rfl).p0
  replace k := k |>.aloadN D13_5 rfl rfl |>.aloadN D13_6 rfl rfl |>.getF (fl_58 hw) pr1 0 D13_7 rfl rfl |>.iloadN D13_10 rfl |>.aloadN D13_11 rfl rfl |>.getF (fl_60 hw) pr1 1 D13_12 rfl rfl
  obtain ⟨h2, K2, f2_0, k⟩ := (k.callV (w_100 hw) (V_Y15_15_String hw) pr2.exa (R_15_6 hw G pr2 pr3 pr4 pr5 pr6 pr7 pr8 pr9) D13_15 0 rfl).k0 (allS pr6 all0)
  exact k.ret0 D13_18 rfl ⟨rfl, K2, f2_0⟩
theorem R_11_10 {a1 a2 a3 a6 : Addr} {p4 p7 : Int32} {f5 f8 : Nat → Int32} (hw : HW a0 Z) (G : Gl Z w_CS w_SF w_DO w_DT w_fO w_fT w_US w_SS) (pr1 : Obj Z h0 a2 litL [.ref a3, .int 0]) (pr2 : Ary Z h0 a3 (T2, .byte) p4.toNatClampNeg (bv f5)) (pr3 : ¬ (p4 < 0)) (pr4 : Obj Z h0 a1 L_StringBuilder [.ref a6, .int 0, .int p7]) (pr5 : Ary Z h0 a6 ATB 16 (bv f8)) (pr6 : ¬ (0 < ((p7 + p4) - 16))) (pr7 : n0 ≤ a6) (pr8 : ¬ ((p7 <<< ((0 : Int32) &&& 31)) < 0)) (pr9 : 0 + p4.toNatClampNeg ≤ p4.toNatClampNeg) (pr10 : (p7 <<< ((0 : Int32) &&& 31)).toNatClampNeg + p4.toNatClampNeg ≤ 16) (pr11 : a1 ≠ a6) (pr12 : n0 ≤ a1) : Mt false [] l Y11 C11 (rmk 3 0 0 47) #[.ref a1, .ref a2] Z a0 h0 n0 (KpV h0 [a1, a6] fun v h => v = (.ref a1) ∧ Obj Z h a1 L_StringBuilder [.ref a6, .int 0, .int (p7 + p4)] ∧ Ary Z h a6 ATB 16 (bv (cpyi f5 f8 0 (p7 <<< ((0 : Int32) &&& 31)).toNatClampNeg p4.toNatClampNeg))) := by
  refine Mt.go PN11 (Or.inl rfl) ef_RR_3 fun k => ?_
  replace k := k |>.aloadN D11_0 rfl rfl |>.ifnonnullYes D11_1 |>.aloadN D11_9 rfl rfl
  replace k := (k.callV (w_72 hw) (V_Y5_5_String hw) pr1.exa (R_len hw G pr1 pr2 pr3) D11_10 0 rfl).pv
  replace k := k |>.istoreN D11_13 sto2 |>.aloadN D11_14 rfl rfl |>.aloadN D11_15 rfl rfl |>.getF (fl_82 hw) pr4 2 D11_16 rfl rfl |>.iloadN D11_19 rfl |>.iadd D11_20 rfl
  replace k := (k.callP (w_84 hw) (P12 hw) pr4.exa (R_12_2 hw G pr4 pr5 pr6) D11_21 0 rfl).p0
  replace k := k |>.aloadN D11_24 rfl rfl |>.aloadN D11_25 rfl rfl |>.getF (fl_82 hw) pr4 2 D11_26 rfl rfl |>.aloadN D11_29 rfl rfl
  obtain ⟨h2, K2, f2_0, k⟩ := (k.callP (w_89 hw) (P13 hw) pr4.exa (R_13_6 hw G pr4 pr1 pr2 pr3 pr5 pr7 pr8 pr9 pr10) D11_30 0 rfl).k0 (allS pr7 all0)
  replace k := k |>.aloadN D11_33 rfl rfl |>.dup D11_34 rfl
  have o3 := pr4.keep K2 (ninS pr11 nin0)
  replace k := k |>.getF (fl_82 hw) o3 2 D11_35 rfl rfl |>.iloadN D11_38 rfl |>.iadd D11_39 rfl
  obtain ⟨h4, K4, O4, k⟩ := k.putF (fl_82 hw) (pw_AbstractStringBuilder_m_StringBuilder_count hw) o3 2 pr12 (Or.inl rfl) D11_40 rfl rfl rfl ls2
  replace k := k |>.aloadN D11_43 rfl rfl
  have o5 := f2_0.keep K4 (ninS (Ne.symm pr11) nin0)
  exact k.retA D11_44 rfl ⟨_, rfl, (((Keep.refl h0 [a1, a6]).trans K2 (allS (Or.inl (List.mem_of_getElem? (i := 1) rfl)) all0)).trans K4 (allS (Or.inl (List.mem_of_getElem? (i := 0) rfl)) all0)), rfl, O4, o5⟩
theorem R_10_10 {a1 a2 a3 a6 : Addr} {p4 p7 : Int32} {f5 f8 : Nat → Int32} (hw : HW a0 Z) (G : Gl Z w_CS w_SF w_DO w_DT w_fO w_fT w_US w_SS) (pr1 : Obj Z h0 a2 litL [.ref a3, .int 0]) (pr2 : Ary Z h0 a3 (T2, .byte) p4.toNatClampNeg (bv f5)) (pr3 : ¬ (p4 < 0)) (pr4 : Obj Z h0 a1 L_StringBuilder [.ref a6, .int 0, .int p7]) (pr5 : Ary Z h0 a6 ATB 16 (bv f8)) (pr6 : ¬ (0 < ((p7 + p4) - 16))) (pr7 : n0 ≤ a6) (pr8 : ¬ ((p7 <<< ((0 : Int32) &&& 31)) < 0)) (pr9 : 0 + p4.toNatClampNeg ≤ p4.toNatClampNeg) (pr10 : (p7 <<< ((0 : Int32) &&& 31)).toNatClampNeg + p4.toNatClampNeg ≤ 16) (pr11 : a1 ≠ a6) (pr12 : n0 ≤ a1) : Mt false [] l Y10 C10 (rmk 4 0 0 61) #[.ref a1, .ref a2] Z a0 h0 n0 (KpV h0 [a1, a6] fun v h => v = (.ref a1) ∧ Obj Z h a1 L_StringBuilder [.ref a6, .int 0, .int (p7 + p4)] ∧ Ary Z h a6 ATB 16 (bv (cpyi f5 f8 0 (p7 <<< ((0 : Int32) &&& 31)).toNatClampNeg p4.toNatClampNeg))) := by
  refine Mt.go PN10 (Or.inl rfl) ef_RR_2 fun k => ?_
  replace k := k |>.aloadN D10_0 rfl rfl |>.aloadN D10_1 rfl rfl
  obtain ⟨_, h1, K1, ⟨rfl, f1_0, f1_1⟩, k⟩ := (k.callX (w_67 hw) (sameOf (y := Y11) (by decide) (by rfl) (w_70 hw) (w_87 hw)) (w_68 hw) (w_69 hw) (by decide) (CW11 hw) pr4.exa (R_11_10 hw G pr1 pr2 pr3 pr4 pr5 pr6 pr7 pr8 pr9 pr10 pr11 pr12) D10_2 0 rfl).kv (allS pr12 (allS pr7 all0))
  replace k := k |>.pop D10_5 rfl |>.aloadN D10_6 rfl rfl
  exact k.retA D10_7 rfl ⟨_, rfl, K1, rfl, f1_0, f1_1⟩
theorem D30_17 : Dc J30 17 (.aload_n 0) 1 18 := by decide +kernel
theorem D30_18 : Dc J30 18 (.invokevirtual 310) 3 21 := by decide +kernel
abbrev w_320 (hw : HW a0 Z) := hw.at 320 rfl
abbrev w_321 (hw : HW a0 Z) := hw.at 321 rfl
abbrev w_325 (hw : HW a0 Z) := hw.at 325 rfl
abbrev w_323 (hw : HW a0 Z) := hw.at 323 rfl
abbrev w_324 (hw : HW a0 Z) := hw.at 324 rfl
abbrev w_326 (hw : HW a0 Z) := hw.at 326 rfl
theorem D30_21 : Dc J30 21 (.checkcast 311) 3 24 := by decide +kernel
abbrev w_327 (hw : HW a0 Z) := hw.at 327 rfl
theorem D30_24 : Dc J30 24 .areturn 1 25 := by decide +kernel
theorem R_30_3 {a1 : Addr} {p2 : Int32} {f3 : Nat → Int32} (hw : HW a0 Z) (G : Gl Z w_CS w_SF w_DO w_DT w_fO w_fT w_US w_SS) (pr1 : Ary Z h0 a1 ATB 16 (bv f3)) (pr2 : p2 = 16) : Mt false [] l Y30 C30 (rmk 1 1 16 14) #[.ref a1, .int 0, .int p2] Z a0 h0 n0 (KpV h0 [] fun v h => ∃ u1 : Addr, v = (.ref u1) ∧ h0.size ≤ u1 ∧ Ary Z h u1 ATB 16 (bv f3)) := by
  refine Mt.go PN30 (Or.inl rfl) ef_RII_3 fun k => ?_
  replace k := k |>.iloadN D30_0 rfl |>.ifNo D30_1  |>.iloadN D30_4 rfl |>.aloadN D30_5 rfl rfl |>.alen pr1 D30_6 (z := 16) (by decide) |>.icmpYes D30_7 (teq pr2).1 |>.aloadN D30_17 rfl rfl
  have z1 := k.sz
  obtain ⟨b1, h1, g1, K1, O1, k⟩ := k.aclone (w_320 hw) (w_321 hw) (w_325 hw) (w_323 hw) (w_324 hw) (w_326 hw) pr1 (by decide) D30_18 0
  replace k := k |>.castY (w_327 hw) (Ins.self (O1.exa (by decide))) D30_21
  have s_b1 := Nat.le_trans z1 g1
  exact k.retA D30_24 rfl ⟨_, rfl, K1, b1, rfl, s_b1, O1⟩
theorem R_26_3 {a1 a2 a3 : Addr} {p4 : Int32} {f5 : Nat → Int32} (hw : HW a0 Z) (G : Gl Z w_CS w_SF w_DO w_DT w_fO w_fT w_US w_SS) (pr1 : Obj Z h0 a2 L_StringBuilder [.ref a3, .int 0, .int p4]) (pr2 : Obj Z h0 a1 L_String [.null, .int 0]) (pr3 : n0 ≤ a1) (pr4 : Ary Z h0 a3 ATB 16 (bv f5)) (pr5 : p4 = 16) (pr6 : a3 ≠ a1) : Mt false [] l Y26 C26 (rmk 2 1 16 29) #[.ref a1, .ref a2, .null] Z a0 h0 n0 (K0 h0 [a1] fun h => ∃ u1 : Addr, h0.size ≤ u1 ∧ Obj Z h a1 L_String [.ref u1, .int 0] ∧ Ary Z h u1 ATB 16 (bv f5)) := by
  refine Mt.go PN26 (Or.inl rfl) ef_RRN_5 fun k => ?_
  replace k := k |>.aloadN D26_0 rfl rfl |>.initO (w_15 hw) (w_16 hw) (w_17 hw) D26_1 0 |>.aloadN D26_4 rfl rfl
  replace k := (k.callV (w_148 hw) (V_Y27_27_StringBuilder hw) pr1.exa (R_27_1 hw G pr1) D26_5 0 rfl).pv
  replace k := k |>.astoreN D26_8 rfl sto3 |>.aloadN D26_9 rfl rfl
  replace k := (k.callV (w_153 hw) (V_Y29_28_StringBuilder hw) pr1.exa (R_28_1 hw G pr1) D26_10 0 rfl).pv
  replace k := k |>.istore D26_13 sto4 |>.aloadN D26_15 rfl rfl
  replace k := (k.callV (w_161 hw) (V_Y23_23_StringBuilder hw) pr1.exa (R_23_1 hw G pr1) D26_16 0 rfl).pv
  replace k := k |>.ifNo D26_19  |>.aloadN D26_22 rfl rfl |>.iconst D26_23 0
  obtain ⟨h4, K4, O4, k⟩ := k.putN (fp_25 hw) (pw_String_i_String_coder hw) pr2 1 pr3 (Or.inl rfl) D26_24 rfl (v' := (.int 0)) (by decide) (by decide) ls1
  replace k := k |>.aloadN D26_27 rfl rfl |>.aloadN D26_28 rfl rfl |>.iconst D26_29 0 |>.iload D26_30 rfl
  have o6 := pr4.keep K4 (ninS pr6 nin0)
  have z5 := k.sz
  obtain ⟨_, h5, K5, ⟨u1_5, rfl, f5_0, f5_1⟩, k⟩ := (k.callS (w_162 hw) (S30 hw) (R_30_3 hw G o6 pr5) D26_32 1 rfl).kv
  have o7 := O4.keep K5 nin0
  obtain ⟨h8, K8, O8, k⟩ := k.putF (fl_24 hw) (pw_String_i_String_value hw) o7 0 pr3 (Or.inl rfl) D26_35 rfl rfl rfl ls0
  replace k := k |>.goto D26_38
  have s_u1_5 := Nat.le_trans z5 f5_0
  have o9 := f5_1.keep K8 (ninS (nlt' pr2.lt s_u1_5) nin0)
  exact k.ret0 D26_97 rfl ⟨rfl, ((K4.trans K5 all0).trans K8 (allS (Or.inl (List.mem_of_getElem? (i := 0) rfl)) all0)), u1_5, s_u1_5, O8, o9⟩
theorem R_25_3 {a1 a2 a3 : Addr} {p4 : Int32} {f5 : Nat → Int32} (hw : HW a0 Z) (G : Gl Z w_CS w_SF w_DO w_DT w_fO w_fT w_US w_SS) (pr1 : Obj Z h0 a2 L_StringBuilder [.ref a3, .int 0, .int p4]) (pr2 : Obj Z h0 a1 L_String [.null, .int 0]) (pr3 : n0 ≤ a1) (pr4 : Ary Z h0 a3 ATB 16 (bv f5)) (pr5 : p4 = 16) (pr6 : a3 ≠ a1) : Mt false [] l Y25 C25 (rmk 3 1 16 45) #[.ref a1, .ref a2] Z a0 h0 n0 (K0 h0 [a1] fun h => ∃ u1 : Addr, h0.size ≤ u1 ∧ Obj Z h a1 L_String [.ref u1, .int 0] ∧ Ary Z h u1 ATB 16 (bv f5)) := by
  refine Mt.go PN25 (Or.inl rfl) ef_RR_2 fun k => ?_
  replace k := k |>.aloadN D25_0 rfl rfl |>.aloadN D25_1 rfl rfl |>.aconstNull D25_2
  have z1 := k.sz
  obtain ⟨h1, K1, ⟨u1_1, f1_0, f1_1, f1_2⟩, k⟩ := (k.callI (w_145 hw) (I26 hw) (R_26_3 hw G pr1 pr2 pr3 pr4 pr5 pr6) D25_3 0 rfl).k0 (allS pr3 all0)
  have s_u1_1 := Nat.le_trans z1 f1_0
  exact k.ret0 D25_6 rfl ⟨rfl, K1, u1_1, s_u1_1, f1_1, f1_2⟩
theorem R_24_3 {a1 a2 : Addr} {p3 : Int32} {f4 : Nat → Int32} (hw : HW a0 Z) (G : Gl Z w_CS w_SF w_DO w_DT w_fO w_fT w_US w_SS) (pr1 : Obj Z h0 a1 L_StringBuilder [.ref a2, .int 0, .int p3]) (pr2 : Ary Z h0 a2 ATB 16 (bv f4)) (pr3 : p3 = 16) : Mt false [] l Y24 C24 (rmk 4 2 20 59) #[.ref a1] Z a0 h0 n0 (KpV h0 [] fun v h => ∃ u1 u2 : Addr, v = (.ref u1) ∧ h0.size ≤ u1 ∧ h0.size ≤ u2 ∧ u2 ≠ u1 ∧ Obj Z h u1 L_String [.ref u2, .int 0] ∧ Ary Z h u2 ATB 16 (bv f4)) := by
  refine Mt.go PN24 (Or.inl rfl) ef_R_1 fun k => ?_
  have nz := k.n0le
  have z1 := k.sz
  obtain ⟨b1, h1, g1, K1, O1, k⟩ := k.new (L := L_String) (w_141 hw) (nw_String hw) D24_0 (by decide) dvL_String
  replace k := k |>.dup D24_3 rfl |>.aloadN D24_4 rfl rfl
  have s_b1 := Nat.le_trans z1 g1
  have n_b1 := Nat.le_trans nz s_b1
  have o3 := pr1.keep K1 nin0
  have o4 := pr2.keep K1 nin0
  have z2 := k.sz
  obtain ⟨h2, K2, ⟨u1_2, f2_0, f2_1, f2_2⟩, k⟩ := (k.callI (w_142 hw) (I25 hw) (R_25_3 hw G o3 O1 n_b1 o4 pr3 (nlt pr2.lt s_b1)) D24_5 1 rfl).k0 (allS n_b1 all0)
  have s_u1_2 := Nat.le_trans z2 f2_0
  exact k.retA D24_8 rfl ⟨_, rfl, (K1.trans K2 (allS (Or.inr s_b1) all0)), b1, u1_2, rfl, s_b1, s_u1_2, (nlt' O1.lt f2_0), f2_1, f2_2⟩
theorem own_d55 {p1 p2 v0 v1 v2 v3 v4 v5 v6 v7 v8 : Int32} {q1 : Int64} (e0 : v0 = (0 + p1)) (e1 : v1 = (v0 + 7)) (e2 : v2 = (sszL q1)) (e3 : v3 = (v1 + v2)) (e4 : v4 = (v3 - 16)) (e5 : v5 = (v3 + 2)) (e6 : v6 = (v5 - 16)) (e7 : v7 = (v5 + p2)) (e8 : v8 = (v7 - 16)) (hq0 : ¬ (p1 < 0)) (hq1 : p1 < 3) (hq2 : ¬ (p2 < 0)) (hq3 : p2 < 3) (hq4 : ¬ (0 < v4)) (hq5 : ¬ (0 < v6)) (hq6 : ¬ (0 < v8)) (hq7 : ¬ (v7 = 16)) : ¬ (v7 < 0) := by
  have := rng32 p1
  have : (0 : Int32).toInt = 0 := by decide
  have := i_nlt hq0
  have : (3 : Int32).toInt = 3 := by decide
  have := i_lt hq1
  have := rng32 p2
  have := i_nlt hq2
  have := i_lt hq3
  have := e_iaddN e0 (by omega)
  have : (7 : Int32).toInt = 7 := by decide
  have := e_iaddN e1 (by omega)
  have := rng64 q1
  have := e_sszL e2
  have := e_iaddN e3 (by omega)
  have : (16 : Int32).toInt = 16 := by decide
  have := e_isubN e4 (by omega)
  have := i_nlt hq4
  have : (2 : Int32).toInt = 2 := by decide
  have := e_iaddN e5 (by omega)
  have := e_isubN e6 (by omega)
  have := i_nlt hq5
  have := e_iaddN e7 (by omega)
  have := i_neq hq7
  have := e_isubN e8 (by omega)
  have := i_nlt hq6
  exact o_nlt (by omega)
theorem own_d56 {p1 p2 v0 v1 v2 v3 v4 v5 v6 v7 v8 v9 : Int32} {q1 : Int64} (e0 : v0 = (0 + p1)) (e1 : v1 = (v0 + 7)) (e2 : v2 = (sszL q1)) (e3 : v3 = (v1 + v2)) (e4 : v4 = (v3 - 16)) (e5 : v5 = (v3 + 2)) (e6 : v6 = (v5 - 16)) (e7 : v7 = (v5 + p2)) (e8 : v8 = (v7 - 16)) (e9 : v9 = (v7 - 0)) (hq0 : ¬ (p1 < 0)) (hq1 : p1 < 3) (hq2 : ¬ (p2 < 0)) (hq3 : p2 < 3) (hq4 : ¬ (0 < v4)) (hq5 : ¬ (0 < v6)) (hq6 : ¬ (0 < v8)) (hq7 : ¬ (v7 = 16)) : ¬ (v9 < 0) := by
  have := rng32 p1
  have : (0 : Int32).toInt = 0 := by decide
  have := i_nlt hq0
  have : (3 : Int32).toInt = 3 := by decide
  have := i_lt hq1
  have := rng32 p2
  have := i_nlt hq2
  have := i_lt hq3
  have := e_iaddN e0 (by omega)
  have : (7 : Int32).toInt = 7 := by decide
  have := e_iaddN e1 (by omega)
  have := rng64 q1
  have := e_sszL e2
  have := e_iaddN e3 (by omega)
  have : (16 : Int32).toInt = 16 := by decide
  have := e_isubN e4 (by omega)
  have := i_nlt hq4
  have : (2 : Int32).toInt = 2 := by decide
  have := e_iaddN e5 (by omega)
  have := e_isubN e6 (by omega)
  have := i_nlt hq5
  have := e_iaddN e7 (by omega)
  have := i_neq hq7
  have := e_isubN e8 (by omega)
  have := i_nlt hq6
  have := e_isubN e9 (by omega)
  exact o_nlt (by omega)
theorem own_d57 {p1 p2 v0 v1 v2 v3 v4 v5 v6 v7 v8 v9 : Int32} {q1 : Int64} (e0 : v0 = (0 + p1)) (e1 : v1 = (v0 + 7)) (e2 : v2 = (sszL q1)) (e3 : v3 = (v1 + v2)) (e4 : v4 = (v3 - 16)) (e5 : v5 = (v3 + 2)) (e6 : v6 = (v5 - 16)) (e7 : v7 = (v5 + p2)) (e8 : v8 = (v7 - 16)) (e9 : v9 = (v7 - 0)) (hq0 : ¬ (p1 < 0)) (hq1 : p1 < 3) (hq2 : ¬ (p2 < 0)) (hq3 : p2 < 3) (hq4 : ¬ (0 < v4)) (hq5 : ¬ (0 < v6)) (hq6 : ¬ (0 < v8)) (hq7 : ¬ (v7 = 16)) : v9.toNatClampNeg ≤ 80 := by
  have := rng32 p1
  have : (0 : Int32).toInt = 0 := by decide
  have := i_nlt hq0
  have : (3 : Int32).toInt = 3 := by decide
  have := i_lt hq1
  have := rng32 p2
  have := i_nlt hq2
  have := i_lt hq3
  have := e_iaddN e0 (by omega)
  have : (7 : Int32).toInt = 7 := by decide
  have := e_iaddN e1 (by omega)
  have := rng64 q1
  have := e_sszL e2
  have := e_iaddN e3 (by omega)
  have : (16 : Int32).toInt = 16 := by decide
  have := e_isubN e4 (by omega)
  have := i_nlt hq4
  have : (2 : Int32).toInt = 2 := by decide
  have := e_iaddN e5 (by omega)
  have := e_isubN e6 (by omega)
  have := i_nlt hq5
  have := e_iaddN e7 (by omega)
  have := e_isubN e8 (by omega)
  have := i_nlt hq6
  have := i_neq hq7
  have := e_isubN e9 (by omega)
  have : (80 : Int32).toInt = 80 := by decide
  simp only [clampNat]
  omega
theorem own_d58 {p1 p2 v0 v1 v2 v3 v4 v5 v6 v7 v8 v9 : Int32} {q1 : Int64} (e0 : v0 = (0 + p1)) (e1 : v1 = (v0 + 7)) (e2 : v2 = (sszL q1)) (e3 : v3 = (v1 + v2)) (e4 : v4 = (v3 - 16)) (e5 : v5 = (v3 + 2)) (e6 : v6 = (v5 - 16)) (e7 : v7 = (v5 + p2)) (e8 : v8 = (v7 - 16)) (e9 : v9 = (v7 - 0)) (hq0 : ¬ (p1 < 0)) (hq1 : p1 < 3) (hq2 : ¬ (p2 < 0)) (hq3 : p2 < 3) (hq4 : ¬ (0 < v4)) (hq5 : ¬ (0 < v6)) (hq6 : ¬ (0 < v8)) (hq7 : ¬ (v7 = 16)) : v9 < 16 := by
  have := rng32 p1
  have : (0 : Int32).toInt = 0 := by decide
  have := i_nlt hq0
  have : (3 : Int32).toInt = 3 := by decide
  have := i_lt hq1
  have := rng32 p2
  have := i_nlt hq2
  have := i_lt hq3
  have := e_iaddN e0 (by omega)
  have : (7 : Int32).toInt = 7 := by decide
  have := e_iaddN e1 (by omega)
  have := rng64 q1
  have := e_sszL e2
  have := e_iaddN e3 (by omega)
  have : (16 : Int32).toInt = 16 := by decide
  have := e_isubN e4 (by omega)
  have := i_nlt hq4
  have : (2 : Int32).toInt = 2 := by decide
  have := e_iaddN e5 (by omega)
  have := e_isubN e6 (by omega)
  have := i_nlt hq5
  have := e_iaddN e7 (by omega)
  have := i_neq hq7
  have := e_isubN e8 (by omega)
  have := i_nlt hq6
  have := e_isubN e9 (by omega)
  exact o_lt (by omega)
theorem own_d59 {p1 p2 v0 v1 v2 v3 v4 v5 v6 v7 v8 v9 : Int32} {q1 : Int64} (e0 : v0 = (0 + p1)) (e1 : v1 = (v0 + 7)) (e2 : v2 = (sszL q1)) (e3 : v3 = (v1 + v2)) (e4 : v4 = (v3 - 16)) (e5 : v5 = (v3 + 2)) (e6 : v6 = (v5 - 16)) (e7 : v7 = (v5 + p2)) (e8 : v8 = (v7 - 16)) (e9 : v9 = (v7 - 0)) (hq0 : ¬ (p1 < 0)) (hq1 : p1 < 3) (hq2 : ¬ (p2 < 0)) (hq3 : p2 < 3) (hq4 : ¬ (0 < v4)) (hq5 : ¬ (0 < v6)) (hq6 : ¬ (0 < v8)) (hq7 : ¬ (v7 = 16)) : 0 + v9.toNatClampNeg ≤ 16 := by
  have := rng32 p1
  have : (0 : Int32).toInt = 0 := by decide
  have := i_nlt hq0
  have : (3 : Int32).toInt = 3 := by decide
  have := i_lt hq1
  have := rng32 p2
  have := i_nlt hq2
  have := i_lt hq3
  have := e_iaddN e0 (by omega)
  have : (7 : Int32).toInt = 7 := by decide
  have := e_iaddN e1 (by omega)
  have := rng64 q1
  have := e_sszL e2
  have := e_iaddN e3 (by omega)
  have : (16 : Int32).toInt = 16 := by decide
  have := e_isubN e4 (by omega)
  have := i_nlt hq4
  have : (2 : Int32).toInt = 2 := by decide
  have := e_iaddN e5 (by omega)
  have := e_isubN e6 (by omega)
  have := i_nlt hq5
  have := e_iaddN e7 (by omega)
  have := e_isubN e8 (by omega)
  have := i_nlt hq6
  have := i_neq hq7
  have := e_isubN e9 (by omega)
  simp only [clampNat]
  omega
theorem own_d60 {p1 p2 v0 v1 v2 v3 v4 v5 v6 v7 v8 v9 : Int32} {q1 : Int64} (e0 : v0 = (0 + p1)) (e1 : v1 = (v0 + 7)) (e2 : v2 = (sszL q1)) (e3 : v3 = (v1 + v2)) (e4 : v4 = (v3 - 16)) (e5 : v5 = (v3 + 2)) (e6 : v6 = (v5 - 16)) (e7 : v7 = (v5 + p2)) (e8 : v8 = (v7 - 16)) (e9 : v9 = (v7 - 0)) (hq0 : ¬ (p1 < 0)) (hq1 : p1 < 3) (hq2 : ¬ (p2 < 0)) (hq3 : p2 < 3) (hq4 : ¬ (0 < v4)) (hq5 : ¬ (0 < v6)) (hq6 : ¬ (0 < v8)) (hq7 : ¬ (v7 = 16)) : 0 + v9.toNatClampNeg ≤ v9.toNatClampNeg := by
  have := rng32 p1
  have : (0 : Int32).toInt = 0 := by decide
  have := i_nlt hq0
  have : (3 : Int32).toInt = 3 := by decide
  have := i_lt hq1
  have := rng32 p2
  have := i_nlt hq2
  have := i_lt hq3
  have := e_iaddN e0 (by omega)
  have : (7 : Int32).toInt = 7 := by decide
  have := e_iaddN e1 (by omega)
  have := rng64 q1
  have := e_sszL e2
  have := e_iaddN e3 (by omega)
  have : (16 : Int32).toInt = 16 := by decide
  have := e_isubN e4 (by omega)
  have := i_nlt hq4
  have : (2 : Int32).toInt = 2 := by decide
  have := e_iaddN e5 (by omega)
  have := e_isubN e6 (by omega)
  have := i_nlt hq5
  have := e_iaddN e7 (by omega)
  have := e_isubN e8 (by omega)
  have := i_nlt hq6
  have := i_neq hq7
  have := e_isubN e9 (by omega)
  simp only [clampNat]
  omega
theorem R_31_2 {a1 : Addr} {p2 : Int32} {f3 : Nat → Int32} (hw : HW a0 Z) (G : Gl Z w_CS w_SF w_DO w_DT w_fO w_fT w_US w_SS) (pr1 : ¬ (p2 < 0)) (pr2 : ¬ ((p2 - 0) < 0)) (pr3 : (p2 - 0).toNatClampNeg ≤ 80) (pr4 : Ary Z h0 a1 ATB 16 (bv f3)) (pr5 : (p2 - 0) < 16) (pr6 : 0 + (p2 - 0).toNatClampNeg ≤ 16) (pr7 : 0 + (p2 - 0).toNatClampNeg ≤ (p2 - 0).toNatClampNeg) : Mt false [] l Y31 C31 (rmk 1 1 80 18) #[.ref a1, .int 0, .int p2] Z a0 h0 n0 (KpV h0 [] fun v h => ∃ u1 : Addr, v = (.ref u1) ∧ h0.size ≤ u1 ∧ Ary Z h u1 ATB (p2 - 0).toNatClampNeg (bv (cpyi f3 (fun _ => 0) 0 0 (p2 - 0).toNatClampNeg))) := by
  refine Mt.go PN31 (Or.inl rfl) ef_RII_5 fun k => ?_
  have nz := k.n0le
  replace k := k |>.iloadN D31_0 rfl |>.iloadN D31_1 rfl
  replace k := (k.callS (w_169 hw) (S32 hw) (R_32_1 hw G pr1) D31_2 0 rfl).p0
  replace k := k |>.iloadN D31_5 rfl |>.iloadN D31_6 rfl |>.isub D31_7 rfl |>.istoreN D31_8 sto3 |>.iloadN D31_9 rfl
  have z2 := k.sz
  obtain ⟨b2, h2, g2, K2, O2, k⟩ := k.newP (aty := .byte) "[B" (w_19 hw) (by decide) D31_10 80 pr2 (n := (p2 - 0).toNatClampNeg) rfl pr3 (by decide) bv_zero
  replace k := k |>.astore D31_12 rfl sto4 |>.aloadN D31_14 rfl rfl |>.iloadN D31_15 rfl |>.aload D31_16 rfl rfl |>.iconst D31_18 0 |>.aloadN D31_19 rfl rfl
  have o3 := pr4.keep K2 nin0
  replace k := k |>.alen o3 D31_20 (z := 16) (by decide) |>.iloadN D31_21 rfl |>.isub D31_22 (z := 16) |>.iloadN D31_23 rfl
  replace k := (k.callS (w_172 hw) (S22 hw) (R_22_2 hw G pr5 (p1 := 16)) D31_24 4 rfl).pv
  have s_b2 := Nat.le_trans z2 g2
  have n_b2 := Nat.le_trans nz s_b2
  obtain ⟨h5, K5, O5, k⟩ := k.acopy (w_176 hw) (w_108 hw) (w_106 hw) (w_107 hw) o3 O2 ⟨rfl, rfl⟩ (sp' := 0) (by decide) (dp' := 0) (by decide) (nn' := (p2 - 0).toNatClampNeg) (nnS pr2) pr6 pr7 bv_cpy n_b2 D31_27 0
  replace k := k |>.aload D31_30 rfl rfl
  exact k.retA D31_32 rfl ⟨_, rfl, (K2.trans K5 (allS (Or.inr s_b2) all0)), b2, rfl, s_b2, O5⟩
theorem R_30_4 {a1 : Addr} {p2 : Int32} {f3 : Nat → Int32} (hw : HW a0 Z) (G : Gl Z w_CS w_SF w_DO w_DT w_fO w_fT w_US w_SS) (pr1 : Ary Z h0 a1 ATB 16 (bv f3)) (pr2 : ¬ (p2 = 16)) (pr3 : ¬ (p2 < 0)) (pr4 : ¬ ((p2 - 0) < 0)) (pr5 : (p2 - 0).toNatClampNeg ≤ 80) (pr6 : (p2 - 0) < 16) (pr7 : 0 + (p2 - 0).toNatClampNeg ≤ 16) (pr8 : 0 + (p2 - 0).toNatClampNeg ≤ (p2 - 0).toNatClampNeg) : Mt false [] l Y30 C30 (rmk 2 1 80 34) #[.ref a1, .int 0, .int p2] Z a0 h0 n0 (KpV h0 [] fun v h => ∃ u1 : Addr, v = (.ref u1) ∧ h0.size ≤ u1 ∧ Ary Z h u1 ATB (p2 - 0).toNatClampNeg (bv (cpyi f3 (fun _ => 0) 0 0 (p2 - 0).toNatClampNeg))) := by
  refine Mt.go PN30 (Or.inl rfl) ef_RII_3 fun k => ?_
  replace k := k |>.iloadN D30_0 rfl |>.ifNo D30_1  |>.iloadN D30_4 rfl |>.aloadN D30_5 rfl rfl |>.alen pr1 D30_6 (z := 16) (by decide) |>.icmpNo D30_7 (feq pr2).1 |>.aloadN D30_10 rfl rfl |>.iloadN D30_11 rfl |>.iloadN D30_12 rfl
  have z1 := k.sz
  obtain ⟨_, h1, K1, ⟨u1_1, rfl, f1_0, f1_1⟩, k⟩ := (k.callS (w_166 hw) (S31 hw) (R_31_2 hw G pr3 pr4 pr5 pr1 pr6 pr7 pr8) D30_13 0 rfl).kv
  have s_u1_1 := Nat.le_trans z1 f1_0
  exact k.retA D30_16 rfl ⟨_, rfl, K1, u1_1, rfl, s_u1_1, f1_1⟩
theorem R_26_4 {a1 a2 a3 : Addr} {p4 : Int32} {f5 : Nat → Int32} (hw : HW a0 Z) (G : Gl Z w_CS w_SF w_DO w_DT w_fO w_fT w_US w_SS) (pr1 : Obj Z h0 a2 L_StringBuilder [.ref a3, .int 0, .int p4]) (pr2 : Obj Z h0 a1 L_String [.null, .int 0]) (pr3 : n0 ≤ a1) (pr4 : Ary Z h0 a3 ATB 16 (bv f5)) (pr5 : ¬ (p4 = 16)) (pr6 : ¬ (p4 < 0)) (pr7 : ¬ ((p4 - 0) < 0)) (pr8 : (p4 - 0).toNatClampNeg ≤ 80) (pr9 : (p4 - 0) < 16) (pr10 : 0 + (p4 - 0).toNatClampNeg ≤ 16) (pr11 : 0 + (p4 - 0).toNatClampNeg ≤ (p4 - 0).toNatClampNeg) (pr12 : a3 ≠ a1) : Mt false [] l Y26 C26 (rmk 3 1 80 49) #[.ref a1, .ref a2, .null] Z a0 h0 n0 (K0 h0 [a1] fun h => ∃ u1 : Addr, h0.size ≤ u1 ∧ Obj Z h a1 L_String [.ref u1, .int 0] ∧ Ary Z h u1 ATB (p4 - 0).toNatClampNeg (bv (cpyi f5 (fun _ => 0) 0 0 (p4 - 0).toNatClampNeg))) := by
  refine Mt.go PN26 (Or.inl rfl) ef_RRN_5 fun k => ?_
  replace k := k |>.aloadN D26_0 rfl rfl |>.initO (w_15 hw) (w_16 hw) (w_17 hw) D26_1 0 |>.aloadN D26_4 rfl rfl
  replace k := (k.callV (w_148 hw) (V_Y27_27_StringBuilder hw) pr1.exa (R_27_1 hw G pr1) D26_5 0 rfl).pv
  replace k := k |>.astoreN D26_8 rfl sto3 |>.aloadN D26_9 rfl rfl
  replace k := (k.callV (w_153 hw) (V_Y29_28_StringBuilder hw) pr1.exa (R_28_1 hw G pr1) D26_10 0 rfl).pv
  replace k := k |>.istore D26_13 sto4 |>.aloadN D26_15 rfl rfl
  replace k := (k.callV (w_161 hw) (V_Y23_23_StringBuilder hw) pr1.exa (R_23_1 hw G pr1) D26_16 0 rfl).pv
  replace k := k |>.ifNo D26_19  |>.aloadN D26_22 rfl rfl |>.iconst D26_23 0
  obtain ⟨h4, K4, O4, k⟩ := k.putN (fp_25 hw) (pw_String_i_String_coder hw) pr2 1 pr3 (Or.inl rfl) D26_24 rfl (v' := (.int 0)) (by decide) (by decide) ls1
  replace k := k |>.aloadN D26_27 rfl rfl |>.aloadN D26_28 rfl rfl |>.iconst D26_29 0 |>.iload D26_30 rfl
  have o6 := pr4.keep K4 (ninS pr12 nin0)
  have z5 := k.sz
  obtain ⟨_, h5, K5, ⟨u1_5, rfl, f5_0, f5_1⟩, k⟩ := (k.callS (w_162 hw) (S30 hw) (R_30_4 hw G o6 pr5 pr6 pr7 pr8 pr9 pr10 pr11) D26_32 1 rfl).kv
  have o7 := O4.keep K5 nin0
  obtain ⟨h8, K8, O8, k⟩ := k.putF (fl_24 hw) (pw_String_i_String_value hw) o7 0 pr3 (Or.inl rfl) D26_35 rfl rfl rfl ls0
  replace k := k |>.goto D26_38
  have s_u1_5 := Nat.le_trans z5 f5_0
  have o9 := f5_1.keep K8 (ninS (nlt' pr2.lt s_u1_5) nin0)
  exact k.ret0 D26_97 rfl ⟨rfl, ((K4.trans K5 all0).trans K8 (allS (Or.inl (List.mem_of_getElem? (i := 0) rfl)) all0)), u1_5, s_u1_5, O8, o9⟩
theorem R_25_4 {a1 a2 a3 : Addr} {p4 : Int32} {f5 : Nat → Int32} (hw : HW a0 Z) (G : Gl Z w_CS w_SF w_DO w_DT w_fO w_fT w_US w_SS) (pr1 : Obj Z h0 a2 L_StringBuilder [.ref a3, .int 0, .int p4]) (pr2 : Obj Z h0 a1 L_String [.null, .int 0]) (pr3 : n0 ≤ a1) (pr4 : Ary Z h0 a3 ATB 16 (bv f5)) (pr5 : ¬ (p4 = 16)) (pr6 : ¬ (p4 < 0)) (pr7 : ¬ ((p4 - 0) < 0)) (pr8 : (p4 - 0).toNatClampNeg ≤ 80) (pr9 : (p4 - 0) < 16) (pr10 : 0 + (p4 - 0).toNatClampNeg ≤ 16) (pr11 : 0 + (p4 - 0).toNatClampNeg ≤ (p4 - 0).toNatClampNeg) (pr12 : a3 ≠ a1) : Mt false [] l Y25 C25 (rmk 4 1 80 65) #[.ref a1, .ref a2] Z a0 h0 n0 (K0 h0 [a1] fun h => ∃ u1 : Addr, h0.size ≤ u1 ∧ Obj Z h a1 L_String [.ref u1, .int 0] ∧ Ary Z h u1 ATB (p4 - 0).toNatClampNeg (bv (cpyi f5 (fun _ => 0) 0 0 (p4 - 0).toNatClampNeg))) := by
  refine Mt.go PN25 (Or.inl rfl) ef_RR_2 fun k => ?_
  replace k := k |>.aloadN D25_0 rfl rfl |>.aloadN D25_1 rfl rfl |>.aconstNull D25_2
  have z1 := k.sz
  obtain ⟨h1, K1, ⟨u1_1, f1_0, f1_1, f1_2⟩, k⟩ := (k.callI (w_145 hw) (I26 hw) (R_26_4 hw G pr1 pr2 pr3 pr4 pr5 pr6 pr7 pr8 pr9 pr10 pr11 pr12) D25_3 0 rfl).k0 (allS pr3 all0)
  have s_u1_1 := Nat.le_trans z1 f1_0
  exact k.ret0 D25_6 rfl ⟨rfl, K1, u1_1, s_u1_1, f1_1, f1_2⟩
theorem R_24_4 {a1 a2 : Addr} {p3 : Int32} {f4 : Nat → Int32} (hw : HW a0 Z) (G : Gl Z w_CS w_SF w_DO w_DT w_fO w_fT w_US w_SS) (pr1 : Obj Z h0 a1 L_StringBuilder [.ref a2, .int 0, .int p3]) (pr2 : Ary Z h0 a2 ATB 16 (bv f4)) (pr3 : ¬ (p3 = 16)) (pr4 : ¬ (p3 < 0)) (pr5 : ¬ ((p3 - 0) < 0)) (pr6 : (p3 - 0).toNatClampNeg ≤ 80) (pr7 : (p3 - 0) < 16) (pr8 : 0 + (p3 - 0).toNatClampNeg ≤ 16) (pr9 : 0 + (p3 - 0).toNatClampNeg ≤ (p3 - 0).toNatClampNeg) : Mt false [] l Y24 C24 (rmk 5 2 84 79) #[.ref a1] Z a0 h0 n0 (KpV h0 [] fun v h => ∃ u1 u2 : Addr, v = (.ref u1) ∧ h0.size ≤ u1 ∧ h0.size ≤ u2 ∧ u2 ≠ u1 ∧ Obj Z h u1 L_String [.ref u2, .int 0] ∧ Ary Z h u2 ATB (p3 - 0).toNatClampNeg (bv (cpyi f4 (fun _ => 0) 0 0 (p3 - 0).toNatClampNeg))) := by
  refine Mt.go PN24 (Or.inl rfl) ef_R_1 fun k => ?_
  have nz := k.n0le
  have z1 := k.sz
  obtain ⟨b1, h1, g1, K1, O1, k⟩ := k.new (L := L_String) (w_141 hw) (nw_String hw) D24_0 (by decide) dvL_String
  replace k := k |>.dup D24_3 rfl |>.aloadN D24_4 rfl rfl
  have s_b1 := Nat.le_trans z1 g1
  have n_b1 := Nat.le_trans nz s_b1
  have o3 := pr1.keep K1 nin0
  have o4 := pr2.keep K1 nin0
  have z2 := k.sz
  obtain ⟨h2, K2, ⟨u1_2, f2_0, f2_1, f2_2⟩, k⟩ := (k.callI (w_142 hw) (I25 hw) (R_25_4 hw G o3 O1 n_b1 o4 pr3 pr4 pr5 pr6 pr7 pr8 pr9 (nlt pr2.lt s_b1)) D24_5 1 rfl).k0 (allS n_b1 all0)
  have s_u1_2 := Nat.le_trans z2 f2_0
  exact k.retA D24_8 rfl ⟨_, rfl, (K1.trans K2 (allS (Or.inr s_b1) all0)), b1, u1_2, rfl, s_b1, s_u1_2, (nlt' O1.lt f2_0), f2_1, f2_2⟩
theorem pn_CsvReader : plainName "com/example/fala/fala/format/CsvReader" = true := by first | (simp [plainName, overriddenIn]; done) | decide +kernel
theorem PN7 : plainFor Y7 = true := plainFor_of_name pn_CsvReader
theorem ef_RJR_4 {x0 : Addr} {x1 : Int64} {x2 : Addr}  (m : MethodId) : entryFrame m #[(.ref x0), (.long x1), (.ref x2)] 4 = mkF m 0 #[.val (.ref x0), .val (.long x1), .second, .val (.ref x2)] [] := by
  first | (simp [entryFrame, mkF, argsToLocals, Value.category]; done) | rfl
theorem R_rf {a1 a2 a3 a4 : Addr} {p1 p2 : Int32} {q1 : Int64} {f1 f2 : Nat → Int32} {T1 T2 : String} (hw : HW a0 Z) (G : Gl Z w_CS w_SF w_DO w_DT w_fO w_fT w_US w_SS) (Oa : Obj Z h0 a1 litL [.ref a2, .int 0]) (Aa : Ary Z h0 a2 (T1, .byte) p1.toNatClampNeg (bv f1)) (Ob : Obj Z h0 a3 litL [.ref a4, .int 0]) (Ab : Ary Z h0 a4 (T2, .byte) p2.toNatClampNeg (bv f2)) (x1 : ¬ (p1 < 0)) (x2 : p1 < 3) (x3 : ¬ (p2 < 0)) (x4 : p2 < 3) (hst : l.stackTraces = true) : MtK consts_1 l Y7 C7 (rmk 6 11 2940 94) #[.ref a1, .long q1, .ref a3] Z a0 h0 n0 (KpV h0 [] fun v h => ∃ (b u w : Addr) (f : Nat → Int32), v = .ref b ∧ Obj Z h b L_exc [.ref u] ∧ Obj Z h u litL [.ref w, .int 0] ∧ Ary Z h w ATB (((((0 + p1) + 7) + (sszL q1)) + 2) + p2).toNatClampNeg (bv f) ∧ Msg f p1 p2 q1 f1 f2) := by
  refine MtK.go PN7 ef_RJR_4 fun k kn => ?_
  have nz := k.n0le
  have cv2 := k.chv
  have z1 := k.sz
  obtain ⟨b1, h1, g1, K1, O1, k⟩ := k.newU (L := L_InvalidInputException) (w_41 hw) (nw_InvalidInputException hw) D7_0 (by decide) dvL_InvalidInputException
  replace k := k |>.dup D7_3 rfl
  have cv4 := k.chv
  have z3 := k.sz
  obtain ⟨b3, h3, g3, K3, O3, k⟩ := k.new (L := L_StringBuilder) (w_44 hw) (nw_StringBuilder hw) D7_4 (by decide) dvL_StringBuilder
  replace k := k |>.dup D7_7 rfl
  have s_b3 := Nat.le_trans z3 g3
  have n_b3 := Nat.le_trans nz s_b3
  have sf6 := (Safe.new g3).keep K3 all0 cv4
  have cv7 := k.chv
  have z5 := k.sz
  obtain ⟨h5, K5, ⟨u1_5, f5_0, f5_1, f5_2⟩, k⟩ := (k.callI (w_47 hw) (I8 hw) (R_8_1 hw G O3 n_b3) D7_8 3 rfl).k0 (allS n_b3 all0) (Or.inr (allS sf6 all0))
  replace k := k |>.aloadN D7_11 rfl rfl
  have s_u1_5 := Nat.le_trans z5 f5_0
  have n_u1_5 := Nat.le_trans nz s_u1_5
  have o9 := ((Oa.keep K1 nin0).keep K3 nin0).keep K5 (ninS (nlt Oa.lt s_b3) nin0)
  have o10 := ((Aa.keep K1 nin0).keep K3 nin0).keep K5 (ninS (nlt Aa.lt s_b3) nin0)
  have sf11 := sf6.keep K5 (allS sf6 all0) cv7
  have sf12 := (Safe.new f5_0).keep K5 (allS sf6 all0) cv7
  have cv13 := k.chv
  obtain ⟨_, h8, K8, ⟨rfl, f8_0, f8_1⟩, k⟩ := (k.callV (w_62 hw) (V_Y10_10_StringBuilder hw) f5_1.exa (R_10_1 hw G o9 o10 x1 f5_1 f5_2 (own_d1 rfl rfl x1 x2) n_u1_5 (own_d2 x1 x2) (own_d3 x1 x2) (nlt O3.lt f5_0) n_b3) D7_12 2 rfl).kv (allS n_b3 (allS n_u1_5 all0)) (Or.inr (allS sf11 (allS sf12 all0)))
  obtain ⟨a14x, b14x, vm14, h14, K14, R14, O14, A14, N14, k⟩ := k.ldcS (w_109 hw) (strAt hw) (List.mem_of_getElem? (i := 0) rfl) lit_109 rfl D7_15
  replace A14 : Ary Z h14 b14x ("", .byte) 7 (bv (lvi [58, 32, 108, 105, 110, 101, 32])) := Ary.norm A14 (lv_bi rfl rfl)
  have o16 := f8_0.keep K14 nin0
  have o17 := f8_1.keep K14 nin0
  have sf18 := R14.safe f8_0.lt (sf11.keep K8 (allS sf11 (allS sf12 all0)) cv13)
  have sf19 := R14.safe f8_1.lt (sf12.keep K8 (allS sf11 (allS sf12 all0)) cv13)
  have cv20 := k.chv
  obtain ⟨_, h15, K15, ⟨rfl, f15_0, f15_1⟩, k⟩ := (k.callV (w_62 hw) (V_Y10_10_StringBuilder hw) o16.exa (R_10_2 hw G O14 A14 o16 o17 (own_d4 rfl rfl rfl x1 x2) n_u1_5 (own_d5 rfl rfl x1 x2) (own_d6 rfl rfl x1 x2) (nlt O3.lt f5_0) n_b3) D7_17 2 rfl).kv (allS n_b3 (allS n_u1_5 all0)) (Or.inr (allS sf18 (allS sf19 all0)))
  replace k := k |>.lloadN D7_20 rfl
  by_cases hs21 : 0 < ((((0 + p1) + 7) + (sszL q1)) - 16)
  · have sf23 := sf18.keep K15 (allS sf18 (allS sf19 all0)) cv20
    have cv24 := k.chv
    have z22 := k.sz
    obtain ⟨_, h22, K22, ⟨u1_22, g2_22, rfl, f22_0, f22_1, f22_2, f22_3⟩, k⟩ := (k.callV (w_110 hw) (V_Y16_16_StringBuilder hw) f15_0.exa (R_16_2 hw G f15_0 f15_1 hs21 (own_d7 rfl rfl rfl rfl rfl rfl rfl x1 x2 hs21) n_b3 (own_d8 rfl rfl rfl rfl rfl x1 x2 hs21) (own_d9 rfl rfl rfl rfl rfl x1 x2 hs21)) D7_21 2 rfl).kv (allS n_b3 all0) (Or.inr (allS sf23 all0))
    obtain ⟨a25x, b25x, vm25, h25, K25, R25, O25, A25, N25, k⟩ := k.ldcS (w_135 hw) (strAt hw) (List.mem_of_getElem? (i := 1) rfl) lit_135 rfl D7_24
    replace A25 : Ary Z h25 b25x ("", .byte) 2 (bv (lvi [58, 32])) := Ary.norm A25 (lv_bi rfl rfl)
    have s_u1_22 := Nat.le_trans z22 f22_0
    have n_u1_22 := Nat.le_trans nz s_u1_22
    have o27 := f22_1.keep K25 nin0
    have o28 := f22_2.keep K25 nin0
    have sf29 := R25.safe f22_1.lt (sf23.keep K22 (allS sf23 all0) cv24)
    have sf30 := R25.safe f22_2.lt ((Safe.new f22_0).keep K22 (allS sf23 all0) cv24)
    have cv31 := k.chv
    obtain ⟨_, h26, K26, ⟨rfl, f26_0, f26_1⟩, k⟩ := (k.callV (w_62 hw) (V_Y10_10_StringBuilder hw) o27.exa (R_10_3 hw G O25 A25 o27 o28 (own_d10 rfl rfl rfl rfl rfl rfl rfl x1 x2 hs21) n_u1_22 (own_d11 rfl rfl rfl rfl rfl rfl x1 x2 hs21) (own_d12 rfl rfl rfl rfl rfl rfl x1 x2 hs21) (nlt f15_0.lt f22_0) n_b3) D7_26 2 rfl).kv (allS n_b3 (allS n_u1_22 all0)) (Or.inr (allS sf29 (allS sf30 all0)))
    replace k := k |>.aloadN D7_29 rfl rfl
    have o33 := ((((((((Ob.keep K1 nin0).keep K3 nin0).keep K5 (ninS (nlt Ob.lt s_b3) nin0)).keep K8 (ninS (nlt Ob.lt s_b3) (ninS (nlt Ob.lt s_u1_5) nin0))).keep K14 nin0).keep K15 (ninS (nlt Ob.lt s_b3) (ninS (nlt Ob.lt s_u1_5) nin0))).keep K22 (ninS (nlt Ob.lt s_b3) nin0)).keep K25 nin0).keep K26 (ninS (nlt Ob.lt s_b3) (ninS (nlt Ob.lt s_u1_22) nin0))
    have o34 := ((((((((Ab.keep K1 nin0).keep K3 nin0).keep K5 (ninS (nlt Ab.lt s_b3) nin0)).keep K8 (ninS (nlt Ab.lt s_b3) (ninS (nlt Ab.lt s_u1_5) nin0))).keep K14 nin0).keep K15 (ninS (nlt Ab.lt s_b3) (ninS (nlt Ab.lt s_u1_5) nin0))).keep K22 (ninS (nlt Ab.lt s_b3) nin0)).keep K25 nin0).keep K26 (ninS (nlt Ab.lt s_b3) (ninS (nlt Ab.lt s_u1_22) nin0))
    have sf35 := sf29.keep K26 (allS sf29 (allS sf30 all0)) cv31
    have sf36 := sf30.keep K26 (allS sf29 (allS sf30 all0)) cv31
    have cv37 := k.chv
    obtain ⟨_, h32, K32, ⟨rfl, f32_0, f32_1⟩, k⟩ := (k.callV (w_62 hw) (V_Y10_10_StringBuilder hw) f26_0.exa (R_10_4 hw G o33 o34 x3 f26_0 f26_1 (own_d13 rfl rfl rfl rfl rfl rfl rfl rfl x1 x2 x3 x4 hs21) n_u1_22 (own_d14 rfl rfl rfl rfl rfl rfl rfl x1 x2 hs21) (own_d15 x3 x4) (own_d16 rfl rfl rfl rfl rfl rfl rfl x1 x2 x3 x4 hs21) (nlt f15_0.lt f22_0) n_b3) D7_30 2 rfl).kv (allS n_b3 (allS n_u1_22 all0)) (Or.inr (allS sf35 (allS sf36 all0)))
    have cv39 := k.chv
    obtain ⟨_, h38, K38, ⟨u1_38, u2_38, rfl, f38_0, f38_1, f38_2, f38_3, f38_4⟩, k⟩ := (k.callV (w_136 hw) (V_Y24_24_StringBuilder hw) f32_0.exa (R_24_1 hw G f32_0 f32_1 (own_d17 rfl rfl rfl rfl rfl rfl rfl x1 x2 x3 x4 hs21) (own_d18 rfl rfl rfl rfl rfl rfl rfl x1 x2 x3 x4 hs21) (own_d19 rfl rfl rfl rfl rfl rfl rfl rfl x1 x2 x3 x4 hs21) (own_d20 rfl rfl rfl rfl rfl rfl rfl rfl x1 x2 x3 x4 hs21) (own_d21 rfl rfl rfl rfl rfl rfl rfl rfl x1 x2 x3 x4 hs21) (own_d22 rfl rfl rfl rfl rfl rfl rfl rfl x1 x2 x3 x4 hs21) (own_d23 rfl rfl rfl rfl rfl rfl rfl rfl x1 x2 x3 x4 hs21)) D7_33 2 rfl).kv all0 (Or.inr all0)
    have o40 := (((((((((O1.keep K3 nin0).keep K5 (ninS (nlt O1.lt g3) nin0)).keep K8 (ninS (nlt O1.lt g3) (ninS (nlt (O1.keep K3 nin0).lt f5_0) nin0))).keep K14 nin0).keep K15 (ninS (nlt O1.lt g3) (ninS (nlt (O1.keep K3 nin0).lt f5_0) nin0))).keep K22 (ninS (nlt O1.lt g3) nin0)).keep K25 nin0).keep K26 (ninS (nlt O1.lt g3) (ninS (nlt (((((O1.keep K3 nin0).keep K5 (ninS (nlt O1.lt g3) nin0)).keep K8 (ninS (nlt O1.lt g3) (ninS (nlt (O1.keep K3 nin0).lt f5_0) nin0))).keep K14 nin0).keep K15 (ninS (nlt O1.lt g3) (ninS (nlt (O1.keep K3 nin0).lt f5_0) nin0))).lt f22_0) nin0))).keep K32 (ninS (nlt O1.lt g3) (ninS (nlt (((((O1.keep K3 nin0).keep K5 (ninS (nlt O1.lt g3) nin0)).keep K8 (ninS (nlt O1.lt g3) (ninS (nlt (O1.keep K3 nin0).lt f5_0) nin0))).keep K14 nin0).keep K15 (ninS (nlt O1.lt g3) (ninS (nlt (O1.keep K3 nin0).lt f5_0) nin0))).lt f22_0) nin0))).keep K38 nin0
    have s_b1 := Nat.le_trans z1 g1
    have n_b1 := Nat.le_trans nz s_b1
    have sf41 := (((R25.safe ((((((O1.keep K3 nin0).keep K5 (ninS (nlt O1.lt g3) nin0)).keep K8 (ninS (nlt O1.lt g3) (ninS (nlt (O1.keep K3 nin0).lt f5_0) nin0))).keep K14 nin0).keep K15 (ninS (nlt O1.lt g3) (ninS (nlt (O1.keep K3 nin0).lt f5_0) nin0))).keep K22 (ninS (nlt O1.lt g3) nin0)).lt (((R14.safe (((O1.keep K3 nin0).keep K5 (ninS (nlt O1.lt g3) nin0)).keep K8 (ninS (nlt O1.lt g3) (ninS (nlt (O1.keep K3 nin0).lt f5_0) nin0))).lt (((((Safe.new g1).keep K1 all0 cv2).keep K3 all0 cv4).keep K5 (allS sf6 all0) cv7).keep K8 (allS sf11 (allS sf12 all0)) cv13)).keep K15 (allS sf18 (allS sf19 all0)) cv20).keep K22 (allS sf23 all0) cv24)).keep K26 (allS sf29 (allS sf30 all0)) cv31).keep K32 (allS sf35 (allS sf36 all0)) cv37).keep K38 all0 cv39
    obtain ⟨h42, K42, O42, k⟩ := (k.callIF (w_177 hw) (I2 hw) (R_iei hw G hst o40 n_b1) kn D7_36 1 rfl).k0 (allS n_b1 all0) (Or.inr (allS sf41 all0))
    have o44 := f38_3.keep K42 (ninS (nlt' (((((((((O1.keep K3 nin0).keep K5 (ninS (nlt O1.lt g3) nin0)).keep K8 (ninS (nlt O1.lt g3) (ninS (nlt (O1.keep K3 nin0).lt f5_0) nin0))).keep K14 nin0).keep K15 (ninS (nlt O1.lt g3) (ninS (nlt (O1.keep K3 nin0).lt f5_0) nin0))).keep K22 (ninS (nlt O1.lt g3) nin0)).keep K25 nin0).keep K26 (ninS (nlt O1.lt g3) (ninS (nlt (((((O1.keep K3 nin0).keep K5 (ninS (nlt O1.lt g3) nin0)).keep K8 (ninS (nlt O1.lt g3) (ninS (nlt (O1.keep K3 nin0).lt f5_0) nin0))).keep K14 nin0).keep K15 (ninS (nlt O1.lt g3) (ninS (nlt (O1.keep K3 nin0).lt f5_0) nin0))).lt f22_0) nin0))).keep K32 (ninS (nlt O1.lt g3) (ninS (nlt (((((O1.keep K3 nin0).keep K5 (ninS (nlt O1.lt g3) nin0)).keep K8 (ninS (nlt O1.lt g3) (ninS (nlt (O1.keep K3 nin0).lt f5_0) nin0))).keep K14 nin0).keep K15 (ninS (nlt O1.lt g3) (ninS (nlt (O1.keep K3 nin0).lt f5_0) nin0))).lt f22_0) nin0))).lt f38_0) nin0)
    have o45 := f38_4.keep K42 (ninS (nlt' (((((((((O1.keep K3 nin0).keep K5 (ninS (nlt O1.lt g3) nin0)).keep K8 (ninS (nlt O1.lt g3) (ninS (nlt (O1.keep K3 nin0).lt f5_0) nin0))).keep K14 nin0).keep K15 (ninS (nlt O1.lt g3) (ninS (nlt (O1.keep K3 nin0).lt f5_0) nin0))).keep K22 (ninS (nlt O1.lt g3) nin0)).keep K25 nin0).keep K26 (ninS (nlt O1.lt g3) (ninS (nlt (((((O1.keep K3 nin0).keep K5 (ninS (nlt O1.lt g3) nin0)).keep K8 (ninS (nlt O1.lt g3) (ninS (nlt (O1.keep K3 nin0).lt f5_0) nin0))).keep K14 nin0).keep K15 (ninS (nlt O1.lt g3) (ninS (nlt (O1.keep K3 nin0).lt f5_0) nin0))).lt f22_0) nin0))).keep K32 (ninS (nlt O1.lt g3) (ninS (nlt (((((O1.keep K3 nin0).keep K5 (ninS (nlt O1.lt g3) nin0)).keep K8 (ninS (nlt O1.lt g3) (ninS (nlt (O1.keep K3 nin0).lt f5_0) nin0))).keep K14 nin0).keep K15 (ninS (nlt O1.lt g3) (ninS (nlt (O1.keep K3 nin0).lt f5_0) nin0))).lt f22_0) nin0))).lt f38_1) nin0)
    obtain ⟨⟨cq0, cq1, cq2, cq3, cq4⟩, bq1, bq2, bq3, bq4⟩ := msg_pos (p1 := p1) (p2 := p2) (q := q1) x1 x2 x3 x4 rfl rfl rfl rfl rfl rfl
    exact k.retA D7_39 rfl ⟨_, rfl, (((((((((((K1.trans K3 all0).trans K5 (allS (Or.inr s_b3) all0)).trans K8 (allS (Or.inr s_b3) (allS (Or.inr s_u1_5) all0))).trans K14 all0).trans K15 (allS (Or.inr s_b3) (allS (Or.inr s_u1_5) all0))).trans K22 (allS (Or.inr s_b3) all0)).trans K25 all0).trans K26 (allS (Or.inr s_b3) (allS (Or.inr s_u1_22) all0))).trans K32 (allS (Or.inr s_b3) (allS (Or.inr s_u1_22) all0))).trans K38 all0).trans K42 (allS (Or.inr s_b1) all0)), b1, u1_38, u2_38, _, rfl, O42, o44, o45.len (congrArg Int32.toNatClampNeg (Int32.sub_zero _)), (msg_of (by rw [shl0]; exact cq0) cq2 (by rw [shl0]) (by rw [shl0]; exact cq3) (fun i hi => cpyi_in (Nat.zero_le _) (by omega)) (fun i hi => cpyi_in (Nat.zero_le _) (by omega)) f22_3 (fun i hi => rfl) (fun i hi => rfl) (fun i hi => cpyi_in (Nat.zero_le _) (by rw [Int32.sub_zero]; omega)))⟩
  · have sf47 := sf18.keep K15 (allS sf18 (allS sf19 all0)) cv20
    have sf48 := sf19.keep K15 (allS sf18 (allS sf19 all0)) cv20
    have cv49 := k.chv
    obtain ⟨_, h46, K46, ⟨g1_46, rfl, f46_0, f46_1, f46_2⟩, k⟩ := (k.callV (w_110 hw) (V_Y16_16_StringBuilder hw) f15_0.exa (R_16_3 hw G f15_0 f15_1 hs21 (own_d24 rfl rfl rfl rfl rfl x1 x2 hs21) (own_d25 rfl rfl rfl rfl rfl x1 x2 hs21) n_u1_5 (nlt O3.lt f5_0) n_b3) D7_21 2 rfl).kv (allS n_b3 (allS n_u1_5 all0)) (Or.inr (allS sf47 (allS sf48 all0)))
    obtain ⟨a50x, b50x, vm50, h50, K50, R50, O50, A50, N50, k⟩ := k.ldcS (w_135 hw) (strAt hw) (List.mem_of_getElem? (i := 1) rfl) lit_135 rfl D7_24
    replace A50 : Ary Z h50 b50x ("", .byte) 2 (bv (lvi [58, 32])) := Ary.norm A50 (lv_bi rfl rfl)
    by_cases hs51 : 0 < (((((0 + p1) + 7) + (sszL q1)) + 2) - 16)
    · have o53 := f46_0.keep K50 nin0
      have o54 := f46_1.keep K50 nin0
      have sf55 := R50.safe f46_0.lt (sf47.keep K46 (allS sf47 (allS sf48 all0)) cv49)
      have cv56 := k.chv
      have z52 := k.sz
      obtain ⟨_, h52, K52, ⟨u1_52, rfl, f52_0, f52_1, f52_2⟩, k⟩ := (k.callV (w_62 hw) (V_Y10_10_StringBuilder hw) o53.exa (R_10_6 hw G O50 A50 o53 o54 hs51 (own_d26 rfl rfl rfl rfl rfl rfl rfl rfl rfl x1 x2 hs21 hs51) n_b3 (own_d27 rfl rfl rfl rfl rfl rfl rfl rfl x1 x2 hs21 hs51) (own_d28 rfl rfl rfl rfl rfl rfl rfl rfl x1 x2 hs21 hs51) (Ne.symm (N50 _ (R50.safe f46_0.lt (sf47.keep K46 (allS sf47 (allS sf48 all0)) cv49))).1) (Ne.symm (N50 _ (R50.safe f46_0.lt (sf47.keep K46 (allS sf47 (allS sf48 all0)) cv49))).2)) D7_26 2 rfl).kv (allS n_b3 all0) (Or.inr (allS sf55 all0))
      replace k := k |>.aloadN D7_29 rfl rfl
      have s_u1_52 := Nat.le_trans z52 f52_0
      have n_u1_52 := Nat.le_trans nz s_u1_52
      have o58 := ((((((((Ob.keep K1 nin0).keep K3 nin0).keep K5 (ninS (nlt Ob.lt s_b3) nin0)).keep K8 (ninS (nlt Ob.lt s_b3) (ninS (nlt Ob.lt s_u1_5) nin0))).keep K14 nin0).keep K15 (ninS (nlt Ob.lt s_b3) (ninS (nlt Ob.lt s_u1_5) nin0))).keep K46 (ninS (nlt Ob.lt s_b3) (ninS (nlt Ob.lt s_u1_5) nin0))).keep K50 nin0).keep K52 (ninS (nlt Ob.lt s_b3) nin0)
      have o59 := ((((((((Ab.keep K1 nin0).keep K3 nin0).keep K5 (ninS (nlt Ab.lt s_b3) nin0)).keep K8 (ninS (nlt Ab.lt s_b3) (ninS (nlt Ab.lt s_u1_5) nin0))).keep K14 nin0).keep K15 (ninS (nlt Ab.lt s_b3) (ninS (nlt Ab.lt s_u1_5) nin0))).keep K46 (ninS (nlt Ab.lt s_b3) (ninS (nlt Ab.lt s_u1_5) nin0))).keep K50 nin0).keep K52 (ninS (nlt Ab.lt s_b3) nin0)
      have sf60 := sf55.keep K52 (allS sf55 all0) cv56
      have sf61 := (Safe.new f52_0).keep K52 (allS sf55 all0) cv56
      have cv62 := k.chv
      obtain ⟨_, h57, K57, ⟨rfl, f57_0, f57_1⟩, k⟩ := (k.callV (w_62 hw) (V_Y10_10_StringBuilder hw) f52_1.exa (R_10_4 hw G o58 o59 x3 f52_1 f52_2 (own_d29 rfl rfl rfl rfl rfl rfl rfl rfl rfl x1 x2 x3 x4 hs21 hs51) n_u1_52 (own_d30 rfl rfl rfl rfl rfl rfl rfl rfl x1 x2 hs21 hs51) (own_d15 x3 x4) (own_d31 rfl rfl rfl rfl rfl rfl rfl rfl x1 x2 x3 x4 hs21 hs51) (nlt o53.lt f52_0) n_b3) D7_30 2 rfl).kv (allS n_b3 (allS n_u1_52 all0)) (Or.inr (allS sf60 (allS sf61 all0)))
      have cv64 := k.chv
      obtain ⟨_, h63, K63, ⟨u1_63, u2_63, rfl, f63_0, f63_1, f63_2, f63_3, f63_4⟩, k⟩ := (k.callV (w_136 hw) (V_Y24_24_StringBuilder hw) f57_0.exa (R_24_1 hw G f57_0 f57_1 (own_d32 rfl rfl rfl rfl rfl rfl rfl rfl x1 x2 x3 x4 hs21 hs51) (own_d33 rfl rfl rfl rfl rfl rfl rfl rfl x1 x2 x3 x4 hs21 hs51) (own_d34 rfl rfl rfl rfl rfl rfl rfl rfl rfl x1 x2 x3 x4 hs21 hs51) (own_d35 rfl rfl rfl rfl rfl rfl rfl rfl rfl x1 x2 x3 x4 hs21 hs51) (own_d36 rfl rfl rfl rfl rfl rfl rfl rfl rfl x1 x2 x3 x4 hs21 hs51) (own_d37 rfl rfl rfl rfl rfl rfl rfl rfl rfl x1 x2 x3 x4 hs21 hs51) (own_d38 rfl rfl rfl rfl rfl rfl rfl rfl rfl x1 x2 x3 x4 hs21 hs51)) D7_33 2 rfl).kv all0 (Or.inr all0)
      have o65 := (((((((((O1.keep K3 nin0).keep K5 (ninS (nlt O1.lt g3) nin0)).keep K8 (ninS (nlt O1.lt g3) (ninS (nlt (O1.keep K3 nin0).lt f5_0) nin0))).keep K14 nin0).keep K15 (ninS (nlt O1.lt g3) (ninS (nlt (O1.keep K3 nin0).lt f5_0) nin0))).keep K46 (ninS (nlt O1.lt g3) (ninS (nlt (O1.keep K3 nin0).lt f5_0) nin0))).keep K50 nin0).keep K52 (ninS (nlt O1.lt g3) nin0)).keep K57 (ninS (nlt O1.lt g3) (ninS (nlt (((((((O1.keep K3 nin0).keep K5 (ninS (nlt O1.lt g3) nin0)).keep K8 (ninS (nlt O1.lt g3) (ninS (nlt (O1.keep K3 nin0).lt f5_0) nin0))).keep K14 nin0).keep K15 (ninS (nlt O1.lt g3) (ninS (nlt (O1.keep K3 nin0).lt f5_0) nin0))).keep K46 (ninS (nlt O1.lt g3) (ninS (nlt (O1.keep K3 nin0).lt f5_0) nin0))).keep K50 nin0).lt f52_0) nin0))).keep K63 nin0
      have s_b1 := Nat.le_trans z1 g1
      have n_b1 := Nat.le_trans nz s_b1
      have sf66 := (((R50.safe ((((((O1.keep K3 nin0).keep K5 (ninS (nlt O1.lt g3) nin0)).keep K8 (ninS (nlt O1.lt g3) (ninS (nlt (O1.keep K3 nin0).lt f5_0) nin0))).keep K14 nin0).keep K15 (ninS (nlt O1.lt g3) (ninS (nlt (O1.keep K3 nin0).lt f5_0) nin0))).keep K46 (ninS (nlt O1.lt g3) (ninS (nlt (O1.keep K3 nin0).lt f5_0) nin0))).lt (((R14.safe (((O1.keep K3 nin0).keep K5 (ninS (nlt O1.lt g3) nin0)).keep K8 (ninS (nlt O1.lt g3) (ninS (nlt (O1.keep K3 nin0).lt f5_0) nin0))).lt (((((Safe.new g1).keep K1 all0 cv2).keep K3 all0 cv4).keep K5 (allS sf6 all0) cv7).keep K8 (allS sf11 (allS sf12 all0)) cv13)).keep K15 (allS sf18 (allS sf19 all0)) cv20).keep K46 (allS sf47 (allS sf48 all0)) cv49)).keep K52 (allS sf55 all0) cv56).keep K57 (allS sf60 (allS sf61 all0)) cv62).keep K63 all0 cv64
      obtain ⟨h67, K67, O67, k⟩ := (k.callIF (w_177 hw) (I2 hw) (R_iei hw G hst o65 n_b1) kn D7_36 1 rfl).k0 (allS n_b1 all0) (Or.inr (allS sf66 all0))
      have o69 := f63_3.keep K67 (ninS (nlt' (((((((((O1.keep K3 nin0).keep K5 (ninS (nlt O1.lt g3) nin0)).keep K8 (ninS (nlt O1.lt g3) (ninS (nlt (O1.keep K3 nin0).lt f5_0) nin0))).keep K14 nin0).keep K15 (ninS (nlt O1.lt g3) (ninS (nlt (O1.keep K3 nin0).lt f5_0) nin0))).keep K46 (ninS (nlt O1.lt g3) (ninS (nlt (O1.keep K3 nin0).lt f5_0) nin0))).keep K50 nin0).keep K52 (ninS (nlt O1.lt g3) nin0)).keep K57 (ninS (nlt O1.lt g3) (ninS (nlt (((((((O1.keep K3 nin0).keep K5 (ninS (nlt O1.lt g3) nin0)).keep K8 (ninS (nlt O1.lt g3) (ninS (nlt (O1.keep K3 nin0).lt f5_0) nin0))).keep K14 nin0).keep K15 (ninS (nlt O1.lt g3) (ninS (nlt (O1.keep K3 nin0).lt f5_0) nin0))).keep K46 (ninS (nlt O1.lt g3) (ninS (nlt (O1.keep K3 nin0).lt f5_0) nin0))).keep K50 nin0).lt f52_0) nin0))).lt f63_0) nin0)
      have o70 := f63_4.keep K67 (ninS (nlt' (((((((((O1.keep K3 nin0).keep K5 (ninS (nlt O1.lt g3) nin0)).keep K8 (ninS (nlt O1.lt g3) (ninS (nlt (O1.keep K3 nin0).lt f5_0) nin0))).keep K14 nin0).keep K15 (ninS (nlt O1.lt g3) (ninS (nlt (O1.keep K3 nin0).lt f5_0) nin0))).keep K46 (ninS (nlt O1.lt g3) (ninS (nlt (O1.keep K3 nin0).lt f5_0) nin0))).keep K50 nin0).keep K52 (ninS (nlt O1.lt g3) nin0)).keep K57 (ninS (nlt O1.lt g3) (ninS (nlt (((((((O1.keep K3 nin0).keep K5 (ninS (nlt O1.lt g3) nin0)).keep K8 (ninS (nlt O1.lt g3) (ninS (nlt (O1.keep K3 nin0).lt f5_0) nin0))).keep K14 nin0).keep K15 (ninS (nlt O1.lt g3) (ninS (nlt (O1.keep K3 nin0).lt f5_0) nin0))).keep K46 (ninS (nlt O1.lt g3) (ninS (nlt (O1.keep K3 nin0).lt f5_0) nin0))).keep K50 nin0).lt f52_0) nin0))).lt f63_1) nin0)
      obtain ⟨⟨cq0, cq1, cq2, cq3, cq4⟩, bq1, bq2, bq3, bq4⟩ := msg_pos (p1 := p1) (p2 := p2) (q := q1) x1 x2 x3 x4 rfl rfl rfl rfl rfl rfl
      have m0 : _ := ng16 rfl hs21 (by omega)
      exact k.retA D7_39 rfl ⟨_, rfl, (((((((((((K1.trans K3 all0).trans K5 (allS (Or.inr s_b3) all0)).trans K8 (allS (Or.inr s_b3) (allS (Or.inr s_u1_5) all0))).trans K14 all0).trans K15 (allS (Or.inr s_b3) (allS (Or.inr s_u1_5) all0))).trans K46 (allS (Or.inr s_b3) (allS (Or.inr s_u1_5) all0))).trans K50 all0).trans K52 (allS (Or.inr s_b3) all0)).trans K57 (allS (Or.inr s_b3) (allS (Or.inr s_u1_52) all0))).trans K63 all0).trans K67 (allS (Or.inr s_b1) all0)), b1, u1_63, u2_63, _, rfl, O67, o69, o70.len (congrArg Int32.toNatClampNeg (Int32.sub_zero _)), (msg_of (by rw [shl0]; exact cq0) cq2 (by rw [shl0]) (by rw [shl0]; exact cq3) (fun i hi => cpyi_in (Nat.zero_le _) (by omega)) (fun i hi => rfl) f46_2 (fun i hi => cpyi_in (Nat.zero_le _) (by omega)) (fun i hi => rfl) (fun i hi => cpyi_in (Nat.zero_le _) (by rw [Int32.sub_zero]; omega)))⟩
    · have o72 := f46_0.keep K50 nin0
      have o73 := f46_1.keep K50 nin0
      have sf74 := R50.safe f46_0.lt (sf47.keep K46 (allS sf47 (allS sf48 all0)) cv49)
      have sf75 := R50.safe f46_1.lt (sf48.keep K46 (allS sf47 (allS sf48 all0)) cv49)
      have cv76 := k.chv
      obtain ⟨_, h71, K71, ⟨rfl, f71_0, f71_1⟩, k⟩ := (k.callV (w_62 hw) (V_Y10_10_StringBuilder hw) o72.exa (R_10_7 hw G O50 A50 o72 o73 hs51 n_u1_5 (own_d39 rfl rfl rfl rfl rfl rfl rfl rfl x1 x2 hs21 hs51) (own_d40 rfl rfl rfl rfl rfl rfl rfl rfl x1 x2 hs21 hs51) (nlt O3.lt f5_0) n_b3) D7_26 2 rfl).kv (allS n_b3 (allS n_u1_5 all0)) (Or.inr (allS sf74 (allS sf75 all0)))
      replace k := k |>.aloadN D7_29 rfl rfl
      by_cases hs77 : 0 < ((((((0 + p1) + 7) + (sszL q1)) + 2) + p2) - 16)
      · have o79 := ((((((((Ob.keep K1 nin0).keep K3 nin0).keep K5 (ninS (nlt Ob.lt s_b3) nin0)).keep K8 (ninS (nlt Ob.lt s_b3) (ninS (nlt Ob.lt s_u1_5) nin0))).keep K14 nin0).keep K15 (ninS (nlt Ob.lt s_b3) (ninS (nlt Ob.lt s_u1_5) nin0))).keep K46 (ninS (nlt Ob.lt s_b3) (ninS (nlt Ob.lt s_u1_5) nin0))).keep K50 nin0).keep K71 (ninS (nlt Ob.lt s_b3) (ninS (nlt Ob.lt s_u1_5) nin0))
        have o80 := ((((((((Ab.keep K1 nin0).keep K3 nin0).keep K5 (ninS (nlt Ab.lt s_b3) nin0)).keep K8 (ninS (nlt Ab.lt s_b3) (ninS (nlt Ab.lt s_u1_5) nin0))).keep K14 nin0).keep K15 (ninS (nlt Ab.lt s_b3) (ninS (nlt Ab.lt s_u1_5) nin0))).keep K46 (ninS (nlt Ab.lt s_b3) (ninS (nlt Ab.lt s_u1_5) nin0))).keep K50 nin0).keep K71 (ninS (nlt Ab.lt s_b3) (ninS (nlt Ab.lt s_u1_5) nin0))
        have sf81 := sf74.keep K71 (allS sf74 (allS sf75 all0)) cv76
        have cv82 := k.chv
        obtain ⟨_, h78, K78, ⟨u1_78, rfl, f78_0, f78_1, f78_2⟩, k⟩ := (k.callV (w_62 hw) (V_Y10_10_StringBuilder hw) f71_0.exa (R_10_9 hw G o79 o80 x3 f71_0 f71_1 hs77 (own_d41 rfl rfl rfl rfl rfl rfl rfl rfl rfl rfl rfl x1 x2 x3 x4 hs21 hs51 hs77) n_b3 (own_d42 rfl rfl rfl rfl rfl rfl rfl rfl rfl rfl x1 x2 x3 x4 hs21 hs51 hs77) (own_d43 rfl rfl rfl rfl rfl rfl rfl rfl rfl x1 x2 x3 x4 hs21 hs51 hs77) (own_d44 rfl rfl rfl rfl rfl rfl rfl rfl rfl rfl x1 x2 x3 x4 hs21 hs51 hs77) (nlt Ob.lt s_b3) (nlt Ab.lt s_b3)) D7_30 2 rfl).kv (allS n_b3 all0) (Or.inr (allS sf81 all0))
        have cv84 := k.chv
        obtain ⟨_, h83, K83, ⟨u1_83, u2_83, rfl, f83_0, f83_1, f83_2, f83_3, f83_4⟩, k⟩ := (k.callV (w_136 hw) (V_Y24_24_StringBuilder hw) f78_1.exa (R_24_1 hw G f78_1 f78_2 (own_d45 rfl rfl rfl rfl rfl rfl rfl rfl rfl x1 x2 x3 x4 hs21 hs51 hs77) (own_d46 rfl rfl rfl rfl rfl rfl rfl rfl rfl x1 x2 x3 x4 hs21 hs51 hs77) (own_d47 rfl rfl rfl rfl rfl rfl rfl rfl rfl rfl x1 x2 x3 x4 hs21 hs51 hs77) (own_d48 rfl rfl rfl rfl rfl rfl rfl rfl rfl rfl x1 x2 x3 x4 hs21 hs51 hs77) (own_d49 rfl rfl rfl rfl rfl rfl rfl rfl rfl rfl x1 x2 x3 x4 hs21 hs51 hs77) (own_d50 rfl rfl rfl rfl rfl rfl rfl rfl rfl rfl x1 x2 x3 x4 hs21 hs51 hs77) (own_d51 rfl rfl rfl rfl rfl rfl rfl rfl rfl rfl x1 x2 x3 x4 hs21 hs51 hs77)) D7_33 2 rfl).kv all0 (Or.inr all0)
        have o85 := (((((((((O1.keep K3 nin0).keep K5 (ninS (nlt O1.lt g3) nin0)).keep K8 (ninS (nlt O1.lt g3) (ninS (nlt (O1.keep K3 nin0).lt f5_0) nin0))).keep K14 nin0).keep K15 (ninS (nlt O1.lt g3) (ninS (nlt (O1.keep K3 nin0).lt f5_0) nin0))).keep K46 (ninS (nlt O1.lt g3) (ninS (nlt (O1.keep K3 nin0).lt f5_0) nin0))).keep K50 nin0).keep K71 (ninS (nlt O1.lt g3) (ninS (nlt (O1.keep K3 nin0).lt f5_0) nin0))).keep K78 (ninS (nlt O1.lt g3) nin0)).keep K83 nin0
        have s_b1 := Nat.le_trans z1 g1
        have n_b1 := Nat.le_trans nz s_b1
        have sf86 := (((R50.safe ((((((O1.keep K3 nin0).keep K5 (ninS (nlt O1.lt g3) nin0)).keep K8 (ninS (nlt O1.lt g3) (ninS (nlt (O1.keep K3 nin0).lt f5_0) nin0))).keep K14 nin0).keep K15 (ninS (nlt O1.lt g3) (ninS (nlt (O1.keep K3 nin0).lt f5_0) nin0))).keep K46 (ninS (nlt O1.lt g3) (ninS (nlt (O1.keep K3 nin0).lt f5_0) nin0))).lt (((R14.safe (((O1.keep K3 nin0).keep K5 (ninS (nlt O1.lt g3) nin0)).keep K8 (ninS (nlt O1.lt g3) (ninS (nlt (O1.keep K3 nin0).lt f5_0) nin0))).lt (((((Safe.new g1).keep K1 all0 cv2).keep K3 all0 cv4).keep K5 (allS sf6 all0) cv7).keep K8 (allS sf11 (allS sf12 all0)) cv13)).keep K15 (allS sf18 (allS sf19 all0)) cv20).keep K46 (allS sf47 (allS sf48 all0)) cv49)).keep K71 (allS sf74 (allS sf75 all0)) cv76).keep K78 (allS sf81 all0) cv82).keep K83 all0 cv84
        obtain ⟨h87, K87, O87, k⟩ := (k.callIF (w_177 hw) (I2 hw) (R_iei hw G hst o85 n_b1) kn D7_36 1 rfl).k0 (allS n_b1 all0) (Or.inr (allS sf86 all0))
        have o89 := f83_3.keep K87 (ninS (nlt' (((((((((O1.keep K3 nin0).keep K5 (ninS (nlt O1.lt g3) nin0)).keep K8 (ninS (nlt O1.lt g3) (ninS (nlt (O1.keep K3 nin0).lt f5_0) nin0))).keep K14 nin0).keep K15 (ninS (nlt O1.lt g3) (ninS (nlt (O1.keep K3 nin0).lt f5_0) nin0))).keep K46 (ninS (nlt O1.lt g3) (ninS (nlt (O1.keep K3 nin0).lt f5_0) nin0))).keep K50 nin0).keep K71 (ninS (nlt O1.lt g3) (ninS (nlt (O1.keep K3 nin0).lt f5_0) nin0))).keep K78 (ninS (nlt O1.lt g3) nin0)).lt f83_0) nin0)
        have o90 := f83_4.keep K87 (ninS (nlt' (((((((((O1.keep K3 nin0).keep K5 (ninS (nlt O1.lt g3) nin0)).keep K8 (ninS (nlt O1.lt g3) (ninS (nlt (O1.keep K3 nin0).lt f5_0) nin0))).keep K14 nin0).keep K15 (ninS (nlt O1.lt g3) (ninS (nlt (O1.keep K3 nin0).lt f5_0) nin0))).keep K46 (ninS (nlt O1.lt g3) (ninS (nlt (O1.keep K3 nin0).lt f5_0) nin0))).keep K50 nin0).keep K71 (ninS (nlt O1.lt g3) (ninS (nlt (O1.keep K3 nin0).lt f5_0) nin0))).keep K78 (ninS (nlt O1.lt g3) nin0)).lt f83_1) nin0)
        obtain ⟨⟨cq0, cq1, cq2, cq3, cq4⟩, bq1, bq2, bq3, bq4⟩ := msg_pos (p1 := p1) (p2 := p2) (q := q1) x1 x2 x3 x4 rfl rfl rfl rfl rfl rfl
        have m0 : _ := ng16 rfl hs21 (by omega)
        have m1 : _ := ng16 rfl hs51 (by omega)
        exact k.retA D7_39 rfl ⟨_, rfl, (((((((((((K1.trans K3 all0).trans K5 (allS (Or.inr s_b3) all0)).trans K8 (allS (Or.inr s_b3) (allS (Or.inr s_u1_5) all0))).trans K14 all0).trans K15 (allS (Or.inr s_b3) (allS (Or.inr s_u1_5) all0))).trans K46 (allS (Or.inr s_b3) (allS (Or.inr s_u1_5) all0))).trans K50 all0).trans K71 (allS (Or.inr s_b3) (allS (Or.inr s_u1_5) all0))).trans K78 (allS (Or.inr s_b3) all0)).trans K83 all0).trans K87 (allS (Or.inr s_b1) all0)), b1, u1_83, u2_83, _, rfl, O87, o89, o90.len (congrArg Int32.toNatClampNeg (Int32.sub_zero _)), (msg_of (by rw [shl0]; exact cq0) cq2 (by rw [shl0]) (by rw [shl0]; exact cq3) (fun i hi => cpyi_in (Nat.zero_le _) (by omega)) (fun i hi => rfl) f46_2 (fun i hi => rfl) (fun i hi => cpyi_in (Nat.zero_le _) (by omega)) (fun i hi => cpyi_in (Nat.zero_le _) (by rw [Int32.sub_zero]; omega)))⟩
      · have o92 := ((((((((Ob.keep K1 nin0).keep K3 nin0).keep K5 (ninS (nlt Ob.lt s_b3) nin0)).keep K8 (ninS (nlt Ob.lt s_b3) (ninS (nlt Ob.lt s_u1_5) nin0))).keep K14 nin0).keep K15 (ninS (nlt Ob.lt s_b3) (ninS (nlt Ob.lt s_u1_5) nin0))).keep K46 (ninS (nlt Ob.lt s_b3) (ninS (nlt Ob.lt s_u1_5) nin0))).keep K50 nin0).keep K71 (ninS (nlt Ob.lt s_b3) (ninS (nlt Ob.lt s_u1_5) nin0))
        have o93 := ((((((((Ab.keep K1 nin0).keep K3 nin0).keep K5 (ninS (nlt Ab.lt s_b3) nin0)).keep K8 (ninS (nlt Ab.lt s_b3) (ninS (nlt Ab.lt s_u1_5) nin0))).keep K14 nin0).keep K15 (ninS (nlt Ab.lt s_b3) (ninS (nlt Ab.lt s_u1_5) nin0))).keep K46 (ninS (nlt Ab.lt s_b3) (ninS (nlt Ab.lt s_u1_5) nin0))).keep K50 nin0).keep K71 (ninS (nlt Ab.lt s_b3) (ninS (nlt Ab.lt s_u1_5) nin0))
        have sf94 := sf74.keep K71 (allS sf74 (allS sf75 all0)) cv76
        have sf95 := sf75.keep K71 (allS sf74 (allS sf75 all0)) cv76
        have cv96 := k.chv
        obtain ⟨_, h91, K91, ⟨rfl, f91_0, f91_1⟩, k⟩ := (k.callV (w_62 hw) (V_Y10_10_StringBuilder hw) f71_0.exa (R_10_10 hw G o92 o93 x3 f71_0 f71_1 hs77 n_u1_5 (own_d52 rfl rfl rfl rfl rfl rfl rfl rfl rfl rfl x1 x2 x3 x4 hs21 hs51 hs77) (own_d53 rfl rfl rfl rfl rfl rfl rfl rfl rfl x1 x2 x3 x4 hs21 hs51 hs77) (own_d54 rfl rfl rfl rfl rfl rfl rfl rfl rfl rfl x1 x2 x3 x4 hs21 hs51 hs77) (nlt O3.lt f5_0) n_b3) D7_30 2 rfl).kv (allS n_b3 (allS n_u1_5 all0)) (Or.inr (allS sf94 (allS sf95 all0)))
        by_cases hs97 : (((((0 + p1) + 7) + (sszL q1)) + 2) + p2) = 16
        · have cv99 := k.chv
          obtain ⟨_, h98, K98, ⟨u1_98, u2_98, rfl, f98_0, f98_1, f98_2, f98_3, f98_4⟩, k⟩ := (k.callV (w_136 hw) (V_Y24_24_StringBuilder hw) f91_0.exa (R_24_3 hw G f91_0 f91_1 hs97) D7_33 2 rfl).kv all0 (Or.inr all0)
          have o100 := (((((((((O1.keep K3 nin0).keep K5 (ninS (nlt O1.lt g3) nin0)).keep K8 (ninS (nlt O1.lt g3) (ninS (nlt (O1.keep K3 nin0).lt f5_0) nin0))).keep K14 nin0).keep K15 (ninS (nlt O1.lt g3) (ninS (nlt (O1.keep K3 nin0).lt f5_0) nin0))).keep K46 (ninS (nlt O1.lt g3) (ninS (nlt (O1.keep K3 nin0).lt f5_0) nin0))).keep K50 nin0).keep K71 (ninS (nlt O1.lt g3) (ninS (nlt (O1.keep K3 nin0).lt f5_0) nin0))).keep K91 (ninS (nlt O1.lt g3) (ninS (nlt (O1.keep K3 nin0).lt f5_0) nin0))).keep K98 nin0
          have s_b1 := Nat.le_trans z1 g1
          have n_b1 := Nat.le_trans nz s_b1
          have sf101 := (((R50.safe ((((((O1.keep K3 nin0).keep K5 (ninS (nlt O1.lt g3) nin0)).keep K8 (ninS (nlt O1.lt g3) (ninS (nlt (O1.keep K3 nin0).lt f5_0) nin0))).keep K14 nin0).keep K15 (ninS (nlt O1.lt g3) (ninS (nlt (O1.keep K3 nin0).lt f5_0) nin0))).keep K46 (ninS (nlt O1.lt g3) (ninS (nlt (O1.keep K3 nin0).lt f5_0) nin0))).lt (((R14.safe (((O1.keep K3 nin0).keep K5 (ninS (nlt O1.lt g3) nin0)).keep K8 (ninS (nlt O1.lt g3) (ninS (nlt (O1.keep K3 nin0).lt f5_0) nin0))).lt (((((Safe.new g1).keep K1 all0 cv2).keep K3 all0 cv4).keep K5 (allS sf6 all0) cv7).keep K8 (allS sf11 (allS sf12 all0)) cv13)).keep K15 (allS sf18 (allS sf19 all0)) cv20).keep K46 (allS sf47 (allS sf48 all0)) cv49)).keep K71 (allS sf74 (allS sf75 all0)) cv76).keep K91 (allS sf94 (allS sf95 all0)) cv96).keep K98 all0 cv99
          obtain ⟨h102, K102, O102, k⟩ := (k.callIF (w_177 hw) (I2 hw) (R_iei hw G hst o100 n_b1) kn D7_36 1 rfl).k0 (allS n_b1 all0) (Or.inr (allS sf101 all0))
          have o104 := f98_3.keep K102 (ninS (nlt' (((((((((O1.keep K3 nin0).keep K5 (ninS (nlt O1.lt g3) nin0)).keep K8 (ninS (nlt O1.lt g3) (ninS (nlt (O1.keep K3 nin0).lt f5_0) nin0))).keep K14 nin0).keep K15 (ninS (nlt O1.lt g3) (ninS (nlt (O1.keep K3 nin0).lt f5_0) nin0))).keep K46 (ninS (nlt O1.lt g3) (ninS (nlt (O1.keep K3 nin0).lt f5_0) nin0))).keep K50 nin0).keep K71 (ninS (nlt O1.lt g3) (ninS (nlt (O1.keep K3 nin0).lt f5_0) nin0))).keep K91 (ninS (nlt O1.lt g3) (ninS (nlt (O1.keep K3 nin0).lt f5_0) nin0))).lt f98_0) nin0)
          have o105 := f98_4.keep K102 (ninS (nlt' (((((((((O1.keep K3 nin0).keep K5 (ninS (nlt O1.lt g3) nin0)).keep K8 (ninS (nlt O1.lt g3) (ninS (nlt (O1.keep K3 nin0).lt f5_0) nin0))).keep K14 nin0).keep K15 (ninS (nlt O1.lt g3) (ninS (nlt (O1.keep K3 nin0).lt f5_0) nin0))).keep K46 (ninS (nlt O1.lt g3) (ninS (nlt (O1.keep K3 nin0).lt f5_0) nin0))).keep K50 nin0).keep K71 (ninS (nlt O1.lt g3) (ninS (nlt (O1.keep K3 nin0).lt f5_0) nin0))).keep K91 (ninS (nlt O1.lt g3) (ninS (nlt (O1.keep K3 nin0).lt f5_0) nin0))).lt f98_1) nin0)
          obtain ⟨⟨cq0, cq1, cq2, cq3, cq4⟩, bq1, bq2, bq3, bq4⟩ := msg_pos (p1 := p1) (p2 := p2) (q := q1) x1 x2 x3 x4 rfl rfl rfl rfl rfl rfl
          have m0 : _ := ng16 rfl hs21 (by omega)
          have m1 : _ := ng16 rfl hs51 (by omega)
          exact k.retA D7_39 rfl ⟨_, rfl, (((((((((((K1.trans K3 all0).trans K5 (allS (Or.inr s_b3) all0)).trans K8 (allS (Or.inr s_b3) (allS (Or.inr s_u1_5) all0))).trans K14 all0).trans K15 (allS (Or.inr s_b3) (allS (Or.inr s_u1_5) all0))).trans K46 (allS (Or.inr s_b3) (allS (Or.inr s_u1_5) all0))).trans K50 all0).trans K71 (allS (Or.inr s_b3) (allS (Or.inr s_u1_5) all0))).trans K91 (allS (Or.inr s_b3) (allS (Or.inr s_u1_5) all0))).trans K98 all0).trans K102 (allS (Or.inr s_b1) all0)), b1, u1_98, u2_98, _, rfl, O102, o104, o105.len (by rw [hs97]; rfl), (msg_of (by rw [shl0]; exact cq0) cq2 (by rw [shl0]) (by rw [shl0]; exact cq3) (fun i hi => cpyi_in (Nat.zero_le _) (by omega)) (fun i hi => rfl) f46_2 (fun i hi => rfl) (fun i hi => rfl) (fun i hi => rfl))⟩
        · have cv107 := k.chv
          obtain ⟨_, h106, K106, ⟨u1_106, u2_106, rfl, f106_0, f106_1, f106_2, f106_3, f106_4⟩, k⟩ := (k.callV (w_136 hw) (V_Y24_24_StringBuilder hw) f91_0.exa (R_24_4 hw G f91_0 f91_1 hs97 (own_d55 rfl rfl rfl rfl rfl rfl rfl rfl rfl x1 x2 x3 x4 hs21 hs51 hs77 hs97) (own_d56 rfl rfl rfl rfl rfl rfl rfl rfl rfl rfl x1 x2 x3 x4 hs21 hs51 hs77 hs97) (own_d57 rfl rfl rfl rfl rfl rfl rfl rfl rfl rfl x1 x2 x3 x4 hs21 hs51 hs77 hs97) (own_d58 rfl rfl rfl rfl rfl rfl rfl rfl rfl rfl x1 x2 x3 x4 hs21 hs51 hs77 hs97) (own_d59 rfl rfl rfl rfl rfl rfl rfl rfl rfl rfl x1 x2 x3 x4 hs21 hs51 hs77 hs97) (own_d60 rfl rfl rfl rfl rfl rfl rfl rfl rfl rfl x1 x2 x3 x4 hs21 hs51 hs77 hs97)) D7_33 2 rfl).kv all0 (Or.inr all0)
          have o108 := (((((((((O1.keep K3 nin0).keep K5 (ninS (nlt O1.lt g3) nin0)).keep K8 (ninS (nlt O1.lt g3) (ninS (nlt (O1.keep K3 nin0).lt f5_0) nin0))).keep K14 nin0).keep K15 (ninS (nlt O1.lt g3) (ninS (nlt (O1.keep K3 nin0).lt f5_0) nin0))).keep K46 (ninS (nlt O1.lt g3) (ninS (nlt (O1.keep K3 nin0).lt f5_0) nin0))).keep K50 nin0).keep K71 (ninS (nlt O1.lt g3) (ninS (nlt (O1.keep K3 nin0).lt f5_0) nin0))).keep K91 (ninS (nlt O1.lt g3) (ninS (nlt (O1.keep K3 nin0).lt f5_0) nin0))).keep K106 nin0
          have s_b1 := Nat.le_trans z1 g1
          have n_b1 := Nat.le_trans nz s_b1
          have sf109 := (((R50.safe ((((((O1.keep K3 nin0).keep K5 (ninS (nlt O1.lt g3) nin0)).keep K8 (ninS (nlt O1.lt g3) (ninS (nlt (O1.keep K3 nin0).lt f5_0) nin0))).keep K14 nin0).keep K15 (ninS (nlt O1.lt g3) (ninS (nlt (O1.keep K3 nin0).lt f5_0) nin0))).keep K46 (ninS (nlt O1.lt g3) (ninS (nlt (O1.keep K3 nin0).lt f5_0) nin0))).lt (((R14.safe (((O1.keep K3 nin0).keep K5 (ninS (nlt O1.lt g3) nin0)).keep K8 (ninS (nlt O1.lt g3) (ninS (nlt (O1.keep K3 nin0).lt f5_0) nin0))).lt (((((Safe.new g1).keep K1 all0 cv2).keep K3 all0 cv4).keep K5 (allS sf6 all0) cv7).keep K8 (allS sf11 (allS sf12 all0)) cv13)).keep K15 (allS sf18 (allS sf19 all0)) cv20).keep K46 (allS sf47 (allS sf48 all0)) cv49)).keep K71 (allS sf74 (allS sf75 all0)) cv76).keep K91 (allS sf94 (allS sf95 all0)) cv96).keep K106 all0 cv107
          obtain ⟨h110, K110, O110, k⟩ := (k.callIF (w_177 hw) (I2 hw) (R_iei hw G hst o108 n_b1) kn D7_36 1 rfl).k0 (allS n_b1 all0) (Or.inr (allS sf109 all0))
          have o112 := f106_3.keep K110 (ninS (nlt' (((((((((O1.keep K3 nin0).keep K5 (ninS (nlt O1.lt g3) nin0)).keep K8 (ninS (nlt O1.lt g3) (ninS (nlt (O1.keep K3 nin0).lt f5_0) nin0))).keep K14 nin0).keep K15 (ninS (nlt O1.lt g3) (ninS (nlt (O1.keep K3 nin0).lt f5_0) nin0))).keep K46 (ninS (nlt O1.lt g3) (ninS (nlt (O1.keep K3 nin0).lt f5_0) nin0))).keep K50 nin0).keep K71 (ninS (nlt O1.lt g3) (ninS (nlt (O1.keep K3 nin0).lt f5_0) nin0))).keep K91 (ninS (nlt O1.lt g3) (ninS (nlt (O1.keep K3 nin0).lt f5_0) nin0))).lt f106_0) nin0)
          have o113 := f106_4.keep K110 (ninS (nlt' (((((((((O1.keep K3 nin0).keep K5 (ninS (nlt O1.lt g3) nin0)).keep K8 (ninS (nlt O1.lt g3) (ninS (nlt (O1.keep K3 nin0).lt f5_0) nin0))).keep K14 nin0).keep K15 (ninS (nlt O1.lt g3) (ninS (nlt (O1.keep K3 nin0).lt f5_0) nin0))).keep K46 (ninS (nlt O1.lt g3) (ninS (nlt (O1.keep K3 nin0).lt f5_0) nin0))).keep K50 nin0).keep K71 (ninS (nlt O1.lt g3) (ninS (nlt (O1.keep K3 nin0).lt f5_0) nin0))).keep K91 (ninS (nlt O1.lt g3) (ninS (nlt (O1.keep K3 nin0).lt f5_0) nin0))).lt f106_1) nin0)
          obtain ⟨⟨cq0, cq1, cq2, cq3, cq4⟩, bq1, bq2, bq3, bq4⟩ := msg_pos (p1 := p1) (p2 := p2) (q := q1) x1 x2 x3 x4 rfl rfl rfl rfl rfl rfl
          have m0 : _ := ng16 rfl hs21 (by omega)
          have m1 : _ := ng16 rfl hs51 (by omega)
          exact k.retA D7_39 rfl ⟨_, rfl, (((((((((((K1.trans K3 all0).trans K5 (allS (Or.inr s_b3) all0)).trans K8 (allS (Or.inr s_b3) (allS (Or.inr s_u1_5) all0))).trans K14 all0).trans K15 (allS (Or.inr s_b3) (allS (Or.inr s_u1_5) all0))).trans K46 (allS (Or.inr s_b3) (allS (Or.inr s_u1_5) all0))).trans K50 all0).trans K71 (allS (Or.inr s_b3) (allS (Or.inr s_u1_5) all0))).trans K91 (allS (Or.inr s_b3) (allS (Or.inr s_u1_5) all0))).trans K106 all0).trans K110 (allS (Or.inr s_b1) all0)), b1, u1_106, u2_106, _, rfl, O110, o112, o113.len (congrArg Int32.toNatClampNeg (Int32.sub_zero _)), (msg_of (by rw [shl0]; exact cq0) cq2 (by rw [shl0]) (by rw [shl0]; exact cq3) (fun i hi => cpyi_in (Nat.zero_le _) (by omega)) (fun i hi => rfl) f46_2 (fun i hi => rfl) (fun i hi => rfl) (fun i hi => cpyi_in (Nat.zero_le _) (by rw [Int32.sub_zero]; omega)))⟩
abbrev Y33 : MethodName := ⟨"com/example/fala/fala/format/CsvReaderRefusalPinLaw", "str", "(ICC)Ljava/lang/String;"⟩
abbrev J33 := method_3_code
abbrev C33 : Cond := .code Y33 J33 3 (some (.object "java/lang/String"))
theorem D33_0 : Dc J33 0 (.iload_n 0) 1 1 := by decide +kernel
theorem D33_1 : Dj J33 1 (.ifCond .ne 14) 14 4 15 := by decide +kernel
theorem D33_4 : Dc J33 4 (.new 30) 3 7 := by decide +kernel
abbrev w_4 (hw : HW a0 Z) := hw.at 4 rfl
theorem D33_7 : Dc J33 7 .dup 1 8 := by decide +kernel
theorem D33_8 : Dc J33 8 (.iconst 0) 1 9 := by decide +kernel
theorem D33_9 : Dc J33 9 (.newarray .char) 2 11 := by decide +kernel
abbrev w_7 (hw : HW a0 Z) := hw.at 7 rfl
theorem D33_11 : Dc J33 11 (.invokespecial 79) 3 14 := by decide +kernel
abbrev Y34 : MethodName := ⟨"java/lang/String", "<init>", "([C)V"⟩
abbrev J34 := jdk_42_method_3_code
abbrev C34 : Cond := .code Y34 J34 2 none
theorem D34_0 : Dc J34 0 (.aload_n 0) 1 1 := by decide +kernel
theorem D34_1 : Dc J34 1 (.aload_n 1) 1 2 := by decide +kernel
theorem D34_2 : Dc J34 2 (.iconst 0) 1 3 := by decide +kernel
theorem D34_3 : Dc J34 3 (.aload_n 1) 1 4 := by decide +kernel
theorem D34_4 : Dc J34 4 .arraylength 1 5 := by decide +kernel
theorem D34_5 : Dc J34 5 .aconst_null 1 6 := by decide +kernel
theorem D34_6 : Dc J34 6 (.invokespecial 27) 3 9 := by decide +kernel
abbrev Y35 : MethodName := ⟨"java/lang/String", "<init>", "([CIILjava/lang/Void;)V"⟩
abbrev J35 := jdk_42_method_149_code
abbrev C35 : Cond := .code Y35 J35 6 none
theorem D35_0 : Dc J35 0 (.aload_n 0) 1 1 := by decide +kernel
theorem D35_1 : Dc J35 1 (.invokespecial 1) 3 4 := by decide +kernel
theorem D35_4 : Dc J35 4 (.iload_n 3) 1 5 := by decide +kernel
theorem D35_5 : Dj J35 5 (.ifCond .ne 22) 22 8 27 := by decide +kernel
theorem D35_8 : Dc J35 8 (.aload_n 0) 1 9 := by decide +kernel
theorem D35_9 : Dc J35 9 (.ldc 7) 2 11 := by decide +kernel
theorem lit_18 : (∀ c ∈ "".toList, c.toNat < 256) ∧ "".toList.map (fun c => Value.int (Jvm.Lit.byteI c.toNat.toUInt16)) = [] := by decide +kernel
theorem D35_11 : Dc J35 11 (.getfield 9) 3 14 := by decide +kernel
theorem D35_14 : Dc J35 14 (.putfield 9) 3 17 := by decide +kernel
theorem D35_17 : Dc J35 17 (.aload_n 0) 1 18 := by decide +kernel
theorem D35_18 : Dc J35 18 (.ldc 7) 2 20 := by decide +kernel
theorem D35_20 : Dc J35 20 (.getfield 15) 3 23 := by decide +kernel
theorem D35_23 : Dc J35 23 (.putfield 15) 3 26 := by decide +kernel
theorem D35_26 : Dc J35 26 .return_ 1 27 := by decide +kernel
theorem PN35 : plainFor Y35 = true := plainFor_of_name pn_String
theorem ef_RRIIN_6 {x0 : Addr} {x1 : Addr} {x2 : Int32} {x3 : Int32}  (m : MethodId) : entryFrame m #[(.ref x0), (.ref x1), (.int x2), (.int x3), .null] 6 = mkF m 0 #[.val (.ref x0), .val (.ref x1), .val (.int x2), .val (.int x3), .val .null, .unset] [] := by
  first | (simp [entryFrame, mkF, argsToLocals, Value.category]; done) | rfl
theorem R_35_3 {a1 a2 : Addr} (hw : HW a0 Z) (G : Gl Z w_CS w_SF w_DO w_DT w_fO w_fT w_US w_SS) (pr1 : Obj Z h0 a1 L_String [.null, .int 0]) (pr2 : n0 ≤ a1) : Mt true consts_1 l Y35 C35 (rmk 1 4 8 12) #[.ref a1, .ref a2, .int 0, .int 0, .null] Z a0 h0 n0 (K0 h0 [a1] fun h => ∃ u1 : Addr, Obj Z h a1 L_String [.ref u1, .int 0] ∧ Ary Z h u1 ("", .byte) 0 (bv (lvi []))) := by
  refine Mt.go PN35 (Or.inl rfl) ef_RRIIN_6 fun k => ?_
  replace k := k |>.aloadN D35_0 rfl rfl |>.initO (w_15 hw) (w_16 hw) (w_17 hw) D35_1 0 |>.iloadN D35_4 rfl |>.ifNo D35_5  |>.aloadN D35_8 rfl rfl
  obtain ⟨a1x, b1x, vm1, h1, K1, R1, O1, A1, N1, k⟩ := k.ldcS (w_18 hw) (strAt hw) (List.mem_of_getElem? (i := 2) rfl) lit_18 rfl D35_9
  replace A1 : Ary Z h1 b1x ("", .byte) 0 (bv (lvi [])) := Ary.norm A1 (lv_bi rfl rfl)
  replace k := k |>.getF (fl_24 hw) O1 0 D35_11 rfl rfl
  have o2 := pr1.keep K1 nin0
  have sf3 := Safe.nul (EL := consts_1) k.al o2 0 rfl rfl
  have cv4 := k.chv
  obtain ⟨h5, K5, O5, k⟩ := k.putF (fl_24 hw) (pw_String_i_String_value hw) o2 0 pr2 (Or.inr sf3) D35_14 rfl rfl rfl ls0
  replace k := k |>.aloadN D35_17 rfl rfl
  obtain ⟨a6x, b6x, vm6, h6, K6, R6, O6, A6, N6, k⟩ := k.ldcS (w_18 hw) (strAt hw) (List.mem_of_getElem? (i := 2) rfl) lit_18 rfl D35_18
  replace A6 : Ary Z h6 b6x ("", .byte) 0 (bv (lvi [])) := Ary.norm A6 (lv_bi rfl rfl)
  replace k := k |>.getF (fl_25 hw) O6 1 D35_20 rfl rfl
  have o7 := O5.keep K6 nin0
  have sf8 := R6.safe O5.lt (sf3.keep K5 (allS sf3 all0) cv4)
  obtain ⟨h10, K10, O10, k⟩ := k.putN (fp_25 hw) (pw_String_i_String_coder hw) o7 1 pr2 (Or.inr sf8) D35_23 rfl (v' := (.int 0)) (by decide) (by decide) ls1
  have o11 := ((A1.keep K5 (ninS (Ne.symm (N1 _ sf3).2) nin0)).keep K6 nin0).keep K10 (ninS (Ne.symm (N1 _ sf3).2) nin0)
  exact k.ret0 D35_26 rfl ⟨rfl, (((((Keep.refl h0 [a1]).trans K1 all0).trans K5 (allS (Or.inl (List.mem_of_getElem? (i := 0) rfl)) all0)).trans K6 all0).trans K10 (allS (Or.inl (List.mem_of_getElem? (i := 0) rfl)) all0)), b1x, O10, o11⟩
abbrev w_11 (hw : HW a0 Z) := hw.at 11 rfl
abbrev w_14 (hw : HW a0 Z) := hw.at 14 rfl
theorem pd_ACIILjava_lang_Void_r_V : parseMethodDescriptor "([CIILjava/lang/Void;)V" = some ⟨[(.array .char), .int, .int, (.object "java/lang/Void")], none⟩ := by decide +kernel
abbrev w_12 (hw : HW a0 Z) := hw.at 12 rfl
theorem I35 (hw : HW a0 Z) : IC Z a0 Y35 C35 6 4 := ⟨(w_12 hw), rfl, ⟨⟨_, Or.inl rfl⟩, (w_14 hw), (w_6 hw), by decide, _, _, pd_ACIILjava_lang_Void_r_V, rfl⟩⟩
theorem D34_9 : Dc J34 9 .return_ 1 10 := by decide +kernel
theorem PN34 : plainFor Y34 = true := plainFor_of_name pn_String
theorem R_34_2 {a1 a2 : Addr} (hw : HW a0 Z) (G : Gl Z w_CS w_SF w_DO w_DT w_fO w_fT w_US w_SS) (pr1 : Ary Z h0 a2 ATC 0 (bv (lvi []))) (pr2 : Obj Z h0 a1 L_String [.null, .int 0]) (pr3 : n0 ≤ a1) : Mt true consts_1 l Y34 C34 (rmk 2 4 8 29) #[.ref a1, .ref a2] Z a0 h0 n0 (K0 h0 [a1] fun h => ∃ u1 : Addr, Obj Z h a1 L_String [.ref u1, .int 0] ∧ Ary Z h u1 ("", .byte) 0 (bv (lvi []))) := by
  refine Mt.go PN34 (Or.inl rfl) ef_RR_2 fun k => ?_
  replace k := k |>.aloadN D34_0 rfl rfl |>.aloadN D34_1 rfl rfl |>.iconst D34_2 0 |>.aloadN D34_3 rfl rfl |>.alen pr1 D34_4 (z := 0) (by decide) |>.aconstNull D34_5
  obtain ⟨vm1, h1, K1, R1, ⟨u1_1, f1_0, f1_1⟩, k⟩ := (k.callIW (w_11 hw) (I35 hw) (R_35_3 hw G pr2 pr3) D34_6 0 rfl).k0 (allS pr3 all0)
  exact k.ret0 D34_9 rfl ⟨rfl, K1, u1_1, f1_0, f1_1⟩
abbrev w_8 (hw : HW a0 Z) := hw.at 8 rfl
abbrev w_10 (hw : HW a0 Z) := hw.at 10 rfl
theorem pd_AC_r_V : parseMethodDescriptor "([C)V" = some ⟨[(.array .char)], none⟩ := by decide +kernel
abbrev w_9 (hw : HW a0 Z) := hw.at 9 rfl
theorem I34 (hw : HW a0 Z) : IC Z a0 Y34 C34 2 1 := ⟨(w_9 hw), rfl, ⟨⟨_, Or.inl rfl⟩, (w_10 hw), (w_6 hw), by decide, _, _, pd_AC_r_V, rfl⟩⟩
theorem D33_14 : Dc J33 14 .areturn 1 15 := by decide +kernel
theorem D33_15 : Dc J33 15 (.iload_n 0) 1 16 := by decide +kernel
theorem D33_16 : Dc J33 16 (.iconst 1) 1 17 := by decide +kernel
theorem D33_17 : Dj J33 17 (.if_icmp .ne 8) 8 20 25 := by decide +kernel
theorem D33_20 : Dc J33 20 (.iload_n 1) 1 21 := by decide +kernel
theorem D33_21 : Dc J33 21 (.invokestatic 82) 3 24 := by decide +kernel
abbrev Y36 : MethodName := ⟨"java/lang/String", "valueOf", "(C)Ljava/lang/String;"⟩
abbrev J36 := jdk_42_method_139_code
abbrev C36 : Cond := .code Y36 J36 1 (some (.object "java/lang/String"))
theorem D36_0 : Dc J36 0 (.getstatic 38) 3 3 := by decide +kernel
theorem D36_3 : Dj J36 3 (.ifCond .eq 23) 23 6 26 := by decide +kernel
theorem D36_6 : Dc J36 6 (.iload_n 0) 1 7 := by decide +kernel
theorem D36_7 : Dc J36 7 (.invokestatic 1015) 3 10 := by decide +kernel
abbrev Y37 : MethodName := ⟨"java/lang/StringLatin1", "canEncode", "(C)Z"⟩
abbrev J37 := jdk_43_method_3_code
abbrev C37 : Cond := .code Y37 J37 1 (some .boolean)
theorem D37_0 : Dc J37 0 (.iload_n 0) 1 1 := by decide +kernel
theorem D37_1 : Dc J37 1 (.sipush 255) 3 4 := by decide +kernel
theorem D37_4 : Dj J37 4 (.if_icmp .gt 7) 7 7 11 := by decide +kernel
theorem own_d61 {p2 : Int32} (hq0 : ¬ (p2 < 0)) (hq1 : p2 < 256) : ¬ (255 < p2) := by
  have := rng32 p2
  have : (0 : Int32).toInt = 0 := by decide
  have := i_nlt hq0
  have : (256 : Int32).toInt = 256 := by decide
  have := i_lt hq1
  have : (255 : Int32).toInt = 255 := by decide
  exact o_nlt (by omega)
theorem D37_7 : Dc J37 7 (.iconst 1) 1 8 := by decide +kernel
theorem D37_8 : Dj J37 8 (.goto 4) 4 11 12 := by decide +kernel
theorem D37_12 : Dc J37 12 .ireturn 1 13 := by decide +kernel
theorem pn_StringLatin1 : plainName "java/lang/StringLatin1" = true := by first | (simp [plainName, overriddenIn]; done) | decide +kernel
theorem PN37 : plainFor Y37 = true := plainFor_of_name pn_StringLatin1
theorem ef_I_1 {x0 : Int32}  (m : MethodId) : entryFrame m #[(.int x0)] 1 = mkF m 0 #[.val (.int x0)] [] := by
  first | (simp [entryFrame, mkF, argsToLocals, Value.category]; done) | rfl
theorem R_37_1 {p1 : Int32} (hw : HW a0 Z) (G : Gl Z w_CS w_SF w_DO w_DT w_fO w_fT w_US w_SS) (pr1 : ¬ (255 < p1)) : Mt false [] l Y37 C37 (rmk 0 0 0 0) #[.int p1] Z a0 h0 n0 (Pv h0 (.int 1)) := by
  refine Mt.go PN37 (Or.inl rfl) ef_I_1 fun k => ?_
  replace k := k |>.iloadN D37_0 rfl |>.sipush D37_1 255 |>.icmpNo D37_4 (flt pr1).2.2.1 |>.iconst D37_7 1 |>.goto D37_8
  exact k.retN (t := .boolean) D37_12 rfl (by simp) (z' := 1) (by decide) ⟨rfl, rfl⟩
abbrev w_310 (hw : HW a0 Z) := hw.at 310 rfl
abbrev w_312 (hw : HW a0 Z) := hw.at 312 rfl
abbrev w_274 (hw : HW a0 Z) := hw.at 274 rfl
theorem pd_C_r_Z : parseMethodDescriptor "(C)Z" = some ⟨[.char], some .boolean⟩ := by decide +kernel
abbrev w_311 (hw : HW a0 Z) := hw.at 311 rfl
theorem S37 (hw : HW a0 Z) : SC Z a0 Y37 C37 1 (some .boolean) 1 := ⟨(w_311 hw), ⟨⟨_, Or.inl rfl⟩, (w_312 hw), (w_274 hw), by decide, _, _, pd_C_r_Z, rfl⟩⟩
theorem D36_10 : Dj J36 10 (.ifCond .eq 16) 16 13 26 := by decide +kernel
theorem D36_13 : Dc J36 13 (.new 10) 3 16 := by decide +kernel
abbrev w_313 (hw : HW a0 Z) := hw.at 313 rfl
theorem D36_16 : Dc J36 16 .dup 1 17 := by decide +kernel
theorem D36_17 : Dc J36 17 (.iload_n 0) 1 18 := by decide +kernel
theorem D36_18 : Dc J36 18 (.invokestatic 1018) 3 21 := by decide +kernel
abbrev Y38 : MethodName := ⟨"java/lang/StringLatin1", "toBytes", "(C)[B"⟩
abbrev J38 := jdk_43_method_46_code
abbrev C38 : Cond := .code Y38 J38 1 (some (.array .byte))
theorem D38_0 : Dc J38 0 (.iconst 1) 1 1 := by decide +kernel
theorem D38_1 : Dc J38 1 (.newarray .byte) 2 3 := by decide +kernel
theorem D38_3 : Dc J38 3 .dup 1 4 := by decide +kernel
theorem D38_4 : Dc J38 4 (.iconst 0) 1 5 := by decide +kernel
theorem D38_5 : Dc J38 5 (.iload_n 0) 1 6 := by decide +kernel
theorem D38_6 : Dc J38 6 .i2b 1 7 := by decide +kernel
theorem D38_7 : Dc J38 7 .bastore 1 8 := by decide +kernel
theorem bis0 { x v : Int32} {t : List Int32} {n : Nat} : ∀ j, j < n → updv (bv (lvi (x :: t))) 0 (.int v) j = bv (lvi (v :: t)) j := bi_set rfl (by simp)
theorem D38_8 : Dc J38 8 .areturn 1 9 := by decide +kernel
theorem PN38 : plainFor Y38 = true := plainFor_of_name pn_StringLatin1
theorem R_38_1 {p1 : Int32} (hw : HW a0 Z) (G : Gl Z w_CS w_SF w_DO w_DT w_fO w_fT w_US w_SS) : Mt false [] l Y38 C38 (rmk 0 1 1 0) #[.int p1] Z a0 h0 n0 (KpV h0 [] fun v h => ∃ u1 : Addr, v = (.ref u1) ∧ h0.size ≤ u1 ∧ Ary Z h u1 ATB 1 (bv (lvi [(p1.toInt8.toInt32)]))) := by
  refine Mt.go PN38 (Or.inl rfl) ef_I_1 fun k => ?_
  have nz := k.n0le
  replace k := k |>.iconst D38_0 1
  have z1 := k.sz
  obtain ⟨b1, h1, g1, K1, O1, k⟩ := k.newP (aty := .byte) "[B" (w_19 hw) (by decide) D38_1 1 (by decide) (n := 1) (by decide) (by decide) (by decide) (bi_const (L := [0]) rfl)
  replace k := k |>.dup D38_3 rfl |>.iconst D38_4 0 |>.iloadN D38_5 rfl |>.i2b D38_6 rfl
  have s_b1 := Nat.le_trans z1 g1
  have n_b1 := Nat.le_trans nz s_b1
  obtain ⟨h2, K2, O2, k⟩ := k.stB O1 n_b1 (Or.inl rfl) D38_7 (i := 0) (by decide) (v := (.int (p1.toInt8.toInt32))) (congrArg Value.int (own_nnBi2b _)) (own_fitBi2b _) bis0
  exact k.retA D38_8 rfl ⟨_, rfl, (K1.trans K2 (allS (Or.inr s_b1) all0)), b1, rfl, s_b1, O2⟩
abbrev w_314 (hw : HW a0 Z) := hw.at 314 rfl
abbrev w_316 (hw : HW a0 Z) := hw.at 316 rfl
theorem pd_C_r_AB : parseMethodDescriptor "(C)[B" = some ⟨[.char], some (.array .byte)⟩ := by decide +kernel
abbrev w_315 (hw : HW a0 Z) := hw.at 315 rfl
theorem S38 (hw : HW a0 Z) : SC Z a0 Y38 C38 1 (some (.array .byte)) 1 := ⟨(w_315 hw), ⟨⟨_, Or.inl rfl⟩, (w_316 hw), (w_274 hw), by decide, _, _, pd_C_r_AB, rfl⟩⟩
theorem D36_21 : Dc J36 21 (.iconst 0) 1 22 := by decide +kernel
theorem D36_22 : Dc J36 22 (.invokespecial 209) 3 25 := by decide +kernel
abbrev Y39 : MethodName := ⟨"java/lang/String", "<init>", "([BB)V"⟩
abbrev J39 := jdk_42_method_151_code
abbrev C39 : Cond := .code Y39 J39 3 none
theorem D39_0 : Dc J39 0 (.aload_n 0) 1 1 := by decide +kernel
theorem D39_1 : Dc J39 1 (.invokespecial 1) 3 4 := by decide +kernel
theorem D39_4 : Dc J39 4 (.aload_n 0) 1 5 := by decide +kernel
theorem D39_5 : Dc J39 5 (.aload_n 1) 1 6 := by decide +kernel
theorem D39_6 : Dc J39 6 (.putfield 9) 3 9 := by decide +kernel
theorem D39_9 : Dc J39 9 (.aload_n 0) 1 10 := by decide +kernel
theorem D39_10 : Dc J39 10 (.iload_n 2) 1 11 := by decide +kernel
theorem D39_11 : Dc J39 11 (.putfield 15) 3 14 := by decide +kernel
theorem D39_14 : Dc J39 14 .return_ 1 15 := by decide +kernel
theorem PN39 : plainFor Y39 = true := plainFor_of_name pn_String
theorem ef_RRI_3 {x0 : Addr} {x1 : Addr} {x2 : Int32}  (m : MethodId) : entryFrame m #[(.ref x0), (.ref x1), (.int x2)] 3 = mkF m 0 #[.val (.ref x0), .val (.ref x1), .val (.int x2)] [] := by
  first | (simp [entryFrame, mkF, argsToLocals, Value.category]; done) | rfl
theorem R_39_1 {a1 a2 : Addr} (hw : HW a0 Z) (G : Gl Z w_CS w_SF w_DO w_DT w_fO w_fT w_US w_SS) (pr1 : Obj Z h0 a1 L_String [.null, .int 0]) (pr2 : n0 ≤ a1) : Mt false [] l Y39 C39 (rmk 1 0 0 12) #[.ref a1, .ref a2, .int 0] Z a0 h0 n0 (K0 h0 [a1] fun h => Obj Z h a1 L_String [.ref a2, .int 0]) := by
  refine Mt.go PN39 (Or.inl rfl) ef_RRI_3 fun k => ?_
  replace k := k |>.aloadN D39_0 rfl rfl |>.initO (w_15 hw) (w_16 hw) (w_17 hw) D39_1 0 |>.aloadN D39_4 rfl rfl |>.aloadN D39_5 rfl rfl
  obtain ⟨h1, K1, O1, k⟩ := k.putF (fl_24 hw) (pw_String_i_String_value hw) pr1 0 pr2 (Or.inl rfl) D39_6 rfl rfl rfl ls0
  replace k := k |>.aloadN D39_9 rfl rfl |>.iloadN D39_10 rfl
  obtain ⟨h2, K2, O2, k⟩ := k.putN (fp_25 hw) (pw_String_i_String_coder hw) O1 1 pr2 (Or.inl rfl) D39_11 rfl (v' := (.int 0)) (by decide) (by decide) ls1
  exact k.ret0 D39_14 rfl ⟨rfl, (K1.trans K2 (allS (Or.inl (List.mem_of_getElem? (i := 0) rfl)) all0)), O2⟩
abbrev w_317 (hw : HW a0 Z) := hw.at 317 rfl
abbrev w_319 (hw : HW a0 Z) := hw.at 319 rfl
theorem pd_ABB_r_V : parseMethodDescriptor "([BB)V" = some ⟨[(.array .byte), .byte], none⟩ := by decide +kernel
abbrev w_318 (hw : HW a0 Z) := hw.at 318 rfl
theorem I39 (hw : HW a0 Z) : IC Z a0 Y39 C39 3 2 := ⟨(w_318 hw), rfl, ⟨⟨_, Or.inl rfl⟩, (w_319 hw), (w_6 hw), by decide, _, _, pd_ABB_r_V, rfl⟩⟩
theorem D36_25 : Dc J36 25 .areturn 1 26 := by decide +kernel
theorem PN36 : plainFor Y36 = true := plainFor_of_name pn_String
theorem R_36_1 {p1 : Int32} (hw : HW a0 Z) (G : Gl Z w_CS w_SF w_DO w_DT w_fO w_fT w_US w_SS) (pr1 : ¬ (255 < p1)) : Mt false [] l Y36 C36 (rmk 2 2 5 27) #[.int p1] Z a0 h0 n0 (KpV h0 [] fun v h => ∃ u1 u2 : Addr, v = (.ref u1) ∧ h0.size ≤ u1 ∧ h0.size ≤ u2 ∧ u2 ≠ u1 ∧ Obj Z h u1 L_String [.ref u2, .int 0] ∧ Ary Z h u2 ATB 1 (bv (lvi [(p1.toInt8.toInt32)]))) := by
  refine Mt.go PN36 (Or.inl rfl) ef_I_1 fun k => ?_
  have nz := k.n0le
  replace k := k |>.getS (fl_26 hw) G.S_CS D36_0 |>.ifNo D36_3 ((if0 _ _).trans (feq G.h_CS).1) |>.iloadN D36_6 rfl
  replace k := (k.callS (w_310 hw) (S37 hw) (R_37_1 hw G pr1) D36_7 0 rfl).pv
  replace k := k |>.ifNo D36_10 
  have z2 := k.sz
  obtain ⟨b2, h2, g2, K2, O2, k⟩ := k.new (L := L_String) (w_313 hw) (nw_String hw) D36_13 (by decide) dvL_String
  replace k := k |>.dup D36_16 rfl |>.iloadN D36_17 rfl
  have z3 := k.sz
  obtain ⟨_, h3, K3, ⟨u1_3, rfl, f3_0, f3_1⟩, k⟩ := (k.callS (w_314 hw) (S38 hw) (R_38_1 hw G) D36_18 2 rfl).kv
  replace k := k |>.iconst D36_21 0
  have s_b2 := Nat.le_trans z2 g2
  have n_b2 := Nat.le_trans nz s_b2
  have o5 := O2.keep K3 nin0
  obtain ⟨h4, K4, f4_0, k⟩ := (k.callI (w_317 hw) (I39 hw) (R_39_1 hw G o5 n_b2) D36_22 1 rfl).k0 (allS n_b2 all0)
  have s_u1_3 := Nat.le_trans z3 f3_0
  have o6 := f3_1.keep K4 (ninS (nlt' O2.lt f3_0) nin0)
  exact k.retA D36_25 rfl ⟨_, rfl, ((K2.trans K3 all0).trans K4 (allS (Or.inr s_b2) all0)), b2, u1_3, rfl, s_b2, s_u1_3, (nlt' O2.lt f3_0), f4_0, o6⟩
abbrev w_307 (hw : HW a0 Z) := hw.at 307 rfl
abbrev w_309 (hw : HW a0 Z) := hw.at 309 rfl
theorem pd_C_r_Ljava_lang_String : parseMethodDescriptor "(C)Ljava/lang/String;" = some ⟨[.char], some (.object "java/lang/String")⟩ := by decide +kernel
abbrev w_308 (hw : HW a0 Z) := hw.at 308 rfl
theorem S36 (hw : HW a0 Z) : SC Z a0 Y36 C36 1 (some (.object "java/lang/String")) 1 := ⟨(w_308 hw), ⟨⟨_, Or.inl rfl⟩, (w_309 hw), (w_6 hw), by decide, _, _, pd_C_r_Ljava_lang_String, rfl⟩⟩
theorem D33_24 : Dc J33 24 .areturn 1 25 := by decide +kernel
theorem own_d62 {p2 v0 : Int32} (e0 : v0 = (latc (p2.toInt8.toInt32))) (hq0 : ¬ (p2 < 0)) (hq1 : p2 < 256) : v0 = p2 := by
  have := rng32 p2
  have : (0 : Int32).toInt = 0 := by decide
  have := i_nlt hq0
  have : (256 : Int32).toInt = 256 := by decide
  have := i_lt hq1
  have := e_lat e0 (by omega) (by omega)
  exact o_eq (by omega)
theorem D33_25 : Dc J33 25 (.new 30) 3 28 := by decide +kernel
theorem D33_28 : Dc J33 28 .dup 1 29 := by decide +kernel
theorem D33_29 : Dc J33 29 (.iconst 2) 1 30 := by decide +kernel
theorem D33_30 : Dc J33 30 (.newarray .char) 2 32 := by decide +kernel
theorem D33_32 : Dc J33 32 .dup 1 33 := by decide +kernel
theorem D33_33 : Dc J33 33 (.iconst 0) 1 34 := by decide +kernel
theorem D33_34 : Dc J33 34 (.iload_n 1) 1 35 := by decide +kernel
theorem D33_35 : Dc J33 35 .castore 1 36 := by decide +kernel
theorem D33_36 : Dc J33 36 .dup 1 37 := by decide +kernel
theorem D33_37 : Dc J33 37 (.iconst 1) 1 38 := by decide +kernel
theorem D33_38 : Dc J33 38 (.iload_n 2) 1 39 := by decide +kernel
theorem D33_39 : Dc J33 39 .castore 1 40 := by decide +kernel
theorem bis1 {x0 x v : Int32} {t : List Int32} {n : Nat} : ∀ j, j < n → updv (bv (lvi (x0 :: x :: t))) 1 (.int v) j = bv (lvi (x0 :: v :: t)) j := bi_set rfl (by simp)
theorem D33_40 : Dc J33 40 (.invokespecial 79) 3 43 := by decide +kernel
theorem D35_27 : Dc J35 27 (.getstatic 38) 3 30 := by decide +kernel
theorem D35_30 : Dj J35 30 (.ifCond .eq 28) 28 33 58 := by decide +kernel
theorem D35_33 : Dc J35 33 (.aload_n 1) 1 34 := by decide +kernel
theorem D35_34 : Dc J35 34 (.iload_n 2) 1 35 := by decide +kernel
theorem D35_35 : Dc J35 35 (.iload_n 3) 1 36 := by decide +kernel
theorem D35_36 : Dc J35 36 (.invokestatic 177) 3 39 := by decide +kernel
abbrev Y40 : MethodName := ⟨"java/lang/StringUTF16", "compress", "([CII)[B"⟩
abbrev J40 := jdk_52_method_16_code
abbrev C40 : Cond := .code Y40 J40 6 (some (.array .byte))
theorem D40_0 : Dc J40 0 (.iload_n 2) 1 1 := by decide +kernel
theorem D40_1 : Dc J40 1 (.newarray .byte) 2 3 := by decide +kernel
theorem D40_3 : Dc J40 3 (.astore_n 3) 1 4 := by decide +kernel
theorem D40_4 : Dc J40 4 (.aload_n 0) 1 5 := by decide +kernel
theorem D40_5 : Dc J40 5 (.iload_n 1) 1 6 := by decide +kernel
theorem D40_6 : Dc J40 6 (.aload_n 3) 1 7 := by decide +kernel
theorem D40_7 : Dc J40 7 (.iconst 0) 1 8 := by decide +kernel
theorem D40_8 : Dc J40 8 (.iload_n 2) 1 9 := by decide +kernel
theorem D40_9 : Dc J40 9 (.invokestatic 115) 3 12 := by decide +kernel
abbrev Y41 : MethodName := ⟨"java/lang/StringUTF16", "compress", "([CI[BII)I"⟩
abbrev J41 := jdk_52_method_21_code
abbrev C41 : Cond := .code Y41 J41 7 (some .int)
theorem D41_0 : Dc J41 0 (.iconst 0) 1 1 := by decide +kernel
theorem D41_1 : Dc J41 1 (.istore 5) 2 3 := by decide +kernel
theorem D41_3 : Dc J41 3 (.iload 5) 2 5 := by decide +kernel
theorem D41_5 : Dc J41 5 (.iload 4) 2 7 := by decide +kernel
theorem D41_7 : Dj J41 7 (.if_icmp .ge 37) 37 10 44 := by decide +kernel
theorem D41_10 : Dc J41 10 (.aload_n 0) 1 11 := by decide +kernel
theorem D41_11 : Dc J41 11 (.iload_n 1) 1 12 := by decide +kernel
theorem D41_12 : Dc J41 12 .caload 1 13 := by decide +kernel
theorem big0 { x : Int32} {t : List Int32} : bv (lvi (x :: t)) 0 = .int x := rfl
theorem D41_13 : Dc J41 13 (.istore 6) 2 15 := by decide +kernel
theorem D41_15 : Dc J41 15 (.iload 6) 2 17 := by decide +kernel
theorem D41_17 : Dc J41 17 (.sipush 255) 3 20 := by decide +kernel
theorem D41_20 : Dj J41 20 (.if_icmp .le 6) 6 23 26 := by decide +kernel
theorem own_d63 {p2 v0 : Int32} (e0 : v0 = (nar .char p2)) (hq0 : ¬ (p2 < 0)) (hq1 : p2 < 256) : ¬ (255 < v0) := by
  have := rng32 p2
  have : (0 : Int32).toInt = 0 := by decide
  have := i_nlt hq0
  have : (256 : Int32).toInt = 256 := by decide
  have := i_lt hq1
  have : (255 : Int32).toInt = 255 := by decide
  have := e_i2cN e0 (by omega)
  exact o_nlt (by omega)
theorem D41_26 : Dc J41 26 (.aload_n 2) 1 27 := by decide +kernel
theorem D41_27 : Dc J41 27 (.iload_n 3) 1 28 := by decide +kernel
theorem D41_28 : Dc J41 28 (.iload 6) 2 30 := by decide +kernel
theorem D41_30 : Dc J41 30 .i2b 1 31 := by decide +kernel
theorem D41_31 : Dc J41 31 .bastore 1 32 := by decide +kernel
theorem D41_32 : Dc J41 32 (.iinc 1 1) 3 35 := by decide +kernel
theorem sto1 {x0 x : Slot} {t : List Slot} {v : Value} (hx : okS x = true := by rfl) (hv : v.category = 1 := by rfl) : storeLocals (List.toArray (x0 :: x :: t)) 1 v = some (List.toArray (x0 :: .val v :: t)) := stoA (A := [x0]) hx hv
theorem D41_35 : Dc J41 35 (.iinc 3 1) 3 38 := by decide +kernel
theorem D41_38 : Dc J41 38 (.iinc 5 1) 3 41 := by decide +kernel
theorem D41_41 : Dj J41 41 (.goto (-38)) (-38) 44 3 := by decide +kernel
theorem big1 {x0 x : Int32} {t : List Int32} : bv (lvi (x0 :: x :: t)) 1 = .int x := rfl
theorem own_d64 {p3 v0 : Int32} (e0 : v0 = (nar .char p3)) (hq0 : ¬ (p3 < 0)) (hq1 : p3 < 256) : ¬ (255 < v0) := by
  have := rng32 p3
  have : (0 : Int32).toInt = 0 := by decide
  have := i_nlt hq0
  have : (256 : Int32).toInt = 256 := by decide
  have := i_lt hq1
  have : (255 : Int32).toInt = 255 := by decide
  have := e_i2cN e0 (by omega)
  exact o_nlt (by omega)
theorem D41_44 : Dc J41 44 (.iload 4) 2 46 := by decide +kernel
theorem D41_46 : Dc J41 46 .ireturn 1 47 := by decide +kernel
theorem pn_StringUTF16 : plainName "java/lang/StringUTF16" = true := by first | (simp [plainName, overriddenIn]; done) | decide +kernel
theorem PN41 : plainFor Y41 = true := plainFor_of_name pn_StringUTF16
theorem ef_RIRII_7 {x0 : Addr} {x1 : Int32} {x2 : Addr} {x3 : Int32} {x4 : Int32}  (m : MethodId) : entryFrame m #[(.ref x0), (.int x1), (.ref x2), (.int x3), (.int x4)] 7 = mkF m 0 #[.val (.ref x0), .val (.int x1), .val (.ref x2), .val (.int x3), .val (.int x4), .unset, .unset] [] := by
  first | (simp [entryFrame, mkF, argsToLocals, Value.category]; done) | rfl
theorem R_41_1 {a1 a2 : Addr} {p3 p4 : Int32} (hw : HW a0 Z) (G : Gl Z w_CS w_SF w_DO w_DT w_fO w_fT w_US w_SS) (pr1 : Ary Z h0 a1 ATC 2 (bv (lvi [p3, p4]))) (pr2 : ¬ (255 < p3)) (pr3 : Ary Z h0 a2 ATB 2 (bv (lvi [0, 0]))) (pr4 : n0 ≤ a2) (pr5 : a1 ≠ a2) (pr6 : ¬ (255 < p4)) : Mt false [] l Y41 C41 (rmk 0 0 0 0) #[.ref a1, .int 0, .ref a2, .int 0, .int 2] Z a0 h0 n0 (KpV h0 [a2] fun v h => v = (.int 2) ∧ Ary Z h a2 ATB 2 (bv (lvi [(p3.toInt8.toInt32), (p4.toInt8.toInt32)]))) := by
  refine Mt.go PN41 (Or.inl rfl) ef_RIRII_7 fun k => ?_
  replace k := k |>.iconst D41_0 0 |>.istore D41_1 sto5 |>.iload D41_3 rfl |>.iload D41_5 rfl |>.icmpNo D41_7  |>.aloadN D41_10 rfl rfl |>.iloadN D41_11 rfl |>.cald pr1 D41_12 (i := 0) (by decide) big0 |>.istore D41_13 sto6 |>.iload D41_15 rfl |>.sipush D41_17 255 |>.icmpYes D41_20 (flt pr2).2.2.2
  replace k := k |>.aloadN D41_26 rfl rfl |>.iloadN D41_27 rfl |>.iload D41_28 rfl |>.i2b D41_30 rfl
  obtain ⟨h1, K1, O1, k⟩ := k.stB pr3 pr4 (Or.inl rfl) D41_31 (i := 0) (by decide) (v := (.int (p3.toInt8.toInt32))) (congrArg Value.int (own_nnBi2b _)) (own_fitBi2b _) bis0
  replace k := k |>.iinc D41_32 rfl (z := 1) (by decide) sto1 |>.iinc D41_35 rfl (z := 1) (by decide) sto3 |>.iinc D41_38 rfl (z := 1) (by decide) sto5 |>.goto D41_41 |>.iload D41_3 rfl |>.iload D41_5 rfl |>.icmpNo D41_7  |>.aloadN D41_10 rfl rfl |>.iloadN D41_11 rfl
  have o2 := pr1.keep K1 (ninS pr5 nin0)
  replace k := k |>.cald o2 D41_12 (i := 1) (by decide) big1 |>.istore D41_13 sto6 |>.iload D41_15 rfl |>.sipush D41_17 255 |>.icmpYes D41_20 (flt pr6).2.2.2 |>.aloadN D41_26 rfl rfl |>.iloadN D41_27 rfl |>.iload D41_28 rfl |>.i2b D41_30 rfl
  obtain ⟨h3, K3, O3, k⟩ := k.stB O1 pr4 (Or.inl rfl) D41_31 (i := 1) (by decide) (v := (.int (p4.toInt8.toInt32))) (congrArg Value.int (own_nnBi2b _)) (own_fitBi2b _) bis1
  replace k := k |>.iinc D41_32 rfl (z := 2) (by decide) sto1 |>.iinc D41_35 rfl (z := 2) (by decide) sto3 |>.iinc D41_38 rfl (z := 2) (by decide) sto5 |>.goto D41_41 |>.iload D41_3 rfl |>.iload D41_5 rfl |>.icmpYes D41_7  |>.iload D41_44 rfl
  exact k.retI D41_46 rfl ⟨_, rfl, (K1.trans K3 (allS (Or.inl (List.mem_of_getElem? (i := 0) rfl)) all0)), rfl, O3⟩
abbrev w_31 (hw : HW a0 Z) := hw.at 31 rfl
abbrev w_33 (hw : HW a0 Z) := hw.at 33 rfl
abbrev w_29 (hw : HW a0 Z) := hw.at 29 rfl
theorem pd_ACIABII_r_I : parseMethodDescriptor "([CI[BII)I" = some ⟨[(.array .char), .int, (.array .byte), .int, .int], some .int⟩ := by decide +kernel
abbrev w_32 (hw : HW a0 Z) := hw.at 32 rfl
theorem S41 (hw : HW a0 Z) : SC Z a0 Y41 C41 7 (some .int) 5 := ⟨(w_32 hw), ⟨⟨_, Or.inl rfl⟩, (w_33 hw), (w_29 hw), by decide, _, _, pd_ACIABII_r_I, rfl⟩⟩
theorem D40_12 : Dc J40 12 (.istore 4) 2 14 := by decide +kernel
theorem D40_14 : Dc J40 14 (.iload 4) 2 16 := by decide +kernel
theorem D40_16 : Dc J40 16 (.iload_n 2) 1 17 := by decide +kernel
theorem D40_17 : Dj J40 17 (.if_icmp .eq 40) 40 20 57 := by decide +kernel
theorem D40_57 : Dc J40 57 (.aload_n 3) 1 58 := by decide +kernel
theorem D40_58 : Dc J40 58 .areturn 1 59 := by decide +kernel
theorem PN40 : plainFor Y40 = true := plainFor_of_name pn_StringUTF16
theorem ef_RII_6 {x0 : Addr} {x1 : Int32} {x2 : Int32}  (m : MethodId) : entryFrame m #[(.ref x0), (.int x1), (.int x2)] 6 = mkF m 0 #[.val (.ref x0), .val (.int x1), .val (.int x2), .unset, .unset, .unset] [] := by
  first | (simp [entryFrame, mkF, argsToLocals, Value.category]; done) | rfl
theorem R_40_1 {a1 : Addr} {p2 p3 : Int32} (hw : HW a0 Z) (G : Gl Z w_CS w_SF w_DO w_DT w_fO w_fT w_US w_SS) (pr1 : Ary Z h0 a1 ATC 2 (bv (lvi [p2, p3]))) (pr2 : ¬ (255 < p2)) (pr3 : ¬ (255 < p3)) : Mt false [] l Y40 C40 (rmk 1 1 2 18) #[.ref a1, .int 0, .int 2] Z a0 h0 n0 (KpV h0 [] fun v h => ∃ u1 : Addr, v = (.ref u1) ∧ h0.size ≤ u1 ∧ Ary Z h u1 ATB 2 (bv (lvi [(p2.toInt8.toInt32), (p3.toInt8.toInt32)]))) := by
  refine Mt.go PN40 (Or.inl rfl) ef_RII_6 fun k => ?_
  have nz := k.n0le
  replace k := k |>.iloadN D40_0 rfl
  have z1 := k.sz
  obtain ⟨b1, h1, g1, K1, O1, k⟩ := k.newP (aty := .byte) "[B" (w_19 hw) (by decide) D40_1 2 (by decide) (n := 2) (by decide) (by decide) (by decide) (bi_const (L := [0, 0]) rfl)
  replace k := k |>.astoreN D40_3 rfl sto3 |>.aloadN D40_4 rfl rfl |>.iloadN D40_5 rfl |>.aloadN D40_6 rfl rfl |>.iconst D40_7 0 |>.iloadN D40_8 rfl
  have s_b1 := Nat.le_trans z1 g1
  have n_b1 := Nat.le_trans nz s_b1
  have o3 := pr1.keep K1 nin0
  obtain ⟨_, h2, K2, ⟨rfl, f2_0⟩, k⟩ := (k.callS (w_31 hw) (S41 hw) (R_41_1 hw G o3 pr2 O1 n_b1 (nlt pr1.lt s_b1) pr3) D40_9 0 rfl).kv (allS n_b1 all0)
  replace k := k |>.istore D40_12 sto4 |>.iload D40_14 rfl |>.iloadN D40_16 rfl |>.icmpYes D40_17  |>.aloadN D40_57 rfl rfl
  exact k.retA D40_58 rfl ⟨_, rfl, (K1.trans K2 (allS (Or.inr s_b1) all0)), b1, rfl, s_b1, f2_0⟩
abbrev w_27 (hw : HW a0 Z) := hw.at 27 rfl
abbrev w_30 (hw : HW a0 Z) := hw.at 30 rfl
theorem pd_ACII_r_AB : parseMethodDescriptor "([CII)[B" = some ⟨[(.array .char), .int, .int], some (.array .byte)⟩ := by decide +kernel
abbrev w_28 (hw : HW a0 Z) := hw.at 28 rfl
theorem S40 (hw : HW a0 Z) : SC Z a0 Y40 C40 6 (some (.array .byte)) 3 := ⟨(w_28 hw), ⟨⟨_, Or.inl rfl⟩, (w_30 hw), (w_29 hw), by decide, _, _, pd_ACII_r_AB, rfl⟩⟩
theorem D35_39 : Dc J35 39 (.astore 5) 2 41 := by decide +kernel
theorem D35_41 : Dc J35 41 (.aload_n 0) 1 42 := by decide +kernel
theorem D35_42 : Dc J35 42 (.aload 5) 2 44 := by decide +kernel
theorem D35_44 : Dc J35 44 (.iload_n 3) 1 45 := by decide +kernel
theorem D35_45 : Dc J35 45 (.invokestatic 47) 3 48 := by decide +kernel
abbrev Y42 : MethodName := ⟨"java/lang/StringUTF16", "coderFromArrayLen", "([BI)B"⟩
abbrev J42 := jdk_52_method_15_code
abbrev C42 : Cond := .code Y42 J42 2 (some .byte)
theorem D42_0 : Dc J42 0 (.iload_n 1) 1 1 := by decide +kernel
theorem D42_1 : Dc J42 1 (.aload_n 0) 1 2 := by decide +kernel
theorem D42_2 : Dc J42 2 .arraylength 1 3 := by decide +kernel
theorem D42_3 : Dc J42 3 .isub 1 4 := by decide +kernel
theorem D42_4 : Dc J42 4 (.bipush 31) 2 6 := by decide +kernel
theorem D42_6 : Dc J42 6 .iushr 1 7 := by decide +kernel
theorem D42_7 : Dc J42 7 .i2b 1 8 := by decide +kernel
theorem D42_8 : Dc J42 8 .ireturn 1 9 := by decide +kernel
theorem PN42 : plainFor Y42 = true := plainFor_of_name pn_StringUTF16
theorem R_42_1 {a1 : Addr} {p2 p3 : Int32} (hw : HW a0 Z) (G : Gl Z w_CS w_SF w_DO w_DT w_fO w_fT w_US w_SS) (pr1 : Ary Z h0 a1 ATB 2 (bv (lvi [p2, p3]))) : Mt false [] l Y42 C42 (rmk 0 0 0 0) #[.ref a1, .int 2] Z a0 h0 n0 (Pv h0 (.int 0)) := by
  refine Mt.go PN42 (Or.inl rfl) ef_RI_2 fun k => ?_
  replace k := k |>.iloadN D42_0 rfl |>.aloadN D42_1 rfl rfl |>.alen pr1 D42_2 (z := 2) (by decide) |>.isub D42_3 (z := 0) |>.bipush D42_4 31 |>.iushr D42_6 (z := 0) |>.i2b D42_7 (z := 0)
  exact k.retN (t := .byte) D42_8 rfl (by simp) (z' := 0) (by decide) ⟨rfl, rfl⟩
abbrev w_34 (hw : HW a0 Z) := hw.at 34 rfl
abbrev w_36 (hw : HW a0 Z) := hw.at 36 rfl
theorem pd_ABI_r_B : parseMethodDescriptor "([BI)B" = some ⟨[(.array .byte), .int], some .byte⟩ := by decide +kernel
abbrev w_35 (hw : HW a0 Z) := hw.at 35 rfl
theorem S42 (hw : HW a0 Z) : SC Z a0 Y42 C42 2 (some .byte) 2 := ⟨(w_35 hw), ⟨⟨_, Or.inl rfl⟩, (w_36 hw), (w_29 hw), by decide, _, _, pd_ABI_r_B, rfl⟩⟩
theorem D35_48 : Dc J35 48 (.putfield 15) 3 51 := by decide +kernel
theorem D35_51 : Dc J35 51 (.aload_n 0) 1 52 := by decide +kernel
theorem D35_52 : Dc J35 52 (.aload 5) 2 54 := by decide +kernel
theorem D35_54 : Dc J35 54 (.putfield 9) 3 57 := by decide +kernel
theorem D35_57 : Dc J35 57 .return_ 1 58 := by decide +kernel
theorem R_35_4 {a1 a2 : Addr} {p3 p4 : Int32} (hw : HW a0 Z) (G : Gl Z w_CS w_SF w_DO w_DT w_fO w_fT w_US w_SS) (pr1 : Ary Z h0 a2 ATC 2 (bv (lvi [p3, p4]))) (pr2 : ¬ (255 < p3)) (pr3 : ¬ (255 < p4)) (pr4 : Obj Z h0 a1 L_String [.null, .int 0]) (pr5 : n0 ≤ a1) : Mt false [] l Y35 C35 (rmk 2 1 2 35) #[.ref a1, .ref a2, .int 0, .int 2, .null] Z a0 h0 n0 (K0 h0 [a1] fun h => ∃ u1 : Addr, h0.size ≤ u1 ∧ Obj Z h a1 L_String [.ref u1, .int 0] ∧ Ary Z h u1 ATB 2 (bv (lvi [(p3.toInt8.toInt32), (p4.toInt8.toInt32)]))) := by
  refine Mt.go PN35 (Or.inl rfl) ef_RRIIN_6 fun k => ?_
  replace k := k |>.aloadN D35_0 rfl rfl |>.initO (w_15 hw) (w_16 hw) (w_17 hw) D35_1 0 |>.iloadN D35_4 rfl |>.ifYes D35_5  |>.getS (fl_26 hw) G.S_CS D35_27 |>.ifNo D35_30 ((if0 _ _).trans (feq G.h_CS).1) |>.aloadN D35_33 rfl rfl |>.iloadN D35_34 rfl |>.iloadN D35_35 rfl
  have z1 := k.sz
  obtain ⟨_, h1, K1, ⟨u1_1, rfl, f1_0, f1_1⟩, k⟩ := (k.callS (w_27 hw) (S40 hw) (R_40_1 hw G pr1 pr2 pr3) D35_36 0 rfl).kv
  replace k := k |>.astore D35_39 rfl sto5 |>.aloadN D35_41 rfl rfl |>.aload D35_42 rfl rfl |>.iloadN D35_44 rfl
  replace k := (k.callS (w_34 hw) (S42 hw) (R_42_1 hw G f1_1) D35_45 1 rfl).pv
  have o3 := pr4.keep K1 nin0
  obtain ⟨h4, K4, O4, k⟩ := k.putN (fp_25 hw) (pw_String_i_String_coder hw) o3 1 pr5 (Or.inl rfl) D35_48 rfl (v' := (.int 0)) (by decide) (by decide) ls1
  replace k := k |>.aloadN D35_51 rfl rfl |>.aload D35_52 rfl rfl
  obtain ⟨h5, K5, O5, k⟩ := k.putF (fl_24 hw) (pw_String_i_String_value hw) O4 0 pr5 (Or.inl rfl) D35_54 rfl rfl rfl ls0
  have s_u1_1 := Nat.le_trans z1 f1_0
  have o6 := (f1_1.keep K4 (ninS (nlt' pr4.lt s_u1_1) nin0)).keep K5 (ninS (nlt' pr4.lt s_u1_1) nin0)
  exact k.ret0 D35_57 rfl ⟨rfl, ((((Keep.refl h0 [a1]).trans K1 all0).trans K4 (allS (Or.inl (List.mem_of_getElem? (i := 0) rfl)) all0)).trans K5 (allS (Or.inl (List.mem_of_getElem? (i := 0) rfl)) all0)), u1_1, s_u1_1, O5, o6⟩
theorem R_34_3 {a1 a2 : Addr} {p3 p4 : Int32} (hw : HW a0 Z) (G : Gl Z w_CS w_SF w_DO w_DT w_fO w_fT w_US w_SS) (pr1 : Ary Z h0 a2 ATC 2 (bv (lvi [p3, p4]))) (pr2 : ¬ (255 < p3)) (pr3 : ¬ (255 < p4)) (pr4 : Obj Z h0 a1 L_String [.null, .int 0]) (pr5 : n0 ≤ a1) : Mt false [] l Y34 C34 (rmk 3 1 2 52) #[.ref a1, .ref a2] Z a0 h0 n0 (K0 h0 [a1] fun h => ∃ u1 : Addr, h0.size ≤ u1 ∧ Obj Z h a1 L_String [.ref u1, .int 0] ∧ Ary Z h u1 ATB 2 (bv (lvi [(p3.toInt8.toInt32), (p4.toInt8.toInt32)]))) := by
  refine Mt.go PN34 (Or.inl rfl) ef_RR_2 fun k => ?_
  replace k := k |>.aloadN D34_0 rfl rfl |>.aloadN D34_1 rfl rfl |>.iconst D34_2 0 |>.aloadN D34_3 rfl rfl |>.alen pr1 D34_4 (z := 2) (by decide) |>.aconstNull D34_5
  have z1 := k.sz
  obtain ⟨h1, K1, ⟨u1_1, f1_0, f1_1, f1_2⟩, k⟩ := (k.callI (w_11 hw) (I35 hw) (R_35_4 hw G pr1 pr2 pr3 pr4 pr5) D34_6 0 rfl).k0 (allS pr5 all0)
  have s_u1_1 := Nat.le_trans z1 f1_0
  exact k.ret0 D34_9 rfl ⟨rfl, K1, u1_1, s_u1_1, f1_1, f1_2⟩
theorem D33_43 : Dc J33 43 .areturn 1 44 := by decide +kernel
theorem own_d65 {p1 : Int32} (hq0 : ¬ (p1 < 0)) (hq1 : p1 < 3) (hq2 : ¬ (p1 = 0)) (hq3 : ¬ (p1 = 1)) : p1 = 2 := by
  have := rng32 p1
  have : (0 : Int32).toInt = 0 := by decide
  have := i_nlt hq0
  have : (3 : Int32).toInt = 3 := by decide
  have := i_lt hq1
  have := i_neq hq2
  have : (1 : Int32).toInt = 1 := by decide
  have := i_neq hq3
  have : (2 : Int32).toInt = 2 := by decide
  exact o_eq (by omega)
theorem own_d66 {p2 v0 v1 : Int32} (e0 : v0 = (nar .char p2)) (e1 : v1 = (latc (v0.toInt8.toInt32))) (hq0 : ¬ (p2 < 0)) (hq1 : p2 < 256) : v1 = p2 := by
  have := rng32 p2
  have : (0 : Int32).toInt = 0 := by decide
  have := i_nlt hq0
  have : (256 : Int32).toInt = 256 := by decide
  have := i_lt hq1
  have := e_i2cN e0 (by omega)
  have := e_lat e1 (by omega) (by omega)
  exact o_eq (by omega)
theorem own_d67 {p3 v0 v1 : Int32} (e0 : v0 = (nar .char p3)) (e1 : v1 = (latc (v0.toInt8.toInt32))) (hq0 : ¬ (p3 < 0)) (hq1 : p3 < 256) : v1 = p3 := by
  have := rng32 p3
  have : (0 : Int32).toInt = 0 := by decide
  have := i_nlt hq0
  have : (256 : Int32).toInt = 256 := by decide
  have := i_lt hq1
  have := e_i2cN e0 (by omega)
  have := e_lat e1 (by omega) (by omega)
  exact o_eq (by omega)
theorem pn_CsvReaderRefusalPinLaw : plainName "com/example/fala/fala/format/CsvReaderRefusalPinLaw" = true := by first | (simp [plainName, overriddenIn]; done) | decide +kernel
theorem PN33 : plainFor Y33 = true := plainFor_of_name pn_CsvReaderRefusalPinLaw
theorem ef_III_3 {x0 : Int32} {x1 : Int32} {x2 : Int32}  (m : MethodId) : entryFrame m #[(.int x0), (.int x1), (.int x2)] 3 = mkF m 0 #[.val (.int x0), .val (.int x1), .val (.int x2)] [] := by
  first | (simp [entryFrame, mkF, argsToLocals, Value.category]; done) | rfl
theorem R_sm {p1 p2 p3 : Int32} (hw : HW a0 Z) (G : Gl Z w_CS w_SF w_DO w_DT w_fO w_fT w_US w_SS) (x1 : ¬ (p1 < 0)) (x2 : p1 < 3) (x3 : ¬ (p2 < 0)) (x4 : p2 < 256) (x5 : ¬ (p3 < 0)) (x6 : p3 < 256) : Mt true consts_1 l Y33 C33 (rmk 4 6 12 66) #[.int p1, .int p2, .int p3] Z a0 h0 n0 (KpV h0 [] fun v h => ∃ (u w : Addr) (T : String) (f : Nat → Int32), v = .ref u ∧ Obj Z h u litL [.ref w, .int 0] ∧ Ary Z h w (T, .byte) p1.toNatClampNeg (bv f) ∧ (0 < p1 → latc (f 0) = p2) ∧ (1 < p1 → latc (f 1) = p3)) := by
  refine Mt.go PN33 (Or.inl rfl) ef_III_3 fun k => ?_
  have nz := k.n0le
  replace k := k |>.iloadN D33_0 rfl
  by_cases hc1_1 : p1 = 0
  · replace k := k |>.ifNo D33_1 ((if0 _ _).trans (teq hc1_1).2)
    have z2 := k.sz
    obtain ⟨b2, h2, g2, K2, O2, k⟩ := k.new (L := L_String) (w_4 hw) (nw_String hw) D33_4 (by decide) dvL_String
    replace k := k |>.dup D33_7 rfl |>.iconst D33_8 0
    obtain ⟨b4, h4, g4, K4, O4, k⟩ := k.newP (aty := .char) "[C" (w_7 hw) (by decide) D33_9 0 (by decide) (n := 0) (by decide) (by decide) (by decide) (bi_const (L := []) rfl)
    have s_b2 := Nat.le_trans z2 g2
    have n_b2 := Nat.le_trans nz s_b2
    have o7 := O2.keep K4 nin0
    obtain ⟨vm6, h6, K6, R6, ⟨u1_6, f6_0, f6_1⟩, k⟩ := (k.callIW (w_8 hw) (I34 hw) (R_34_2 hw G O4 o7 n_b2) D33_11 1 rfl).k0 (allS n_b2 all0)
    exact k.retA D33_14 rfl ⟨_, rfl, ((K2.trans K4 all0).trans K6 (allS (Or.inr s_b2) all0)), b2, u1_6, _, _, rfl, f6_0, f6_1.len (by rw [hc1_1]; rfl), (fun q => absurd q (by rw [hc1_1]; decide)), (fun q => absurd q (by rw [hc1_1]; decide))⟩
  · replace k := k |>.ifYes D33_1 ((if0 _ _).trans (feq hc1_1).2) |>.iloadN D33_15 rfl |>.iconst D33_16 1
    by_cases hc17_8 : p1 = 1
    · replace k := k |>.icmpNo D33_17 (teq hc17_8).2 |>.iloadN D33_20 rfl
      obtain ⟨_, h9, K9, ⟨u1_9, u2_9, rfl, f9_0, f9_1, f9_2, f9_3, f9_4⟩, k⟩ := (k.callS (w_307 hw) (S36 hw) (R_36_1 hw G (own_d61 x3 x4)) D33_21 0 rfl).kv all0 (Or.inr all0)
      exact k.retA D33_24 rfl ⟨_, rfl, K9, u1_9, u2_9, _, _, rfl, f9_3, f9_4.len (by rw [hc17_8]; rfl), (fun _ => (own_d62 rfl x3 x4)), (fun q => absurd q (by rw [hc17_8]; decide))⟩
    · replace k := k |>.icmpYes D33_17 (feq hc17_8).2
      have cv12 := k.chv
      have z11 := k.sz
      obtain ⟨b11, h11, g11, K11, O11, k⟩ := k.new (L := L_String) (w_4 hw) (nw_String hw) D33_25 (by decide) dvL_String
      replace k := k |>.dup D33_28 rfl |>.iconst D33_29 2
      have cv14 := k.chv
      have z13 := k.sz
      obtain ⟨b13, h13, g13, K13, O13, k⟩ := k.newP (aty := .char) "[C" (w_7 hw) (by decide) D33_30 2 (by decide) (n := 2) (by decide) (by decide) (by decide) (bi_const (L := [0, 0]) rfl)
      replace k := k |>.dup D33_32 rfl |>.iconst D33_33 0 |>.iloadN D33_34 rfl
      have s_b13 := Nat.le_trans z13 g13
      have n_b13 := Nat.le_trans nz s_b13
      have sf15 := (Safe.new g13).keep K13 all0 cv14
      have cv16 := k.chv
      obtain ⟨h17, K17, O17, k⟩ := k.stC O13 n_b13 (Or.inr sf15) D33_35 (i := 0) (by decide) (v := (.int (nar .char p2))) rfl (fits_nar_char _) bis0
      replace k := k |>.dup D33_36 rfl |>.iconst D33_37 1 |>.iloadN D33_38 rfl
      have sf18 := sf15.keep K17 (allS sf15 all0) cv16
      have cv19 := k.chv
      obtain ⟨h20, K20, O20, k⟩ := k.stC O17 n_b13 (Or.inr sf18) D33_39 (i := 1) (by decide) (v := (.int (nar .char p3))) rfl (fits_nar_char _) bis1
      have s_b11 := Nat.le_trans z11 g11
      have n_b11 := Nat.le_trans nz s_b11
      have o22 := ((O11.keep K13 nin0).keep K17 (ninS (nlt O11.lt g13) nin0)).keep K20 (ninS (nlt O11.lt g13) nin0)
      have sf23 := ((((Safe.new g11).keep K11 all0 cv12).keep K13 all0 cv14).keep K17 (allS sf15 all0) cv16).keep K20 (allS sf18 all0) cv19
      obtain ⟨h21, K21, ⟨u1_21, f21_0, f21_1, f21_2⟩, k⟩ := (k.callI (w_8 hw) (I34 hw) (R_34_3 hw G O20 (own_d63 rfl x3 x4) (own_d64 rfl x5 x6) o22 n_b11) D33_40 1 rfl).k0 (allS n_b11 all0) (Or.inr (allS sf23 all0))
      exact k.retA D33_43 rfl ⟨_, rfl, ((((K11.trans K13 all0).trans K17 (allS (Or.inr s_b13) all0)).trans K20 (allS (Or.inr s_b13) all0)).trans K21 (allS (Or.inr s_b11) all0)), b11, u1_21, _, _, rfl, f21_1, f21_2.len (by rw [(own_d65 x1 x2 hc1_1 hc17_8)]; rfl), (fun _ => (own_d66 rfl rfl x3 x4)), (fun _ => (own_d67 rfl rfl x5 x6))⟩
abbrev Y43 : MethodName := ⟨"java/lang/String", "charAt", "(I)C"⟩
abbrev J43 := jdk_42_method_56_code
abbrev C43 : Cond := .code Y43 J43 2 (some .char)
theorem D43_0 : Dc J43 0 (.aload_n 0) 1 1 := by decide +kernel
theorem D43_1 : Dc J43 1 (.invokevirtual 492) 3 4 := by decide +kernel
abbrev Y44 : MethodName := ⟨"java/lang/String", "isLatin1", "()Z"⟩
abbrev J44 := jdk_42_method_154_code
abbrev C44 : Cond := .code Y44 J44 1 (some .boolean)
theorem D44_0 : Dc J44 0 (.getstatic 38) 3 3 := by decide +kernel
theorem D44_3 : Dj J44 3 (.ifCond .eq 14) 14 6 17 := by decide +kernel
theorem D44_6 : Dc J44 6 (.aload_n 0) 1 7 := by decide +kernel
theorem D44_7 : Dc J44 7 (.getfield 15) 3 10 := by decide +kernel
theorem D44_10 : Dj J44 10 (.ifCond .ne 7) 7 13 17 := by decide +kernel
theorem D44_13 : Dc J44 13 (.iconst 1) 1 14 := by decide +kernel
theorem D44_14 : Dj J44 14 (.goto 4) 4 17 18 := by decide +kernel
theorem D44_18 : Dc J44 18 .ireturn 1 19 := by decide +kernel
theorem PN44 : plainFor Y44 = true := plainFor_of_name pn_String
theorem R_44_1 {a1 a2 : Addr} (hw : HW a0 Z) (G : Gl Z w_CS w_SF w_DO w_DT w_fO w_fT w_US w_SS) (pr1 : Obj Z h0 a1 litL [.ref a2, .int 0]) : Mt false [] l Y44 C44 (rmk 0 0 0 0) #[.ref a1] Z a0 h0 n0 (Pv h0 (.int 1)) := by
  refine Mt.go PN44 (Or.inl rfl) ef_R_1 fun k => ?_
  replace k := k |>.getS (fl_26 hw) G.S_CS D44_0 |>.ifNo D44_3 ((if0 _ _).trans (feq G.h_CS).1) |>.aloadN D44_6 rfl rfl |>.getF (fl_25 hw) pr1 1 D44_7 rfl rfl |>.ifNo D44_10  |>.iconst D44_13 1 |>.goto D44_14
  exact k.retN (t := .boolean) D44_18 rfl (by simp) (z' := 1) (by decide) ⟨rfl, rfl⟩
abbrev w_267 (hw : HW a0 Z) := hw.at 267 rfl
abbrev w_271 (hw : HW a0 Z) := hw.at 271 rfl
abbrev w_270 (hw : HW a0 Z) := hw.at 270 rfl
abbrev w_269 (hw : HW a0 Z) := hw.at 269 rfl
abbrev w_268 (hw : HW a0 Z) := hw.at 268 rfl
theorem V_Y44_44_String (hw : HW a0 Z) : VC Z a0 Y44 Y44 "java/lang/String" C44 1 (some .boolean) 0 := ⟨(w_268 hw), fun s hZ => notFace_of_selects (args := #[]) (mvT hZ (w_270 hw)), (w_270 hw), (w_269 hw), by decide, rfl, ⟨⟨_, Or.inl rfl⟩, (w_271 hw), (w_6 hw), by decide, _, _, pd__r_Z, rfl⟩⟩
theorem D43_4 : Dj J43 4 (.ifCond .eq 12) 12 7 16 := by decide +kernel
theorem D43_7 : Dc J43 7 (.aload_n 0) 1 8 := by decide +kernel
theorem D43_8 : Dc J43 8 (.getfield 9) 3 11 := by decide +kernel
theorem D43_11 : Dc J43 11 (.iload_n 1) 1 12 := by decide +kernel
theorem D43_12 : Dc J43 12 (.invokestatic 495) 3 15 := by decide +kernel
abbrev Y45 : MethodName := ⟨"java/lang/StringLatin1", "charAt", "([BI)C"⟩
abbrev J45 := jdk_43_method_2_code
abbrev C45 : Cond := .code Y45 J45 2 (some .char)
theorem D45_0 : Dc J45 0 (.iload_n 1) 1 1 := by decide +kernel
theorem D45_1 : Dc J45 1 (.aload_n 0) 1 2 := by decide +kernel
theorem D45_2 : Dc J45 2 .arraylength 1 3 := by decide +kernel
theorem own_d68 {p1 vN : Int32} (hq0 : ¬ (p1 < 0)) (hq1 : p1 < vN) (hq2 : vN < 1000) : ¬ (vN < 0) := by
  have := rng32 p1
  have : (0 : Int32).toInt = 0 := by decide
  have := i_nlt hq0
  have := rng32 vN
  have := i_lt hq1
  have : (1000 : Int32).toInt = 1000 := by decide
  have := i_lt hq2
  exact o_nlt (by omega)
theorem D45_3 : Dc J45 3 (.invokestatic 9) 3 6 := by decide +kernel
abbrev Y46 : MethodName := ⟨"java/lang/String", "checkIndex", "(II)V"⟩
abbrev J46 := jdk_42_method_155_code
abbrev C46 : Cond := .code Y46 J46 2 none
theorem D46_0 : Dc J46 0 (.iload_n 0) 1 1 := by decide +kernel
theorem D46_1 : Dc J46 1 (.iload_n 1) 1 2 := by decide +kernel
theorem D46_2 : Dc J46 2 (.getstatic 1053) 3 5 := by decide +kernel
abbrev w_279 (hw : HW a0 Z) := hw.at 279 rfl
theorem fl_279 (hw : HW a0 Z) : FL Z a0 "java/lang/String" 1053 "jdk/internal/util/Preconditions" "SIOOBE_FORMATTER" "Ljava/util/function/BiFunction;" := ⟨_, "", Or.inl (w_279 hw), Via.refl⟩
theorem D46_5 : Dc J46 5 (.invokestatic 1059) 3 8 := by decide +kernel
abbrev Y47 : MethodName := ⟨"jdk/internal/util/Preconditions", "checkIndex", "(IILjava/util/function/BiFunction;)I"⟩
abbrev J47 := jdk_41_method_11_code
abbrev C47 : Cond := .code Y47 J47 3 (some .int)
theorem D47_0 : Dc J47 0 (.iload_n 0) 1 1 := by decide +kernel
theorem D47_1 : Dj J47 1 (.ifCond .lt 8) 8 4 9 := by decide +kernel
theorem D47_4 : Dc J47 4 (.iload_n 0) 1 5 := by decide +kernel
theorem D47_5 : Dc J47 5 (.iload_n 1) 1 6 := by decide +kernel
theorem D47_6 : Dj J47 6 (.if_icmp .lt 10) 10 9 16 := by decide +kernel
theorem D47_16 : Dc J47 16 (.iload_n 0) 1 17 := by decide +kernel
theorem D47_17 : Dc J47 17 .ireturn 1 18 := by decide +kernel
theorem pn_Preconditions : plainName "jdk/internal/util/Preconditions" = true := by first | (simp [plainName, overriddenIn]; done) | decide +kernel
theorem PN47 : plainFor Y47 = true := plainFor_of_name pn_Preconditions
theorem ef_IIV_3 {x0 : Int32} {x1 : Int32} {x2 : Value} (r2 : x2.isRef = true) (m : MethodId) : entryFrame m #[(.int x0), (.int x1), x2] 3 = mkF m 0 #[.val (.int x0), .val (.int x1), .val x2] [] := by
  rcases ref_cases r2 with rfl | ⟨_, rfl⟩
  all_goals
  first | (simp [entryFrame, mkF, argsToLocals, Value.category]; done) | rfl
theorem R_47_1 {p1 p2 : Int32} (hw : HW a0 Z) (G : Gl Z w_CS w_SF w_DO w_DT w_fO w_fT w_US w_SS) (pr1 : ¬ (p1 < 0)) (pr2 : p1 < p2) : Mt false [] l Y47 C47 (rmk 0 0 0 0) #[.int p1, .int p2, w_SF] Z a0 h0 n0 (Pv h0 (.int p1)) := by
  refine Mt.go PN47 (Or.inl rfl) (ef_IIV_3 G.r_SF) fun k => ?_
  replace k := k |>.iloadN D47_0 rfl |>.ifNo D47_1 ((if0 _ _).trans (flt pr1).1) |>.iloadN D47_4 rfl |>.iloadN D47_5 rfl |>.icmpYes D47_6 (tlt pr2).1 |>.iloadN D47_16 rfl
  exact k.retI D47_17 rfl ⟨rfl, rfl⟩
abbrev w_281 (hw : HW a0 Z) := hw.at 281 rfl
abbrev w_283 (hw : HW a0 Z) := hw.at 283 rfl
abbrev w_280 (hw : HW a0 Z) := hw.at 280 rfl
theorem pd_IILjava_util_function_BiFunction_r_I : parseMethodDescriptor "(IILjava/util/function/BiFunction;)I" = some ⟨[.int, .int, (.object "java/util/function/BiFunction")], some .int⟩ := by decide +kernel
abbrev w_282 (hw : HW a0 Z) := hw.at 282 rfl
theorem S47 (hw : HW a0 Z) : SC Z a0 Y47 C47 3 (some .int) 3 := ⟨(w_282 hw), ⟨⟨_, Or.inl rfl⟩, (w_283 hw), (w_280 hw), by decide, _, _, pd_IILjava_util_function_BiFunction_r_I, rfl⟩⟩
theorem D46_8 : Dc J46 8 .pop 1 9 := by decide +kernel
theorem D46_9 : Dc J46 9 .return_ 1 10 := by decide +kernel
theorem PN46 : plainFor Y46 = true := plainFor_of_name pn_String
theorem R_46_1 {p1 p2 : Int32} (hw : HW a0 Z) (G : Gl Z w_CS w_SF w_DO w_DT w_fO w_fT w_US w_SS) (pr1 : ¬ (p1 < 0)) (pr2 : p1 < p2) : Mt false [] l Y46 C46 (rmk 1 0 0 14) #[.int p1, .int p2] Z a0 h0 n0 (P0 h0) := by
  refine Mt.go PN46 (Or.inl rfl) ef_II_2 fun k => ?_
  replace k := k |>.iloadN D46_0 rfl |>.iloadN D46_1 rfl |>.getS (fl_279 hw) G.S_SF D46_2
  replace k := (k.callS (w_281 hw) (S47 hw) (R_47_1 hw G pr1 pr2) D46_5 0 rfl).pv
  replace k := k |>.pop D46_8 rfl
  exact k.ret0 D46_9 rfl ⟨rfl, rfl⟩
abbrev w_276 (hw : HW a0 Z) := hw.at 276 rfl
abbrev w_278 (hw : HW a0 Z) := hw.at 278 rfl
abbrev w_277 (hw : HW a0 Z) := hw.at 277 rfl
theorem S46 (hw : HW a0 Z) : SC Z a0 Y46 C46 2 none 2 := ⟨(w_277 hw), ⟨⟨_, Or.inl rfl⟩, (w_278 hw), (w_6 hw), by decide, _, _, pd_II_r_V, rfl⟩⟩
theorem D45_6 : Dc J45 6 (.aload_n 0) 1 7 := by decide +kernel
theorem D45_7 : Dc J45 7 (.iload_n 1) 1 8 := by decide +kernel
theorem D45_8 : Dc J45 8 .baload 1 9 := by decide +kernel
theorem D45_9 : Dc J45 9 (.sipush 255) 3 12 := by decide +kernel
theorem D45_12 : Dc J45 12 .iand 1 13 := by decide +kernel
theorem D45_13 : Dc J45 13 .i2c 1 14 := by decide +kernel
theorem D45_14 : Dc J45 14 .ireturn 1 15 := by decide +kernel
theorem PN45 : plainFor Y45 = true := plainFor_of_name pn_StringLatin1
theorem R_45_1 {a1 : Addr} {p2 p3 : Int32} {f4 : Nat → Int32} (hw : HW a0 Z) (G : Gl Z w_CS w_SF w_DO w_DT w_fO w_fT w_US w_SS) (pr1 : Ary Z h0 a1 ATB p3.toNatClampNeg (bv f4)) (pr2 : ¬ (p3 < 0)) (pr3 : ¬ (p2 < 0)) (pr4 : p2 < p3) : Mt false [] l Y45 C45 (rmk 2 0 0 27) #[.ref a1, .int p2] Z a0 h0 n0 (Pv h0 (.int (latc (f4 p2.toNatClampNeg)))) := by
  refine Mt.go PN45 (Or.inl rfl) ef_RI_2 fun k => ?_
  replace k := k |>.iloadN D45_0 rfl |>.aloadN D45_1 rfl rfl |>.alen pr1 D45_2 (lenS pr2)
  replace k := (k.callS (w_276 hw) (S46 hw) (R_46_1 hw G pr3 pr4) D45_3 0 rfl).p0
  replace k := k |>.aloadN D45_6 rfl rfl |>.iloadN D45_7 rfl |>.bald pr1 D45_8 (i := p2.toNatClampNeg) (ixS pr3 pr4 rfl) bv_at |>.sipush D45_9 255 |>.iand D45_12 rfl |>.i2c D45_13 rfl
  exact k.retN (t := .char) D45_14 rfl (by simp) (own_nnCi2c _) ⟨rfl, rfl⟩
abbrev w_272 (hw : HW a0 Z) := hw.at 272 rfl
abbrev w_275 (hw : HW a0 Z) := hw.at 275 rfl
theorem pd_ABI_r_C : parseMethodDescriptor "([BI)C" = some ⟨[(.array .byte), .int], some .char⟩ := by decide +kernel
abbrev w_273 (hw : HW a0 Z) := hw.at 273 rfl
theorem S45 (hw : HW a0 Z) : SC Z a0 Y45 C45 2 (some .char) 2 := ⟨(w_273 hw), ⟨⟨_, Or.inl rfl⟩, (w_275 hw), (w_274 hw), by decide, _, _, pd_ABI_r_C, rfl⟩⟩
theorem D43_15 : Dc J43 15 .ireturn 1 16 := by decide +kernel
theorem PN43 : plainFor Y43 = true := plainFor_of_name pn_String
theorem R_chr {a1 a2 : Addr} {vN p1 : Int32} {f1 : Nat → Int32} (hw : HW a0 Z) (G : Gl Z w_CS w_SF w_DO w_DT w_fO w_fT w_US w_SS) (O : Obj Z h0 a1 litL [.ref a2, .int 0]) (A : Ary Z h0 a2 ATB vN.toNatClampNeg (bv f1)) (x1 : ¬ (p1 < 0)) (x2 : p1 < vN) (x3 : vN < 1000) : Mt false [] l Y43 C43 (rmk 3 0 0 40) #[.ref a1, .int p1] Z a0 h0 n0 (Pv h0 (.int (latc (f1 p1.toNatClampNeg)))) := by
  refine Mt.go PN43 (Or.inl rfl) ef_RI_2 fun k => ?_
  replace k := k |>.aloadN D43_0 rfl rfl
  replace k := (k.callV (w_267 hw) (V_Y44_44_String hw) O.exa (R_44_1 hw G O) D43_1 0 rfl).pv
  replace k := k |>.ifNo D43_4  |>.aloadN D43_7 rfl rfl |>.getF (fl_24 hw) O 0 D43_8 rfl rfl |>.iloadN D43_11 rfl
  replace k := (k.callS (w_272 hw) (S45 hw) (R_45_1 hw G A (own_d68 x1 x2 x3) x1 x2) D43_12 0 rfl).pv
  exact k.retN (t := .char) D43_15 rfl (by simp) (own_nnCi2c _) ⟨rfl, rfl⟩
abbrev Y48 : MethodName := ⟨"com/example/fala/fala/format/CsvReaderRefusalPinLaw", "at", "(Ljava/lang/String;IC)Z"⟩
abbrev J48 := method_4_code
abbrev C48 : Cond := .code Y48 J48 3 (some .boolean)
theorem D48_0 : Dc J48 0 (.iload_n 1) 1 1 := by decide +kernel
theorem D48_1 : Dj J48 1 (.ifCond .lt 24) 24 4 25 := by decide +kernel
theorem D48_4 : Dc J48 4 (.iload_n 1) 1 5 := by decide +kernel
theorem D48_5 : Dc J48 5 (.aload_n 0) 1 6 := by decide +kernel
theorem D48_6 : Dc J48 6 (.invokevirtual 29) 3 9 := by decide +kernel
abbrev w_258 (hw : HW a0 Z) := hw.at 258 rfl
theorem D48_9 : Dj J48 9 (.if_icmp .ge 16) 16 12 25 := by decide +kernel
theorem D48_12 : Dc J48 12 (.aload_n 0) 1 13 := by decide +kernel
theorem D48_13 : Dc J48 13 (.iload_n 1) 1 14 := by decide +kernel
theorem D48_14 : Dc J48 14 (.invokevirtual 86) 3 17 := by decide +kernel
abbrev w_266 (hw : HW a0 Z) := hw.at 266 rfl
theorem pd_I_r_C : parseMethodDescriptor "(I)C" = some ⟨[.int], some .char⟩ := by decide +kernel
abbrev w_265 (hw : HW a0 Z) := hw.at 265 rfl
abbrev w_264 (hw : HW a0 Z) := hw.at 264 rfl
abbrev w_263 (hw : HW a0 Z) := hw.at 263 rfl
theorem V_Y43_43_String (hw : HW a0 Z) : VC Z a0 Y43 Y43 "java/lang/String" C43 2 (some .char) 1 := ⟨(w_263 hw), fun s hZ => notFace_of_selects (args := #[]) (mvT hZ (w_265 hw)), (w_265 hw), (w_264 hw), by decide, rfl, ⟨⟨_, Or.inl rfl⟩, (w_266 hw), (w_6 hw), by decide, _, _, pd_I_r_C, rfl⟩⟩
abbrev w_262 (hw : HW a0 Z) := hw.at 262 rfl
theorem D48_17 : Dc J48 17 (.iload_n 2) 1 18 := by decide +kernel
theorem D48_18 : Dj J48 18 (.if_icmp .ne 7) 7 21 25 := by decide +kernel
theorem D48_21 : Dc J48 21 (.iconst 1) 1 22 := by decide +kernel
theorem D48_22 : Dj J48 22 (.goto 4) 4 25 26 := by decide +kernel
theorem D48_26 : Dc J48 26 .ireturn 1 27 := by decide +kernel
theorem PN48 : plainFor Y48 = true := plainFor_of_name pn_CsvReaderRefusalPinLaw
theorem R_at {a1 a2 : Addr} {vN p1 p2 : Int32} {f1 : Nat → Int32} (hw : HW a0 Z) (G : Gl Z w_CS w_SF w_DO w_DT w_fO w_fT w_US w_SS) (O : Obj Z h0 a1 litL [.ref a2, .int 0]) (A : Ary Z h0 a2 ATB vN.toNatClampNeg (bv f1)) (x1 : ¬ (p1 < 0)) (x2 : p1 < vN) (x3 : vN < 1000) (x4 : ¬ (vN < 0)) (H : (latc (f1 p1.toNatClampNeg)) = p2) : Mt false [] l Y48 C48 (rmk 4 0 0 53) #[.ref a1, .int p1, .int p2] Z a0 h0 n0 (Pv h0 (.int 1)) := by
  refine Mt.go PN48 (Or.inl rfl) ef_RII_3 fun k => ?_
  replace k := k |>.iloadN D48_0 rfl |>.ifNo D48_1 ((if0 _ _).trans (flt x1).1) |>.iloadN D48_4 rfl |>.aloadN D48_5 rfl rfl
  replace k := (k.callV (w_258 hw) (V_Y5_5_String hw) O.exa (R_len hw G O A x4) D48_6 1 rfl).pv
  replace k := k |>.icmpNo D48_9 (tlt x2).2.1 |>.aloadN D48_12 rfl rfl |>.iloadN D48_13 rfl
  replace k := (k.callV (w_262 hw) (V_Y43_43_String hw) O.exa (R_chr hw G O A x1 x2 x3) D48_14 0 rfl).pv
  replace k := k |>.iloadN D48_17 rfl |>.icmpNo D48_18 (teq H).2 |>.iconst D48_21 1 |>.goto D48_22
  exact k.retN (t := .boolean) D48_26 rfl (by simp) (z' := 1) (by decide) ⟨rfl, rfl⟩
abbrev Y49 : MethodName := ⟨"com/example/fala/fala/format/CsvReaderRefusalPinLaw", "dig", "(Ljava/lang/String;IJIIJ)Z"⟩
abbrev J49 := method_7_code
abbrev C49 : Cond := .code Y49 J49 9 (some .boolean)
theorem D49_0 : Dc J49 0 (.iload 4) 2 2 := by decide +kernel
theorem D49_2 : Dc J49 2 (.iload 5) 2 4 := by decide +kernel
theorem D49_4 : Dj J49 4 (.if_icmp .lt 5) 5 7 9 := by decide +kernel
theorem D49_9 : Dc J49 9 (.lload_n 2) 1 10 := by decide +kernel
theorem D49_10 : Dc J49 10 (.lload 6) 2 12 := by decide +kernel
theorem D49_12 : Dc J49 12 .ldiv 1 13 := by decide +kernel
theorem D49_13 : Dc J49 13 (.ldc2_w 43) 3 16 := by decide +kernel
abbrev w_237 (hw : HW a0 Z) := hw.at 237 rfl
theorem D49_16 : Dc J49 16 .lrem 1 17 := by decide +kernel
theorem D49_17 : Dc J49 17 .lneg 1 18 := by decide +kernel
theorem D49_18 : Dc J49 18 .l2i 1 19 := by decide +kernel
theorem D49_19 : Dc J49 19 (.istore 8) 2 21 := by decide +kernel
theorem D49_21 : Dc J49 21 (.aload_n 0) 1 22 := by decide +kernel
theorem D49_22 : Dc J49 22 (.iload_n 1) 1 23 := by decide +kernel
theorem D49_23 : Dc J49 23 (.iconst 1) 1 24 := by decide +kernel
theorem D49_24 : Dc J49 24 .isub 1 25 := by decide +kernel
theorem D49_25 : Dc J49 25 (.iload 4) 2 27 := by decide +kernel
theorem D49_27 : Dc J49 27 .isub 1 28 := by decide +kernel
theorem D49_28 : Dc J49 28 (.bipush 48) 2 30 := by decide +kernel
theorem D49_30 : Dc J49 30 (.iload 8) 2 32 := by decide +kernel
theorem D49_32 : Dc J49 32 .iadd 1 33 := by decide +kernel
theorem D49_33 : Dc J49 33 .i2c 1 34 := by decide +kernel
theorem D49_34 : Dc J49 34 (.invokestatic 35) 3 37 := by decide +kernel
abbrev w_259 (hw : HW a0 Z) := hw.at 259 rfl
abbrev w_261 (hw : HW a0 Z) := hw.at 261 rfl
abbrev w_2 (hw : HW a0 Z) := hw.at 2 rfl
theorem pd_Ljava_lang_StringIC_r_Z : parseMethodDescriptor "(Ljava/lang/String;IC)Z" = some ⟨[(.object "java/lang/String"), .int, .char], some .boolean⟩ := by decide +kernel
abbrev w_260 (hw : HW a0 Z) := hw.at 260 rfl
theorem S48 (hw : HW a0 Z) : SC Z a0 Y48 C48 3 (some .boolean) 3 := ⟨(w_260 hw), ⟨⟨_, Or.inl rfl⟩, (w_261 hw), (w_2 hw), by decide, _, _, pd_Ljava_lang_StringIC_r_Z, rfl⟩⟩
theorem D49_37 : Dc J49 37 .ireturn 1 38 := by decide +kernel
theorem D49_7 : Dc J49 7 (.iconst 1) 1 8 := by decide +kernel
theorem D49_8 : Dc J49 8 .ireturn 1 9 := by decide +kernel
theorem PN49 : plainFor Y49 = true := plainFor_of_name pn_CsvReaderRefusalPinLaw
theorem ef_RIJIIJ_9 {x0 : Addr} {x1 : Int32} {x2 : Int64} {x3 : Int32} {x4 : Int32} {x5 : Int64}  (m : MethodId) : entryFrame m #[(.ref x0), (.int x1), (.long x2), (.int x3), (.int x4), (.long x5)] 9 = mkF m 0 #[.val (.ref x0), .val (.int x1), .val (.long x2), .second, .val (.int x3), .val (.int x4), .val (.long x5), .second, .unset] [] := by
  first | (simp [entryFrame, mkF, argsToLocals, Value.category]; done) | rfl
theorem R_di {a1 a2 : Addr} {vN p1 p2 p3 : Int32} {f1 : Nat → Int32} {q1 q2 : Int64} (hw : HW a0 Z) (G : Gl Z w_CS w_SF w_DO w_DT w_fO w_fT w_US w_SS) (O : Obj Z h0 a1 litL [.ref a2, .int 0]) (A : Ary Z h0 a2 ATB vN.toNatClampNeg (bv f1)) (x1 : ¬ (vN < p1)) (x2 : ¬ (vN < 0)) (x3 : vN < 1000) (hm : ¬ (0 < q1)) (ht : 0 < q2) (hz : ¬ (q2 = 0)) (H : p2 < p3 → ¬ (((p1 - 1) - p2) < 0) ∧ ((p1 - 1) - p2) < p1 ∧ (f1 ((p1 - 1) - p2).toNatClampNeg).toInt = 48 + (q1.toInt.natAbs : Int) / q2.toInt % 10) : Mt false [] l Y49 C49 (rmk 5 0 0 67) #[.ref a1, .int p1, .long q1, .int p2, .int p3, .long q2] Z a0 h0 n0 (Pv h0 (.int 1)) := by
  refine Mt.go PN49 (Or.inl rfl) ef_RIJIIJ_9 fun k => ?_
  replace k := k |>.iload D49_0 rfl |>.iload D49_2 rfl
  by_cases hc4_1 : p2 < p3
  · replace k := k |>.icmpYes D49_4 (tlt hc4_1).1
    obtain ⟨y1, y2, y3⟩ := H hc4_1
    replace k := k |>.lloadN D49_9 rfl |>.lload D49_10 rfl |>.ldiv D49_12 hz rfl |>.ldcJ (w_237 hw) D49_13 |>.lrem D49_16 (by decide) rfl |>.lneg D49_17 rfl |>.l2i D49_18 rfl |>.istore D49_19 sto8 |>.aloadN D49_21 rfl rfl |>.iloadN D49_22 rfl |>.iconst D49_23 1 |>.isub D49_24 rfl
    replace k := k |>.iload D49_25 rfl |>.isub D49_27 rfl |>.bipush D49_28 48 |>.iload D49_30 rfl |>.iadd D49_32 rfl |>.i2c D49_33 rfl
    replace k := (k.callS (w_259 hw) (S48 hw) (R_at hw G O A y1 (lt_nlt y2 x1) x3 x2 (dig_eq rfl rfl rfl rfl rfl rfl rfl hm ht y3)) D49_34 0 rfl).pv
    exact k.retN (t := .boolean) D49_37 rfl (by simp) (z' := 1) (by decide) ⟨rfl, rfl⟩
  · replace k := k |>.icmpNo D49_4 (flt hc4_1).1 |>.iconst D49_7 1
    exact k.retN (t := .boolean) D49_8 rfl (by simp) (z' := 1) (by decide) ⟨rfl, rfl⟩
abbrev Y50 : MethodName := ⟨"com/example/fala/fala/format/CsvReaderRefusalPinLaw", "ge", "(JJ)I"⟩
abbrev J50 := method_5_code
abbrev C50 : Cond := .code Y50 J50 4 (some .int)
theorem D50_0 : Dc J50 0 (.lload_n 0) 1 1 := by decide +kernel
theorem D50_1 : Dc J50 1 (.lload_n 2) 1 2 := by decide +kernel
theorem D50_2 : Dc J50 2 .lneg 1 3 := by decide +kernel
theorem D50_3 : Dc J50 3 .lcmp 1 4 := by decide +kernel
theorem D50_4 : Dj J50 4 (.ifCond .gt 7) 7 7 11 := by decide +kernel
theorem D50_11 : Dc J50 11 (.iconst 0) 1 12 := by decide +kernel
theorem D50_12 : Dc J50 12 .ireturn 1 13 := by decide +kernel
theorem D50_7 : Dc J50 7 (.iconst 1) 1 8 := by decide +kernel
theorem D50_8 : Dj J50 8 (.goto 4) 4 11 12 := by decide +kernel
theorem PN50 : plainFor Y50 = true := plainFor_of_name pn_CsvReaderRefusalPinLaw
theorem ef_JJ_4 {x0 : Int64} {x1 : Int64}  (m : MethodId) : entryFrame m #[(.long x0), (.long x1)] 4 = mkF m 0 #[.val (.long x0), .second, .val (.long x1), .second] [] := by
  first | (simp [entryFrame, mkF, argsToLocals, Value.category]; done) | rfl
theorem R_ge {q1 q2 : Int64} (hw : HW a0 Z) (G : Gl Z w_CS w_SF w_DO w_DT w_fO w_fT w_US w_SS) : Mt false [] l Y50 C50 (rmk 0 0 0 0) #[.long q1, .long q2] Z a0 h0 n0 (Pv h0 (.int (gef q1 q2))) := by
  refine Mt.go PN50 (Or.inl rfl) ef_JJ_4 fun k => ?_
  replace k := k |>.lloadN D50_0 rfl |>.lloadN D50_1 rfl |>.lneg D50_2 rfl |>.lcmp D50_3
  by_cases hc4_1 : (-q2) < q1
  · replace k := k |>.ifYes D50_4 ((if0 _ _).trans (tlt ((lw_gt _ _).mpr hc4_1)).2.2.1) |>.iconst D50_11 0
    exact k.retI D50_12 rfl ⟨congrArg some (congrArg Value.int (if_pos hc4_1).symm), rfl⟩
  · replace k := k |>.ifNo D50_4 ((if0 _ _).trans (flt (fun q => hc4_1 ((lw_gt _ _).mp q))).2.2.1) |>.iconst D50_7 1 |>.goto D50_8
    exact k.retI D50_12 rfl ⟨congrArg some (congrArg Value.int (if_neg hc4_1).symm), rfl⟩
abbrev Y51 : MethodName := ⟨"com/example/fala/fala/format/CsvReaderRefusalPinLaw", "digits", "(J)I"⟩
abbrev J51 := method_6_code
abbrev C51 : Cond := .code Y51 J51 2 (some .int)
theorem D51_0 : Dc J51 0 (.iconst 1) 1 1 := by decide +kernel
theorem D51_1 : Dc J51 1 (.lload_n 0) 1 2 := by decide +kernel
theorem D51_2 : Dc J51 2 (.ldc2_w 43) 3 5 := by decide +kernel
theorem D51_5 : Dc J51 5 (.invokestatic 90) 3 8 := by decide +kernel
abbrev w_238 (hw : HW a0 Z) := hw.at 238 rfl
abbrev w_240 (hw : HW a0 Z) := hw.at 240 rfl
theorem pd_JJ_r_I : parseMethodDescriptor "(JJ)I" = some ⟨[.long, .long], some .int⟩ := by decide +kernel
abbrev w_239 (hw : HW a0 Z) := hw.at 239 rfl
theorem S50 (hw : HW a0 Z) : SC Z a0 Y50 C50 4 (some .int) 2 := ⟨(w_239 hw), ⟨⟨_, Or.inl rfl⟩, (w_240 hw), (w_2 hw), by decide, _, _, pd_JJ_r_I, rfl⟩⟩
theorem D51_8 : Dc J51 8 .iadd 1 9 := by decide +kernel
theorem D51_9 : Dc J51 9 (.lload_n 0) 1 10 := by decide +kernel
theorem D51_10 : Dc J51 10 (.ldc2_w 45) 3 13 := by decide +kernel
abbrev w_241 (hw : HW a0 Z) := hw.at 241 rfl
theorem D51_13 : Dc J51 13 (.invokestatic 90) 3 16 := by decide +kernel
theorem D51_16 : Dc J51 16 .iadd 1 17 := by decide +kernel
theorem D51_17 : Dc J51 17 (.lload_n 0) 1 18 := by decide +kernel
theorem D51_18 : Dc J51 18 (.ldc2_w 47) 3 21 := by decide +kernel
abbrev w_242 (hw : HW a0 Z) := hw.at 242 rfl
theorem D51_21 : Dc J51 21 (.invokestatic 90) 3 24 := by decide +kernel
theorem D51_24 : Dc J51 24 .iadd 1 25 := by decide +kernel
theorem D51_25 : Dc J51 25 (.lload_n 0) 1 26 := by decide +kernel
theorem D51_26 : Dc J51 26 (.ldc2_w 49) 3 29 := by decide +kernel
abbrev w_243 (hw : HW a0 Z) := hw.at 243 rfl
theorem D51_29 : Dc J51 29 (.invokestatic 90) 3 32 := by decide +kernel
theorem D51_32 : Dc J51 32 .iadd 1 33 := by decide +kernel
theorem D51_33 : Dc J51 33 (.lload_n 0) 1 34 := by decide +kernel
theorem D51_34 : Dc J51 34 (.ldc2_w 51) 3 37 := by decide +kernel
abbrev w_244 (hw : HW a0 Z) := hw.at 244 rfl
theorem D51_37 : Dc J51 37 (.invokestatic 90) 3 40 := by decide +kernel
theorem D51_40 : Dc J51 40 .iadd 1 41 := by decide +kernel
theorem D51_41 : Dc J51 41 (.lload_n 0) 1 42 := by decide +kernel
theorem D51_42 : Dc J51 42 (.ldc2_w 53) 3 45 := by decide +kernel
abbrev w_245 (hw : HW a0 Z) := hw.at 245 rfl
theorem D51_45 : Dc J51 45 (.invokestatic 90) 3 48 := by decide +kernel
theorem D51_48 : Dc J51 48 .iadd 1 49 := by decide +kernel
theorem D51_49 : Dc J51 49 (.lload_n 0) 1 50 := by decide +kernel
theorem D51_50 : Dc J51 50 (.ldc2_w 55) 3 53 := by decide +kernel
abbrev w_246 (hw : HW a0 Z) := hw.at 246 rfl
theorem D51_53 : Dc J51 53 (.invokestatic 90) 3 56 := by decide +kernel
theorem D51_56 : Dc J51 56 .iadd 1 57 := by decide +kernel
theorem D51_57 : Dc J51 57 (.lload_n 0) 1 58 := by decide +kernel
theorem D51_58 : Dc J51 58 (.ldc2_w 57) 3 61 := by decide +kernel
abbrev w_247 (hw : HW a0 Z) := hw.at 247 rfl
theorem D51_61 : Dc J51 61 (.invokestatic 90) 3 64 := by decide +kernel
theorem D51_64 : Dc J51 64 .iadd 1 65 := by decide +kernel
theorem D51_65 : Dc J51 65 (.lload_n 0) 1 66 := by decide +kernel
theorem D51_66 : Dc J51 66 (.ldc2_w 59) 3 69 := by decide +kernel
abbrev w_248 (hw : HW a0 Z) := hw.at 248 rfl
theorem D51_69 : Dc J51 69 (.invokestatic 90) 3 72 := by decide +kernel
theorem D51_72 : Dc J51 72 .iadd 1 73 := by decide +kernel
theorem D51_73 : Dc J51 73 (.lload_n 0) 1 74 := by decide +kernel
theorem D51_74 : Dc J51 74 (.ldc2_w 61) 3 77 := by decide +kernel
abbrev w_249 (hw : HW a0 Z) := hw.at 249 rfl
theorem D51_77 : Dc J51 77 (.invokestatic 90) 3 80 := by decide +kernel
theorem D51_80 : Dc J51 80 .iadd 1 81 := by decide +kernel
theorem D51_81 : Dc J51 81 (.lload_n 0) 1 82 := by decide +kernel
theorem D51_82 : Dc J51 82 (.ldc2_w 63) 3 85 := by decide +kernel
abbrev w_250 (hw : HW a0 Z) := hw.at 250 rfl
theorem D51_85 : Dc J51 85 (.invokestatic 90) 3 88 := by decide +kernel
theorem D51_88 : Dc J51 88 .iadd 1 89 := by decide +kernel
theorem D51_89 : Dc J51 89 (.lload_n 0) 1 90 := by decide +kernel
theorem D51_90 : Dc J51 90 (.ldc2_w 65) 3 93 := by decide +kernel
abbrev w_251 (hw : HW a0 Z) := hw.at 251 rfl
theorem D51_93 : Dc J51 93 (.invokestatic 90) 3 96 := by decide +kernel
theorem D51_96 : Dc J51 96 .iadd 1 97 := by decide +kernel
theorem D51_97 : Dc J51 97 (.lload_n 0) 1 98 := by decide +kernel
theorem D51_98 : Dc J51 98 (.ldc2_w 67) 3 101 := by decide +kernel
abbrev w_252 (hw : HW a0 Z) := hw.at 252 rfl
theorem D51_101 : Dc J51 101 (.invokestatic 90) 3 104 := by decide +kernel
theorem D51_104 : Dc J51 104 .iadd 1 105 := by decide +kernel
theorem D51_105 : Dc J51 105 (.lload_n 0) 1 106 := by decide +kernel
theorem D51_106 : Dc J51 106 (.ldc2_w 69) 3 109 := by decide +kernel
abbrev w_253 (hw : HW a0 Z) := hw.at 253 rfl
theorem D51_109 : Dc J51 109 (.invokestatic 90) 3 112 := by decide +kernel
theorem D51_112 : Dc J51 112 .iadd 1 113 := by decide +kernel
theorem D51_113 : Dc J51 113 (.lload_n 0) 1 114 := by decide +kernel
theorem D51_114 : Dc J51 114 (.ldc2_w 71) 3 117 := by decide +kernel
abbrev w_254 (hw : HW a0 Z) := hw.at 254 rfl
theorem D51_117 : Dc J51 117 (.invokestatic 90) 3 120 := by decide +kernel
theorem D51_120 : Dc J51 120 .iadd 1 121 := by decide +kernel
theorem D51_121 : Dc J51 121 (.lload_n 0) 1 122 := by decide +kernel
theorem D51_122 : Dc J51 122 (.ldc2_w 73) 3 125 := by decide +kernel
abbrev w_255 (hw : HW a0 Z) := hw.at 255 rfl
theorem D51_125 : Dc J51 125 (.invokestatic 90) 3 128 := by decide +kernel
theorem D51_128 : Dc J51 128 .iadd 1 129 := by decide +kernel
theorem D51_129 : Dc J51 129 (.lload_n 0) 1 130 := by decide +kernel
theorem D51_130 : Dc J51 130 (.ldc2_w 75) 3 133 := by decide +kernel
abbrev w_256 (hw : HW a0 Z) := hw.at 256 rfl
theorem D51_133 : Dc J51 133 (.invokestatic 90) 3 136 := by decide +kernel
theorem D51_136 : Dc J51 136 .iadd 1 137 := by decide +kernel
theorem D51_137 : Dc J51 137 (.lload_n 0) 1 138 := by decide +kernel
theorem D51_138 : Dc J51 138 (.ldc2_w 77) 3 141 := by decide +kernel
abbrev w_257 (hw : HW a0 Z) := hw.at 257 rfl
theorem D51_141 : Dc J51 141 (.invokestatic 90) 3 144 := by decide +kernel
theorem D51_144 : Dc J51 144 .iadd 1 145 := by decide +kernel
theorem D51_145 : Dc J51 145 .ireturn 1 146 := by decide +kernel
theorem PN51 : plainFor Y51 = true := plainFor_of_name pn_CsvReaderRefusalPinLaw
theorem ef_J_2 {x0 : Int64}  (m : MethodId) : entryFrame m #[(.long x0)] 2 = mkF m 0 #[.val (.long x0), .second] [] := by
  first | (simp [entryFrame, mkF, argsToLocals, Value.category]; done) | rfl
theorem R_ds {q1 : Int64} (hw : HW a0 Z) (G : Gl Z w_CS w_SF w_DO w_DT w_fO w_fT w_US w_SS) (hn : ¬ (0 < q1)) : Mt false [] l Y51 C51 (rmk 1 0 0 16) #[.long q1] Z a0 h0 n0 (Pv h0 (.int (ndv q1))) := by
  refine Mt.go PN51 (Or.inl rfl) ef_J_2 fun k => ?_
  replace k := k |>.iconst D51_0 1 |>.lloadN D51_1 rfl |>.ldcJ (w_237 hw) D51_2
  replace k := (k.callS (w_238 hw) (S50 hw) (R_ge hw G (q1 := q1) (q2 := 10)) D51_5 1 rfl).pv
  replace k := k |>.iadd D51_8 rfl |>.lloadN D51_9 rfl |>.ldcJ (w_241 hw) D51_10
  replace k := (k.callS (w_238 hw) (S50 hw) (R_ge hw G (q1 := q1) (q2 := 100)) D51_13 1 rfl).pv
  replace k := k |>.iadd D51_16 rfl |>.lloadN D51_17 rfl |>.ldcJ (w_242 hw) D51_18
  replace k := (k.callS (w_238 hw) (S50 hw) (R_ge hw G (q1 := q1) (q2 := 1000)) D51_21 1 rfl).pv
  replace k := k |>.iadd D51_24 rfl |>.lloadN D51_25 rfl |>.ldcJ (w_243 hw) D51_26
  replace k := (k.callS (w_238 hw) (S50 hw) (R_ge hw G (q1 := q1) (q2 := 10000)) D51_29 1 rfl).pv
  replace k := k |>.iadd D51_32 rfl |>.lloadN D51_33 rfl |>.ldcJ (w_244 hw) D51_34
  replace k := (k.callS (w_238 hw) (S50 hw) (R_ge hw G (q1 := q1) (q2 := 100000)) D51_37 1 rfl).pv
  replace k := k |>.iadd D51_40 rfl |>.lloadN D51_41 rfl |>.ldcJ (w_245 hw) D51_42
  replace k := (k.callS (w_238 hw) (S50 hw) (R_ge hw G (q1 := q1) (q2 := 1000000)) D51_45 1 rfl).pv
  replace k := k |>.iadd D51_48 rfl |>.lloadN D51_49 rfl |>.ldcJ (w_246 hw) D51_50
  replace k := (k.callS (w_238 hw) (S50 hw) (R_ge hw G (q1 := q1) (q2 := 10000000)) D51_53 1 rfl).pv
  replace k := k |>.iadd D51_56 rfl |>.lloadN D51_57 rfl |>.ldcJ (w_247 hw) D51_58
  replace k := (k.callS (w_238 hw) (S50 hw) (R_ge hw G (q1 := q1) (q2 := 100000000)) D51_61 1 rfl).pv
  replace k := k |>.iadd D51_64 rfl |>.lloadN D51_65 rfl |>.ldcJ (w_248 hw) D51_66
  replace k := (k.callS (w_238 hw) (S50 hw) (R_ge hw G (q1 := q1) (q2 := 1000000000)) D51_69 1 rfl).pv
  replace k := k |>.iadd D51_72 rfl |>.lloadN D51_73 rfl |>.ldcJ (w_249 hw) D51_74
  replace k := (k.callS (w_238 hw) (S50 hw) (R_ge hw G (q1 := q1) (q2 := 10000000000)) D51_77 1 rfl).pv
  replace k := k |>.iadd D51_80 rfl |>.lloadN D51_81 rfl |>.ldcJ (w_250 hw) D51_82
  replace k := (k.callS (w_238 hw) (S50 hw) (R_ge hw G (q1 := q1) (q2 := 100000000000)) D51_85 1 rfl).pv
  replace k := k |>.iadd D51_88 rfl |>.lloadN D51_89 rfl |>.ldcJ (w_251 hw) D51_90
  replace k := (k.callS (w_238 hw) (S50 hw) (R_ge hw G (q1 := q1) (q2 := 1000000000000)) D51_93 1 rfl).pv
  replace k := k |>.iadd D51_96 rfl |>.lloadN D51_97 rfl |>.ldcJ (w_252 hw) D51_98
  replace k := (k.callS (w_238 hw) (S50 hw) (R_ge hw G (q1 := q1) (q2 := 10000000000000)) D51_101 1 rfl).pv
  replace k := k |>.iadd D51_104 rfl |>.lloadN D51_105 rfl |>.ldcJ (w_253 hw) D51_106
  replace k := (k.callS (w_238 hw) (S50 hw) (R_ge hw G (q1 := q1) (q2 := 100000000000000)) D51_109 1 rfl).pv
  replace k := k |>.iadd D51_112 rfl |>.lloadN D51_113 rfl |>.ldcJ (w_254 hw) D51_114
  replace k := (k.callS (w_238 hw) (S50 hw) (R_ge hw G (q1 := q1) (q2 := 1000000000000000)) D51_117 1 rfl).pv
  replace k := k |>.iadd D51_120 rfl |>.lloadN D51_121 rfl |>.ldcJ (w_255 hw) D51_122
  replace k := (k.callS (w_238 hw) (S50 hw) (R_ge hw G (q1 := q1) (q2 := 10000000000000000)) D51_125 1 rfl).pv
  replace k := k |>.iadd D51_128 rfl |>.lloadN D51_129 rfl |>.ldcJ (w_256 hw) D51_130
  replace k := (k.callS (w_238 hw) (S50 hw) (R_ge hw G (q1 := q1) (q2 := 100000000000000000)) D51_133 1 rfl).pv
  replace k := k |>.iadd D51_136 rfl |>.lloadN D51_137 rfl |>.ldcJ (w_257 hw) D51_138
  replace k := (k.callS (w_238 hw) (S50 hw) (R_ge hw G (q1 := q1) (q2 := 1000000000000000000)) D51_141 1 rfl).pv
  replace k := k |>.iadd D51_144 rfl
  exact k.retI D51_145 rfl ⟨congrArg some (congrArg Value.int (ds_fin (ds_step 17 hn (ds_step 16 hn (ds_step 15 hn (ds_step 14 hn (ds_step 13 hn (ds_step 12 hn (ds_step 11 hn (ds_step 10 hn (ds_step 9 hn (ds_step 8 hn (ds_step 7 hn (ds_step 6 hn (ds_step 5 hn (ds_step 4 hn (ds_step 3 hn (ds_step 2 hn (ds_step 1 hn (ds_step 0 hn ds_0 rfl rfl rfl (by decide)) rfl rfl rfl (by decide)) rfl rfl rfl (by decide)) rfl rfl rfl (by decide)) rfl rfl rfl (by decide)) rfl rfl rfl (by decide)) rfl rfl rfl (by decide)) rfl rfl rfl (by decide)) rfl rfl rfl (by decide)) rfl rfl rfl (by decide)) rfl rfl rfl (by decide)) rfl rfl rfl (by decide)) rfl rfl rfl (by decide)) rfl rfl rfl (by decide)) rfl rfl rfl (by decide)) rfl rfl rfl (by decide)) rfl rfl rfl (by decide)) rfl rfl rfl (by decide)))), rfl⟩
abbrev Y52 : MethodName := x
abbrev C52 : Cond := .code x code maxLocals ret
theorem D52_0 : Dc code 0 (.iload_n 0) 1 1 := ⟨at_0, rfl⟩
theorem D52_1 : Dc code 1 (.iconst 3) 1 2 := ⟨at_1, rfl⟩
theorem D52_2 : Dc code 2 .iand 1 3 := ⟨at_2, rfl⟩
theorem D52_3 : Dc code 3 (.iconst 3) 1 4 := ⟨at_3, rfl⟩
theorem D52_4 : Dj code 4 (.if_icmp .ne 7) 7 7 11 := ⟨at_4, rfl, by decide, by decide⟩
theorem D52_7 : Dc code 7 (.iconst 2) 1 8 := ⟨at_7, rfl⟩
theorem D52_8 : Dj code 8 (.goto 6) 6 11 14 := ⟨at_8, rfl, by decide, by decide⟩
theorem D52_11 : Dc code 11 (.iload_n 0) 1 12 := ⟨at_11, rfl⟩
theorem D52_12 : Dc code 12 (.iconst 3) 1 13 := ⟨at_12, rfl⟩
theorem D52_13 : Dc code 13 .iand 1 14 := ⟨at_13, rfl⟩
theorem own_d69 {p1 v0 : Int32} (e0 : v0 = (p1 &&& 3)) (hq0 : ¬ (v0 = 3)) : ¬ (v0 < 0) := by
  have := rng32 p1
  have : (3 : Int32).toInt = 3 := by decide
  have := e_mask e0 2 4
  have := i_neq hq0
  have : (0 : Int32).toInt = 0 := by decide
  exact o_nlt (by omega)
theorem own_d70 {p1 v0 : Int32} (e0 : v0 = (p1 &&& 3)) (hq0 : ¬ (v0 = 3)) : v0 < 3 := by
  have := rng32 p1
  have : (3 : Int32).toInt = 3 := by decide
  have := e_mask e0 2 4
  have := i_neq hq0
  exact o_lt (by omega)
theorem D52_14 : Dc code 14 (.istore 4) 2 16 := ⟨at_14, rfl⟩
theorem D52_16 : Dc code 16 (.iload_n 0) 1 17 := ⟨at_16, rfl⟩
theorem D52_17 : Dc code 17 (.bipush 8) 2 19 := ⟨at_17, rfl⟩
theorem D52_19 : Dc code 19 .iushr 1 20 := ⟨at_19, rfl⟩
theorem D52_20 : Dc code 20 (.sipush 255) 3 23 := ⟨at_20, rfl⟩
theorem D52_23 : Dc code 23 .iand 1 24 := ⟨at_23, rfl⟩
theorem D52_24 : Dc code 24 .i2c 1 25 := ⟨at_24, rfl⟩
theorem D52_25 : Dc code 25 (.istore 5) 2 27 := ⟨at_25, rfl⟩
theorem D52_27 : Dc code 27 (.iload_n 0) 1 28 := ⟨at_27, rfl⟩
theorem D52_28 : Dc code 28 (.bipush 16) 2 30 := ⟨at_28, rfl⟩
theorem D52_30 : Dc code 30 .iushr 1 31 := ⟨at_30, rfl⟩
theorem D52_31 : Dc code 31 (.sipush 255) 3 34 := ⟨at_31, rfl⟩
theorem D52_34 : Dc code 34 .iand 1 35 := ⟨at_34, rfl⟩
theorem D52_35 : Dc code 35 .i2c 1 36 := ⟨at_35, rfl⟩
theorem D52_36 : Dc code 36 (.istore 6) 2 38 := ⟨at_36, rfl⟩
theorem D52_38 : Dc code 38 (.iload_n 1) 1 39 := ⟨at_38, rfl⟩
theorem D52_39 : Dc code 39 (.iconst 3) 1 40 := ⟨at_39, rfl⟩
theorem D52_40 : Dc code 40 .iand 1 41 := ⟨at_40, rfl⟩
theorem D52_41 : Dc code 41 (.iconst 3) 1 42 := ⟨at_41, rfl⟩
theorem D52_42 : Dj code 42 (.if_icmp .ne 7) 7 45 49 := ⟨at_42, rfl, by decide, by decide⟩
theorem D52_45 : Dc code 45 (.iconst 2) 1 46 := ⟨at_45, rfl⟩
theorem D52_46 : Dj code 46 (.goto 6) 6 49 52 := ⟨at_46, rfl, by decide, by decide⟩
theorem D52_49 : Dc code 49 (.iload_n 1) 1 50 := ⟨at_49, rfl⟩
theorem D52_50 : Dc code 50 (.iconst 3) 1 51 := ⟨at_50, rfl⟩
theorem D52_51 : Dc code 51 .iand 1 52 := ⟨at_51, rfl⟩
theorem own_d71 {p2 v0 : Int32} (e0 : v0 = (p2 &&& 3)) (hq0 : ¬ (v0 = 3)) : ¬ (v0 < 0) := by
  have := rng32 p2
  have : (3 : Int32).toInt = 3 := by decide
  have := e_mask e0 2 4
  have := i_neq hq0
  have : (0 : Int32).toInt = 0 := by decide
  exact o_nlt (by omega)
theorem own_d72 {p2 v0 : Int32} (e0 : v0 = (p2 &&& 3)) (hq0 : ¬ (v0 = 3)) : v0 < 3 := by
  have := rng32 p2
  have : (3 : Int32).toInt = 3 := by decide
  have := e_mask e0 2 4
  have := i_neq hq0
  exact o_lt (by omega)
theorem D52_52 : Dc code 52 (.istore 7) 2 54 := ⟨at_52, rfl⟩
theorem D52_54 : Dc code 54 (.iload_n 1) 1 55 := ⟨at_54, rfl⟩
theorem D52_55 : Dc code 55 (.bipush 8) 2 57 := ⟨at_55, rfl⟩
theorem D52_57 : Dc code 57 .iushr 1 58 := ⟨at_57, rfl⟩
theorem D52_58 : Dc code 58 (.sipush 255) 3 61 := ⟨at_58, rfl⟩
theorem D52_61 : Dc code 61 .iand 1 62 := ⟨at_61, rfl⟩
theorem D52_62 : Dc code 62 .i2c 1 63 := ⟨at_62, rfl⟩
theorem D52_63 : Dc code 63 (.istore 8) 2 65 := ⟨at_63, rfl⟩
theorem D52_65 : Dc code 65 (.iload_n 1) 1 66 := ⟨at_65, rfl⟩
theorem D52_66 : Dc code 66 (.bipush 16) 2 68 := ⟨at_66, rfl⟩
theorem D52_68 : Dc code 68 .iushr 1 69 := ⟨at_68, rfl⟩
theorem D52_69 : Dc code 69 (.sipush 255) 3 72 := ⟨at_69, rfl⟩
theorem D52_72 : Dc code 72 .iand 1 73 := ⟨at_72, rfl⟩
theorem D52_73 : Dc code 73 .i2c 1 74 := ⟨at_73, rfl⟩
theorem D52_74 : Dc code 74 (.istore 9) 2 76 := ⟨at_74, rfl⟩
theorem D52_76 : Dc code 76 (.iload 4) 2 78 := ⟨at_76, rfl⟩
theorem D52_78 : Dc code 78 (.iload 5) 2 80 := ⟨at_78, rfl⟩
theorem D52_80 : Dc code 80 (.iload 6) 2 82 := ⟨at_80, rfl⟩
theorem D52_82 : Dc code 82 (.invokestatic 7) 3 85 := ⟨at_82, rfl⟩
theorem own_d73 {p1 v0 v1 : Int32} (e0 : v0 = ((p1.toUInt32 >>> ((8 : Int32) &&& 31).toUInt32).toInt32)) (e1 : v1 = (latc v0)) : ¬ (v1 < 0) := by
  have := rng32 p1
  have : (8 : Int32).toInt = 8 := by decide
  have := e_iushr e0 8 256
  have := e_latc e1
  have : (0 : Int32).toInt = 0 := by decide
  exact o_nlt (by omega)
theorem own_d74 {p1 v0 v1 : Int32} (e0 : v0 = ((p1.toUInt32 >>> ((8 : Int32) &&& 31).toUInt32).toInt32)) (e1 : v1 = (latc v0)) : v1 < 256 := by
  have := rng32 p1
  have : (8 : Int32).toInt = 8 := by decide
  have := e_iushr e0 8 256
  have := e_latc e1
  have : (256 : Int32).toInt = 256 := by decide
  exact o_lt (by omega)
theorem own_d75 {p1 v0 v1 : Int32} (e0 : v0 = ((p1.toUInt32 >>> ((16 : Int32) &&& 31).toUInt32).toInt32)) (e1 : v1 = (latc v0)) : ¬ (v1 < 0) := by
  have := rng32 p1
  have : (16 : Int32).toInt = 16 := by decide
  have := e_iushr e0 16 65536
  have := e_latc e1
  have : (0 : Int32).toInt = 0 := by decide
  exact o_nlt (by omega)
theorem own_d76 {p1 v0 v1 : Int32} (e0 : v0 = ((p1.toUInt32 >>> ((16 : Int32) &&& 31).toUInt32).toInt32)) (e1 : v1 = (latc v0)) : v1 < 256 := by
  have := rng32 p1
  have : (16 : Int32).toInt = 16 := by decide
  have := e_iushr e0 16 65536
  have := e_latc e1
  have : (256 : Int32).toInt = 256 := by decide
  exact o_lt (by omega)
abbrev w_0 (hw : HW a0 Z) := hw.at 0 rfl
abbrev w_3 (hw : HW a0 Z) := hw.at 3 rfl
theorem pd_ICC_r_Ljava_lang_String : parseMethodDescriptor "(ICC)Ljava/lang/String;" = some ⟨[.int, .char, .char], some (.object "java/lang/String")⟩ := by decide +kernel
abbrev w_1 (hw : HW a0 Z) := hw.at 1 rfl
theorem S33 (hw : HW a0 Z) : SC Z a0 Y33 C33 3 (some (.object "java/lang/String")) 3 := ⟨(w_1 hw), ⟨⟨_, Or.inl rfl⟩, (w_3 hw), (w_2 hw), by decide, _, _, pd_ICC_r_Ljava_lang_String, rfl⟩⟩
theorem D52_85 : Dc code 85 (.astore 10) 2 87 := ⟨at_85, rfl⟩
theorem D52_87 : Dc code 87 (.iload 7) 2 89 := ⟨at_87, rfl⟩
theorem D52_89 : Dc code 89 (.iload 8) 2 91 := ⟨at_89, rfl⟩
theorem D52_91 : Dc code 91 (.iload 9) 2 93 := ⟨at_91, rfl⟩
theorem D52_93 : Dc code 93 (.invokestatic 7) 3 96 := ⟨at_93, rfl⟩
theorem own_d77 {p2 v0 v1 : Int32} (e0 : v0 = ((p2.toUInt32 >>> ((8 : Int32) &&& 31).toUInt32).toInt32)) (e1 : v1 = (latc v0)) : ¬ (v1 < 0) := by
  have := rng32 p2
  have : (8 : Int32).toInt = 8 := by decide
  have := e_iushr e0 8 256
  have := e_latc e1
  have : (0 : Int32).toInt = 0 := by decide
  exact o_nlt (by omega)
theorem own_d78 {p2 v0 v1 : Int32} (e0 : v0 = ((p2.toUInt32 >>> ((8 : Int32) &&& 31).toUInt32).toInt32)) (e1 : v1 = (latc v0)) : v1 < 256 := by
  have := rng32 p2
  have : (8 : Int32).toInt = 8 := by decide
  have := e_iushr e0 8 256
  have := e_latc e1
  have : (256 : Int32).toInt = 256 := by decide
  exact o_lt (by omega)
theorem own_d79 {p2 v0 v1 : Int32} (e0 : v0 = ((p2.toUInt32 >>> ((16 : Int32) &&& 31).toUInt32).toInt32)) (e1 : v1 = (latc v0)) : ¬ (v1 < 0) := by
  have := rng32 p2
  have : (16 : Int32).toInt = 16 := by decide
  have := e_iushr e0 16 65536
  have := e_latc e1
  have : (0 : Int32).toInt = 0 := by decide
  exact o_nlt (by omega)
theorem own_d80 {p2 v0 v1 : Int32} (e0 : v0 = ((p2.toUInt32 >>> ((16 : Int32) &&& 31).toUInt32).toInt32)) (e1 : v1 = (latc v0)) : v1 < 256 := by
  have := rng32 p2
  have : (16 : Int32).toInt = 16 := by decide
  have := e_iushr e0 16 65536
  have := e_latc e1
  have : (256 : Int32).toInt = 256 := by decide
  exact o_lt (by omega)
theorem D52_96 : Dc code 96 (.astore 11) 2 98 := ⟨at_96, rfl⟩
theorem sto11 {x0 x1 x2 x3 x4 x5 x6 x7 x8 x9 x10 x : Slot} {t : List Slot} {v : Value} (hx : okS x = true := by rfl) (hv : v.category = 1 := by rfl) : storeLocals (List.toArray (x0 :: x1 :: x2 :: x3 :: x4 :: x5 :: x6 :: x7 :: x8 :: x9 :: x10 :: x :: t)) 11 v = some (List.toArray (x0 :: x1 :: x2 :: x3 :: x4 :: x5 :: x6 :: x7 :: x8 :: x9 :: x10 :: .val v :: t)) := stoA (A := [x0, x1, x2, x3, x4, x5, x6, x7, x8, x9, x10]) hx hv
theorem D52_98 : Dc code 98 (.aload 10) 2 100 := ⟨at_98, rfl⟩
theorem D52_100 : Dc code 100 (.lload_n 2) 1 101 := ⟨at_100, rfl⟩
theorem D52_101 : Dc code 101 (.aload 11) 2 103 := ⟨at_101, rfl⟩
theorem D52_103 : Dc code 103 (.invokestatic 13) 3 106 := ⟨at_103, rfl⟩
abbrev w_37 (hw : HW a0 Z) := hw.at 37 rfl
abbrev w_40 (hw : HW a0 Z) := hw.at 40 rfl
abbrev w_39 (hw : HW a0 Z) := hw.at 39 rfl
theorem pd_Ljava_lang_StringJLjava_lang_String_r_Lcom_example_fala_fala_format_InvalidInputException : parseMethodDescriptor "(Ljava/lang/String;JLjava/lang/String;)Lcom/example/fala/fala/format/InvalidInputException;" = some ⟨[(.object "java/lang/String"), .long, (.object "java/lang/String")], some (.object "com/example/fala/fala/format/InvalidInputException")⟩ := by decide +kernel
abbrev w_38 (hw : HW a0 Z) := hw.at 38 rfl
theorem S7 (hw : HW a0 Z) : SC Z a0 Y7 C7 4 (some (.object "com/example/fala/fala/format/InvalidInputException")) 3 := ⟨(w_38 hw), ⟨⟨_, Or.inl rfl⟩, (w_40 hw), (w_39 hw), by decide, _, _, pd_Ljava_lang_StringJLjava_lang_String_r_Lcom_example_fala_fala_format_InvalidInputException, rfl⟩⟩
theorem D52_106 : Dc code 106 (.astore 12) 2 108 := ⟨at_106, rfl⟩
theorem sto12 {x0 x1 x2 x3 x4 x5 x6 x7 x8 x9 x10 x11 x : Slot} {t : List Slot} {v : Value} (hx : okS x = true := by rfl) (hv : v.category = 1 := by rfl) : storeLocals (List.toArray (x0 :: x1 :: x2 :: x3 :: x4 :: x5 :: x6 :: x7 :: x8 :: x9 :: x10 :: x11 :: x :: t)) 12 v = some (List.toArray (x0 :: x1 :: x2 :: x3 :: x4 :: x5 :: x6 :: x7 :: x8 :: x9 :: x10 :: x11 :: .val v :: t)) := stoA (A := [x0, x1, x2, x3, x4, x5, x6, x7, x8, x9, x10, x11]) hx hv
theorem D52_108 : Dc code 108 (.aload 12) 2 110 := ⟨at_108, rfl⟩
theorem D52_110 : Dj code 110 (.ifnonnull 5) 5 113 115 := ⟨at_110, rfl, by decide, by decide⟩
theorem D52_115 : Dc code 115 (.aload 12) 2 117 := ⟨at_115, rfl⟩
theorem D52_117 : Dc code 117 (.invokevirtual 19) 3 120 := ⟨at_117, rfl⟩
abbrev Y53 : MethodName := ⟨"java/lang/Throwable", "getMessage", "()Ljava/lang/String;"⟩
abbrev J53 := jdk_78_method_6_code
abbrev C53 : Cond := .code Y53 J53 1 (some (.object "java/lang/String"))
theorem D53_0 : Dc J53 0 (.aload_n 0) 1 1 := by decide +kernel
theorem D53_1 : Dc J53 1 (.getfield 31) 3 4 := by decide +kernel
theorem D53_4 : Dc J53 4 .areturn 1 5 := by decide +kernel
theorem PN53 : plainFor Y53 = true := plainFor_of_name pn_Throwable
theorem R_53_1 {a1 a2 : Addr} (hw : HW a0 Z) (G : Gl Z w_CS w_SF w_DO w_DT w_fO w_fT w_US w_SS) (pr1 : Obj Z h0 a1 L_exc [.ref a2]) : Mt false [] l Y53 C53 (rmk 0 0 0 0) #[.ref a1] Z a0 h0 n0 (Pv h0 (.ref a2)) := by
  refine Mt.go PN53 (Or.inl rfl) ef_R_1 fun k => ?_
  replace k := k |>.aloadN D53_0 rfl rfl |>.getF (fl_227 hw) pr1 0 D53_1 rfl rfl
  exact k.retA D53_4 rfl ⟨rfl, rfl⟩
abbrev w_228 (hw : HW a0 Z) := hw.at 228 rfl
abbrev w_233 (hw : HW a0 Z) := hw.at 233 rfl
abbrev X_InvalidInputException_getMessage___Ljava_lang_String_ : MethodName := ⟨"com/example/fala/fala/format/InvalidInputException", "getMessage", "()Ljava/lang/String;"⟩
abbrev w_232 (hw : HW a0 Z) := hw.at 232 rfl
abbrev w_231 (hw : HW a0 Z) := hw.at 231 rfl
abbrev w_229 (hw : HW a0 Z) := hw.at 229 rfl
abbrev w_230 (hw : HW a0 Z) := hw.at 230 rfl
theorem V_X_InvalidInputException_getMessage___Ljava_lang_String__53_InvalidInputException (hw : HW a0 Z) : UC Z a0 X_InvalidInputException_getMessage___Ljava_lang_String_ Y53 "com/example/fala/fala/format/InvalidInputException" C53 1 (some (.object "java/lang/String")) 0 := ⟨_, (w_229 hw), (w_230 hw), by decide, (w_232 hw), (w_231 hw), rfl, ⟨⟨_, Or.inl rfl⟩, (w_233 hw), (w_189 hw), by decide, _, _, pd__r_Ljava_lang_String, rfl⟩⟩
theorem D52_120 : Dc code 120 (.astore 13) 2 122 := ⟨at_120, rfl⟩
theorem sto13 {x0 x1 x2 x3 x4 x5 x6 x7 x8 x9 x10 x11 x12 x : Slot} {t : List Slot} {v : Value} (hx : okS x = true := by rfl) (hv : v.category = 1 := by rfl) : storeLocals (List.toArray (x0 :: x1 :: x2 :: x3 :: x4 :: x5 :: x6 :: x7 :: x8 :: x9 :: x10 :: x11 :: x12 :: x :: t)) 13 v = some (List.toArray (x0 :: x1 :: x2 :: x3 :: x4 :: x5 :: x6 :: x7 :: x8 :: x9 :: x10 :: x11 :: x12 :: .val v :: t)) := stoA (A := [x0, x1, x2, x3, x4, x5, x6, x7, x8, x9, x10, x11, x12]) hx hv
theorem D52_122 : Dc code 122 (.aload 13) 2 124 := ⟨at_122, rfl⟩
theorem D52_124 : Dj code 124 (.ifnonnull 5) 5 127 129 := ⟨at_124, rfl, by decide, by decide⟩
theorem D52_129 : Dc code 129 (.lload_n 2) 1 130 := ⟨at_129, rfl⟩
theorem D52_130 : Dc code 130 (.lconst 0) 1 131 := ⟨at_130, rfl⟩
theorem D52_131 : Dc code 131 .lcmp 1 132 := ⟨at_131, rfl⟩
theorem D52_132 : Dj code 132 (.ifCond .ge 7) 7 135 139 := ⟨at_132, rfl, by decide, by decide⟩
theorem D52_135 : Dc code 135 (.iconst 1) 1 136 := ⟨at_135, rfl⟩
theorem D52_136 : Dj code 136 (.goto 4) 4 139 140 := ⟨at_136, rfl, by decide, by decide⟩
theorem D52_140 : Dc code 140 (.istore 14) 2 142 := ⟨at_140, rfl⟩
theorem sto14 {x0 x1 x2 x3 x4 x5 x6 x7 x8 x9 x10 x11 x12 x13 x : Slot} {t : List Slot} {v : Value} (hx : okS x = true := by rfl) (hv : v.category = 1 := by rfl) : storeLocals (List.toArray (x0 :: x1 :: x2 :: x3 :: x4 :: x5 :: x6 :: x7 :: x8 :: x9 :: x10 :: x11 :: x12 :: x13 :: x :: t)) 14 v = some (List.toArray (x0 :: x1 :: x2 :: x3 :: x4 :: x5 :: x6 :: x7 :: x8 :: x9 :: x10 :: x11 :: x12 :: x13 :: .val v :: t)) := stoA (A := [x0, x1, x2, x3, x4, x5, x6, x7, x8, x9, x10, x11, x12, x13]) hx hv
theorem D52_142 : Dc code 142 (.lload_n 2) 1 143 := ⟨at_142, rfl⟩
theorem D52_143 : Dc code 143 (.lconst 0) 1 144 := ⟨at_143, rfl⟩
theorem D52_144 : Dc code 144 .lcmp 1 145 := ⟨at_144, rfl⟩
theorem D52_145 : Dj code 145 (.ifCond .ge 7) 7 148 152 := ⟨at_145, rfl, by decide, by decide⟩
theorem D52_148 : Dc code 148 (.lload_n 2) 1 149 := ⟨at_148, rfl⟩
theorem D52_149 : Dj code 149 (.goto 5) 5 152 154 := ⟨at_149, rfl, by decide, by decide⟩
theorem D52_154 : Dc code 154 (.lstore 15) 2 156 := ⟨at_154, rfl⟩
theorem D52_156 : Dc code 156 (.lload 15) 2 158 := ⟨at_156, rfl⟩
theorem D52_158 : Dc code 158 (.invokestatic 25) 3 161 := ⟨at_158, rfl⟩
abbrev w_234 (hw : HW a0 Z) := hw.at 234 rfl
abbrev w_236 (hw : HW a0 Z) := hw.at 236 rfl
abbrev w_235 (hw : HW a0 Z) := hw.at 235 rfl
theorem S51 (hw : HW a0 Z) : SC Z a0 Y51 C51 2 (some .int) 1 := ⟨(w_235 hw), ⟨⟨_, Or.inl rfl⟩, (w_236 hw), (w_2 hw), by decide, _, _, pd_J_r_I, rfl⟩⟩
theorem D52_161 : Dc code 161 (.istore 17) 2 163 := ⟨at_161, rfl⟩
theorem sto17 {x0 x1 x2 x3 x4 x5 x6 x7 x8 x9 x10 x11 x12 x13 x14 x15 x16 x : Slot} {t : List Slot} {v : Value} (hx : okS x = true := by rfl) (hv : v.category = 1 := by rfl) : storeLocals (List.toArray (x0 :: x1 :: x2 :: x3 :: x4 :: x5 :: x6 :: x7 :: x8 :: x9 :: x10 :: x11 :: x12 :: x13 :: x14 :: x15 :: x16 :: x :: t)) 17 v = some (List.toArray (x0 :: x1 :: x2 :: x3 :: x4 :: x5 :: x6 :: x7 :: x8 :: x9 :: x10 :: x11 :: x12 :: x13 :: x14 :: x15 :: x16 :: .val v :: t)) := stoA (A := [x0, x1, x2, x3, x4, x5, x6, x7, x8, x9, x10, x11, x12, x13, x14, x15, x16]) hx hv
theorem D52_163 : Dc code 163 (.iload 4) 2 165 := ⟨at_163, rfl⟩
theorem D52_165 : Dc code 165 (.bipush 7) 2 167 := ⟨at_165, rfl⟩
theorem D52_167 : Dc code 167 .iadd 1 168 := ⟨at_167, rfl⟩
theorem D52_168 : Dc code 168 (.iload 14) 2 170 := ⟨at_168, rfl⟩
theorem D52_170 : Dc code 170 .iadd 1 171 := ⟨at_170, rfl⟩
theorem D52_171 : Dc code 171 (.istore 18) 2 173 := ⟨at_171, rfl⟩
theorem sto18 {x0 x1 x2 x3 x4 x5 x6 x7 x8 x9 x10 x11 x12 x13 x14 x15 x16 x17 x : Slot} {t : List Slot} {v : Value} (hx : okS x = true := by rfl) (hv : v.category = 1 := by rfl) : storeLocals (List.toArray (x0 :: x1 :: x2 :: x3 :: x4 :: x5 :: x6 :: x7 :: x8 :: x9 :: x10 :: x11 :: x12 :: x13 :: x14 :: x15 :: x16 :: x17 :: x :: t)) 18 v = some (List.toArray (x0 :: x1 :: x2 :: x3 :: x4 :: x5 :: x6 :: x7 :: x8 :: x9 :: x10 :: x11 :: x12 :: x13 :: x14 :: x15 :: x16 :: x17 :: .val v :: t)) := stoA (A := [x0, x1, x2, x3, x4, x5, x6, x7, x8, x9, x10, x11, x12, x13, x14, x15, x16, x17]) hx hv
theorem D52_173 : Dc code 173 (.iload 18) 2 175 := ⟨at_173, rfl⟩
theorem D52_175 : Dc code 175 (.iload 17) 2 177 := ⟨at_175, rfl⟩
theorem D52_177 : Dc code 177 .iadd 1 178 := ⟨at_177, rfl⟩
theorem D52_178 : Dc code 178 (.istore 19) 2 180 := ⟨at_178, rfl⟩
theorem sto19 {x0 x1 x2 x3 x4 x5 x6 x7 x8 x9 x10 x11 x12 x13 x14 x15 x16 x17 x18 x : Slot} {t : List Slot} {v : Value} (hx : okS x = true := by rfl) (hv : v.category = 1 := by rfl) : storeLocals (List.toArray (x0 :: x1 :: x2 :: x3 :: x4 :: x5 :: x6 :: x7 :: x8 :: x9 :: x10 :: x11 :: x12 :: x13 :: x14 :: x15 :: x16 :: x17 :: x18 :: x :: t)) 19 v = some (List.toArray (x0 :: x1 :: x2 :: x3 :: x4 :: x5 :: x6 :: x7 :: x8 :: x9 :: x10 :: x11 :: x12 :: x13 :: x14 :: x15 :: x16 :: x17 :: x18 :: .val v :: t)) := stoA (A := [x0, x1, x2, x3, x4, x5, x6, x7, x8, x9, x10, x11, x12, x13, x14, x15, x16, x17, x18]) hx hv
theorem D52_180 : Dc code 180 (.aload 13) 2 182 := ⟨at_180, rfl⟩
theorem D52_182 : Dc code 182 (.invokevirtual 29) 3 185 := ⟨at_182, rfl⟩
theorem own_d81 {p8 p9 v0 v1 v2 v3 v4 v5 : Int32} {q1 : Int64} (e0 : v0 = (0 + p8)) (e1 : v1 = (v0 + 7)) (e2 : v2 = (sszL q1)) (e3 : v3 = (v1 + v2)) (e4 : v4 = (v3 + 2)) (e5 : v5 = (v4 + p9)) (hq0 : ¬ (p8 < 0)) (hq1 : p8 < 3) (hq2 : ¬ (p9 < 0)) (hq3 : p9 < 3) (hq4 : q1 < (0 : Int64)) : ¬ (v5 < 0) := by
  have := rng32 p8
  have : (0 : Int32).toInt = 0 := by decide
  have := i_nlt hq0
  have : (3 : Int32).toInt = 3 := by decide
  have := i_lt hq1
  have := rng32 p9
  have := i_nlt hq2
  have := i_lt hq3
  have := rng64 q1
  have : (0 : Int64).toInt = 0 := by decide
  have := j_lt hq4
  have := e_iaddN e0 (by omega)
  have : (7 : Int32).toInt = 7 := by decide
  have := e_iaddN e1 (by omega)
  have := e_sszL e2
  have := e_iaddN e3 (by omega)
  have : (2 : Int32).toInt = 2 := by decide
  have := e_iaddN e4 (by omega)
  have := e_iaddN e5 (by omega)
  exact o_nlt (by omega)
theorem D52_185 : Dc code 185 (.iload 19) 2 187 := ⟨at_185, rfl⟩
theorem D52_187 : Dc code 187 (.iconst 2) 1 188 := ⟨at_187, rfl⟩
theorem D52_188 : Dc code 188 .iadd 1 189 := ⟨at_188, rfl⟩
theorem D52_189 : Dc code 189 (.iload 7) 2 191 := ⟨at_189, rfl⟩
theorem D52_191 : Dc code 191 .iadd 1 192 := ⟨at_191, rfl⟩
theorem D52_192 : Dj code 192 (.if_icmp .ne 7) 7 195 199 := ⟨at_192, rfl, by decide, by decide⟩
theorem own_d82 {p8 p9 v0 v1 v2 v3 v4 v5 v6 v7 v8 v9 v10 v11 : Int32} {q1 : Int64} (e0 : v0 = (0 + p8)) (e1 : v1 = (v0 + 7)) (e2 : v2 = (sszL q1)) (e3 : v3 = (v1 + v2)) (e4 : v4 = (v3 + 2)) (e5 : v5 = (v4 + p9)) (e6 : v6 = (p8 + 7)) (e7 : v7 = (v6 + 1)) (e8 : v8 = (v2 - 1)) (e9 : v9 = (v7 + v8)) (e10 : v10 = (v9 + 2)) (e11 : v11 = (v10 + p9)) (hq0 : ¬ (p8 < 0)) (hq1 : p8 < 3) (hq2 : ¬ (p9 < 0)) (hq3 : p9 < 3) (hq4 : q1 < (0 : Int64)) : v5 = v11 := by
  have := rng32 p8
  have : (0 : Int32).toInt = 0 := by decide
  have := i_nlt hq0
  have : (3 : Int32).toInt = 3 := by decide
  have := i_lt hq1
  have := rng32 p9
  have := i_nlt hq2
  have := i_lt hq3
  have := rng64 q1
  have : (0 : Int64).toInt = 0 := by decide
  have := j_lt hq4
  have := e_iaddN e0 (by omega)
  have : (7 : Int32).toInt = 7 := by decide
  have := e_iaddN e1 (by omega)
  have := e_sszL e2
  have := e_iaddN e3 (by omega)
  have : (2 : Int32).toInt = 2 := by decide
  have := e_iaddN e4 (by omega)
  have := e_iaddN e5 (by omega)
  have := e_iaddN e6 (by omega)
  have : (1 : Int32).toInt = 1 := by decide
  have := e_iaddN e7 (by omega)
  have := e_isubN e8 (by omega)
  have := e_iaddN e9 (by omega)
  have := e_iaddN e10 (by omega)
  have := e_iaddN e11 (by omega)
  exact o_eq (by omega)
theorem D52_195 : Dc code 195 (.iconst 1) 1 196 := ⟨at_195, rfl⟩
theorem D52_196 : Dj code 196 (.goto 4) 4 199 200 := ⟨at_196, rfl, by decide, by decide⟩
theorem D52_200 : Dc code 200 (.istore 20) 2 202 := ⟨at_200, rfl⟩
theorem sto20 {x0 x1 x2 x3 x4 x5 x6 x7 x8 x9 x10 x11 x12 x13 x14 x15 x16 x17 x18 x19 x : Slot} {t : List Slot} {v : Value} (hx : okS x = true := by rfl) (hv : v.category = 1 := by rfl) : storeLocals (List.toArray (x0 :: x1 :: x2 :: x3 :: x4 :: x5 :: x6 :: x7 :: x8 :: x9 :: x10 :: x11 :: x12 :: x13 :: x14 :: x15 :: x16 :: x17 :: x18 :: x19 :: x :: t)) 20 v = some (List.toArray (x0 :: x1 :: x2 :: x3 :: x4 :: x5 :: x6 :: x7 :: x8 :: x9 :: x10 :: x11 :: x12 :: x13 :: x14 :: x15 :: x16 :: x17 :: x18 :: x19 :: .val v :: t)) := stoA (A := [x0, x1, x2, x3, x4, x5, x6, x7, x8, x9, x10, x11, x12, x13, x14, x15, x16, x17, x18, x19]) hx hv
theorem D52_202 : Dc code 202 (.iload 20) 2 204 := ⟨at_202, rfl⟩
theorem D52_204 : Dj code 204 (.ifCond .eq 41) 41 207 245 := ⟨at_204, rfl, by decide, by decide⟩
theorem D52_207 : Dc code 207 (.iload 4) 2 209 := ⟨at_207, rfl⟩
theorem D52_209 : Dc code 209 (.iconst 1) 1 210 := ⟨at_209, rfl⟩
theorem D52_210 : Dj code 210 (.if_icmp .lt 14) 14 213 224 := ⟨at_210, rfl, by decide, by decide⟩
theorem D52_213 : Dc code 213 (.aload 13) 2 215 := ⟨at_213, rfl⟩
theorem D52_215 : Dc code 215 (.iconst 0) 1 216 := ⟨at_215, rfl⟩
theorem D52_216 : Dc code 216 (.iload 5) 2 218 := ⟨at_216, rfl⟩
theorem D52_218 : Dc code 218 (.invokestatic 35) 3 221 := ⟨at_218, rfl⟩
theorem own_d83 {p8 p9 v0 v1 v2 v3 v4 v5 : Int32} {q1 : Int64} (e0 : v0 = (0 + p8)) (e1 : v1 = (v0 + 7)) (e2 : v2 = (sszL q1)) (e3 : v3 = (v1 + v2)) (e4 : v4 = (v3 + 2)) (e5 : v5 = (v4 + p9)) (hq0 : ¬ (p8 < 0)) (hq1 : p8 < 3) (hq2 : ¬ (p9 < 0)) (hq3 : p9 < 3) (hq4 : q1 < (0 : Int64)) (hq5 : ¬ (p8 < 1)) : 0 < v5 := by
  have := rng32 p8
  have : (0 : Int32).toInt = 0 := by decide
  have := i_nlt hq0
  have : (3 : Int32).toInt = 3 := by decide
  have := i_lt hq1
  have := rng32 p9
  have := i_nlt hq2
  have := i_lt hq3
  have := rng64 q1
  have : (0 : Int64).toInt = 0 := by decide
  have := j_lt hq4
  have : (1 : Int32).toInt = 1 := by decide
  have := i_nlt hq5
  have := e_iaddN e0 (by omega)
  have : (7 : Int32).toInt = 7 := by decide
  have := e_iaddN e1 (by omega)
  have := e_sszL e2
  have := e_iaddN e3 (by omega)
  have : (2 : Int32).toInt = 2 := by decide
  have := e_iaddN e4 (by omega)
  have := e_iaddN e5 (by omega)
  exact o_lt (by omega)
theorem own_d84 {p8 p9 v0 v1 v2 v3 v4 v5 : Int32} {q1 : Int64} (e0 : v0 = (0 + p8)) (e1 : v1 = (v0 + 7)) (e2 : v2 = (sszL q1)) (e3 : v3 = (v1 + v2)) (e4 : v4 = (v3 + 2)) (e5 : v5 = (v4 + p9)) (hq0 : ¬ (p8 < 0)) (hq1 : p8 < 3) (hq2 : ¬ (p9 < 0)) (hq3 : p9 < 3) (hq4 : q1 < (0 : Int64)) (hq5 : ¬ (p8 < 1)) : v5 < 1000 := by
  have := rng32 p8
  have : (0 : Int32).toInt = 0 := by decide
  have := i_nlt hq0
  have : (3 : Int32).toInt = 3 := by decide
  have := i_lt hq1
  have := rng32 p9
  have := i_nlt hq2
  have := i_lt hq3
  have := rng64 q1
  have : (0 : Int64).toInt = 0 := by decide
  have := j_lt hq4
  have : (1 : Int32).toInt = 1 := by decide
  have := i_nlt hq5
  have := e_iaddN e0 (by omega)
  have : (7 : Int32).toInt = 7 := by decide
  have := e_iaddN e1 (by omega)
  have := e_sszL e2
  have := e_iaddN e3 (by omega)
  have : (2 : Int32).toInt = 2 := by decide
  have := e_iaddN e4 (by omega)
  have := e_iaddN e5 (by omega)
  have : (1000 : Int32).toInt = 1000 := by decide
  exact o_lt (by omega)
theorem own_d85 {p8 p9 v0 v1 v2 v3 v4 v5 : Int32} {q1 : Int64} (e0 : v0 = (0 + p8)) (e1 : v1 = (v0 + 7)) (e2 : v2 = (sszL q1)) (e3 : v3 = (v1 + v2)) (e4 : v4 = (v3 + 2)) (e5 : v5 = (v4 + p9)) (hq0 : ¬ (p8 < 0)) (hq1 : p8 < 3) (hq2 : ¬ (p9 < 0)) (hq3 : p9 < 3) (hq4 : q1 < (0 : Int64)) (hq5 : ¬ (p8 < 1)) : ¬ (v5 < 0) := by
  have := rng32 p8
  have : (0 : Int32).toInt = 0 := by decide
  have := i_nlt hq0
  have : (3 : Int32).toInt = 3 := by decide
  have := i_lt hq1
  have := rng32 p9
  have := i_nlt hq2
  have := i_lt hq3
  have := rng64 q1
  have : (0 : Int64).toInt = 0 := by decide
  have := j_lt hq4
  have : (1 : Int32).toInt = 1 := by decide
  have := i_nlt hq5
  have := e_iaddN e0 (by omega)
  have : (7 : Int32).toInt = 7 := by decide
  have := e_iaddN e1 (by omega)
  have := e_sszL e2
  have := e_iaddN e3 (by omega)
  have : (2 : Int32).toInt = 2 := by decide
  have := e_iaddN e4 (by omega)
  have := e_iaddN e5 (by omega)
  exact o_nlt (by omega)
theorem D52_221 : Dj code 221 (.ifCond .eq 24) 24 224 245 := ⟨at_221, rfl, by decide, by decide⟩
theorem D52_224 : Dc code 224 (.iload 4) 2 226 := ⟨at_224, rfl⟩
theorem D52_226 : Dc code 226 (.iconst 2) 1 227 := ⟨at_226, rfl⟩
theorem D52_227 : Dj code 227 (.if_icmp .lt 14) 14 230 241 := ⟨at_227, rfl, by decide, by decide⟩
theorem D52_230 : Dc code 230 (.aload 13) 2 232 := ⟨at_230, rfl⟩
theorem D52_232 : Dc code 232 (.iconst 1) 1 233 := ⟨at_232, rfl⟩
theorem D52_233 : Dc code 233 (.iload 6) 2 235 := ⟨at_233, rfl⟩
theorem D52_235 : Dc code 235 (.invokestatic 35) 3 238 := ⟨at_235, rfl⟩
theorem own_d86 {p8 p9 v0 v1 v2 v3 v4 v5 : Int32} {q1 : Int64} (e0 : v0 = (0 + p8)) (e1 : v1 = (v0 + 7)) (e2 : v2 = (sszL q1)) (e3 : v3 = (v1 + v2)) (e4 : v4 = (v3 + 2)) (e5 : v5 = (v4 + p9)) (hq0 : ¬ (p8 < 0)) (hq1 : p8 < 3) (hq2 : ¬ (p9 < 0)) (hq3 : p9 < 3) (hq4 : q1 < (0 : Int64)) (hq5 : ¬ (p8 < 2)) : 1 < v5 := by
  have := rng32 p8
  have : (0 : Int32).toInt = 0 := by decide
  have := i_nlt hq0
  have : (3 : Int32).toInt = 3 := by decide
  have := i_lt hq1
  have := rng32 p9
  have := i_nlt hq2
  have := i_lt hq3
  have := rng64 q1
  have : (0 : Int64).toInt = 0 := by decide
  have := j_lt hq4
  have : (2 : Int32).toInt = 2 := by decide
  have := i_nlt hq5
  have : (1 : Int32).toInt = 1 := by decide
  have := e_iaddN e0 (by omega)
  have : (7 : Int32).toInt = 7 := by decide
  have := e_iaddN e1 (by omega)
  have := e_sszL e2
  have := e_iaddN e3 (by omega)
  have := e_iaddN e4 (by omega)
  have := e_iaddN e5 (by omega)
  exact o_lt (by omega)
theorem own_d87 {p8 p9 v0 v1 v2 v3 v4 v5 : Int32} {q1 : Int64} (e0 : v0 = (0 + p8)) (e1 : v1 = (v0 + 7)) (e2 : v2 = (sszL q1)) (e3 : v3 = (v1 + v2)) (e4 : v4 = (v3 + 2)) (e5 : v5 = (v4 + p9)) (hq0 : ¬ (p8 < 0)) (hq1 : p8 < 3) (hq2 : ¬ (p9 < 0)) (hq3 : p9 < 3) (hq4 : q1 < (0 : Int64)) (hq5 : ¬ (p8 < 2)) : v5 < 1000 := by
  have := rng32 p8
  have : (0 : Int32).toInt = 0 := by decide
  have := i_nlt hq0
  have : (3 : Int32).toInt = 3 := by decide
  have := i_lt hq1
  have := rng32 p9
  have := i_nlt hq2
  have := i_lt hq3
  have := rng64 q1
  have : (0 : Int64).toInt = 0 := by decide
  have := j_lt hq4
  have : (2 : Int32).toInt = 2 := by decide
  have := i_nlt hq5
  have := e_iaddN e0 (by omega)
  have : (7 : Int32).toInt = 7 := by decide
  have := e_iaddN e1 (by omega)
  have := e_sszL e2
  have := e_iaddN e3 (by omega)
  have := e_iaddN e4 (by omega)
  have := e_iaddN e5 (by omega)
  have : (1000 : Int32).toInt = 1000 := by decide
  exact o_lt (by omega)
theorem own_d88 {p8 p9 v0 v1 v2 v3 v4 v5 : Int32} {q1 : Int64} (e0 : v0 = (0 + p8)) (e1 : v1 = (v0 + 7)) (e2 : v2 = (sszL q1)) (e3 : v3 = (v1 + v2)) (e4 : v4 = (v3 + 2)) (e5 : v5 = (v4 + p9)) (hq0 : ¬ (p8 < 0)) (hq1 : p8 < 3) (hq2 : ¬ (p9 < 0)) (hq3 : p9 < 3) (hq4 : q1 < (0 : Int64)) (hq5 : ¬ (p8 < 2)) : ¬ (v5 < 0) := by
  have := rng32 p8
  have : (0 : Int32).toInt = 0 := by decide
  have := i_nlt hq0
  have : (3 : Int32).toInt = 3 := by decide
  have := i_lt hq1
  have := rng32 p9
  have := i_nlt hq2
  have := i_lt hq3
  have := rng64 q1
  have : (0 : Int64).toInt = 0 := by decide
  have := j_lt hq4
  have : (2 : Int32).toInt = 2 := by decide
  have := i_nlt hq5
  have := e_iaddN e0 (by omega)
  have : (7 : Int32).toInt = 7 := by decide
  have := e_iaddN e1 (by omega)
  have := e_sszL e2
  have := e_iaddN e3 (by omega)
  have := e_iaddN e4 (by omega)
  have := e_iaddN e5 (by omega)
  exact o_nlt (by omega)
theorem D52_238 : Dj code 238 (.ifCond .eq 7) 7 241 245 := ⟨at_238, rfl, by decide, by decide⟩
theorem D52_241 : Dc code 241 (.iconst 1) 1 242 := ⟨at_241, rfl⟩
theorem D52_242 : Dj code 242 (.goto 4) 4 245 246 := ⟨at_242, rfl, by decide, by decide⟩
theorem D52_246 : Dc code 246 (.istore 20) 2 248 := ⟨at_246, rfl⟩
theorem D52_248 : Dc code 248 (.iload 20) 2 250 := ⟨at_248, rfl⟩
theorem D52_250 : Dj code 250 (.ifCond .eq 104) 104 253 354 := ⟨at_250, rfl, by decide, by decide⟩
theorem D52_253 : Dc code 253 (.aload 13) 2 255 := ⟨at_253, rfl⟩
theorem D52_255 : Dc code 255 (.iload 4) 2 257 := ⟨at_255, rfl⟩
theorem D52_257 : Dc code 257 (.bipush 58) 2 259 := ⟨at_257, rfl⟩
theorem D52_259 : Dc code 259 (.invokestatic 35) 3 262 := ⟨at_259, rfl⟩
theorem own_d89 {p8 p9 v0 v1 v2 v3 v4 v5 : Int32} {q1 : Int64} (e0 : v0 = (0 + p8)) (e1 : v1 = (v0 + 7)) (e2 : v2 = (sszL q1)) (e3 : v3 = (v1 + v2)) (e4 : v4 = (v3 + 2)) (e5 : v5 = (v4 + p9)) (hq0 : ¬ (p8 < 0)) (hq1 : p8 < 3) (hq2 : ¬ (p9 < 0)) (hq3 : p9 < 3) (hq4 : q1 < (0 : Int64)) : p8 < v5 := by
  have := rng32 p8
  have : (0 : Int32).toInt = 0 := by decide
  have := i_nlt hq0
  have : (3 : Int32).toInt = 3 := by decide
  have := i_lt hq1
  have := rng32 p9
  have := i_nlt hq2
  have := i_lt hq3
  have := rng64 q1
  have : (0 : Int64).toInt = 0 := by decide
  have := j_lt hq4
  have := e_iaddN e0 (by omega)
  have : (7 : Int32).toInt = 7 := by decide
  have := e_iaddN e1 (by omega)
  have := e_sszL e2
  have := e_iaddN e3 (by omega)
  have : (2 : Int32).toInt = 2 := by decide
  have := e_iaddN e4 (by omega)
  have := e_iaddN e5 (by omega)
  exact o_lt (by omega)
theorem own_d90 {p8 p9 v0 v1 v2 v3 v4 v5 : Int32} {q1 : Int64} (e0 : v0 = (0 + p8)) (e1 : v1 = (v0 + 7)) (e2 : v2 = (sszL q1)) (e3 : v3 = (v1 + v2)) (e4 : v4 = (v3 + 2)) (e5 : v5 = (v4 + p9)) (hq0 : ¬ (p8 < 0)) (hq1 : p8 < 3) (hq2 : ¬ (p9 < 0)) (hq3 : p9 < 3) (hq4 : q1 < (0 : Int64)) : v5 < 1000 := by
  have := rng32 p8
  have : (0 : Int32).toInt = 0 := by decide
  have := i_nlt hq0
  have : (3 : Int32).toInt = 3 := by decide
  have := i_lt hq1
  have := rng32 p9
  have := i_nlt hq2
  have := i_lt hq3
  have := rng64 q1
  have : (0 : Int64).toInt = 0 := by decide
  have := j_lt hq4
  have := e_iaddN e0 (by omega)
  have : (7 : Int32).toInt = 7 := by decide
  have := e_iaddN e1 (by omega)
  have := e_sszL e2
  have := e_iaddN e3 (by omega)
  have : (2 : Int32).toInt = 2 := by decide
  have := e_iaddN e4 (by omega)
  have := e_iaddN e5 (by omega)
  have : (1000 : Int32).toInt = 1000 := by decide
  exact o_lt (by omega)
theorem D52_262 : Dj code 262 (.ifCond .eq 92) 92 265 354 := ⟨at_262, rfl, by decide, by decide⟩
theorem D52_265 : Dc code 265 (.aload 13) 2 267 := ⟨at_265, rfl⟩
theorem D52_267 : Dc code 267 (.iload 4) 2 269 := ⟨at_267, rfl⟩
theorem D52_269 : Dc code 269 (.iconst 1) 1 270 := ⟨at_269, rfl⟩
theorem D52_270 : Dc code 270 .iadd 1 271 := ⟨at_270, rfl⟩
theorem D52_271 : Dc code 271 (.bipush 32) 2 273 := ⟨at_271, rfl⟩
theorem D52_273 : Dc code 273 (.invokestatic 35) 3 276 := ⟨at_273, rfl⟩
theorem own_d91 {p8 v0 : Int32} (e0 : v0 = (p8 + 1)) (hq0 : ¬ (p8 < 0)) (hq1 : p8 < 3) : ¬ (v0 < 0) := by
  have := rng32 p8
  have : (0 : Int32).toInt = 0 := by decide
  have := i_nlt hq0
  have : (3 : Int32).toInt = 3 := by decide
  have := i_lt hq1
  have : (1 : Int32).toInt = 1 := by decide
  have := e_iaddN e0 (by omega)
  exact o_nlt (by omega)
theorem own_d92 {p8 p9 v0 v1 v2 v3 v4 v5 v6 : Int32} {q1 : Int64} (e0 : v0 = (p8 + 1)) (e1 : v1 = (0 + p8)) (e2 : v2 = (v1 + 7)) (e3 : v3 = (sszL q1)) (e4 : v4 = (v2 + v3)) (e5 : v5 = (v4 + 2)) (e6 : v6 = (v5 + p9)) (hq0 : ¬ (p8 < 0)) (hq1 : p8 < 3) (hq2 : ¬ (p9 < 0)) (hq3 : p9 < 3) (hq4 : q1 < (0 : Int64)) : v0 < v6 := by
  have := rng32 p8
  have : (0 : Int32).toInt = 0 := by decide
  have := i_nlt hq0
  have : (3 : Int32).toInt = 3 := by decide
  have := i_lt hq1
  have := rng32 p9
  have := i_nlt hq2
  have := i_lt hq3
  have := rng64 q1
  have : (0 : Int64).toInt = 0 := by decide
  have := j_lt hq4
  have : (1 : Int32).toInt = 1 := by decide
  have := e_iaddN e0 (by omega)
  have := e_iaddN e1 (by omega)
  have : (7 : Int32).toInt = 7 := by decide
  have := e_iaddN e2 (by omega)
  have := e_sszL e3
  have := e_iaddN e4 (by omega)
  have : (2 : Int32).toInt = 2 := by decide
  have := e_iaddN e5 (by omega)
  have := e_iaddN e6 (by omega)
  exact o_lt (by omega)
theorem D52_276 : Dj code 276 (.ifCond .eq 78) 78 279 354 := ⟨at_276, rfl, by decide, by decide⟩
theorem D52_279 : Dc code 279 (.aload 13) 2 281 := ⟨at_279, rfl⟩
theorem D52_281 : Dc code 281 (.iload 4) 2 283 := ⟨at_281, rfl⟩
theorem D52_283 : Dc code 283 (.iconst 2) 1 284 := ⟨at_283, rfl⟩
theorem D52_284 : Dc code 284 .iadd 1 285 := ⟨at_284, rfl⟩
theorem D52_285 : Dc code 285 (.bipush 108) 2 287 := ⟨at_285, rfl⟩
theorem D52_287 : Dc code 287 (.invokestatic 35) 3 290 := ⟨at_287, rfl⟩
theorem own_d93 {p8 v0 : Int32} (e0 : v0 = (p8 + 2)) (hq0 : ¬ (p8 < 0)) (hq1 : p8 < 3) : ¬ (v0 < 0) := by
  have := rng32 p8
  have : (0 : Int32).toInt = 0 := by decide
  have := i_nlt hq0
  have : (3 : Int32).toInt = 3 := by decide
  have := i_lt hq1
  have : (2 : Int32).toInt = 2 := by decide
  have := e_iaddN e0 (by omega)
  exact o_nlt (by omega)
theorem own_d94 {p8 p9 v0 v1 v2 v3 v4 v5 v6 : Int32} {q1 : Int64} (e0 : v0 = (p8 + 2)) (e1 : v1 = (0 + p8)) (e2 : v2 = (v1 + 7)) (e3 : v3 = (sszL q1)) (e4 : v4 = (v2 + v3)) (e5 : v5 = (v4 + 2)) (e6 : v6 = (v5 + p9)) (hq0 : ¬ (p8 < 0)) (hq1 : p8 < 3) (hq2 : ¬ (p9 < 0)) (hq3 : p9 < 3) (hq4 : q1 < (0 : Int64)) : v0 < v6 := by
  have := rng32 p8
  have : (0 : Int32).toInt = 0 := by decide
  have := i_nlt hq0
  have : (3 : Int32).toInt = 3 := by decide
  have := i_lt hq1
  have := rng32 p9
  have := i_nlt hq2
  have := i_lt hq3
  have := rng64 q1
  have : (0 : Int64).toInt = 0 := by decide
  have := j_lt hq4
  have : (2 : Int32).toInt = 2 := by decide
  have := e_iaddN e0 (by omega)
  have := e_iaddN e1 (by omega)
  have : (7 : Int32).toInt = 7 := by decide
  have := e_iaddN e2 (by omega)
  have := e_sszL e3
  have := e_iaddN e4 (by omega)
  have := e_iaddN e5 (by omega)
  have := e_iaddN e6 (by omega)
  exact o_lt (by omega)
theorem D52_290 : Dj code 290 (.ifCond .eq 64) 64 293 354 := ⟨at_290, rfl, by decide, by decide⟩
theorem D52_293 : Dc code 293 (.aload 13) 2 295 := ⟨at_293, rfl⟩
theorem D52_295 : Dc code 295 (.iload 4) 2 297 := ⟨at_295, rfl⟩
theorem D52_297 : Dc code 297 (.iconst 3) 1 298 := ⟨at_297, rfl⟩
theorem D52_298 : Dc code 298 .iadd 1 299 := ⟨at_298, rfl⟩
theorem D52_299 : Dc code 299 (.bipush 105) 2 301 := ⟨at_299, rfl⟩
theorem D52_301 : Dc code 301 (.invokestatic 35) 3 304 := ⟨at_301, rfl⟩
theorem own_d95 {p8 v0 : Int32} (e0 : v0 = (p8 + 3)) (hq0 : ¬ (p8 < 0)) (hq1 : p8 < 3) : ¬ (v0 < 0) := by
  have := rng32 p8
  have : (0 : Int32).toInt = 0 := by decide
  have := i_nlt hq0
  have : (3 : Int32).toInt = 3 := by decide
  have := i_lt hq1
  have := e_iaddN e0 (by omega)
  exact o_nlt (by omega)
theorem own_d96 {p8 p9 v0 v1 v2 v3 v4 v5 v6 : Int32} {q1 : Int64} (e0 : v0 = (p8 + 3)) (e1 : v1 = (0 + p8)) (e2 : v2 = (v1 + 7)) (e3 : v3 = (sszL q1)) (e4 : v4 = (v2 + v3)) (e5 : v5 = (v4 + 2)) (e6 : v6 = (v5 + p9)) (hq0 : ¬ (p8 < 0)) (hq1 : p8 < 3) (hq2 : ¬ (p9 < 0)) (hq3 : p9 < 3) (hq4 : q1 < (0 : Int64)) : v0 < v6 := by
  have := rng32 p8
  have : (0 : Int32).toInt = 0 := by decide
  have := i_nlt hq0
  have : (3 : Int32).toInt = 3 := by decide
  have := i_lt hq1
  have := rng32 p9
  have := i_nlt hq2
  have := i_lt hq3
  have := rng64 q1
  have : (0 : Int64).toInt = 0 := by decide
  have := j_lt hq4
  have := e_iaddN e0 (by omega)
  have := e_iaddN e1 (by omega)
  have : (7 : Int32).toInt = 7 := by decide
  have := e_iaddN e2 (by omega)
  have := e_sszL e3
  have := e_iaddN e4 (by omega)
  have : (2 : Int32).toInt = 2 := by decide
  have := e_iaddN e5 (by omega)
  have := e_iaddN e6 (by omega)
  exact o_lt (by omega)
theorem D52_304 : Dj code 304 (.ifCond .eq 50) 50 307 354 := ⟨at_304, rfl, by decide, by decide⟩
theorem D52_307 : Dc code 307 (.aload 13) 2 309 := ⟨at_307, rfl⟩
theorem D52_309 : Dc code 309 (.iload 4) 2 311 := ⟨at_309, rfl⟩
theorem D52_311 : Dc code 311 (.iconst 4) 1 312 := ⟨at_311, rfl⟩
theorem D52_312 : Dc code 312 .iadd 1 313 := ⟨at_312, rfl⟩
theorem D52_313 : Dc code 313 (.bipush 110) 2 315 := ⟨at_313, rfl⟩
theorem D52_315 : Dc code 315 (.invokestatic 35) 3 318 := ⟨at_315, rfl⟩
theorem own_d97 {p8 v0 : Int32} (e0 : v0 = (p8 + 4)) (hq0 : ¬ (p8 < 0)) (hq1 : p8 < 3) : ¬ (v0 < 0) := by
  have := rng32 p8
  have : (0 : Int32).toInt = 0 := by decide
  have := i_nlt hq0
  have : (3 : Int32).toInt = 3 := by decide
  have := i_lt hq1
  have : (4 : Int32).toInt = 4 := by decide
  have := e_iaddN e0 (by omega)
  exact o_nlt (by omega)
theorem own_d98 {p8 p9 v0 v1 v2 v3 v4 v5 v6 : Int32} {q1 : Int64} (e0 : v0 = (p8 + 4)) (e1 : v1 = (0 + p8)) (e2 : v2 = (v1 + 7)) (e3 : v3 = (sszL q1)) (e4 : v4 = (v2 + v3)) (e5 : v5 = (v4 + 2)) (e6 : v6 = (v5 + p9)) (hq0 : ¬ (p8 < 0)) (hq1 : p8 < 3) (hq2 : ¬ (p9 < 0)) (hq3 : p9 < 3) (hq4 : q1 < (0 : Int64)) : v0 < v6 := by
  have := rng32 p8
  have : (0 : Int32).toInt = 0 := by decide
  have := i_nlt hq0
  have : (3 : Int32).toInt = 3 := by decide
  have := i_lt hq1
  have := rng32 p9
  have := i_nlt hq2
  have := i_lt hq3
  have := rng64 q1
  have : (0 : Int64).toInt = 0 := by decide
  have := j_lt hq4
  have : (4 : Int32).toInt = 4 := by decide
  have := e_iaddN e0 (by omega)
  have := e_iaddN e1 (by omega)
  have : (7 : Int32).toInt = 7 := by decide
  have := e_iaddN e2 (by omega)
  have := e_sszL e3
  have := e_iaddN e4 (by omega)
  have : (2 : Int32).toInt = 2 := by decide
  have := e_iaddN e5 (by omega)
  have := e_iaddN e6 (by omega)
  exact o_lt (by omega)
theorem D52_318 : Dj code 318 (.ifCond .eq 36) 36 321 354 := ⟨at_318, rfl, by decide, by decide⟩
theorem D52_321 : Dc code 321 (.aload 13) 2 323 := ⟨at_321, rfl⟩
theorem D52_323 : Dc code 323 (.iload 4) 2 325 := ⟨at_323, rfl⟩
theorem D52_325 : Dc code 325 (.iconst 5) 1 326 := ⟨at_325, rfl⟩
theorem D52_326 : Dc code 326 .iadd 1 327 := ⟨at_326, rfl⟩
theorem D52_327 : Dc code 327 (.bipush 101) 2 329 := ⟨at_327, rfl⟩
theorem D52_329 : Dc code 329 (.invokestatic 35) 3 332 := ⟨at_329, rfl⟩
theorem own_d99 {p8 v0 : Int32} (e0 : v0 = (p8 + 5)) (hq0 : ¬ (p8 < 0)) (hq1 : p8 < 3) : ¬ (v0 < 0) := by
  have := rng32 p8
  have : (0 : Int32).toInt = 0 := by decide
  have := i_nlt hq0
  have : (3 : Int32).toInt = 3 := by decide
  have := i_lt hq1
  have : (5 : Int32).toInt = 5 := by decide
  have := e_iaddN e0 (by omega)
  exact o_nlt (by omega)
theorem own_d100 {p8 p9 v0 v1 v2 v3 v4 v5 v6 : Int32} {q1 : Int64} (e0 : v0 = (p8 + 5)) (e1 : v1 = (0 + p8)) (e2 : v2 = (v1 + 7)) (e3 : v3 = (sszL q1)) (e4 : v4 = (v2 + v3)) (e5 : v5 = (v4 + 2)) (e6 : v6 = (v5 + p9)) (hq0 : ¬ (p8 < 0)) (hq1 : p8 < 3) (hq2 : ¬ (p9 < 0)) (hq3 : p9 < 3) (hq4 : q1 < (0 : Int64)) : v0 < v6 := by
  have := rng32 p8
  have : (0 : Int32).toInt = 0 := by decide
  have := i_nlt hq0
  have : (3 : Int32).toInt = 3 := by decide
  have := i_lt hq1
  have := rng32 p9
  have := i_nlt hq2
  have := i_lt hq3
  have := rng64 q1
  have : (0 : Int64).toInt = 0 := by decide
  have := j_lt hq4
  have : (5 : Int32).toInt = 5 := by decide
  have := e_iaddN e0 (by omega)
  have := e_iaddN e1 (by omega)
  have : (7 : Int32).toInt = 7 := by decide
  have := e_iaddN e2 (by omega)
  have := e_sszL e3
  have := e_iaddN e4 (by omega)
  have : (2 : Int32).toInt = 2 := by decide
  have := e_iaddN e5 (by omega)
  have := e_iaddN e6 (by omega)
  exact o_lt (by omega)
theorem D52_332 : Dj code 332 (.ifCond .eq 22) 22 335 354 := ⟨at_332, rfl, by decide, by decide⟩
theorem D52_335 : Dc code 335 (.aload 13) 2 337 := ⟨at_335, rfl⟩
theorem D52_337 : Dc code 337 (.iload 4) 2 339 := ⟨at_337, rfl⟩
theorem D52_339 : Dc code 339 (.bipush 6) 2 341 := ⟨at_339, rfl⟩
theorem D52_341 : Dc code 341 .iadd 1 342 := ⟨at_341, rfl⟩
theorem D52_342 : Dc code 342 (.bipush 32) 2 344 := ⟨at_342, rfl⟩
theorem D52_344 : Dc code 344 (.invokestatic 35) 3 347 := ⟨at_344, rfl⟩
theorem own_d101 {p8 v0 : Int32} (e0 : v0 = (p8 + 6)) (hq0 : ¬ (p8 < 0)) (hq1 : p8 < 3) : ¬ (v0 < 0) := by
  have := rng32 p8
  have : (0 : Int32).toInt = 0 := by decide
  have := i_nlt hq0
  have : (3 : Int32).toInt = 3 := by decide
  have := i_lt hq1
  have : (6 : Int32).toInt = 6 := by decide
  have := e_iaddN e0 (by omega)
  exact o_nlt (by omega)
theorem own_d102 {p8 p9 v0 v1 v2 v3 v4 v5 v6 : Int32} {q1 : Int64} (e0 : v0 = (p8 + 6)) (e1 : v1 = (0 + p8)) (e2 : v2 = (v1 + 7)) (e3 : v3 = (sszL q1)) (e4 : v4 = (v2 + v3)) (e5 : v5 = (v4 + 2)) (e6 : v6 = (v5 + p9)) (hq0 : ¬ (p8 < 0)) (hq1 : p8 < 3) (hq2 : ¬ (p9 < 0)) (hq3 : p9 < 3) (hq4 : q1 < (0 : Int64)) : v0 < v6 := by
  have := rng32 p8
  have : (0 : Int32).toInt = 0 := by decide
  have := i_nlt hq0
  have : (3 : Int32).toInt = 3 := by decide
  have := i_lt hq1
  have := rng32 p9
  have := i_nlt hq2
  have := i_lt hq3
  have := rng64 q1
  have : (0 : Int64).toInt = 0 := by decide
  have := j_lt hq4
  have : (6 : Int32).toInt = 6 := by decide
  have := e_iaddN e0 (by omega)
  have := e_iaddN e1 (by omega)
  have : (7 : Int32).toInt = 7 := by decide
  have := e_iaddN e2 (by omega)
  have := e_sszL e3
  have := e_iaddN e4 (by omega)
  have : (2 : Int32).toInt = 2 := by decide
  have := e_iaddN e5 (by omega)
  have := e_iaddN e6 (by omega)
  exact o_lt (by omega)
theorem D52_347 : Dj code 347 (.ifCond .eq 7) 7 350 354 := ⟨at_347, rfl, by decide, by decide⟩
theorem D52_350 : Dc code 350 (.iconst 1) 1 351 := ⟨at_350, rfl⟩
theorem D52_351 : Dj code 351 (.goto 4) 4 354 355 := ⟨at_351, rfl, by decide, by decide⟩
theorem D52_355 : Dc code 355 (.istore 20) 2 357 := ⟨at_355, rfl⟩
theorem D52_357 : Dc code 357 (.iload 20) 2 359 := ⟨at_357, rfl⟩
theorem D52_359 : Dj code 359 (.ifCond .eq 27) 27 362 386 := ⟨at_359, rfl, by decide, by decide⟩
theorem D52_362 : Dc code 362 (.iload 14) 2 364 := ⟨at_362, rfl⟩
theorem D52_364 : Dj code 364 (.ifCond .eq 18) 18 367 382 := ⟨at_364, rfl, by decide, by decide⟩
theorem D52_367 : Dc code 367 (.aload 13) 2 369 := ⟨at_367, rfl⟩
theorem D52_369 : Dc code 369 (.iload 4) 2 371 := ⟨at_369, rfl⟩
theorem D52_371 : Dc code 371 (.bipush 7) 2 373 := ⟨at_371, rfl⟩
theorem D52_373 : Dc code 373 .iadd 1 374 := ⟨at_373, rfl⟩
theorem D52_374 : Dc code 374 (.bipush 45) 2 376 := ⟨at_374, rfl⟩
theorem D52_376 : Dc code 376 (.invokestatic 35) 3 379 := ⟨at_376, rfl⟩
theorem own_d103 {p8 v0 : Int32} (e0 : v0 = (p8 + 7)) (hq0 : ¬ (p8 < 0)) (hq1 : p8 < 3) : ¬ (v0 < 0) := by
  have := rng32 p8
  have : (0 : Int32).toInt = 0 := by decide
  have := i_nlt hq0
  have : (3 : Int32).toInt = 3 := by decide
  have := i_lt hq1
  have : (7 : Int32).toInt = 7 := by decide
  have := e_iaddN e0 (by omega)
  exact o_nlt (by omega)
theorem own_d104 {p8 p9 v0 v1 v2 v3 v4 v5 v6 : Int32} {q1 : Int64} (e0 : v0 = (p8 + 7)) (e1 : v1 = (0 + p8)) (e2 : v2 = (v1 + 7)) (e3 : v3 = (sszL q1)) (e4 : v4 = (v2 + v3)) (e5 : v5 = (v4 + 2)) (e6 : v6 = (v5 + p9)) (hq0 : ¬ (p8 < 0)) (hq1 : p8 < 3) (hq2 : ¬ (p9 < 0)) (hq3 : p9 < 3) (hq4 : q1 < (0 : Int64)) : v0 < v6 := by
  have := rng32 p8
  have : (0 : Int32).toInt = 0 := by decide
  have := i_nlt hq0
  have : (3 : Int32).toInt = 3 := by decide
  have := i_lt hq1
  have := rng32 p9
  have := i_nlt hq2
  have := i_lt hq3
  have := rng64 q1
  have : (0 : Int64).toInt = 0 := by decide
  have := j_lt hq4
  have : (7 : Int32).toInt = 7 := by decide
  have := e_iaddN e0 (by omega)
  have := e_iaddN e1 (by omega)
  have := e_iaddN e2 (by omega)
  have := e_sszL e3
  have := e_iaddN e4 (by omega)
  have : (2 : Int32).toInt = 2 := by decide
  have := e_iaddN e5 (by omega)
  have := e_iaddN e6 (by omega)
  exact o_lt (by omega)
theorem D52_379 : Dj code 379 (.ifCond .eq 7) 7 382 386 := ⟨at_379, rfl, by decide, by decide⟩
theorem D52_382 : Dc code 382 (.iconst 1) 1 383 := ⟨at_382, rfl⟩
theorem D52_383 : Dj code 383 (.goto 4) 4 386 387 := ⟨at_383, rfl, by decide, by decide⟩
theorem D52_387 : Dc code 387 (.istore 20) 2 389 := ⟨at_387, rfl⟩
theorem D52_389 : Dc code 389 (.iload 20) 2 391 := ⟨at_389, rfl⟩
theorem D52_391 : Dj code 391 (.ifCond .eq 360) 360 394 751 := ⟨at_391, rfl, by decide, by decide⟩
theorem D52_394 : Dc code 394 (.aload 13) 2 396 := ⟨at_394, rfl⟩
theorem D52_396 : Dc code 396 (.iload 19) 2 398 := ⟨at_396, rfl⟩
theorem D52_398 : Dc code 398 (.lload 15) 2 400 := ⟨at_398, rfl⟩
theorem D52_400 : Dc code 400 (.iconst 0) 1 401 := ⟨at_400, rfl⟩
theorem D52_401 : Dc code 401 (.iload 17) 2 403 := ⟨at_401, rfl⟩
theorem D52_403 : Dc code 403 (.lconst 1) 1 404 := ⟨at_403, rfl⟩
theorem D52_404 : Dc code 404 (.invokestatic 39) 3 407 := ⟨at_404, rfl⟩
theorem own_d105 {p8 p9 v0 v1 v2 v3 v4 v5 v6 v7 v8 v9 : Int32} {q1 : Int64} (e0 : v0 = (0 + p8)) (e1 : v1 = (v0 + 7)) (e2 : v2 = (sszL q1)) (e3 : v3 = (v1 + v2)) (e4 : v4 = (v3 + 2)) (e5 : v5 = (v4 + p9)) (e6 : v6 = (p8 + 7)) (e7 : v7 = (v6 + 1)) (e8 : v8 = (v2 - 1)) (e9 : v9 = (v7 + v8)) (hq0 : ¬ (p8 < 0)) (hq1 : p8 < 3) (hq2 : ¬ (p9 < 0)) (hq3 : p9 < 3) (hq4 : q1 < (0 : Int64)) : ¬ (v5 < v9) := by
  have := rng32 p8
  have : (0 : Int32).toInt = 0 := by decide
  have := i_nlt hq0
  have : (3 : Int32).toInt = 3 := by decide
  have := i_lt hq1
  have := rng32 p9
  have := i_nlt hq2
  have := i_lt hq3
  have := rng64 q1
  have : (0 : Int64).toInt = 0 := by decide
  have := j_lt hq4
  have := e_iaddN e0 (by omega)
  have : (7 : Int32).toInt = 7 := by decide
  have := e_iaddN e1 (by omega)
  have := e_sszL e2
  have := e_iaddN e3 (by omega)
  have : (2 : Int32).toInt = 2 := by decide
  have := e_iaddN e4 (by omega)
  have := e_iaddN e5 (by omega)
  have := e_iaddN e6 (by omega)
  have : (1 : Int32).toInt = 1 := by decide
  have := e_iaddN e7 (by omega)
  have := e_isubN e8 (by omega)
  have := e_iaddN e9 (by omega)
  exact o_nlt (by omega)
abbrev w_284 (hw : HW a0 Z) := hw.at 284 rfl
abbrev w_286 (hw : HW a0 Z) := hw.at 286 rfl
theorem pd_Ljava_lang_StringIJIIJ_r_Z : parseMethodDescriptor "(Ljava/lang/String;IJIIJ)Z" = some ⟨[(.object "java/lang/String"), .int, .long, .int, .int, .long], some .boolean⟩ := by decide +kernel
abbrev w_285 (hw : HW a0 Z) := hw.at 285 rfl
theorem S49 (hw : HW a0 Z) : SC Z a0 Y49 C49 9 (some .boolean) 6 := ⟨(w_285 hw), ⟨⟨_, Or.inl rfl⟩, (w_286 hw), (w_2 hw), by decide, _, _, pd_Ljava_lang_StringIJIIJ_r_Z, rfl⟩⟩
theorem D52_407 : Dj code 407 (.ifCond .eq 344) 344 410 751 := ⟨at_407, rfl, by decide, by decide⟩
theorem D52_410 : Dc code 410 (.aload 13) 2 412 := ⟨at_410, rfl⟩
theorem D52_412 : Dc code 412 (.iload 19) 2 414 := ⟨at_412, rfl⟩
theorem D52_414 : Dc code 414 (.lload 15) 2 416 := ⟨at_414, rfl⟩
theorem D52_416 : Dc code 416 (.iconst 1) 1 417 := ⟨at_416, rfl⟩
theorem D52_417 : Dc code 417 (.iload 17) 2 419 := ⟨at_417, rfl⟩
theorem D52_419 : Dc code 419 (.ldc2_w 43) 3 422 := ⟨at_419, rfl⟩
theorem D52_422 : Dc code 422 (.invokestatic 39) 3 425 := ⟨at_422, rfl⟩
theorem D52_425 : Dj code 425 (.ifCond .eq 326) 326 428 751 := ⟨at_425, rfl, by decide, by decide⟩
theorem D52_428 : Dc code 428 (.aload 13) 2 430 := ⟨at_428, rfl⟩
theorem D52_430 : Dc code 430 (.iload 19) 2 432 := ⟨at_430, rfl⟩
theorem D52_432 : Dc code 432 (.lload 15) 2 434 := ⟨at_432, rfl⟩
theorem D52_434 : Dc code 434 (.iconst 2) 1 435 := ⟨at_434, rfl⟩
theorem D52_435 : Dc code 435 (.iload 17) 2 437 := ⟨at_435, rfl⟩
theorem D52_437 : Dc code 437 (.ldc2_w 45) 3 440 := ⟨at_437, rfl⟩
theorem D52_440 : Dc code 440 (.invokestatic 39) 3 443 := ⟨at_440, rfl⟩
theorem D52_443 : Dj code 443 (.ifCond .eq 308) 308 446 751 := ⟨at_443, rfl, by decide, by decide⟩
theorem D52_446 : Dc code 446 (.aload 13) 2 448 := ⟨at_446, rfl⟩
theorem D52_448 : Dc code 448 (.iload 19) 2 450 := ⟨at_448, rfl⟩
theorem D52_450 : Dc code 450 (.lload 15) 2 452 := ⟨at_450, rfl⟩
theorem D52_452 : Dc code 452 (.iconst 3) 1 453 := ⟨at_452, rfl⟩
theorem D52_453 : Dc code 453 (.iload 17) 2 455 := ⟨at_453, rfl⟩
theorem D52_455 : Dc code 455 (.ldc2_w 47) 3 458 := ⟨at_455, rfl⟩
theorem D52_458 : Dc code 458 (.invokestatic 39) 3 461 := ⟨at_458, rfl⟩
theorem D52_461 : Dj code 461 (.ifCond .eq 290) 290 464 751 := ⟨at_461, rfl, by decide, by decide⟩
theorem D52_464 : Dc code 464 (.aload 13) 2 466 := ⟨at_464, rfl⟩
theorem D52_466 : Dc code 466 (.iload 19) 2 468 := ⟨at_466, rfl⟩
theorem D52_468 : Dc code 468 (.lload 15) 2 470 := ⟨at_468, rfl⟩
theorem D52_470 : Dc code 470 (.iconst 4) 1 471 := ⟨at_470, rfl⟩
theorem D52_471 : Dc code 471 (.iload 17) 2 473 := ⟨at_471, rfl⟩
theorem D52_473 : Dc code 473 (.ldc2_w 49) 3 476 := ⟨at_473, rfl⟩
theorem D52_476 : Dc code 476 (.invokestatic 39) 3 479 := ⟨at_476, rfl⟩
theorem D52_479 : Dj code 479 (.ifCond .eq 272) 272 482 751 := ⟨at_479, rfl, by decide, by decide⟩
theorem D52_482 : Dc code 482 (.aload 13) 2 484 := ⟨at_482, rfl⟩
theorem D52_484 : Dc code 484 (.iload 19) 2 486 := ⟨at_484, rfl⟩
theorem D52_486 : Dc code 486 (.lload 15) 2 488 := ⟨at_486, rfl⟩
theorem D52_488 : Dc code 488 (.iconst 5) 1 489 := ⟨at_488, rfl⟩
theorem D52_489 : Dc code 489 (.iload 17) 2 491 := ⟨at_489, rfl⟩
theorem D52_491 : Dc code 491 (.ldc2_w 51) 3 494 := ⟨at_491, rfl⟩
theorem D52_494 : Dc code 494 (.invokestatic 39) 3 497 := ⟨at_494, rfl⟩
theorem D52_497 : Dj code 497 (.ifCond .eq 254) 254 500 751 := ⟨at_497, rfl, by decide, by decide⟩
theorem D52_500 : Dc code 500 (.aload 13) 2 502 := ⟨at_500, rfl⟩
theorem D52_502 : Dc code 502 (.iload 19) 2 504 := ⟨at_502, rfl⟩
theorem D52_504 : Dc code 504 (.lload 15) 2 506 := ⟨at_504, rfl⟩
theorem D52_506 : Dc code 506 (.bipush 6) 2 508 := ⟨at_506, rfl⟩
theorem D52_508 : Dc code 508 (.iload 17) 2 510 := ⟨at_508, rfl⟩
theorem D52_510 : Dc code 510 (.ldc2_w 53) 3 513 := ⟨at_510, rfl⟩
theorem D52_513 : Dc code 513 (.invokestatic 39) 3 516 := ⟨at_513, rfl⟩
theorem D52_516 : Dj code 516 (.ifCond .eq 235) 235 519 751 := ⟨at_516, rfl, by decide, by decide⟩
theorem D52_519 : Dc code 519 (.aload 13) 2 521 := ⟨at_519, rfl⟩
theorem D52_521 : Dc code 521 (.iload 19) 2 523 := ⟨at_521, rfl⟩
theorem D52_523 : Dc code 523 (.lload 15) 2 525 := ⟨at_523, rfl⟩
theorem D52_525 : Dc code 525 (.bipush 7) 2 527 := ⟨at_525, rfl⟩
theorem D52_527 : Dc code 527 (.iload 17) 2 529 := ⟨at_527, rfl⟩
theorem D52_529 : Dc code 529 (.ldc2_w 55) 3 532 := ⟨at_529, rfl⟩
theorem D52_532 : Dc code 532 (.invokestatic 39) 3 535 := ⟨at_532, rfl⟩
theorem D52_535 : Dj code 535 (.ifCond .eq 216) 216 538 751 := ⟨at_535, rfl, by decide, by decide⟩
theorem D52_538 : Dc code 538 (.aload 13) 2 540 := ⟨at_538, rfl⟩
theorem D52_540 : Dc code 540 (.iload 19) 2 542 := ⟨at_540, rfl⟩
theorem D52_542 : Dc code 542 (.lload 15) 2 544 := ⟨at_542, rfl⟩
theorem D52_544 : Dc code 544 (.bipush 8) 2 546 := ⟨at_544, rfl⟩
theorem D52_546 : Dc code 546 (.iload 17) 2 548 := ⟨at_546, rfl⟩
theorem D52_548 : Dc code 548 (.ldc2_w 57) 3 551 := ⟨at_548, rfl⟩
theorem D52_551 : Dc code 551 (.invokestatic 39) 3 554 := ⟨at_551, rfl⟩
theorem D52_554 : Dj code 554 (.ifCond .eq 197) 197 557 751 := ⟨at_554, rfl, by decide, by decide⟩
theorem D52_557 : Dc code 557 (.aload 13) 2 559 := ⟨at_557, rfl⟩
theorem D52_559 : Dc code 559 (.iload 19) 2 561 := ⟨at_559, rfl⟩
theorem D52_561 : Dc code 561 (.lload 15) 2 563 := ⟨at_561, rfl⟩
theorem D52_563 : Dc code 563 (.bipush 9) 2 565 := ⟨at_563, rfl⟩
theorem D52_565 : Dc code 565 (.iload 17) 2 567 := ⟨at_565, rfl⟩
theorem D52_567 : Dc code 567 (.ldc2_w 59) 3 570 := ⟨at_567, rfl⟩
theorem D52_570 : Dc code 570 (.invokestatic 39) 3 573 := ⟨at_570, rfl⟩
theorem D52_573 : Dj code 573 (.ifCond .eq 178) 178 576 751 := ⟨at_573, rfl, by decide, by decide⟩
theorem D52_576 : Dc code 576 (.aload 13) 2 578 := ⟨at_576, rfl⟩
theorem D52_578 : Dc code 578 (.iload 19) 2 580 := ⟨at_578, rfl⟩
theorem D52_580 : Dc code 580 (.lload 15) 2 582 := ⟨at_580, rfl⟩
theorem D52_582 : Dc code 582 (.bipush 10) 2 584 := ⟨at_582, rfl⟩
theorem D52_584 : Dc code 584 (.iload 17) 2 586 := ⟨at_584, rfl⟩
theorem D52_586 : Dc code 586 (.ldc2_w 61) 3 589 := ⟨at_586, rfl⟩
theorem D52_589 : Dc code 589 (.invokestatic 39) 3 592 := ⟨at_589, rfl⟩
theorem D52_592 : Dj code 592 (.ifCond .eq 159) 159 595 751 := ⟨at_592, rfl, by decide, by decide⟩
theorem D52_595 : Dc code 595 (.aload 13) 2 597 := ⟨at_595, rfl⟩
theorem D52_597 : Dc code 597 (.iload 19) 2 599 := ⟨at_597, rfl⟩
theorem D52_599 : Dc code 599 (.lload 15) 2 601 := ⟨at_599, rfl⟩
theorem D52_601 : Dc code 601 (.bipush 11) 2 603 := ⟨at_601, rfl⟩
theorem D52_603 : Dc code 603 (.iload 17) 2 605 := ⟨at_603, rfl⟩
theorem D52_605 : Dc code 605 (.ldc2_w 63) 3 608 := ⟨at_605, rfl⟩
theorem D52_608 : Dc code 608 (.invokestatic 39) 3 611 := ⟨at_608, rfl⟩
theorem D52_611 : Dj code 611 (.ifCond .eq 140) 140 614 751 := ⟨at_611, rfl, by decide, by decide⟩
theorem D52_614 : Dc code 614 (.aload 13) 2 616 := ⟨at_614, rfl⟩
theorem D52_616 : Dc code 616 (.iload 19) 2 618 := ⟨at_616, rfl⟩
theorem D52_618 : Dc code 618 (.lload 15) 2 620 := ⟨at_618, rfl⟩
theorem D52_620 : Dc code 620 (.bipush 12) 2 622 := ⟨at_620, rfl⟩
theorem D52_622 : Dc code 622 (.iload 17) 2 624 := ⟨at_622, rfl⟩
theorem D52_624 : Dc code 624 (.ldc2_w 65) 3 627 := ⟨at_624, rfl⟩
theorem D52_627 : Dc code 627 (.invokestatic 39) 3 630 := ⟨at_627, rfl⟩
theorem D52_630 : Dj code 630 (.ifCond .eq 121) 121 633 751 := ⟨at_630, rfl, by decide, by decide⟩
theorem D52_633 : Dc code 633 (.aload 13) 2 635 := ⟨at_633, rfl⟩
theorem D52_635 : Dc code 635 (.iload 19) 2 637 := ⟨at_635, rfl⟩
theorem D52_637 : Dc code 637 (.lload 15) 2 639 := ⟨at_637, rfl⟩
theorem D52_639 : Dc code 639 (.bipush 13) 2 641 := ⟨at_639, rfl⟩
theorem D52_641 : Dc code 641 (.iload 17) 2 643 := ⟨at_641, rfl⟩
theorem D52_643 : Dc code 643 (.ldc2_w 67) 3 646 := ⟨at_643, rfl⟩
theorem D52_646 : Dc code 646 (.invokestatic 39) 3 649 := ⟨at_646, rfl⟩
theorem D52_649 : Dj code 649 (.ifCond .eq 102) 102 652 751 := ⟨at_649, rfl, by decide, by decide⟩
theorem D52_652 : Dc code 652 (.aload 13) 2 654 := ⟨at_652, rfl⟩
theorem D52_654 : Dc code 654 (.iload 19) 2 656 := ⟨at_654, rfl⟩
theorem D52_656 : Dc code 656 (.lload 15) 2 658 := ⟨at_656, rfl⟩
theorem D52_658 : Dc code 658 (.bipush 14) 2 660 := ⟨at_658, rfl⟩
theorem D52_660 : Dc code 660 (.iload 17) 2 662 := ⟨at_660, rfl⟩
theorem D52_662 : Dc code 662 (.ldc2_w 69) 3 665 := ⟨at_662, rfl⟩
theorem D52_665 : Dc code 665 (.invokestatic 39) 3 668 := ⟨at_665, rfl⟩
theorem D52_668 : Dj code 668 (.ifCond .eq 83) 83 671 751 := ⟨at_668, rfl, by decide, by decide⟩
theorem D52_671 : Dc code 671 (.aload 13) 2 673 := ⟨at_671, rfl⟩
theorem D52_673 : Dc code 673 (.iload 19) 2 675 := ⟨at_673, rfl⟩
theorem D52_675 : Dc code 675 (.lload 15) 2 677 := ⟨at_675, rfl⟩
theorem D52_677 : Dc code 677 (.bipush 15) 2 679 := ⟨at_677, rfl⟩
theorem D52_679 : Dc code 679 (.iload 17) 2 681 := ⟨at_679, rfl⟩
theorem D52_681 : Dc code 681 (.ldc2_w 71) 3 684 := ⟨at_681, rfl⟩
theorem D52_684 : Dc code 684 (.invokestatic 39) 3 687 := ⟨at_684, rfl⟩
theorem D52_687 : Dj code 687 (.ifCond .eq 64) 64 690 751 := ⟨at_687, rfl, by decide, by decide⟩
theorem D52_690 : Dc code 690 (.aload 13) 2 692 := ⟨at_690, rfl⟩
theorem D52_692 : Dc code 692 (.iload 19) 2 694 := ⟨at_692, rfl⟩
theorem D52_694 : Dc code 694 (.lload 15) 2 696 := ⟨at_694, rfl⟩
theorem D52_696 : Dc code 696 (.bipush 16) 2 698 := ⟨at_696, rfl⟩
theorem D52_698 : Dc code 698 (.iload 17) 2 700 := ⟨at_698, rfl⟩
theorem D52_700 : Dc code 700 (.ldc2_w 73) 3 703 := ⟨at_700, rfl⟩
theorem D52_703 : Dc code 703 (.invokestatic 39) 3 706 := ⟨at_703, rfl⟩
theorem D52_706 : Dj code 706 (.ifCond .eq 45) 45 709 751 := ⟨at_706, rfl, by decide, by decide⟩
theorem D52_709 : Dc code 709 (.aload 13) 2 711 := ⟨at_709, rfl⟩
theorem D52_711 : Dc code 711 (.iload 19) 2 713 := ⟨at_711, rfl⟩
theorem D52_713 : Dc code 713 (.lload 15) 2 715 := ⟨at_713, rfl⟩
theorem D52_715 : Dc code 715 (.bipush 17) 2 717 := ⟨at_715, rfl⟩
theorem D52_717 : Dc code 717 (.iload 17) 2 719 := ⟨at_717, rfl⟩
theorem D52_719 : Dc code 719 (.ldc2_w 75) 3 722 := ⟨at_719, rfl⟩
theorem D52_722 : Dc code 722 (.invokestatic 39) 3 725 := ⟨at_722, rfl⟩
theorem D52_725 : Dj code 725 (.ifCond .eq 26) 26 728 751 := ⟨at_725, rfl, by decide, by decide⟩
theorem D52_728 : Dc code 728 (.aload 13) 2 730 := ⟨at_728, rfl⟩
theorem D52_730 : Dc code 730 (.iload 19) 2 732 := ⟨at_730, rfl⟩
theorem D52_732 : Dc code 732 (.lload 15) 2 734 := ⟨at_732, rfl⟩
theorem D52_734 : Dc code 734 (.bipush 18) 2 736 := ⟨at_734, rfl⟩
theorem D52_736 : Dc code 736 (.iload 17) 2 738 := ⟨at_736, rfl⟩
theorem D52_738 : Dc code 738 (.ldc2_w 77) 3 741 := ⟨at_738, rfl⟩
theorem D52_741 : Dc code 741 (.invokestatic 39) 3 744 := ⟨at_741, rfl⟩
theorem D52_744 : Dj code 744 (.ifCond .eq 7) 7 747 751 := ⟨at_744, rfl, by decide, by decide⟩
theorem D52_747 : Dc code 747 (.iconst 1) 1 748 := ⟨at_747, rfl⟩
theorem D52_748 : Dj code 748 (.goto 4) 4 751 752 := ⟨at_748, rfl, by decide, by decide⟩
theorem D52_752 : Dc code 752 (.istore 20) 2 754 := ⟨at_752, rfl⟩
theorem D52_754 : Dc code 754 (.iload 20) 2 756 := ⟨at_754, rfl⟩
theorem D52_756 : Dj code 756 (.ifCond .eq 33) 33 759 789 := ⟨at_756, rfl, by decide, by decide⟩
theorem D52_759 : Dc code 759 (.aload 13) 2 761 := ⟨at_759, rfl⟩
theorem D52_761 : Dc code 761 (.iload 19) 2 763 := ⟨at_761, rfl⟩
theorem D52_763 : Dc code 763 (.bipush 58) 2 765 := ⟨at_763, rfl⟩
theorem D52_765 : Dc code 765 (.invokestatic 35) 3 768 := ⟨at_765, rfl⟩
theorem own_d106 {p8 v0 v1 v2 v3 v4 : Int32} {q1 : Int64} (e0 : v0 = (p8 + 7)) (e1 : v1 = (v0 + 1)) (e2 : v2 = (sszL q1)) (e3 : v3 = (v2 - 1)) (e4 : v4 = (v1 + v3)) (hq0 : ¬ (p8 < 0)) (hq1 : p8 < 3) (hq2 : q1 < (0 : Int64)) : ¬ (v4 < 0) := by
  have := rng32 p8
  have : (0 : Int32).toInt = 0 := by decide
  have := i_nlt hq0
  have : (3 : Int32).toInt = 3 := by decide
  have := i_lt hq1
  have := rng64 q1
  have : (0 : Int64).toInt = 0 := by decide
  have := j_lt hq2
  have : (7 : Int32).toInt = 7 := by decide
  have := e_iaddN e0 (by omega)
  have : (1 : Int32).toInt = 1 := by decide
  have := e_iaddN e1 (by omega)
  have := e_sszL e2
  have := e_isubN e3 (by omega)
  have := e_iaddN e4 (by omega)
  exact o_nlt (by omega)
theorem own_d107 {p8 p9 v0 v1 v2 v3 v4 v5 v6 v7 v8 v9 : Int32} {q1 : Int64} (e0 : v0 = (p8 + 7)) (e1 : v1 = (v0 + 1)) (e2 : v2 = (sszL q1)) (e3 : v3 = (v2 - 1)) (e4 : v4 = (v1 + v3)) (e5 : v5 = (0 + p8)) (e6 : v6 = (v5 + 7)) (e7 : v7 = (v6 + v2)) (e8 : v8 = (v7 + 2)) (e9 : v9 = (v8 + p9)) (hq0 : ¬ (p8 < 0)) (hq1 : p8 < 3) (hq2 : ¬ (p9 < 0)) (hq3 : p9 < 3) (hq4 : q1 < (0 : Int64)) : v4 < v9 := by
  have := rng32 p8
  have : (0 : Int32).toInt = 0 := by decide
  have := i_nlt hq0
  have : (3 : Int32).toInt = 3 := by decide
  have := i_lt hq1
  have := rng32 p9
  have := i_nlt hq2
  have := i_lt hq3
  have := rng64 q1
  have : (0 : Int64).toInt = 0 := by decide
  have := j_lt hq4
  have : (7 : Int32).toInt = 7 := by decide
  have := e_iaddN e0 (by omega)
  have : (1 : Int32).toInt = 1 := by decide
  have := e_iaddN e1 (by omega)
  have := e_sszL e2
  have := e_isubN e3 (by omega)
  have := e_iaddN e4 (by omega)
  have := e_iaddN e5 (by omega)
  have := e_iaddN e6 (by omega)
  have := e_iaddN e7 (by omega)
  have : (2 : Int32).toInt = 2 := by decide
  have := e_iaddN e8 (by omega)
  have := e_iaddN e9 (by omega)
  exact o_lt (by omega)
theorem D52_768 : Dj code 768 (.ifCond .eq 21) 21 771 789 := ⟨at_768, rfl, by decide, by decide⟩
theorem D52_771 : Dc code 771 (.aload 13) 2 773 := ⟨at_771, rfl⟩
theorem D52_773 : Dc code 773 (.iload 19) 2 775 := ⟨at_773, rfl⟩
theorem D52_775 : Dc code 775 (.iconst 1) 1 776 := ⟨at_775, rfl⟩
theorem D52_776 : Dc code 776 .iadd 1 777 := ⟨at_776, rfl⟩
theorem D52_777 : Dc code 777 (.bipush 32) 2 779 := ⟨at_777, rfl⟩
theorem D52_779 : Dc code 779 (.invokestatic 35) 3 782 := ⟨at_779, rfl⟩
theorem own_d108 {p8 v0 v1 v2 v3 v4 v5 : Int32} {q1 : Int64} (e0 : v0 = (p8 + 7)) (e1 : v1 = (v0 + 1)) (e2 : v2 = (sszL q1)) (e3 : v3 = (v2 - 1)) (e4 : v4 = (v1 + v3)) (e5 : v5 = (v4 + 1)) (hq0 : ¬ (p8 < 0)) (hq1 : p8 < 3) (hq2 : q1 < (0 : Int64)) : ¬ (v5 < 0) := by
  have := rng32 p8
  have : (0 : Int32).toInt = 0 := by decide
  have := i_nlt hq0
  have : (3 : Int32).toInt = 3 := by decide
  have := i_lt hq1
  have := rng64 q1
  have : (0 : Int64).toInt = 0 := by decide
  have := j_lt hq2
  have : (7 : Int32).toInt = 7 := by decide
  have := e_iaddN e0 (by omega)
  have : (1 : Int32).toInt = 1 := by decide
  have := e_iaddN e1 (by omega)
  have := e_sszL e2
  have := e_isubN e3 (by omega)
  have := e_iaddN e4 (by omega)
  have := e_iaddN e5 (by omega)
  exact o_nlt (by omega)
theorem own_d109 {p8 p9 v0 v1 v2 v3 v4 v5 v6 v7 v8 v9 v10 : Int32} {q1 : Int64} (e0 : v0 = (p8 + 7)) (e1 : v1 = (v0 + 1)) (e2 : v2 = (sszL q1)) (e3 : v3 = (v2 - 1)) (e4 : v4 = (v1 + v3)) (e5 : v5 = (v4 + 1)) (e6 : v6 = (0 + p8)) (e7 : v7 = (v6 + 7)) (e8 : v8 = (v7 + v2)) (e9 : v9 = (v8 + 2)) (e10 : v10 = (v9 + p9)) (hq0 : ¬ (p8 < 0)) (hq1 : p8 < 3) (hq2 : ¬ (p9 < 0)) (hq3 : p9 < 3) (hq4 : q1 < (0 : Int64)) : v5 < v10 := by
  have := rng32 p8
  have : (0 : Int32).toInt = 0 := by decide
  have := i_nlt hq0
  have : (3 : Int32).toInt = 3 := by decide
  have := i_lt hq1
  have := rng32 p9
  have := i_nlt hq2
  have := i_lt hq3
  have := rng64 q1
  have : (0 : Int64).toInt = 0 := by decide
  have := j_lt hq4
  have : (7 : Int32).toInt = 7 := by decide
  have := e_iaddN e0 (by omega)
  have : (1 : Int32).toInt = 1 := by decide
  have := e_iaddN e1 (by omega)
  have := e_sszL e2
  have := e_isubN e3 (by omega)
  have := e_iaddN e4 (by omega)
  have := e_iaddN e5 (by omega)
  have := e_iaddN e6 (by omega)
  have := e_iaddN e7 (by omega)
  have := e_iaddN e8 (by omega)
  have : (2 : Int32).toInt = 2 := by decide
  have := e_iaddN e9 (by omega)
  have := e_iaddN e10 (by omega)
  exact o_lt (by omega)
theorem D52_782 : Dj code 782 (.ifCond .eq 7) 7 785 789 := ⟨at_782, rfl, by decide, by decide⟩
theorem D52_785 : Dc code 785 (.iconst 1) 1 786 := ⟨at_785, rfl⟩
theorem D52_786 : Dj code 786 (.goto 4) 4 789 790 := ⟨at_786, rfl, by decide, by decide⟩
theorem D52_790 : Dc code 790 (.istore 20) 2 792 := ⟨at_790, rfl⟩
theorem D52_792 : Dc code 792 (.iload 20) 2 794 := ⟨at_792, rfl⟩
theorem D52_794 : Dj code 794 (.ifCond .eq 47) 47 797 841 := ⟨at_794, rfl, by decide, by decide⟩
theorem D52_797 : Dc code 797 (.iload 7) 2 799 := ⟨at_797, rfl⟩
theorem D52_799 : Dc code 799 (.iconst 1) 1 800 := ⟨at_799, rfl⟩
theorem D52_800 : Dj code 800 (.if_icmp .lt 17) 17 803 817 := ⟨at_800, rfl, by decide, by decide⟩
theorem D52_803 : Dc code 803 (.aload 13) 2 805 := ⟨at_803, rfl⟩
theorem D52_805 : Dc code 805 (.iload 19) 2 807 := ⟨at_805, rfl⟩
theorem D52_807 : Dc code 807 (.iconst 2) 1 808 := ⟨at_807, rfl⟩
theorem D52_808 : Dc code 808 .iadd 1 809 := ⟨at_808, rfl⟩
theorem D52_809 : Dc code 809 (.iload 8) 2 811 := ⟨at_809, rfl⟩
theorem D52_811 : Dc code 811 (.invokestatic 35) 3 814 := ⟨at_811, rfl⟩
theorem own_d110 {p8 v0 v1 v2 v3 v4 v5 : Int32} {q1 : Int64} (e0 : v0 = (p8 + 7)) (e1 : v1 = (v0 + 1)) (e2 : v2 = (sszL q1)) (e3 : v3 = (v2 - 1)) (e4 : v4 = (v1 + v3)) (e5 : v5 = (v4 + 2)) (hq0 : ¬ (p8 < 0)) (hq1 : p8 < 3) (hq2 : q1 < (0 : Int64)) : ¬ (v5 < 0) := by
  have := rng32 p8
  have : (0 : Int32).toInt = 0 := by decide
  have := i_nlt hq0
  have : (3 : Int32).toInt = 3 := by decide
  have := i_lt hq1
  have := rng64 q1
  have : (0 : Int64).toInt = 0 := by decide
  have := j_lt hq2
  have : (7 : Int32).toInt = 7 := by decide
  have := e_iaddN e0 (by omega)
  have : (1 : Int32).toInt = 1 := by decide
  have := e_iaddN e1 (by omega)
  have := e_sszL e2
  have := e_isubN e3 (by omega)
  have := e_iaddN e4 (by omega)
  have : (2 : Int32).toInt = 2 := by decide
  have := e_iaddN e5 (by omega)
  exact o_nlt (by omega)
theorem own_d111 {p8 p9 v0 v1 v2 v3 v4 v5 v6 v7 v8 v9 v10 : Int32} {q1 : Int64} (e0 : v0 = (p8 + 7)) (e1 : v1 = (v0 + 1)) (e2 : v2 = (sszL q1)) (e3 : v3 = (v2 - 1)) (e4 : v4 = (v1 + v3)) (e5 : v5 = (v4 + 2)) (e6 : v6 = (0 + p8)) (e7 : v7 = (v6 + 7)) (e8 : v8 = (v7 + v2)) (e9 : v9 = (v8 + 2)) (e10 : v10 = (v9 + p9)) (hq0 : ¬ (p8 < 0)) (hq1 : p8 < 3) (hq2 : ¬ (p9 < 0)) (hq3 : p9 < 3) (hq4 : q1 < (0 : Int64)) (hq5 : ¬ (p9 < 1)) : v5 < v10 := by
  have := rng32 p8
  have : (0 : Int32).toInt = 0 := by decide
  have := i_nlt hq0
  have : (3 : Int32).toInt = 3 := by decide
  have := i_lt hq1
  have := rng32 p9
  have := i_nlt hq2
  have := i_lt hq3
  have := rng64 q1
  have : (0 : Int64).toInt = 0 := by decide
  have := j_lt hq4
  have : (1 : Int32).toInt = 1 := by decide
  have := i_nlt hq5
  have : (7 : Int32).toInt = 7 := by decide
  have := e_iaddN e0 (by omega)
  have := e_iaddN e1 (by omega)
  have := e_sszL e2
  have := e_isubN e3 (by omega)
  have := e_iaddN e4 (by omega)
  have : (2 : Int32).toInt = 2 := by decide
  have := e_iaddN e5 (by omega)
  have := e_iaddN e6 (by omega)
  have := e_iaddN e7 (by omega)
  have := e_iaddN e8 (by omega)
  have := e_iaddN e9 (by omega)
  have := e_iaddN e10 (by omega)
  exact o_lt (by omega)
theorem own_d112 {p8 p9 v0 v1 v2 v3 v4 v5 : Int32} {q1 : Int64} (e0 : v0 = (0 + p8)) (e1 : v1 = (v0 + 7)) (e2 : v2 = (sszL q1)) (e3 : v3 = (v1 + v2)) (e4 : v4 = (v3 + 2)) (e5 : v5 = (v4 + p9)) (hq0 : ¬ (p8 < 0)) (hq1 : p8 < 3) (hq2 : ¬ (p9 < 0)) (hq3 : p9 < 3) (hq4 : q1 < (0 : Int64)) (hq5 : ¬ (p9 < 1)) : v5 < 1000 := by
  have := rng32 p8
  have : (0 : Int32).toInt = 0 := by decide
  have := i_nlt hq0
  have : (3 : Int32).toInt = 3 := by decide
  have := i_lt hq1
  have := rng32 p9
  have := i_nlt hq2
  have := i_lt hq3
  have := rng64 q1
  have : (0 : Int64).toInt = 0 := by decide
  have := j_lt hq4
  have : (1 : Int32).toInt = 1 := by decide
  have := i_nlt hq5
  have := e_iaddN e0 (by omega)
  have : (7 : Int32).toInt = 7 := by decide
  have := e_iaddN e1 (by omega)
  have := e_sszL e2
  have := e_iaddN e3 (by omega)
  have : (2 : Int32).toInt = 2 := by decide
  have := e_iaddN e4 (by omega)
  have := e_iaddN e5 (by omega)
  have : (1000 : Int32).toInt = 1000 := by decide
  exact o_lt (by omega)
theorem own_d113 {p8 p9 v0 v1 v2 v3 v4 v5 : Int32} {q1 : Int64} (e0 : v0 = (0 + p8)) (e1 : v1 = (v0 + 7)) (e2 : v2 = (sszL q1)) (e3 : v3 = (v1 + v2)) (e4 : v4 = (v3 + 2)) (e5 : v5 = (v4 + p9)) (hq0 : ¬ (p8 < 0)) (hq1 : p8 < 3) (hq2 : ¬ (p9 < 0)) (hq3 : p9 < 3) (hq4 : q1 < (0 : Int64)) (hq5 : ¬ (p9 < 1)) : ¬ (v5 < 0) := by
  have := rng32 p8
  have : (0 : Int32).toInt = 0 := by decide
  have := i_nlt hq0
  have : (3 : Int32).toInt = 3 := by decide
  have := i_lt hq1
  have := rng32 p9
  have := i_nlt hq2
  have := i_lt hq3
  have := rng64 q1
  have : (0 : Int64).toInt = 0 := by decide
  have := j_lt hq4
  have : (1 : Int32).toInt = 1 := by decide
  have := i_nlt hq5
  have := e_iaddN e0 (by omega)
  have : (7 : Int32).toInt = 7 := by decide
  have := e_iaddN e1 (by omega)
  have := e_sszL e2
  have := e_iaddN e3 (by omega)
  have : (2 : Int32).toInt = 2 := by decide
  have := e_iaddN e4 (by omega)
  have := e_iaddN e5 (by omega)
  exact o_nlt (by omega)
theorem D52_814 : Dj code 814 (.ifCond .eq 27) 27 817 841 := ⟨at_814, rfl, by decide, by decide⟩
theorem D52_817 : Dc code 817 (.iload 7) 2 819 := ⟨at_817, rfl⟩
theorem D52_819 : Dc code 819 (.iconst 2) 1 820 := ⟨at_819, rfl⟩
theorem D52_820 : Dj code 820 (.if_icmp .lt 17) 17 823 837 := ⟨at_820, rfl, by decide, by decide⟩
theorem D52_823 : Dc code 823 (.aload 13) 2 825 := ⟨at_823, rfl⟩
theorem D52_825 : Dc code 825 (.iload 19) 2 827 := ⟨at_825, rfl⟩
theorem D52_827 : Dc code 827 (.iconst 3) 1 828 := ⟨at_827, rfl⟩
theorem D52_828 : Dc code 828 .iadd 1 829 := ⟨at_828, rfl⟩
theorem D52_829 : Dc code 829 (.iload 9) 2 831 := ⟨at_829, rfl⟩
theorem D52_831 : Dc code 831 (.invokestatic 35) 3 834 := ⟨at_831, rfl⟩
theorem own_d114 {p8 v0 v1 v2 v3 v4 v5 : Int32} {q1 : Int64} (e0 : v0 = (p8 + 7)) (e1 : v1 = (v0 + 1)) (e2 : v2 = (sszL q1)) (e3 : v3 = (v2 - 1)) (e4 : v4 = (v1 + v3)) (e5 : v5 = (v4 + 3)) (hq0 : ¬ (p8 < 0)) (hq1 : p8 < 3) (hq2 : q1 < (0 : Int64)) : ¬ (v5 < 0) := by
  have := rng32 p8
  have : (0 : Int32).toInt = 0 := by decide
  have := i_nlt hq0
  have : (3 : Int32).toInt = 3 := by decide
  have := i_lt hq1
  have := rng64 q1
  have : (0 : Int64).toInt = 0 := by decide
  have := j_lt hq2
  have : (7 : Int32).toInt = 7 := by decide
  have := e_iaddN e0 (by omega)
  have : (1 : Int32).toInt = 1 := by decide
  have := e_iaddN e1 (by omega)
  have := e_sszL e2
  have := e_isubN e3 (by omega)
  have := e_iaddN e4 (by omega)
  have := e_iaddN e5 (by omega)
  exact o_nlt (by omega)
theorem own_d115 {p8 p9 v0 v1 v2 v3 v4 v5 v6 v7 v8 v9 v10 : Int32} {q1 : Int64} (e0 : v0 = (p8 + 7)) (e1 : v1 = (v0 + 1)) (e2 : v2 = (sszL q1)) (e3 : v3 = (v2 - 1)) (e4 : v4 = (v1 + v3)) (e5 : v5 = (v4 + 3)) (e6 : v6 = (0 + p8)) (e7 : v7 = (v6 + 7)) (e8 : v8 = (v7 + v2)) (e9 : v9 = (v8 + 2)) (e10 : v10 = (v9 + p9)) (hq0 : ¬ (p8 < 0)) (hq1 : p8 < 3) (hq2 : ¬ (p9 < 0)) (hq3 : p9 < 3) (hq4 : q1 < (0 : Int64)) (hq5 : ¬ (p9 < 2)) : v5 < v10 := by
  have := rng32 p8
  have : (0 : Int32).toInt = 0 := by decide
  have := i_nlt hq0
  have : (3 : Int32).toInt = 3 := by decide
  have := i_lt hq1
  have := rng32 p9
  have := i_nlt hq2
  have := i_lt hq3
  have := rng64 q1
  have : (0 : Int64).toInt = 0 := by decide
  have := j_lt hq4
  have : (2 : Int32).toInt = 2 := by decide
  have := i_nlt hq5
  have : (7 : Int32).toInt = 7 := by decide
  have := e_iaddN e0 (by omega)
  have : (1 : Int32).toInt = 1 := by decide
  have := e_iaddN e1 (by omega)
  have := e_sszL e2
  have := e_isubN e3 (by omega)
  have := e_iaddN e4 (by omega)
  have := e_iaddN e5 (by omega)
  have := e_iaddN e6 (by omega)
  have := e_iaddN e7 (by omega)
  have := e_iaddN e8 (by omega)
  have := e_iaddN e9 (by omega)
  have := e_iaddN e10 (by omega)
  exact o_lt (by omega)
theorem own_d116 {p8 p9 v0 v1 v2 v3 v4 v5 : Int32} {q1 : Int64} (e0 : v0 = (0 + p8)) (e1 : v1 = (v0 + 7)) (e2 : v2 = (sszL q1)) (e3 : v3 = (v1 + v2)) (e4 : v4 = (v3 + 2)) (e5 : v5 = (v4 + p9)) (hq0 : ¬ (p8 < 0)) (hq1 : p8 < 3) (hq2 : ¬ (p9 < 0)) (hq3 : p9 < 3) (hq4 : q1 < (0 : Int64)) (hq5 : ¬ (p9 < 2)) : v5 < 1000 := by
  have := rng32 p8
  have : (0 : Int32).toInt = 0 := by decide
  have := i_nlt hq0
  have : (3 : Int32).toInt = 3 := by decide
  have := i_lt hq1
  have := rng32 p9
  have := i_nlt hq2
  have := i_lt hq3
  have := rng64 q1
  have : (0 : Int64).toInt = 0 := by decide
  have := j_lt hq4
  have : (2 : Int32).toInt = 2 := by decide
  have := i_nlt hq5
  have := e_iaddN e0 (by omega)
  have : (7 : Int32).toInt = 7 := by decide
  have := e_iaddN e1 (by omega)
  have := e_sszL e2
  have := e_iaddN e3 (by omega)
  have := e_iaddN e4 (by omega)
  have := e_iaddN e5 (by omega)
  have : (1000 : Int32).toInt = 1000 := by decide
  exact o_lt (by omega)
theorem own_d117 {p8 p9 v0 v1 v2 v3 v4 v5 : Int32} {q1 : Int64} (e0 : v0 = (0 + p8)) (e1 : v1 = (v0 + 7)) (e2 : v2 = (sszL q1)) (e3 : v3 = (v1 + v2)) (e4 : v4 = (v3 + 2)) (e5 : v5 = (v4 + p9)) (hq0 : ¬ (p8 < 0)) (hq1 : p8 < 3) (hq2 : ¬ (p9 < 0)) (hq3 : p9 < 3) (hq4 : q1 < (0 : Int64)) (hq5 : ¬ (p9 < 2)) : ¬ (v5 < 0) := by
  have := rng32 p8
  have : (0 : Int32).toInt = 0 := by decide
  have := i_nlt hq0
  have : (3 : Int32).toInt = 3 := by decide
  have := i_lt hq1
  have := rng32 p9
  have := i_nlt hq2
  have := i_lt hq3
  have := rng64 q1
  have : (0 : Int64).toInt = 0 := by decide
  have := j_lt hq4
  have : (2 : Int32).toInt = 2 := by decide
  have := i_nlt hq5
  have := e_iaddN e0 (by omega)
  have : (7 : Int32).toInt = 7 := by decide
  have := e_iaddN e1 (by omega)
  have := e_sszL e2
  have := e_iaddN e3 (by omega)
  have := e_iaddN e4 (by omega)
  have := e_iaddN e5 (by omega)
  exact o_nlt (by omega)
theorem D52_834 : Dj code 834 (.ifCond .eq 7) 7 837 841 := ⟨at_834, rfl, by decide, by decide⟩
theorem D52_837 : Dc code 837 (.iconst 1) 1 838 := ⟨at_837, rfl⟩
theorem D52_838 : Dj code 838 (.goto 4) 4 841 842 := ⟨at_838, rfl, by decide, by decide⟩
theorem D52_842 : Dc code 842 (.istore 20) 2 844 := ⟨at_842, rfl⟩
theorem D52_844 : Dc code 844 (.iload 20) 2 846 := ⟨at_844, rfl⟩
theorem D52_846 : Dc code 846 .ireturn 1 847 := ⟨at_846, rfl⟩
theorem D52_139 : Dc code 139 (.iconst 0) 1 140 := ⟨at_139, rfl⟩
theorem D52_152 : Dc code 152 (.lload_n 2) 1 153 := ⟨at_152, rfl⟩
theorem D52_153 : Dc code 153 .lneg 1 154 := ⟨at_153, rfl⟩
theorem own_d118 {p8 p9 v0 v1 v2 v3 v4 v5 : Int32} {q1 : Int64} (e0 : v0 = (0 + p8)) (e1 : v1 = (v0 + 7)) (e2 : v2 = (sszL q1)) (e3 : v3 = (v1 + v2)) (e4 : v4 = (v3 + 2)) (e5 : v5 = (v4 + p9)) (hq0 : ¬ (p8 < 0)) (hq1 : p8 < 3) (hq2 : ¬ (p9 < 0)) (hq3 : p9 < 3) (hq4 : ¬ (q1 < (0 : Int64))) : ¬ (v5 < 0) := by
  have := rng32 p8
  have : (0 : Int32).toInt = 0 := by decide
  have := i_nlt hq0
  have : (3 : Int32).toInt = 3 := by decide
  have := i_lt hq1
  have := rng32 p9
  have := i_nlt hq2
  have := i_lt hq3
  have := rng64 q1
  have : (0 : Int64).toInt = 0 := by decide
  have := j_nlt hq4
  have := e_iaddN e0 (by omega)
  have : (7 : Int32).toInt = 7 := by decide
  have := e_iaddN e1 (by omega)
  have := e_sszL e2
  have := e_iaddN e3 (by omega)
  have : (2 : Int32).toInt = 2 := by decide
  have := e_iaddN e4 (by omega)
  have := e_iaddN e5 (by omega)
  exact o_nlt (by omega)
theorem own_d119 {p8 p9 v0 v1 v2 v3 v4 v5 v6 v7 v8 v9 v10 : Int32} {q1 : Int64} (e0 : v0 = (0 + p8)) (e1 : v1 = (v0 + 7)) (e2 : v2 = (sszL q1)) (e3 : v3 = (v1 + v2)) (e4 : v4 = (v3 + 2)) (e5 : v5 = (v4 + p9)) (e6 : v6 = (p8 + 7)) (e7 : v7 = (v6 + 0)) (e8 : v8 = (v7 + v2)) (e9 : v9 = (v8 + 2)) (e10 : v10 = (v9 + p9)) (hq0 : ¬ (p8 < 0)) (hq1 : p8 < 3) (hq2 : ¬ (p9 < 0)) (hq3 : p9 < 3) (hq4 : ¬ (q1 < (0 : Int64))) : v5 = v10 := by
  have := rng32 p8
  have : (0 : Int32).toInt = 0 := by decide
  have := i_nlt hq0
  have : (3 : Int32).toInt = 3 := by decide
  have := i_lt hq1
  have := rng32 p9
  have := i_nlt hq2
  have := i_lt hq3
  have := rng64 q1
  have : (0 : Int64).toInt = 0 := by decide
  have := j_nlt hq4
  have := e_iaddN e0 (by omega)
  have : (7 : Int32).toInt = 7 := by decide
  have := e_iaddN e1 (by omega)
  have := e_sszL e2
  have := e_iaddN e3 (by omega)
  have : (2 : Int32).toInt = 2 := by decide
  have := e_iaddN e4 (by omega)
  have := e_iaddN e5 (by omega)
  have := e_iaddN e6 (by omega)
  have := e_iaddN e7 (by omega)
  have := e_iaddN e8 (by omega)
  have := e_iaddN e9 (by omega)
  have := e_iaddN e10 (by omega)
  exact o_eq (by omega)
theorem own_d120 {p8 p9 v0 v1 v2 v3 v4 v5 : Int32} {q1 : Int64} (e0 : v0 = (0 + p8)) (e1 : v1 = (v0 + 7)) (e2 : v2 = (sszL q1)) (e3 : v3 = (v1 + v2)) (e4 : v4 = (v3 + 2)) (e5 : v5 = (v4 + p9)) (hq0 : ¬ (p8 < 0)) (hq1 : p8 < 3) (hq2 : ¬ (p9 < 0)) (hq3 : p9 < 3) (hq4 : ¬ (q1 < (0 : Int64))) (hq5 : ¬ (p8 < 1)) : 0 < v5 := by
  have := rng32 p8
  have : (0 : Int32).toInt = 0 := by decide
  have := i_nlt hq0
  have : (3 : Int32).toInt = 3 := by decide
  have := i_lt hq1
  have := rng32 p9
  have := i_nlt hq2
  have := i_lt hq3
  have := rng64 q1
  have : (0 : Int64).toInt = 0 := by decide
  have := j_nlt hq4
  have : (1 : Int32).toInt = 1 := by decide
  have := i_nlt hq5
  have := e_iaddN e0 (by omega)
  have : (7 : Int32).toInt = 7 := by decide
  have := e_iaddN e1 (by omega)
  have := e_sszL e2
  have := e_iaddN e3 (by omega)
  have : (2 : Int32).toInt = 2 := by decide
  have := e_iaddN e4 (by omega)
  have := e_iaddN e5 (by omega)
  exact o_lt (by omega)
theorem own_d121 {p8 p9 v0 v1 v2 v3 v4 v5 : Int32} {q1 : Int64} (e0 : v0 = (0 + p8)) (e1 : v1 = (v0 + 7)) (e2 : v2 = (sszL q1)) (e3 : v3 = (v1 + v2)) (e4 : v4 = (v3 + 2)) (e5 : v5 = (v4 + p9)) (hq0 : ¬ (p8 < 0)) (hq1 : p8 < 3) (hq2 : ¬ (p9 < 0)) (hq3 : p9 < 3) (hq4 : ¬ (q1 < (0 : Int64))) (hq5 : ¬ (p8 < 1)) : v5 < 1000 := by
  have := rng32 p8
  have : (0 : Int32).toInt = 0 := by decide
  have := i_nlt hq0
  have : (3 : Int32).toInt = 3 := by decide
  have := i_lt hq1
  have := rng32 p9
  have := i_nlt hq2
  have := i_lt hq3
  have := rng64 q1
  have : (0 : Int64).toInt = 0 := by decide
  have := j_nlt hq4
  have : (1 : Int32).toInt = 1 := by decide
  have := i_nlt hq5
  have := e_iaddN e0 (by omega)
  have : (7 : Int32).toInt = 7 := by decide
  have := e_iaddN e1 (by omega)
  have := e_sszL e2
  have := e_iaddN e3 (by omega)
  have : (2 : Int32).toInt = 2 := by decide
  have := e_iaddN e4 (by omega)
  have := e_iaddN e5 (by omega)
  have : (1000 : Int32).toInt = 1000 := by decide
  exact o_lt (by omega)
theorem own_d122 {p8 p9 v0 v1 v2 v3 v4 v5 : Int32} {q1 : Int64} (e0 : v0 = (0 + p8)) (e1 : v1 = (v0 + 7)) (e2 : v2 = (sszL q1)) (e3 : v3 = (v1 + v2)) (e4 : v4 = (v3 + 2)) (e5 : v5 = (v4 + p9)) (hq0 : ¬ (p8 < 0)) (hq1 : p8 < 3) (hq2 : ¬ (p9 < 0)) (hq3 : p9 < 3) (hq4 : ¬ (q1 < (0 : Int64))) (hq5 : ¬ (p8 < 1)) : ¬ (v5 < 0) := by
  have := rng32 p8
  have : (0 : Int32).toInt = 0 := by decide
  have := i_nlt hq0
  have : (3 : Int32).toInt = 3 := by decide
  have := i_lt hq1
  have := rng32 p9
  have := i_nlt hq2
  have := i_lt hq3
  have := rng64 q1
  have : (0 : Int64).toInt = 0 := by decide
  have := j_nlt hq4
  have : (1 : Int32).toInt = 1 := by decide
  have := i_nlt hq5
  have := e_iaddN e0 (by omega)
  have : (7 : Int32).toInt = 7 := by decide
  have := e_iaddN e1 (by omega)
  have := e_sszL e2
  have := e_iaddN e3 (by omega)
  have : (2 : Int32).toInt = 2 := by decide
  have := e_iaddN e4 (by omega)
  have := e_iaddN e5 (by omega)
  exact o_nlt (by omega)
theorem own_d123 {p8 p9 v0 v1 v2 v3 v4 v5 : Int32} {q1 : Int64} (e0 : v0 = (0 + p8)) (e1 : v1 = (v0 + 7)) (e2 : v2 = (sszL q1)) (e3 : v3 = (v1 + v2)) (e4 : v4 = (v3 + 2)) (e5 : v5 = (v4 + p9)) (hq0 : ¬ (p8 < 0)) (hq1 : p8 < 3) (hq2 : ¬ (p9 < 0)) (hq3 : p9 < 3) (hq4 : ¬ (q1 < (0 : Int64))) (hq5 : ¬ (p8 < 2)) : 1 < v5 := by
  have := rng32 p8
  have : (0 : Int32).toInt = 0 := by decide
  have := i_nlt hq0
  have : (3 : Int32).toInt = 3 := by decide
  have := i_lt hq1
  have := rng32 p9
  have := i_nlt hq2
  have := i_lt hq3
  have := rng64 q1
  have : (0 : Int64).toInt = 0 := by decide
  have := j_nlt hq4
  have : (2 : Int32).toInt = 2 := by decide
  have := i_nlt hq5
  have : (1 : Int32).toInt = 1 := by decide
  have := e_iaddN e0 (by omega)
  have : (7 : Int32).toInt = 7 := by decide
  have := e_iaddN e1 (by omega)
  have := e_sszL e2
  have := e_iaddN e3 (by omega)
  have := e_iaddN e4 (by omega)
  have := e_iaddN e5 (by omega)
  exact o_lt (by omega)
theorem own_d124 {p8 p9 v0 v1 v2 v3 v4 v5 : Int32} {q1 : Int64} (e0 : v0 = (0 + p8)) (e1 : v1 = (v0 + 7)) (e2 : v2 = (sszL q1)) (e3 : v3 = (v1 + v2)) (e4 : v4 = (v3 + 2)) (e5 : v5 = (v4 + p9)) (hq0 : ¬ (p8 < 0)) (hq1 : p8 < 3) (hq2 : ¬ (p9 < 0)) (hq3 : p9 < 3) (hq4 : ¬ (q1 < (0 : Int64))) (hq5 : ¬ (p8 < 2)) : v5 < 1000 := by
  have := rng32 p8
  have : (0 : Int32).toInt = 0 := by decide
  have := i_nlt hq0
  have : (3 : Int32).toInt = 3 := by decide
  have := i_lt hq1
  have := rng32 p9
  have := i_nlt hq2
  have := i_lt hq3
  have := rng64 q1
  have : (0 : Int64).toInt = 0 := by decide
  have := j_nlt hq4
  have : (2 : Int32).toInt = 2 := by decide
  have := i_nlt hq5
  have := e_iaddN e0 (by omega)
  have : (7 : Int32).toInt = 7 := by decide
  have := e_iaddN e1 (by omega)
  have := e_sszL e2
  have := e_iaddN e3 (by omega)
  have := e_iaddN e4 (by omega)
  have := e_iaddN e5 (by omega)
  have : (1000 : Int32).toInt = 1000 := by decide
  exact o_lt (by omega)
theorem own_d125 {p8 p9 v0 v1 v2 v3 v4 v5 : Int32} {q1 : Int64} (e0 : v0 = (0 + p8)) (e1 : v1 = (v0 + 7)) (e2 : v2 = (sszL q1)) (e3 : v3 = (v1 + v2)) (e4 : v4 = (v3 + 2)) (e5 : v5 = (v4 + p9)) (hq0 : ¬ (p8 < 0)) (hq1 : p8 < 3) (hq2 : ¬ (p9 < 0)) (hq3 : p9 < 3) (hq4 : ¬ (q1 < (0 : Int64))) (hq5 : ¬ (p8 < 2)) : ¬ (v5 < 0) := by
  have := rng32 p8
  have : (0 : Int32).toInt = 0 := by decide
  have := i_nlt hq0
  have : (3 : Int32).toInt = 3 := by decide
  have := i_lt hq1
  have := rng32 p9
  have := i_nlt hq2
  have := i_lt hq3
  have := rng64 q1
  have : (0 : Int64).toInt = 0 := by decide
  have := j_nlt hq4
  have : (2 : Int32).toInt = 2 := by decide
  have := i_nlt hq5
  have := e_iaddN e0 (by omega)
  have : (7 : Int32).toInt = 7 := by decide
  have := e_iaddN e1 (by omega)
  have := e_sszL e2
  have := e_iaddN e3 (by omega)
  have := e_iaddN e4 (by omega)
  have := e_iaddN e5 (by omega)
  exact o_nlt (by omega)
theorem own_d126 {p8 p9 v0 v1 v2 v3 v4 v5 : Int32} {q1 : Int64} (e0 : v0 = (0 + p8)) (e1 : v1 = (v0 + 7)) (e2 : v2 = (sszL q1)) (e3 : v3 = (v1 + v2)) (e4 : v4 = (v3 + 2)) (e5 : v5 = (v4 + p9)) (hq0 : ¬ (p8 < 0)) (hq1 : p8 < 3) (hq2 : ¬ (p9 < 0)) (hq3 : p9 < 3) (hq4 : ¬ (q1 < (0 : Int64))) : p8 < v5 := by
  have := rng32 p8
  have : (0 : Int32).toInt = 0 := by decide
  have := i_nlt hq0
  have : (3 : Int32).toInt = 3 := by decide
  have := i_lt hq1
  have := rng32 p9
  have := i_nlt hq2
  have := i_lt hq3
  have := rng64 q1
  have : (0 : Int64).toInt = 0 := by decide
  have := j_nlt hq4
  have := e_iaddN e0 (by omega)
  have : (7 : Int32).toInt = 7 := by decide
  have := e_iaddN e1 (by omega)
  have := e_sszL e2
  have := e_iaddN e3 (by omega)
  have : (2 : Int32).toInt = 2 := by decide
  have := e_iaddN e4 (by omega)
  have := e_iaddN e5 (by omega)
  exact o_lt (by omega)
theorem own_d127 {p8 p9 v0 v1 v2 v3 v4 v5 : Int32} {q1 : Int64} (e0 : v0 = (0 + p8)) (e1 : v1 = (v0 + 7)) (e2 : v2 = (sszL q1)) (e3 : v3 = (v1 + v2)) (e4 : v4 = (v3 + 2)) (e5 : v5 = (v4 + p9)) (hq0 : ¬ (p8 < 0)) (hq1 : p8 < 3) (hq2 : ¬ (p9 < 0)) (hq3 : p9 < 3) (hq4 : ¬ (q1 < (0 : Int64))) : v5 < 1000 := by
  have := rng32 p8
  have : (0 : Int32).toInt = 0 := by decide
  have := i_nlt hq0
  have : (3 : Int32).toInt = 3 := by decide
  have := i_lt hq1
  have := rng32 p9
  have := i_nlt hq2
  have := i_lt hq3
  have := rng64 q1
  have : (0 : Int64).toInt = 0 := by decide
  have := j_nlt hq4
  have := e_iaddN e0 (by omega)
  have : (7 : Int32).toInt = 7 := by decide
  have := e_iaddN e1 (by omega)
  have := e_sszL e2
  have := e_iaddN e3 (by omega)
  have : (2 : Int32).toInt = 2 := by decide
  have := e_iaddN e4 (by omega)
  have := e_iaddN e5 (by omega)
  have : (1000 : Int32).toInt = 1000 := by decide
  exact o_lt (by omega)
theorem own_d128 {p8 p9 v0 v1 v2 v3 v4 v5 v6 : Int32} {q1 : Int64} (e0 : v0 = (p8 + 1)) (e1 : v1 = (0 + p8)) (e2 : v2 = (v1 + 7)) (e3 : v3 = (sszL q1)) (e4 : v4 = (v2 + v3)) (e5 : v5 = (v4 + 2)) (e6 : v6 = (v5 + p9)) (hq0 : ¬ (p8 < 0)) (hq1 : p8 < 3) (hq2 : ¬ (p9 < 0)) (hq3 : p9 < 3) (hq4 : ¬ (q1 < (0 : Int64))) : v0 < v6 := by
  have := rng32 p8
  have : (0 : Int32).toInt = 0 := by decide
  have := i_nlt hq0
  have : (3 : Int32).toInt = 3 := by decide
  have := i_lt hq1
  have := rng32 p9
  have := i_nlt hq2
  have := i_lt hq3
  have := rng64 q1
  have : (0 : Int64).toInt = 0 := by decide
  have := j_nlt hq4
  have : (1 : Int32).toInt = 1 := by decide
  have := e_iaddN e0 (by omega)
  have := e_iaddN e1 (by omega)
  have : (7 : Int32).toInt = 7 := by decide
  have := e_iaddN e2 (by omega)
  have := e_sszL e3
  have := e_iaddN e4 (by omega)
  have : (2 : Int32).toInt = 2 := by decide
  have := e_iaddN e5 (by omega)
  have := e_iaddN e6 (by omega)
  exact o_lt (by omega)
theorem own_d129 {p8 p9 v0 v1 v2 v3 v4 v5 v6 : Int32} {q1 : Int64} (e0 : v0 = (p8 + 2)) (e1 : v1 = (0 + p8)) (e2 : v2 = (v1 + 7)) (e3 : v3 = (sszL q1)) (e4 : v4 = (v2 + v3)) (e5 : v5 = (v4 + 2)) (e6 : v6 = (v5 + p9)) (hq0 : ¬ (p8 < 0)) (hq1 : p8 < 3) (hq2 : ¬ (p9 < 0)) (hq3 : p9 < 3) (hq4 : ¬ (q1 < (0 : Int64))) : v0 < v6 := by
  have := rng32 p8
  have : (0 : Int32).toInt = 0 := by decide
  have := i_nlt hq0
  have : (3 : Int32).toInt = 3 := by decide
  have := i_lt hq1
  have := rng32 p9
  have := i_nlt hq2
  have := i_lt hq3
  have := rng64 q1
  have : (0 : Int64).toInt = 0 := by decide
  have := j_nlt hq4
  have : (2 : Int32).toInt = 2 := by decide
  have := e_iaddN e0 (by omega)
  have := e_iaddN e1 (by omega)
  have : (7 : Int32).toInt = 7 := by decide
  have := e_iaddN e2 (by omega)
  have := e_sszL e3
  have := e_iaddN e4 (by omega)
  have := e_iaddN e5 (by omega)
  have := e_iaddN e6 (by omega)
  exact o_lt (by omega)
theorem own_d130 {p8 p9 v0 v1 v2 v3 v4 v5 v6 : Int32} {q1 : Int64} (e0 : v0 = (p8 + 3)) (e1 : v1 = (0 + p8)) (e2 : v2 = (v1 + 7)) (e3 : v3 = (sszL q1)) (e4 : v4 = (v2 + v3)) (e5 : v5 = (v4 + 2)) (e6 : v6 = (v5 + p9)) (hq0 : ¬ (p8 < 0)) (hq1 : p8 < 3) (hq2 : ¬ (p9 < 0)) (hq3 : p9 < 3) (hq4 : ¬ (q1 < (0 : Int64))) : v0 < v6 := by
  have := rng32 p8
  have : (0 : Int32).toInt = 0 := by decide
  have := i_nlt hq0
  have : (3 : Int32).toInt = 3 := by decide
  have := i_lt hq1
  have := rng32 p9
  have := i_nlt hq2
  have := i_lt hq3
  have := rng64 q1
  have : (0 : Int64).toInt = 0 := by decide
  have := j_nlt hq4
  have := e_iaddN e0 (by omega)
  have := e_iaddN e1 (by omega)
  have : (7 : Int32).toInt = 7 := by decide
  have := e_iaddN e2 (by omega)
  have := e_sszL e3
  have := e_iaddN e4 (by omega)
  have : (2 : Int32).toInt = 2 := by decide
  have := e_iaddN e5 (by omega)
  have := e_iaddN e6 (by omega)
  exact o_lt (by omega)
theorem own_d131 {p8 p9 v0 v1 v2 v3 v4 v5 v6 : Int32} {q1 : Int64} (e0 : v0 = (p8 + 4)) (e1 : v1 = (0 + p8)) (e2 : v2 = (v1 + 7)) (e3 : v3 = (sszL q1)) (e4 : v4 = (v2 + v3)) (e5 : v5 = (v4 + 2)) (e6 : v6 = (v5 + p9)) (hq0 : ¬ (p8 < 0)) (hq1 : p8 < 3) (hq2 : ¬ (p9 < 0)) (hq3 : p9 < 3) (hq4 : ¬ (q1 < (0 : Int64))) : v0 < v6 := by
  have := rng32 p8
  have : (0 : Int32).toInt = 0 := by decide
  have := i_nlt hq0
  have : (3 : Int32).toInt = 3 := by decide
  have := i_lt hq1
  have := rng32 p9
  have := i_nlt hq2
  have := i_lt hq3
  have := rng64 q1
  have : (0 : Int64).toInt = 0 := by decide
  have := j_nlt hq4
  have : (4 : Int32).toInt = 4 := by decide
  have := e_iaddN e0 (by omega)
  have := e_iaddN e1 (by omega)
  have : (7 : Int32).toInt = 7 := by decide
  have := e_iaddN e2 (by omega)
  have := e_sszL e3
  have := e_iaddN e4 (by omega)
  have : (2 : Int32).toInt = 2 := by decide
  have := e_iaddN e5 (by omega)
  have := e_iaddN e6 (by omega)
  exact o_lt (by omega)
theorem own_d132 {p8 p9 v0 v1 v2 v3 v4 v5 v6 : Int32} {q1 : Int64} (e0 : v0 = (p8 + 5)) (e1 : v1 = (0 + p8)) (e2 : v2 = (v1 + 7)) (e3 : v3 = (sszL q1)) (e4 : v4 = (v2 + v3)) (e5 : v5 = (v4 + 2)) (e6 : v6 = (v5 + p9)) (hq0 : ¬ (p8 < 0)) (hq1 : p8 < 3) (hq2 : ¬ (p9 < 0)) (hq3 : p9 < 3) (hq4 : ¬ (q1 < (0 : Int64))) : v0 < v6 := by
  have := rng32 p8
  have : (0 : Int32).toInt = 0 := by decide
  have := i_nlt hq0
  have : (3 : Int32).toInt = 3 := by decide
  have := i_lt hq1
  have := rng32 p9
  have := i_nlt hq2
  have := i_lt hq3
  have := rng64 q1
  have : (0 : Int64).toInt = 0 := by decide
  have := j_nlt hq4
  have : (5 : Int32).toInt = 5 := by decide
  have := e_iaddN e0 (by omega)
  have := e_iaddN e1 (by omega)
  have : (7 : Int32).toInt = 7 := by decide
  have := e_iaddN e2 (by omega)
  have := e_sszL e3
  have := e_iaddN e4 (by omega)
  have : (2 : Int32).toInt = 2 := by decide
  have := e_iaddN e5 (by omega)
  have := e_iaddN e6 (by omega)
  exact o_lt (by omega)
theorem own_d133 {p8 p9 v0 v1 v2 v3 v4 v5 v6 : Int32} {q1 : Int64} (e0 : v0 = (p8 + 6)) (e1 : v1 = (0 + p8)) (e2 : v2 = (v1 + 7)) (e3 : v3 = (sszL q1)) (e4 : v4 = (v2 + v3)) (e5 : v5 = (v4 + 2)) (e6 : v6 = (v5 + p9)) (hq0 : ¬ (p8 < 0)) (hq1 : p8 < 3) (hq2 : ¬ (p9 < 0)) (hq3 : p9 < 3) (hq4 : ¬ (q1 < (0 : Int64))) : v0 < v6 := by
  have := rng32 p8
  have : (0 : Int32).toInt = 0 := by decide
  have := i_nlt hq0
  have : (3 : Int32).toInt = 3 := by decide
  have := i_lt hq1
  have := rng32 p9
  have := i_nlt hq2
  have := i_lt hq3
  have := rng64 q1
  have : (0 : Int64).toInt = 0 := by decide
  have := j_nlt hq4
  have : (6 : Int32).toInt = 6 := by decide
  have := e_iaddN e0 (by omega)
  have := e_iaddN e1 (by omega)
  have : (7 : Int32).toInt = 7 := by decide
  have := e_iaddN e2 (by omega)
  have := e_sszL e3
  have := e_iaddN e4 (by omega)
  have : (2 : Int32).toInt = 2 := by decide
  have := e_iaddN e5 (by omega)
  have := e_iaddN e6 (by omega)
  exact o_lt (by omega)
theorem own_d134 {p8 p9 v0 v1 v2 v3 v4 v5 v6 v7 v8 : Int32} {q1 : Int64} (e0 : v0 = (0 + p8)) (e1 : v1 = (v0 + 7)) (e2 : v2 = (sszL q1)) (e3 : v3 = (v1 + v2)) (e4 : v4 = (v3 + 2)) (e5 : v5 = (v4 + p9)) (e6 : v6 = (p8 + 7)) (e7 : v7 = (v6 + 0)) (e8 : v8 = (v7 + v2)) (hq0 : ¬ (p8 < 0)) (hq1 : p8 < 3) (hq2 : ¬ (p9 < 0)) (hq3 : p9 < 3) (hq4 : ¬ (q1 < (0 : Int64))) : ¬ (v5 < v8) := by
  have := rng32 p8
  have : (0 : Int32).toInt = 0 := by decide
  have := i_nlt hq0
  have : (3 : Int32).toInt = 3 := by decide
  have := i_lt hq1
  have := rng32 p9
  have := i_nlt hq2
  have := i_lt hq3
  have := rng64 q1
  have : (0 : Int64).toInt = 0 := by decide
  have := j_nlt hq4
  have := e_iaddN e0 (by omega)
  have : (7 : Int32).toInt = 7 := by decide
  have := e_iaddN e1 (by omega)
  have := e_sszL e2
  have := e_iaddN e3 (by omega)
  have : (2 : Int32).toInt = 2 := by decide
  have := e_iaddN e4 (by omega)
  have := e_iaddN e5 (by omega)
  have := e_iaddN e6 (by omega)
  have := e_iaddN e7 (by omega)
  have := e_iaddN e8 (by omega)
  exact o_nlt (by omega)
theorem own_d135 {p8 v0 v1 v2 v3 : Int32} {q1 : Int64} (e0 : v0 = (p8 + 7)) (e1 : v1 = (v0 + 0)) (e2 : v2 = (sszL q1)) (e3 : v3 = (v1 + v2)) (hq0 : ¬ (p8 < 0)) (hq1 : p8 < 3) (hq2 : ¬ (q1 < (0 : Int64))) : ¬ (v3 < 0) := by
  have := rng32 p8
  have : (0 : Int32).toInt = 0 := by decide
  have := i_nlt hq0
  have : (3 : Int32).toInt = 3 := by decide
  have := i_lt hq1
  have := rng64 q1
  have : (0 : Int64).toInt = 0 := by decide
  have := j_nlt hq2
  have : (7 : Int32).toInt = 7 := by decide
  have := e_iaddN e0 (by omega)
  have := e_iaddN e1 (by omega)
  have := e_sszL e2
  have := e_iaddN e3 (by omega)
  exact o_nlt (by omega)
theorem own_d136 {p8 p9 v0 v1 v2 v3 v4 v5 v6 v7 v8 : Int32} {q1 : Int64} (e0 : v0 = (p8 + 7)) (e1 : v1 = (v0 + 0)) (e2 : v2 = (sszL q1)) (e3 : v3 = (v1 + v2)) (e4 : v4 = (0 + p8)) (e5 : v5 = (v4 + 7)) (e6 : v6 = (v5 + v2)) (e7 : v7 = (v6 + 2)) (e8 : v8 = (v7 + p9)) (hq0 : ¬ (p8 < 0)) (hq1 : p8 < 3) (hq2 : ¬ (p9 < 0)) (hq3 : p9 < 3) (hq4 : ¬ (q1 < (0 : Int64))) : v3 < v8 := by
  have := rng32 p8
  have : (0 : Int32).toInt = 0 := by decide
  have := i_nlt hq0
  have : (3 : Int32).toInt = 3 := by decide
  have := i_lt hq1
  have := rng32 p9
  have := i_nlt hq2
  have := i_lt hq3
  have := rng64 q1
  have : (0 : Int64).toInt = 0 := by decide
  have := j_nlt hq4
  have : (7 : Int32).toInt = 7 := by decide
  have := e_iaddN e0 (by omega)
  have := e_iaddN e1 (by omega)
  have := e_sszL e2
  have := e_iaddN e3 (by omega)
  have := e_iaddN e4 (by omega)
  have := e_iaddN e5 (by omega)
  have := e_iaddN e6 (by omega)
  have : (2 : Int32).toInt = 2 := by decide
  have := e_iaddN e7 (by omega)
  have := e_iaddN e8 (by omega)
  exact o_lt (by omega)
theorem own_d137 {p8 v0 v1 v2 v3 v4 : Int32} {q1 : Int64} (e0 : v0 = (p8 + 7)) (e1 : v1 = (v0 + 0)) (e2 : v2 = (sszL q1)) (e3 : v3 = (v1 + v2)) (e4 : v4 = (v3 + 1)) (hq0 : ¬ (p8 < 0)) (hq1 : p8 < 3) (hq2 : ¬ (q1 < (0 : Int64))) : ¬ (v4 < 0) := by
  have := rng32 p8
  have : (0 : Int32).toInt = 0 := by decide
  have := i_nlt hq0
  have : (3 : Int32).toInt = 3 := by decide
  have := i_lt hq1
  have := rng64 q1
  have : (0 : Int64).toInt = 0 := by decide
  have := j_nlt hq2
  have : (7 : Int32).toInt = 7 := by decide
  have := e_iaddN e0 (by omega)
  have := e_iaddN e1 (by omega)
  have := e_sszL e2
  have := e_iaddN e3 (by omega)
  have : (1 : Int32).toInt = 1 := by decide
  have := e_iaddN e4 (by omega)
  exact o_nlt (by omega)
theorem own_d138 {p8 p9 v0 v1 v2 v3 v4 v5 v6 v7 v8 v9 : Int32} {q1 : Int64} (e0 : v0 = (p8 + 7)) (e1 : v1 = (v0 + 0)) (e2 : v2 = (sszL q1)) (e3 : v3 = (v1 + v2)) (e4 : v4 = (v3 + 1)) (e5 : v5 = (0 + p8)) (e6 : v6 = (v5 + 7)) (e7 : v7 = (v6 + v2)) (e8 : v8 = (v7 + 2)) (e9 : v9 = (v8 + p9)) (hq0 : ¬ (p8 < 0)) (hq1 : p8 < 3) (hq2 : ¬ (p9 < 0)) (hq3 : p9 < 3) (hq4 : ¬ (q1 < (0 : Int64))) : v4 < v9 := by
  have := rng32 p8
  have : (0 : Int32).toInt = 0 := by decide
  have := i_nlt hq0
  have : (3 : Int32).toInt = 3 := by decide
  have := i_lt hq1
  have := rng32 p9
  have := i_nlt hq2
  have := i_lt hq3
  have := rng64 q1
  have : (0 : Int64).toInt = 0 := by decide
  have := j_nlt hq4
  have : (7 : Int32).toInt = 7 := by decide
  have := e_iaddN e0 (by omega)
  have := e_iaddN e1 (by omega)
  have := e_sszL e2
  have := e_iaddN e3 (by omega)
  have : (1 : Int32).toInt = 1 := by decide
  have := e_iaddN e4 (by omega)
  have := e_iaddN e5 (by omega)
  have := e_iaddN e6 (by omega)
  have := e_iaddN e7 (by omega)
  have : (2 : Int32).toInt = 2 := by decide
  have := e_iaddN e8 (by omega)
  have := e_iaddN e9 (by omega)
  exact o_lt (by omega)
theorem own_d139 {p8 v0 v1 v2 v3 v4 : Int32} {q1 : Int64} (e0 : v0 = (p8 + 7)) (e1 : v1 = (v0 + 0)) (e2 : v2 = (sszL q1)) (e3 : v3 = (v1 + v2)) (e4 : v4 = (v3 + 2)) (hq0 : ¬ (p8 < 0)) (hq1 : p8 < 3) (hq2 : ¬ (q1 < (0 : Int64))) : ¬ (v4 < 0) := by
  have := rng32 p8
  have : (0 : Int32).toInt = 0 := by decide
  have := i_nlt hq0
  have : (3 : Int32).toInt = 3 := by decide
  have := i_lt hq1
  have := rng64 q1
  have : (0 : Int64).toInt = 0 := by decide
  have := j_nlt hq2
  have : (7 : Int32).toInt = 7 := by decide
  have := e_iaddN e0 (by omega)
  have := e_iaddN e1 (by omega)
  have := e_sszL e2
  have := e_iaddN e3 (by omega)
  have : (2 : Int32).toInt = 2 := by decide
  have := e_iaddN e4 (by omega)
  exact o_nlt (by omega)
theorem own_d140 {p8 p9 v0 v1 v2 v3 v4 v5 v6 v7 v8 v9 : Int32} {q1 : Int64} (e0 : v0 = (p8 + 7)) (e1 : v1 = (v0 + 0)) (e2 : v2 = (sszL q1)) (e3 : v3 = (v1 + v2)) (e4 : v4 = (v3 + 2)) (e5 : v5 = (0 + p8)) (e6 : v6 = (v5 + 7)) (e7 : v7 = (v6 + v2)) (e8 : v8 = (v7 + 2)) (e9 : v9 = (v8 + p9)) (hq0 : ¬ (p8 < 0)) (hq1 : p8 < 3) (hq2 : ¬ (p9 < 0)) (hq3 : p9 < 3) (hq4 : ¬ (q1 < (0 : Int64))) (hq5 : ¬ (p9 < 1)) : v4 < v9 := by
  have := rng32 p8
  have : (0 : Int32).toInt = 0 := by decide
  have := i_nlt hq0
  have : (3 : Int32).toInt = 3 := by decide
  have := i_lt hq1
  have := rng32 p9
  have := i_nlt hq2
  have := i_lt hq3
  have := rng64 q1
  have : (0 : Int64).toInt = 0 := by decide
  have := j_nlt hq4
  have : (1 : Int32).toInt = 1 := by decide
  have := i_nlt hq5
  have : (7 : Int32).toInt = 7 := by decide
  have := e_iaddN e0 (by omega)
  have := e_iaddN e1 (by omega)
  have := e_sszL e2
  have := e_iaddN e3 (by omega)
  have : (2 : Int32).toInt = 2 := by decide
  have := e_iaddN e4 (by omega)
  have := e_iaddN e5 (by omega)
  have := e_iaddN e6 (by omega)
  have := e_iaddN e7 (by omega)
  have := e_iaddN e8 (by omega)
  have := e_iaddN e9 (by omega)
  exact o_lt (by omega)
theorem own_d141 {p8 p9 v0 v1 v2 v3 v4 v5 : Int32} {q1 : Int64} (e0 : v0 = (0 + p8)) (e1 : v1 = (v0 + 7)) (e2 : v2 = (sszL q1)) (e3 : v3 = (v1 + v2)) (e4 : v4 = (v3 + 2)) (e5 : v5 = (v4 + p9)) (hq0 : ¬ (p8 < 0)) (hq1 : p8 < 3) (hq2 : ¬ (p9 < 0)) (hq3 : p9 < 3) (hq4 : ¬ (q1 < (0 : Int64))) (hq5 : ¬ (p9 < 1)) : v5 < 1000 := by
  have := rng32 p8
  have : (0 : Int32).toInt = 0 := by decide
  have := i_nlt hq0
  have : (3 : Int32).toInt = 3 := by decide
  have := i_lt hq1
  have := rng32 p9
  have := i_nlt hq2
  have := i_lt hq3
  have := rng64 q1
  have : (0 : Int64).toInt = 0 := by decide
  have := j_nlt hq4
  have : (1 : Int32).toInt = 1 := by decide
  have := i_nlt hq5
  have := e_iaddN e0 (by omega)
  have : (7 : Int32).toInt = 7 := by decide
  have := e_iaddN e1 (by omega)
  have := e_sszL e2
  have := e_iaddN e3 (by omega)
  have : (2 : Int32).toInt = 2 := by decide
  have := e_iaddN e4 (by omega)
  have := e_iaddN e5 (by omega)
  have : (1000 : Int32).toInt = 1000 := by decide
  exact o_lt (by omega)
theorem own_d142 {p8 p9 v0 v1 v2 v3 v4 v5 : Int32} {q1 : Int64} (e0 : v0 = (0 + p8)) (e1 : v1 = (v0 + 7)) (e2 : v2 = (sszL q1)) (e3 : v3 = (v1 + v2)) (e4 : v4 = (v3 + 2)) (e5 : v5 = (v4 + p9)) (hq0 : ¬ (p8 < 0)) (hq1 : p8 < 3) (hq2 : ¬ (p9 < 0)) (hq3 : p9 < 3) (hq4 : ¬ (q1 < (0 : Int64))) (hq5 : ¬ (p9 < 1)) : ¬ (v5 < 0) := by
  have := rng32 p8
  have : (0 : Int32).toInt = 0 := by decide
  have := i_nlt hq0
  have : (3 : Int32).toInt = 3 := by decide
  have := i_lt hq1
  have := rng32 p9
  have := i_nlt hq2
  have := i_lt hq3
  have := rng64 q1
  have : (0 : Int64).toInt = 0 := by decide
  have := j_nlt hq4
  have : (1 : Int32).toInt = 1 := by decide
  have := i_nlt hq5
  have := e_iaddN e0 (by omega)
  have : (7 : Int32).toInt = 7 := by decide
  have := e_iaddN e1 (by omega)
  have := e_sszL e2
  have := e_iaddN e3 (by omega)
  have : (2 : Int32).toInt = 2 := by decide
  have := e_iaddN e4 (by omega)
  have := e_iaddN e5 (by omega)
  exact o_nlt (by omega)
theorem own_d143 {p8 v0 v1 v2 v3 v4 : Int32} {q1 : Int64} (e0 : v0 = (p8 + 7)) (e1 : v1 = (v0 + 0)) (e2 : v2 = (sszL q1)) (e3 : v3 = (v1 + v2)) (e4 : v4 = (v3 + 3)) (hq0 : ¬ (p8 < 0)) (hq1 : p8 < 3) (hq2 : ¬ (q1 < (0 : Int64))) : ¬ (v4 < 0) := by
  have := rng32 p8
  have : (0 : Int32).toInt = 0 := by decide
  have := i_nlt hq0
  have : (3 : Int32).toInt = 3 := by decide
  have := i_lt hq1
  have := rng64 q1
  have : (0 : Int64).toInt = 0 := by decide
  have := j_nlt hq2
  have : (7 : Int32).toInt = 7 := by decide
  have := e_iaddN e0 (by omega)
  have := e_iaddN e1 (by omega)
  have := e_sszL e2
  have := e_iaddN e3 (by omega)
  have := e_iaddN e4 (by omega)
  exact o_nlt (by omega)
theorem own_d144 {p8 p9 v0 v1 v2 v3 v4 v5 v6 v7 v8 v9 : Int32} {q1 : Int64} (e0 : v0 = (p8 + 7)) (e1 : v1 = (v0 + 0)) (e2 : v2 = (sszL q1)) (e3 : v3 = (v1 + v2)) (e4 : v4 = (v3 + 3)) (e5 : v5 = (0 + p8)) (e6 : v6 = (v5 + 7)) (e7 : v7 = (v6 + v2)) (e8 : v8 = (v7 + 2)) (e9 : v9 = (v8 + p9)) (hq0 : ¬ (p8 < 0)) (hq1 : p8 < 3) (hq2 : ¬ (p9 < 0)) (hq3 : p9 < 3) (hq4 : ¬ (q1 < (0 : Int64))) (hq5 : ¬ (p9 < 2)) : v4 < v9 := by
  have := rng32 p8
  have : (0 : Int32).toInt = 0 := by decide
  have := i_nlt hq0
  have : (3 : Int32).toInt = 3 := by decide
  have := i_lt hq1
  have := rng32 p9
  have := i_nlt hq2
  have := i_lt hq3
  have := rng64 q1
  have : (0 : Int64).toInt = 0 := by decide
  have := j_nlt hq4
  have : (2 : Int32).toInt = 2 := by decide
  have := i_nlt hq5
  have : (7 : Int32).toInt = 7 := by decide
  have := e_iaddN e0 (by omega)
  have := e_iaddN e1 (by omega)
  have := e_sszL e2
  have := e_iaddN e3 (by omega)
  have := e_iaddN e4 (by omega)
  have := e_iaddN e5 (by omega)
  have := e_iaddN e6 (by omega)
  have := e_iaddN e7 (by omega)
  have := e_iaddN e8 (by omega)
  have := e_iaddN e9 (by omega)
  exact o_lt (by omega)
theorem own_d145 {p8 p9 v0 v1 v2 v3 v4 v5 : Int32} {q1 : Int64} (e0 : v0 = (0 + p8)) (e1 : v1 = (v0 + 7)) (e2 : v2 = (sszL q1)) (e3 : v3 = (v1 + v2)) (e4 : v4 = (v3 + 2)) (e5 : v5 = (v4 + p9)) (hq0 : ¬ (p8 < 0)) (hq1 : p8 < 3) (hq2 : ¬ (p9 < 0)) (hq3 : p9 < 3) (hq4 : ¬ (q1 < (0 : Int64))) (hq5 : ¬ (p9 < 2)) : v5 < 1000 := by
  have := rng32 p8
  have : (0 : Int32).toInt = 0 := by decide
  have := i_nlt hq0
  have : (3 : Int32).toInt = 3 := by decide
  have := i_lt hq1
  have := rng32 p9
  have := i_nlt hq2
  have := i_lt hq3
  have := rng64 q1
  have : (0 : Int64).toInt = 0 := by decide
  have := j_nlt hq4
  have : (2 : Int32).toInt = 2 := by decide
  have := i_nlt hq5
  have := e_iaddN e0 (by omega)
  have : (7 : Int32).toInt = 7 := by decide
  have := e_iaddN e1 (by omega)
  have := e_sszL e2
  have := e_iaddN e3 (by omega)
  have := e_iaddN e4 (by omega)
  have := e_iaddN e5 (by omega)
  have : (1000 : Int32).toInt = 1000 := by decide
  exact o_lt (by omega)
theorem own_d146 {p8 p9 v0 v1 v2 v3 v4 v5 : Int32} {q1 : Int64} (e0 : v0 = (0 + p8)) (e1 : v1 = (v0 + 7)) (e2 : v2 = (sszL q1)) (e3 : v3 = (v1 + v2)) (e4 : v4 = (v3 + 2)) (e5 : v5 = (v4 + p9)) (hq0 : ¬ (p8 < 0)) (hq1 : p8 < 3) (hq2 : ¬ (p9 < 0)) (hq3 : p9 < 3) (hq4 : ¬ (q1 < (0 : Int64))) (hq5 : ¬ (p9 < 2)) : ¬ (v5 < 0) := by
  have := rng32 p8
  have : (0 : Int32).toInt = 0 := by decide
  have := i_nlt hq0
  have : (3 : Int32).toInt = 3 := by decide
  have := i_lt hq1
  have := rng32 p9
  have := i_nlt hq2
  have := i_lt hq3
  have := rng64 q1
  have : (0 : Int64).toInt = 0 := by decide
  have := j_nlt hq4
  have : (2 : Int32).toInt = 2 := by decide
  have := i_nlt hq5
  have := e_iaddN e0 (by omega)
  have : (7 : Int32).toInt = 7 := by decide
  have := e_iaddN e1 (by omega)
  have := e_sszL e2
  have := e_iaddN e3 (by omega)
  have := e_iaddN e4 (by omega)
  have := e_iaddN e5 (by omega)
  exact o_nlt (by omega)
theorem PN52 : plainFor Y52 = true := plainFor_of_name pn_CsvReaderRefusalPinLaw
theorem ef_IIJ_maxLocals {x0 : Int32} {x1 : Int32} {x2 : Int64}  (m : MethodId) : entryFrame m #[(.int x0), (.int x1), (.long x2)] maxLocals = mkF m 0 #[.val (.int x0), .val (.int x1), .val (.long x2), .second, .unset, .unset, .unset, .unset, .unset, .unset, .unset, .unset, .unset, .unset, .unset, .unset, .unset, .unset, .unset, .unset, .unset] [] := by
  first | (simp [entryFrame, mkF, argsToLocals, Value.category, maxLocals]; done) | rfl
theorem R_law {p1 p2 : Int32} {q1 : Int64} (hw : HW a0 Z) (G : Gl Z w_CS w_SF w_DO w_DT w_fO w_fT w_US w_SS) (hst : l.stackTraces = true) : MtK consts_1 l Y52 C52 room_1 #[.int p1, .int p2, .long q1] Z a0 h0 n0 (fun v _ => v = some (.int 1)) := by
  refine MtK.go PN52 ef_IIJ_maxLocals fun k kn => ?_
  obtain ⟨p8, p8a, p8b, k⟩ : ∃ (p8 : Int32), ¬ (p8 < 0) ∧ p8 < 3 ∧ k.At 14 #[.val (.int p1), .val (.int p2), .val (.long q1), .second, .unset, .unset, .unset, .unset, .unset, .unset, .unset, .unset, .unset, .unset, .unset, .unset, .unset, .unset, .unset, .unset, .unset] [.int p8] := by
    replace k := k |>.iloadN D52_0 rfl |>.iconst D52_1 3 |>.iand D52_2 rfl |>.iconst D52_3 3
    by_cases hc4_1 : (p1 &&& 3) = 3
    · replace k := k |>.icmpNo D52_4 (teq hc4_1).2 |>.iconst D52_7 2 |>.goto D52_8
      exact ⟨2, (by decide), (by decide), k⟩
    · replace k := k |>.icmpYes D52_4 (feq hc4_1).2 |>.iloadN D52_11 rfl |>.iconst D52_12 3 |>.iand D52_13 rfl
      exact ⟨(p1 &&& 3), (own_d69 rfl hc4_1), (own_d70 rfl hc4_1), k⟩
  replace k := k |>.istore D52_14 sto4 |>.iloadN D52_16 rfl |>.bipush D52_17 8 |>.iushr D52_19 rfl |>.sipush D52_20 255 |>.iand D52_23 rfl |>.i2c D52_24 rfl |>.istore D52_25 sto5 |>.iloadN D52_27 rfl |>.bipush D52_28 16 |>.iushr D52_30 rfl |>.sipush D52_31 255
  replace k := k |>.iand D52_34 rfl |>.i2c D52_35 rfl |>.istore D52_36 sto6
  obtain ⟨p9, p9a, p9b, k⟩ : ∃ (p9 : Int32), ¬ (p9 < 0) ∧ p9 < 3 ∧ k.At 52 #[.val (.int p1), .val (.int p2), .val (.long q1), .second, .val (.int p8), .val (.int (latc ((p1.toUInt32 >>> ((8 : Int32) &&& 31).toUInt32).toInt32))), .val (.int (latc ((p1.toUInt32 >>> ((16 : Int32) &&& 31).toUInt32).toInt32))), .unset, .unset, .unset, .unset, .unset, .unset, .unset, .unset, .unset, .unset, .unset, .unset, .unset, .unset] [.int p9] := by
    replace k := k |>.iloadN D52_38 rfl |>.iconst D52_39 3 |>.iand D52_40 rfl |>.iconst D52_41 3
    by_cases hc42_2 : (p2 &&& 3) = 3
    · replace k := k |>.icmpNo D52_42 (teq hc42_2).2 |>.iconst D52_45 2 |>.goto D52_46
      exact ⟨2, (by decide), (by decide), k⟩
    · replace k := k |>.icmpYes D52_42 (feq hc42_2).2 |>.iloadN D52_49 rfl |>.iconst D52_50 3 |>.iand D52_51 rfl
      exact ⟨(p2 &&& 3), (own_d71 rfl hc42_2), (own_d72 rfl hc42_2), k⟩
  replace k := k |>.istore D52_52 sto7 |>.iloadN D52_54 rfl |>.bipush D52_55 8 |>.iushr D52_57 rfl |>.sipush D52_58 255 |>.iand D52_61 rfl |>.i2c D52_62 rfl |>.istore D52_63 sto8 |>.iloadN D52_65 rfl |>.bipush D52_66 16 |>.iushr D52_68 rfl |>.sipush D52_69 255
  replace k := k |>.iand D52_72 rfl |>.i2c D52_73 rfl |>.istore D52_74 sto9 |>.iload D52_76 rfl |>.iload D52_78 rfl |>.iload D52_80 rfl
  obtain ⟨_, vm3, h3, K3, R3, ⟨u3, w3, T3, f3, rfl, O3, A3, F3, H3⟩, k⟩ := (k.callSW (w_0 hw) (S33 hw) (R_sm hw G p8a p8b (own_d73 rfl rfl ) (own_d74 rfl rfl ) (own_d75 rfl rfl ) (own_d76 rfl rfl )) D52_82 0 rfl).kv all0
  replace k := k |>.astore D52_85 rfl sto10 |>.iload D52_87 rfl |>.iload D52_89 rfl |>.iload D52_91 rfl
  obtain ⟨_, vm4, h4, K4, R4, ⟨u4, w4, T4, f4, rfl, O4, A4, F4, H4⟩, k⟩ := (k.callSW (w_0 hw) (S33 hw) (R_sm hw G p9a p9b (own_d77 rfl rfl ) (own_d78 rfl rfl ) (own_d79 rfl rfl ) (own_d80 rfl rfl )) D52_93 0 rfl).kv all0
  replace k := k |>.astore D52_96 rfl sto11
  have x8 : ¬ (p8 < 0) ∧ p8 < 3 := ⟨p8a, p8b⟩
  replace k := k |>.aload D52_98 rfl rfl |>.lloadN D52_100 rfl |>.aload D52_101 rfl rfl
  have o5 := O3.keep K4 nin0
  have o6 := A3.keep K4 nin0
  obtain ⟨_, vm7, h7, K7, R7, ⟨b7, u7, w7, f7, rfl, E7, O7, A7, MS⟩, k⟩ := (k.callSK (w_37 hw) (S7 hw) (R_rf hw G o5 o6 O4 A4 p8a p8b p9a p9b hst) kn D52_103 0 rfl).kv all0
  replace k := k |>.astore D52_106 rfl sto12 |>.aload D52_108 rfl rfl |>.ifnonnullYes D52_110 |>.aload D52_115 rfl rfl
  replace k := (k.callU (w_228 hw) (V_X_InvalidInputException_getMessage___Ljava_lang_String__53_InvalidInputException hw) E7.exa (R_53_1 hw G E7) D52_117 0 rfl).pv
  replace k := k |>.astore D52_120 rfl sto13 |>.aload D52_122 rfl rfl |>.ifnonnullYes D52_124 |>.lloadN D52_129 rfl |>.lconst D52_130 0 |>.lcmp D52_131
  by_cases hc132_9 : q1 < 0
  · replace k := k |>.ifNo D52_132 ((if0 _ _).trans (tlt ((lw_lt _ _).mpr hc132_9)).2.1) |>.iconst D52_135 1 |>.goto D52_136 |>.istore D52_140 sto14 |>.lloadN D52_142 rfl |>.lconst D52_143 0 |>.lcmp D52_144 |>.ifNo D52_145 ((if0 _ _).trans (tlt ((lw_lt _ _).mpr hc132_9)).2.1) |>.lloadN D52_148 rfl |>.goto D52_149 |>.lstore D52_154 (Ls' := #[.val (.int p1), .val (.int p2), .val (.long q1), .second, .val (.int p8), .val (.int (latc ((p1.toUInt32 >>> ((8 : Int32) &&& 31).toUInt32).toInt32))), .val (.int (latc ((p1.toUInt32 >>> ((16 : Int32) &&& 31).toUInt32).toInt32))), .val (.int p9), .val (.int (latc ((p2.toUInt32 >>> ((8 : Int32) &&& 31).toUInt32).toInt32))), .val (.int (latc ((p2.toUInt32 >>> ((16 : Int32) &&& 31).toUInt32).toInt32))), .val (.ref u3), .val (.ref u4), .val (.ref b7), .val (.ref u7), .val (.int 1), .val (.long q1), .second, .unset, .unset, .unset, .unset]) rfl |>.lload D52_156 rfl
    replace k := (k.callS (w_234 hw) (S51 hw) (R_ds hw G (lt0 hc132_9)) D52_158 0 rfl).pv
    replace k := k |>.top (vneg hc132_9) |>.istore D52_161 sto17 |>.iload D52_163 rfl |>.bipush D52_165 7 |>.iadd D52_167 rfl |>.iload D52_168 rfl |>.iadd D52_170 rfl |>.istore D52_171 sto18 |>.iload D52_173 rfl |>.iload D52_175 rfl |>.iadd D52_177 rfl |>.istore D52_178 sto19
    have en := en_n hc132_9 x8 rfl rfl rfl rfl
    replace k := k |>.aload D52_180 rfl rfl
    replace k := (k.callV (w_258 hw) (V_Y5_5_String hw) O7.exa (R_len hw G O7 A7 (own_d81 rfl rfl rfl rfl rfl rfl p8a p8b p9a p9b hc132_9)) D52_182 0 rfl).pv
    replace k := k |>.iload D52_185 rfl |>.iconst D52_187 2 |>.iadd D52_188 rfl |>.iload D52_189 rfl |>.iadd D52_191 rfl |>.icmpNo D52_192 (teq (own_d82 rfl rfl rfl rfl rfl rfl rfl rfl rfl rfl rfl rfl p8a p8b p9a p9b hc132_9)).2 |>.iconst D52_195 1 |>.goto D52_196 |>.istore D52_200 sto20 |>.iload D52_202 rfl |>.ifNo D52_204 
    obtain k : k.At 224 #[.val (.int p1), .val (.int p2), .val (.long q1), .second, .val (.int p8), .val (.int (latc ((p1.toUInt32 >>> ((8 : Int32) &&& 31).toUInt32).toInt32))), .val (.int (latc ((p1.toUInt32 >>> ((16 : Int32) &&& 31).toUInt32).toInt32))), .val (.int p9), .val (.int (latc ((p2.toUInt32 >>> ((8 : Int32) &&& 31).toUInt32).toInt32))), .val (.int (latc ((p2.toUInt32 >>> ((16 : Int32) &&& 31).toUInt32).toInt32))), .val (.ref u3), .val (.ref u4), .val (.ref b7), .val (.ref u7), .val (.int 1), .val (.long q1), .second, .val (.int ((sszL q1) - 1)), .val (.int ((p8 + 7) + 1)), .val (.int (((p8 + 7) + 1) + ((sszL q1) - 1))), .val (.int 1)] [] := by
      replace k := k |>.iload D52_207 rfl |>.iconst D52_209 1
      by_cases hc210_11 : p8 < 1
      · replace k := k |>.icmpYes D52_210 (tlt hc210_11).1
        exact k
      · replace k := k |>.icmpNo D52_210 (flt hc210_11).1 |>.aload D52_213 rfl rfl |>.iconst D52_215 0 |>.iload D52_216 rfl
        replace k := (k.callS (w_259 hw) (S48 hw) (R_at hw G O7 A7 (by decide) (own_d83 rfl rfl rfl rfl rfl rfl p8a p8b p9a p9b hc132_9 hc210_11) (own_d84 rfl rfl rfl rfl rfl rfl p8a p8b p9a p9b hc132_9 hc210_11) (own_d85 rfl rfl rfl rfl rfl rfl p8a p8b p9a p9b hc132_9 hc210_11) (atp_0 MS hc210_11 F3) (p1 := 0)) D52_218 0 rfl).pv
        replace k := k |>.ifNo D52_221 
        exact k
    obtain k : k.At 241 #[.val (.int p1), .val (.int p2), .val (.long q1), .second, .val (.int p8), .val (.int (latc ((p1.toUInt32 >>> ((8 : Int32) &&& 31).toUInt32).toInt32))), .val (.int (latc ((p1.toUInt32 >>> ((16 : Int32) &&& 31).toUInt32).toInt32))), .val (.int p9), .val (.int (latc ((p2.toUInt32 >>> ((8 : Int32) &&& 31).toUInt32).toInt32))), .val (.int (latc ((p2.toUInt32 >>> ((16 : Int32) &&& 31).toUInt32).toInt32))), .val (.ref u3), .val (.ref u4), .val (.ref b7), .val (.ref u7), .val (.int 1), .val (.long q1), .second, .val (.int ((sszL q1) - 1)), .val (.int ((p8 + 7) + 1)), .val (.int (((p8 + 7) + 1) + ((sszL q1) - 1))), .val (.int 1)] [] := by
      replace k := k |>.iload D52_224 rfl |>.iconst D52_226 2
      by_cases hc227_12 : p8 < 2
      · replace k := k |>.icmpYes D52_227 (tlt hc227_12).1
        exact k
      · replace k := k |>.icmpNo D52_227 (flt hc227_12).1 |>.aload D52_230 rfl rfl |>.iconst D52_232 1 |>.iload D52_233 rfl
        replace k := (k.callS (w_259 hw) (S48 hw) (R_at hw G O7 A7 (by decide) (own_d86 rfl rfl rfl rfl rfl rfl p8a p8b p9a p9b hc132_9 hc227_12) (own_d87 rfl rfl rfl rfl rfl rfl p8a p8b p9a p9b hc132_9 hc227_12) (own_d88 rfl rfl rfl rfl rfl rfl p8a p8b p9a p9b hc132_9 hc227_12) (atp_1 MS x8 hc227_12 H3) (p1 := 1)) D52_235 0 rfl).pv
        replace k := k |>.ifNo D52_238 
        exact k
    replace k := k |>.iconst D52_241 1 |>.goto D52_242 |>.istore D52_246 sto20 |>.iload D52_248 rfl |>.ifNo D52_250  |>.aload D52_253 rfl rfl |>.iload D52_255 rfl |>.bipush D52_257 58
    replace k := (k.callS (w_259 hw) (S48 hw) (R_at hw G O7 A7 p8a (own_d89 rfl rfl rfl rfl rfl rfl p8a p8b p9a p9b hc132_9) (own_d90 rfl rfl rfl rfl rfl rfl p8a p8b p9a p9b hc132_9) (own_d81 rfl rfl rfl rfl rfl rfl p8a p8b p9a p9b hc132_9) (atp_L MS x8 (j := 0) (Int32.add_zero _).symm rfl (by decide) (by decide)) (p2 := 58)) D52_259 0 rfl).pv
    replace k := k |>.ifNo D52_262  |>.aload D52_265 rfl rfl |>.iload D52_267 rfl |>.iconst D52_269 1 |>.iadd D52_270 rfl |>.bipush D52_271 32
    replace k := (k.callS (w_259 hw) (S48 hw) (R_at hw G O7 A7 (own_d91 rfl p8a p8b) (own_d92 rfl rfl rfl rfl rfl rfl rfl p8a p8b p9a p9b hc132_9) (own_d90 rfl rfl rfl rfl rfl rfl p8a p8b p9a p9b hc132_9) (own_d81 rfl rfl rfl rfl rfl rfl p8a p8b p9a p9b hc132_9) (atp_L MS x8 (j := 1) rfl rfl (by decide) (by decide)) (p2 := 32)) D52_273 0 rfl).pv
    replace k := k |>.ifNo D52_276  |>.aload D52_279 rfl rfl |>.iload D52_281 rfl |>.iconst D52_283 2 |>.iadd D52_284 rfl |>.bipush D52_285 108
    replace k := (k.callS (w_259 hw) (S48 hw) (R_at hw G O7 A7 (own_d93 rfl p8a p8b) (own_d94 rfl rfl rfl rfl rfl rfl rfl p8a p8b p9a p9b hc132_9) (own_d90 rfl rfl rfl rfl rfl rfl p8a p8b p9a p9b hc132_9) (own_d81 rfl rfl rfl rfl rfl rfl p8a p8b p9a p9b hc132_9) (atp_L MS x8 (j := 2) rfl rfl (by decide) (by decide)) (p2 := 108)) D52_287 0 rfl).pv
    replace k := k |>.ifNo D52_290  |>.aload D52_293 rfl rfl |>.iload D52_295 rfl |>.iconst D52_297 3 |>.iadd D52_298 rfl |>.bipush D52_299 105
    replace k := (k.callS (w_259 hw) (S48 hw) (R_at hw G O7 A7 (own_d95 rfl p8a p8b) (own_d96 rfl rfl rfl rfl rfl rfl rfl p8a p8b p9a p9b hc132_9) (own_d90 rfl rfl rfl rfl rfl rfl p8a p8b p9a p9b hc132_9) (own_d81 rfl rfl rfl rfl rfl rfl p8a p8b p9a p9b hc132_9) (atp_L MS x8 (j := 3) rfl rfl (by decide) (by decide)) (p2 := 105)) D52_301 0 rfl).pv
    replace k := k |>.ifNo D52_304  |>.aload D52_307 rfl rfl |>.iload D52_309 rfl |>.iconst D52_311 4 |>.iadd D52_312 rfl |>.bipush D52_313 110
    replace k := (k.callS (w_259 hw) (S48 hw) (R_at hw G O7 A7 (own_d97 rfl p8a p8b) (own_d98 rfl rfl rfl rfl rfl rfl rfl p8a p8b p9a p9b hc132_9) (own_d90 rfl rfl rfl rfl rfl rfl p8a p8b p9a p9b hc132_9) (own_d81 rfl rfl rfl rfl rfl rfl p8a p8b p9a p9b hc132_9) (atp_L MS x8 (j := 4) rfl rfl (by decide) (by decide)) (p2 := 110)) D52_315 0 rfl).pv
    replace k := k |>.ifNo D52_318  |>.aload D52_321 rfl rfl |>.iload D52_323 rfl |>.iconst D52_325 5 |>.iadd D52_326 rfl |>.bipush D52_327 101
    replace k := (k.callS (w_259 hw) (S48 hw) (R_at hw G O7 A7 (own_d99 rfl p8a p8b) (own_d100 rfl rfl rfl rfl rfl rfl rfl p8a p8b p9a p9b hc132_9) (own_d90 rfl rfl rfl rfl rfl rfl p8a p8b p9a p9b hc132_9) (own_d81 rfl rfl rfl rfl rfl rfl p8a p8b p9a p9b hc132_9) (atp_L MS x8 (j := 5) rfl rfl (by decide) (by decide)) (p2 := 101)) D52_329 0 rfl).pv
    replace k := k |>.ifNo D52_332  |>.aload D52_335 rfl rfl |>.iload D52_337 rfl |>.bipush D52_339 6 |>.iadd D52_341 rfl |>.bipush D52_342 32
    replace k := (k.callS (w_259 hw) (S48 hw) (R_at hw G O7 A7 (own_d101 rfl p8a p8b) (own_d102 rfl rfl rfl rfl rfl rfl rfl p8a p8b p9a p9b hc132_9) (own_d90 rfl rfl rfl rfl rfl rfl p8a p8b p9a p9b hc132_9) (own_d81 rfl rfl rfl rfl rfl rfl p8a p8b p9a p9b hc132_9) (atp_L MS x8 (j := 6) rfl rfl (by decide) (by decide)) (p2 := 32)) D52_344 0 rfl).pv
    replace k := k |>.ifNo D52_347  |>.iconst D52_350 1 |>.goto D52_351 |>.istore D52_355 sto20 |>.iload D52_357 rfl |>.ifNo D52_359  |>.iload D52_362 rfl |>.ifNo D52_364  |>.aload D52_367 rfl rfl |>.iload D52_369 rfl |>.bipush D52_371 7 |>.iadd D52_373 rfl
    replace k := k |>.bipush D52_374 45
    replace k := (k.callS (w_259 hw) (S48 hw) (R_at hw G O7 A7 (own_d103 rfl p8a p8b) (own_d104 rfl rfl rfl rfl rfl rfl rfl p8a p8b p9a p9b hc132_9) (own_d90 rfl rfl rfl rfl rfl rfl p8a p8b p9a p9b hc132_9) (own_d81 rfl rfl rfl rfl rfl rfl p8a p8b p9a p9b hc132_9) (atp_M MS x8 rfl hc132_9) (p2 := 45)) D52_376 0 rfl).pv
    replace k := k |>.ifNo D52_379  |>.iconst D52_382 1 |>.goto D52_383 |>.istore D52_387 sto20 |>.iload D52_389 rfl |>.ifNo D52_391  |>.aload D52_394 rfl rfl |>.iload D52_396 rfl |>.lload D52_398 rfl |>.iconst D52_400 0 |>.iload D52_401 rfl |>.lconst D52_403 1
    replace k := (k.callS (w_284 hw) (S49 hw) (R_di hw G O7 A7 (own_d105 rfl rfl rfl rfl rfl rfl rfl rfl rfl rfl p8a p8b p9a p9b hc132_9) (own_d81 rfl rfl rfl rfl rfl rfl p8a p8b p9a p9b hc132_9) (own_d90 rfl rfl rfl rfl rfl rfl p8a p8b p9a p9b hc132_9) (lt0 hc132_9) (by decide) (by decide) (fun hj => dg_at (j := 0) MS.2.2.1 en rfl (vneg hc132_9).symm rfl rfl rfl (o_lt7 x8) hj rfl) (q2 := 1) (p2 := 0)) D52_404 0 rfl).pv
    replace k := k |>.ifNo D52_407  |>.aload D52_410 rfl rfl |>.iload D52_412 rfl |>.lload D52_414 rfl |>.iconst D52_416 1 |>.iload D52_417 rfl |>.ldcJ (w_237 hw) D52_419
    replace k := (k.callS (w_284 hw) (S49 hw) (R_di hw G O7 A7 (own_d105 rfl rfl rfl rfl rfl rfl rfl rfl rfl rfl p8a p8b p9a p9b hc132_9) (own_d81 rfl rfl rfl rfl rfl rfl p8a p8b p9a p9b hc132_9) (own_d90 rfl rfl rfl rfl rfl rfl p8a p8b p9a p9b hc132_9) (lt0 hc132_9) (by decide) (by decide) (fun hj => dg_at (j := 1) MS.2.2.1 en rfl (vneg hc132_9).symm rfl rfl rfl (o_lt7 x8) hj rfl) (q2 := 10) (p2 := 1)) D52_422 0 rfl).pv
    replace k := k |>.ifNo D52_425  |>.aload D52_428 rfl rfl |>.iload D52_430 rfl |>.lload D52_432 rfl |>.iconst D52_434 2 |>.iload D52_435 rfl |>.ldcJ (w_241 hw) D52_437
    replace k := (k.callS (w_284 hw) (S49 hw) (R_di hw G O7 A7 (own_d105 rfl rfl rfl rfl rfl rfl rfl rfl rfl rfl p8a p8b p9a p9b hc132_9) (own_d81 rfl rfl rfl rfl rfl rfl p8a p8b p9a p9b hc132_9) (own_d90 rfl rfl rfl rfl rfl rfl p8a p8b p9a p9b hc132_9) (lt0 hc132_9) (by decide) (by decide) (fun hj => dg_at (j := 2) MS.2.2.1 en rfl (vneg hc132_9).symm rfl rfl rfl (o_lt7 x8) hj rfl) (q2 := 100) (p2 := 2)) D52_440 0 rfl).pv
    replace k := k |>.ifNo D52_443  |>.aload D52_446 rfl rfl |>.iload D52_448 rfl |>.lload D52_450 rfl |>.iconst D52_452 3 |>.iload D52_453 rfl |>.ldcJ (w_242 hw) D52_455
    replace k := (k.callS (w_284 hw) (S49 hw) (R_di hw G O7 A7 (own_d105 rfl rfl rfl rfl rfl rfl rfl rfl rfl rfl p8a p8b p9a p9b hc132_9) (own_d81 rfl rfl rfl rfl rfl rfl p8a p8b p9a p9b hc132_9) (own_d90 rfl rfl rfl rfl rfl rfl p8a p8b p9a p9b hc132_9) (lt0 hc132_9) (by decide) (by decide) (fun hj => dg_at (j := 3) MS.2.2.1 en rfl (vneg hc132_9).symm rfl rfl rfl (o_lt7 x8) hj rfl) (q2 := 1000) (p2 := 3)) D52_458 0 rfl).pv
    replace k := k |>.ifNo D52_461  |>.aload D52_464 rfl rfl |>.iload D52_466 rfl |>.lload D52_468 rfl |>.iconst D52_470 4 |>.iload D52_471 rfl |>.ldcJ (w_243 hw) D52_473
    replace k := (k.callS (w_284 hw) (S49 hw) (R_di hw G O7 A7 (own_d105 rfl rfl rfl rfl rfl rfl rfl rfl rfl rfl p8a p8b p9a p9b hc132_9) (own_d81 rfl rfl rfl rfl rfl rfl p8a p8b p9a p9b hc132_9) (own_d90 rfl rfl rfl rfl rfl rfl p8a p8b p9a p9b hc132_9) (lt0 hc132_9) (by decide) (by decide) (fun hj => dg_at (j := 4) MS.2.2.1 en rfl (vneg hc132_9).symm rfl rfl rfl (o_lt7 x8) hj rfl) (q2 := 10000) (p2 := 4)) D52_476 0 rfl).pv
    replace k := k |>.ifNo D52_479  |>.aload D52_482 rfl rfl |>.iload D52_484 rfl |>.lload D52_486 rfl |>.iconst D52_488 5 |>.iload D52_489 rfl |>.ldcJ (w_244 hw) D52_491
    replace k := (k.callS (w_284 hw) (S49 hw) (R_di hw G O7 A7 (own_d105 rfl rfl rfl rfl rfl rfl rfl rfl rfl rfl p8a p8b p9a p9b hc132_9) (own_d81 rfl rfl rfl rfl rfl rfl p8a p8b p9a p9b hc132_9) (own_d90 rfl rfl rfl rfl rfl rfl p8a p8b p9a p9b hc132_9) (lt0 hc132_9) (by decide) (by decide) (fun hj => dg_at (j := 5) MS.2.2.1 en rfl (vneg hc132_9).symm rfl rfl rfl (o_lt7 x8) hj rfl) (q2 := 100000) (p2 := 5)) D52_494 0 rfl).pv
    replace k := k |>.ifNo D52_497  |>.aload D52_500 rfl rfl |>.iload D52_502 rfl |>.lload D52_504 rfl |>.bipush D52_506 6 |>.iload D52_508 rfl |>.ldcJ (w_245 hw) D52_510
    replace k := (k.callS (w_284 hw) (S49 hw) (R_di hw G O7 A7 (own_d105 rfl rfl rfl rfl rfl rfl rfl rfl rfl rfl p8a p8b p9a p9b hc132_9) (own_d81 rfl rfl rfl rfl rfl rfl p8a p8b p9a p9b hc132_9) (own_d90 rfl rfl rfl rfl rfl rfl p8a p8b p9a p9b hc132_9) (lt0 hc132_9) (by decide) (by decide) (fun hj => dg_at (j := 6) MS.2.2.1 en rfl (vneg hc132_9).symm rfl rfl rfl (o_lt7 x8) hj rfl) (q2 := 1000000) (p2 := 6)) D52_513 0 rfl).pv
    replace k := k |>.ifNo D52_516  |>.aload D52_519 rfl rfl |>.iload D52_521 rfl |>.lload D52_523 rfl |>.bipush D52_525 7 |>.iload D52_527 rfl |>.ldcJ (w_246 hw) D52_529
    replace k := (k.callS (w_284 hw) (S49 hw) (R_di hw G O7 A7 (own_d105 rfl rfl rfl rfl rfl rfl rfl rfl rfl rfl p8a p8b p9a p9b hc132_9) (own_d81 rfl rfl rfl rfl rfl rfl p8a p8b p9a p9b hc132_9) (own_d90 rfl rfl rfl rfl rfl rfl p8a p8b p9a p9b hc132_9) (lt0 hc132_9) (by decide) (by decide) (fun hj => dg_at (j := 7) MS.2.2.1 en rfl (vneg hc132_9).symm rfl rfl rfl (o_lt7 x8) hj rfl) (q2 := 10000000) (p2 := 7)) D52_532 0 rfl).pv
    replace k := k |>.ifNo D52_535  |>.aload D52_538 rfl rfl |>.iload D52_540 rfl |>.lload D52_542 rfl |>.bipush D52_544 8 |>.iload D52_546 rfl |>.ldcJ (w_247 hw) D52_548
    replace k := (k.callS (w_284 hw) (S49 hw) (R_di hw G O7 A7 (own_d105 rfl rfl rfl rfl rfl rfl rfl rfl rfl rfl p8a p8b p9a p9b hc132_9) (own_d81 rfl rfl rfl rfl rfl rfl p8a p8b p9a p9b hc132_9) (own_d90 rfl rfl rfl rfl rfl rfl p8a p8b p9a p9b hc132_9) (lt0 hc132_9) (by decide) (by decide) (fun hj => dg_at (j := 8) MS.2.2.1 en rfl (vneg hc132_9).symm rfl rfl rfl (o_lt7 x8) hj rfl) (q2 := 100000000) (p2 := 8)) D52_551 0 rfl).pv
    replace k := k |>.ifNo D52_554  |>.aload D52_557 rfl rfl |>.iload D52_559 rfl |>.lload D52_561 rfl |>.bipush D52_563 9 |>.iload D52_565 rfl |>.ldcJ (w_248 hw) D52_567
    replace k := (k.callS (w_284 hw) (S49 hw) (R_di hw G O7 A7 (own_d105 rfl rfl rfl rfl rfl rfl rfl rfl rfl rfl p8a p8b p9a p9b hc132_9) (own_d81 rfl rfl rfl rfl rfl rfl p8a p8b p9a p9b hc132_9) (own_d90 rfl rfl rfl rfl rfl rfl p8a p8b p9a p9b hc132_9) (lt0 hc132_9) (by decide) (by decide) (fun hj => dg_at (j := 9) MS.2.2.1 en rfl (vneg hc132_9).symm rfl rfl rfl (o_lt7 x8) hj rfl) (q2 := 1000000000) (p2 := 9)) D52_570 0 rfl).pv
    replace k := k |>.ifNo D52_573  |>.aload D52_576 rfl rfl |>.iload D52_578 rfl |>.lload D52_580 rfl |>.bipush D52_582 10 |>.iload D52_584 rfl |>.ldcJ (w_249 hw) D52_586
    replace k := (k.callS (w_284 hw) (S49 hw) (R_di hw G O7 A7 (own_d105 rfl rfl rfl rfl rfl rfl rfl rfl rfl rfl p8a p8b p9a p9b hc132_9) (own_d81 rfl rfl rfl rfl rfl rfl p8a p8b p9a p9b hc132_9) (own_d90 rfl rfl rfl rfl rfl rfl p8a p8b p9a p9b hc132_9) (lt0 hc132_9) (by decide) (by decide) (fun hj => dg_at (j := 10) MS.2.2.1 en rfl (vneg hc132_9).symm rfl rfl rfl (o_lt7 x8) hj rfl) (q2 := 10000000000) (p2 := 10)) D52_589 0 rfl).pv
    replace k := k |>.ifNo D52_592  |>.aload D52_595 rfl rfl |>.iload D52_597 rfl |>.lload D52_599 rfl |>.bipush D52_601 11 |>.iload D52_603 rfl |>.ldcJ (w_250 hw) D52_605
    replace k := (k.callS (w_284 hw) (S49 hw) (R_di hw G O7 A7 (own_d105 rfl rfl rfl rfl rfl rfl rfl rfl rfl rfl p8a p8b p9a p9b hc132_9) (own_d81 rfl rfl rfl rfl rfl rfl p8a p8b p9a p9b hc132_9) (own_d90 rfl rfl rfl rfl rfl rfl p8a p8b p9a p9b hc132_9) (lt0 hc132_9) (by decide) (by decide) (fun hj => dg_at (j := 11) MS.2.2.1 en rfl (vneg hc132_9).symm rfl rfl rfl (o_lt7 x8) hj rfl) (q2 := 100000000000) (p2 := 11)) D52_608 0 rfl).pv
    replace k := k |>.ifNo D52_611  |>.aload D52_614 rfl rfl |>.iload D52_616 rfl |>.lload D52_618 rfl |>.bipush D52_620 12 |>.iload D52_622 rfl |>.ldcJ (w_251 hw) D52_624
    replace k := (k.callS (w_284 hw) (S49 hw) (R_di hw G O7 A7 (own_d105 rfl rfl rfl rfl rfl rfl rfl rfl rfl rfl p8a p8b p9a p9b hc132_9) (own_d81 rfl rfl rfl rfl rfl rfl p8a p8b p9a p9b hc132_9) (own_d90 rfl rfl rfl rfl rfl rfl p8a p8b p9a p9b hc132_9) (lt0 hc132_9) (by decide) (by decide) (fun hj => dg_at (j := 12) MS.2.2.1 en rfl (vneg hc132_9).symm rfl rfl rfl (o_lt7 x8) hj rfl) (q2 := 1000000000000) (p2 := 12)) D52_627 0 rfl).pv
    replace k := k |>.ifNo D52_630  |>.aload D52_633 rfl rfl |>.iload D52_635 rfl |>.lload D52_637 rfl |>.bipush D52_639 13 |>.iload D52_641 rfl |>.ldcJ (w_252 hw) D52_643
    replace k := (k.callS (w_284 hw) (S49 hw) (R_di hw G O7 A7 (own_d105 rfl rfl rfl rfl rfl rfl rfl rfl rfl rfl p8a p8b p9a p9b hc132_9) (own_d81 rfl rfl rfl rfl rfl rfl p8a p8b p9a p9b hc132_9) (own_d90 rfl rfl rfl rfl rfl rfl p8a p8b p9a p9b hc132_9) (lt0 hc132_9) (by decide) (by decide) (fun hj => dg_at (j := 13) MS.2.2.1 en rfl (vneg hc132_9).symm rfl rfl rfl (o_lt7 x8) hj rfl) (q2 := 10000000000000) (p2 := 13)) D52_646 0 rfl).pv
    replace k := k |>.ifNo D52_649  |>.aload D52_652 rfl rfl |>.iload D52_654 rfl |>.lload D52_656 rfl |>.bipush D52_658 14 |>.iload D52_660 rfl |>.ldcJ (w_253 hw) D52_662
    replace k := (k.callS (w_284 hw) (S49 hw) (R_di hw G O7 A7 (own_d105 rfl rfl rfl rfl rfl rfl rfl rfl rfl rfl p8a p8b p9a p9b hc132_9) (own_d81 rfl rfl rfl rfl rfl rfl p8a p8b p9a p9b hc132_9) (own_d90 rfl rfl rfl rfl rfl rfl p8a p8b p9a p9b hc132_9) (lt0 hc132_9) (by decide) (by decide) (fun hj => dg_at (j := 14) MS.2.2.1 en rfl (vneg hc132_9).symm rfl rfl rfl (o_lt7 x8) hj rfl) (q2 := 100000000000000) (p2 := 14)) D52_665 0 rfl).pv
    replace k := k |>.ifNo D52_668  |>.aload D52_671 rfl rfl |>.iload D52_673 rfl |>.lload D52_675 rfl |>.bipush D52_677 15 |>.iload D52_679 rfl |>.ldcJ (w_254 hw) D52_681
    replace k := (k.callS (w_284 hw) (S49 hw) (R_di hw G O7 A7 (own_d105 rfl rfl rfl rfl rfl rfl rfl rfl rfl rfl p8a p8b p9a p9b hc132_9) (own_d81 rfl rfl rfl rfl rfl rfl p8a p8b p9a p9b hc132_9) (own_d90 rfl rfl rfl rfl rfl rfl p8a p8b p9a p9b hc132_9) (lt0 hc132_9) (by decide) (by decide) (fun hj => dg_at (j := 15) MS.2.2.1 en rfl (vneg hc132_9).symm rfl rfl rfl (o_lt7 x8) hj rfl) (q2 := 1000000000000000) (p2 := 15)) D52_684 0 rfl).pv
    replace k := k |>.ifNo D52_687  |>.aload D52_690 rfl rfl |>.iload D52_692 rfl |>.lload D52_694 rfl |>.bipush D52_696 16 |>.iload D52_698 rfl |>.ldcJ (w_255 hw) D52_700
    replace k := (k.callS (w_284 hw) (S49 hw) (R_di hw G O7 A7 (own_d105 rfl rfl rfl rfl rfl rfl rfl rfl rfl rfl p8a p8b p9a p9b hc132_9) (own_d81 rfl rfl rfl rfl rfl rfl p8a p8b p9a p9b hc132_9) (own_d90 rfl rfl rfl rfl rfl rfl p8a p8b p9a p9b hc132_9) (lt0 hc132_9) (by decide) (by decide) (fun hj => dg_at (j := 16) MS.2.2.1 en rfl (vneg hc132_9).symm rfl rfl rfl (o_lt7 x8) hj rfl) (q2 := 10000000000000000) (p2 := 16)) D52_703 0 rfl).pv
    replace k := k |>.ifNo D52_706  |>.aload D52_709 rfl rfl |>.iload D52_711 rfl |>.lload D52_713 rfl |>.bipush D52_715 17 |>.iload D52_717 rfl |>.ldcJ (w_256 hw) D52_719
    replace k := (k.callS (w_284 hw) (S49 hw) (R_di hw G O7 A7 (own_d105 rfl rfl rfl rfl rfl rfl rfl rfl rfl rfl p8a p8b p9a p9b hc132_9) (own_d81 rfl rfl rfl rfl rfl rfl p8a p8b p9a p9b hc132_9) (own_d90 rfl rfl rfl rfl rfl rfl p8a p8b p9a p9b hc132_9) (lt0 hc132_9) (by decide) (by decide) (fun hj => dg_at (j := 17) MS.2.2.1 en rfl (vneg hc132_9).symm rfl rfl rfl (o_lt7 x8) hj rfl) (q2 := 100000000000000000) (p2 := 17)) D52_722 0 rfl).pv
    replace k := k |>.ifNo D52_725  |>.aload D52_728 rfl rfl |>.iload D52_730 rfl |>.lload D52_732 rfl |>.bipush D52_734 18 |>.iload D52_736 rfl |>.ldcJ (w_257 hw) D52_738
    replace k := (k.callS (w_284 hw) (S49 hw) (R_di hw G O7 A7 (own_d105 rfl rfl rfl rfl rfl rfl rfl rfl rfl rfl p8a p8b p9a p9b hc132_9) (own_d81 rfl rfl rfl rfl rfl rfl p8a p8b p9a p9b hc132_9) (own_d90 rfl rfl rfl rfl rfl rfl p8a p8b p9a p9b hc132_9) (lt0 hc132_9) (by decide) (by decide) (fun hj => dg_at (j := 18) MS.2.2.1 en rfl (vneg hc132_9).symm rfl rfl rfl (o_lt7 x8) hj rfl) (q2 := 1000000000000000000) (p2 := 18)) D52_741 0 rfl).pv
    replace k := k |>.ifNo D52_744  |>.iconst D52_747 1 |>.goto D52_748 |>.istore D52_752 sto20 |>.iload D52_754 rfl |>.ifNo D52_756  |>.aload D52_759 rfl rfl |>.iload D52_761 rfl |>.bipush D52_763 58
    replace k := (k.callS (w_259 hw) (S48 hw) (R_at hw G O7 A7 (own_d106 rfl rfl rfl rfl rfl p8a p8b hc132_9) (own_d107 rfl rfl rfl rfl rfl rfl rfl rfl rfl rfl p8a p8b p9a p9b hc132_9) (own_d90 rfl rfl rfl rfl rfl rfl p8a p8b p9a p9b hc132_9) (own_d81 rfl rfl rfl rfl rfl rfl p8a p8b p9a p9b hc132_9) (atp_E MS x8 en (j := 0) (Int32.add_zero _).symm rfl (by decide) (by decide)) (p2 := 58)) D52_765 0 rfl).pv
    replace k := k |>.ifNo D52_768  |>.aload D52_771 rfl rfl |>.iload D52_773 rfl |>.iconst D52_775 1 |>.iadd D52_776 rfl |>.bipush D52_777 32
    replace k := (k.callS (w_259 hw) (S48 hw) (R_at hw G O7 A7 (own_d108 rfl rfl rfl rfl rfl rfl p8a p8b hc132_9) (own_d109 rfl rfl rfl rfl rfl rfl rfl rfl rfl rfl rfl p8a p8b p9a p9b hc132_9) (own_d90 rfl rfl rfl rfl rfl rfl p8a p8b p9a p9b hc132_9) (own_d81 rfl rfl rfl rfl rfl rfl p8a p8b p9a p9b hc132_9) (atp_E MS x8 en (j := 1) rfl rfl (by decide) (by decide)) (p2 := 32)) D52_779 0 rfl).pv
    replace k := k |>.ifNo D52_782  |>.iconst D52_785 1 |>.goto D52_786 |>.istore D52_790 sto20 |>.iload D52_792 rfl |>.ifNo D52_794 
    obtain k : k.At 817 #[.val (.int p1), .val (.int p2), .val (.long q1), .second, .val (.int p8), .val (.int (latc ((p1.toUInt32 >>> ((8 : Int32) &&& 31).toUInt32).toInt32))), .val (.int (latc ((p1.toUInt32 >>> ((16 : Int32) &&& 31).toUInt32).toInt32))), .val (.int p9), .val (.int (latc ((p2.toUInt32 >>> ((8 : Int32) &&& 31).toUInt32).toInt32))), .val (.int (latc ((p2.toUInt32 >>> ((16 : Int32) &&& 31).toUInt32).toInt32))), .val (.ref u3), .val (.ref u4), .val (.ref b7), .val (.ref u7), .val (.int 1), .val (.long q1), .second, .val (.int ((sszL q1) - 1)), .val (.int ((p8 + 7) + 1)), .val (.int (((p8 + 7) + 1) + ((sszL q1) - 1))), .val (.int 1)] [] := by
      replace k := k |>.iload D52_797 rfl |>.iconst D52_799 1
      by_cases hc800_13 : p9 < 1
      · replace k := k |>.icmpYes D52_800 (tlt hc800_13).1
        exact k
      · replace k := k |>.icmpNo D52_800 (flt hc800_13).1 |>.aload D52_803 rfl rfl |>.iload D52_805 rfl |>.iconst D52_807 2 |>.iadd D52_808 rfl |>.iload D52_809 rfl
        replace k := (k.callS (w_259 hw) (S48 hw) (R_at hw G O7 A7 (own_d110 rfl rfl rfl rfl rfl rfl p8a p8b hc132_9) (own_d111 rfl rfl rfl rfl rfl rfl rfl rfl rfl rfl rfl p8a p8b p9a p9b hc132_9 hc800_13) (own_d112 rfl rfl rfl rfl rfl rfl p8a p8b p9a p9b hc132_9 hc800_13) (own_d113 rfl rfl rfl rfl rfl rfl p8a p8b p9a p9b hc132_9 hc800_13) (atp_F MS x8 en (j := 0) rfl rfl ⟨p9a, p9b⟩ hc800_13 rfl F4)) D52_811 0 rfl).pv
        replace k := k |>.ifNo D52_814 
        exact k
    obtain k : k.At 837 #[.val (.int p1), .val (.int p2), .val (.long q1), .second, .val (.int p8), .val (.int (latc ((p1.toUInt32 >>> ((8 : Int32) &&& 31).toUInt32).toInt32))), .val (.int (latc ((p1.toUInt32 >>> ((16 : Int32) &&& 31).toUInt32).toInt32))), .val (.int p9), .val (.int (latc ((p2.toUInt32 >>> ((8 : Int32) &&& 31).toUInt32).toInt32))), .val (.int (latc ((p2.toUInt32 >>> ((16 : Int32) &&& 31).toUInt32).toInt32))), .val (.ref u3), .val (.ref u4), .val (.ref b7), .val (.ref u7), .val (.int 1), .val (.long q1), .second, .val (.int ((sszL q1) - 1)), .val (.int ((p8 + 7) + 1)), .val (.int (((p8 + 7) + 1) + ((sszL q1) - 1))), .val (.int 1)] [] := by
      replace k := k |>.iload D52_817 rfl |>.iconst D52_819 2
      by_cases hc820_14 : p9 < 2
      · replace k := k |>.icmpYes D52_820 (tlt hc820_14).1
        exact k
      · replace k := k |>.icmpNo D52_820 (flt hc820_14).1 |>.aload D52_823 rfl rfl |>.iload D52_825 rfl |>.iconst D52_827 3 |>.iadd D52_828 rfl |>.iload D52_829 rfl
        replace k := (k.callS (w_259 hw) (S48 hw) (R_at hw G O7 A7 (own_d114 rfl rfl rfl rfl rfl rfl p8a p8b hc132_9) (own_d115 rfl rfl rfl rfl rfl rfl rfl rfl rfl rfl rfl p8a p8b p9a p9b hc132_9 hc820_14) (own_d116 rfl rfl rfl rfl rfl rfl p8a p8b p9a p9b hc132_9 hc820_14) (own_d117 rfl rfl rfl rfl rfl rfl p8a p8b p9a p9b hc132_9 hc820_14) (atp_F MS x8 en (j := 1) rfl rfl ⟨p9a, p9b⟩ hc820_14 rfl H4)) D52_831 0 rfl).pv
        replace k := k |>.ifNo D52_834 
        exact k
    replace k := k |>.iconst D52_837 1 |>.goto D52_838 |>.istore D52_842 sto20 |>.iload D52_844 rfl
    exact k.retN (t := .boolean) D52_846 rfl (by simp) (z' := 1) (by decide) rfl
  · replace k := k |>.ifYes D52_132 ((if0 _ _).trans (flt (fun q => hc132_9 ((lw_lt _ _).mp q))).2.1) |>.iconst D52_139 0 |>.istore D52_140 sto14 |>.lloadN D52_142 rfl |>.lconst D52_143 0 |>.lcmp D52_144 |>.ifYes D52_145 ((if0 _ _).trans (flt (fun q => hc132_9 ((lw_lt _ _).mp q))).2.1) |>.lloadN D52_152 rfl |>.lneg D52_153 rfl |>.lstore D52_154 (Ls' := #[.val (.int p1), .val (.int p2), .val (.long q1), .second, .val (.int p8), .val (.int (latc ((p1.toUInt32 >>> ((8 : Int32) &&& 31).toUInt32).toInt32))), .val (.int (latc ((p1.toUInt32 >>> ((16 : Int32) &&& 31).toUInt32).toInt32))), .val (.int p9), .val (.int (latc ((p2.toUInt32 >>> ((8 : Int32) &&& 31).toUInt32).toInt32))), .val (.int (latc ((p2.toUInt32 >>> ((16 : Int32) &&& 31).toUInt32).toInt32))), .val (.ref u3), .val (.ref u4), .val (.ref b7), .val (.ref u7), .val (.int 0), .val (.long (-q1)), .second, .unset, .unset, .unset, .unset]) rfl |>.lload D52_156 rfl
    replace k := (k.callS (w_234 hw) (S51 hw) (R_ds hw G (vpos rfl hc132_9).2.1) D52_158 0 rfl).pv
    replace k := k |>.top (vpos rfl hc132_9).1 |>.istore D52_161 sto17 |>.iload D52_163 rfl |>.bipush D52_165 7 |>.iadd D52_167 rfl |>.iload D52_168 rfl |>.iadd D52_170 rfl |>.istore D52_171 sto18 |>.iload D52_173 rfl |>.iload D52_175 rfl |>.iadd D52_177 rfl |>.istore D52_178 sto19
    have en := en_p hc132_9 x8 rfl rfl rfl rfl
    replace k := k |>.aload D52_180 rfl rfl
    replace k := (k.callV (w_258 hw) (V_Y5_5_String hw) O7.exa (R_len hw G O7 A7 (own_d118 rfl rfl rfl rfl rfl rfl p8a p8b p9a p9b hc132_9)) D52_182 0 rfl).pv
    replace k := k |>.iload D52_185 rfl |>.iconst D52_187 2 |>.iadd D52_188 rfl |>.iload D52_189 rfl |>.iadd D52_191 rfl |>.icmpNo D52_192 (teq (own_d119 rfl rfl rfl rfl rfl rfl rfl rfl rfl rfl rfl p8a p8b p9a p9b hc132_9)).2 |>.iconst D52_195 1 |>.goto D52_196 |>.istore D52_200 sto20 |>.iload D52_202 rfl |>.ifNo D52_204 
    obtain k : k.At 224 #[.val (.int p1), .val (.int p2), .val (.long q1), .second, .val (.int p8), .val (.int (latc ((p1.toUInt32 >>> ((8 : Int32) &&& 31).toUInt32).toInt32))), .val (.int (latc ((p1.toUInt32 >>> ((16 : Int32) &&& 31).toUInt32).toInt32))), .val (.int p9), .val (.int (latc ((p2.toUInt32 >>> ((8 : Int32) &&& 31).toUInt32).toInt32))), .val (.int (latc ((p2.toUInt32 >>> ((16 : Int32) &&& 31).toUInt32).toInt32))), .val (.ref u3), .val (.ref u4), .val (.ref b7), .val (.ref u7), .val (.int 0), .val (.long (-q1)), .second, .val (.int (sszL q1)), .val (.int ((p8 + 7) + 0)), .val (.int (((p8 + 7) + 0) + (sszL q1))), .val (.int 1)] [] := by
      replace k := k |>.iload D52_207 rfl |>.iconst D52_209 1
      by_cases hc210_16 : p8 < 1
      · replace k := k |>.icmpYes D52_210 (tlt hc210_16).1
        exact k
      · replace k := k |>.icmpNo D52_210 (flt hc210_16).1 |>.aload D52_213 rfl rfl |>.iconst D52_215 0 |>.iload D52_216 rfl
        replace k := (k.callS (w_259 hw) (S48 hw) (R_at hw G O7 A7 (by decide) (own_d120 rfl rfl rfl rfl rfl rfl p8a p8b p9a p9b hc132_9 hc210_16) (own_d121 rfl rfl rfl rfl rfl rfl p8a p8b p9a p9b hc132_9 hc210_16) (own_d122 rfl rfl rfl rfl rfl rfl p8a p8b p9a p9b hc132_9 hc210_16) (atp_0 MS hc210_16 F3) (p1 := 0)) D52_218 0 rfl).pv
        replace k := k |>.ifNo D52_221 
        exact k
    obtain k : k.At 241 #[.val (.int p1), .val (.int p2), .val (.long q1), .second, .val (.int p8), .val (.int (latc ((p1.toUInt32 >>> ((8 : Int32) &&& 31).toUInt32).toInt32))), .val (.int (latc ((p1.toUInt32 >>> ((16 : Int32) &&& 31).toUInt32).toInt32))), .val (.int p9), .val (.int (latc ((p2.toUInt32 >>> ((8 : Int32) &&& 31).toUInt32).toInt32))), .val (.int (latc ((p2.toUInt32 >>> ((16 : Int32) &&& 31).toUInt32).toInt32))), .val (.ref u3), .val (.ref u4), .val (.ref b7), .val (.ref u7), .val (.int 0), .val (.long (-q1)), .second, .val (.int (sszL q1)), .val (.int ((p8 + 7) + 0)), .val (.int (((p8 + 7) + 0) + (sszL q1))), .val (.int 1)] [] := by
      replace k := k |>.iload D52_224 rfl |>.iconst D52_226 2
      by_cases hc227_17 : p8 < 2
      · replace k := k |>.icmpYes D52_227 (tlt hc227_17).1
        exact k
      · replace k := k |>.icmpNo D52_227 (flt hc227_17).1 |>.aload D52_230 rfl rfl |>.iconst D52_232 1 |>.iload D52_233 rfl
        replace k := (k.callS (w_259 hw) (S48 hw) (R_at hw G O7 A7 (by decide) (own_d123 rfl rfl rfl rfl rfl rfl p8a p8b p9a p9b hc132_9 hc227_17) (own_d124 rfl rfl rfl rfl rfl rfl p8a p8b p9a p9b hc132_9 hc227_17) (own_d125 rfl rfl rfl rfl rfl rfl p8a p8b p9a p9b hc132_9 hc227_17) (atp_1 MS x8 hc227_17 H3) (p1 := 1)) D52_235 0 rfl).pv
        replace k := k |>.ifNo D52_238 
        exact k
    replace k := k |>.iconst D52_241 1 |>.goto D52_242 |>.istore D52_246 sto20 |>.iload D52_248 rfl |>.ifNo D52_250  |>.aload D52_253 rfl rfl |>.iload D52_255 rfl |>.bipush D52_257 58
    replace k := (k.callS (w_259 hw) (S48 hw) (R_at hw G O7 A7 p8a (own_d126 rfl rfl rfl rfl rfl rfl p8a p8b p9a p9b hc132_9) (own_d127 rfl rfl rfl rfl rfl rfl p8a p8b p9a p9b hc132_9) (own_d118 rfl rfl rfl rfl rfl rfl p8a p8b p9a p9b hc132_9) (atp_L MS x8 (j := 0) (Int32.add_zero _).symm rfl (by decide) (by decide)) (p2 := 58)) D52_259 0 rfl).pv
    replace k := k |>.ifNo D52_262  |>.aload D52_265 rfl rfl |>.iload D52_267 rfl |>.iconst D52_269 1 |>.iadd D52_270 rfl |>.bipush D52_271 32
    replace k := (k.callS (w_259 hw) (S48 hw) (R_at hw G O7 A7 (own_d91 rfl p8a p8b) (own_d128 rfl rfl rfl rfl rfl rfl rfl p8a p8b p9a p9b hc132_9) (own_d127 rfl rfl rfl rfl rfl rfl p8a p8b p9a p9b hc132_9) (own_d118 rfl rfl rfl rfl rfl rfl p8a p8b p9a p9b hc132_9) (atp_L MS x8 (j := 1) rfl rfl (by decide) (by decide)) (p2 := 32)) D52_273 0 rfl).pv
    replace k := k |>.ifNo D52_276  |>.aload D52_279 rfl rfl |>.iload D52_281 rfl |>.iconst D52_283 2 |>.iadd D52_284 rfl |>.bipush D52_285 108
    replace k := (k.callS (w_259 hw) (S48 hw) (R_at hw G O7 A7 (own_d93 rfl p8a p8b) (own_d129 rfl rfl rfl rfl rfl rfl rfl p8a p8b p9a p9b hc132_9) (own_d127 rfl rfl rfl rfl rfl rfl p8a p8b p9a p9b hc132_9) (own_d118 rfl rfl rfl rfl rfl rfl p8a p8b p9a p9b hc132_9) (atp_L MS x8 (j := 2) rfl rfl (by decide) (by decide)) (p2 := 108)) D52_287 0 rfl).pv
    replace k := k |>.ifNo D52_290  |>.aload D52_293 rfl rfl |>.iload D52_295 rfl |>.iconst D52_297 3 |>.iadd D52_298 rfl |>.bipush D52_299 105
    replace k := (k.callS (w_259 hw) (S48 hw) (R_at hw G O7 A7 (own_d95 rfl p8a p8b) (own_d130 rfl rfl rfl rfl rfl rfl rfl p8a p8b p9a p9b hc132_9) (own_d127 rfl rfl rfl rfl rfl rfl p8a p8b p9a p9b hc132_9) (own_d118 rfl rfl rfl rfl rfl rfl p8a p8b p9a p9b hc132_9) (atp_L MS x8 (j := 3) rfl rfl (by decide) (by decide)) (p2 := 105)) D52_301 0 rfl).pv
    replace k := k |>.ifNo D52_304  |>.aload D52_307 rfl rfl |>.iload D52_309 rfl |>.iconst D52_311 4 |>.iadd D52_312 rfl |>.bipush D52_313 110
    replace k := (k.callS (w_259 hw) (S48 hw) (R_at hw G O7 A7 (own_d97 rfl p8a p8b) (own_d131 rfl rfl rfl rfl rfl rfl rfl p8a p8b p9a p9b hc132_9) (own_d127 rfl rfl rfl rfl rfl rfl p8a p8b p9a p9b hc132_9) (own_d118 rfl rfl rfl rfl rfl rfl p8a p8b p9a p9b hc132_9) (atp_L MS x8 (j := 4) rfl rfl (by decide) (by decide)) (p2 := 110)) D52_315 0 rfl).pv
    replace k := k |>.ifNo D52_318  |>.aload D52_321 rfl rfl |>.iload D52_323 rfl |>.iconst D52_325 5 |>.iadd D52_326 rfl |>.bipush D52_327 101
    replace k := (k.callS (w_259 hw) (S48 hw) (R_at hw G O7 A7 (own_d99 rfl p8a p8b) (own_d132 rfl rfl rfl rfl rfl rfl rfl p8a p8b p9a p9b hc132_9) (own_d127 rfl rfl rfl rfl rfl rfl p8a p8b p9a p9b hc132_9) (own_d118 rfl rfl rfl rfl rfl rfl p8a p8b p9a p9b hc132_9) (atp_L MS x8 (j := 5) rfl rfl (by decide) (by decide)) (p2 := 101)) D52_329 0 rfl).pv
    replace k := k |>.ifNo D52_332  |>.aload D52_335 rfl rfl |>.iload D52_337 rfl |>.bipush D52_339 6 |>.iadd D52_341 rfl |>.bipush D52_342 32
    replace k := (k.callS (w_259 hw) (S48 hw) (R_at hw G O7 A7 (own_d101 rfl p8a p8b) (own_d133 rfl rfl rfl rfl rfl rfl rfl p8a p8b p9a p9b hc132_9) (own_d127 rfl rfl rfl rfl rfl rfl p8a p8b p9a p9b hc132_9) (own_d118 rfl rfl rfl rfl rfl rfl p8a p8b p9a p9b hc132_9) (atp_L MS x8 (j := 6) rfl rfl (by decide) (by decide)) (p2 := 32)) D52_344 0 rfl).pv
    replace k := k |>.ifNo D52_347  |>.iconst D52_350 1 |>.goto D52_351 |>.istore D52_355 sto20 |>.iload D52_357 rfl |>.ifNo D52_359  |>.iload D52_362 rfl |>.ifYes D52_364  |>.iconst D52_382 1 |>.goto D52_383 |>.istore D52_387 sto20 |>.iload D52_389 rfl
    replace k := k |>.ifNo D52_391  |>.aload D52_394 rfl rfl |>.iload D52_396 rfl |>.lload D52_398 rfl |>.iconst D52_400 0 |>.iload D52_401 rfl |>.lconst D52_403 1
    replace k := (k.callS (w_284 hw) (S49 hw) (R_di hw G O7 A7 (own_d134 rfl rfl rfl rfl rfl rfl rfl rfl rfl p8a p8b p9a p9b hc132_9) (own_d118 rfl rfl rfl rfl rfl rfl p8a p8b p9a p9b hc132_9) (own_d127 rfl rfl rfl rfl rfl rfl p8a p8b p9a p9b hc132_9) (vpos rfl hc132_9).2.1 (by decide) (by decide) (fun hj => dg_at (j := 0) MS.2.2.1 en (vpos rfl hc132_9).2.2 (vpos rfl hc132_9).1.symm rfl rfl rfl (o_lt7 x8) hj rfl) (q2 := 1) (p2 := 0)) D52_404 0 rfl).pv
    replace k := k |>.ifNo D52_407  |>.aload D52_410 rfl rfl |>.iload D52_412 rfl |>.lload D52_414 rfl |>.iconst D52_416 1 |>.iload D52_417 rfl |>.ldcJ (w_237 hw) D52_419
    replace k := (k.callS (w_284 hw) (S49 hw) (R_di hw G O7 A7 (own_d134 rfl rfl rfl rfl rfl rfl rfl rfl rfl p8a p8b p9a p9b hc132_9) (own_d118 rfl rfl rfl rfl rfl rfl p8a p8b p9a p9b hc132_9) (own_d127 rfl rfl rfl rfl rfl rfl p8a p8b p9a p9b hc132_9) (vpos rfl hc132_9).2.1 (by decide) (by decide) (fun hj => dg_at (j := 1) MS.2.2.1 en (vpos rfl hc132_9).2.2 (vpos rfl hc132_9).1.symm rfl rfl rfl (o_lt7 x8) hj rfl) (q2 := 10) (p2 := 1)) D52_422 0 rfl).pv
    replace k := k |>.ifNo D52_425  |>.aload D52_428 rfl rfl |>.iload D52_430 rfl |>.lload D52_432 rfl |>.iconst D52_434 2 |>.iload D52_435 rfl |>.ldcJ (w_241 hw) D52_437
    replace k := (k.callS (w_284 hw) (S49 hw) (R_di hw G O7 A7 (own_d134 rfl rfl rfl rfl rfl rfl rfl rfl rfl p8a p8b p9a p9b hc132_9) (own_d118 rfl rfl rfl rfl rfl rfl p8a p8b p9a p9b hc132_9) (own_d127 rfl rfl rfl rfl rfl rfl p8a p8b p9a p9b hc132_9) (vpos rfl hc132_9).2.1 (by decide) (by decide) (fun hj => dg_at (j := 2) MS.2.2.1 en (vpos rfl hc132_9).2.2 (vpos rfl hc132_9).1.symm rfl rfl rfl (o_lt7 x8) hj rfl) (q2 := 100) (p2 := 2)) D52_440 0 rfl).pv
    replace k := k |>.ifNo D52_443  |>.aload D52_446 rfl rfl |>.iload D52_448 rfl |>.lload D52_450 rfl |>.iconst D52_452 3 |>.iload D52_453 rfl |>.ldcJ (w_242 hw) D52_455
    replace k := (k.callS (w_284 hw) (S49 hw) (R_di hw G O7 A7 (own_d134 rfl rfl rfl rfl rfl rfl rfl rfl rfl p8a p8b p9a p9b hc132_9) (own_d118 rfl rfl rfl rfl rfl rfl p8a p8b p9a p9b hc132_9) (own_d127 rfl rfl rfl rfl rfl rfl p8a p8b p9a p9b hc132_9) (vpos rfl hc132_9).2.1 (by decide) (by decide) (fun hj => dg_at (j := 3) MS.2.2.1 en (vpos rfl hc132_9).2.2 (vpos rfl hc132_9).1.symm rfl rfl rfl (o_lt7 x8) hj rfl) (q2 := 1000) (p2 := 3)) D52_458 0 rfl).pv
    replace k := k |>.ifNo D52_461  |>.aload D52_464 rfl rfl |>.iload D52_466 rfl |>.lload D52_468 rfl |>.iconst D52_470 4 |>.iload D52_471 rfl |>.ldcJ (w_243 hw) D52_473
    replace k := (k.callS (w_284 hw) (S49 hw) (R_di hw G O7 A7 (own_d134 rfl rfl rfl rfl rfl rfl rfl rfl rfl p8a p8b p9a p9b hc132_9) (own_d118 rfl rfl rfl rfl rfl rfl p8a p8b p9a p9b hc132_9) (own_d127 rfl rfl rfl rfl rfl rfl p8a p8b p9a p9b hc132_9) (vpos rfl hc132_9).2.1 (by decide) (by decide) (fun hj => dg_at (j := 4) MS.2.2.1 en (vpos rfl hc132_9).2.2 (vpos rfl hc132_9).1.symm rfl rfl rfl (o_lt7 x8) hj rfl) (q2 := 10000) (p2 := 4)) D52_476 0 rfl).pv
    replace k := k |>.ifNo D52_479  |>.aload D52_482 rfl rfl |>.iload D52_484 rfl |>.lload D52_486 rfl |>.iconst D52_488 5 |>.iload D52_489 rfl |>.ldcJ (w_244 hw) D52_491
    replace k := (k.callS (w_284 hw) (S49 hw) (R_di hw G O7 A7 (own_d134 rfl rfl rfl rfl rfl rfl rfl rfl rfl p8a p8b p9a p9b hc132_9) (own_d118 rfl rfl rfl rfl rfl rfl p8a p8b p9a p9b hc132_9) (own_d127 rfl rfl rfl rfl rfl rfl p8a p8b p9a p9b hc132_9) (vpos rfl hc132_9).2.1 (by decide) (by decide) (fun hj => dg_at (j := 5) MS.2.2.1 en (vpos rfl hc132_9).2.2 (vpos rfl hc132_9).1.symm rfl rfl rfl (o_lt7 x8) hj rfl) (q2 := 100000) (p2 := 5)) D52_494 0 rfl).pv
    replace k := k |>.ifNo D52_497  |>.aload D52_500 rfl rfl |>.iload D52_502 rfl |>.lload D52_504 rfl |>.bipush D52_506 6 |>.iload D52_508 rfl |>.ldcJ (w_245 hw) D52_510
    replace k := (k.callS (w_284 hw) (S49 hw) (R_di hw G O7 A7 (own_d134 rfl rfl rfl rfl rfl rfl rfl rfl rfl p8a p8b p9a p9b hc132_9) (own_d118 rfl rfl rfl rfl rfl rfl p8a p8b p9a p9b hc132_9) (own_d127 rfl rfl rfl rfl rfl rfl p8a p8b p9a p9b hc132_9) (vpos rfl hc132_9).2.1 (by decide) (by decide) (fun hj => dg_at (j := 6) MS.2.2.1 en (vpos rfl hc132_9).2.2 (vpos rfl hc132_9).1.symm rfl rfl rfl (o_lt7 x8) hj rfl) (q2 := 1000000) (p2 := 6)) D52_513 0 rfl).pv
    replace k := k |>.ifNo D52_516  |>.aload D52_519 rfl rfl |>.iload D52_521 rfl |>.lload D52_523 rfl |>.bipush D52_525 7 |>.iload D52_527 rfl |>.ldcJ (w_246 hw) D52_529
    replace k := (k.callS (w_284 hw) (S49 hw) (R_di hw G O7 A7 (own_d134 rfl rfl rfl rfl rfl rfl rfl rfl rfl p8a p8b p9a p9b hc132_9) (own_d118 rfl rfl rfl rfl rfl rfl p8a p8b p9a p9b hc132_9) (own_d127 rfl rfl rfl rfl rfl rfl p8a p8b p9a p9b hc132_9) (vpos rfl hc132_9).2.1 (by decide) (by decide) (fun hj => dg_at (j := 7) MS.2.2.1 en (vpos rfl hc132_9).2.2 (vpos rfl hc132_9).1.symm rfl rfl rfl (o_lt7 x8) hj rfl) (q2 := 10000000) (p2 := 7)) D52_532 0 rfl).pv
    replace k := k |>.ifNo D52_535  |>.aload D52_538 rfl rfl |>.iload D52_540 rfl |>.lload D52_542 rfl |>.bipush D52_544 8 |>.iload D52_546 rfl |>.ldcJ (w_247 hw) D52_548
    replace k := (k.callS (w_284 hw) (S49 hw) (R_di hw G O7 A7 (own_d134 rfl rfl rfl rfl rfl rfl rfl rfl rfl p8a p8b p9a p9b hc132_9) (own_d118 rfl rfl rfl rfl rfl rfl p8a p8b p9a p9b hc132_9) (own_d127 rfl rfl rfl rfl rfl rfl p8a p8b p9a p9b hc132_9) (vpos rfl hc132_9).2.1 (by decide) (by decide) (fun hj => dg_at (j := 8) MS.2.2.1 en (vpos rfl hc132_9).2.2 (vpos rfl hc132_9).1.symm rfl rfl rfl (o_lt7 x8) hj rfl) (q2 := 100000000) (p2 := 8)) D52_551 0 rfl).pv
    replace k := k |>.ifNo D52_554  |>.aload D52_557 rfl rfl |>.iload D52_559 rfl |>.lload D52_561 rfl |>.bipush D52_563 9 |>.iload D52_565 rfl |>.ldcJ (w_248 hw) D52_567
    replace k := (k.callS (w_284 hw) (S49 hw) (R_di hw G O7 A7 (own_d134 rfl rfl rfl rfl rfl rfl rfl rfl rfl p8a p8b p9a p9b hc132_9) (own_d118 rfl rfl rfl rfl rfl rfl p8a p8b p9a p9b hc132_9) (own_d127 rfl rfl rfl rfl rfl rfl p8a p8b p9a p9b hc132_9) (vpos rfl hc132_9).2.1 (by decide) (by decide) (fun hj => dg_at (j := 9) MS.2.2.1 en (vpos rfl hc132_9).2.2 (vpos rfl hc132_9).1.symm rfl rfl rfl (o_lt7 x8) hj rfl) (q2 := 1000000000) (p2 := 9)) D52_570 0 rfl).pv
    replace k := k |>.ifNo D52_573  |>.aload D52_576 rfl rfl |>.iload D52_578 rfl |>.lload D52_580 rfl |>.bipush D52_582 10 |>.iload D52_584 rfl |>.ldcJ (w_249 hw) D52_586
    replace k := (k.callS (w_284 hw) (S49 hw) (R_di hw G O7 A7 (own_d134 rfl rfl rfl rfl rfl rfl rfl rfl rfl p8a p8b p9a p9b hc132_9) (own_d118 rfl rfl rfl rfl rfl rfl p8a p8b p9a p9b hc132_9) (own_d127 rfl rfl rfl rfl rfl rfl p8a p8b p9a p9b hc132_9) (vpos rfl hc132_9).2.1 (by decide) (by decide) (fun hj => dg_at (j := 10) MS.2.2.1 en (vpos rfl hc132_9).2.2 (vpos rfl hc132_9).1.symm rfl rfl rfl (o_lt7 x8) hj rfl) (q2 := 10000000000) (p2 := 10)) D52_589 0 rfl).pv
    replace k := k |>.ifNo D52_592  |>.aload D52_595 rfl rfl |>.iload D52_597 rfl |>.lload D52_599 rfl |>.bipush D52_601 11 |>.iload D52_603 rfl |>.ldcJ (w_250 hw) D52_605
    replace k := (k.callS (w_284 hw) (S49 hw) (R_di hw G O7 A7 (own_d134 rfl rfl rfl rfl rfl rfl rfl rfl rfl p8a p8b p9a p9b hc132_9) (own_d118 rfl rfl rfl rfl rfl rfl p8a p8b p9a p9b hc132_9) (own_d127 rfl rfl rfl rfl rfl rfl p8a p8b p9a p9b hc132_9) (vpos rfl hc132_9).2.1 (by decide) (by decide) (fun hj => dg_at (j := 11) MS.2.2.1 en (vpos rfl hc132_9).2.2 (vpos rfl hc132_9).1.symm rfl rfl rfl (o_lt7 x8) hj rfl) (q2 := 100000000000) (p2 := 11)) D52_608 0 rfl).pv
    replace k := k |>.ifNo D52_611  |>.aload D52_614 rfl rfl |>.iload D52_616 rfl |>.lload D52_618 rfl |>.bipush D52_620 12 |>.iload D52_622 rfl |>.ldcJ (w_251 hw) D52_624
    replace k := (k.callS (w_284 hw) (S49 hw) (R_di hw G O7 A7 (own_d134 rfl rfl rfl rfl rfl rfl rfl rfl rfl p8a p8b p9a p9b hc132_9) (own_d118 rfl rfl rfl rfl rfl rfl p8a p8b p9a p9b hc132_9) (own_d127 rfl rfl rfl rfl rfl rfl p8a p8b p9a p9b hc132_9) (vpos rfl hc132_9).2.1 (by decide) (by decide) (fun hj => dg_at (j := 12) MS.2.2.1 en (vpos rfl hc132_9).2.2 (vpos rfl hc132_9).1.symm rfl rfl rfl (o_lt7 x8) hj rfl) (q2 := 1000000000000) (p2 := 12)) D52_627 0 rfl).pv
    replace k := k |>.ifNo D52_630  |>.aload D52_633 rfl rfl |>.iload D52_635 rfl |>.lload D52_637 rfl |>.bipush D52_639 13 |>.iload D52_641 rfl |>.ldcJ (w_252 hw) D52_643
    replace k := (k.callS (w_284 hw) (S49 hw) (R_di hw G O7 A7 (own_d134 rfl rfl rfl rfl rfl rfl rfl rfl rfl p8a p8b p9a p9b hc132_9) (own_d118 rfl rfl rfl rfl rfl rfl p8a p8b p9a p9b hc132_9) (own_d127 rfl rfl rfl rfl rfl rfl p8a p8b p9a p9b hc132_9) (vpos rfl hc132_9).2.1 (by decide) (by decide) (fun hj => dg_at (j := 13) MS.2.2.1 en (vpos rfl hc132_9).2.2 (vpos rfl hc132_9).1.symm rfl rfl rfl (o_lt7 x8) hj rfl) (q2 := 10000000000000) (p2 := 13)) D52_646 0 rfl).pv
    replace k := k |>.ifNo D52_649  |>.aload D52_652 rfl rfl |>.iload D52_654 rfl |>.lload D52_656 rfl |>.bipush D52_658 14 |>.iload D52_660 rfl |>.ldcJ (w_253 hw) D52_662
    replace k := (k.callS (w_284 hw) (S49 hw) (R_di hw G O7 A7 (own_d134 rfl rfl rfl rfl rfl rfl rfl rfl rfl p8a p8b p9a p9b hc132_9) (own_d118 rfl rfl rfl rfl rfl rfl p8a p8b p9a p9b hc132_9) (own_d127 rfl rfl rfl rfl rfl rfl p8a p8b p9a p9b hc132_9) (vpos rfl hc132_9).2.1 (by decide) (by decide) (fun hj => dg_at (j := 14) MS.2.2.1 en (vpos rfl hc132_9).2.2 (vpos rfl hc132_9).1.symm rfl rfl rfl (o_lt7 x8) hj rfl) (q2 := 100000000000000) (p2 := 14)) D52_665 0 rfl).pv
    replace k := k |>.ifNo D52_668  |>.aload D52_671 rfl rfl |>.iload D52_673 rfl |>.lload D52_675 rfl |>.bipush D52_677 15 |>.iload D52_679 rfl |>.ldcJ (w_254 hw) D52_681
    replace k := (k.callS (w_284 hw) (S49 hw) (R_di hw G O7 A7 (own_d134 rfl rfl rfl rfl rfl rfl rfl rfl rfl p8a p8b p9a p9b hc132_9) (own_d118 rfl rfl rfl rfl rfl rfl p8a p8b p9a p9b hc132_9) (own_d127 rfl rfl rfl rfl rfl rfl p8a p8b p9a p9b hc132_9) (vpos rfl hc132_9).2.1 (by decide) (by decide) (fun hj => dg_at (j := 15) MS.2.2.1 en (vpos rfl hc132_9).2.2 (vpos rfl hc132_9).1.symm rfl rfl rfl (o_lt7 x8) hj rfl) (q2 := 1000000000000000) (p2 := 15)) D52_684 0 rfl).pv
    replace k := k |>.ifNo D52_687  |>.aload D52_690 rfl rfl |>.iload D52_692 rfl |>.lload D52_694 rfl |>.bipush D52_696 16 |>.iload D52_698 rfl |>.ldcJ (w_255 hw) D52_700
    replace k := (k.callS (w_284 hw) (S49 hw) (R_di hw G O7 A7 (own_d134 rfl rfl rfl rfl rfl rfl rfl rfl rfl p8a p8b p9a p9b hc132_9) (own_d118 rfl rfl rfl rfl rfl rfl p8a p8b p9a p9b hc132_9) (own_d127 rfl rfl rfl rfl rfl rfl p8a p8b p9a p9b hc132_9) (vpos rfl hc132_9).2.1 (by decide) (by decide) (fun hj => dg_at (j := 16) MS.2.2.1 en (vpos rfl hc132_9).2.2 (vpos rfl hc132_9).1.symm rfl rfl rfl (o_lt7 x8) hj rfl) (q2 := 10000000000000000) (p2 := 16)) D52_703 0 rfl).pv
    replace k := k |>.ifNo D52_706  |>.aload D52_709 rfl rfl |>.iload D52_711 rfl |>.lload D52_713 rfl |>.bipush D52_715 17 |>.iload D52_717 rfl |>.ldcJ (w_256 hw) D52_719
    replace k := (k.callS (w_284 hw) (S49 hw) (R_di hw G O7 A7 (own_d134 rfl rfl rfl rfl rfl rfl rfl rfl rfl p8a p8b p9a p9b hc132_9) (own_d118 rfl rfl rfl rfl rfl rfl p8a p8b p9a p9b hc132_9) (own_d127 rfl rfl rfl rfl rfl rfl p8a p8b p9a p9b hc132_9) (vpos rfl hc132_9).2.1 (by decide) (by decide) (fun hj => dg_at (j := 17) MS.2.2.1 en (vpos rfl hc132_9).2.2 (vpos rfl hc132_9).1.symm rfl rfl rfl (o_lt7 x8) hj rfl) (q2 := 100000000000000000) (p2 := 17)) D52_722 0 rfl).pv
    replace k := k |>.ifNo D52_725  |>.aload D52_728 rfl rfl |>.iload D52_730 rfl |>.lload D52_732 rfl |>.bipush D52_734 18 |>.iload D52_736 rfl |>.ldcJ (w_257 hw) D52_738
    replace k := (k.callS (w_284 hw) (S49 hw) (R_di hw G O7 A7 (own_d134 rfl rfl rfl rfl rfl rfl rfl rfl rfl p8a p8b p9a p9b hc132_9) (own_d118 rfl rfl rfl rfl rfl rfl p8a p8b p9a p9b hc132_9) (own_d127 rfl rfl rfl rfl rfl rfl p8a p8b p9a p9b hc132_9) (vpos rfl hc132_9).2.1 (by decide) (by decide) (fun hj => dg_at (j := 18) MS.2.2.1 en (vpos rfl hc132_9).2.2 (vpos rfl hc132_9).1.symm rfl rfl rfl (o_lt7 x8) hj rfl) (q2 := 1000000000000000000) (p2 := 18)) D52_741 0 rfl).pv
    replace k := k |>.ifNo D52_744  |>.iconst D52_747 1 |>.goto D52_748 |>.istore D52_752 sto20 |>.iload D52_754 rfl |>.ifNo D52_756  |>.aload D52_759 rfl rfl |>.iload D52_761 rfl |>.bipush D52_763 58
    replace k := (k.callS (w_259 hw) (S48 hw) (R_at hw G O7 A7 (own_d135 rfl rfl rfl rfl p8a p8b hc132_9) (own_d136 rfl rfl rfl rfl rfl rfl rfl rfl rfl p8a p8b p9a p9b hc132_9) (own_d127 rfl rfl rfl rfl rfl rfl p8a p8b p9a p9b hc132_9) (own_d118 rfl rfl rfl rfl rfl rfl p8a p8b p9a p9b hc132_9) (atp_E MS x8 en (j := 0) (Int32.add_zero _).symm rfl (by decide) (by decide)) (p2 := 58)) D52_765 0 rfl).pv
    replace k := k |>.ifNo D52_768  |>.aload D52_771 rfl rfl |>.iload D52_773 rfl |>.iconst D52_775 1 |>.iadd D52_776 rfl |>.bipush D52_777 32
    replace k := (k.callS (w_259 hw) (S48 hw) (R_at hw G O7 A7 (own_d137 rfl rfl rfl rfl rfl p8a p8b hc132_9) (own_d138 rfl rfl rfl rfl rfl rfl rfl rfl rfl rfl p8a p8b p9a p9b hc132_9) (own_d127 rfl rfl rfl rfl rfl rfl p8a p8b p9a p9b hc132_9) (own_d118 rfl rfl rfl rfl rfl rfl p8a p8b p9a p9b hc132_9) (atp_E MS x8 en (j := 1) rfl rfl (by decide) (by decide)) (p2 := 32)) D52_779 0 rfl).pv
    replace k := k |>.ifNo D52_782  |>.iconst D52_785 1 |>.goto D52_786 |>.istore D52_790 sto20 |>.iload D52_792 rfl |>.ifNo D52_794 
    obtain k : k.At 817 #[.val (.int p1), .val (.int p2), .val (.long q1), .second, .val (.int p8), .val (.int (latc ((p1.toUInt32 >>> ((8 : Int32) &&& 31).toUInt32).toInt32))), .val (.int (latc ((p1.toUInt32 >>> ((16 : Int32) &&& 31).toUInt32).toInt32))), .val (.int p9), .val (.int (latc ((p2.toUInt32 >>> ((8 : Int32) &&& 31).toUInt32).toInt32))), .val (.int (latc ((p2.toUInt32 >>> ((16 : Int32) &&& 31).toUInt32).toInt32))), .val (.ref u3), .val (.ref u4), .val (.ref b7), .val (.ref u7), .val (.int 0), .val (.long (-q1)), .second, .val (.int (sszL q1)), .val (.int ((p8 + 7) + 0)), .val (.int (((p8 + 7) + 0) + (sszL q1))), .val (.int 1)] [] := by
      replace k := k |>.iload D52_797 rfl |>.iconst D52_799 1
      by_cases hc800_18 : p9 < 1
      · replace k := k |>.icmpYes D52_800 (tlt hc800_18).1
        exact k
      · replace k := k |>.icmpNo D52_800 (flt hc800_18).1 |>.aload D52_803 rfl rfl |>.iload D52_805 rfl |>.iconst D52_807 2 |>.iadd D52_808 rfl |>.iload D52_809 rfl
        replace k := (k.callS (w_259 hw) (S48 hw) (R_at hw G O7 A7 (own_d139 rfl rfl rfl rfl rfl p8a p8b hc132_9) (own_d140 rfl rfl rfl rfl rfl rfl rfl rfl rfl rfl p8a p8b p9a p9b hc132_9 hc800_18) (own_d141 rfl rfl rfl rfl rfl rfl p8a p8b p9a p9b hc132_9 hc800_18) (own_d142 rfl rfl rfl rfl rfl rfl p8a p8b p9a p9b hc132_9 hc800_18) (atp_F MS x8 en (j := 0) rfl rfl ⟨p9a, p9b⟩ hc800_18 rfl F4)) D52_811 0 rfl).pv
        replace k := k |>.ifNo D52_814 
        exact k
    obtain k : k.At 837 #[.val (.int p1), .val (.int p2), .val (.long q1), .second, .val (.int p8), .val (.int (latc ((p1.toUInt32 >>> ((8 : Int32) &&& 31).toUInt32).toInt32))), .val (.int (latc ((p1.toUInt32 >>> ((16 : Int32) &&& 31).toUInt32).toInt32))), .val (.int p9), .val (.int (latc ((p2.toUInt32 >>> ((8 : Int32) &&& 31).toUInt32).toInt32))), .val (.int (latc ((p2.toUInt32 >>> ((16 : Int32) &&& 31).toUInt32).toInt32))), .val (.ref u3), .val (.ref u4), .val (.ref b7), .val (.ref u7), .val (.int 0), .val (.long (-q1)), .second, .val (.int (sszL q1)), .val (.int ((p8 + 7) + 0)), .val (.int (((p8 + 7) + 0) + (sszL q1))), .val (.int 1)] [] := by
      replace k := k |>.iload D52_817 rfl |>.iconst D52_819 2
      by_cases hc820_19 : p9 < 2
      · replace k := k |>.icmpYes D52_820 (tlt hc820_19).1
        exact k
      · replace k := k |>.icmpNo D52_820 (flt hc820_19).1 |>.aload D52_823 rfl rfl |>.iload D52_825 rfl |>.iconst D52_827 3 |>.iadd D52_828 rfl |>.iload D52_829 rfl
        replace k := (k.callS (w_259 hw) (S48 hw) (R_at hw G O7 A7 (own_d143 rfl rfl rfl rfl rfl p8a p8b hc132_9) (own_d144 rfl rfl rfl rfl rfl rfl rfl rfl rfl rfl p8a p8b p9a p9b hc132_9 hc820_19) (own_d145 rfl rfl rfl rfl rfl rfl p8a p8b p9a p9b hc132_9 hc820_19) (own_d146 rfl rfl rfl rfl rfl rfl p8a p8b p9a p9b hc132_9 hc820_19) (atp_F MS x8 en (j := 1) rfl rfl ⟨p9a, p9b⟩ hc820_19 rfl H4)) D52_831 0 rfl).pv
        replace k := k |>.ifNo D52_834 
        exact k
    replace k := k |>.iconst D52_837 1 |>.goto D52_838 |>.istore D52_842 sto20 |>.iload D52_844 rfl
    exact k.retN (t := .boolean) D52_846 rfl (by simp) (z' := 1) (by decide) rfl
/-! Integer's DigitOnes, DigitTens: out of the named words -/
theorem lenOwn {args : Array Value} {s : State} {t : Term} {w : Addr} {cl : Cell} {z : Int32} (ev : t.eval args s none [] s = some (.ref w)) (ha : s.arrayAt? w = some cl) (hl : (Jvm.Term.length t).eval args s none [] s = some (.int z)) : cl.slots.size < 2 ^ 31 ∧ cl.slots.size.toInt32 = z := by
  simp [Term.eval, ev, ha] at hl
  exact hl
theorem tblOwn {a : Array Value} {s : State} {name : String} {F : Term} {g : Nat → Int32} (h1 : (Cond.initializedFor "java/lang/Integer" name "[B").before a s = true) (h2 : (Cond.exactly (.static "java/lang/Integer" name "[B") "[B").before a s = true) (h3 : (Cond.eq (.length (.static "java/lang/Integer" name "[B")) (.int 100)).before a s = true) (h4 : (Cond.all (.static "java/lang/Integer" name "[B") (.eq (.elem (.static "java/lang/Integer" name "[B") (.index 0)) F)).before a s = true) (harr : (Cond.arrayClass .byte).before a s = true)
    (hF : ∀ i, i < 100 → F.eval a s none [i] s = some (.int (g i))) (hg : ∀ i, i < 100 → fits .byte (.int (g i)) = true) : ∃ w, Sta s s.heap "java/lang/Integer" name "[B" (.ref w) ∧ Ary s s.heap w ("[B", .byte) 100 (bv g) := by
  obtain ⟨w, ev⟩ := exa_v (Cond.before_iff.mp h2)
  have S := Sta.start ev (Or.inl h1)
  have E := Exa.start ev (Cond.before_iff.mp h2)
  have evAll : ∀ idx, (Term.static "java/lang/Integer" name "[B").eval a s none idx s = some (.ref w) := fun idx => by
    have : (Term.static "java/lang/Integer" name "[B").eval a s none idx s = (Term.static "java/lang/Integer" name "[B").eval a s none [] s := by simp only [Term.eval]
    rw [this]; exact ev
  have hl := eqv_i (Term.int_eval 100) (Cond.before_iff.mp h3)
  obtain ⟨w', cl, ev', ha, hlen⟩ := Term.length_spec hl
  cases ev.symm.trans ev'
  have hsz := lenOwn ev ha hl
  have h100 : cl.slots.size = 100 := by
    have := congrArg Int32.toInt hsz.2
    rw [show cl.slots.size.toInt32 = Int32.ofNat cl.slots.size from rfl, Int32.toInt_ofNat_small hsz.1] at this
    have z : (100 : Int32).toInt = 100 := rfl
    omega
  obtain ⟨hc, hu, -, -⟩ := State.arrayAt?_spec ha
  obtain ⟨cB, kB, comp, hnB, hkB, hkind⟩ := Cond.arrayClass_spec harr
  obtain ⟨cell, k, e1, e2, e3, e4, e5⟩ := id E
  cases e1.symm.trans hc
  rw [show ("[" ++ FieldType.toString .byte) = "[B" by decide] at hnB
  cases e2.symm.trans hnB
  refine ⟨w, S, Or.inr E, cl, ⟨hc, ⟨(fun q h => by rw [h] at e4; cases e4), kB, hkB, comp, hkind⟩, hu⟩, OvT.of_prim rfl, h100, by decide, fun i hi => ?_, hg⟩
  have q := eqv_i (hF i hi) (Cond.all_elim (evAll []) ha (Cond.before_iff.mp h4) i (by omega))
  have hn : ¬ (i.toInt32 < 0) := Int32.ofNat_not_neg (show i < 2 ^ 31 by omega)
  rw [elem_f (j := i.toInt32) (evAll _) rfl ha hn] at q
  rw [show i.toInt32.toNatClampNeg = i by show i.toInt32.toInt.toNat = i; rw [Int32.toInt_ofNat_small (by omega)]; rfl] at q
  exact q
def dO (i : Nat) : Int32 := Int32.ofNat (48 + i % 10)
def dT (i : Nat) : Int32 := Int32.ofNat (48 + i / 10)
theorem dO_f (i : Nat) (h : i < 100) : fits .byte (.int (dO i)) = true := (show ∀ i, i < 100 → fits .byte (.int (dO i)) = true by decide +kernel) i h
theorem dT_f (i : Nat) (h : i < 100) : fits .byte (.int (dT i)) = true := (show ∀ i, i < 100 → fits .byte (.int (dT i)) = true by decide +kernel) i h
theorem dO_e {a : Array Value} {s : State} (i : Nat) (h : i < 100) : (Term.add (Term.int 48) (Term.rem (Term.index 0) (Term.int 10))).eval a s none [i] s = some (.int (dO i)) := by
  have q : 48 + Int32.ofNat i % 10 = dO i := (show ∀ i, i < 100 → 48 + Int32.ofNat i % 10 = dO i by decide +kernel) i h
  rw [← q]
  simp [Term.eval]
theorem dT_e {a : Array Value} {s : State} (i : Nat) (h : i < 100) : (Term.add (Term.int 48) (Term.div (Term.index 0) (Term.int 10))).eval a s none [i] s = some (.int (dT i)) := by
  have q : 48 + Int32.ofNat i / 10 = dT i := (show ∀ i, i < 100 → 48 + Int32.ofNat i / 10 = dT i by decide +kernel) i h
  rw [← q]
  simp [Term.eval]

theorem comes_1 {Post : Tables → Env → Array Value → State → Outcome → State → Prop} (hpost : ∀ tb e args s v u, (limb_1_1.after args s (.returned v) u = true ∧ limb_1_2.after args s (.returned v) u = true ∧ True) → ReturnedEndW s (.returned v) u (Jvm.fieldLocs frame_1_writes args s ++ Jvm.arrayLocs frame_1_arrays args s ++ Jvm.staticLocs frame_1_statics s) 40 8896 → Post tb e args s (.returned v) u) :
    ArmFor flags0 classFile x code maxLocals ret World_1 tables_1 room_1 Calls_1 rest_1 Pre_1 Post := by
  intro l hfl _ _ p e ha hc hk s m args below hf hA hF happ hP
  obtain ⟨hcalls, hrest, hpre⟩ := hP
  obtain ⟨-, -, -, hnamed, -, -, -, hat⟩ := (Spec.applies_iff hf).mp happ
  obtain ⟨hg, hn⟩ := and_e (Cond.before_iff.mp (show (Jvm.Cond.and given_1 narrow_1).before args s = true from hpre))
  obtain ⟨g0, gr0⟩ := and_e hg
  obtain ⟨ga0, gr1⟩ := and_e gr0
  obtain ⟨ga1, gr2⟩ := and_e gr1
  have ga2 := gr2
  obtain ⟨w0, w1, w2, rfl⟩ : ∃ w0 w1 w2 : Value, args = #[w0, w1, w2] := by
    have hs : args.size = 3 := by simpa [Cond.value, given_1] using g0
    obtain ⟨L⟩ := args
    match L, hs with
    | [w0, w1, w2], _ => exact ⟨w0, w1, w2, rfl⟩
  have hw : HW _ s := fun d (hd : d ∈ tables_1) => atoms_spec (ws := Jvm.Cond.code x code maxLocals ret :: tables_1) hat d (List.mem_cons_of_mem _ hd)
  obtain ⟨hsets, hown0⟩ := atoms_of _ (rest_1_c_eq ▸ (show rest_1_c.before _ s = true from hrest))
  have hr0 := Cond.before_iff.mp hown0
  obtain ⟨i0, ei0⟩ := is_v ga0
  obtain rfl : w0 = (.int i0) := Option.some.inj ei0
  obtain ⟨i1, ei1⟩ := is_v ga1
  obtain rfl : w1 = (.int i1) := Option.some.inj ei1
  obtain ⟨i2, ei2⟩ := isL_v ga2
  obtain rfl : w2 = (.long i2) := Option.some.inj ei2
  obtain ⟨cs, ec⟩ := is_v (Cond.before_iff.mp (hsets _ (List.mem_of_getElem? (i := 1) rfl)))
  have S_CS := Sta.start ec (Or.inl (hsets _ (List.mem_of_getElem? (i := 0) rfl)))
  have w_cs := (hsets _ (List.mem_of_getElem? (i := 2) rfl))
  have h_CS : ¬ (cs = 0) := fun q => by
    have z := Cond.before_iff.mp w_cs
    subst q
    simp [Cond.value, ec, Term.int_eval] at z
  obtain ⟨sf, es, r_SF⟩ := isR_v (Cond.before_iff.mp (hsets _ (List.mem_of_getElem? (i := 8) rfl)))
  have S_SF := Sta.start es (Or.inl (hsets _ (List.mem_of_getElem? (i := 7) rfl)))
  have hchv : CHv s consts_1 s.vm s.heap := CHv.start (a0 := #[.int i0, .int i1, .long i2]) (ewC hw) hcalls.2.2.1 (Cond.before_iff.mpr (Cond.before_iff.mp w_cs)) (w_19 hw) (w_5 hw)
  obtain ⟨wDO, S_DO, A_DO⟩ := tblOwn (hsets _ (List.mem_of_getElem? (i := 11) rfl)) (hsets _ (List.mem_of_getElem? (i := 12) rfl)) (hsets _ (List.mem_of_getElem? (i := 13) rfl)) (hsets _ (List.mem_of_getElem? (i := 14) rfl)) (w_19 hw) dO_e dO_f
  obtain ⟨wDT, S_DT, A_DT⟩ := tblOwn (hsets _ (List.mem_of_getElem? (i := 16) rfl)) (hsets _ (List.mem_of_getElem? (i := 17) rfl)) (hsets _ (List.mem_of_getElem? (i := 18) rfl)) (hsets _ (List.mem_of_getElem? (i := 19) rfl)) (w_19 hw) dT_e dT_f
  obtain ⟨us, eus, r_US⟩ := isR_v (Cond.before_iff.mp (hsets _ (List.mem_of_getElem? (i := 27) rfl)))
  have S_US := Sta.start eus (Or.inl (hsets _ (List.mem_of_getElem? (i := 26) rfl)))
  obtain ⟨ss, ess, r_SS⟩ := isR_v (Cond.before_iff.mp (hsets _ (List.mem_of_getElem? (i := 32) rfl)))
  have S_SS := Sta.start ess (Or.inl (hsets _ (List.mem_of_getElem? (i := 31) rfl)))
  have hst : l.stackTraces = true := by
    unfold Launch.stackTraces
    rw [hfl]
    decide
  have G : Gl s cs sf wDO wDT dO dT us ss := ⟨S_CS, S_SF, S_US, S_SS, S_DO, S_DT, r_SF, r_US, r_SS, h_CS, A_DO, A_DT, fun _ _ => rfl, fun _ _ => rfl⟩
  obtain ⟨n, o, h1, h2, h3, _, L, rfl, ⟨N, rfl⟩, hq⟩ := (R_law hw G hst) (Old.start s) (ewC hw) tables_1 p e ha hc hk s m _ below hf ((Spec.applies_iff_loose hf).mp happ).1 ⟨rfl, State.Warmed39.refl s, rfl, hchv⟩ ⟨MethodsKnown_of_tablesKnown hcalls.2.1, FramesKnown_of_framesKnown hcalls.1 hf⟩
  obtain ⟨-, hq⟩ := hq
  refine ⟨n, _, h1, h2, h3, hpost _ _ _ _ _ _ ⟨Cond.after_iff.mpr rfl, Cond.after_iff.mpr (eq_i res_at (Term.int_eval (1)) rfl), trivial⟩ ⟨hq.1, hq.2.1, hq.2.2.1, (hq.2.2.2.sift fun y hy => Or.inr (N y hy)).mono (by decide) (by decide)⟩⟩
theorem main_1_1 : Claimed_1_1 := comes_1 fun _ _ _ _ _ _ h hF => ⟨h.1, hF⟩
theorem main_1_2 : Claimed_1_2 := comes_1 fun _ _ _ _ _ _ h hF => ⟨h.2.1, hF⟩
end Jvm.Pilot.@@N@@
namespace Jvm.Pilot.@@N@@
open Jvm Jvm.ClassFile Sem Op Lib Jvm.Free Jvm.Stand Jvm.Pilot.@@N@@.Jvm.D
/-! MADE BY PROGRAM (witnessworld.py) out of the Statement's table words and the real class files: 47 classes; the members and pool entries that the words name. The judged class is class 1, her method 1. -/
namespace start1
open Jvm.ClassFile
def u (s : String) : CpInfo := .utf8 (stringToUtf16 s)
/-- a pool by its gaps: so many unusable entries, then the entry; so many at the end -/
def gap : Nat → List CpInfo → List CpInfo
  | 0, r => r
  | n + 1, r => .unusable :: gap n r
def poolList (es : List (Nat × CpInfo)) (last : Nat) : List CpInfo := es.foldr (fun e r => gap e.1 (e.2 :: r)) (gap last [])
def pool (es : List (Nat × CpInfo)) (last : Nat) : Array CpInfo := ⟨poolList es last⟩
def fileOf (pool : Array CpInfo) (this : Nat) (attrs : Array Attribute := #[]) (ms : Array MethodInfo := #[]) (fl : Nat := 33) (sup : Nat := 0) (ifs : Array Nat := #[]) (fds : Array FieldInfo := #[]) : ClassFile where
  minorVersion := 0
  majorVersion := 65
  constantPool := pool
  accessFlags := fl
  thisClass := this
  superClass := sup
  interfaces := ifs
  fields := fds
  methods := ms
  attributes := attrs
def plain (name : String) (sup : Option ClassId) : Class where
  name := name
  kind := .ordinary
  loader := none
  accessFlags := 33
  super := sup
  interfaces := #[]
  cf := none
  fields := #[]
  methods := #[]
  instanceTypes := #[]
  staticTypes := #[]
  resolved := #[]
  callSites := []
  init := .initialized
  statics := none
  mirror := none

def pool0 : Array CpInfo := pool [(5, u "<init>"), (0, u "()V"), (1, .class_ 10), (1, u "java/lang/Object"), (85, u "clone"), (0, u "()Ljava/lang/Object;")] 26

def k0c0 : Code := { maxStack := 0, maxLocals := 1, code := object_method_1_code, exceptionTable := #[], attributes := #[] }
def k0m0 : Method := { name := "<init>", desc := "()V", sig := { parameters := [], returnType := none }, accessFlags := 1, code := some k0c0 }
def k0m1 : Method := { name := "clone", desc := "()Ljava/lang/Object;", sig := { parameters := [], returnType := some (.object "java/lang/Object") }, accessFlags := 260, code := none }
/-- java/lang/Object -/
def k0 : Class := { plain "java/lang/Object" none with
  accessFlags := 33
  interfaces := #[]
  cf := some (fileOf pool0 8 #[] #[{ accessFlags := 1, nameIndex := 5, descriptorIndex := 6, attributes := #[] }, { accessFlags := 260, nameIndex := 96, descriptorIndex := 97, attributes := #[] }] 33 0 #[] #[])
  fields := #[]
  methods := #[k0m0, k0m1]
  instanceTypes := #[]
  staticTypes := #[]
  resolved := Array.replicate 124 none
  statics := none }

def pool1 : Array CpInfo := pool [(2, .class_ 4), (1, u "java/lang/Object"), (0, u "<init>"), (0, u "()V"), (0, .methodref 8 9), (0, .class_ 10), (0, .nameAndType 11 12), (0, u "com/example/fala/fala/format/CsvReaderRefusalPinLaw"), (0, u "str"), (0, u "(ICC)Ljava/lang/String;"), (0, .methodref 14 15), (0, .class_ 16), (0, .nameAndType 17 18), (0, u "com/example/fala/fala/format/CsvReader"), (0, u "refusal"), (0, u "(Ljava/lang/String;JLjava/lang/String;)Lcom/example/fala/fala/format/InvalidInputException;"), (0, .methodref 20 21), (0, .class_ 22), (0, .nameAndType 23 24), (0, u "com/example/fala/fala/format/InvalidInputException"), (0, u "getMessage"), (0, u "()Ljava/lang/String;"), (0, .methodref 8 26), (0, .nameAndType 27 28), (0, u "digits"), (0, u "(J)I"), (0, .methodref 30 31), (0, .class_ 32), (0, .nameAndType 33 34), (0, u "java/lang/String"), (0, u "length"), (0, u "()I"), (0, .methodref 8 36), (0, .nameAndType 37 38), (0, u "at"), (0, u "(Ljava/lang/String;IC)Z"), (0, .methodref 8 40), (0, .nameAndType 41 42), (0, u "dig"), (0, u "(Ljava/lang/String;IJIIJ)Z"), (0, .long 10), (1, .long 100), (1, .long 1000), (1, .long 10000), (1, .long 100000), (1, .long 1000000), (1, .long 10000000), (1, .long 100000000), (1, .long 1000000000), (1, .long 10000000000), (1, .long 100000000000), (1, .long 1000000000000), (1, .long 10000000000000), (1, .long 100000000000000), (1, .long 1000000000000000), (1, .long 10000000000000000), (1, .long 100000000000000000), (1, .long 1000000000000000000), (1, .methodref 30 80), (0, .nameAndType 5 81), (0, u "([C)V"), (0, .methodref 30 83), (0, .nameAndType 84 85), (0, u "valueOf"), (0, u "(C)Ljava/lang/String;"), (0, .methodref 30 87), (0, .nameAndType 88 89), (0, u "charAt"), (0, u "(I)C"), (0, .methodref 8 91), (0, .nameAndType 92 93), (0, u "ge"), (0, u "(JJ)I"), (2, u "law"), (0, u "(IIJ)Z")] 3

def k1m0 : Method := { name := "<init>", desc := "()V", sig := { parameters := [], returnType := none }, accessFlags := 1, code := none }
def k1c1 : Code := { maxStack := 8, maxLocals := 21, code := code, exceptionTable := #[], attributes := #[] }
def k1m1 : Method := { name := "law", desc := "(IIJ)Z", sig := { parameters := [.int, .int, .long], returnType := some .boolean }, accessFlags := 9, code := some k1c1 }
def k1c2 : Code := { maxStack := 6, maxLocals := 3, code := method_3_code, exceptionTable := #[], attributes := #[] }
def k1m2 : Method := { name := "str", desc := "(ICC)Ljava/lang/String;", sig := { parameters := [.int, .char, .char], returnType := some (.object "java/lang/String") }, accessFlags := 10, code := some k1c2 }
def k1c3 : Code := { maxStack := 2, maxLocals := 3, code := method_4_code, exceptionTable := #[], attributes := #[] }
def k1m3 : Method := { name := "at", desc := "(Ljava/lang/String;IC)Z", sig := { parameters := [(.object "java/lang/String"), .int, .char], returnType := some .boolean }, accessFlags := 10, code := some k1c3 }
def k1c4 : Code := { maxStack := 4, maxLocals := 4, code := method_5_code, exceptionTable := #[], attributes := #[] }
def k1m4 : Method := { name := "ge", desc := "(JJ)I", sig := { parameters := [.long, .long], returnType := some .int }, accessFlags := 10, code := some k1c4 }
def k1c5 : Code := { maxStack := 5, maxLocals := 2, code := method_6_code, exceptionTable := #[], attributes := #[] }
def k1m5 : Method := { name := "digits", desc := "(J)I", sig := { parameters := [.long], returnType := some .int }, accessFlags := 10, code := some k1c5 }
def k1c6 : Code := { maxStack := 4, maxLocals := 9, code := method_7_code, exceptionTable := #[], attributes := #[] }
def k1m6 : Method := { name := "dig", desc := "(Ljava/lang/String;IJIIJ)Z", sig := { parameters := [(.object "java/lang/String"), .int, .long, .int, .int, .long], returnType := some .boolean }, accessFlags := 10, code := some k1c6 }
/-- com/example/fala/fala/format/CsvReaderRefusalPinLaw -/
def k1 : Class := { plain "com/example/fala/fala/format/CsvReaderRefusalPinLaw" (some 0) with
  accessFlags := 49
  interfaces := #[]
  cf := some (fileOf pool1 8 #[] #[{ accessFlags := 1, nameIndex := 5, descriptorIndex := 6, attributes := #[] }, { accessFlags := 9, nameIndex := 96, descriptorIndex := 97, attributes := #[] }, { accessFlags := 10, nameIndex := 11, descriptorIndex := 12, attributes := #[] }, { accessFlags := 10, nameIndex := 37, descriptorIndex := 38, attributes := #[] }, { accessFlags := 10, nameIndex := 92, descriptorIndex := 93, attributes := #[] }, { accessFlags := 10, nameIndex := 27, descriptorIndex := 28, attributes := #[] }, { accessFlags := 10, nameIndex := 41, descriptorIndex := 42, attributes := #[] }] 49 2 #[] #[])
  fields := #[]
  methods := #[k1m0, k1m1, k1m2, k1m3, k1m4, k1m5, k1m6]
  instanceTypes := #[]
  staticTypes := #[]
  resolved := Array.replicate 101 none
  statics := none }

def pool2 : Array CpInfo := pool [(1, .class_ 2), (0, u "java/io/Serializable"), (0, .class_ 4), (0, u "java/lang/Object")] 2

/-- java/io/Serializable -/
def k2 : Class := { plain "java/io/Serializable" (some 0) with
  accessFlags := 1537
  interfaces := #[]
  cf := some (fileOf pool2 1 #[] #[] 1537 3 #[] #[])
  fields := #[]
  methods := #[]
  instanceTypes := #[]
  staticTypes := #[]
  resolved := Array.replicate 7 none
  statics := none }

def pool3 : Array CpInfo := pool [(1, .class_ 2), (0, u "java/lang/Comparable"), (0, .class_ 4), (0, u "java/lang/Object")] 7

/-- java/lang/Comparable -/
def k3 : Class := { plain "java/lang/Comparable" (some 0) with
  accessFlags := 1537
  interfaces := #[]
  cf := some (fileOf pool3 1 #[] #[] 1537 3 #[] #[])
  fields := #[]
  methods := #[]
  instanceTypes := #[]
  staticTypes := #[]
  resolved := Array.replicate 12 none
  statics := none }

def pool4 : Array CpInfo := pool [(2, .class_ 4), (1, u "java/lang/CharSequence"), (42, .class_ 48), (0, u "java/lang/CharSequence$1CodePointIterator"), (10, .class_ 60), (0, u "java/lang/CharSequence$1CharIterator"), (5, .class_ 67), (0, u "java/lang/Object")] 63

/-- java/lang/CharSequence -/
def k4 : Class := { plain "java/lang/CharSequence" (some 0) with
  accessFlags := 1537
  interfaces := #[]
  cf := some (fileOf pool4 2 #[.nestMembers #[47, 59]] #[] 1537 66 #[] #[])
  fields := #[]
  methods := #[]
  instanceTypes := #[]
  staticTypes := #[]
  resolved := Array.replicate 131 none
  statics := none }

def pool5 : Array CpInfo := pool [(1, .class_ 2), (0, u "java/lang/constant/Constable"), (0, .class_ 4), (0, u "java/lang/Object")] 6

/-- java/lang/constant/Constable -/
def k5 : Class := { plain "java/lang/constant/Constable" (some 0) with
  accessFlags := 1537
  interfaces := #[]
  cf := some (fileOf pool5 1 #[] #[] 1537 3 #[] #[])
  fields := #[]
  methods := #[]
  instanceTypes := #[]
  staticTypes := #[]
  resolved := Array.replicate 11 none
  statics := none }

def pool6 : Array CpInfo := pool [(1, .class_ 2), (0, u "java/lang/constant/ConstantDesc"), (0, .class_ 4), (0, u "java/lang/Object")] 32

/-- java/lang/constant/ConstantDesc -/
def k6 : Class := { plain "java/lang/constant/ConstantDesc" (some 0) with
  accessFlags := 1537
  interfaces := #[]
  cf := some (fileOf pool6 1 #[] #[] 1537 3 #[] #[])
  fields := #[]
  methods := #[]
  instanceTypes := #[]
  staticTypes := #[]
  resolved := Array.replicate 37 none
  statics := none }

def pool7 : Array CpInfo := pool [(1, .methodref 2 3), (0, .class_ 4), (0, .nameAndType 5 6), (0, u "java/lang/Object"), (0, u "<init>"), (0, u "()V"), (0, .string 8), (0, u ""), (0, .fieldref 10 11), (0, .class_ 12), (0, .nameAndType 13 14), (0, u "java/lang/String"), (0, u "value"), (0, u "[B"), (0, .fieldref 10 16), (0, .nameAndType 17 18), (0, u "coder"), (0, u "B"), (2, u "hash"), (0, u "I"), (2, u "hashIsZero"), (0, u "Z"), (0, .methodref 10 28), (0, .nameAndType 5 29), (0, u "([CIILjava/lang/Void;)V"), (8, .fieldref 10 39), (0, .nameAndType 40 26), (0, u "COMPACT_STRINGS"), (1, .class_ 44), (1, u "java/lang/StringUTF16"), (0, u "compress"), (1, .methodref 42 48), (0, .nameAndType 49 50), (0, u "coderFromArrayLen"), (0, u "([BI)B"), (2, u "toBytes"), (0, .methodref 55 56), (0, .class_ 57), (0, .nameAndType 58 59), (0, u "java/util/Arrays"), (0, u "copyOfRange"), (0, u "([BII)[B"), (47, .class_ 109), (1, u "java/lang/StringLatin1"), (32, u "()Z"), (34, .methodref 42 178), (0, .nameAndType 45 179), (0, u "([CII)[B"), (13, .class_ 195), (1, u "java/lang/System"), (13, .methodref 10 210), (0, .nameAndType 5 211), (0, u "([BB)V"), (0, .methodref 193 213), (0, .nameAndType 214 215), (0, u "arraycopy"), (0, u "(Ljava/lang/Object;ILjava/lang/Object;II)V"), (118, u "()I"), (0, .methodref 10 336), (0, .nameAndType 17 337), (0, u "()B"), (2, u "()[B"), (22, u "([BI)C"), (5, u "(C)Z"), (21, u "(II)V"), (35, u "(I)C"), (61, .methodref 10 490), (0, .nameAndType 5 491), (0, u "(Ljava/lang/AbstractStringBuilder;Ljava/lang/Void;)V"), (0, .methodref 10 493), (0, .nameAndType 494 142), (0, u "isLatin1"), (0, .methodref 107 496), (0, .nameAndType 497 363), (0, u "charAt"), (3, u "checkIndex"), (4, .nameAndType 507 334), (0, u "length"), (24, u "getBytes"), (16, .methodref 550 506), (0, .class_ 551), (0, u "java/lang/AbstractStringBuilder"), (0, .methodref 550 553), (0, .nameAndType 554 340), (0, u "getValue"), (20, .class_ 576), (0, u "java/lang/CharSequence"), (22, u "CASE_INSENSITIVE_ORDER"), (0, u "Ljava/util/Comparator;"), (181, u "valueOf"), (0, u "(C)Ljava/lang/String;"), (37, u "([BIB)V"), (188, u "([C)V"), (4, .methodref 107 1016), (0, .nameAndType 1017 369), (0, u "canEncode"), (0, .methodref 107 1019), (0, .nameAndType 53 1020), (0, u "(C)[B"), (26, .methodref 550 493), (5, .fieldref 1054 1055), (0, .class_ 1056), (0, .nameAndType 1057 1058), (0, u "jdk/internal/util/Preconditions"), (0, u "SIOOBE_FORMATTER"), (0, u "Ljava/util/function/BiFunction;"), (0, .methodref 1054 1060), (0, .nameAndType 501 1061), (0, u "(IILjava/util/function/BiFunction;)I"), (39, u "serialPersistentFields"), (0, u "[Ljava/io/ObjectStreamField;"), (0, .class_ 1104), (0, u "java/lang/String$CaseInsensitiveComparator"), (1, .class_ 1107), (0, u "java/io/Serializable"), (0, .class_ 1109), (0, u "java/lang/Comparable"), (0, .class_ 1111), (0, u "java/lang/constant/Constable"), (0, .class_ 1113), (0, u "java/lang/constant/ConstantDesc"), (2, u "serialVersionUID"), (0, u "J"), (3, u "REPL"), (0, u "C"), (2, u "LATIN1"), (1, u "UTF16"), (105, u "(Ljava/lang/StringBuilder;)V")] 217

def k7m0 : Method := { name := "<init>", desc := "()V", sig := { parameters := [], returnType := none }, accessFlags := 1, code := none }
def k7c1 : Code := { maxStack := 5, maxLocals := 2, code := jdk_42_method_3_code, exceptionTable := #[], attributes := #[] }
def k7m1 : Method := { name := "<init>", desc := "([C)V", sig := { parameters := [(.array .char)], returnType := none }, accessFlags := 1, code := some k7c1 }
def k7c2 : Code := { maxStack := 3, maxLocals := 2, code := jdk_42_method_53_code, exceptionTable := #[], attributes := #[] }
def k7m2 : Method := { name := "<init>", desc := "(Ljava/lang/StringBuilder;)V", sig := { parameters := [(.object "java/lang/StringBuilder")], returnType := none }, accessFlags := 1, code := some k7c2 }
def k7c3 : Code := { maxStack := 2, maxLocals := 1, code := jdk_42_method_54_code, exceptionTable := #[], attributes := #[] }
def k7m3 : Method := { name := "length", desc := "()I", sig := { parameters := [], returnType := some .int }, accessFlags := 1, code := some k7c3 }
def k7c4 : Code := { maxStack := 2, maxLocals := 2, code := jdk_42_method_56_code, exceptionTable := #[], attributes := #[] }
def k7m4 : Method := { name := "charAt", desc := "(I)C", sig := { parameters := [.int], returnType := some .char }, accessFlags := 1, code := some k7c4 }
def k7c5 : Code := { maxStack := 4, maxLocals := 1, code := jdk_42_method_139_code, exceptionTable := #[], attributes := #[] }
def k7m5 : Method := { name := "valueOf", desc := "(C)Ljava/lang/String;", sig := { parameters := [.char], returnType := some (.object "java/lang/String") }, accessFlags := 9, code := some k7c5 }
def k7c6 : Code := { maxStack := 5, maxLocals := 4, code := jdk_42_method_147_code, exceptionTable := #[], attributes := #[] }
def k7m6 : Method := { name := "getBytes", desc := "([BIB)V", sig := { parameters := [(.array .byte), .int, .byte], returnType := none }, accessFlags := 0, code := some k7c6 }
def k7c7 : Code := { maxStack := 4, maxLocals := 6, code := jdk_42_method_149_code, exceptionTable := #[], attributes := #[] }
def k7m7 : Method := { name := "<init>", desc := "([CIILjava/lang/Void;)V", sig := { parameters := [(.array .char), .int, .int, (.object "java/lang/Void")], returnType := none }, accessFlags := 2, code := some k7c7 }
def k7c8 : Code := { maxStack := 5, maxLocals := 5, code := jdk_42_method_150_code, exceptionTable := #[], attributes := #[] }
def k7m8 : Method := { name := "<init>", desc := "(Ljava/lang/AbstractStringBuilder;Ljava/lang/Void;)V", sig := { parameters := [(.object "java/lang/AbstractStringBuilder"), (.object "java/lang/Void")], returnType := none }, accessFlags := 0, code := some k7c8 }
def k7c9 : Code := { maxStack := 2, maxLocals := 3, code := jdk_42_method_151_code, exceptionTable := #[], attributes := #[] }
def k7m9 : Method := { name := "<init>", desc := "([BB)V", sig := { parameters := [(.array .byte), .byte], returnType := none }, accessFlags := 0, code := some k7c9 }
def k7c10 : Code := { maxStack := 1, maxLocals := 1, code := jdk_42_method_152_code, exceptionTable := #[], attributes := #[] }
def k7m10 : Method := { name := "coder", desc := "()B", sig := { parameters := [], returnType := some .byte }, accessFlags := 0, code := some k7c10 }
def k7c11 : Code := { maxStack := 1, maxLocals := 1, code := jdk_42_method_154_code, exceptionTable := #[], attributes := #[] }
def k7m11 : Method := { name := "isLatin1", desc := "()Z", sig := { parameters := [], returnType := some .boolean }, accessFlags := 0, code := some k7c11 }
def k7c12 : Code := { maxStack := 3, maxLocals := 2, code := jdk_42_method_155_code, exceptionTable := #[], attributes := #[] }
def k7m12 : Method := { name := "checkIndex", desc := "(II)V", sig := { parameters := [.int, .int], returnType := none }, accessFlags := 8, code := some k7c12 }
/-- java/lang/String -/
def k7 : Class := { plain "java/lang/String" (some 0) with
  accessFlags := 49
  interfaces := #[2, 3, 4, 5, 6]
  cf := some (fileOf pool7 10 #[.nestMembers #[1103]] #[{ accessFlags := 1, nameIndex := 5, descriptorIndex := 6, attributes := #[] }, { accessFlags := 1, nameIndex := 5, descriptorIndex := 1010, attributes := #[] }, { accessFlags := 1, nameIndex := 5, descriptorIndex := 1233, attributes := #[] }, { accessFlags := 1, nameIndex := 507, descriptorIndex := 334, attributes := #[] }, { accessFlags := 1, nameIndex := 497, descriptorIndex := 427, attributes := #[] }, { accessFlags := 9, nameIndex := 782, descriptorIndex := 783, attributes := #[] }, { accessFlags := 0, nameIndex := 532, descriptorIndex := 821, attributes := #[] }, { accessFlags := 2, nameIndex := 5, descriptorIndex := 29, attributes := #[] }, { accessFlags := 0, nameIndex := 5, descriptorIndex := 491, attributes := #[] }, { accessFlags := 0, nameIndex := 5, descriptorIndex := 211, attributes := #[] }, { accessFlags := 0, nameIndex := 17, descriptorIndex := 337, attributes := #[] }, { accessFlags := 0, nameIndex := 494, descriptorIndex := 142, attributes := #[] }, { accessFlags := 8, nameIndex := 501, descriptorIndex := 391, attributes := #[] }] 49 2 #[1106, 1108, 575, 1110, 1112] #[{ accessFlags := 18, nameIndex := 13, descriptorIndex := 14, attributes := #[] }, { accessFlags := 18, nameIndex := 17, descriptorIndex := 18, attributes := #[] }, { accessFlags := 2, nameIndex := 21, descriptorIndex := 22, attributes := #[] }, { accessFlags := 2, nameIndex := 25, descriptorIndex := 26, attributes := #[] }, { accessFlags := 26, nameIndex := 1116, descriptorIndex := 1117, attributes := #[] }, { accessFlags := 24, nameIndex := 40, descriptorIndex := 26, attributes := #[] }, { accessFlags := 26, nameIndex := 1101, descriptorIndex := 1102, attributes := #[] }, { accessFlags := 26, nameIndex := 1121, descriptorIndex := 1122, attributes := #[] }, { accessFlags := 25, nameIndex := 599, descriptorIndex := 600, attributes := #[] }, { accessFlags := 24, nameIndex := 1125, descriptorIndex := 18, attributes := #[] }, { accessFlags := 24, nameIndex := 1127, descriptorIndex := 18, attributes := #[] }])
  fields := #[{ name := "value", type := (.array .byte), accessFlags := 18, slot := 0, constantValue := 0 }, { name := "coder", type := .byte, accessFlags := 18, slot := 1, constantValue := 0 }, { name := "hash", type := .int, accessFlags := 2, slot := 2, constantValue := 0 }, { name := "hashIsZero", type := .boolean, accessFlags := 2, slot := 3, constantValue := 0 }, { name := "serialVersionUID", type := .long, accessFlags := 26, slot := 0, constantValue := 0 }, { name := "COMPACT_STRINGS", type := .boolean, accessFlags := 24, slot := 1, constantValue := 0 }, { name := "serialPersistentFields", type := (.array (.object "java/io/ObjectStreamField")), accessFlags := 26, slot := 2, constantValue := 0 }, { name := "REPL", type := .char, accessFlags := 26, slot := 3, constantValue := 0 }, { name := "CASE_INSENSITIVE_ORDER", type := (.object "java/util/Comparator"), accessFlags := 25, slot := 4, constantValue := 0 }, { name := "LATIN1", type := .byte, accessFlags := 24, slot := 5, constantValue := 0 }, { name := "UTF16", type := .byte, accessFlags := 24, slot := 6, constantValue := 0 }]
  methods := #[k7m0, k7m1, k7m2, k7m3, k7m4, k7m5, k7m6, k7m7, k7m8, k7m9, k7m10, k7m11, k7m12]
  instanceTypes := #[(.array .byte), .byte, .int, .boolean]
  staticTypes := #[.long, .boolean, (.array (.object "java/io/ObjectStreamField")), .char, (.object "java/util/Comparator"), .byte, .byte]
  resolved := Array.replicate 1451 none
  statics := some 0 }

def pool8 : Array CpInfo := pool [(6, .class_ 8), (1, u "java/lang/Object"), (0, u "<init>"), (0, u "()V"), (1, .class_ 14), (1, u "java/lang/StringUTF16"), (31, u "$assertionsDisabled"), (0, u "Z"), (13, u "HI_BYTE_SHIFT"), (0, u "I"), (2, u "LO_BYTE_SHIFT"), (49, .methodref 12 116), (0, .nameAndType 117 118), (0, u "compress"), (0, u "([CI[BII)I"), (3, u "([CII)[B"), (138, u "coderFromArrayLen"), (0, u "([BI)B"), (106, .class_ 371), (1, u "java/lang/StringUTF16$LinesSpliterator"), (58, u "MAX_LENGTH"), (196, .class_ 628), (0, u "java/lang/StringUTF16$CodePointsSpliterator"), (0, .class_ 630), (0, u "java/lang/StringUTF16$CharsSpliterator")] 4

def k8m0 : Method := { name := "<init>", desc := "()V", sig := { parameters := [], returnType := none }, accessFlags := 0, code := none }
def k8c1 : Code := { maxStack := 2, maxLocals := 2, code := jdk_52_method_15_code, exceptionTable := #[], attributes := #[] }
def k8m1 : Method := { name := "coderFromArrayLen", desc := "([BI)B", sig := { parameters := [(.array .byte), .int], returnType := some .byte }, accessFlags := 8, code := some k8c1 }
def k8c2 : Code := { maxStack := 5, maxLocals := 6, code := jdk_52_method_16_code, exceptionTable := #[], attributes := #[] }
def k8m2 : Method := { name := "compress", desc := "([CII)[B", sig := { parameters := [(.array .char), .int, .int], returnType := some (.array .byte) }, accessFlags := 9, code := some k8c2 }
def k8c3 : Code := { maxStack := 3, maxLocals := 7, code := jdk_52_method_21_code, exceptionTable := #[], attributes := #[] }
def k8m3 : Method := { name := "compress", desc := "([CI[BII)I", sig := { parameters := [(.array .char), .int, (.array .byte), .int, .int], returnType := some .int }, accessFlags := 9, code := some k8c3 }
/-- java/lang/StringUTF16 -/
def k8 : Class := { plain "java/lang/StringUTF16" (some 0) with
  accessFlags := 48
  interfaces := #[]
  cf := some (fileOf pool8 12 #[.nestMembers #[627, 629, 369]] #[{ accessFlags := 0, nameIndex := 9, descriptorIndex := 10, attributes := #[] }, { accessFlags := 8, nameIndex := 261, descriptorIndex := 262, attributes := #[] }, { accessFlags := 9, nameIndex := 117, descriptorIndex := 122, attributes := #[] }, { accessFlags := 9, nameIndex := 117, descriptorIndex := 118, attributes := #[] }] 48 6 #[] #[{ accessFlags := 26, nameIndex := 61, descriptorIndex := 62, attributes := #[] }, { accessFlags := 26, nameIndex := 65, descriptorIndex := 62, attributes := #[] }, { accessFlags := 24, nameIndex := 430, descriptorIndex := 62, attributes := #[] }, { accessFlags := 4120, nameIndex := 46, descriptorIndex := 47, attributes := #[] }])
  fields := #[{ name := "HI_BYTE_SHIFT", type := .int, accessFlags := 26, slot := 0, constantValue := 0 }, { name := "LO_BYTE_SHIFT", type := .int, accessFlags := 26, slot := 1, constantValue := 0 }, { name := "MAX_LENGTH", type := .int, accessFlags := 24, slot := 2, constantValue := 0 }, { name := "$assertionsDisabled", type := .boolean, accessFlags := 4120, slot := 3, constantValue := 0 }]
  methods := #[k8m0, k8m1, k8m2, k8m3]
  instanceTypes := #[]
  staticTypes := #[.int, .int, .int, .boolean]
  resolved := Array.replicate 635 none
  statics := none }

def pool9 : Array CpInfo := pool [(1, .class_ 2), (0, u "java/lang/AutoCloseable"), (0, .class_ 4), (0, u "java/lang/Object")] 7

/-- java/lang/AutoCloseable -/
def k9 : Class := { plain "java/lang/AutoCloseable" (some 0) with
  accessFlags := 1537
  interfaces := #[]
  cf := some (fileOf pool9 1 #[] #[] 1537 3 #[] #[])
  fields := #[]
  methods := #[]
  instanceTypes := #[]
  staticTypes := #[]
  resolved := Array.replicate 12 none
  statics := none }

def pool10 : Array CpInfo := pool [(1, .class_ 2), (0, u "java/io/Closeable"), (0, .class_ 4), (0, u "java/lang/Object"), (0, .class_ 6), (0, u "java/lang/AutoCloseable")] 7

/-- java/io/Closeable -/
def k10 : Class := { plain "java/io/Closeable" (some 0) with
  accessFlags := 1537
  interfaces := #[9]
  cf := some (fileOf pool10 1 #[] #[] 1537 3 #[5] #[])
  fields := #[]
  methods := #[]
  instanceTypes := #[]
  staticTypes := #[]
  resolved := Array.replicate 14 none
  statics := none }

def pool11 : Array CpInfo := pool [(2, .class_ 4), (0, .nameAndType 5 6), (0, u "java/lang/Object"), (0, u "<init>"), (0, u "()V"), (2, .class_ 11), (1, u "com/example/fala/fala/format/CsvReader"), (0, u "buffer"), (0, u "[C"), (0, .class_ 15), (0, u "java/lang/StringBuilder"), (0, .methodref 14 3), (2, u "field"), (0, u "Ljava/lang/StringBuilder;"), (2, u "line"), (0, u "J"), (2, u "source"), (0, u "Ljava/lang/String;"), (2, u "in"), (0, u "Ljava/io/Reader;"), (27, u "recordLine"), (2, u "fieldsLeft"), (0, u "Z"), (2, u "fieldStart"), (0, u "I"), (2, u "fieldIndex"), (16, u "refusal"), (10, .methodref 14 100), (0, .nameAndType 101 102), (0, u "toString"), (0, u "()Ljava/lang/String;"), (5, u "(Ljava/lang/String;JLjava/lang/String;)Lcom/example/fala/fala/format/InvalidInputException;"), (0, .class_ 110), (0, u "com/example/fala/fala/format/InvalidInputException"), (0, .methodref 14 112), (0, .nameAndType 113 114), (0, u "append"), (0, u "(Ljava/lang/String;)Ljava/lang/StringBuilder;"), (0, .string 116), (0, u ": line "), (0, .methodref 14 118), (0, .nameAndType 113 119), (0, u "(J)Ljava/lang/StringBuilder;"), (0, .string 121), (0, u ": "), (0, .methodref 109 123), (0, .nameAndType 5 124), (0, u "(Ljava/lang/String;)V"), (7, .class_ 133), (0, u "com/example/fala/fala/format/CsvReader$UnclosedFieldException"), (14, u "position"), (5, u "limit"), (20, .class_ 176), (0, u "java/io/Closeable")] 17

def k11c0 : Code := { maxStack := 5, maxLocals := 4, code := prog_29_method_9_code, exceptionTable := #[], attributes := #[] }
def k11m0 : Method := { name := "refusal", desc := "(Ljava/lang/String;JLjava/lang/String;)Lcom/example/fala/fala/format/InvalidInputException;", sig := { parameters := [(.object "java/lang/String"), .long, (.object "java/lang/String")], returnType := some (.object "com/example/fala/fala/format/InvalidInputException") }, accessFlags := 9, code := some k11c0 }
/-- com/example/fala/fala/format/CsvReader -/
def k11 : Class := { plain "com/example/fala/fala/format/CsvReader" (some 0) with
  accessFlags := 33
  interfaces := #[10]
  cf := some (fileOf pool11 9 #[.nestMembers #[132]] #[{ accessFlags := 9, nameIndex := 88, descriptorIndex := 108, attributes := #[] }] 33 2 #[175] #[{ accessFlags := 18, nameIndex := 27, descriptorIndex := 28, attributes := #[] }, { accessFlags := 18, nameIndex := 31, descriptorIndex := 32, attributes := #[] }, { accessFlags := 18, nameIndex := 12, descriptorIndex := 13, attributes := #[] }, { accessFlags := 18, nameIndex := 19, descriptorIndex := 20, attributes := #[] }, { accessFlags := 2, nameIndex := 148, descriptorIndex := 68, attributes := #[] }, { accessFlags := 2, nameIndex := 154, descriptorIndex := 68, attributes := #[] }, { accessFlags := 2, nameIndex := 23, descriptorIndex := 24, attributes := #[] }, { accessFlags := 2, nameIndex := 60, descriptorIndex := 24, attributes := #[] }, { accessFlags := 2, nameIndex := 63, descriptorIndex := 64, attributes := #[] }, { accessFlags := 2, nameIndex := 67, descriptorIndex := 68, attributes := #[] }, { accessFlags := 2, nameIndex := 71, descriptorIndex := 68, attributes := #[] }])
  fields := #[{ name := "source", type := (.object "java/lang/String"), accessFlags := 18, slot := 0, constantValue := 0 }, { name := "in", type := (.object "java/io/Reader"), accessFlags := 18, slot := 1, constantValue := 0 }, { name := "buffer", type := (.array .char), accessFlags := 18, slot := 2, constantValue := 0 }, { name := "field", type := (.object "java/lang/StringBuilder"), accessFlags := 18, slot := 3, constantValue := 0 }, { name := "position", type := .int, accessFlags := 2, slot := 4, constantValue := 0 }, { name := "limit", type := .int, accessFlags := 2, slot := 5, constantValue := 0 }, { name := "line", type := .long, accessFlags := 2, slot := 6, constantValue := 0 }, { name := "recordLine", type := .long, accessFlags := 2, slot := 7, constantValue := 0 }, { name := "fieldsLeft", type := .boolean, accessFlags := 2, slot := 8, constantValue := 0 }, { name := "fieldStart", type := .int, accessFlags := 2, slot := 9, constantValue := 0 }, { name := "fieldIndex", type := .int, accessFlags := 2, slot := 10, constantValue := 0 }]
  methods := #[k11m0]
  instanceTypes := #[(.object "java/lang/String"), (.object "java/io/Reader"), (.array .char), (.object "java/lang/StringBuilder"), .int, .int, .long, .long, .boolean, .int, .int]
  staticTypes := #[]
  resolved := Array.replicate 194 none
  statics := none }

def pool12 : Array CpInfo := pool [(1, .methodref 2 3), (0, .class_ 4), (0, .nameAndType 5 6), (0, u "java/lang/Object"), (0, u "<init>"), (0, u "()V"), (0, .fieldref 8 9), (0, .class_ 10), (0, .nameAndType 11 12), (0, u "java/lang/Throwable"), (0, u "cause"), (0, u "Ljava/lang/Throwable;"), (0, .fieldref 8 14), (0, .nameAndType 15 16), (0, u "UNASSIGNED_STACK"), (0, u "[Ljava/lang/StackTraceElement;"), (0, .fieldref 8 18), (0, .nameAndType 19 16), (0, u "stackTrace"), (0, .fieldref 8 21), (0, .nameAndType 22 23), (0, u "SUPPRESSED_SENTINEL"), (0, u "Ljava/util/List;"), (0, .fieldref 8 25), (0, .nameAndType 26 23), (0, u "suppressedExceptions"), (0, .methodref 8 28), (0, .nameAndType 29 30), (0, u "fillInStackTrace"), (0, u "()Ljava/lang/Throwable;"), (0, .fieldref 8 32), (0, .nameAndType 33 34), (0, u "detailMessage"), (0, u "Ljava/lang/String;"), (3, u "()Ljava/lang/String;"), (2, u "getMessage"), (51, .class_ 94), (0, u "java/lang/Throwable$WrappedPrintStream"), (6, .class_ 103), (1, u "java/lang/Throwable$PrintStreamOrWriter"), (61, u "$assertionsDisabled"), (0, u "Z"), (26, .class_ 194), (0, u "java/lang/Throwable$WrappedPrintWriter"), (3, .fieldref 8 199), (0, .nameAndType 200 201), (0, u "backtrace"), (0, u "Ljava/lang/Object;"), (0, .methodref 8 203), (0, .nameAndType 29 204), (0, u "(I)Ljava/lang/Throwable;"), (6, u "depth"), (0, u "I"), (10, u "(Ljava/lang/String;)V"), (45, .class_ 271), (1, u "java/lang/Throwable$SentinelHolder"), (32, u "EMPTY_THROWABLE_ARRAY"), (0, u "[Ljava/lang/Throwable;"), (12, .class_ 319), (0, u "java/io/Serializable"), (0, u "serialVersionUID"), (0, u "J"), (5, u "NULL_CAUSE_MESSAGE"), (0, u "SELF_SUPPRESSION_MESSAGE"), (0, u "CAUSE_CAPTION"), (0, u "SUPPRESSED_CAPTION")] 73

def k12c0 : Code := { maxStack := 2, maxLocals := 1, code := jdk_78_method_1_code, exceptionTable := #[], attributes := #[] }
def k12m0 : Method := { name := "<init>", desc := "()V", sig := { parameters := [], returnType := none }, accessFlags := 1, code := some k12c0 }
def k12c1 : Code := { maxStack := 2, maxLocals := 2, code := jdk_78_method_2_code, exceptionTable := #[], attributes := #[] }
def k12m1 : Method := { name := "<init>", desc := "(Ljava/lang/String;)V", sig := { parameters := [(.object "java/lang/String")], returnType := none }, accessFlags := 1, code := some k12c1 }
def k12c2 : Code := { maxStack := 1, maxLocals := 1, code := jdk_78_method_6_code, exceptionTable := #[], attributes := #[] }
def k12m2 : Method := { name := "getMessage", desc := "()Ljava/lang/String;", sig := { parameters := [], returnType := some (.object "java/lang/String") }, accessFlags := 1, code := some k12c2 }
def k12c3 : Code := { maxStack := 2, maxLocals := 1, code := jdk_78_method_18_code, exceptionTable := #[], attributes := #[] }
def k12m3 : Method := { name := "fillInStackTrace", desc := "()Ljava/lang/Throwable;", sig := { parameters := [], returnType := some (.object "java/lang/Throwable") }, accessFlags := 33, code := some k12c3 }
def k12m4 : Method := { name := "fillInStackTrace", desc := "(I)Ljava/lang/Throwable;", sig := { parameters := [.int], returnType := some (.object "java/lang/Throwable") }, accessFlags := 258, code := none }
/-- java/lang/Throwable -/
def k12 : Class := { plain "java/lang/Throwable" (some 0) with
  accessFlags := 33
  interfaces := #[2]
  cf := some (fileOf pool12 8 #[.nestMembers #[193, 93, 101, 269]] #[{ accessFlags := 1, nameIndex := 5, descriptorIndex := 6, attributes := #[] }, { accessFlags := 1, nameIndex := 5, descriptorIndex := 223, attributes := #[] }, { accessFlags := 1, nameIndex := 41, descriptorIndex := 38, attributes := #[] }, { accessFlags := 33, nameIndex := 29, descriptorIndex := 30, attributes := #[] }, { accessFlags := 258, nameIndex := 29, descriptorIndex := 204, attributes := #[] }] 33 2 #[318] #[{ accessFlags := 26, nameIndex := 320, descriptorIndex := 321, attributes := #[] }, { accessFlags := 130, nameIndex := 200, descriptorIndex := 201, attributes := #[] }, { accessFlags := 2, nameIndex := 33, descriptorIndex := 34, attributes := #[] }, { accessFlags := 26, nameIndex := 15, descriptorIndex := 16, attributes := #[] }, { accessFlags := 2, nameIndex := 11, descriptorIndex := 12, attributes := #[] }, { accessFlags := 2, nameIndex := 19, descriptorIndex := 16, attributes := #[] }, { accessFlags := 130, nameIndex := 211, descriptorIndex := 212, attributes := #[] }, { accessFlags := 26, nameIndex := 22, descriptorIndex := 23, attributes := #[] }, { accessFlags := 2, nameIndex := 26, descriptorIndex := 23, attributes := #[] }, { accessFlags := 26, nameIndex := 327, descriptorIndex := 34, attributes := #[] }, { accessFlags := 26, nameIndex := 328, descriptorIndex := 34, attributes := #[] }, { accessFlags := 26, nameIndex := 329, descriptorIndex := 34, attributes := #[] }, { accessFlags := 26, nameIndex := 330, descriptorIndex := 34, attributes := #[] }, { accessFlags := 26, nameIndex := 304, descriptorIndex := 305, attributes := #[] }, { accessFlags := 4120, nameIndex := 165, descriptorIndex := 166, attributes := #[] }])
  fields := #[{ name := "serialVersionUID", type := .long, accessFlags := 26, slot := 0, constantValue := 0 }, { name := "backtrace", type := (.object "java/lang/Object"), accessFlags := 130, slot := 0, constantValue := 0 }, { name := "detailMessage", type := (.object "java/lang/String"), accessFlags := 2, slot := 1, constantValue := 0 }, { name := "UNASSIGNED_STACK", type := (.array (.object "java/lang/StackTraceElement")), accessFlags := 26, slot := 1, constantValue := 0 }, { name := "cause", type := (.object "java/lang/Throwable"), accessFlags := 2, slot := 2, constantValue := 0 }, { name := "stackTrace", type := (.array (.object "java/lang/StackTraceElement")), accessFlags := 2, slot := 3, constantValue := 0 }, { name := "depth", type := .int, accessFlags := 130, slot := 4, constantValue := 0 }, { name := "SUPPRESSED_SENTINEL", type := (.object "java/util/List"), accessFlags := 26, slot := 2, constantValue := 0 }, { name := "suppressedExceptions", type := (.object "java/util/List"), accessFlags := 2, slot := 5, constantValue := 0 }, { name := "NULL_CAUSE_MESSAGE", type := (.object "java/lang/String"), accessFlags := 26, slot := 3, constantValue := 0 }, { name := "SELF_SUPPRESSION_MESSAGE", type := (.object "java/lang/String"), accessFlags := 26, slot := 4, constantValue := 0 }, { name := "CAUSE_CAPTION", type := (.object "java/lang/String"), accessFlags := 26, slot := 5, constantValue := 0 }, { name := "SUPPRESSED_CAPTION", type := (.object "java/lang/String"), accessFlags := 26, slot := 6, constantValue := 0 }, { name := "EMPTY_THROWABLE_ARRAY", type := (.array (.object "java/lang/Throwable")), accessFlags := 26, slot := 7, constantValue := 0 }, { name := "$assertionsDisabled", type := .boolean, accessFlags := 4120, slot := 8, constantValue := 0 }]
  methods := #[k12m0, k12m1, k12m2, k12m3, k12m4]
  instanceTypes := #[(.object "java/lang/Object"), (.object "java/lang/String"), (.object "java/lang/Throwable"), (.array (.object "java/lang/StackTraceElement")), .int, (.object "java/util/List")]
  staticTypes := #[.long, (.array (.object "java/lang/StackTraceElement")), (.object "java/util/List"), (.object "java/lang/String"), (.object "java/lang/String"), (.object "java/lang/String"), (.object "java/lang/String"), (.array (.object "java/lang/Throwable")), .boolean]
  resolved := Array.replicate 404 none
  statics := some 1 }

def pool13 : Array CpInfo := pool [(2, .class_ 4), (1, u "java/lang/Throwable"), (0, u "<init>"), (0, u "()V"), (0, .methodref 2 8), (0, .nameAndType 5 9), (0, u "(Ljava/lang/String;)V"), (9, .class_ 20), (0, u "java/lang/Exception"), (0, u "serialVersionUID"), (0, u "J")] 17

def k13m0 : Method := { name := "<init>", desc := "()V", sig := { parameters := [], returnType := none }, accessFlags := 1, code := none }
def k13c1 : Code := { maxStack := 2, maxLocals := 2, code := jdk_59_method_2_code, exceptionTable := #[], attributes := #[] }
def k13m1 : Method := { name := "<init>", desc := "(Ljava/lang/String;)V", sig := { parameters := [(.object "java/lang/String")], returnType := none }, accessFlags := 1, code := some k13c1 }
/-- java/lang/Exception -/
def k13 : Class := { plain "java/lang/Exception" (some 12) with
  accessFlags := 33
  interfaces := #[]
  cf := some (fileOf pool13 19 #[] #[{ accessFlags := 1, nameIndex := 5, descriptorIndex := 6, attributes := #[] }, { accessFlags := 1, nameIndex := 5, descriptorIndex := 9, attributes := #[] }] 33 2 #[] #[{ accessFlags := 24, nameIndex := 21, descriptorIndex := 22, attributes := #[] }])
  fields := #[{ name := "serialVersionUID", type := .long, accessFlags := 24, slot := 0, constantValue := 0 }]
  methods := #[k13m0, k13m1]
  instanceTypes := #[(.object "java/lang/Object"), (.object "java/lang/String"), (.object "java/lang/Throwable"), (.array (.object "java/lang/StackTraceElement")), .int, (.object "java/util/List")]
  staticTypes := #[.long]
  resolved := Array.replicate 40 none
  statics := none }

def pool14 : Array CpInfo := pool [(1, .methodref 2 3), (0, .class_ 4), (0, .nameAndType 5 6), (0, u "java/lang/Exception"), (0, u "<init>"), (0, u "(Ljava/lang/String;)V"), (0, .class_ 8), (0, u "com/example/fala/fala/format/InvalidInputException"), (0, u "serialVersionUID"), (0, u "J")] 7

def k14c0 : Code := { maxStack := 2, maxLocals := 2, code := prog_33_method_1_code, exceptionTable := #[], attributes := #[] }
def k14m0 : Method := { name := "<init>", desc := "(Ljava/lang/String;)V", sig := { parameters := [(.object "java/lang/String")], returnType := none }, accessFlags := 1, code := some k14c0 }
/-- com/example/fala/fala/format/InvalidInputException -/
def k14 : Class := { plain "com/example/fala/fala/format/InvalidInputException" (some 13) with
  accessFlags := 33
  interfaces := #[]
  cf := some (fileOf pool14 7 #[] #[{ accessFlags := 1, nameIndex := 5, descriptorIndex := 6, attributes := #[] }] 33 2 #[] #[{ accessFlags := 26, nameIndex := 9, descriptorIndex := 10, attributes := #[] }])
  fields := #[{ name := "serialVersionUID", type := .long, accessFlags := 26, slot := 0, constantValue := 0 }]
  methods := #[k14m0]
  instanceTypes := #[(.object "java/lang/Object"), (.object "java/lang/String"), (.object "java/lang/Throwable"), (.array (.object "java/lang/StackTraceElement")), .int, (.object "java/util/List")]
  staticTypes := #[.long]
  resolved := Array.replicate 18 none
  statics := none }

def pool15 : Array CpInfo := pool [(1, .class_ 2), (0, u "java/lang/Appendable"), (0, .class_ 4), (0, u "java/lang/Object")] 9

/-- java/lang/Appendable -/
def k15 : Class := { plain "java/lang/Appendable" (some 0) with
  accessFlags := 1537
  interfaces := #[]
  cf := some (fileOf pool15 1 #[] #[] 1537 3 #[] #[])
  fields := #[]
  methods := #[]
  instanceTypes := #[]
  staticTypes := #[]
  resolved := Array.replicate 14 none
  statics := none }

def pool16 : Array CpInfo := pool [(1, .class_ 2), (0, u "java/lang/String"), (0, .methodref 4 5), (0, .class_ 6), (0, .nameAndType 7 8), (0, u "java/lang/Object"), (0, u "<init>"), (0, u "()V"), (1, .class_ 12), (1, u "java/lang/AbstractStringBuilder"), (0, u "EMPTYVALUE"), (0, u "[B"), (0, .fieldref 10 16), (0, .nameAndType 17 14), (0, u "value"), (0, .fieldref 1 19), (0, .nameAndType 20 21), (0, u "COMPACT_STRINGS"), (0, u "Z"), (0, .fieldref 10 23), (0, .nameAndType 24 25), (0, u "coder"), (0, u "B"), (6, .methodref 1 33), (0, .nameAndType 34 35), (0, u "length"), (0, u "()I"), (3, .integer 2147483647), (0, .methodref 1 41), (0, .nameAndType 24 42), (0, u "()B"), (2, u "append"), (0, u "(Ljava/lang/String;)Ljava/lang/AbstractStringBuilder;"), (1, .class_ 49), (0, u "java/lang/CharSequence"), (19, u "(Ljava/lang/String;)V"), (5, u "maybeLatin1"), (3, .fieldref 10 80), (0, .nameAndType 81 82), (0, u "count"), (0, u "I"), (0, .methodref 10 84), (0, .nameAndType 85 86), (0, u "isLatin1"), (0, u "()Z"), (13, .methodref 10 101), (0, .nameAndType 102 103), (0, u "ensureCapacityInternal"), (0, u "(I)V"), (0, .methodref 10 105), (0, .nameAndType 106 107), (0, u "newCapacity"), (0, u "(I)I"), (0, .methodref 109 110), (0, .class_ 111), (0, .nameAndType 112 113), (0, u "java/util/Arrays"), (0, u "copyOf"), (0, u "([BI)[B"), (0, .methodref 115 116), (0, .class_ 117), (0, .nameAndType 118 119), (0, u "jdk/internal/util/ArraysSupport"), (0, u "newLength"), (0, u "(III)I"), (68, u "getChars"), (19, .methodref 10 209), (0, .nameAndType 210 211), (0, u "putStringAt"), (0, u "(ILjava/lang/String;)V"), (5, u "inflateIfNeededFor"), (2, .nameAndType 221 222), (0, u "getBytes"), (0, u "([BIB)V"), (24, u "stringSize"), (6, .methodref 255 256), (0, .class_ 257), (0, .nameAndType 247 258), (0, u "java/lang/Long"), (0, u "(J)I"), (0, .methodref 255 260), (0, .nameAndType 188 261), (0, u "(JI[B)I"), (135, .methodref 10 398), (0, .nameAndType 217 69), (0, .methodref 1 220), (3, u "()[B"), (40, .class_ 445), (0, u "java/lang/Appendable"), (67, u "(J)Ljava/lang/AbstractStringBuilder;"), (38, u "getValue")] 56

def k16m0 : Method := { name := "<init>", desc := "()V", sig := { parameters := [], returnType := none }, accessFlags := 0, code := none }
def k16c1 : Code := { maxStack := 2, maxLocals := 2, code := jdk_68_method_2_code, exceptionTable := #[], attributes := #[] }
def k16m1 : Method := { name := "<init>", desc := "(I)V", sig := { parameters := [.int], returnType := none }, accessFlags := 0, code := some k16c1 }
def k16c2 : Code := { maxStack := 1, maxLocals := 1, code := jdk_68_method_6_code, exceptionTable := #[], attributes := #[] }
def k16m2 : Method := { name := "length", desc := "()I", sig := { parameters := [], returnType := some .int }, accessFlags := 1, code := some k16c2 }
def k16c3 : Code := { maxStack := 4, maxLocals := 3, code := jdk_68_method_9_code, exceptionTable := #[], attributes := #[] }
def k16m3 : Method := { name := "ensureCapacityInternal", desc := "(I)V", sig := { parameters := [.int], returnType := none }, accessFlags := 2, code := some k16c3 }
def k16c4 : Code := { maxStack := 5, maxLocals := 6, code := jdk_68_method_10_code, exceptionTable := #[], attributes := #[] }
def k16m4 : Method := { name := "newCapacity", desc := "(I)I", sig := { parameters := [.int], returnType := some .int }, accessFlags := 2, code := some k16c4 }
def k16c5 : Code := { maxStack := 3, maxLocals := 3, code := jdk_68_method_22_code, exceptionTable := #[], attributes := #[] }
def k16m5 : Method := { name := "append", desc := "(Ljava/lang/String;)Ljava/lang/AbstractStringBuilder;", sig := { parameters := [(.object "java/lang/String")], returnType := some (.object "java/lang/AbstractStringBuilder") }, accessFlags := 1, code := some k16c5 }
def k16c6 : Code := { maxStack := 5, maxLocals := 5, code := jdk_68_method_33_code, exceptionTable := #[], attributes := #[] }
def k16m6 : Method := { name := "append", desc := "(J)Ljava/lang/AbstractStringBuilder;", sig := { parameters := [.long], returnType := some (.object "java/lang/AbstractStringBuilder") }, accessFlags := 1, code := some k16c6 }
def k16c7 : Code := { maxStack := 1, maxLocals := 1, code := jdk_68_method_64_code, exceptionTable := #[], attributes := #[] }
def k16m7 : Method := { name := "getValue", desc := "()[B", sig := { parameters := [], returnType := some (.array .byte) }, accessFlags := 16, code := some k16c7 }
def k16c8 : Code := { maxStack := 1, maxLocals := 1, code := jdk_68_method_68_code, exceptionTable := #[], attributes := #[] }
def k16m8 : Method := { name := "isLatin1", desc := "()Z", sig := { parameters := [], returnType := some .boolean }, accessFlags := 16, code := some k16c8 }
def k16c9 : Code := { maxStack := 2, maxLocals := 2, code := jdk_68_method_71_code, exceptionTable := #[], attributes := #[] }
def k16m9 : Method := { name := "inflateIfNeededFor", desc := "(Ljava/lang/String;)V", sig := { parameters := [(.object "java/lang/String")], returnType := none }, accessFlags := 2, code := some k16c9 }
def k16c10 : Code := { maxStack := 4, maxLocals := 3, code := jdk_68_method_73_code, exceptionTable := #[], attributes := #[] }
def k16m10 : Method := { name := "putStringAt", desc := "(ILjava/lang/String;)V", sig := { parameters := [.int, (.object "java/lang/String")], returnType := none }, accessFlags := 2, code := some k16c10 }
/-- java/lang/AbstractStringBuilder -/
def k16 : Class := { plain "java/lang/AbstractStringBuilder" (some 0) with
  accessFlags := 1056
  interfaces := #[15, 4]
  cf := some (fileOf pool16 10 #[] #[{ accessFlags := 0, nameIndex := 7, descriptorIndex := 8, attributes := #[] }, { accessFlags := 0, nameIndex := 7, descriptorIndex := 103, attributes := #[] }, { accessFlags := 1, nameIndex := 34, descriptorIndex := 35, attributes := #[] }, { accessFlags := 2, nameIndex := 102, descriptorIndex := 103, attributes := #[] }, { accessFlags := 2, nameIndex := 106, descriptorIndex := 107, attributes := #[] }, { accessFlags := 1, nameIndex := 45, descriptorIndex := 46, attributes := #[] }, { accessFlags := 1, nameIndex := 45, descriptorIndex := 513, attributes := #[] }, { accessFlags := 16, nameIndex := 552, descriptorIndex := 403, attributes := #[] }, { accessFlags := 16, nameIndex := 85, descriptorIndex := 86, attributes := #[] }, { accessFlags := 2, nameIndex := 217, descriptorIndex := 69, attributes := #[] }, { accessFlags := 2, nameIndex := 210, descriptorIndex := 211, attributes := #[] }] 1056 4 #[444, 48] #[{ accessFlags := 0, nameIndex := 17, descriptorIndex := 14, attributes := #[] }, { accessFlags := 0, nameIndex := 24, descriptorIndex := 25, attributes := #[] }, { accessFlags := 0, nameIndex := 75, descriptorIndex := 21, attributes := #[] }, { accessFlags := 0, nameIndex := 81, descriptorIndex := 82, attributes := #[] }, { accessFlags := 26, nameIndex := 13, descriptorIndex := 14, attributes := #[] }])
  fields := #[{ name := "value", type := (.array .byte), accessFlags := 0, slot := 0, constantValue := 0 }, { name := "coder", type := .byte, accessFlags := 0, slot := 1, constantValue := 0 }, { name := "maybeLatin1", type := .boolean, accessFlags := 0, slot := 2, constantValue := 0 }, { name := "count", type := .int, accessFlags := 0, slot := 3, constantValue := 0 }, { name := "EMPTYVALUE", type := (.array .byte), accessFlags := 26, slot := 0, constantValue := 0 }]
  methods := #[k16m0, k16m1, k16m2, k16m3, k16m4, k16m5, k16m6, k16m7, k16m8, k16m9, k16m10]
  instanceTypes := #[(.array .byte), .byte, .boolean, .int]
  staticTypes := #[(.array .byte)]
  resolved := Array.replicate 609 none
  statics := none }

def pool17 : Array CpInfo := pool [(1, .methodref 2 3), (0, .class_ 4), (0, .nameAndType 5 6), (0, u "java/lang/AbstractStringBuilder"), (0, u "<init>"), (0, u "(I)V"), (11, .class_ 20), (1, u "java/lang/String"), (3, .class_ 26), (1, u "java/lang/StringBuilder"), (0, u "append"), (0, u "(Ljava/lang/String;)Ljava/lang/StringBuilder;"), (0, .methodref 2 30), (0, .nameAndType 27 31), (0, u "(Ljava/lang/String;)Ljava/lang/AbstractStringBuilder;"), (24, .methodref 2 57), (0, .nameAndType 27 58), (0, u "(J)Ljava/lang/AbstractStringBuilder;"), (78, .methodref 18 138), (0, .nameAndType 5 139), (0, u "(Ljava/lang/StringBuilder;)V"), (5, u "()V"), (10, u "()I"), (124, u "(J)Ljava/lang/StringBuilder;"), (61, .methodref 2 344), (0, .nameAndType 345 156), (0, u "length"), (3, .class_ 350), (0, u "java/lang/Appendable"), (0, .class_ 352), (0, u "java/io/Serializable"), (0, .class_ 354), (0, u "java/lang/Comparable"), (0, .class_ 356), (0, u "java/lang/CharSequence"), (0, u "serialVersionUID"), (0, u "J"), (40, u "toString"), (0, u "()Ljava/lang/String;")] 21

def k17c0 : Code := { maxStack := 2, maxLocals := 1, code := jdk_67_method_1_code, exceptionTable := #[], attributes := #[] }
def k17m0 : Method := { name := "<init>", desc := "()V", sig := { parameters := [], returnType := none }, accessFlags := 1, code := some k17c0 }
def k17c1 : Code := { maxStack := 2, maxLocals := 2, code := jdk_67_method_7_code, exceptionTable := #[], attributes := #[] }
def k17m1 : Method := { name := "append", desc := "(Ljava/lang/String;)Ljava/lang/StringBuilder;", sig := { parameters := [(.object "java/lang/String")], returnType := some (.object "java/lang/StringBuilder") }, accessFlags := 1, code := some k17c1 }
def k17c2 : Code := { maxStack := 3, maxLocals := 3, code := jdk_67_method_16_code, exceptionTable := #[], attributes := #[] }
def k17m2 : Method := { name := "append", desc := "(J)Ljava/lang/StringBuilder;", sig := { parameters := [.long], returnType := some (.object "java/lang/StringBuilder") }, accessFlags := 1, code := some k17c2 }
def k17c3 : Code := { maxStack := 3, maxLocals := 1, code := jdk_67_method_42_code, exceptionTable := #[], attributes := #[] }
def k17m3 : Method := { name := "toString", desc := "()Ljava/lang/String;", sig := { parameters := [], returnType := some (.object "java/lang/String") }, accessFlags := 1, code := some k17c3 }
def k17c4 : Code := { maxStack := 1, maxLocals := 1, code := jdk_67_method_93_code, exceptionTable := #[], attributes := #[] }
def k17m4 : Method := { name := "length", desc := "()I", sig := { parameters := [], returnType := some .int }, accessFlags := 4161, code := some k17c4 }
/-- java/lang/StringBuilder -/
def k17 : Class := { plain "java/lang/StringBuilder" (some 16) with
  accessFlags := 49
  interfaces := #[15, 2, 3, 4]
  cf := some (fileOf pool17 24 #[] #[{ accessFlags := 1, nameIndex := 5, descriptorIndex := 145, attributes := #[] }, { accessFlags := 1, nameIndex := 27, descriptorIndex := 28, attributes := #[] }, { accessFlags := 1, nameIndex := 27, descriptorIndex := 281, attributes := #[] }, { accessFlags := 1, nameIndex := 399, descriptorIndex := 400, attributes := #[] }, { accessFlags := 4161, nameIndex := 345, descriptorIndex := 156, attributes := #[] }] 49 2 #[349, 351, 353, 355] #[{ accessFlags := 24, nameIndex := 357, descriptorIndex := 358, attributes := #[] }])
  fields := #[{ name := "serialVersionUID", type := .long, accessFlags := 24, slot := 0, constantValue := 0 }]
  methods := #[k17m0, k17m1, k17m2, k17m3, k17m4]
  instanceTypes := #[(.array .byte), .byte, .boolean, .int]
  staticTypes := #[.long]
  resolved := Array.replicate 422 none
  statics := none }

def pool18 : Array CpInfo := pool [(2, .class_ 4), (1, u "java/lang/Object"), (0, u "<init>"), (0, u "()V"), (1, .class_ 10), (1, u "java/lang/System"), (0, u "allowSecurityManager"), (0, u "I"), (16, u "cons"), (0, u "Ljava/io/Console;"), (77, .class_ 110), (1, u "java/lang/System$CallersHolder"), (43, u "initialErrStream"), (0, u "Ljava/io/PrintStream;"), (19, u "security"), (0, u "Ljava/lang/SecurityManager;"), (31, .class_ 209), (0, u "java/lang/System$1"), (7, u "props"), (0, u "Ljava/util/Properties;"), (2, u "lineSeparator"), (0, u "Ljava/lang/String;"), (96, .class_ 321), (1, u "java/lang/System$LoggerFinder"), (5, .class_ 328), (0, u "java/lang/System$Logger"), (67, u "err"), (2, u "out"), (91, u "notSupportedJnuEncoding"), (15, u "in"), (17, u "initialIn"), (0, u "Ljava/io/InputStream;"), (35, u "bootLayer"), (0, u "Ljava/lang/ModuleLayer;"), (99, .class_ 664), (0, u "java/lang/System$2"), (9, u "NEVER"), (2, u "MAYBE"), (49, u "arraycopy"), (0, u "(Ljava/lang/Object;ILjava/lang/Object;II)V"), (72, .class_ 802), (0, u "java/lang/System$Logger$Level")] 31

def k18m0 : Method := { name := "<init>", desc := "()V", sig := { parameters := [], returnType := none }, accessFlags := 2, code := none }
def k18m1 : Method := { name := "arraycopy", desc := "(Ljava/lang/Object;ILjava/lang/Object;II)V", sig := { parameters := [(.object "java/lang/Object"), .int, (.object "java/lang/Object"), .int, .int], returnType := none }, accessFlags := 265, code := none }
/-- java/lang/System -/
def k18 : Class := { plain "java/lang/System" (some 0) with
  accessFlags := 49
  interfaces := #[]
  cf := some (fileOf pool18 8 #[.nestMembers #[319, 327, 801, 108, 663, 208]] #[{ accessFlags := 2, nameIndex := 5, descriptorIndex := 6, attributes := #[] }, { accessFlags := 265, nameIndex := 727, descriptorIndex := 728, attributes := #[] }] 49 2 #[] #[{ accessFlags := 25, nameIndex := 507, descriptorIndex := 526, attributes := #[] }, { accessFlags := 25, nameIndex := 399, descriptorIndex := 155, attributes := #[] }, { accessFlags := 25, nameIndex := 396, descriptorIndex := 155, attributes := #[] }, { accessFlags := 10, nameIndex := 525, descriptorIndex := 526, attributes := #[] }, { accessFlags := 26, nameIndex := 674, descriptorIndex := 12, attributes := #[] }, { accessFlags := 26, nameIndex := 677, descriptorIndex := 12, attributes := #[] }, { accessFlags := 10, nameIndex := 11, descriptorIndex := 12, attributes := #[] }, { accessFlags := 74, nameIndex := 175, descriptorIndex := 176, attributes := #[] }, { accessFlags := 10, nameIndex := 491, descriptorIndex := 222, attributes := #[] }, { accessFlags := 74, nameIndex := 29, descriptorIndex := 30, attributes := #[] }, { accessFlags := 74, nameIndex := 154, descriptorIndex := 155, attributes := #[] }, { accessFlags := 10, nameIndex := 217, descriptorIndex := 218, attributes := #[] }, { accessFlags := 10, nameIndex := 221, descriptorIndex := 222, attributes := #[] }, { accessFlags := 8, nameIndex := 562, descriptorIndex := 563, attributes := #[] }])
  fields := #[{ name := "in", type := (.object "java/io/InputStream"), accessFlags := 25, slot := 0, constantValue := 0 }, { name := "out", type := (.object "java/io/PrintStream"), accessFlags := 25, slot := 1, constantValue := 0 }, { name := "err", type := (.object "java/io/PrintStream"), accessFlags := 25, slot := 2, constantValue := 0 }, { name := "initialIn", type := (.object "java/io/InputStream"), accessFlags := 10, slot := 3, constantValue := 0 }, { name := "NEVER", type := .int, accessFlags := 26, slot := 4, constantValue := 0 }, { name := "MAYBE", type := .int, accessFlags := 26, slot := 5, constantValue := 0 }, { name := "allowSecurityManager", type := .int, accessFlags := 10, slot := 6, constantValue := 0 }, { name := "security", type := (.object "java/lang/SecurityManager"), accessFlags := 74, slot := 7, constantValue := 0 }, { name := "notSupportedJnuEncoding", type := (.object "java/lang/String"), accessFlags := 10, slot := 8, constantValue := 0 }, { name := "cons", type := (.object "java/io/Console"), accessFlags := 74, slot := 9, constantValue := 0 }, { name := "initialErrStream", type := (.object "java/io/PrintStream"), accessFlags := 74, slot := 10, constantValue := 0 }, { name := "props", type := (.object "java/util/Properties"), accessFlags := 10, slot := 11, constantValue := 0 }, { name := "lineSeparator", type := (.object "java/lang/String"), accessFlags := 10, slot := 12, constantValue := 0 }, { name := "bootLayer", type := (.object "java/lang/ModuleLayer"), accessFlags := 8, slot := 13, constantValue := 0 }]
  methods := #[k18m0, k18m1]
  instanceTypes := #[]
  staticTypes := #[(.object "java/io/InputStream"), (.object "java/io/PrintStream"), (.object "java/io/PrintStream"), (.object "java/io/InputStream"), .int, .int, .int, (.object "java/lang/SecurityManager"), (.object "java/lang/String"), (.object "java/io/Console"), (.object "java/io/PrintStream"), (.object "java/util/Properties"), (.object "java/lang/String"), (.object "java/lang/ModuleLayer")]
  resolved := Array.replicate 834 none
  statics := none }

def pool19 : Array CpInfo := pool [(2, .class_ 4), (1, u "java/lang/Object"), (0, u "<init>"), (0, u "()V"), (1, .class_ 10), (1, u "java/lang/Number"), (2, .class_ 14), (0, u "java/io/Serializable"), (0, u "serialVersionUID"), (0, u "J")] 20

def k19m0 : Method := { name := "<init>", desc := "()V", sig := { parameters := [], returnType := none }, accessFlags := 1, code := none }
/-- java/lang/Number -/
def k19 : Class := { plain "java/lang/Number" (some 0) with
  accessFlags := 1057
  interfaces := #[2]
  cf := some (fileOf pool19 8 #[] #[{ accessFlags := 1, nameIndex := 5, descriptorIndex := 6, attributes := #[] }] 1057 2 #[13] #[{ accessFlags := 26, nameIndex := 15, descriptorIndex := 16, attributes := #[] }])
  fields := #[{ name := "serialVersionUID", type := .long, accessFlags := 26, slot := 0, constantValue := 0 }]
  methods := #[k19m0]
  instanceTypes := #[]
  staticTypes := #[.long]
  resolved := Array.replicate 37 none
  statics := none }

def pool20 : Array CpInfo := pool [(1, .class_ 2), (0, u "java/lang/Long"), (15, .class_ 20), (1, u "java/lang/Integer"), (32, .long 10), (47, u "(J)I"), (18, u "stringSize"), (2, u "getChars"), (0, u "(JI[B)I"), (4, .long 18446744071562067968), (1, .long 100), (1, .fieldref 18 134), (0, .nameAndType 135 136), (0, u "DigitOnes"), (0, u "[B"), (0, .fieldref 18 138), (0, .nameAndType 139 136), (0, u "DigitTens"), (0, .long 18446744073709551606), (94, .class_ 237), (1, u "java/lang/Long$LongCache"), (33, .class_ 272), (0, u "java/lang/Number"), (2, u "value"), (0, u "J"), (84, u "TYPE"), (0, u "Ljava/lang/Class;"), (0, .class_ 364), (0, u "java/lang/Comparable"), (0, .class_ 366), (0, u "java/lang/constant/Constable"), (0, .class_ 368), (0, u "java/lang/constant/ConstantDesc"), (0, u "MIN_VALUE"), (1, u "MAX_VALUE"), (4, u "SIZE"), (0, u "I"), (1, u "BYTES"), (1, u "serialVersionUID")] 142

def k20c0 : Code := { maxStack := 4, maxLocals := 11, code := jdk_35_method_14_code, exceptionTable := #[], attributes := #[] }
def k20m0 : Method := { name := "getChars", desc := "(JI[B)I", sig := { parameters := [.long, .int, (.array .byte)], returnType := some .int }, accessFlags := 8, code := some k20c0 }
def k20c1 : Code := { maxStack := 4, maxLocals := 6, code := jdk_35_method_15_code, exceptionTable := #[], attributes := #[] }
def k20m1 : Method := { name := "stringSize", desc := "(J)I", sig := { parameters := [.long], returnType := some .int }, accessFlags := 8, code := some k20c1 }
/-- java/lang/Long -/
def k20 : Class := { plain "java/lang/Long" (some 19) with
  accessFlags := 49
  interfaces := #[3, 5, 6]
  cf := some (fileOf pool20 1 #[.nestMembers #[235]] #[{ accessFlags := 8, nameIndex := 123, descriptorIndex := 124, attributes := #[] }, { accessFlags := 8, nameIndex := 120, descriptorIndex := 101, attributes := #[] }] 49 271 #[363, 365, 367] #[{ accessFlags := 25, nameIndex := 369, descriptorIndex := 276, attributes := #[] }, { accessFlags := 25, nameIndex := 371, descriptorIndex := 276, attributes := #[] }, { accessFlags := 25, nameIndex := 361, descriptorIndex := 362, attributes := #[] }, { accessFlags := 18, nameIndex := 275, descriptorIndex := 276, attributes := #[] }, { accessFlags := 25, nameIndex := 376, descriptorIndex := 377, attributes := #[] }, { accessFlags := 25, nameIndex := 379, descriptorIndex := 377, attributes := #[] }, { accessFlags := 26, nameIndex := 381, descriptorIndex := 276, attributes := #[] }])
  fields := #[{ name := "MIN_VALUE", type := .long, accessFlags := 25, slot := 0, constantValue := 0 }, { name := "MAX_VALUE", type := .long, accessFlags := 25, slot := 1, constantValue := 0 }, { name := "TYPE", type := (.object "java/lang/Class"), accessFlags := 25, slot := 2, constantValue := 0 }, { name := "value", type := .long, accessFlags := 18, slot := 0, constantValue := 0 }, { name := "SIZE", type := .int, accessFlags := 25, slot := 3, constantValue := 0 }, { name := "BYTES", type := .int, accessFlags := 25, slot := 4, constantValue := 0 }, { name := "serialVersionUID", type := .long, accessFlags := 26, slot := 5, constantValue := 0 }]
  methods := #[k20m0, k20m1]
  instanceTypes := #[.long]
  staticTypes := #[.long, .long, (.object "java/lang/Class"), .int, .int, .long]
  resolved := Array.replicate 524 none
  statics := none }

def pool21 : Array CpInfo := pool [(1, .class_ 2), (0, u "java/lang/Integer"), (16, u "digits"), (0, u "[C"), (64, u "DigitOnes"), (0, u "[B"), (2, u "DigitTens"), (99, .class_ 190), (0, u "java/lang/Integer$IntegerCache"), (3, u "I"), (8, .class_ 204), (0, u "java/lang/Number"), (2, u "value"), (94, u "TYPE"), (0, u "Ljava/lang/Class;"), (0, .class_ 305), (0, u "java/lang/Comparable"), (0, .class_ 307), (0, u "java/lang/constant/Constable"), (0, .class_ 309), (0, u "java/lang/constant/ConstantDesc"), (0, u "MIN_VALUE"), (1, u "MAX_VALUE"), (3, u "SIZE"), (1, u "BYTES"), (1, u "serialVersionUID"), (0, u "J")] 131

/-- java/lang/Integer -/
def k21 : Class := { plain "java/lang/Integer" (some 19) with
  accessFlags := 49
  interfaces := #[3, 5, 6]
  cf := some (fileOf pool21 1 #[.nestMembers #[189]] #[] 49 203 #[304, 306, 308] #[{ accessFlags := 25, nameIndex := 310, descriptorIndex := 194, attributes := #[] }, { accessFlags := 25, nameIndex := 312, descriptorIndex := 194, attributes := #[] }, { accessFlags := 25, nameIndex := 302, descriptorIndex := 303, attributes := #[] }, { accessFlags := 24, nameIndex := 19, descriptorIndex := 20, attributes := #[] }, { accessFlags := 24, nameIndex := 89, descriptorIndex := 86, attributes := #[] }, { accessFlags := 24, nameIndex := 85, descriptorIndex := 86, attributes := #[] }, { accessFlags := 18, nameIndex := 207, descriptorIndex := 194, attributes := #[] }, { accessFlags := 25, nameIndex := 316, descriptorIndex := 194, attributes := #[] }, { accessFlags := 25, nameIndex := 318, descriptorIndex := 194, attributes := #[] }, { accessFlags := 26, nameIndex := 320, descriptorIndex := 321, attributes := #[] }])
  fields := #[{ name := "MIN_VALUE", type := .int, accessFlags := 25, slot := 0, constantValue := 0 }, { name := "MAX_VALUE", type := .int, accessFlags := 25, slot := 1, constantValue := 0 }, { name := "TYPE", type := (.object "java/lang/Class"), accessFlags := 25, slot := 2, constantValue := 0 }, { name := "digits", type := (.array .char), accessFlags := 24, slot := 3, constantValue := 0 }, { name := "DigitTens", type := (.array .byte), accessFlags := 24, slot := 4, constantValue := 0 }, { name := "DigitOnes", type := (.array .byte), accessFlags := 24, slot := 5, constantValue := 0 }, { name := "value", type := .int, accessFlags := 18, slot := 0, constantValue := 0 }, { name := "SIZE", type := .int, accessFlags := 25, slot := 6, constantValue := 0 }, { name := "BYTES", type := .int, accessFlags := 25, slot := 7, constantValue := 0 }, { name := "serialVersionUID", type := .long, accessFlags := 26, slot := 8, constantValue := 0 }]
  methods := #[]
  instanceTypes := #[.int]
  staticTypes := #[.int, .int, (.object "java/lang/Class"), (.array .char), (.array .byte), (.array .byte), .int, .int, .long]
  resolved := Array.replicate 453 none
  statics := some 2 }

def pool22 : Array CpInfo := pool [(2, .class_ 4), (1, u "java/lang/Object"), (0, u "<init>"), (0, u "()V"), (7, .class_ 16), (1, u "java/util/Arrays"), (57, .class_ 76), (1, u "java/util/Arrays$NaturalOrder"), (32, u "()Ljava/lang/Object;"), (3, .class_ 115), (1, u "java/util/Arrays$LegacyMergeSort"), (1, u "Z"), (10, .nameAndType 129 109), (0, u "clone"), (9, u "copyOfRange"), (10, .methodref 151 152), (0, .class_ 153), (0, .nameAndType 154 155), (0, u "java/lang/System"), (0, u "arraycopy"), (0, u "(Ljava/lang/Object;ILjava/lang/Object;II)V"), (146, u "copyOf"), (1, .methodref 305 306), (0, .class_ 307), (0, .nameAndType 308 309), (0, u "java/lang/Math"), (0, u "min"), (0, u "(II)I"), (0, .methodref 311 128), (0, .class_ 312), (0, u "[B"), (26, .methodref 14 340), (0, .nameAndType 341 342), (0, u "copyOfRangeByte"), (0, u "([BII)[B"), (0, .methodref 14 344), (0, .nameAndType 345 346), (0, u "checkLength"), (0, u "(II)V"), (28, .class_ 376), (0, u "java/util/Arrays$ArrayList"), (68, u "$assertionsDisabled"), (269, u "MIN_ARRAY_SORT_GRAN"), (0, u "I"), (2, u "INSERTIONSORT_THRESHOLD"), (149, u "([BI)[B"), (105, .class_ 976), (0, u "java/util/Arrays$ArrayItr")] 52

def k22m0 : Method := { name := "<init>", desc := "()V", sig := { parameters := [], returnType := none }, accessFlags := 2, code := none }
def k22c1 : Code := { maxStack := 6, maxLocals := 3, code := jdk_65_method_121_code, exceptionTable := #[], attributes := #[] }
def k22m1 : Method := { name := "copyOf", desc := "([BI)[B", sig := { parameters := [(.array .byte), .int], returnType := some (.array .byte) }, accessFlags := 9, code := some k22c1 }
def k22c2 : Code := { maxStack := 4, maxLocals := 2, code := jdk_65_method_131_code, exceptionTable := #[], attributes := #[] }
def k22m2 : Method := { name := "checkLength", desc := "(II)V", sig := { parameters := [.int, .int], returnType := none }, accessFlags := 10, code := some k22c2 }
def k22c3 : Code := { maxStack := 3, maxLocals := 3, code := jdk_65_method_132_code, exceptionTable := #[], attributes := #[] }
def k22m3 : Method := { name := "copyOfRange", desc := "([BII)[B", sig := { parameters := [(.array .byte), .int, .int], returnType := some (.array .byte) }, accessFlags := 9, code := some k22c3 }
def k22c4 : Code := { maxStack := 6, maxLocals := 5, code := jdk_65_method_133_code, exceptionTable := #[], attributes := #[] }
def k22m4 : Method := { name := "copyOfRangeByte", desc := "([BII)[B", sig := { parameters := [(.array .byte), .int, .int], returnType := some (.array .byte) }, accessFlags := 10, code := some k22c4 }
/-- java/util/Arrays -/
def k22 : Class := { plain "java/util/Arrays" (some 0) with
  accessFlags := 49
  interfaces := #[]
  cf := some (fileOf pool22 14 #[.nestMembers #[975, 375, 113, 74]] #[{ accessFlags := 2, nameIndex := 5, descriptorIndex := 6, attributes := #[] }, { accessFlags := 9, nameIndex := 302, descriptorIndex := 869, attributes := #[] }, { accessFlags := 10, nameIndex := 345, descriptorIndex := 346, attributes := #[] }, { accessFlags := 9, nameIndex := 139, descriptorIndex := 342, attributes := #[] }, { accessFlags := 10, nameIndex := 341, descriptorIndex := 342, attributes := #[] }] 49 2 #[] #[{ accessFlags := 26, nameIndex := 715, descriptorIndex := 716, attributes := #[] }, { accessFlags := 26, nameIndex := 719, descriptorIndex := 716, attributes := #[] }, { accessFlags := 4120, nameIndex := 445, descriptorIndex := 117, attributes := #[] }])
  fields := #[{ name := "MIN_ARRAY_SORT_GRAN", type := .int, accessFlags := 26, slot := 0, constantValue := 0 }, { name := "INSERTIONSORT_THRESHOLD", type := .int, accessFlags := 26, slot := 1, constantValue := 0 }, { name := "$assertionsDisabled", type := .boolean, accessFlags := 4120, slot := 2, constantValue := 0 }]
  methods := #[k22m0, k22m1, k22m2, k22m3, k22m4]
  instanceTypes := #[]
  staticTypes := #[.int, .int, .boolean]
  resolved := Array.replicate 1029 none
  statics := none }

def pool23 : Array CpInfo := pool [(1, .class_ 2), (0, u "java/lang/Math"), (1, .class_ 6), (1, u "java/lang/Object"), (0, u "<init>"), (0, u "()V"), (89, .class_ 100), (1, u "java/lang/Math$RandomNumberGeneratorHolder"), (71, u "negativeZeroFloatBits"), (0, u "J"), (2, u "negativeZeroDoubleBits"), (21, u "max"), (2, u "min"), (43, u "$assertionsDisabled"), (0, u "Z"), (88, u "(II)I"), (2, u "twoToTheDoubleScaleDown"), (0, u "D"), (4, u "twoToTheDoubleScaleUp"), (9, u "E"), (3, u "PI"), (2, u "TAU"), (2, u "DEGREES_TO_RADIANS"), (0, u "RADIANS_TO_DEGREES")] 94

def k23m0 : Method := { name := "<init>", desc := "()V", sig := { parameters := [], returnType := none }, accessFlags := 2, code := none }
def k23c1 : Code := { maxStack := 2, maxLocals := 2, code := jdk_29_method_65_code, exceptionTable := #[], attributes := #[] }
def k23m1 : Method := { name := "max", desc := "(II)I", sig := { parameters := [.int, .int], returnType := some .int }, accessFlags := 9, code := some k23c1 }
def k23c2 : Code := { maxStack := 2, maxLocals := 2, code := jdk_29_method_69_code, exceptionTable := #[], attributes := #[] }
def k23m2 : Method := { name := "min", desc := "(II)I", sig := { parameters := [.int, .int], returnType := some .int }, accessFlags := 9, code := some k23c2 }
/-- java/lang/Math -/
def k23 : Class := { plain "java/lang/Math" (some 0) with
  accessFlags := 49
  interfaces := #[]
  cf := some (fileOf pool23 1 #[.nestMembers #[98]] #[{ accessFlags := 2, nameIndex := 7, descriptorIndex := 8, attributes := #[] }, { accessFlags := 9, nameIndex := 198, descriptorIndex := 335, attributes := #[] }, { accessFlags := 9, nameIndex := 201, descriptorIndex := 335, attributes := #[] }] 49 4 #[] #[{ accessFlags := 25, nameIndex := 354, descriptorIndex := 339, attributes := #[] }, { accessFlags := 25, nameIndex := 358, descriptorIndex := 339, attributes := #[] }, { accessFlags := 25, nameIndex := 361, descriptorIndex := 339, attributes := #[] }, { accessFlags := 26, nameIndex := 364, descriptorIndex := 339, attributes := #[] }, { accessFlags := 26, nameIndex := 365, descriptorIndex := 339, attributes := #[] }, { accessFlags := 26, nameIndex := 172, descriptorIndex := 173, attributes := #[] }, { accessFlags := 26, nameIndex := 176, descriptorIndex := 173, attributes := #[] }, { accessFlags := 8, nameIndex := 344, descriptorIndex := 339, attributes := #[] }, { accessFlags := 8, nameIndex := 338, descriptorIndex := 339, attributes := #[] }, { accessFlags := 4120, nameIndex := 245, descriptorIndex := 246, attributes := #[] }])
  fields := #[{ name := "E", type := .double, accessFlags := 25, slot := 0, constantValue := 0 }, { name := "PI", type := .double, accessFlags := 25, slot := 1, constantValue := 0 }, { name := "TAU", type := .double, accessFlags := 25, slot := 2, constantValue := 0 }, { name := "DEGREES_TO_RADIANS", type := .double, accessFlags := 26, slot := 3, constantValue := 0 }, { name := "RADIANS_TO_DEGREES", type := .double, accessFlags := 26, slot := 4, constantValue := 0 }, { name := "negativeZeroFloatBits", type := .long, accessFlags := 26, slot := 5, constantValue := 0 }, { name := "negativeZeroDoubleBits", type := .long, accessFlags := 26, slot := 6, constantValue := 0 }, { name := "twoToTheDoubleScaleUp", type := .double, accessFlags := 8, slot := 7, constantValue := 0 }, { name := "twoToTheDoubleScaleDown", type := .double, accessFlags := 8, slot := 8, constantValue := 0 }, { name := "$assertionsDisabled", type := .boolean, accessFlags := 4120, slot := 9, constantValue := 0 }]
  methods := #[k23m0, k23m1, k23m2]
  instanceTypes := #[]
  staticTypes := #[.double, .double, .double, .double, .double, .long, .long, .double, .double, .boolean]
  resolved := Array.replicate 460 none
  statics := none }

def pool24 : Array CpInfo := pool [(1, .class_ 2), (0, u "java/lang/String"), (1, .class_ 6), (1, u "java/lang/Object"), (0, u "<init>"), (0, u "()V"), (0, .methodref 1 10), (0, .nameAndType 11 12), (0, u "checkIndex"), (0, u "(II)V"), (1, .class_ 16), (1, u "java/lang/StringLatin1"), (36, u "([BI)C"), (36, u "canEncode"), (14, u "(C)Z"), (15, u "$assertionsDisabled"), (0, u "Z"), (98, .class_ 223), (1, u "java/lang/StringLatin1$LinesSpliterator"), (28, u "charAt"), (127, u "toBytes"), (1, u "(C)[B"), (7, .class_ 391), (0, u "java/lang/StringLatin1$CharsSpliterator")] 3

def k24m0 : Method := { name := "<init>", desc := "()V", sig := { parameters := [], returnType := none }, accessFlags := 0, code := none }
def k24c1 : Code := { maxStack := 2, maxLocals := 2, code := jdk_43_method_2_code, exceptionTable := #[], attributes := #[] }
def k24m1 : Method := { name := "charAt", desc := "([BI)C", sig := { parameters := [(.array .byte), .int], returnType := some .char }, accessFlags := 9, code := some k24c1 }
def k24c2 : Code := { maxStack := 2, maxLocals := 1, code := jdk_43_method_3_code, exceptionTable := #[], attributes := #[] }
def k24m2 : Method := { name := "canEncode", desc := "(C)Z", sig := { parameters := [.char], returnType := some .boolean }, accessFlags := 9, code := some k24c2 }
def k24c3 : Code := { maxStack := 4, maxLocals := 1, code := jdk_43_method_46_code, exceptionTable := #[], attributes := #[] }
def k24m3 : Method := { name := "toBytes", desc := "(C)[B", sig := { parameters := [.char], returnType := some (.array .byte) }, accessFlags := 9, code := some k24c3 }
/-- java/lang/StringLatin1 -/
def k24 : Class := { plain "java/lang/StringLatin1" (some 0) with
  accessFlags := 48
  interfaces := #[]
  cf := some (fileOf pool24 14 #[.nestMembers #[390, 221]] #[{ accessFlags := 0, nameIndex := 7, descriptorIndex := 8, attributes := #[] }, { accessFlags := 9, nameIndex := 252, descriptorIndex := 53, attributes := #[] }, { accessFlags := 9, nameIndex := 90, descriptorIndex := 105, attributes := #[] }, { accessFlags := 9, nameIndex := 380, descriptorIndex := 382, attributes := #[] }] 48 4 #[] #[{ accessFlags := 4120, nameIndex := 121, descriptorIndex := 122, attributes := #[] }])
  fields := #[{ name := "$assertionsDisabled", type := .boolean, accessFlags := 4120, slot := 0, constantValue := 0 }]
  methods := #[k24m0, k24m1, k24m2, k24m3]
  instanceTypes := #[]
  staticTypes := #[.boolean]
  resolved := Array.replicate 395 none
  statics := none }

def pool25 : Array CpInfo := pool [(2, .class_ 4), (1, u "java/lang/Object"), (0, u "<init>"), (0, u "()V"), (17, .class_ 26), (1, u "jdk/internal/util/Preconditions"), (6, u "checkIndex"), (21, .class_ 56), (0, u "jdk/internal/util/Preconditions$4"), (57, .class_ 115), (0, u "jdk/internal/util/Preconditions$1"), (7, u "SIOOBE_FORMATTER"), (0, u "Ljava/util/function/BiFunction;"), (0, .class_ 126), (0, u "jdk/internal/util/Preconditions$2"), (3, u "AIOOBE_FORMATTER"), (0, .class_ 132), (0, u "jdk/internal/util/Preconditions$3"), (3, u "IOOBE_FORMATTER"), (41, u "(IILjava/util/function/BiFunction;)I")] 15

def k25m0 : Method := { name := "<init>", desc := "()V", sig := { parameters := [], returnType := none }, accessFlags := 1, code := none }
def k25c1 : Code := { maxStack := 3, maxLocals := 3, code := jdk_41_method_11_code, exceptionTable := #[], attributes := #[] }
def k25m1 : Method := { name := "checkIndex", desc := "(IILjava/util/function/BiFunction;)I", sig := { parameters := [.int, .int, (.object "java/util/function/BiFunction")], returnType := some .int }, accessFlags := 9, code := some k25c1 }
/-- jdk/internal/util/Preconditions -/
def k25 : Class := { plain "jdk/internal/util/Preconditions" (some 0) with
  accessFlags := 33
  interfaces := #[]
  cf := some (fileOf pool25 24 #[.nestMembers #[55, 131, 125, 114]] #[{ accessFlags := 1, nameIndex := 5, descriptorIndex := 6, attributes := #[] }, { accessFlags := 9, nameIndex := 33, descriptorIndex := 178, attributes := #[] }] 33 2 #[] #[{ accessFlags := 25, nameIndex := 123, descriptorIndex := 124, attributes := #[] }, { accessFlags := 25, nameIndex := 130, descriptorIndex := 124, attributes := #[] }, { accessFlags := 25, nameIndex := 136, descriptorIndex := 124, attributes := #[] }])
  fields := #[{ name := "SIOOBE_FORMATTER", type := (.object "java/util/function/BiFunction"), accessFlags := 25, slot := 0, constantValue := 0 }, { name := "AIOOBE_FORMATTER", type := (.object "java/util/function/BiFunction"), accessFlags := 25, slot := 1, constantValue := 0 }, { name := "IOOBE_FORMATTER", type := (.object "java/util/function/BiFunction"), accessFlags := 25, slot := 2, constantValue := 0 }]
  methods := #[k25m0, k25m1]
  instanceTypes := #[]
  staticTypes := #[(.object "java/util/function/BiFunction"), (.object "java/util/function/BiFunction"), (.object "java/util/function/BiFunction")]
  resolved := Array.replicate 194 none
  statics := some 3 }

def pool26 : Array CpInfo := pool [(9, u "<init>"), (6, .class_ 18), (1, u "java/lang/Object"), (0, u "()V"), (1, .class_ 23), (1, u "jdk/internal/util/ArraysSupport"), (0, u "LOG2_ARRAY_LONG_INDEX_SCALE"), (0, u "I"), (2, u "U"), (0, u "Ljdk/internal/misc/Unsafe;"), (8, u "BIG_ENDIAN"), (0, u "Z"), (8, u "LOG2_BYTE_BIT_SIZE"), (4, u "LOG2_ARRAY_INT_INDEX_SCALE"), (54, u "JLA"), (0, u "Ljdk/internal/access/JavaLangAccess;"), (11, u "LOG2_ARRAY_BOOLEAN_INDEX_SCALE"), (9, u "LOG2_ARRAY_BYTE_INDEX_SCALE"), (5, u "LOG2_ARRAY_CHAR_INDEX_SCALE"), (5, u "LOG2_ARRAY_SHORT_INDEX_SCALE"), (18, u "LOG2_ARRAY_FLOAT_INDEX_SCALE"), (24, u "LOG2_ARRAY_DOUBLE_INDEX_SCALE"), (6, .methodref 195 196), (0, .class_ 197), (0, .nameAndType 198 199), (0, u "java/lang/Math"), (0, u "max"), (0, u "(II)I"), (0, .integer 2147483639), (76, u "T_BOOLEAN"), (2, u "T_CHAR"), (1, u "T_FLOAT"), (1, u "T_DOUBLE"), (1, u "T_BYTE"), (1, u "T_SHORT"), (1, u "T_INT"), (1, u "T_LONG"), (1, u "SOFT_MAX_ARRAY_LENGTH"), (56, u "newLength"), (0, u "(III)I")] 25

def k26m0 : Method := { name := "<init>", desc := "()V", sig := { parameters := [], returnType := none }, accessFlags := 2, code := none }
def k26c1 : Code := { maxStack := 3, maxLocals := 4, code := jdk_48_method_27_code, exceptionTable := #[], attributes := #[] }
def k26m1 : Method := { name := "newLength", desc := "(III)I", sig := { parameters := [.int, .int, .int], returnType := some .int }, accessFlags := 9, code := some k26c1 }
/-- jdk/internal/util/ArraysSupport -/
def k26 : Class := { plain "jdk/internal/util/ArraysSupport" (some 0) with
  accessFlags := 33
  interfaces := #[]
  cf := some (fileOf pool26 21 #[] #[{ accessFlags := 2, nameIndex := 9, descriptorIndex := 19, attributes := #[] }, { accessFlags := 9, nameIndex := 351, descriptorIndex := 352, attributes := #[] }] 33 16 #[] #[{ accessFlags := 24, nameIndex := 28, descriptorIndex := 29, attributes := #[] }, { accessFlags := 26, nameIndex := 38, descriptorIndex := 39, attributes := #[] }, { accessFlags := 25, nameIndex := 121, descriptorIndex := 25, attributes := #[] }, { accessFlags := 25, nameIndex := 131, descriptorIndex := 25, attributes := #[] }, { accessFlags := 25, nameIndex := 137, descriptorIndex := 25, attributes := #[] }, { accessFlags := 25, nameIndex := 143, descriptorIndex := 25, attributes := #[] }, { accessFlags := 25, nameIndex := 53, descriptorIndex := 25, attributes := #[] }, { accessFlags := 25, nameIndex := 24, descriptorIndex := 25, attributes := #[] }, { accessFlags := 25, nameIndex := 162, descriptorIndex := 25, attributes := #[] }, { accessFlags := 25, nameIndex := 187, descriptorIndex := 25, attributes := #[] }, { accessFlags := 26, nameIndex := 48, descriptorIndex := 25, attributes := #[] }, { accessFlags := 25, nameIndex := 277, descriptorIndex := 25, attributes := #[] }, { accessFlags := 25, nameIndex := 280, descriptorIndex := 25, attributes := #[] }, { accessFlags := 25, nameIndex := 282, descriptorIndex := 25, attributes := #[] }, { accessFlags := 25, nameIndex := 284, descriptorIndex := 25, attributes := #[] }, { accessFlags := 25, nameIndex := 286, descriptorIndex := 25, attributes := #[] }, { accessFlags := 25, nameIndex := 288, descriptorIndex := 25, attributes := #[] }, { accessFlags := 25, nameIndex := 290, descriptorIndex := 25, attributes := #[] }, { accessFlags := 25, nameIndex := 292, descriptorIndex := 25, attributes := #[] }, { accessFlags := 26, nameIndex := 108, descriptorIndex := 109, attributes := #[] }, { accessFlags := 25, nameIndex := 294, descriptorIndex := 25, attributes := #[] }])
  fields := #[{ name := "U", type := (.object "jdk/internal/misc/Unsafe"), accessFlags := 24, slot := 0, constantValue := 0 }, { name := "BIG_ENDIAN", type := .boolean, accessFlags := 26, slot := 1, constantValue := 0 }, { name := "LOG2_ARRAY_BOOLEAN_INDEX_SCALE", type := .int, accessFlags := 25, slot := 2, constantValue := 0 }, { name := "LOG2_ARRAY_BYTE_INDEX_SCALE", type := .int, accessFlags := 25, slot := 3, constantValue := 0 }, { name := "LOG2_ARRAY_CHAR_INDEX_SCALE", type := .int, accessFlags := 25, slot := 4, constantValue := 0 }, { name := "LOG2_ARRAY_SHORT_INDEX_SCALE", type := .int, accessFlags := 25, slot := 5, constantValue := 0 }, { name := "LOG2_ARRAY_INT_INDEX_SCALE", type := .int, accessFlags := 25, slot := 6, constantValue := 0 }, { name := "LOG2_ARRAY_LONG_INDEX_SCALE", type := .int, accessFlags := 25, slot := 7, constantValue := 0 }, { name := "LOG2_ARRAY_FLOAT_INDEX_SCALE", type := .int, accessFlags := 25, slot := 8, constantValue := 0 }, { name := "LOG2_ARRAY_DOUBLE_INDEX_SCALE", type := .int, accessFlags := 25, slot := 9, constantValue := 0 }, { name := "LOG2_BYTE_BIT_SIZE", type := .int, accessFlags := 26, slot := 10, constantValue := 0 }, { name := "T_BOOLEAN", type := .int, accessFlags := 25, slot := 11, constantValue := 0 }, { name := "T_CHAR", type := .int, accessFlags := 25, slot := 12, constantValue := 0 }, { name := "T_FLOAT", type := .int, accessFlags := 25, slot := 13, constantValue := 0 }, { name := "T_DOUBLE", type := .int, accessFlags := 25, slot := 14, constantValue := 0 }, { name := "T_BYTE", type := .int, accessFlags := 25, slot := 15, constantValue := 0 }, { name := "T_SHORT", type := .int, accessFlags := 25, slot := 16, constantValue := 0 }, { name := "T_INT", type := .int, accessFlags := 25, slot := 17, constantValue := 0 }, { name := "T_LONG", type := .int, accessFlags := 25, slot := 18, constantValue := 0 }, { name := "JLA", type := (.object "jdk/internal/access/JavaLangAccess"), accessFlags := 26, slot := 19, constantValue := 0 }, { name := "SOFT_MAX_ARRAY_LENGTH", type := .int, accessFlags := 25, slot := 20, constantValue := 0 }]
  methods := #[k26m0, k26m1]
  instanceTypes := #[]
  staticTypes := #[(.object "jdk/internal/misc/Unsafe"), .boolean, .int, .int, .int, .int, .int, .int, .int, .int, .int, .int, .int, .int, .int, .int, .int, .int, .int, (.object "jdk/internal/access/JavaLangAccess"), .int]
  resolved := Array.replicate 378 none
  statics := none }

def pool27 : Array CpInfo := pool [(1, .class_ 2), (0, u "java/lang/Cloneable"), (0, .class_ 4), (0, u "java/lang/Object")] 2

/-- java/lang/Cloneable -/
def k27 : Class := { plain "java/lang/Cloneable" (some 0) with
  accessFlags := 1537
  interfaces := #[]
  cf := some (fileOf pool27 1 #[] #[] 1537 3 #[] #[])
  fields := #[]
  methods := #[]
  instanceTypes := #[]
  staticTypes := #[]
  resolved := Array.replicate 7 none
  statics := none }

def pool28 : Array CpInfo := pool [(2, .class_ 4), (1, u "java/lang/Object"), (0, u "<init>"), (0, u "()V"), (12, .class_ 20), (0, u "java/util/Collections"), (63, u "r"), (0, u "Ljava/util/Random;"), (80, .class_ 167), (0, u "java/util/Collections$UnmodifiableCollection"), (6, .class_ 175), (0, u "java/util/Collections$UnmodifiableSequencedCollection"), (6, .class_ 183), (0, u "java/util/Collections$UnmodifiableSet"), (6, .class_ 191), (0, u "java/util/Collections$UnmodifiableSequencedSet"), (6, .class_ 199), (0, u "java/util/Collections$UnmodifiableSortedSet"), (6, .class_ 207), (0, u "java/util/Collections$UnmodifiableNavigableSet"), (4, .class_ 213), (0, u "java/util/Collections$UnmodifiableList"), (1, .class_ 216), (0, u "java/util/Collections$UnmodifiableRandomAccessList"), (6, .class_ 224), (0, u "java/util/Collections$UnmodifiableMap"), (6, .class_ 232), (0, u "java/util/Collections$UnmodifiableSequencedMap"), (4, .class_ 238), (0, u "java/util/Collections$UnmodifiableSortedMap"), (6, .class_ 246), (0, u "java/util/Collections$UnmodifiableNavigableMap"), (3, .class_ 251), (0, u "java/util/Collections$SynchronizedCollection"), (4, .class_ 257), (0, u "java/util/Collections$SynchronizedSet"), (4, .class_ 263), (0, u "java/util/Collections$SynchronizedSortedSet"), (1, .class_ 266), (0, u "java/util/Collections$SynchronizedNavigableSet"), (1, .class_ 269), (0, u "java/util/Collections$SynchronizedRandomAccessList"), (1, .class_ 272), (0, u "java/util/Collections$SynchronizedList"), (5, .class_ 279), (0, u "java/util/Collections$SynchronizedMap"), (1, .class_ 282), (0, u "java/util/Collections$SynchronizedSortedMap"), (1, .class_ 285), (0, u "java/util/Collections$SynchronizedNavigableMap"), (1, .class_ 288), (0, u "java/util/Collections$CheckedCollection"), (11, .class_ 301), (0, u "java/util/Collections$CheckedQueue"), (3, .class_ 306), (0, u "java/util/Collections$CheckedSet"), (3, .class_ 311), (0, u "java/util/Collections$CheckedSortedSet"), (3, .class_ 316), (0, u "java/util/Collections$CheckedNavigableSet"), (3, .class_ 321), (0, u "java/util/Collections$CheckedRandomAccessList"), (3, .class_ 326), (0, u "java/util/Collections$CheckedList"), (1, .class_ 329), (0, u "java/util/Collections$CheckedMap"), (3, .class_ 334), (0, u "java/util/Collections$CheckedSortedMap"), (3, .class_ 339), (0, u "java/util/Collections$CheckedNavigableMap"), (4, .class_ 346), (1, u "java/util/Collections$EmptyIterator"), (3, .class_ 352), (1, u "java/util/Collections$EmptyListIterator"), (2, .class_ 357), (1, u "java/util/Collections$EmptyEnumeration"), (4, u "EMPTY_SET"), (0, u "Ljava/util/Set;"), (6, u "EMPTY_LIST"), (0, u "Ljava/util/List;"), (2, u "EMPTY_MAP"), (0, u "Ljava/util/Map;"), (4, .class_ 381), (0, u "java/util/Collections$SingletonSet"), (2, .class_ 385), (0, u "java/util/Collections$1"), (1, .class_ 388), (0, u "java/util/Collections$2"), (1, .class_ 391), (0, u "java/util/Collections$SingletonList"), (1, .class_ 394), (0, u "java/util/Collections$SingletonMap"), (22, .class_ 418), (0, u "java/util/Collections$CopiesList"), (4, .class_ 425), (1, u "java/util/Collections$ReverseComparator"), (8, .class_ 435), (0, u "java/util/Collections$ReverseComparator2"), (6, .class_ 443), (0, u "java/util/Collections$3"), (25, .class_ 470), (0, u "java/util/Collections$SetFromMap"), (2, .class_ 474), (0, u "java/util/Collections$SequencedSetFromMap"), (3, .class_ 479), (0, u "java/util/Collections$AsLIFOQueue"), (11, .class_ 492), (0, u "java/util/Collections$EmptySet"), (1, .class_ 495), (0, u "java/util/Collections$EmptyList"), (1, .class_ 498), (0, u "java/util/Collections$EmptyMap"), (1, u "BINARYSEARCH_THRESHOLD"), (0, u "I"), (2, u "REVERSE_THRESHOLD"), (1, u "SHUFFLE_THRESHOLD"), (1, u "FILL_THRESHOLD"), (1, u "ROTATE_THRESHOLD"), (1, u "COPY_THRESHOLD"), (1, u "REPLACEALL_THRESHOLD"), (1, u "INDEXOFSUBLIST_THRESHOLD"), (333, .class_ 851), (0, u "java/util/Collections$CheckedMap$CheckedEntrySet"), (0, .class_ 853), (0, u "java/util/Collections$CheckedMap$CheckedEntrySet$CheckedEntry"), (0, .class_ 855), (0, u "java/util/Collections$CheckedMap$CheckedEntrySet$1"), (0, .class_ 857), (0, u "java/util/Collections$CheckedList$1"), (0, .class_ 859), (0, u "java/util/Collections$CheckedCollection$1"), (0, .class_ 861), (0, u "java/util/Collections$UnmodifiableNavigableMap$EmptyNavigableMap"), (0, .class_ 863), (0, u "java/util/Collections$UnmodifiableMap$UnmodifiableEntrySet"), (0, .class_ 865), (0, u "java/util/Collections$UnmodifiableMap$UnmodifiableEntrySet$UnmodifiableEntry"), (0, .class_ 867), (0, u "java/util/Collections$UnmodifiableMap$UnmodifiableEntrySet$UnmodifiableEntrySetSpliterator"), (0, .class_ 869), (0, u "java/util/Collections$UnmodifiableMap$UnmodifiableEntrySet$1"), (0, .class_ 871), (0, u "java/util/Collections$UnmodifiableList$1"), (0, .class_ 873), (0, u "java/util/Collections$UnmodifiableNavigableSet$EmptyNavigableSet"), (0, .class_ 875), (0, u "java/util/Collections$UnmodifiableCollection$1")] 57

def k28m0 : Method := { name := "<init>", desc := "()V", sig := { parameters := [], returnType := none }, accessFlags := 2, code := none }
/-- java/util/Collections -/
def k28 : Class := { plain "java/util/Collections" (some 0) with
  accessFlags := 33
  interfaces := #[]
  cf := some (fileOf pool28 19 #[.nestMembers #[478, 473, 469, 434, 423, 417, 393, 390, 380, 497, 494, 491, 355, 350, 344, 338, 333, 328, 850, 852, 854, 320, 325, 856, 315, 310, 305, 300, 287, 858, 284, 281, 278, 268, 271, 265, 262, 256, 250, 245, 860, 237, 231, 223, 862, 864, 866, 868, 215, 212, 870, 206, 872, 198, 190, 182, 174, 166, 874, 442, 387, 384]] #[{ accessFlags := 2, nameIndex := 5, descriptorIndex := 6, attributes := #[] }] 33 2 #[] #[{ accessFlags := 26, nameIndex := 500, descriptorIndex := 501, attributes := #[] }, { accessFlags := 26, nameIndex := 504, descriptorIndex := 501, attributes := #[] }, { accessFlags := 26, nameIndex := 506, descriptorIndex := 501, attributes := #[] }, { accessFlags := 26, nameIndex := 508, descriptorIndex := 501, attributes := #[] }, { accessFlags := 26, nameIndex := 510, descriptorIndex := 501, attributes := #[] }, { accessFlags := 26, nameIndex := 512, descriptorIndex := 501, attributes := #[] }, { accessFlags := 26, nameIndex := 514, descriptorIndex := 501, attributes := #[] }, { accessFlags := 26, nameIndex := 516, descriptorIndex := 501, attributes := #[] }, { accessFlags := 10, nameIndex := 84, descriptorIndex := 85, attributes := #[] }, { accessFlags := 25, nameIndex := 362, descriptorIndex := 363, attributes := #[] }, { accessFlags := 25, nameIndex := 370, descriptorIndex := 371, attributes := #[] }, { accessFlags := 25, nameIndex := 374, descriptorIndex := 375, attributes := #[] }])
  fields := #[{ name := "BINARYSEARCH_THRESHOLD", type := .int, accessFlags := 26, slot := 0, constantValue := 0 }, { name := "REVERSE_THRESHOLD", type := .int, accessFlags := 26, slot := 1, constantValue := 0 }, { name := "SHUFFLE_THRESHOLD", type := .int, accessFlags := 26, slot := 2, constantValue := 0 }, { name := "FILL_THRESHOLD", type := .int, accessFlags := 26, slot := 3, constantValue := 0 }, { name := "ROTATE_THRESHOLD", type := .int, accessFlags := 26, slot := 4, constantValue := 0 }, { name := "COPY_THRESHOLD", type := .int, accessFlags := 26, slot := 5, constantValue := 0 }, { name := "REPLACEALL_THRESHOLD", type := .int, accessFlags := 26, slot := 6, constantValue := 0 }, { name := "INDEXOFSUBLIST_THRESHOLD", type := .int, accessFlags := 26, slot := 7, constantValue := 0 }, { name := "r", type := (.object "java/util/Random"), accessFlags := 10, slot := 8, constantValue := 0 }, { name := "EMPTY_SET", type := (.object "java/util/Set"), accessFlags := 25, slot := 9, constantValue := 0 }, { name := "EMPTY_LIST", type := (.object "java/util/List"), accessFlags := 25, slot := 10, constantValue := 0 }, { name := "EMPTY_MAP", type := (.object "java/util/Map"), accessFlags := 25, slot := 11, constantValue := 0 }]
  methods := #[k28m0]
  instanceTypes := #[]
  staticTypes := #[.int, .int, .int, .int, .int, .int, .int, .int, (.object "java/util/Random"), (.object "java/util/Set"), (.object "java/util/List"), (.object "java/util/Map")]
  resolved := Array.replicate 933 none
  statics := some 4 }

def pool29 : Array CpInfo := pool [(8, .class_ 10), (1, u "java/lang/Iterable"), (24, .class_ 36), (0, u "java/lang/Object")] 25

/-- java/lang/Iterable -/
def k29 : Class := { plain "java/lang/Iterable" (some 0) with
  accessFlags := 1537
  interfaces := #[]
  cf := some (fileOf pool29 8 #[] #[] 1537 35 #[] #[])
  fields := #[]
  methods := #[]
  instanceTypes := #[]
  staticTypes := #[]
  resolved := Array.replicate 62 none
  statics := none }

def pool30 : Array CpInfo := pool [(10, .class_ 12), (1, u "java/util/Collection"), (47, .class_ 61), (0, u "java/lang/Object"), (0, .class_ 63), (0, u "java/lang/Iterable")] 51

/-- java/util/Collection -/
def k30 : Class := { plain "java/util/Collection" (some 0) with
  accessFlags := 1537
  interfaces := #[29]
  cf := some (fileOf pool30 10 #[] #[] 1537 60 #[62] #[])
  fields := #[]
  methods := #[]
  instanceTypes := #[]
  staticTypes := #[]
  resolved := Array.replicate 115 none
  statics := none }

def pool31 : Array CpInfo := pool [(2, .class_ 4), (1, u "java/lang/Object"), (0, u "<init>"), (0, u "()V"), (1, .class_ 10), (1, u "java/util/AbstractCollection"), (66, .class_ 78), (0, u "java/util/Collection")] 81

def k31m0 : Method := { name := "<init>", desc := "()V", sig := { parameters := [], returnType := none }, accessFlags := 4, code := none }
/-- java/util/AbstractCollection -/
def k31 : Class := { plain "java/util/AbstractCollection" (some 0) with
  accessFlags := 1057
  interfaces := #[30]
  cf := some (fileOf pool31 8 #[] #[{ accessFlags := 4, nameIndex := 5, descriptorIndex := 6, attributes := #[] }] 1057 2 #[77] #[])
  fields := #[]
  methods := #[k31m0]
  instanceTypes := #[]
  staticTypes := #[]
  resolved := Array.replicate 160 none
  statics := none }

def pool32 : Array CpInfo := pool [(8, .class_ 10), (1, u "java/util/SequencedCollection"), (15, .class_ 27), (0, u "java/lang/Object"), (0, .class_ 29), (0, u "java/util/Collection")] 27

/-- java/util/SequencedCollection -/
def k32 : Class := { plain "java/util/SequencedCollection" (some 0) with
  accessFlags := 1537
  interfaces := #[30]
  cf := some (fileOf pool32 8 #[] #[] 1537 26 #[28] #[])
  fields := #[]
  methods := #[]
  instanceTypes := #[]
  staticTypes := #[]
  resolved := Array.replicate 57 none
  statics := none }

def pool33 : Array CpInfo := pool [(8, .class_ 10), (1, u "java/util/List"), (92, .class_ 104), (0, u "java/lang/Object"), (15, .class_ 121), (0, u "java/util/SequencedCollection")] 129

/-- java/util/List -/
def k33 : Class := { plain "java/util/List" (some 0) with
  accessFlags := 1537
  interfaces := #[32]
  cf := some (fileOf pool33 8 #[] #[] 1537 103 #[120] #[])
  fields := #[]
  methods := #[]
  instanceTypes := #[]
  staticTypes := #[]
  resolved := Array.replicate 251 none
  statics := none }

def pool34 : Array CpInfo := pool [(2, .class_ 4), (1, u "java/util/AbstractCollection"), (0, u "<init>"), (0, u "()V"), (1, .class_ 10), (1, u "java/util/AbstractList"), (0, u "modCount"), (0, u "I"), (64, .class_ 78), (0, u "java/util/AbstractList$Itr"), (3, .class_ 83), (0, u "java/util/AbstractList$ListItr"), (9, .class_ 94), (0, u "java/util/AbstractList$RandomAccessSubList"), (3, .class_ 99), (0, u "java/util/AbstractList$SubList"), (33, .class_ 134), (0, u "java/util/List"), (73, .class_ 209), (0, u "java/util/AbstractList$SubList$1"), (0, .class_ 211), (0, u "java/util/AbstractList$RandomAccessSpliterator")] 6

def k34m0 : Method := { name := "<init>", desc := "()V", sig := { parameters := [], returnType := none }, accessFlags := 4, code := none }
/-- java/util/AbstractList -/
def k34 : Class := { plain "java/util/AbstractList" (some 31) with
  accessFlags := 1057
  interfaces := #[33]
  cf := some (fileOf pool34 8 #[.nestMembers #[93, 98, 208, 210, 82, 77]] #[{ accessFlags := 4, nameIndex := 5, descriptorIndex := 6, attributes := #[] }] 1057 2 #[133] #[{ accessFlags := 132, nameIndex := 11, descriptorIndex := 12, attributes := #[] }])
  fields := #[{ name := "modCount", type := .int, accessFlags := 132, slot := 0, constantValue := 0 }]
  methods := #[k34m0]
  instanceTypes := #[.int]
  staticTypes := #[]
  resolved := Array.replicate 218 none
  statics := none }

def pool35 : Array CpInfo := pool [(1, .class_ 2), (0, u "java/util/RandomAccess"), (0, .class_ 4), (0, u "java/lang/Object")] 2

/-- java/util/RandomAccess -/
def k35 : Class := { plain "java/util/RandomAccess" (some 0) with
  accessFlags := 1537
  interfaces := #[]
  cf := some (fileOf pool35 1 #[] #[] 1537 3 #[] #[])
  fields := #[]
  methods := #[]
  instanceTypes := #[]
  staticTypes := #[]
  resolved := Array.replicate 7 none
  statics := none }

def pool36 : Array CpInfo := pool [(2, .class_ 4), (1, u "java/util/AbstractList"), (0, u "<init>"), (0, u "()V"), (1, .class_ 10), (1, u "java/util/Collections"), (54, .class_ 66), (0, u "java/util/Collections$EmptyList"), (0, .class_ 68), (0, u "java/util/RandomAccess"), (0, .class_ 70), (0, u "java/io/Serializable"), (0, u "serialVersionUID"), (0, u "J")] 77

def k36m0 : Method := { name := "<init>", desc := "()V", sig := { parameters := [], returnType := none }, accessFlags := 2, code := none }
/-- java/util/Collections$EmptyList -/
def k36 : Class := { plain "java/util/Collections$EmptyList" (some 34) with
  accessFlags := 32
  interfaces := #[35, 2]
  cf := some (fileOf pool36 65 #[.nestHost 8] #[{ accessFlags := 2, nameIndex := 5, descriptorIndex := 6, attributes := #[] }] 32 2 #[67, 69] #[{ accessFlags := 26, nameIndex := 71, descriptorIndex := 72, attributes := #[] }])
  fields := #[{ name := "serialVersionUID", type := .long, accessFlags := 26, slot := 0, constantValue := 0 }]
  methods := #[k36m0]
  instanceTypes := #[.int]
  staticTypes := #[.long]
  resolved := Array.replicate 150 none
  statics := none }

def pool37 : Array CpInfo := pool [(2, .class_ 4), (1, u "java/lang/StackTraceElement"), (0, u "<init>"), (2, .class_ 10), (1, u "java/lang/Object"), (0, u "()V"), (2, u "format"), (0, u "B"), (2, u "classLoaderName"), (0, u "Ljava/lang/String;"), (2, u "moduleName"), (2, u "moduleVersion"), (12, u "declaringClass"), (4, u "methodName"), (2, u "fileName"), (2, u "lineNumber"), (0, u "I"), (65, u "declaringClassObject"), (0, u "Ljava/lang/Class;"), (33, .class_ 153), (1, u "java/lang/StackTraceElement$HashedModules"), (17, .class_ 172), (0, u "java/io/Serializable"), (0, u "NATIVE_METHOD"), (1, u "UNKNOWN_SOURCE"), (2, u "BUILTIN_CLASS_LOADER"), (1, u "JDK_NON_UPGRADEABLE_MODULE"), (1, u "serialVersionUID"), (0, u "J")] 51

def k37m0 : Method := { name := "<init>", desc := "()V", sig := { parameters := [], returnType := none }, accessFlags := 2, code := none }
/-- java/lang/StackTraceElement -/
def k37 : Class := { plain "java/lang/StackTraceElement" (some 0) with
  accessFlags := 49
  interfaces := #[2]
  cf := some (fileOf pool37 2 #[.nestMembers #[151]] #[{ accessFlags := 2, nameIndex := 5, descriptorIndex := 11, attributes := #[] }] 49 8 #[171] #[{ accessFlags := 26, nameIndex := 173, descriptorIndex := 19, attributes := #[] }, { accessFlags := 26, nameIndex := 175, descriptorIndex := 19, attributes := #[] }, { accessFlags := 130, nameIndex := 116, descriptorIndex := 117, attributes := #[] }, { accessFlags := 2, nameIndex := 18, descriptorIndex := 19, attributes := #[] }, { accessFlags := 2, nameIndex := 22, descriptorIndex := 19, attributes := #[] }, { accessFlags := 2, nameIndex := 25, descriptorIndex := 19, attributes := #[] }, { accessFlags := 2, nameIndex := 38, descriptorIndex := 19, attributes := #[] }, { accessFlags := 2, nameIndex := 43, descriptorIndex := 19, attributes := #[] }, { accessFlags := 2, nameIndex := 46, descriptorIndex := 19, attributes := #[] }, { accessFlags := 2, nameIndex := 49, descriptorIndex := 50, attributes := #[] }, { accessFlags := 2, nameIndex := 14, descriptorIndex := 15, attributes := #[] }, { accessFlags := 26, nameIndex := 178, descriptorIndex := 15, attributes := #[] }, { accessFlags := 26, nameIndex := 180, descriptorIndex := 15, attributes := #[] }, { accessFlags := 26, nameIndex := 182, descriptorIndex := 183, attributes := #[] }])
  fields := #[{ name := "NATIVE_METHOD", type := (.object "java/lang/String"), accessFlags := 26, slot := 0, constantValue := 0 }, { name := "UNKNOWN_SOURCE", type := (.object "java/lang/String"), accessFlags := 26, slot := 1, constantValue := 0 }, { name := "declaringClassObject", type := (.object "java/lang/Class"), accessFlags := 130, slot := 0, constantValue := 0 }, { name := "classLoaderName", type := (.object "java/lang/String"), accessFlags := 2, slot := 1, constantValue := 0 }, { name := "moduleName", type := (.object "java/lang/String"), accessFlags := 2, slot := 2, constantValue := 0 }, { name := "moduleVersion", type := (.object "java/lang/String"), accessFlags := 2, slot := 3, constantValue := 0 }, { name := "declaringClass", type := (.object "java/lang/String"), accessFlags := 2, slot := 4, constantValue := 0 }, { name := "methodName", type := (.object "java/lang/String"), accessFlags := 2, slot := 5, constantValue := 0 }, { name := "fileName", type := (.object "java/lang/String"), accessFlags := 2, slot := 6, constantValue := 0 }, { name := "lineNumber", type := .int, accessFlags := 2, slot := 7, constantValue := 0 }, { name := "format", type := .byte, accessFlags := 2, slot := 8, constantValue := 0 }, { name := "BUILTIN_CLASS_LOADER", type := .byte, accessFlags := 26, slot := 2, constantValue := 0 }, { name := "JDK_NON_UPGRADEABLE_MODULE", type := .byte, accessFlags := 26, slot := 3, constantValue := 0 }, { name := "serialVersionUID", type := .long, accessFlags := 26, slot := 4, constantValue := 0 }]
  methods := #[k37m0]
  instanceTypes := #[(.object "java/lang/Class"), (.object "java/lang/String"), (.object "java/lang/String"), (.object "java/lang/String"), (.object "java/lang/String"), (.object "java/lang/String"), (.object "java/lang/String"), .int, .byte]
  staticTypes := #[(.object "java/lang/String"), (.object "java/lang/String"), .byte, .byte, .long]
  resolved := Array.replicate 235 none
  statics := none }

/-- the primitive byte -/
def k38 : Class := { plain "byte" none with kind := .primitive 'B', accessFlags := 0x411 }
/-- [B -/
def k39 : Class := { plain "[B" (some 0) with kind := .array 38 .byte, interfaces := #[27, 2], accessFlags := 1041 }

/-- the primitive char -/
def k40 : Class := { plain "char" none with kind := .primitive 'C', accessFlags := 0x411 }
/-- [C -/
def k41 : Class := { plain "[C" (some 0) with kind := .array 40 .char, interfaces := #[27, 2], accessFlags := 1041 }

/-- the primitive int -/
def k42 : Class := { plain "int" none with kind := .primitive 'I', accessFlags := 0x411 }
/-- [I -/
def k43 : Class := { plain "[I" (some 0) with kind := .array 42 .int, interfaces := #[27, 2], accessFlags := 1041 }

/-- [Ljava/lang/Object; -/
def k44 : Class := { plain "[Ljava/lang/Object;" (some 0) with kind := .array 0 (.object "java/lang/Object"), interfaces := #[27, 2], accessFlags := 1041 }

/-- [Ljava/lang/StackTraceElement; -/
def k45 : Class := { plain "[Ljava/lang/StackTraceElement;" (some 0) with kind := .array 37 (.object "java/lang/StackTraceElement"), interfaces := #[27, 2], accessFlags := 1041 }

/-- [Ljava/lang/Throwable; -/
def k46 : Class := { plain "[Ljava/lang/Throwable;" (some 0) with kind := .array 12 (.object "java/lang/Throwable"), interfaces := #[27, 2], accessFlags := 1041 }

def heap : Heap := #[{ cls := 7, slots := #[.long 0, .int 1, .null, .int 0, .null, .int 0, .int 0], vm := .statics 7 },
  { cls := 12, slots := #[.long 0, .ref 7, .ref 8, .null, .null, .null, .null, .ref 9, .int 1], vm := .statics 12 },
  { cls := 21, slots := #[.int 0, .int 0, .null, .null, .ref 6, .ref 5, .int 0, .int 0, .long 0], vm := .statics 21 },
  { cls := 25, slots := #[.null, .null, .null], vm := .statics 25 },
  { cls := 28, slots := #[.int 0, .int 0, .int 0, .int 0, .int 0, .int 0, .int 0, .int 0, .null, .null, .ref 8, .null], vm := .statics 28 },
  { cls := 39, slots := #[.int 48, .int 49, .int 50, .int 51, .int 52, .int 53, .int 54, .int 55, .int 56, .int 57, .int 48, .int 49, .int 50, .int 51, .int 52, .int 53, .int 54, .int 55, .int 56, .int 57, .int 48, .int 49, .int 50, .int 51, .int 52, .int 53, .int 54, .int 55, .int 56, .int 57, .int 48, .int 49, .int 50, .int 51, .int 52, .int 53, .int 54, .int 55, .int 56, .int 57, .int 48, .int 49, .int 50, .int 51, .int 52, .int 53, .int 54, .int 55, .int 56, .int 57, .int 48, .int 49, .int 50, .int 51, .int 52, .int 53, .int 54, .int 55, .int 56, .int 57, .int 48, .int 49, .int 50, .int 51, .int 52, .int 53, .int 54, .int 55, .int 56, .int 57, .int 48, .int 49, .int 50, .int 51, .int 52, .int 53, .int 54, .int 55, .int 56, .int 57, .int 48, .int 49, .int 50, .int 51, .int 52, .int 53, .int 54, .int 55, .int 56, .int 57, .int 48, .int 49, .int 50, .int 51, .int 52, .int 53, .int 54, .int 55, .int 56, .int 57], vm := .none },
  { cls := 39, slots := #[.int 48, .int 48, .int 48, .int 48, .int 48, .int 48, .int 48, .int 48, .int 48, .int 48, .int 49, .int 49, .int 49, .int 49, .int 49, .int 49, .int 49, .int 49, .int 49, .int 49, .int 50, .int 50, .int 50, .int 50, .int 50, .int 50, .int 50, .int 50, .int 50, .int 50, .int 51, .int 51, .int 51, .int 51, .int 51, .int 51, .int 51, .int 51, .int 51, .int 51, .int 52, .int 52, .int 52, .int 52, .int 52, .int 52, .int 52, .int 52, .int 52, .int 52, .int 53, .int 53, .int 53, .int 53, .int 53, .int 53, .int 53, .int 53, .int 53, .int 53, .int 54, .int 54, .int 54, .int 54, .int 54, .int 54, .int 54, .int 54, .int 54, .int 54, .int 55, .int 55, .int 55, .int 55, .int 55, .int 55, .int 55, .int 55, .int 55, .int 55, .int 56, .int 56, .int 56, .int 56, .int 56, .int 56, .int 56, .int 56, .int 56, .int 56, .int 57, .int 57, .int 57, .int 57, .int 57, .int 57, .int 57, .int 57, .int 57, .int 57], vm := .none },
  { cls := 45, slots := #[], vm := .none },
  { cls := 36, slots := #[.int 0], vm := .none },
  { cls := 46, slots := #[], vm := .none }]
def classes : Array Class := #[k0, k1, k2, k3, k4, k5, k6, k7, k8, k9, k10, k11, k12, k13, k14, k15, k16, k17, k18, k19, k20, k21, k22, k23, k24, k25, k26, k27, k28, k29, k30, k31, k32, k33, k34, k35, k36, k37, k38, k39, k40, k41, k42, k43, k44, k45, k46]
def interned : List (Array UInt16 × Addr) := []
def slotsUsed : Nat := 241
def theMethod : MethodId := ⟨1, 1⟩
def args0 : Array Value := #[.int 5, .int 7, .long 9]
def aboutOver (below : List Frame) : State where
  vm := { classes := classes, interned := interned.toArray }
  heap := heap
  slotsUsed := slotsUsed
  threads := #[{ frames := .invoking theMethod args0 :: below }]
def below0 : List Frame := [.native { method := ⟨0, 0⟩, args := #[] }]
def about1 : State := aboutOver below0
def p0 : Program := .bare "" "" ""
def e0 : Env := launch0.env 0 0 0
theorem w_frames : about1.frames = Frame.invoking theMethod args0 :: below0 := rfl
set_option maxRecDepth 65536 in
theorem w_args : argsFit about1.vm theMethod args0 = true := by decide +kernel
set_option maxRecDepth 65536 in
theorem w_heap : heapFits about1 = true := by decide +kernel
set_option maxRecDepth 65536 in
theorem w_runnable : about1.curStatus? = some .runnable := by decide +kernel
set_option maxRecDepth 65536 in
theorem w_alone : about1.alone = true := by decide +kernel
set_option maxRecDepth 65536 in
theorem w_named : about1.methodNamed? x = some theMethod := by decide +kernel
set_option maxRecDepth 65536 in
theorem w_hears : about1.hears theMethod below0 = true := by decide +kernel
set_option maxRecDepth 65536 in
theorem w_ripe : about1.ripe theMethod args0 below0 = true := by decide +kernel
theorem w_running : about1.status = .running := rfl
set_option maxRecDepth 65536 in
theorem w_room : about1.hasRoom e0.platform room_1 = true :=
  launch0.hasRoom_least _ room_1 (by decide +kernel) (by decide +kernel) (by decide +kernel) (by decide +kernel) (by decide +kernel) (by decide +kernel)
theorem allAtoms_all (ts : List Jvm.Cond) (a : Array Jvm.Value) (st : Jvm.State) : (allAtoms ts).before a st = ts.all (fun c => c.before a st) := by
  induction ts with
  | nil => rfl
  | cons c t ih =>
    show (Jvm.Cond.and c (allAtoms t)).before a st = _
    rw [Jvm.Cond.before_and, ih, List.all_cons]
def words1 : List Jvm.Cond := Jvm.Cond.code x code maxLocals ret :: tables_1
/-- a 'code' word, met by the world's own term for the bytes: nothing is compared byte by byte -/
theorem code_word {y : MethodName} {bytes : ByteArray} {mx : Nat} {rt : Option FieldType} {a : Array Value} {s : State} {m : MethodId} {meth : Method} {c : Code} (h1 : s.methodNamed? y = some m) (h2 : s.vm.method? m = some meth) (h3 : meth.code = some c) (h4 : c.code = bytes)
    (h5 : (c.maxLocals == mx && c.exceptionTable.isEmpty && decide (c.maxStack ≤ mostOperands) && decide (meth.sig.returnType = rt) && !meth.locks && decide (parseMethodDescriptor y.desc = some meth.sig)) = true) : (Jvm.Cond.code y bytes mx rt).before a s = true := by
  simp only [Bool.and_eq_true, beq_iff_eq, Bool.not_eq_true', decide_eq_true_eq] at h5
  obtain ⟨⟨⟨⟨⟨g1, g2⟩, g3⟩, g4⟩, g5⟩, g6⟩ := h5
  simp [Cond.before, Cond.holds, Cond.value, h1, h2, h3, h4, g1, g2, g3, g4, g5, g6]
def isCode : Jvm.Cond → Bool
  | .code _ _ _ _ => true
  | _ => false
theorem all_split {L : List Jvm.Cond} {P : Jvm.Cond → Bool} (h1 : L.all (fun c => isCode c || P c) = true) (h2 : ∀ c ∈ L.filter isCode, P c = true) : L.all P = true := by
  refine List.all_eq_true.mpr fun c hc => ?_
  have h := List.all_eq_true.mp h1 c hc
  rcases Bool.eq_false_or_eq_true (isCode c) with hi | hi
  · exact h2 c (List.mem_filter.mpr ⟨hc, hi⟩)
  · simpa [hi] using h
set_option maxRecDepth 65536 in
theorem w_c0 : (Jvm.Cond.code x code maxLocals ret).before args0 about1 = true := code_word (m := ⟨1, 1⟩) (meth := k1m1) (c := k1c1) (by decide +kernel) rfl rfl rfl (by decide +kernel)
set_option maxRecDepth 65536 in
theorem w_c1 : (Jvm.Cond.code ({ cls := "com/example/fala/fala/format/CsvReaderRefusalPinLaw", name := "str", desc := "(ICC)Ljava/lang/String;" } : Jvm.MethodName) method_3_code (3 : Nat) (Option.some (Jvm.ClassFile.FieldType.object "java/lang/String"))).before args0 about1 = true := code_word (m := ⟨1, 2⟩) (meth := k1m2) (c := k1c2) (by decide +kernel) rfl rfl rfl (by decide +kernel)
set_option maxRecDepth 65536 in
theorem w_c2 : (Jvm.Cond.code ({ cls := "java/lang/String", name := "<init>", desc := "([C)V" } : Jvm.MethodName) jdk_42_method_3_code (2 : Nat) (Option.none : Option Jvm.ClassFile.FieldType)).before args0 about1 = true := code_word (m := ⟨7, 1⟩) (meth := k7m1) (c := k7c1) (by decide +kernel) rfl rfl rfl (by decide +kernel)
set_option maxRecDepth 65536 in
theorem w_c3 : (Jvm.Cond.code ({ cls := "java/lang/String", name := "<init>", desc := "([CIILjava/lang/Void;)V" } : Jvm.MethodName) jdk_42_method_149_code (6 : Nat) (Option.none : Option Jvm.ClassFile.FieldType)).before args0 about1 = true := code_word (m := ⟨7, 7⟩) (meth := k7m7) (c := k7c7) (by decide +kernel) rfl rfl rfl (by decide +kernel)
set_option maxRecDepth 65536 in
theorem w_c4 : (Jvm.Cond.code ({ cls := "java/lang/Object", name := "<init>", desc := "()V" } : Jvm.MethodName) object_method_1_code (1 : Nat) (Option.none : Option Jvm.ClassFile.FieldType)).before args0 about1 = true := code_word (m := ⟨0, 0⟩) (meth := k0m0) (c := k0c0) (by decide +kernel) rfl rfl rfl (by decide +kernel)
set_option maxRecDepth 65536 in
theorem w_c5 : (Jvm.Cond.code ({ cls := "java/lang/StringUTF16", name := "compress", desc := "([CII)[B" } : Jvm.MethodName) jdk_52_method_16_code (6 : Nat) (Option.some (Jvm.ClassFile.FieldType.array Jvm.ClassFile.FieldType.byte))).before args0 about1 = true := code_word (m := ⟨8, 2⟩) (meth := k8m2) (c := k8c2) (by decide +kernel) rfl rfl rfl (by decide +kernel)
set_option maxRecDepth 65536 in
theorem w_c6 : (Jvm.Cond.code ({ cls := "java/lang/StringUTF16", name := "compress", desc := "([CI[BII)I" } : Jvm.MethodName) jdk_52_method_21_code (7 : Nat) (Option.some Jvm.ClassFile.FieldType.int)).before args0 about1 = true := code_word (m := ⟨8, 3⟩) (meth := k8m3) (c := k8c3) (by decide +kernel) rfl rfl rfl (by decide +kernel)
set_option maxRecDepth 65536 in
theorem w_c7 : (Jvm.Cond.code ({ cls := "java/lang/StringUTF16", name := "coderFromArrayLen", desc := "([BI)B" } : Jvm.MethodName) jdk_52_method_15_code (2 : Nat) (Option.some Jvm.ClassFile.FieldType.byte)).before args0 about1 = true := code_word (m := ⟨8, 1⟩) (meth := k8m1) (c := k8c1) (by decide +kernel) rfl rfl rfl (by decide +kernel)
set_option maxRecDepth 65536 in
theorem w_c8 : (Jvm.Cond.code ({ cls := "com/example/fala/fala/format/CsvReader", name := "refusal", desc := "(Ljava/lang/String;JLjava/lang/String;)Lcom/example/fala/fala/format/InvalidInputException;" } : Jvm.MethodName) prog_29_method_9_code (4 : Nat) (Option.some (Jvm.ClassFile.FieldType.object "com/example/fala/fala/format/InvalidInputException"))).before args0 about1 = true := code_word (m := ⟨11, 0⟩) (meth := k11m0) (c := k11c0) (by decide +kernel) rfl rfl rfl (by decide +kernel)
set_option maxRecDepth 65536 in
theorem w_c9 : (Jvm.Cond.code ({ cls := "java/lang/StringBuilder", name := "<init>", desc := "()V" } : Jvm.MethodName) jdk_67_method_1_code (1 : Nat) (Option.none : Option Jvm.ClassFile.FieldType)).before args0 about1 = true := code_word (m := ⟨17, 0⟩) (meth := k17m0) (c := k17c0) (by decide +kernel) rfl rfl rfl (by decide +kernel)
set_option maxRecDepth 65536 in
theorem w_c10 : (Jvm.Cond.code ({ cls := "java/lang/AbstractStringBuilder", name := "<init>", desc := "(I)V" } : Jvm.MethodName) jdk_68_method_2_code (2 : Nat) (Option.none : Option Jvm.ClassFile.FieldType)).before args0 about1 = true := code_word (m := ⟨16, 1⟩) (meth := k16m1) (c := k16c1) (by decide +kernel) rfl rfl rfl (by decide +kernel)
set_option maxRecDepth 65536 in
theorem w_c11 : (Jvm.Cond.code ({ cls := "java/lang/StringBuilder", name := "append", desc := "(Ljava/lang/String;)Ljava/lang/StringBuilder;" } : Jvm.MethodName) jdk_67_method_7_code (2 : Nat) (Option.some (Jvm.ClassFile.FieldType.object "java/lang/StringBuilder"))).before args0 about1 = true := code_word (m := ⟨17, 1⟩) (meth := k17m1) (c := k17c1) (by decide +kernel) rfl rfl rfl (by decide +kernel)
set_option maxRecDepth 65536 in
theorem w_c12 : (Jvm.Cond.code ({ cls := "java/lang/AbstractStringBuilder", name := "append", desc := "(Ljava/lang/String;)Ljava/lang/AbstractStringBuilder;" } : Jvm.MethodName) jdk_68_method_22_code (3 : Nat) (Option.some (Jvm.ClassFile.FieldType.object "java/lang/AbstractStringBuilder"))).before args0 about1 = true := code_word (m := ⟨16, 5⟩) (meth := k16m5) (c := k16c5) (by decide +kernel) rfl rfl rfl (by decide +kernel)
set_option maxRecDepth 65536 in
theorem w_c13 : (Jvm.Cond.code ({ cls := "java/lang/String", name := "length", desc := "()I" } : Jvm.MethodName) jdk_42_method_54_code (1 : Nat) (Option.some Jvm.ClassFile.FieldType.int)).before args0 about1 = true := code_word (m := ⟨7, 3⟩) (meth := k7m3) (c := k7c3) (by decide +kernel) rfl rfl rfl (by decide +kernel)
set_option maxRecDepth 65536 in
theorem w_c14 : (Jvm.Cond.code ({ cls := "java/lang/String", name := "coder", desc := "()B" } : Jvm.MethodName) jdk_42_method_152_code (1 : Nat) (Option.some Jvm.ClassFile.FieldType.byte)).before args0 about1 = true := code_word (m := ⟨7, 10⟩) (meth := k7m10) (c := k7c10) (by decide +kernel) rfl rfl rfl (by decide +kernel)
set_option maxRecDepth 65536 in
theorem w_c15 : (Jvm.Cond.code ({ cls := "java/lang/AbstractStringBuilder", name := "ensureCapacityInternal", desc := "(I)V" } : Jvm.MethodName) jdk_68_method_9_code (3 : Nat) (Option.none : Option Jvm.ClassFile.FieldType)).before args0 about1 = true := code_word (m := ⟨16, 3⟩) (meth := k16m3) (c := k16c3) (by decide +kernel) rfl rfl rfl (by decide +kernel)
set_option maxRecDepth 65536 in
theorem w_c16 : (Jvm.Cond.code ({ cls := "java/lang/AbstractStringBuilder", name := "putStringAt", desc := "(ILjava/lang/String;)V" } : Jvm.MethodName) jdk_68_method_73_code (3 : Nat) (Option.none : Option Jvm.ClassFile.FieldType)).before args0 about1 = true := code_word (m := ⟨16, 10⟩) (meth := k16m10) (c := k16c10) (by decide +kernel) rfl rfl rfl (by decide +kernel)
set_option maxRecDepth 65536 in
theorem w_c17 : (Jvm.Cond.code ({ cls := "java/lang/AbstractStringBuilder", name := "inflateIfNeededFor", desc := "(Ljava/lang/String;)V" } : Jvm.MethodName) jdk_68_method_71_code (2 : Nat) (Option.none : Option Jvm.ClassFile.FieldType)).before args0 about1 = true := code_word (m := ⟨16, 9⟩) (meth := k16m9) (c := k16c9) (by decide +kernel) rfl rfl rfl (by decide +kernel)
set_option maxRecDepth 65536 in
theorem w_c18 : (Jvm.Cond.code ({ cls := "java/lang/String", name := "getBytes", desc := "([BIB)V" } : Jvm.MethodName) jdk_42_method_147_code (4 : Nat) (Option.none : Option Jvm.ClassFile.FieldType)).before args0 about1 = true := code_word (m := ⟨7, 6⟩) (meth := k7m6) (c := k7c6) (by decide +kernel) rfl rfl rfl (by decide +kernel)
set_option maxRecDepth 65536 in
theorem w_c19 : (Jvm.Cond.code ({ cls := "java/lang/StringBuilder", name := "append", desc := "(J)Ljava/lang/StringBuilder;" } : Jvm.MethodName) jdk_67_method_16_code (3 : Nat) (Option.some (Jvm.ClassFile.FieldType.object "java/lang/StringBuilder"))).before args0 about1 = true := code_word (m := ⟨17, 2⟩) (meth := k17m2) (c := k17c2) (by decide +kernel) rfl rfl rfl (by decide +kernel)
set_option maxRecDepth 65536 in
theorem w_c20 : (Jvm.Cond.code ({ cls := "java/lang/AbstractStringBuilder", name := "append", desc := "(J)Ljava/lang/AbstractStringBuilder;" } : Jvm.MethodName) jdk_68_method_33_code (5 : Nat) (Option.some (Jvm.ClassFile.FieldType.object "java/lang/AbstractStringBuilder"))).before args0 about1 = true := code_word (m := ⟨16, 6⟩) (meth := k16m6) (c := k16c6) (by decide +kernel) rfl rfl rfl (by decide +kernel)
set_option maxRecDepth 65536 in
theorem w_c21 : (Jvm.Cond.code ({ cls := "java/lang/Long", name := "stringSize", desc := "(J)I" } : Jvm.MethodName) jdk_35_method_15_code (6 : Nat) (Option.some Jvm.ClassFile.FieldType.int)).before args0 about1 = true := code_word (m := ⟨20, 1⟩) (meth := k20m1) (c := k20c1) (by decide +kernel) rfl rfl rfl (by decide +kernel)
set_option maxRecDepth 65536 in
theorem w_c22 : (Jvm.Cond.code ({ cls := "java/lang/AbstractStringBuilder", name := "isLatin1", desc := "()Z" } : Jvm.MethodName) jdk_68_method_68_code (1 : Nat) (Option.some Jvm.ClassFile.FieldType.boolean)).before args0 about1 = true := code_word (m := ⟨16, 8⟩) (meth := k16m8) (c := k16c8) (by decide +kernel) rfl rfl rfl (by decide +kernel)
set_option maxRecDepth 65536 in
theorem w_c23 : (Jvm.Cond.code ({ cls := "java/lang/Long", name := "getChars", desc := "(JI[B)I" } : Jvm.MethodName) jdk_35_method_14_code (11 : Nat) (Option.some Jvm.ClassFile.FieldType.int)).before args0 about1 = true := code_word (m := ⟨20, 0⟩) (meth := k20m0) (c := k20c0) (by decide +kernel) rfl rfl rfl (by decide +kernel)
set_option maxRecDepth 65536 in
theorem w_c24 : (Jvm.Cond.code ({ cls := "java/lang/StringBuilder", name := "toString", desc := "()Ljava/lang/String;" } : Jvm.MethodName) jdk_67_method_42_code (1 : Nat) (Option.some (Jvm.ClassFile.FieldType.object "java/lang/String"))).before args0 about1 = true := code_word (m := ⟨17, 3⟩) (meth := k17m3) (c := k17c3) (by decide +kernel) rfl rfl rfl (by decide +kernel)
set_option maxRecDepth 65536 in
theorem w_c25 : (Jvm.Cond.code ({ cls := "java/lang/String", name := "<init>", desc := "(Ljava/lang/StringBuilder;)V" } : Jvm.MethodName) jdk_42_method_53_code (2 : Nat) (Option.none : Option Jvm.ClassFile.FieldType)).before args0 about1 = true := code_word (m := ⟨7, 2⟩) (meth := k7m2) (c := k7c2) (by decide +kernel) rfl rfl rfl (by decide +kernel)
set_option maxRecDepth 65536 in
theorem w_c26 : (Jvm.Cond.code ({ cls := "java/lang/String", name := "<init>", desc := "(Ljava/lang/AbstractStringBuilder;Ljava/lang/Void;)V" } : Jvm.MethodName) jdk_42_method_150_code (5 : Nat) (Option.none : Option Jvm.ClassFile.FieldType)).before args0 about1 = true := code_word (m := ⟨7, 8⟩) (meth := k7m8) (c := k7c8) (by decide +kernel) rfl rfl rfl (by decide +kernel)
set_option maxRecDepth 65536 in
theorem w_c27 : (Jvm.Cond.code ({ cls := "java/lang/AbstractStringBuilder", name := "getValue", desc := "()[B" } : Jvm.MethodName) jdk_68_method_64_code (1 : Nat) (Option.some (Jvm.ClassFile.FieldType.array Jvm.ClassFile.FieldType.byte))).before args0 about1 = true := code_word (m := ⟨16, 7⟩) (meth := k16m7) (c := k16c7) (by decide +kernel) rfl rfl rfl (by decide +kernel)
set_option maxRecDepth 65536 in
theorem w_c28 : (Jvm.Cond.code ({ cls := "java/lang/StringBuilder", name := "length", desc := "()I" } : Jvm.MethodName) jdk_67_method_93_code (1 : Nat) (Option.some Jvm.ClassFile.FieldType.int)).before args0 about1 = true := code_word (m := ⟨17, 4⟩) (meth := k17m4) (c := k17c4) (by decide +kernel) rfl rfl rfl (by decide +kernel)
set_option maxRecDepth 65536 in
theorem w_c29 : (Jvm.Cond.code ({ cls := "java/lang/AbstractStringBuilder", name := "length", desc := "()I" } : Jvm.MethodName) jdk_68_method_6_code (1 : Nat) (Option.some Jvm.ClassFile.FieldType.int)).before args0 about1 = true := code_word (m := ⟨16, 2⟩) (meth := k16m2) (c := k16c2) (by decide +kernel) rfl rfl rfl (by decide +kernel)
set_option maxRecDepth 65536 in
theorem w_c30 : (Jvm.Cond.code ({ cls := "java/util/Arrays", name := "copyOfRange", desc := "([BII)[B" } : Jvm.MethodName) jdk_65_method_132_code (3 : Nat) (Option.some (Jvm.ClassFile.FieldType.array Jvm.ClassFile.FieldType.byte))).before args0 about1 = true := code_word (m := ⟨22, 3⟩) (meth := k22m3) (c := k22c3) (by decide +kernel) rfl rfl rfl (by decide +kernel)
set_option maxRecDepth 65536 in
theorem w_c31 : (Jvm.Cond.code ({ cls := "java/util/Arrays", name := "copyOfRangeByte", desc := "([BII)[B" } : Jvm.MethodName) jdk_65_method_133_code (5 : Nat) (Option.some (Jvm.ClassFile.FieldType.array Jvm.ClassFile.FieldType.byte))).before args0 about1 = true := code_word (m := ⟨22, 4⟩) (meth := k22m4) (c := k22c4) (by decide +kernel) rfl rfl rfl (by decide +kernel)
set_option maxRecDepth 65536 in
theorem w_c32 : (Jvm.Cond.code ({ cls := "java/util/Arrays", name := "checkLength", desc := "(II)V" } : Jvm.MethodName) jdk_65_method_131_code (2 : Nat) (Option.none : Option Jvm.ClassFile.FieldType)).before args0 about1 = true := code_word (m := ⟨22, 2⟩) (meth := k22m2) (c := k22c2) (by decide +kernel) rfl rfl rfl (by decide +kernel)
set_option maxRecDepth 65536 in
theorem w_c33 : (Jvm.Cond.code ({ cls := "java/lang/Math", name := "min", desc := "(II)I" } : Jvm.MethodName) jdk_29_method_69_code (2 : Nat) (Option.some Jvm.ClassFile.FieldType.int)).before args0 about1 = true := code_word (m := ⟨23, 2⟩) (meth := k23m2) (c := k23c2) (by decide +kernel) rfl rfl rfl (by decide +kernel)
set_option maxRecDepth 65536 in
theorem w_c34 : (Jvm.Cond.code ({ cls := "com/example/fala/fala/format/InvalidInputException", name := "<init>", desc := "(Ljava/lang/String;)V" } : Jvm.MethodName) prog_33_method_1_code (2 : Nat) (Option.none : Option Jvm.ClassFile.FieldType)).before args0 about1 = true := code_word (m := ⟨14, 0⟩) (meth := k14m0) (c := k14c0) (by decide +kernel) rfl rfl rfl (by decide +kernel)
set_option maxRecDepth 65536 in
theorem w_c35 : (Jvm.Cond.code ({ cls := "java/lang/Exception", name := "<init>", desc := "(Ljava/lang/String;)V" } : Jvm.MethodName) jdk_59_method_2_code (2 : Nat) (Option.none : Option Jvm.ClassFile.FieldType)).before args0 about1 = true := code_word (m := ⟨13, 1⟩) (meth := k13m1) (c := k13c1) (by decide +kernel) rfl rfl rfl (by decide +kernel)
set_option maxRecDepth 65536 in
theorem w_c36 : (Jvm.Cond.code ({ cls := "java/lang/Throwable", name := "<init>", desc := "(Ljava/lang/String;)V" } : Jvm.MethodName) jdk_78_method_2_code (2 : Nat) (Option.none : Option Jvm.ClassFile.FieldType)).before args0 about1 = true := code_word (m := ⟨12, 1⟩) (meth := k12m1) (c := k12c1) (by decide +kernel) rfl rfl rfl (by decide +kernel)
set_option maxRecDepth 65536 in
theorem w_c37 : (Jvm.Cond.code ({ cls := "java/lang/Throwable", name := "<init>", desc := "()V" } : Jvm.MethodName) jdk_78_method_1_code (1 : Nat) (Option.none : Option Jvm.ClassFile.FieldType)).before args0 about1 = true := code_word (m := ⟨12, 0⟩) (meth := k12m0) (c := k12c0) (by decide +kernel) rfl rfl rfl (by decide +kernel)
set_option maxRecDepth 65536 in
theorem w_c38 : (Jvm.Cond.code ({ cls := "java/lang/Throwable", name := "getMessage", desc := "()Ljava/lang/String;" } : Jvm.MethodName) jdk_78_method_6_code (1 : Nat) (Option.some (Jvm.ClassFile.FieldType.object "java/lang/String"))).before args0 about1 = true := code_word (m := ⟨12, 2⟩) (meth := k12m2) (c := k12c2) (by decide +kernel) rfl rfl rfl (by decide +kernel)
set_option maxRecDepth 65536 in
theorem w_c39 : (Jvm.Cond.code ({ cls := "com/example/fala/fala/format/CsvReaderRefusalPinLaw", name := "digits", desc := "(J)I" } : Jvm.MethodName) method_6_code (2 : Nat) (Option.some Jvm.ClassFile.FieldType.int)).before args0 about1 = true := code_word (m := ⟨1, 5⟩) (meth := k1m5) (c := k1c5) (by decide +kernel) rfl rfl rfl (by decide +kernel)
set_option maxRecDepth 65536 in
theorem w_c40 : (Jvm.Cond.code ({ cls := "com/example/fala/fala/format/CsvReaderRefusalPinLaw", name := "ge", desc := "(JJ)I" } : Jvm.MethodName) method_5_code (4 : Nat) (Option.some Jvm.ClassFile.FieldType.int)).before args0 about1 = true := code_word (m := ⟨1, 4⟩) (meth := k1m4) (c := k1c4) (by decide +kernel) rfl rfl rfl (by decide +kernel)
set_option maxRecDepth 65536 in
theorem w_c41 : (Jvm.Cond.code ({ cls := "com/example/fala/fala/format/CsvReaderRefusalPinLaw", name := "at", desc := "(Ljava/lang/String;IC)Z" } : Jvm.MethodName) method_4_code (3 : Nat) (Option.some Jvm.ClassFile.FieldType.boolean)).before args0 about1 = true := code_word (m := ⟨1, 3⟩) (meth := k1m3) (c := k1c3) (by decide +kernel) rfl rfl rfl (by decide +kernel)
set_option maxRecDepth 65536 in
theorem w_c42 : (Jvm.Cond.code ({ cls := "java/lang/String", name := "charAt", desc := "(I)C" } : Jvm.MethodName) jdk_42_method_56_code (2 : Nat) (Option.some Jvm.ClassFile.FieldType.char)).before args0 about1 = true := code_word (m := ⟨7, 4⟩) (meth := k7m4) (c := k7c4) (by decide +kernel) rfl rfl rfl (by decide +kernel)
set_option maxRecDepth 65536 in
theorem w_c43 : (Jvm.Cond.code ({ cls := "java/lang/String", name := "isLatin1", desc := "()Z" } : Jvm.MethodName) jdk_42_method_154_code (1 : Nat) (Option.some Jvm.ClassFile.FieldType.boolean)).before args0 about1 = true := code_word (m := ⟨7, 11⟩) (meth := k7m11) (c := k7c11) (by decide +kernel) rfl rfl rfl (by decide +kernel)
set_option maxRecDepth 65536 in
theorem w_c44 : (Jvm.Cond.code ({ cls := "java/lang/StringLatin1", name := "charAt", desc := "([BI)C" } : Jvm.MethodName) jdk_43_method_2_code (2 : Nat) (Option.some Jvm.ClassFile.FieldType.char)).before args0 about1 = true := code_word (m := ⟨24, 1⟩) (meth := k24m1) (c := k24c1) (by decide +kernel) rfl rfl rfl (by decide +kernel)
set_option maxRecDepth 65536 in
theorem w_c45 : (Jvm.Cond.code ({ cls := "java/lang/String", name := "checkIndex", desc := "(II)V" } : Jvm.MethodName) jdk_42_method_155_code (2 : Nat) (Option.none : Option Jvm.ClassFile.FieldType)).before args0 about1 = true := code_word (m := ⟨7, 12⟩) (meth := k7m12) (c := k7c12) (by decide +kernel) rfl rfl rfl (by decide +kernel)
set_option maxRecDepth 65536 in
theorem w_c46 : (Jvm.Cond.code ({ cls := "jdk/internal/util/Preconditions", name := "checkIndex", desc := "(IILjava/util/function/BiFunction;)I" } : Jvm.MethodName) jdk_41_method_11_code (3 : Nat) (Option.some Jvm.ClassFile.FieldType.int)).before args0 about1 = true := code_word (m := ⟨25, 1⟩) (meth := k25m1) (c := k25c1) (by decide +kernel) rfl rfl rfl (by decide +kernel)
set_option maxRecDepth 65536 in
theorem w_c47 : (Jvm.Cond.code ({ cls := "com/example/fala/fala/format/CsvReaderRefusalPinLaw", name := "dig", desc := "(Ljava/lang/String;IJIIJ)Z" } : Jvm.MethodName) method_7_code (9 : Nat) (Option.some Jvm.ClassFile.FieldType.boolean)).before args0 about1 = true := code_word (m := ⟨1, 6⟩) (meth := k1m6) (c := k1c6) (by decide +kernel) rfl rfl rfl (by decide +kernel)
set_option maxRecDepth 65536 in
theorem w_c48 : (Jvm.Cond.code ({ cls := "java/lang/AbstractStringBuilder", name := "newCapacity", desc := "(I)I" } : Jvm.MethodName) jdk_68_method_10_code (6 : Nat) (Option.some Jvm.ClassFile.FieldType.int)).before args0 about1 = true := code_word (m := ⟨16, 4⟩) (meth := k16m4) (c := k16c4) (by decide +kernel) rfl rfl rfl (by decide +kernel)
set_option maxRecDepth 65536 in
theorem w_c49 : (Jvm.Cond.code ({ cls := "jdk/internal/util/ArraysSupport", name := "newLength", desc := "(III)I" } : Jvm.MethodName) jdk_48_method_27_code (4 : Nat) (Option.some Jvm.ClassFile.FieldType.int)).before args0 about1 = true := code_word (m := ⟨26, 1⟩) (meth := k26m1) (c := k26c1) (by decide +kernel) rfl rfl rfl (by decide +kernel)
set_option maxRecDepth 65536 in
theorem w_c50 : (Jvm.Cond.code ({ cls := "java/lang/Math", name := "max", desc := "(II)I" } : Jvm.MethodName) jdk_29_method_65_code (2 : Nat) (Option.some Jvm.ClassFile.FieldType.int)).before args0 about1 = true := code_word (m := ⟨23, 1⟩) (meth := k23m1) (c := k23c1) (by decide +kernel) rfl rfl rfl (by decide +kernel)
set_option maxRecDepth 65536 in
theorem w_c51 : (Jvm.Cond.code ({ cls := "java/util/Arrays", name := "copyOf", desc := "([BI)[B" } : Jvm.MethodName) jdk_65_method_121_code (3 : Nat) (Option.some (Jvm.ClassFile.FieldType.array Jvm.ClassFile.FieldType.byte))).before args0 about1 = true := code_word (m := ⟨22, 1⟩) (meth := k22m1) (c := k22c1) (by decide +kernel) rfl rfl rfl (by decide +kernel)
set_option maxRecDepth 65536 in
theorem w_c52 : (Jvm.Cond.code ({ cls := "java/lang/String", name := "valueOf", desc := "(C)Ljava/lang/String;" } : Jvm.MethodName) jdk_42_method_139_code (1 : Nat) (Option.some (Jvm.ClassFile.FieldType.object "java/lang/String"))).before args0 about1 = true := code_word (m := ⟨7, 5⟩) (meth := k7m5) (c := k7c5) (by decide +kernel) rfl rfl rfl (by decide +kernel)
set_option maxRecDepth 65536 in
theorem w_c53 : (Jvm.Cond.code ({ cls := "java/lang/StringLatin1", name := "canEncode", desc := "(C)Z" } : Jvm.MethodName) jdk_43_method_3_code (1 : Nat) (Option.some Jvm.ClassFile.FieldType.boolean)).before args0 about1 = true := code_word (m := ⟨24, 2⟩) (meth := k24m2) (c := k24c2) (by decide +kernel) rfl rfl rfl (by decide +kernel)
set_option maxRecDepth 65536 in
theorem w_c54 : (Jvm.Cond.code ({ cls := "java/lang/StringLatin1", name := "toBytes", desc := "(C)[B" } : Jvm.MethodName) jdk_43_method_46_code (1 : Nat) (Option.some (Jvm.ClassFile.FieldType.array Jvm.ClassFile.FieldType.byte))).before args0 about1 = true := code_word (m := ⟨24, 3⟩) (meth := k24m3) (c := k24c3) (by decide +kernel) rfl rfl rfl (by decide +kernel)
set_option maxRecDepth 65536 in
theorem w_c55 : (Jvm.Cond.code ({ cls := "java/lang/String", name := "<init>", desc := "([BB)V" } : Jvm.MethodName) jdk_42_method_151_code (3 : Nat) (Option.none : Option Jvm.ClassFile.FieldType)).before args0 about1 = true := code_word (m := ⟨7, 9⟩) (meth := k7m9) (c := k7c9) (by decide +kernel) rfl rfl rfl (by decide +kernel)
def codes1 : List Jvm.Cond := [Jvm.Cond.code x code maxLocals ret, Jvm.Cond.code ({ cls := "com/example/fala/fala/format/CsvReaderRefusalPinLaw", name := "str", desc := "(ICC)Ljava/lang/String;" } : Jvm.MethodName) method_3_code (3 : Nat) (Option.some (Jvm.ClassFile.FieldType.object "java/lang/String")), Jvm.Cond.code ({ cls := "java/lang/String", name := "<init>", desc := "([C)V" } : Jvm.MethodName) jdk_42_method_3_code (2 : Nat) (Option.none : Option Jvm.ClassFile.FieldType), Jvm.Cond.code ({ cls := "java/lang/String", name := "<init>", desc := "([CIILjava/lang/Void;)V" } : Jvm.MethodName) jdk_42_method_149_code (6 : Nat) (Option.none : Option Jvm.ClassFile.FieldType), Jvm.Cond.code ({ cls := "java/lang/Object", name := "<init>", desc := "()V" } : Jvm.MethodName) object_method_1_code (1 : Nat) (Option.none : Option Jvm.ClassFile.FieldType), Jvm.Cond.code ({ cls := "java/lang/StringUTF16", name := "compress", desc := "([CII)[B" } : Jvm.MethodName) jdk_52_method_16_code (6 : Nat) (Option.some (Jvm.ClassFile.FieldType.array Jvm.ClassFile.FieldType.byte)), Jvm.Cond.code ({ cls := "java/lang/StringUTF16", name := "compress", desc := "([CI[BII)I" } : Jvm.MethodName) jdk_52_method_21_code (7 : Nat) (Option.some Jvm.ClassFile.FieldType.int), Jvm.Cond.code ({ cls := "java/lang/StringUTF16", name := "coderFromArrayLen", desc := "([BI)B" } : Jvm.MethodName) jdk_52_method_15_code (2 : Nat) (Option.some Jvm.ClassFile.FieldType.byte), Jvm.Cond.code ({ cls := "com/example/fala/fala/format/CsvReader", name := "refusal", desc := "(Ljava/lang/String;JLjava/lang/String;)Lcom/example/fala/fala/format/InvalidInputException;" } : Jvm.MethodName) prog_29_method_9_code (4 : Nat) (Option.some (Jvm.ClassFile.FieldType.object "com/example/fala/fala/format/InvalidInputException")), Jvm.Cond.code ({ cls := "java/lang/StringBuilder", name := "<init>", desc := "()V" } : Jvm.MethodName) jdk_67_method_1_code (1 : Nat) (Option.none : Option Jvm.ClassFile.FieldType), Jvm.Cond.code ({ cls := "java/lang/AbstractStringBuilder", name := "<init>", desc := "(I)V" } : Jvm.MethodName) jdk_68_method_2_code (2 : Nat) (Option.none : Option Jvm.ClassFile.FieldType), Jvm.Cond.code ({ cls := "java/lang/StringBuilder", name := "append", desc := "(Ljava/lang/String;)Ljava/lang/StringBuilder;" } : Jvm.MethodName) jdk_67_method_7_code (2 : Nat) (Option.some (Jvm.ClassFile.FieldType.object "java/lang/StringBuilder")), Jvm.Cond.code ({ cls := "java/lang/AbstractStringBuilder", name := "append", desc := "(Ljava/lang/String;)Ljava/lang/AbstractStringBuilder;" } : Jvm.MethodName) jdk_68_method_22_code (3 : Nat) (Option.some (Jvm.ClassFile.FieldType.object "java/lang/AbstractStringBuilder")), Jvm.Cond.code ({ cls := "java/lang/String", name := "length", desc := "()I" } : Jvm.MethodName) jdk_42_method_54_code (1 : Nat) (Option.some Jvm.ClassFile.FieldType.int), Jvm.Cond.code ({ cls := "java/lang/String", name := "coder", desc := "()B" } : Jvm.MethodName) jdk_42_method_152_code (1 : Nat) (Option.some Jvm.ClassFile.FieldType.byte), Jvm.Cond.code ({ cls := "java/lang/AbstractStringBuilder", name := "ensureCapacityInternal", desc := "(I)V" } : Jvm.MethodName) jdk_68_method_9_code (3 : Nat) (Option.none : Option Jvm.ClassFile.FieldType), Jvm.Cond.code ({ cls := "java/lang/AbstractStringBuilder", name := "putStringAt", desc := "(ILjava/lang/String;)V" } : Jvm.MethodName) jdk_68_method_73_code (3 : Nat) (Option.none : Option Jvm.ClassFile.FieldType), Jvm.Cond.code ({ cls := "java/lang/AbstractStringBuilder", name := "inflateIfNeededFor", desc := "(Ljava/lang/String;)V" } : Jvm.MethodName) jdk_68_method_71_code (2 : Nat) (Option.none : Option Jvm.ClassFile.FieldType), Jvm.Cond.code ({ cls := "java/lang/String", name := "getBytes", desc := "([BIB)V" } : Jvm.MethodName) jdk_42_method_147_code (4 : Nat) (Option.none : Option Jvm.ClassFile.FieldType), Jvm.Cond.code ({ cls := "java/lang/StringBuilder", name := "append", desc := "(J)Ljava/lang/StringBuilder;" } : Jvm.MethodName) jdk_67_method_16_code (3 : Nat) (Option.some (Jvm.ClassFile.FieldType.object "java/lang/StringBuilder")), Jvm.Cond.code ({ cls := "java/lang/AbstractStringBuilder", name := "append", desc := "(J)Ljava/lang/AbstractStringBuilder;" } : Jvm.MethodName) jdk_68_method_33_code (5 : Nat) (Option.some (Jvm.ClassFile.FieldType.object "java/lang/AbstractStringBuilder")), Jvm.Cond.code ({ cls := "java/lang/Long", name := "stringSize", desc := "(J)I" } : Jvm.MethodName) jdk_35_method_15_code (6 : Nat) (Option.some Jvm.ClassFile.FieldType.int), Jvm.Cond.code ({ cls := "java/lang/AbstractStringBuilder", name := "isLatin1", desc := "()Z" } : Jvm.MethodName) jdk_68_method_68_code (1 : Nat) (Option.some Jvm.ClassFile.FieldType.boolean), Jvm.Cond.code ({ cls := "java/lang/Long", name := "getChars", desc := "(JI[B)I" } : Jvm.MethodName) jdk_35_method_14_code (11 : Nat) (Option.some Jvm.ClassFile.FieldType.int), Jvm.Cond.code ({ cls := "java/lang/StringBuilder", name := "toString", desc := "()Ljava/lang/String;" } : Jvm.MethodName) jdk_67_method_42_code (1 : Nat) (Option.some (Jvm.ClassFile.FieldType.object "java/lang/String")), Jvm.Cond.code ({ cls := "java/lang/String", name := "<init>", desc := "(Ljava/lang/StringBuilder;)V" } : Jvm.MethodName) jdk_42_method_53_code (2 : Nat) (Option.none : Option Jvm.ClassFile.FieldType), Jvm.Cond.code ({ cls := "java/lang/String", name := "<init>", desc := "(Ljava/lang/AbstractStringBuilder;Ljava/lang/Void;)V" } : Jvm.MethodName) jdk_42_method_150_code (5 : Nat) (Option.none : Option Jvm.ClassFile.FieldType), Jvm.Cond.code ({ cls := "java/lang/AbstractStringBuilder", name := "getValue", desc := "()[B" } : Jvm.MethodName) jdk_68_method_64_code (1 : Nat) (Option.some (Jvm.ClassFile.FieldType.array Jvm.ClassFile.FieldType.byte)), Jvm.Cond.code ({ cls := "java/lang/StringBuilder", name := "length", desc := "()I" } : Jvm.MethodName) jdk_67_method_93_code (1 : Nat) (Option.some Jvm.ClassFile.FieldType.int), Jvm.Cond.code ({ cls := "java/lang/AbstractStringBuilder", name := "length", desc := "()I" } : Jvm.MethodName) jdk_68_method_6_code (1 : Nat) (Option.some Jvm.ClassFile.FieldType.int), Jvm.Cond.code ({ cls := "java/util/Arrays", name := "copyOfRange", desc := "([BII)[B" } : Jvm.MethodName) jdk_65_method_132_code (3 : Nat) (Option.some (Jvm.ClassFile.FieldType.array Jvm.ClassFile.FieldType.byte)), Jvm.Cond.code ({ cls := "java/util/Arrays", name := "copyOfRangeByte", desc := "([BII)[B" } : Jvm.MethodName) jdk_65_method_133_code (5 : Nat) (Option.some (Jvm.ClassFile.FieldType.array Jvm.ClassFile.FieldType.byte)), Jvm.Cond.code ({ cls := "java/util/Arrays", name := "checkLength", desc := "(II)V" } : Jvm.MethodName) jdk_65_method_131_code (2 : Nat) (Option.none : Option Jvm.ClassFile.FieldType), Jvm.Cond.code ({ cls := "java/lang/Math", name := "min", desc := "(II)I" } : Jvm.MethodName) jdk_29_method_69_code (2 : Nat) (Option.some Jvm.ClassFile.FieldType.int), Jvm.Cond.code ({ cls := "com/example/fala/fala/format/InvalidInputException", name := "<init>", desc := "(Ljava/lang/String;)V" } : Jvm.MethodName) prog_33_method_1_code (2 : Nat) (Option.none : Option Jvm.ClassFile.FieldType), Jvm.Cond.code ({ cls := "java/lang/Exception", name := "<init>", desc := "(Ljava/lang/String;)V" } : Jvm.MethodName) jdk_59_method_2_code (2 : Nat) (Option.none : Option Jvm.ClassFile.FieldType), Jvm.Cond.code ({ cls := "java/lang/Throwable", name := "<init>", desc := "(Ljava/lang/String;)V" } : Jvm.MethodName) jdk_78_method_2_code (2 : Nat) (Option.none : Option Jvm.ClassFile.FieldType), Jvm.Cond.code ({ cls := "java/lang/Throwable", name := "<init>", desc := "()V" } : Jvm.MethodName) jdk_78_method_1_code (1 : Nat) (Option.none : Option Jvm.ClassFile.FieldType), Jvm.Cond.code ({ cls := "java/lang/Throwable", name := "getMessage", desc := "()Ljava/lang/String;" } : Jvm.MethodName) jdk_78_method_6_code (1 : Nat) (Option.some (Jvm.ClassFile.FieldType.object "java/lang/String")), Jvm.Cond.code ({ cls := "com/example/fala/fala/format/CsvReaderRefusalPinLaw", name := "digits", desc := "(J)I" } : Jvm.MethodName) method_6_code (2 : Nat) (Option.some Jvm.ClassFile.FieldType.int), Jvm.Cond.code ({ cls := "com/example/fala/fala/format/CsvReaderRefusalPinLaw", name := "ge", desc := "(JJ)I" } : Jvm.MethodName) method_5_code (4 : Nat) (Option.some Jvm.ClassFile.FieldType.int), Jvm.Cond.code ({ cls := "com/example/fala/fala/format/CsvReaderRefusalPinLaw", name := "at", desc := "(Ljava/lang/String;IC)Z" } : Jvm.MethodName) method_4_code (3 : Nat) (Option.some Jvm.ClassFile.FieldType.boolean), Jvm.Cond.code ({ cls := "java/lang/String", name := "charAt", desc := "(I)C" } : Jvm.MethodName) jdk_42_method_56_code (2 : Nat) (Option.some Jvm.ClassFile.FieldType.char), Jvm.Cond.code ({ cls := "java/lang/String", name := "isLatin1", desc := "()Z" } : Jvm.MethodName) jdk_42_method_154_code (1 : Nat) (Option.some Jvm.ClassFile.FieldType.boolean), Jvm.Cond.code ({ cls := "java/lang/StringLatin1", name := "charAt", desc := "([BI)C" } : Jvm.MethodName) jdk_43_method_2_code (2 : Nat) (Option.some Jvm.ClassFile.FieldType.char), Jvm.Cond.code ({ cls := "java/lang/String", name := "checkIndex", desc := "(II)V" } : Jvm.MethodName) jdk_42_method_155_code (2 : Nat) (Option.none : Option Jvm.ClassFile.FieldType), Jvm.Cond.code ({ cls := "jdk/internal/util/Preconditions", name := "checkIndex", desc := "(IILjava/util/function/BiFunction;)I" } : Jvm.MethodName) jdk_41_method_11_code (3 : Nat) (Option.some Jvm.ClassFile.FieldType.int), Jvm.Cond.code ({ cls := "com/example/fala/fala/format/CsvReaderRefusalPinLaw", name := "dig", desc := "(Ljava/lang/String;IJIIJ)Z" } : Jvm.MethodName) method_7_code (9 : Nat) (Option.some Jvm.ClassFile.FieldType.boolean), Jvm.Cond.code ({ cls := "java/lang/AbstractStringBuilder", name := "newCapacity", desc := "(I)I" } : Jvm.MethodName) jdk_68_method_10_code (6 : Nat) (Option.some Jvm.ClassFile.FieldType.int), Jvm.Cond.code ({ cls := "jdk/internal/util/ArraysSupport", name := "newLength", desc := "(III)I" } : Jvm.MethodName) jdk_48_method_27_code (4 : Nat) (Option.some Jvm.ClassFile.FieldType.int), Jvm.Cond.code ({ cls := "java/lang/Math", name := "max", desc := "(II)I" } : Jvm.MethodName) jdk_29_method_65_code (2 : Nat) (Option.some Jvm.ClassFile.FieldType.int), Jvm.Cond.code ({ cls := "java/util/Arrays", name := "copyOf", desc := "([BI)[B" } : Jvm.MethodName) jdk_65_method_121_code (3 : Nat) (Option.some (Jvm.ClassFile.FieldType.array Jvm.ClassFile.FieldType.byte)), Jvm.Cond.code ({ cls := "java/lang/String", name := "valueOf", desc := "(C)Ljava/lang/String;" } : Jvm.MethodName) jdk_42_method_139_code (1 : Nat) (Option.some (Jvm.ClassFile.FieldType.object "java/lang/String")), Jvm.Cond.code ({ cls := "java/lang/StringLatin1", name := "canEncode", desc := "(C)Z" } : Jvm.MethodName) jdk_43_method_3_code (1 : Nat) (Option.some Jvm.ClassFile.FieldType.boolean), Jvm.Cond.code ({ cls := "java/lang/StringLatin1", name := "toBytes", desc := "(C)[B" } : Jvm.MethodName) jdk_43_method_46_code (1 : Nat) (Option.some (Jvm.ClassFile.FieldType.array Jvm.ClassFile.FieldType.byte)), Jvm.Cond.code ({ cls := "java/lang/String", name := "<init>", desc := "([BB)V" } : Jvm.MethodName) jdk_42_method_151_code (3 : Nat) (Option.none : Option Jvm.ClassFile.FieldType)]
set_option maxRecDepth 65536 in
theorem codes_eq : words1.filter isCode = codes1 := rfl
theorem w_codes : ∀ c ∈ words1.filter isCode, c.before args0 about1 = true := by
  rw [codes_eq]
  intro c hc
  simp only [codes1, List.mem_cons, List.not_mem_nil, or_false] at hc
  rcases hc with rfl | rfl | rfl | rfl | rfl | rfl | rfl | rfl | rfl | rfl | rfl | rfl | rfl | rfl | rfl | rfl | rfl | rfl | rfl | rfl | rfl | rfl | rfl | rfl | rfl | rfl | rfl | rfl | rfl | rfl | rfl | rfl | rfl | rfl | rfl | rfl | rfl | rfl | rfl | rfl | rfl | rfl | rfl | rfl | rfl | rfl | rfl | rfl | rfl | rfl | rfl | rfl | rfl | rfl | rfl | rfl
  · exact w_c0
  · exact w_c1
  · exact w_c2
  · exact w_c3
  · exact w_c4
  · exact w_c5
  · exact w_c6
  · exact w_c7
  · exact w_c8
  · exact w_c9
  · exact w_c10
  · exact w_c11
  · exact w_c12
  · exact w_c13
  · exact w_c14
  · exact w_c15
  · exact w_c16
  · exact w_c17
  · exact w_c18
  · exact w_c19
  · exact w_c20
  · exact w_c21
  · exact w_c22
  · exact w_c23
  · exact w_c24
  · exact w_c25
  · exact w_c26
  · exact w_c27
  · exact w_c28
  · exact w_c29
  · exact w_c30
  · exact w_c31
  · exact w_c32
  · exact w_c33
  · exact w_c34
  · exact w_c35
  · exact w_c36
  · exact w_c37
  · exact w_c38
  · exact w_c39
  · exact w_c40
  · exact w_c41
  · exact w_c42
  · exact w_c43
  · exact w_c44
  · exact w_c45
  · exact w_c46
  · exact w_c47
  · exact w_c48
  · exact w_c49
  · exact w_c50
  · exact w_c51
  · exact w_c52
  · exact w_c53
  · exact w_c54
  · exact w_c55
set_option maxRecDepth 65536 in
theorem w_t1 : (words1.take 24).all (fun c => isCode c || c.before args0 about1) = true := by decide +kernel
set_option maxRecDepth 65536 in
theorem w_t2 : ((words1.drop 24).take 24).all (fun c => isCode c || c.before args0 about1) = true := by decide +kernel
set_option maxRecDepth 65536 in
theorem w_t3 : (((words1.drop 24).drop 24).take 24).all (fun c => isCode c || c.before args0 about1) = true := by decide +kernel
set_option maxRecDepth 65536 in
theorem w_t4 : ((((words1.drop 24).drop 24).drop 24).take 24).all (fun c => isCode c || c.before args0 about1) = true := by decide +kernel
set_option maxRecDepth 65536 in
theorem w_t5 : (((((words1.drop 24).drop 24).drop 24).drop 24).take 24).all (fun c => isCode c || c.before args0 about1) = true := by decide +kernel
set_option maxRecDepth 65536 in
theorem w_t6 : ((((((words1.drop 24).drop 24).drop 24).drop 24).drop 24).take 24).all (fun c => isCode c || c.before args0 about1) = true := by decide +kernel
set_option maxRecDepth 65536 in
theorem w_t7 : (((((((words1.drop 24).drop 24).drop 24).drop 24).drop 24).drop 24).take 24).all (fun c => isCode c || c.before args0 about1) = true := by decide +kernel
set_option maxRecDepth 65536 in
theorem w_t8 : ((((((((words1.drop 24).drop 24).drop 24).drop 24).drop 24).drop 24).drop 24).take 24).all (fun c => isCode c || c.before args0 about1) = true := by decide +kernel
set_option maxRecDepth 65536 in
theorem w_t9 : (((((((((words1.drop 24).drop 24).drop 24).drop 24).drop 24).drop 24).drop 24).drop 24).take 24).all (fun c => isCode c || c.before args0 about1) = true := by decide +kernel
set_option maxRecDepth 65536 in
theorem w_t10 : ((((((((((words1.drop 24).drop 24).drop 24).drop 24).drop 24).drop 24).drop 24).drop 24).drop 24).take 24).all (fun c => isCode c || c.before args0 about1) = true := by decide +kernel
set_option maxRecDepth 65536 in
theorem w_t11 : (((((((((((words1.drop 24).drop 24).drop 24).drop 24).drop 24).drop 24).drop 24).drop 24).drop 24).drop 24).take 24).all (fun c => isCode c || c.before args0 about1) = true := by decide +kernel
set_option maxRecDepth 65536 in
theorem w_t12 : ((((((((((((words1.drop 24).drop 24).drop 24).drop 24).drop 24).drop 24).drop 24).drop 24).drop 24).drop 24).drop 24).take 24).all (fun c => isCode c || c.before args0 about1) = true := by decide +kernel
set_option maxRecDepth 65536 in
theorem w_t13 : (((((((((((((words1.drop 24).drop 24).drop 24).drop 24).drop 24).drop 24).drop 24).drop 24).drop 24).drop 24).drop 24).drop 24).take 24).all (fun c => isCode c || c.before args0 about1) = true := by decide +kernel
set_option maxRecDepth 65536 in
theorem w_t14 : (((((((((((((words1.drop 24).drop 24).drop 24).drop 24).drop 24).drop 24).drop 24).drop 24).drop 24).drop 24).drop 24).drop 24).drop 24).all (fun c => isCode c || c.before args0 about1) = true := by decide +kernel
theorem w_tables : (allAtoms (Jvm.Cond.code x code maxLocals ret :: tables_1)).before args0 about1 = true := by
  rw [allAtoms_all]
  show words1.all (fun c => c.before args0 about1) = true
  refine all_split ?_ w_codes
  rw [← List.take_append_drop 24 words1, List.all_append, w_t1, ← List.take_append_drop 24 (words1.drop 24), List.all_append, w_t2, ← List.take_append_drop 24 ((words1.drop 24).drop 24), List.all_append, w_t3, ← List.take_append_drop 24 (((words1.drop 24).drop 24).drop 24), List.all_append, w_t4, ← List.take_append_drop 24 ((((words1.drop 24).drop 24).drop 24).drop 24), List.all_append, w_t5, ← List.take_append_drop 24 (((((words1.drop 24).drop 24).drop 24).drop 24).drop 24), List.all_append, w_t6, ← List.take_append_drop 24 ((((((words1.drop 24).drop 24).drop 24).drop 24).drop 24).drop 24), List.all_append, w_t7, ← List.take_append_drop 24 (((((((words1.drop 24).drop 24).drop 24).drop 24).drop 24).drop 24).drop 24), List.all_append, w_t8, ← List.take_append_drop 24 ((((((((words1.drop 24).drop 24).drop 24).drop 24).drop 24).drop 24).drop 24).drop 24), List.all_append, w_t9, ← List.take_append_drop 24 (((((((((words1.drop 24).drop 24).drop 24).drop 24).drop 24).drop 24).drop 24).drop 24).drop 24), List.all_append, w_t10, ← List.take_append_drop 24 ((((((((((words1.drop 24).drop 24).drop 24).drop 24).drop 24).drop 24).drop 24).drop 24).drop 24).drop 24), List.all_append, w_t11, ← List.take_append_drop 24 (((((((((((words1.drop 24).drop 24).drop 24).drop 24).drop 24).drop 24).drop 24).drop 24).drop 24).drop 24).drop 24), List.all_append, w_t12, ← List.take_append_drop 24 ((((((((((((words1.drop 24).drop 24).drop 24).drop 24).drop 24).drop 24).drop 24).drop 24).drop 24).drop 24).drop 24).drop 24), List.all_append, w_t13, w_t14]
  rfl
set_option maxRecDepth 65536 in
theorem w_rest : rest_1_c.before args0 about1 = true := by decide +kernel
set_option maxRecDepth 65536 in
theorem w_case : (Jvm.Cond.and given_1 narrow_1).before args0 about1 = true := by decide +kernel
set_option maxRecDepth 65536 in
theorem w_consts : constsHeld consts_1 about1 := Jvm.Lit.constsHeldB_iff.mp (by decide +kernel)
theorem w_applies : (headSpec (Jvm.Cond.code x code maxLocals ret :: tables_1) room_1).applies x e0.platform about1 = true :=
  (Spec.applies_iff w_frames).mpr ⟨w_running, w_runnable, w_alone, w_named, w_hears, w_ripe, w_room, w_tables⟩
theorem atStart : AtStart classFile x code maxLocals ret World_1 tables_1 room_1 Calls_1 rest_1 Pre_1 launch0 p0 e0 about1 theMethod args0 below0 :=
  ⟨lists_1, trivial, launch0.admits_env _ _ _, launch0.least_env, fairChoices_fair.cas, fairChoices_fair.clock, w_frames, w_args, w_heap, w_applies, ⟨(by decide +kernel : framesKnown about1 = true), ⟨(by decide +kernel : tablesKnown about1 = true), ⟨w_consts, trivial⟩⟩⟩, w_rest, w_case⟩
end start1
theorem witness_1 : WitnessClaimed_1 := ⟨start1.p0, start1.e0, start1.about1, start1.theMethod, start1.args0, start1.below0, start1.atStart⟩
end Jvm.Pilot.@@N@@
