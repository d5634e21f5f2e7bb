import JvmDerived
import JvmDerived.Pilot.@@N@@Statement
import JvmDerived.Pilot.@@N@@Code
set_option linter.unusedVariables false
set_option linter.unusedSimpArgs false
namespace Jvm.RoadKit
open Sem ClassFile Op Lib Jvm.Stand Jvm.Free Jvm.LawKit
section New
variable {p : Program} {l : Launch} {e : Env} {R : Room} {s : State} {m : MethodId} {args : Array Value} {below : List Frame} {meth : Method} {c : Code} {T : State} {locs : List Loc} {cells slots : Nat}
theorem retI (X : Stand p l e R s m args below meth c T locs cells slots) (hx : p.tables.exec = Jvm.exec) {pc : Nat} {Ls : Array Slot} {z : Int32} {rest : List Value} (hret : meth.sig.returnType = some .int) (hd : decode c.code pc = .ok (.ireturn, 1)) {fs : List Frame}
    (hl : ∀ (f : JFrame) (acts : List Action), f.method = m → f.locked = none → f.entered = [] → (doReturn e (T.setTop f) acts (some (.int z))).1 = T.setFrames fs) : Steps p.tables e below (T.setTop (mkF m pc Ls (.int z :: rest))) (T.setFrames fs) := by
  have hm' : T.vm.method? m = some meth := X.method'
  have hn : narrow .int (.int z) = .int z := rfl
  show Steps p.tables e below (T.setTop { method := m, pc := pc, locals := Ls, stack := _ :: rest, locked := none }) _
  jvm_step X.here [X.here.top, hx, hd, hm', hret, hn]
  first | (intro acts; rw [hl _ acts rfl rfl rfl]) | rw [hl _ _ rfl rfl rfl]
  exact Steps.refl _
end New
end Jvm.RoadKit
namespace Jvm.Own.Fw
open Sem ClassFile Op Lib Jvm.Stand Jvm.Free Jvm.LawKit Jvm.RoadKit
variable {p : Program} {l : Launch} {e : Env} {R : Room} {s : State} {m : MethodId} {args : Array Value} {below : List Frame} {meth : Method} {c : Code} {T S : State} {G : JFrame} {locs : List Loc} {cells slots : Nat} {pc pc' : Nat} {Ls : Array Slot} {St : List Value}
theorem iloadN {i : Fin 4} {v : Int32} (k : Goes p e below S G T (mkF m pc Ls St)) (X : Stand p l e R s m args below meth c T locs cells slots) (hx : p.tables.exec = Jvm.exec) (hd : decode c.code pc = .ok (.iload_n i, 1)) (hl : Ls[i.val]? = some (.val (.int v))) (hp : pc + 1 = pc') : Goes p e below S G T (mkF m pc' Ls (.int v :: St)) := by
  subst hp; exact fun t q => k t (XS.iloadN X.here hx rfl hd hl q)
theorem iload {i : Nat} {v : Int32} (k : Goes p e below S G T (mkF m pc Ls St)) (X : Stand p l e R s m args below meth c T locs cells slots) (hx : p.tables.exec = Jvm.exec) (hd : decode c.code pc = .ok (.iload i, 2)) (hl : Ls[i]? = some (.val (.int v))) (hp : pc + 2 = pc') : Goes p e below S G T (mkF m pc' Ls (.int v :: St)) := by
  subst hp; exact fun t q => k t (XS.iload X.here hx rfl hd hl q)
theorem lloadN {i : Fin 4} {v : Int64} (k : Goes p e below S G T (mkF m pc Ls St)) (X : Stand p l e R s m args below meth c T locs cells slots) (hx : p.tables.exec = Jvm.exec) (hd : decode c.code pc = .ok (.lload_n i, 1)) (hl : Ls[i.val]? = some (.val (.long v))) (hp : pc + 1 = pc') : Goes p e below S G T (mkF m pc' Ls (.long v :: St)) := by
  subst hp; exact fun t q => k t (XS.lloadN X.here hx rfl hd hl q)
theorem lload {i : Nat} {v : Int64} (k : Goes p e below S G T (mkF m pc Ls St)) (X : Stand p l e R s m args below meth c T locs cells slots) (hx : p.tables.exec = Jvm.exec) (hd : decode c.code pc = .ok (.lload i, 2)) (hl : Ls[i]? = some (.val (.long v))) (hp : pc + 2 = pc') : Goes p e below S G T (mkF m pc' Ls (.long v :: St)) := by
  subst hp; exact fun t q => k t (XS.lload X.here hx rfl hd hl q)
theorem aloadN {i : Fin 4} {v : Value} (k : Goes p e below S G T (mkF m pc Ls St)) (X : Stand p l e R s m args below meth c T locs cells slots) (hx : p.tables.exec = Jvm.exec) (hd : decode c.code pc = .ok (.aload_n i, 1)) (hl : Ls[i.val]? = some (.val v)) (hv : v.isRef = true) (hp : pc + 1 = pc') : Goes p e below S G T (mkF m pc' Ls (v :: St)) := by
  subst hp; exact fun t q => k t (XS.aloadN X.here hx rfl hd hl hv q)
theorem aload {i : Nat} {v : Value} (k : Goes p e below S G T (mkF m pc Ls St)) (X : Stand p l e R s m args below meth c T locs cells slots) (hx : p.tables.exec = Jvm.exec) (hd : decode c.code pc = .ok (.aload i, 2)) (hl : Ls[i]? = some (.val v)) (hv : v.isRef = true) (hp : pc + 2 = pc') : Goes p e below S G T (mkF m pc' Ls (v :: St)) := by
  subst hp; exact fun t q => k t (XS.aload X.here hx rfl hd hl hv q)
theorem istoreN {i : Fin 4} {v : Int32} {Ls' : Array Slot} (k : Goes p e below S G T (mkF m pc Ls (.int v :: St))) (X : Stand p l e R s m args below meth c T locs cells slots) (hx : p.tables.exec = Jvm.exec) (hd : decode c.code pc = .ok (.istore_n i, 1)) (hl : storeLocals Ls i.val (.int v) = some Ls') (hp : pc + 1 = pc') : Goes p e below S G T (mkF m pc' Ls' St) := by
  subst hp; exact fun t q => k t (XS.istoreN X.here hx rfl hd rfl hl q)
theorem istore {i : Nat} {v : Int32} {Ls' : Array Slot} (k : Goes p e below S G T (mkF m pc Ls (.int v :: St))) (X : Stand p l e R s m args below meth c T locs cells slots) (hx : p.tables.exec = Jvm.exec) (hd : decode c.code pc = .ok (.istore i, 2)) (hl : storeLocals Ls i (.int v) = some Ls') (hp : pc + 2 = pc') : Goes p e below S G T (mkF m pc' Ls' St) := by
  subst hp; exact fun t q => k t (XS.istore X.here hx rfl hd rfl hl q)
theorem lstoreN {i : Fin 4} {v : Int64} {Ls' : Array Slot} (k : Goes p e below S G T (mkF m pc Ls (.long v :: St))) (X : Stand p l e R s m args below meth c T locs cells slots) (hx : p.tables.exec = Jvm.exec) (hd : decode c.code pc = .ok (.lstore_n i, 1)) (hl : storeLocals Ls i.val (.long v) = some Ls') (hp : pc + 1 = pc') : Goes p e below S G T (mkF m pc' Ls' St) := by
  subst hp; exact fun t q => k t (XS.lstoreN X.here hx rfl hd rfl hl q)
theorem astoreN {i : Fin 4} {v : Value} {Ls' : Array Slot} (k : Goes p e below S G T (mkF m pc Ls (v :: St))) (X : Stand p l e R s m args below meth c T locs cells slots) (hx : p.tables.exec = Jvm.exec) (hd : decode c.code pc = .ok (.astore_n i, 1)) (hv : v.isRef = true) (hl : storeLocals Ls i.val v = some Ls') (hp : pc + 1 = pc') : Goes p e below S G T (mkF m pc' Ls' St) := by
  subst hp; exact fun t q => k t (XS.astoreN X.here hx rfl hd rfl hv hl q)
theorem astore {i : Nat} {v : Value} {Ls' : Array Slot} (k : Goes p e below S G T (mkF m pc Ls (v :: St))) (X : Stand p l e R s m args below meth c T locs cells slots) (hx : p.tables.exec = Jvm.exec) (hd : decode c.code pc = .ok (.astore i, 2)) (hv : v.isRef = true) (hl : storeLocals Ls i v = some Ls') (hp : pc + 2 = pc') : Goes p e below S G T (mkF m pc' Ls' St) := by
  subst hp; exact fun t q => k t (XS.astore X.here hx rfl hd rfl hv hl q)
theorem iconst {i : Int} {z : Int32} (k : Goes p e below S G T (mkF m pc Ls St)) (X : Stand p l e R s m args below meth c T locs cells slots) (hx : p.tables.exec = Jvm.exec) (hd : decode c.code pc = .ok (.iconst i, 1)) (hz : Int32.ofInt i = z) (hp : pc + 1 = pc') : Goes p e below S G T (mkF m pc' Ls (.int z :: St)) := by
  subst hp; exact fun t q => k t (XS.iconst X.here hx rfl hd (hz ▸ q))
theorem bipush {i : Int} {z : Int32} (k : Goes p e below S G T (mkF m pc Ls St)) (X : Stand p l e R s m args below meth c T locs cells slots) (hx : p.tables.exec = Jvm.exec) (hd : decode c.code pc = .ok (.bipush i, 2)) (hz : (Int8.ofInt i).toInt32 = z) (hp : pc + 2 = pc') : Goes p e below S G T (mkF m pc' Ls (.int z :: St)) := by
  subst hp; exact fun t q => k t (XS.bipush X.here hx rfl hd (hz ▸ q))
theorem sipush {i : Int} {z : Int32} (k : Goes p e below S G T (mkF m pc Ls St)) (X : Stand p l e R s m args below meth c T locs cells slots) (hx : p.tables.exec = Jvm.exec) (hd : decode c.code pc = .ok (.sipush i, 3)) (hz : (Int16.ofInt i).toInt32 = z) (hp : pc + 3 = pc') : Goes p e below S G T (mkF m pc' Ls (.int z :: St)) := by
  subst hp; exact fun t q => k t (XS.sipush X.here hx rfl hd (hz ▸ q))
theorem lconst {i : Fin 2} {z : Int64} (k : Goes p e below S G T (mkF m pc Ls St)) (X : Stand p l e R s m args below meth c T locs cells slots) (hx : p.tables.exec = Jvm.exec) (hd : decode c.code pc = .ok (.lconst i, 1)) (hz : Int64.ofNat i = z) (hp : pc + 1 = pc') : Goes p e below S G T (mkF m pc' Ls (.long z :: St)) := by
  subst hp; exact fun t q => k t (XS.lconst X.here hx rfl hd (hz ▸ q))
theorem aconstNull  (k : Goes p e below S G T (mkF m pc Ls St)) (X : Stand p l e R s m args below meth c T locs cells slots) (hx : p.tables.exec = Jvm.exec) (hd : decode c.code pc = .ok (.aconst_null, 1)) (hp : pc + 1 = pc') : Goes p e below S G T (mkF m pc' Ls (.null :: St)) := by
  subst hp; exact fun t q => k t (XS.aconstNull X.here hx rfl hd q)
theorem iadd {x y z : Int32} (k : Goes p e below S G T (mkF m pc Ls (.int y :: .int x :: St))) (X : Stand p l e R s m args below meth c T locs cells slots) (hx : p.tables.exec = Jvm.exec) (hd : decode c.code pc = .ok (.iadd, 1)) (hz : x + y = z) (hp : pc + 1 = pc') : Goes p e below S G T (mkF m pc' Ls (.int z :: St)) := by
  subst hp; exact fun t q => k t (XS.iadd X.here hx rfl hd rfl (hz ▸ q))
theorem isub {x y z : Int32} (k : Goes p e below S G T (mkF m pc Ls (.int y :: .int x :: St))) (X : Stand p l e R s m args below meth c T locs cells slots) (hx : p.tables.exec = Jvm.exec) (hd : decode c.code pc = .ok (.isub, 1)) (hz : x - y = z) (hp : pc + 1 = pc') : Goes p e below S G T (mkF m pc' Ls (.int z :: St)) := by
  subst hp; exact fun t q => k t (XS.isub X.here hx rfl hd rfl (hz ▸ q))
theorem imul {x y z : Int32} (k : Goes p e below S G T (mkF m pc Ls (.int y :: .int x :: St))) (X : Stand p l e R s m args below meth c T locs cells slots) (hx : p.tables.exec = Jvm.exec) (hd : decode c.code pc = .ok (.imul, 1)) (hz : x * y = z) (hp : pc + 1 = pc') : Goes p e below S G T (mkF m pc' Ls (.int z :: St)) := by
  subst hp; exact fun t q => k t (XS.imul X.here hx rfl hd rfl (hz ▸ q))
theorem iand {x y z : Int32} (k : Goes p e below S G T (mkF m pc Ls (.int y :: .int x :: St))) (X : Stand p l e R s m args below meth c T locs cells slots) (hx : p.tables.exec = Jvm.exec) (hd : decode c.code pc = .ok (.iand, 1)) (hz : x &&& y = z) (hp : pc + 1 = pc') : Goes p e below S G T (mkF m pc' Ls (.int z :: St)) := by
  subst hp; exact fun t q => k t (XS.iand X.here hx rfl hd rfl (hz ▸ q))
theorem ineg {x : Int32} {z : Int32} (k : Goes p e below S G T (mkF m pc Ls (.int x :: St))) (X : Stand p l e R s m args below meth c T locs cells slots) (hx : p.tables.exec = Jvm.exec) (hd : decode c.code pc = .ok (.ineg, 1)) (hz : -x = z) (hp : pc + 1 = pc') : Goes p e below S G T (mkF m pc' Ls (.int z :: St)) := by
  subst hp; exact fun t q => k t (XS.ineg X.here hx rfl hd rfl (hz ▸ q))
theorem lneg {x : Int64} {z : Int64} (k : Goes p e below S G T (mkF m pc Ls (.long x :: St))) (X : Stand p l e R s m args below meth c T locs cells slots) (hx : p.tables.exec = Jvm.exec) (hd : decode c.code pc = .ok (.lneg, 1)) (hz : -x = z) (hp : pc + 1 = pc') : Goes p e below S G T (mkF m pc' Ls (.long z :: St)) := by
  subst hp; exact fun t q => k t (XS.lneg X.here hx rfl hd rfl (hz ▸ q))
theorem i2l {x : Int32} {z : Int64} (k : Goes p e below S G T (mkF m pc Ls (.int x :: St))) (X : Stand p l e R s m args below meth c T locs cells slots) (hx : p.tables.exec = Jvm.exec) (hd : decode c.code pc = .ok (.i2l, 1)) (hz : x.toInt64 = z) (hp : pc + 1 = pc') : Goes p e below S G T (mkF m pc' Ls (.long z :: St)) := by
  subst hp; exact fun t q => k t (XS.i2l X.here hx rfl hd rfl (hz ▸ q))
theorem l2i {x : Int64} {z : Int32} (k : Goes p e below S G T (mkF m pc Ls (.long x :: St))) (X : Stand p l e R s m args below meth c T locs cells slots) (hx : p.tables.exec = Jvm.exec) (hd : decode c.code pc = .ok (.l2i, 1)) (hz : x.toInt32 = z) (hp : pc + 1 = pc') : Goes p e below S G T (mkF m pc' Ls (.int z :: St)) := by
  subst hp; exact fun t q => k t (XS.l2i X.here hx rfl hd rfl (hz ▸ q))
theorem i2c {x : Int32} {z : Int32} (k : Goes p e below S G T (mkF m pc Ls (.int x :: St))) (X : Stand p l e R s m args below meth c T locs cells slots) (hx : p.tables.exec = Jvm.exec) (hd : decode c.code pc = .ok (.i2c, 1)) (hz : x.toUInt32.toUInt16.toUInt32.toInt32 = z) (hp : pc + 1 = pc') : Goes p e below S G T (mkF m pc' Ls (.int z :: St)) := by
  subst hp; exact fun t q => k t (XS.i2c X.here hx rfl hd rfl (hz ▸ q))
theorem ishl {x y z : Int32} (k : Goes p e below S G T (mkF m pc Ls (.int y :: .int x :: St))) (X : Stand p l e R s m args below meth c T locs cells slots) (hx : p.tables.exec = Jvm.exec) (hd : decode c.code pc = .ok (.ishl, 1)) (hz : x <<< (y &&& 31) = z) (hp : pc + 1 = pc') : Goes p e below S G T (mkF m pc' Ls (.int z :: St)) := by
  subst hp; exact fun t q => k t (XS.ishl X.here hx rfl hd rfl (hz ▸ q))
theorem ishr {x y z : Int32} (k : Goes p e below S G T (mkF m pc Ls (.int y :: .int x :: St))) (X : Stand p l e R s m args below meth c T locs cells slots) (hx : p.tables.exec = Jvm.exec) (hd : decode c.code pc = .ok (.ishr, 1)) (hz : x >>> (y &&& 31) = z) (hp : pc + 1 = pc') : Goes p e below S G T (mkF m pc' Ls (.int z :: St)) := by
  subst hp; exact fun t q => k t (XS.ishr X.here hx rfl hd rfl (hz ▸ q))
theorem idiv {x y z : Int32} (k : Goes p e below S G T (mkF m pc Ls (.int y :: .int x :: St))) (X : Stand p l e R s m args below meth c T locs cells slots) (hx : p.tables.exec = Jvm.exec) (hd : decode c.code pc = .ok (.idiv, 1)) (hy : y ≠ 0) (hz : x / y = z) (hp : pc + 1 = pc') : Goes p e below S G T (mkF m pc' Ls (.int z :: St)) := by
  subst hp; exact fun t q => k t (XS.idiv X.here hx rfl hd rfl hy (hz ▸ q))
theorem ldiv {x y z : Int64} (k : Goes p e below S G T (mkF m pc Ls (.long y :: .long x :: St))) (X : Stand p l e R s m args below meth c T locs cells slots) (hx : p.tables.exec = Jvm.exec) (hd : decode c.code pc = .ok (.ldiv, 1)) (hy : y ≠ 0) (hz : x / y = z) (hp : pc + 1 = pc') : Goes p e below S G T (mkF m pc' Ls (.long z :: St)) := by
  subst hp; exact fun t q => k t (XS.ldiv X.here hx rfl hd rfl hy (hz ▸ q))
theorem lrem {x y z : Int64} (k : Goes p e below S G T (mkF m pc Ls (.long y :: .long x :: St))) (X : Stand p l e R s m args below meth c T locs cells slots) (hx : p.tables.exec = Jvm.exec) (hd : decode c.code pc = .ok (.lrem, 1)) (hy : y ≠ 0) (hz : x % y = z) (hp : pc + 1 = pc') : Goes p e below S G T (mkF m pc' Ls (.long z :: St)) := by
  subst hp; exact fun t q => k t (XS.lrem X.here hx rfl hd rfl hy (by rw [lrem_mod]; exact hz ▸ q))
theorem lcmp {x y : Int64} (k : Goes p e below S G T (mkF m pc Ls (.long y :: .long x :: St))) (X : Stand p l e R s m args below meth c T locs cells slots) (hx : p.tables.exec = Jvm.exec) (hd : decode c.code pc = .ok (.lcmp, 1)) (hp : pc + 1 = pc') : Goes p e below S G T (mkF m pc' Ls (.int (lcmpW x y) :: St)) := by
  subst hp; exact fun t q => k t (XS.lcmp X.here hx rfl hd rfl q)
theorem iinc {i : Nat} {cst : Int} {x z : Int32} {Ls' : Array Slot} (k : Goes p e below S G T (mkF m pc Ls St)) (X : Stand p l e R s m args below meth c T locs cells slots) (hx : p.tables.exec = Jvm.exec) (hd : decode c.code pc = .ok (.iinc i cst, 3)) (hl : Ls[i]? = some (.val (.int x))) (hz : x + Int32.ofInt cst = z) (hl' : storeLocals Ls i (.int z) = some Ls') (hp : pc + 3 = pc') : Goes p e below S G T (mkF m pc' Ls' St) := by
  subst hp; exact fun t q => k t (XS.iinc X.here hx rfl hd hl (hz ▸ hl') q)
theorem dup {v : Value} (k : Goes p e below S G T (mkF m pc Ls (v :: St))) (X : Stand p l e R s m args below meth c T locs cells slots) (hx : p.tables.exec = Jvm.exec) (hd : decode c.code pc = .ok (.dup, 1)) (hc : v.category = 1) (hp : pc + 1 = pc') : Goes p e below S G T (mkF m pc' Ls (v :: v :: St)) := by
  subst hp; exact fun t q => k t (XS.dup X.here hx rfl hd rfl hc q)
theorem pop {v : Value} (k : Goes p e below S G T (mkF m pc Ls (v :: St))) (X : Stand p l e R s m args below meth c T locs cells slots) (hx : p.tables.exec = Jvm.exec) (hd : decode c.code pc = .ok (.pop, 1)) (hc : v.category = 1) (hp : pc + 1 = pc') : Goes p e below S G T (mkF m pc' Ls St) := by
  subst hp; exact fun t q => k t (XS.pop X.here hx rfl hd rfl hc q)
theorem goto {o : Int} (k : Goes p e below S G T (mkF m pc Ls St)) (X : Stand p l e R s m args below meth c T locs cells slots) (hx : p.tables.exec = Jvm.exec) (hd : decode c.code pc = .ok (.goto o, 3)) (ho : 0 ≤ (pc : Int) + o) (hp : ((pc : Int) + o).toNat = pc') : Goes p e below S G T (mkF m pc' Ls St) := fun t q => k t (XS.goto X.here hx rfl rfl hd ho hp q)
theorem ifYes {o : Int} {cd : ClassFile.Cond} {x : Int32} (k : Goes p e below S G T (mkF m pc Ls (.int x :: St))) (X : Stand p l e R s m args below meth c T locs cells slots) (hx : p.tables.exec = Jvm.exec) (hd : decode c.code pc = .ok (.ifCond cd o, 3)) (hc : ifCond.holds cd x = true) (ho : 0 ≤ (pc : Int) + o) (hp : ((pc : Int) + o).toNat = pc') : Goes p e below S G T (mkF m pc' Ls St) := fun t q => k t (XS.ifYes X.here hx rfl rfl hd rfl hc ho hp q)
theorem ifNo {o : Int} {cd : ClassFile.Cond} {x : Int32} (k : Goes p e below S G T (mkF m pc Ls (.int x :: St))) (X : Stand p l e R s m args below meth c T locs cells slots) (hx : p.tables.exec = Jvm.exec) (hd : decode c.code pc = .ok (.ifCond cd o, 3)) (hc : ifCond.holds cd x = false) (hp : pc + 3 = pc') : Goes p e below S G T (mkF m pc' Ls St) := fun t q => k t (XS.ifNo X.here hx rfl hd rfl hc (by subst hp; exact q))
theorem icmpYes {o : Int} {cd : ClassFile.Cond} {x y : Int32} (k : Goes p e below S G T (mkF m pc Ls (.int y :: .int x :: St))) (X : Stand p l e R s m args below meth c T locs cells slots) (hx : p.tables.exec = Jvm.exec) (hd : decode c.code pc = .ok (.if_icmp cd o, 3)) (hc : if_icmp.holds cd x y = true) (ho : 0 ≤ (pc : Int) + o) (hp : ((pc : Int) + o).toNat = pc') : Goes p e below S G T (mkF m pc' Ls St) := fun t q => k t (XS.icmpYes X.here hx rfl rfl hd rfl hc ho hp q)
theorem icmpNo {o : Int} {cd : ClassFile.Cond} {x y : Int32} (k : Goes p e below S G T (mkF m pc Ls (.int y :: .int x :: St))) (X : Stand p l e R s m args below meth c T locs cells slots) (hx : p.tables.exec = Jvm.exec) (hd : decode c.code pc = .ok (.if_icmp cd o, 3)) (hc : if_icmp.holds cd x y = false) (hp : pc + 3 = pc') : Goes p e below S G T (mkF m pc' Ls St) := fun t q => k t (XS.icmpNo X.here hx rfl hd rfl hc (by subst hp; exact q))
theorem ifnonnullYes {o : Int} {b : Addr} (k : Goes p e below S G T (mkF m pc Ls (.ref b :: St))) (X : Stand p l e R s m args below meth c T locs cells slots) (hx : p.tables.exec = Jvm.exec) (hd : decode c.code pc = .ok (.ifnonnull o, 3)) (ho : 0 ≤ (pc : Int) + o) (hp : ((pc : Int) + o).toNat = pc') : Goes p e below S G T (mkF m pc' Ls St) := fun t q => k t (XS.ifnonnullYes X.here hx rfl rfl hd rfl ho hp q)
theorem acmp {cd : ACond} {x y : Value} {o : Int} (k : Goes p e below S G T (mkF m pc Ls (y :: x :: St))) (X : Stand p l e R s m args below meth c T locs cells slots) (hx : p.tables.exec = Jvm.exec) (hd : decode c.code pc = .ok (.if_acmp cd o, 3)) (h1 : x.isRef = true) (h2 : y.isRef = true) (same : Bool) (hq : decide (x = y) = same) (ho : 0 ≤ (pc : Int) + o) (hp : pc' = if acV cd same = true then ((pc : Int) + o).toNat else pc + 3) : Goes p e below S G T (mkF m pc' Ls St) := fun t q => k t (Jvm.RoadKit.acmp (g := mkF m pc Ls (y :: x :: St)) X hx rfl h1 h2 rfl hd rfl hq ho hp q)
end Jvm.Own.Fw
namespace Jvm.Own
open Sem ClassFile Op Lib Jvm.Stand Jvm.Free Jvm.LawKit Jvm.RoadKit
theorem allC {α : Type} {P : α → Prop} {y : α} {L : List α} (q : P y) (r : ∀ x ∈ L, P x) : ∀ x ∈ y :: L, P x := fun x z => (List.mem_cons.mp z).elim (fun u => u ▸ q) (r x)
theorem allN {α : Type} {P : α → Prop} : ∀ x ∈ ([] : List α), P x := fun _ q => nomatch q
def updv (f : Nat → Value) (i : Nat) (v : Value) : Nat → Value := fun j => if j = i then v else f j
theorem fits_default (ty : FieldType) : fits ty (defaultValue ty) = true := by cases ty <;> first | rfl | decide
theorem clampNat (j : Int32) : j.toNatClampNeg = j.toInt.toNat := rfl
theorem own_nnCi2c (x : Int32) : nar .char (x.toUInt32.toUInt16.toUInt32.toInt32) = x.toUInt32.toUInt16.toUInt32.toInt32 := by
  show x.toUInt32.toUInt16.toUInt32.toInt32.toUInt32.toUInt16.toUInt32.toInt32 = _
  generalize x.toUInt32.toUInt16 = u
  simp
end Jvm.Own
namespace Jvm.Own
open Jvm.RoadKit
/-! facts on int terms, for omega: each of the term's equation -/
section Ar
variable {v a b m q : Int32} {w x y : Int64}
theorem e_iadd (e : v = a + b) : (v.toInt - (a.toInt + b.toInt)) % 4294967296 = 0 ∧ -2147483648 ≤ v.toInt ∧ v.toInt < 2147483648 := by subst e; exact ⟨c_iadd _ _, rng32 _⟩
theorem e_isub (e : v = a - b) : (v.toInt - (a.toInt - b.toInt)) % 4294967296 = 0 ∧ -2147483648 ≤ v.toInt ∧ v.toInt < 2147483648 := by subst e; exact ⟨c_isub _ _, rng32 _⟩
theorem e_ineg (e : v = -a) : (v.toInt - (-a.toInt)) % 4294967296 = 0 ∧ -2147483648 ≤ v.toInt ∧ v.toInt < 2147483648 := by subst e; exact ⟨c_ineg _, rng32 _⟩
theorem e_imul (e : v = a * b) (n : Int) (h : b.toInt = n := by decide) : (v.toInt - a.toInt * n) % 4294967296 = 0 ∧ -2147483648 ≤ v.toInt ∧ v.toInt < 2147483648 := by subst e h; exact ⟨c_imul _ _, rng32 _⟩
theorem e_lneg (e : w = -x) : (w.toInt - (-x.toInt)) % 18446744073709551616 = 0 ∧ -9223372036854775808 ≤ w.toInt ∧ w.toInt < 9223372036854775808 := by subst e; exact ⟨c_lneg _, rng64 _⟩
theorem e_mask (e : v = a &&& m) (k : Nat) (n : Int) (h : k ≤ 31 ∧ m.toBitVec.toNat = 2 ^ k - 1 ∧ ((2 ^ k : Nat) : Int) = n := by decide) : v.toInt = a.toInt % n := by obtain ⟨h1, h2, rfl⟩ := h; subst e; exact c_mask _ _ k h1 h2
theorem e_ishr (e : v = a >>> (q &&& 31)) (k : Nat) (n : Int) (h : q.toBitVec.toNat % 32 = k ∧ ((2 ^ k : Nat) : Int) = n := by decide) : v.toInt = a.toInt / n := by obtain ⟨h1, rfl⟩ := h; subst e; exact c_ishr _ _ k h1
theorem e_ishl (e : v = a <<< (q &&& 31)) (k : Nat) (n : Int) (h : q.toBitVec.toNat % 32 = k ∧ ((2 ^ k : Nat) : Int) = n := by decide) : (v.toInt - a.toInt * n) % 4294967296 = 0 ∧ -2147483648 ≤ v.toInt ∧ v.toInt < 2147483648 := by obtain ⟨h1, rfl⟩ := h; subst e; exact ⟨c_ishl _ _ k h1, rng32 _⟩
theorem e_i2l (e : w = a.toInt64) : w.toInt = a.toInt := by subst e; exact c_i2l _
theorem e_l2i (e : v = x.toInt32) : (v.toInt - x.toInt) % 4294967296 = 0 ∧ -2147483648 ≤ v.toInt ∧ v.toInt < 2147483648 := by subst e; exact ⟨c_l2i _, rng32 _⟩
theorem e_i2b (e : v = a.toInt8.toInt32) : (v.toInt - a.toInt) % 256 = 0 ∧ -128 ≤ v.toInt ∧ v.toInt < 128 := by subst e; exact c_i2b _
theorem e_i2c (e : v = a.toUInt32.toUInt16.toUInt32.toInt32) : (v.toInt - a.toInt) % 65536 = 0 ∧ 0 ≤ v.toInt ∧ v.toInt < 65536 := by subst e; exact c_i2c _
theorem e_idiv (e : v = a / b) (n : Int) (h : b.toInt = n ∧ b ≠ -1 := by decide) : (0 ≤ a.toInt → v.toInt = a.toInt / n) ∧ (a.toInt < 0 → v.toInt = -((-a.toInt) / n)) := by subst e; exact c_idiv _ _ n h.1 h.2
theorem e_ldiv (e : w = x / y) (n : Int) (h : y.toInt = n ∧ y ≠ -1 := by decide) : (0 ≤ x.toInt → w.toInt = x.toInt / n) ∧ (x.toInt < 0 → w.toInt = -((-x.toInt) / n)) := by subst e; exact c_ldiv _ _ n h.1 h.2
theorem e_lrem (e : w = x % y) (n : Int) (h : y.toInt = n := by decide) : (0 ≤ x.toInt → w.toInt = x.toInt % n) ∧ (x.toInt < 0 → w.toInt = -((-x.toInt) % n)) := by subst e h; rw [Int64.toInt_mod]; exact tr _ _
theorem e_iaddN (e : v = a + b) (h : -2147483648 ≤ a.toInt + b.toInt ∧ a.toInt + b.toInt < 2147483648) : v.toInt = a.toInt + b.toInt := by have := e_iadd e; omega
theorem e_isubN (e : v = a - b) (h : -2147483648 ≤ a.toInt - b.toInt ∧ a.toInt - b.toInt < 2147483648) : v.toInt = a.toInt - b.toInt := by have := e_isub e; omega
theorem e_ishlN (e : v = a <<< (q &&& 31)) (k : Nat) (n : Int) (h' : -2147483648 ≤ a.toInt * n ∧ a.toInt * n < 2147483648) (h : q.toBitVec.toNat % 32 = k ∧ ((2 ^ k : Nat) : Int) = n := by decide) : v.toInt = a.toInt * n := by
  have q := e_ishl e k n h
  generalize a.toInt * n = z at *
  omega
theorem e_inegN (e : v = -a) (h : -2147483648 < a.toInt) : v.toInt = -a.toInt := by have := e_ineg e; have := rng32 a; omega
theorem e_imulN (e : v = a * b) (n : Int) (h' : -2147483648 ≤ a.toInt * n ∧ a.toInt * n < 2147483648) (h : b.toInt = n := by decide) : v.toInt = a.toInt * n := by
  have q := e_imul e n h
  generalize a.toInt * n = z at *
  omega
theorem e_idivM (e : v = a / b) (n : Int) (q : a.toInt ≤ 0) (h : b.toInt = n ∧ b ≠ -1 := by decide) : v.toInt = -((-a.toInt) / n) := by
  have := e_idiv e n h
  rcases Int.lt_or_eq_of_le q with q | q
  · exact this.2 q
  · rw [this.1 (by omega), q]; simp
theorem e_i2bN (e : v = a.toInt8.toInt32) (q : -128 ≤ a.toInt ∧ a.toInt < 128) : v.toInt = a.toInt := by have := e_i2b e; omega
theorem i_lt {a b : Int32} (h : a < b) : a.toInt < b.toInt := Int32.lt_iff_toInt_lt.mp h
theorem i_nlt {a b : Int32} (h : ¬ a < b) : ¬ a.toInt < b.toInt := fun q => h (Int32.lt_iff_toInt_lt.mpr q)
theorem j_lt {a b : Int64} (h : a < b) : a.toInt < b.toInt := Int64.lt_iff_toInt_lt.mp h
theorem j_nlt {a b : Int64} (h : ¬ a < b) : ¬ a.toInt < b.toInt := fun q => h (Int64.lt_iff_toInt_lt.mpr q)
theorem o_lt {a b : Int32} (h : a.toInt < b.toInt) : a < b := Int32.lt_iff_toInt_lt.mpr h
theorem o_nlt {a b : Int32} (h : ¬ a.toInt < b.toInt) : ¬ a < b := fun q => h (Int32.lt_iff_toInt_lt.mp q)
theorem o_eq {a b : Int32} (h : a.toInt = b.toInt) : a = b := Int32.toInt_inj.mp h
theorem o_neq {a b : Int32} (h : ¬ a.toInt = b.toInt) : ¬ a = b := fun q => h (congrArg Int32.toInt q)
theorem u_lt {a b : Int64} (h : a.toInt < b.toInt) : a < b := Int64.lt_iff_toInt_lt.mpr h
theorem u_nlt {a b : Int64} (h : ¬ a.toInt < b.toInt) : ¬ a < b := fun q => h (Int64.lt_iff_toInt_lt.mp q)
end Ar
end Jvm.Own
namespace Jvm.Own
open Sem ClassFile Op Lib Bundle Jvm.Stand Jvm.Free Jvm.LawKit Jvm.RoadKit
abbrev Dc (B : ByteArray) (pc : Nat) (i : Instr) (len pc' : Nat) : Prop := decode B pc = .ok (i, len) ∧ pc + len = pc'
abbrev Dj (B : ByteArray) (pc : Nat) (i : Instr) (o : Int) (pc' pc'' : Nat) : Prop := decode B pc = .ok (i, 3) ∧ pc + 3 = pc' ∧ 0 ≤ (pc : Int) + o ∧ ((pc : Int) + o).toNat = pc''
def Md (md : Bool) (EL : List (String × Nat)) (s Z : State) (a0 : Array Value) (h0 : Heap) (vm : Vm) (h : Heap) : Prop :=
  (md = false ∧ vm = s.vm) ∨ (md = true ∧ EW Z a0 EL ∧ (∃ k0, s.Since vm k0 ∧ k0 ≤ h.size) ∧ CHr Z EL s.vm h0 vm h)
def Wk (md : Bool) (EL : List (String × Nat)) (p : Program) (l : Launch) (e : Env) (R : Room) (s : State) (m : MethodId) (args : Array Value) (below : List Frame) (meth : Method) (c : Code) (S : State) (G : JFrame) (own : String) (B : ByteArray) (ml : Nat) (mn : String) (rt : Option FieldType) (Z : State) (a0 : Array Value) (n0 : Nat) (h0 : Heap) (vm : Vm) (h : Heap) (cells slots pc : Nat) (Ls : Array Slot) (St : List Value) : Prop :=
  (p.tables.exec = Jvm.exec ∧ c.code = B ∧ c.maxLocals = ml ∧ meth.name = mn ∧ meth.sig.returnType = rt ∧ meth.locks = false) ∧ Z.Warmed39 vm ∧ vm.findClass own = some m.cls ∧ Old Z n0 h ∧ h0.size ≤ h.size ∧ Md md EL s Z a0 h0 vm h ∧
    ∃ T locs, Stand p l e R (s.setVm vm) m args below meth c T locs cells slots ∧ T.heap = h ∧ Fr n0 locs ∧ Goes p e below S G T (mkF m pc Ls St)
section Wk
variable {md : Bool} {EL : List (String × Nat)} {p : Program} {l : Launch} {e : Env} {R : Room} {s : State} {m : MethodId} {args : Array Value} {below : List Frame} {meth : Method} {c : Code} {S : State} {G : JFrame} {own : String} {B : ByteArray} {ml : Nat} {mn : String} {rt : Option FieldType} {Z : State} {a0 : Array Value} {n0 : Nat} {h0 : Heap} {vm : Vm} {h h' : Heap} {cells slots pc pc' : Nat} {Ls Ls' : Array Slot} {St St' : List Value}
theorem Md.keep {ws : List Addr} (M : Md md EL s Z a0 h0 vm h) (K : Keep h h' ws) (hs : md = false ∨ ∀ w ∈ ws, Safe Z EL vm h w) : Md md EL s Z a0 h0 vm h' := by
  rcases M with ⟨e, q⟩ | ⟨e, w, ⟨k0, q1, q2⟩, q3⟩
  · exact Or.inl ⟨e, q⟩
  · rcases hs with hs | hs
    · rw [hs] at e; cases e
    · exact Or.inr ⟨e, w, ⟨k0, q1, Nat.le_trans q2 K.1⟩, q3.trans (CHr.keep K hs q3.1)⟩
theorem Wk.old (k : Wk md EL p l e R s m args below meth c S G own B ml mn rt Z a0 n0 h0 vm h cells slots pc Ls St) : Old Z n0 h := k.2.2.2.1
theorem Wk.sz (k : Wk md EL p l e R s m args below meth c S G own B ml mn rt Z a0 n0 h0 vm h cells slots pc Ls St) : h0.size ≤ h.size := k.2.2.2.2.1
theorem Wk.n0le (k : Wk md EL p l e R s m args below meth c S G own B ml mn rt Z a0 n0 h0 vm h cells slots pc Ls St) : n0 ≤ h.size := k.old.1 ▸ k.old.2.1
theorem Wk.chv (k : Wk true EL p l e R s m args below meth c S G own B ml mn rt Z a0 n0 h0 vm h cells slots pc Ls St) : CHv Z EL vm h := by
  rcases k.2.2.2.2.2.1 with ⟨q, -⟩ | ⟨-, -, -, q⟩
  · cases q
  · exact q.1
theorem Wk.plain (k : Wk md EL p l e R s m args below meth c S G own B ml mn rt Z a0 n0 h0 vm h cells slots pc Ls St)
    (f : ∀ {s' T locs}, Stand p l e R s' m args below meth c T locs cells slots → p.tables.exec = Jvm.exec → c.code = B → Goes p e below S G T (mkF m pc Ls St) → Goes p e below S G T (mkF m pc' Ls' St')) :
    Wk md EL p l e R s m args below meth c S G own B ml mn rt Z a0 n0 h0 vm h cells slots pc' Ls' St' := by
  obtain ⟨q1, q2, q3, q4, q5, q6, T, locs, X, eT, N, g⟩ := k
  exact ⟨q1, q2, q3, q4, q5, q6, T, locs, X, eT, N, f X q1.1 q1.2.1 g⟩
theorem Wk.same (k : Wk md EL p l e R s m args below meth c S G own B ml mn rt Z a0 n0 h0 vm h cells slots pc Ls St)
    (f : ∀ {s' : State} {T locs}, Stand p l e R s' m args below meth c T locs cells slots → p.tables.exec = Jvm.exec → c.code = B → c.maxLocals = ml → Z.Warmed39 s'.vm → s'.vm.findClass own = some m.cls → T.heap = h →
      ∃ T', Stand p l e R s' m args below meth c T' locs cells slots ∧ T'.heap = h ∧ ∀ target, Steps p.tables e below (T'.setTop (mkF m pc' Ls' St')) target → Steps p.tables e below (T.setTop (mkF m pc Ls St)) target) :
    Wk md EL p l e R s m args below meth c S G own B ml mn rt Z a0 n0 h0 vm h cells slots pc' Ls' St' := by
  obtain ⟨q1, q2, q3, q4, q5, q6, T, locs, X, eT, N, g⟩ := k
  obtain ⟨T', X', eT', st⟩ := f X q1.1 q1.2.1 q1.2.2.1 q2 q3 eT
  exact ⟨q1, q2, q3, q4, q5, q6, T', locs, X', eT', N, fun t q => g t (st t q)⟩
theorem Wk.grow {cells' slots' : Nat} (k : Wk md EL p l e R s m args below meth c S G own B ml mn rt Z a0 n0 h0 vm h cells slots pc Ls St) {P : Heap → Prop}
    (f : ∀ {s' : State} {T locs}, Stand p l e R s' m args below meth c T locs cells slots → p.tables.exec = Jvm.exec → c.code = B → Z.Warmed39 s'.vm → s'.vm.findClass own = some m.cls → T.heap = h →
      ∃ T' h', Stand p l e R s' m args below meth c T' locs cells' slots' ∧ T'.heap = h' ∧ Ext h h' ∧ P h' ∧ ∀ target, Steps p.tables e below (T'.setTop (mkF m pc' Ls' St')) target → Steps p.tables e below (T.setTop (mkF m pc Ls St)) target) :
    ∃ h', Keep h h' [] ∧ P h' ∧ Wk md EL p l e R s m args below meth c S G own B ml mn rt Z a0 n0 h0 vm h' cells' slots' pc' Ls' St' := by
  obtain ⟨q1, q2, q3, q4, q5, q6, T, locs, X, eT, N, g⟩ := k
  obtain ⟨T', h', X', eT', E, hP, st⟩ := f X q1.1 q1.2.1 q2 q3 eT
  have K : Keep h h' [] := (Keep.refl h []).ext E
  exact ⟨h', K, hP, q1, q2, q3, q4.ext E, Nat.le_trans q5 E.1, q6.keep K (Or.inr fun _ z => nomatch z), T', locs, X', eT', N, fun t q => g t (st t q)⟩
theorem Wk.write {a : Addr} {sl : Nat} {v : Value} (k : Wk md EL p l e R s m args below meth c S G own B ml mn rt Z a0 n0 h0 vm h cells slots pc Ls St) (ha : n0 ≤ a) (hs : md = false ∨ Safe Z EL vm h a)
    (f : ∀ {s' : State} {T locs}, Stand p l e R s' m args below meth c T locs cells slots → p.tables.exec = Jvm.exec → c.code = B → meth.name = mn → Z.Warmed39 s'.vm → s'.vm.findClass own = some m.cls → T.heap = h →
      ∃ T' h', Stand p l e R s' m args below meth c T' (locs ++ [⟨a, sl⟩]) cells slots ∧ T'.heap = h' ∧ Wr h h' a sl v ∧ ∀ target, Steps p.tables e below (T'.setTop (mkF m pc' Ls' St')) target → Steps p.tables e below (T.setTop (mkF m pc Ls St)) target) :
    ∃ h', Wr h h' a sl v ∧ Wk md EL p l e R s m args below meth c S G own B ml mn rt Z a0 n0 h0 vm h' cells slots pc' Ls' St' := by
  obtain ⟨q1, q2, q3, q4, q5, q6, T, locs, X, eT, N, g⟩ := k
  obtain ⟨T', h', X', eT', W, st⟩ := f X q1.1 q1.2.1 q1.2.2.2.1 q2 q3 eT
  have K : Keep h h' [a] := Keep.of_wr W
  exact ⟨h', W, q1, q2, q3, q4.wr W ha, Nat.le_trans q5 K.1, q6.keep K (hs.imp id fun z w hw => by cases List.mem_singleton.mp hw; exact z), T', _, X', eT', Fr.snoc X' N ha, fun t q => g t (st t q)⟩
namespace Wk
theorem iloadN {i : Fin 4} {v : Int32} (k : Wk md EL p l e R s m args below meth c S G own B ml mn rt Z a0 n0 h0 vm h cells slots pc Ls St) (hd : Dc B pc (.iload_n i) 1 pc') (hl : Ls[i.val]? = some (.val (.int v))) : Wk md EL p l e R s m args below meth c S G own B ml mn rt Z a0 n0 h0 vm h cells slots pc' Ls (.int v :: St) :=
  k.plain fun X hx hb g => Fw.iloadN g X hx (by rw [hb]; exact hd.1) hl hd.2
theorem iload {i : Nat} {v : Int32} (k : Wk md EL p l e R s m args below meth c S G own B ml mn rt Z a0 n0 h0 vm h cells slots pc Ls St) (hd : Dc B pc (.iload i) 2 pc') (hl : Ls[i]? = some (.val (.int v))) : Wk md EL p l e R s m args below meth c S G own B ml mn rt Z a0 n0 h0 vm h cells slots pc' Ls (.int v :: St) :=
  k.plain fun X hx hb g => Fw.iload g X hx (by rw [hb]; exact hd.1) hl hd.2
theorem lloadN {i : Fin 4} {v : Int64} (k : Wk md EL p l e R s m args below meth c S G own B ml mn rt Z a0 n0 h0 vm h cells slots pc Ls St) (hd : Dc B pc (.lload_n i) 1 pc') (hl : Ls[i.val]? = some (.val (.long v))) : Wk md EL p l e R s m args below meth c S G own B ml mn rt Z a0 n0 h0 vm h cells slots pc' Ls (.long v :: St) :=
  k.plain fun X hx hb g => Fw.lloadN g X hx (by rw [hb]; exact hd.1) hl hd.2
theorem lload {i : Nat} {v : Int64} (k : Wk md EL p l e R s m args below meth c S G own B ml mn rt Z a0 n0 h0 vm h cells slots pc Ls St) (hd : Dc B pc (.lload i) 2 pc') (hl : Ls[i]? = some (.val (.long v))) : Wk md EL p l e R s m args below meth c S G own B ml mn rt Z a0 n0 h0 vm h cells slots pc' Ls (.long v :: St) :=
  k.plain fun X hx hb g => Fw.lload g X hx (by rw [hb]; exact hd.1) hl hd.2
theorem aloadN {i : Fin 4} {v : Value} (k : Wk md EL p l e R s m args below meth c S G own B ml mn rt Z a0 n0 h0 vm h cells slots pc Ls St) (hd : Dc B pc (.aload_n i) 1 pc') (hl : Ls[i.val]? = some (.val v)) (hv : v.isRef = true) : Wk md EL p l e R s m args below meth c S G own B ml mn rt Z a0 n0 h0 vm h cells slots pc' Ls (v :: St) :=
  k.plain fun X hx hb g => Fw.aloadN g X hx (by rw [hb]; exact hd.1) hl hv hd.2
theorem aload {i : Nat} {v : Value} (k : Wk md EL p l e R s m args below meth c S G own B ml mn rt Z a0 n0 h0 vm h cells slots pc Ls St) (hd : Dc B pc (.aload i) 2 pc') (hl : Ls[i]? = some (.val v)) (hv : v.isRef = true) : Wk md EL p l e R s m args below meth c S G own B ml mn rt Z a0 n0 h0 vm h cells slots pc' Ls (v :: St) :=
  k.plain fun X hx hb g => Fw.aload g X hx (by rw [hb]; exact hd.1) hl hv hd.2
theorem istoreN {i : Fin 4} {v : Int32} {Ls' : Array Slot} (k : Wk md EL p l e R s m args below meth c S G own B ml mn rt Z a0 n0 h0 vm h cells slots pc Ls (.int v :: St)) (hd : Dc B pc (.istore_n i) 1 pc') (hl : storeLocals Ls i.val (.int v) = some Ls') : Wk md EL p l e R s m args below meth c S G own B ml mn rt Z a0 n0 h0 vm h cells slots pc' Ls' St :=
  k.plain fun X hx hb g => Fw.istoreN g X hx (by rw [hb]; exact hd.1) hl hd.2
theorem istore {i : Nat} {v : Int32} {Ls' : Array Slot} (k : Wk md EL p l e R s m args below meth c S G own B ml mn rt Z a0 n0 h0 vm h cells slots pc Ls (.int v :: St)) (hd : Dc B pc (.istore i) 2 pc') (hl : storeLocals Ls i (.int v) = some Ls') : Wk md EL p l e R s m args below meth c S G own B ml mn rt Z a0 n0 h0 vm h cells slots pc' Ls' St :=
  k.plain fun X hx hb g => Fw.istore g X hx (by rw [hb]; exact hd.1) hl hd.2
theorem lstoreN {i : Fin 4} {v : Int64} {Ls' : Array Slot} (k : Wk md EL p l e R s m args below meth c S G own B ml mn rt Z a0 n0 h0 vm h cells slots pc Ls (.long v :: St)) (hd : Dc B pc (.lstore_n i) 1 pc') (hl : storeLocals Ls i.val (.long v) = some Ls') : Wk md EL p l e R s m args below meth c S G own B ml mn rt Z a0 n0 h0 vm h cells slots pc' Ls' St :=
  k.plain fun X hx hb g => Fw.lstoreN g X hx (by rw [hb]; exact hd.1) hl hd.2
theorem astoreN {i : Fin 4} {v : Value} {Ls' : Array Slot} (k : Wk md EL p l e R s m args below meth c S G own B ml mn rt Z a0 n0 h0 vm h cells slots pc Ls (v :: St)) (hd : Dc B pc (.astore_n i) 1 pc') (hv : v.isRef = true) (hl : storeLocals Ls i.val v = some Ls') : Wk md EL p l e R s m args below meth c S G own B ml mn rt Z a0 n0 h0 vm h cells slots pc' Ls' St :=
  k.plain fun X hx hb g => Fw.astoreN g X hx (by rw [hb]; exact hd.1) hv hl hd.2
theorem astore {i : Nat} {v : Value} {Ls' : Array Slot} (k : Wk md EL p l e R s m args below meth c S G own B ml mn rt Z a0 n0 h0 vm h cells slots pc Ls (v :: St)) (hd : Dc B pc (.astore i) 2 pc') (hv : v.isRef = true) (hl : storeLocals Ls i v = some Ls') : Wk md EL p l e R s m args below meth c S G own B ml mn rt Z a0 n0 h0 vm h cells slots pc' Ls' St :=
  k.plain fun X hx hb g => Fw.astore g X hx (by rw [hb]; exact hd.1) hv hl hd.2
theorem iconst {i : Int} (k : Wk md EL p l e R s m args below meth c S G own B ml mn rt Z a0 n0 h0 vm h cells slots pc Ls St) (hd : Dc B pc (.iconst i) 1 pc') (z : Int32) (hz : Int32.ofInt i = z := by decide) : Wk md EL p l e R s m args below meth c S G own B ml mn rt Z a0 n0 h0 vm h cells slots pc' Ls (.int z :: St) :=
  k.plain fun X hx hb g => Fw.iconst g X hx (by rw [hb]; exact hd.1) hz hd.2
theorem bipush {i : Int} (k : Wk md EL p l e R s m args below meth c S G own B ml mn rt Z a0 n0 h0 vm h cells slots pc Ls St) (hd : Dc B pc (.bipush i) 2 pc') (z : Int32) (hz : (Int8.ofInt i).toInt32 = z := by decide) : Wk md EL p l e R s m args below meth c S G own B ml mn rt Z a0 n0 h0 vm h cells slots pc' Ls (.int z :: St) :=
  k.plain fun X hx hb g => Fw.bipush g X hx (by rw [hb]; exact hd.1) hz hd.2
theorem sipush {i : Int} (k : Wk md EL p l e R s m args below meth c S G own B ml mn rt Z a0 n0 h0 vm h cells slots pc Ls St) (hd : Dc B pc (.sipush i) 3 pc') (z : Int32) (hz : (Int16.ofInt i).toInt32 = z := by decide) : Wk md EL p l e R s m args below meth c S G own B ml mn rt Z a0 n0 h0 vm h cells slots pc' Ls (.int z :: St) :=
  k.plain fun X hx hb g => Fw.sipush g X hx (by rw [hb]; exact hd.1) hz hd.2
theorem lconst {i : Fin 2} (k : Wk md EL p l e R s m args below meth c S G own B ml mn rt Z a0 n0 h0 vm h cells slots pc Ls St) (hd : Dc B pc (.lconst i) 1 pc') (z : Int64) (hz : Int64.ofNat i = z := by decide) : Wk md EL p l e R s m args below meth c S G own B ml mn rt Z a0 n0 h0 vm h cells slots pc' Ls (.long z :: St) :=
  k.plain fun X hx hb g => Fw.lconst g X hx (by rw [hb]; exact hd.1) hz hd.2
theorem aconstNull  (k : Wk md EL p l e R s m args below meth c S G own B ml mn rt Z a0 n0 h0 vm h cells slots pc Ls St) (hd : Dc B pc (.aconst_null) 1 pc') : Wk md EL p l e R s m args below meth c S G own B ml mn rt Z a0 n0 h0 vm h cells slots pc' Ls (.null :: St) :=
  k.plain fun X hx hb g => Fw.aconstNull g X hx (by rw [hb]; exact hd.1) hd.2
theorem iadd {x y z : Int32} (k : Wk md EL p l e R s m args below meth c S G own B ml mn rt Z a0 n0 h0 vm h cells slots pc Ls (.int y :: .int x :: St)) (hd : Dc B pc (.iadd) 1 pc') (hz : x + y = z := by decide) : Wk md EL p l e R s m args below meth c S G own B ml mn rt Z a0 n0 h0 vm h cells slots pc' Ls (.int z :: St) :=
  k.plain fun X hx hb g => Fw.iadd g X hx (by rw [hb]; exact hd.1) hz hd.2
theorem isub {x y z : Int32} (k : Wk md EL p l e R s m args below meth c S G own B ml mn rt Z a0 n0 h0 vm h cells slots pc Ls (.int y :: .int x :: St)) (hd : Dc B pc (.isub) 1 pc') (hz : x - y = z := by decide) : Wk md EL p l e R s m args below meth c S G own B ml mn rt Z a0 n0 h0 vm h cells slots pc' Ls (.int z :: St) :=
  k.plain fun X hx hb g => Fw.isub g X hx (by rw [hb]; exact hd.1) hz hd.2
theorem imul {x y z : Int32} (k : Wk md EL p l e R s m args below meth c S G own B ml mn rt Z a0 n0 h0 vm h cells slots pc Ls (.int y :: .int x :: St)) (hd : Dc B pc (.imul) 1 pc') (hz : x * y = z := by decide) : Wk md EL p l e R s m args below meth c S G own B ml mn rt Z a0 n0 h0 vm h cells slots pc' Ls (.int z :: St) :=
  k.plain fun X hx hb g => Fw.imul g X hx (by rw [hb]; exact hd.1) hz hd.2
theorem iand {x y z : Int32} (k : Wk md EL p l e R s m args below meth c S G own B ml mn rt Z a0 n0 h0 vm h cells slots pc Ls (.int y :: .int x :: St)) (hd : Dc B pc (.iand) 1 pc') (hz : x &&& y = z := by decide) : Wk md EL p l e R s m args below meth c S G own B ml mn rt Z a0 n0 h0 vm h cells slots pc' Ls (.int z :: St) :=
  k.plain fun X hx hb g => Fw.iand g X hx (by rw [hb]; exact hd.1) hz hd.2
theorem ineg {x : Int32} {z : Int32} (k : Wk md EL p l e R s m args below meth c S G own B ml mn rt Z a0 n0 h0 vm h cells slots pc Ls (.int x :: St)) (hd : Dc B pc (.ineg) 1 pc') (hz : -x = z := by decide) : Wk md EL p l e R s m args below meth c S G own B ml mn rt Z a0 n0 h0 vm h cells slots pc' Ls (.int z :: St) :=
  k.plain fun X hx hb g => Fw.ineg g X hx (by rw [hb]; exact hd.1) hz hd.2
theorem lneg {x : Int64} {z : Int64} (k : Wk md EL p l e R s m args below meth c S G own B ml mn rt Z a0 n0 h0 vm h cells slots pc Ls (.long x :: St)) (hd : Dc B pc (.lneg) 1 pc') (hz : -x = z := by decide) : Wk md EL p l e R s m args below meth c S G own B ml mn rt Z a0 n0 h0 vm h cells slots pc' Ls (.long z :: St) :=
  k.plain fun X hx hb g => Fw.lneg g X hx (by rw [hb]; exact hd.1) hz hd.2
theorem i2l {x : Int32} {z : Int64} (k : Wk md EL p l e R s m args below meth c S G own B ml mn rt Z a0 n0 h0 vm h cells slots pc Ls (.int x :: St)) (hd : Dc B pc (.i2l) 1 pc') (hz : x.toInt64 = z := by decide) : Wk md EL p l e R s m args below meth c S G own B ml mn rt Z a0 n0 h0 vm h cells slots pc' Ls (.long z :: St) :=
  k.plain fun X hx hb g => Fw.i2l g X hx (by rw [hb]; exact hd.1) hz hd.2
theorem l2i {x : Int64} {z : Int32} (k : Wk md EL p l e R s m args below meth c S G own B ml mn rt Z a0 n0 h0 vm h cells slots pc Ls (.long x :: St)) (hd : Dc B pc (.l2i) 1 pc') (hz : x.toInt32 = z := by decide) : Wk md EL p l e R s m args below meth c S G own B ml mn rt Z a0 n0 h0 vm h cells slots pc' Ls (.int z :: St) :=
  k.plain fun X hx hb g => Fw.l2i g X hx (by rw [hb]; exact hd.1) hz hd.2
theorem i2c {x : Int32} {z : Int32} (k : Wk md EL p l e R s m args below meth c S G own B ml mn rt Z a0 n0 h0 vm h cells slots pc Ls (.int x :: St)) (hd : Dc B pc (.i2c) 1 pc') (hz : x.toUInt32.toUInt16.toUInt32.toInt32 = z := by decide) : Wk md EL p l e R s m args below meth c S G own B ml mn rt Z a0 n0 h0 vm h cells slots pc' Ls (.int z :: St) :=
  k.plain fun X hx hb g => Fw.i2c g X hx (by rw [hb]; exact hd.1) hz hd.2
theorem ishl {x y z : Int32} (k : Wk md EL p l e R s m args below meth c S G own B ml mn rt Z a0 n0 h0 vm h cells slots pc Ls (.int y :: .int x :: St)) (hd : Dc B pc (.ishl) 1 pc') (hz : x <<< (y &&& 31) = z := by decide) : Wk md EL p l e R s m args below meth c S G own B ml mn rt Z a0 n0 h0 vm h cells slots pc' Ls (.int z :: St) :=
  k.plain fun X hx hb g => Fw.ishl g X hx (by rw [hb]; exact hd.1) hz hd.2
theorem ishr {x y z : Int32} (k : Wk md EL p l e R s m args below meth c S G own B ml mn rt Z a0 n0 h0 vm h cells slots pc Ls (.int y :: .int x :: St)) (hd : Dc B pc (.ishr) 1 pc') (hz : x >>> (y &&& 31) = z := by decide) : Wk md EL p l e R s m args below meth c S G own B ml mn rt Z a0 n0 h0 vm h cells slots pc' Ls (.int z :: St) :=
  k.plain fun X hx hb g => Fw.ishr g X hx (by rw [hb]; exact hd.1) hz hd.2
theorem idiv {x y z : Int32} (k : Wk md EL p l e R s m args below meth c S G own B ml mn rt Z a0 n0 h0 vm h cells slots pc Ls (.int y :: .int x :: St)) (hd : Dc B pc (.idiv) 1 pc') (hy : y ≠ 0) (hz : x / y = z := by decide) : Wk md EL p l e R s m args below meth c S G own B ml mn rt Z a0 n0 h0 vm h cells slots pc' Ls (.int z :: St) :=
  k.plain fun X hx hb g => Fw.idiv g X hx (by rw [hb]; exact hd.1) hy hz hd.2
theorem ldiv {x y z : Int64} (k : Wk md EL p l e R s m args below meth c S G own B ml mn rt Z a0 n0 h0 vm h cells slots pc Ls (.long y :: .long x :: St)) (hd : Dc B pc (.ldiv) 1 pc') (hy : y ≠ 0) (hz : x / y = z := by decide) : Wk md EL p l e R s m args below meth c S G own B ml mn rt Z a0 n0 h0 vm h cells slots pc' Ls (.long z :: St) :=
  k.plain fun X hx hb g => Fw.ldiv g X hx (by rw [hb]; exact hd.1) hy hz hd.2
theorem lrem {x y z : Int64} (k : Wk md EL p l e R s m args below meth c S G own B ml mn rt Z a0 n0 h0 vm h cells slots pc Ls (.long y :: .long x :: St)) (hd : Dc B pc (.lrem) 1 pc') (hy : y ≠ 0) (hz : x % y = z := by decide) : Wk md EL p l e R s m args below meth c S G own B ml mn rt Z a0 n0 h0 vm h cells slots pc' Ls (.long z :: St) :=
  k.plain fun X hx hb g => Fw.lrem g X hx (by rw [hb]; exact hd.1) hy hz hd.2
theorem lcmp {x y : Int64} (k : Wk md EL p l e R s m args below meth c S G own B ml mn rt Z a0 n0 h0 vm h cells slots pc Ls (.long y :: .long x :: St)) (hd : Dc B pc (.lcmp) 1 pc') : Wk md EL p l e R s m args below meth c S G own B ml mn rt Z a0 n0 h0 vm h cells slots pc' Ls (.int (lcmpW x y) :: St) :=
  k.plain fun X hx hb g => Fw.lcmp g X hx (by rw [hb]; exact hd.1) hd.2
theorem iinc {i : Nat} {cst : Int} {x z : Int32} {Ls' : Array Slot} (k : Wk md EL p l e R s m args below meth c S G own B ml mn rt Z a0 n0 h0 vm h cells slots pc Ls St) (hd : Dc B pc (.iinc i cst) 3 pc') (hl : Ls[i]? = some (.val (.int x))) (hz : x + Int32.ofInt cst = z) (hl' : storeLocals Ls i (.int z) = some Ls') : Wk md EL p l e R s m args below meth c S G own B ml mn rt Z a0 n0 h0 vm h cells slots pc' Ls' St :=
  k.plain fun X hx hb g => Fw.iinc g X hx (by rw [hb]; exact hd.1) hl hz hl' hd.2
theorem dup {v : Value} (k : Wk md EL p l e R s m args below meth c S G own B ml mn rt Z a0 n0 h0 vm h cells slots pc Ls (v :: St)) (hd : Dc B pc (.dup) 1 pc') (hc : v.category = 1 := by decide) : Wk md EL p l e R s m args below meth c S G own B ml mn rt Z a0 n0 h0 vm h cells slots pc' Ls (v :: v :: St) :=
  k.plain fun X hx hb g => Fw.dup g X hx (by rw [hb]; exact hd.1) hc hd.2
theorem pop {v : Value} (k : Wk md EL p l e R s m args below meth c S G own B ml mn rt Z a0 n0 h0 vm h cells slots pc Ls (v :: St)) (hd : Dc B pc (.pop) 1 pc') (hc : v.category = 1 := by decide) : Wk md EL p l e R s m args below meth c S G own B ml mn rt Z a0 n0 h0 vm h cells slots pc' Ls St :=
  k.plain fun X hx hb g => Fw.pop g X hx (by rw [hb]; exact hd.1) hc hd.2
theorem goto {pc'' : Nat} {o : Int} (k : Wk md EL p l e R s m args below meth c S G own B ml mn rt Z a0 n0 h0 vm h cells slots pc Ls St) (hd : Dj B pc (.goto o) o pc' pc'') : Wk md EL p l e R s m args below meth c S G own B ml mn rt Z a0 n0 h0 vm h cells slots pc'' Ls St :=
  k.plain fun X hx hb g => Fw.goto g X hx (by rw [hb]; exact hd.1) hd.2.2.1 hd.2.2.2
theorem ifYes {pc'' : Nat} {o : Int} {cd : ClassFile.Cond} {x : Int32} (k : Wk md EL p l e R s m args below meth c S G own B ml mn rt Z a0 n0 h0 vm h cells slots pc Ls (.int x :: St)) (hd : Dj B pc (.ifCond cd o) o pc' pc'') (hc : ifCond.holds cd x = true := by decide) : Wk md EL p l e R s m args below meth c S G own B ml mn rt Z a0 n0 h0 vm h cells slots pc'' Ls St :=
  k.plain fun X hx hb g => Fw.ifYes g X hx (by rw [hb]; exact hd.1) hc hd.2.2.1 hd.2.2.2
theorem ifNo {pc'' : Nat} {o : Int} {cd : ClassFile.Cond} {x : Int32} (k : Wk md EL p l e R s m args below meth c S G own B ml mn rt Z a0 n0 h0 vm h cells slots pc Ls (.int x :: St)) (hd : Dj B pc (.ifCond cd o) o pc' pc'') (hc : ifCond.holds cd x = false := by decide) : Wk md EL p l e R s m args below meth c S G own B ml mn rt Z a0 n0 h0 vm h cells slots pc' Ls St :=
  k.plain fun X hx hb g => Fw.ifNo g X hx (by rw [hb]; exact hd.1) hc hd.2.1
theorem icmpYes {pc'' : Nat} {o : Int} {cd : ClassFile.Cond} {x y : Int32} (k : Wk md EL p l e R s m args below meth c S G own B ml mn rt Z a0 n0 h0 vm h cells slots pc Ls (.int y :: .int x :: St)) (hd : Dj B pc (.if_icmp cd o) o pc' pc'') (hc : if_icmp.holds cd x y = true := by decide) : Wk md EL p l e R s m args below meth c S G own B ml mn rt Z a0 n0 h0 vm h cells slots pc'' Ls St :=
  k.plain fun X hx hb g => Fw.icmpYes g X hx (by rw [hb]; exact hd.1) hc hd.2.2.1 hd.2.2.2
theorem icmpNo {pc'' : Nat} {o : Int} {cd : ClassFile.Cond} {x y : Int32} (k : Wk md EL p l e R s m args below meth c S G own B ml mn rt Z a0 n0 h0 vm h cells slots pc Ls (.int y :: .int x :: St)) (hd : Dj B pc (.if_icmp cd o) o pc' pc'') (hc : if_icmp.holds cd x y = false := by decide) : Wk md EL p l e R s m args below meth c S G own B ml mn rt Z a0 n0 h0 vm h cells slots pc' Ls St :=
  k.plain fun X hx hb g => Fw.icmpNo g X hx (by rw [hb]; exact hd.1) hc hd.2.1
theorem ifnonnullYes {pc'' : Nat} {o : Int} {b : Addr} (k : Wk md EL p l e R s m args below meth c S G own B ml mn rt Z a0 n0 h0 vm h cells slots pc Ls (.ref b :: St)) (hd : Dj B pc (.ifnonnull o) o pc' pc'') : Wk md EL p l e R s m args below meth c S G own B ml mn rt Z a0 n0 h0 vm h cells slots pc'' Ls St :=
  k.plain fun X hx hb g => Fw.ifnonnullYes g X hx (by rw [hb]; exact hd.1) hd.2.2.1 hd.2.2.2
theorem acmpYes {pc'' : Nat} {cd : ACond} {x y : Value} {o : Int} (k : Wk md EL p l e R s m args below meth c S G own B ml mn rt Z a0 n0 h0 vm h cells slots pc Ls (y :: x :: St)) (hd : Dj B pc (.if_acmp cd o) o pc' pc'') (h1 : x.isRef = true) (h2 : y.isRef = true) (same : Bool) (hq : decide (x = y) = same) (ha : acV cd same = true) : Wk md EL p l e R s m args below meth c S G own B ml mn rt Z a0 n0 h0 vm h cells slots pc'' Ls St :=
  k.plain fun X hx hb g => Fw.acmp g X hx (by rw [hb]; exact hd.1) h1 h2 same hq hd.2.2.1 (by rw [ha]; exact hd.2.2.2.symm)
theorem acmpNo {pc'' : Nat} {cd : ACond} {x y : Value} {o : Int} (k : Wk md EL p l e R s m args below meth c S G own B ml mn rt Z a0 n0 h0 vm h cells slots pc Ls (y :: x :: St)) (hd : Dj B pc (.if_acmp cd o) o pc' pc'') (h1 : x.isRef = true) (h2 : y.isRef = true) (same : Bool) (hq : decide (x = y) = same) (ha : acV cd same = false) : Wk md EL p l e R s m args below meth c S G own B ml mn rt Z a0 n0 h0 vm h cells slots pc' Ls St :=
  k.plain fun X hx hb g => Fw.acmp g X hx (by rw [hb]; exact hd.1) h1 h2 same hq hd.2.2.1 (by rw [ha]; exact hd.2.1.symm)
end Wk
end Wk
/-! objects and arrays -/
section Objs
variable {Z : State} {h h' : Heap} {a b : Addr} {a0 : Array Value} {L : String × List (String × String × String × Value)} {vs vs' : List Value}
abbrev Lay : Type := String × List (String × String × String × Value)
def LOk (Z : State) (a0 : Array Value) (L : Lay) : Prop :=
  (∀ q ∈ L.2, Laid Z a0 L.1 q.1 q.2.1 q.2.2.1 ∧ ∃ t, parseFieldDescriptor q.2.2.1 = some t ∧ defaultValue t = q.2.2.2) ∧ (L.2.map fun q => q.2.1).Nodup
def Obj (Z : State) (h : Heap) (a : Addr) (L : Lay) (vs : List Value) : Prop :=
  Exa Z h a L.1 ∧ vs.length = L.2.length ∧ ∀ (i : Nat) (q : String × String × String × Value) (v : Value), L.2[i]? = some q → vs[i]? = some v → Fld Z h a q.1 q.2.1 q.2.2.1 v
theorem Obj.lt (O : Obj Z h a L vs) : a < h.size := O.1.lt
theorem Obj.exa (O : Obj Z h a L vs) : Exa Z h a L.1 := O.1
theorem Obj.keep {ws : List Addr} (O : Obj Z h a L vs) (W : Keep h h' ws) (n : a ∉ ws) : Obj Z h' a L vs := ⟨O.1.keep W, O.2.1, fun i q v q1 q2 => (O.2.2 i q v q1 q2).keep W n⟩
theorem Obj.ext (O : Obj Z h a L vs) (E : Ext h h') : Obj Z h' a L vs := ⟨O.1.ext E, O.2.1, fun i q v q1 q2 => (O.2.2 i q v q1 q2).ext E⟩
theorem Obj.at (O : Obj Z h a L vs) (i : Nat) {C f d : String} {v w : Value} (e : L.2[i]? = some (C, f, d, w)) (e' : vs[i]? = some v) : Fld Z h a C f d v := O.2.2 i _ v e e'
theorem Obj.put (O : Obj Z h a L vs) (K : LOk Z a0 L) (k : Nat) {C f d : String} {v w : Value} (e : L.2[k]? = some (C, f, d, w)) (W : Wr h h' a (Jvm.RoadKit.slotOf Z C f d) v) : Obj Z h' a L (vs.set k v) := by
  obtain ⟨O1, O2, O3⟩ := O
  refine ⟨O1.wr W, by rw [List.length_set]; exact O2, fun j q u hj hu => ?_⟩
  have hk : k < vs.length := by rw [O2]; exact (List.getElem?_eq_some_iff.mp e).1
  by_cases hne : k = j
  · subst hne
    cases hj.symm.trans e
    rw [List.getElem?_set_self hk] at hu
    cases hu
    exact (O3 k _ _ e (List.getElem?_eq_getElem hk)).same W
  · rw [List.getElem?_set_ne hne] at hu
    obtain ⟨l1, t1, ht1, -⟩ := K.1 _ (List.mem_of_getElem? hj)
    obtain ⟨l2, t2, ht2, -⟩ := K.1 _ (List.mem_of_getElem? e)
    refine (O3 j q u hj hu).other W (Or.inr (Jvm.RoadKit.slot_ne l1 l2 (fun heq => ?_) ht1 ht2))
    have e1 : (L.2.map fun q => q.2.1)[j]? = some q.2.1 := by simp [List.getElem?_map, hj]
    have e2 : (L.2.map fun q => q.2.1)[k]? = some f := by simp [List.getElem?_map, e]
    have hl1 := (List.getElem?_eq_some_iff.mp e1).1
    exact hne (((List.getElem?_inj hl1 K.2).mp (by rw [e1, e2, heq])).symm)
theorem Obj.new (K : LOk Z a0 L) (A : Exa Z h b L.1) (D : ∀ {O nm d : String} {ty : FieldType}, Laid Z a0 L.1 O nm d → parseFieldDescriptor d = some ty → Fld Z h b O nm d (defaultValue ty)) : Obj Z h b L (L.2.map fun q => q.2.2.2) := by
  refine ⟨A, by simp, fun i q v hq hv => ?_⟩
  obtain ⟨l1, t1, ht1, e1⟩ := K.1 _ (List.mem_of_getElem? hq)
  rw [List.getElem?_map, hq] at hv
  cases hv
  show Fld Z h b q.1 q.2.1 q.2.2.1 q.2.2.2
  rw [← e1]
  exact D l1 ht1
def FL (Z : State) (a0 : Array Value) (own : String) (index : Nat) (C f d : String) : Prop := ∃ R0 host, ((Cond.fieldLink own index R0 f d).before a0 Z = true ∨ (Cond.fieldLinkNest own index R0 f d host).before a0 Z = true) ∧ Via Z R0 C f d
def FP (Z : State) (a0 : Array Value) (own : String) (index : Nat) (C f d : String) : Prop := ∃ R0, (Cond.fieldLink own index R0 f d).before a0 Z = true ∧ Via Z R0 C f d
def PW (Z : State) (a0 : Array Value) (own mn : String) (L : Lay) (C f d : String) (ty : FieldType) : Prop :=
  LOk Z a0 L ∧ ((Cond.lays L.1 C f d).before a0 Z = true ∨ ((Cond.laysFinal L.1 C f d).before a0 Z = true ∧ own = C ∧ mn = "<init>")) ∧ (∃ kk, (Cond.instantiable L.1 kk).before a0 Z = true) ∧ parseFieldDescriptor d = some ty
def NW (Z : State) (a0 : Array Value) (L : Lay) (n : Nat) : Prop := LOk Z a0 L ∧ (Cond.instantiable L.1 n).before a0 Z = true ∧ (Cond.initialized L.1).before a0 Z = true
def OvT (Z : State) (ty : FieldType) (k : ClassId) : Prop := (∀ C, ty = .object C → Ovr Z k C) ∧ ∀ t, ty = .array t → OvrA Z k t (FieldType.array t).toString
theorem OvT.of_prim {ty : FieldType} {k : ClassId} (q : refKind ty = false) : OvT Z ty k := ⟨fun C e => (by subst e; cases q), fun t e => (by subst e; cases q)⟩
def Ary (Z : State) (h : Heap) (a : Addr) (T : String × FieldType) (n : Nat) (f : Nat → Value) : Prop :=
  (T.1 = "" ∨ Exa Z h a T.1) ∧ ∃ c : Cell, Arr Z h a c T.2 ∧ OvT Z T.2 c.cls ∧ c.slots.size = n ∧ n < 2147483648 ∧ (∀ i, i < n → c.slots[i]? = some (f i)) ∧ ∀ i, i < n → fits T.2 (f i) = true
variable {T : String × FieldType} {n : Nat} {f : Nat → Value}
theorem Ary.lt (A : Ary Z h a T n f) : a < h.size := by obtain ⟨-, c, q, -⟩ := A; exact (Array.getElem?_eq_some_iff.mp q.1).1
theorem Ary.exa (A : Ary Z h a T n f) (q : T.1 ≠ "") : Exa Z h a T.1 := A.1.resolve_left q
theorem Ary.keep {ws : List Addr} (A : Ary Z h a T n f) (W : Keep h h' ws) (q : a ∉ ws) : Ary Z h' a T n f := by
  obtain ⟨e, c, A1, r⟩ := A; exact ⟨e.imp id (·.keep W), c, ⟨W.2.1 a c A1.1 q, A1.2⟩, r⟩
theorem Ary.norm {g : Nat → Value} (A : Ary Z h a T n f) (q : ∀ i, i < n → f i = g i) : Ary Z h a T n g := by
  obtain ⟨x, c, A1, hk, hs, hn, hf, hfit⟩ := A
  exact ⟨x, c, A1, hk, hs, hn, fun i hi => by rw [← q i hi]; exact hf i hi, fun i hi => by rw [← q i hi]; exact hfit i hi⟩
theorem Ary.open (A : Ary Z h a T n f) {j : Int32} {i : Nat} (q : ¬ j < 0 ∧ j.toNatClampNeg = i ∧ i < n) : ∃ c : Cell, Arr Z h a c T.2 ∧ ¬ (j < 0 ∨ c.slots.size ≤ j.toNatClampNeg) ∧ c.slots[j.toNatClampNeg]? = some (f i) ∧ OvT Z T.2 c.cls ∧ fits T.2 (f i) = true := by
  obtain ⟨-, c, A1, hk, hs, hn, hf, hfit⟩ := A
  refine ⟨c, A1, fun x => x.elim q.1 (fun y => by omega), by rw [q.2.1]; exact hf i q.2.2, hk, hfit i q.2.2⟩
theorem Ary.set (A : Ary Z h a T n f) {j : Nat} {v : Value} (W : Wr h h' a j v) {i : Nat} (e : j = i) (hv : fits T.2 v = true) : Ary Z h' a T n (updv f i v) := by
  subst e
  obtain ⟨x, c, A1, hk, hs, hn, hf, hfit⟩ := A
  refine ⟨x.imp id (·.wr W), _, A1.same W, hk, by rw [sz_set]; exact hs, hn, fun i hi => ?_, fun i hi => ?_⟩
  · by_cases q : i = j
    · subst q; simp [Cell.setSlot, updv, hs, hi]
    · simp [Cell.setSlot, updv, q, Array.getElem?_setIfInBounds_ne (Ne.symm q), hf i hi]
  · by_cases q : i = j
    · subst q; simp [updv, hv]
    · simp [updv, q, hfit i hi]
theorem Ary.new {z : Int32} {k : ClassId} (A : Arr Z h a (newA k T.2 z) T.2) (O : OvT Z T.2 k) (E : Exa Z h a T.1) (q : ¬ z < 0) (e : z.toNatClampNeg = n) : Ary Z h a T n (fun _ => defaultValue T.2) := by
  subst e
  refine ⟨Or.inr E, _, A, O, sz_new _ _ _, (back32 q).2, fun i hi => ?_, fun i hi => fits_default T.2⟩
  simp [newA, hi]
def lv (V : List Value) : Nat → Value := fun i => V.getD i .null
end Objs
/-! steps on the heap -/
section Ops
variable {md : Bool} {EL : List (String × Nat)} {p : Program} {l : Launch} {e : Env} {R : Room} {s : State} {m : MethodId} {args : Array Value} {below : List Frame} {meth : Method} {c : Code} {S : State} {G : JFrame} {own : String} {B : ByteArray} {ml : Nat} {mn : String} {rt : Option FieldType} {Z : State} {a0 : Array Value} {n0 : Nat} {h0 : Heap} {vm : Vm} {h h' : Heap} {cells slots pc pc' : Nat} {Ls Ls' : Array Slot} {St St' : List Value} {L : Lay} {vs vs' : List Value} {a : Addr} {C f d : String} {v w : Value} {index : Nat} {ty : FieldType} {A : String × FieldType} {n : Nat} {F F' : Nat → Value}
theorem Wk.getS (k : Wk md EL p l e R s m args below meth c S G own B ml mn rt Z a0 n0 h0 vm h cells slots pc Ls St) (w : FL Z a0 own index C f d) (F : Sta Z Z.heap C f d v) (hd : Dc B pc (.getstatic index) 3 pc') :
    Wk md EL p l e R s m args below meth c S G own B ml mn rt Z a0 n0 h0 vm h cells slots pc' Ls (v :: St) := by
  have O := k.old
  obtain ⟨hd, rfl⟩ := hd
  obtain ⟨R0, host, w, via⟩ := w
  refine k.same fun X hx hb _ hZ hown eT => ?_
  exact getS2 X hx hZ hown w via eT (F.ext O.2) (g := mkF m pc Ls St) rfl (by rw [hb]; exact hd)
theorem Wk.getF (k : Wk md EL p l e R s m args below meth c S G own B ml mn rt Z a0 n0 h0 vm h cells slots pc Ls (.ref a :: St)) (w' : FL Z a0 own index C f d) (O : Obj Z h a L vs) (i : Nat) (hd : Dc B pc (.getfield index) 3 pc') (hi : L.2[i]? = some (C, f, d, w)) (hv : vs[i]? = some v) :
    Wk md EL p l e R s m args below meth c S G own B ml mn rt Z a0 n0 h0 vm h cells slots pc' Ls (v :: St) := by
  obtain ⟨hd, rfl⟩ := hd
  obtain ⟨R0, host, w, via⟩ := w'
  refine k.same fun X hx hb _ hZ hown eT => ?_
  exact Jvm.RoadKit.getF X hx hZ hown w via eT (O.at i hi hv) (g := mkF m pc Ls (.ref a :: St)) rfl rfl (by rw [hb]; exact hd)
theorem Wk.putF (k : Wk md EL p l e R s m args below meth c S G own B ml mn rt Z a0 n0 h0 vm h cells slots pc Ls (v :: .ref a :: St)) (wl : FL Z a0 own index C f d) (W : PW Z a0 own mn L C f d ty) (O : Obj Z h a L vs) (i : Nat) (ha : n0 ≤ a) (hs : md = false ∨ Safe Z EL vm h a) (hd : Dc B pc (.putfield index) 3 pc') (hi : L.2[i]? = some (C, f, d, w))
    (hn : narrow ty v = v) (hf : fits ty v = true) (hv : vs.set i v = vs') :
    ∃ h', Keep h h' [a] ∧ Obj Z h' a L vs' ∧ Wk md EL p l e R s m args below meth c S G own B ml mn rt Z a0 n0 h0 vm h' cells slots pc' Ls St := by
  obtain ⟨hd, rfl⟩ := hd
  obtain ⟨R0, host, wl, via⟩ := wl
  obtain ⟨W1, W2, ⟨kk, W3⟩, W4⟩ := W
  have hi' : i < vs.length := by rw [O.2.1]; exact (List.getElem?_eq_some_iff.mp hi).1
  obtain ⟨h', Wr', k⟩ := k.write (a := a) (sl := Jvm.RoadKit.slotOf Z C f d) (v := v) (pc' := pc + 3) (Ls' := Ls) (St' := St) ha hs fun X hx hb hnm hZ hown eT => by
    exact Jvm.RoadKit.putF X hx hZ hown wl via eT (O.at i hi (List.getElem?_eq_getElem hi')) O.exa (W2.imp id fun q => ⟨q.1, q.2.1, hnm.trans q.2.2⟩) W3 W4 hn hf (g := mkF m pc Ls (v :: .ref a :: St)) rfl rfl (by rw [hb]; exact hd)
  exact ⟨h', Keep.of_wr Wr', hv ▸ O.put W1 i hi Wr', k⟩
theorem Wk.putN {v' : Value} (k : Wk md EL p l e R s m args below meth c S G own B ml mn rt Z a0 n0 h0 vm h cells slots pc Ls (v :: .ref a :: St)) (wl : FP Z a0 own index C f d) (W : PW Z a0 own mn L C f d ty) (O : Obj Z h a L vs) (i : Nat) (ha : n0 ≤ a) (hs : md = false ∨ Safe Z EL vm h a) (hd : Dc B pc (.putfield index) 3 pc') (hi : L.2[i]? = some (C, f, d, w))
    (hn : narrow ty v = v') (hf : fits ty v' = true) (hv : vs.set i v' = vs') :
    ∃ h', Keep h h' [a] ∧ Obj Z h' a L vs' ∧ Wk md EL p l e R s m args below meth c S G own B ml mn rt Z a0 n0 h0 vm h' cells slots pc' Ls St := by
  obtain ⟨hd, rfl⟩ := hd
  obtain ⟨R0, wl, via⟩ := wl
  obtain ⟨W1, W2, ⟨kk, W3⟩, W4⟩ := W
  have hi' : i < vs.length := by rw [O.2.1]; exact (List.getElem?_eq_some_iff.mp hi).1
  obtain ⟨h', Wr', k⟩ := k.write (a := a) (sl := Jvm.RoadKit.slotOf Z C f d) (v := v') (pc' := pc + 3) (Ls' := Ls) (St' := St) ha hs fun X hx hb hnm hZ hown eT => by
    exact Jvm.RoadKit.putFN X hx hZ hown wl via eT (O.at i hi (List.getElem?_eq_getElem hi')) O.exa (W2.imp id fun q => ⟨q.1, q.2.1, hnm.trans q.2.2⟩) W3 W4 hn hf (g := mkF m pc Ls (v :: .ref a :: St)) rfl rfl (by rw [hb]; exact hd)
  exact ⟨h', Keep.of_wr Wr', hv ▸ O.put W1 i hi Wr', k⟩
theorem Wk.new (k : Wk md EL p l e R s m args below meth c S G own B ml mn rt Z a0 n0 h0 vm h cells slots pc Ls St) (wl : (Cond.classLink own index L.1).before a0 Z = true) (W : NW Z a0 L n) (hd : Dc B pc (.new index) 3 pc') (hc : cells + 1 ≤ R.cells ∧ slots + n ≤ R.slots) (hv : (L.2.map fun q => q.2.2.2) = vs) :
    ∃ b h', h.size ≤ b ∧ Keep h h' [] ∧ Obj Z h' b L vs ∧ Wk md EL p l e R s m args below meth c S G own B ml mn rt Z a0 n0 h0 vm h' (cells + 1) (slots + n) pc' Ls (.ref b :: St) := by
  obtain ⟨hd, rfl⟩ := hd
  subst hv
  obtain ⟨h', K, O, k⟩ := k.grow (P := fun h' => Obj Z h' h.size L (L.2.map fun q => q.2.2.2)) (cells' := cells + 1) (slots' := slots + n) (pc' := pc + 3) (Ls' := Ls) (St' := .ref h.size :: St) fun X hx hb hZ hown eT => by
    obtain ⟨T', h', X', eT', E, A, D, -, st⟩ := newO X hx hZ hown wl W.2.1 W.2.2 eT (g := mkF m pc Ls St) rfl (by rw [hb]; exact hd) hc.1 hc.2
    exact ⟨T', h', X', eT', E, Obj.new W.1 A D, st⟩
  exact ⟨h.size, h', Nat.le_refl _, K, O, k⟩
theorem Wk.newP {aty : ArrayType} {z : Int32} (k : Wk md EL p l e R s m args below meth c S G own B ml mn rt Z a0 n0 h0 vm h cells slots pc Ls (.int z :: St)) (A : String) (w : (Cond.arrayClass (newarray.typeOf aty)).before a0 Z = true) (hA : "[" ++ (newarray.typeOf aty).toString = A ∧ refKind (newarray.typeOf aty) = false) (hd : Dc B pc (.newarray aty) 2 pc') (cap : Nat) (hz : ¬ z < 0) (hn : z.toNatClampNeg = n) (hcap : n ≤ cap) (hc : cap * 8 ≤ 536870912 ∧ cells + 1 ≤ R.cells ∧ slots + cap ≤ R.slots) (hF : ∀ j, j < n → defaultValue (newarray.typeOf aty) = F j) :
    ∃ b h', h.size ≤ b ∧ Keep h h' [] ∧ Ary Z h' b (A, newarray.typeOf aty) n F ∧ Wk md EL p l e R s m args below meth c S G own B ml mn rt Z a0 n0 h0 vm h' (cells + 1) (slots + cap) pc' Ls (.ref b :: St) := by
  obtain ⟨hd, rfl⟩ := hd
  subst hn
  obtain ⟨h', K, O, k⟩ := k.grow (P := fun h' => Ary Z h' h.size (A, newarray.typeOf aty) z.toNatClampNeg F) (cells' := cells + 1) (slots' := slots + cap) (pc' := pc + 2) (Ls' := Ls) (St' := .ref h.size :: St) fun X hx hb hZ hown eT => by
    obtain ⟨T', h', cA, X', eT', E, Aa, U, st⟩ := newPE (aty := aty) X hx hZ w eT (g := mkF m pc Ls (.int z :: St)) rfl (by rw [hb]; exact hd) rfl hz hcap hc.1 hc.2.1 hc.2.2 hA.1
    exact ⟨T', h', X', eT', E, (Ary.new (T := (A, newarray.typeOf aty)) Aa (OvT.of_prim hA.2) U hz rfl).norm hF, st⟩
  exact ⟨h.size, h', Nat.le_refl _, K, O, k⟩
theorem Wk.alen {z : Int32} (k : Wk md EL p l e R s m args below meth c S G own B ml mn rt Z a0 n0 h0 vm h cells slots pc Ls (.ref a :: St)) (O : Ary Z h a A n F) (hd : Dc B pc .arraylength 1 pc') (hz : Int32.ofNat n = z) :
    Wk md EL p l e R s m args below meth c S G own B ml mn rt Z a0 n0 h0 vm h cells slots pc' Ls (.int z :: St) := by
  obtain ⟨hd, rfl⟩ := hd
  obtain ⟨-, cl, A1, -, hs, -⟩ := O
  refine k.same fun X hx hb _ hZ hown eT => ⟨_, X, eT, fun t q => ?_⟩
  exact X.arraylength hx (by rw [eT]; exact A1.1) (State.isArrayOf_alike hZ.alike A1.2.1) (g := mkF m pc Ls (.ref a :: St)) rfl rfl (by rw [hb]; exact hd) _ (by rw [hs, show n.toInt32 = z from hz]; exact q)
theorem Wk.bald {j : Int32} {i : Nat} (k : Wk md EL p l e R s m args below meth c S G own B ml mn rt Z a0 n0 h0 vm h cells slots pc Ls (.int j :: .ref a :: St)) (O : Ary Z h a (C, .byte) n F) (hd : Dc B pc .baload 1 pc') (hj : ¬ j < 0 ∧ j.toNatClampNeg = i ∧ i < n) (hv : F i = v) : Wk md EL p l e R s m args below meth c S G own B ml mn rt Z a0 n0 h0 vm h cells slots pc' Ls (v :: St) := by
  obtain ⟨hd, rfl⟩ := hd; subst hv
  obtain ⟨cl, A1, hin, hat, -, -⟩ := O.open hj
  exact k.same fun X hx hb _ hZ hown eT => ⟨_, X, eT, fun t q => X.baloadBytes hx (j := j) (v := F i) (by rw [eT]; exact A1.1) (State.isArrayOf_alike hZ.alike A1.2.1) A1.2.2 hin hat (g := mkF m pc Ls (.int j :: .ref a :: St)) rfl rfl (by rw [hb]; exact hd) _ q⟩
theorem Wk.stB {j x : Int32} {i : Nat} (k : Wk md EL p l e R s m args below meth c S G own B ml mn rt Z a0 n0 h0 vm h cells slots pc Ls (.int x :: .int j :: .ref a :: St)) (O : Ary Z h a (C, .byte) n F) (ha : n0 ≤ a) (hs : md = false ∨ Safe Z EL vm h a) (hd : Dc B pc .bastore 1 pc') (hj : ¬ j < 0 ∧ j.toNatClampNeg = i ∧ i < n) (hv : (.int (nar .byte x)) = v) (hf : fits .byte v = true) (hF : ∀ q, q < n → updv F i v q = F' q) :
    ∃ h', Keep h h' [a] ∧ Ary Z h' a (C, .byte) n F' ∧ Wk md EL p l e R s m args below meth c S G own B ml mn rt Z a0 n0 h0 vm h' cells slots pc' Ls St := by
  obtain ⟨hd, rfl⟩ := hd
  obtain ⟨cl, A1, hin, -, -, -⟩ := O.open hj
  subst hv
  obtain ⟨h', W, k⟩ := k.write (a := a) (sl := j.toNatClampNeg) (v := .int (nar .byte x)) (pc' := pc + 1) (Ls' := Ls) (St' := St) ha hs fun X hx hb _ hZ hown eT => stB X hx hZ eT A1 hin (g := mkF m pc Ls (.int x :: .int j :: .ref a :: St)) rfl rfl (by rw [hb]; exact hd)
  exact ⟨h', Keep.of_wr W, (O.set W hj.2.1 hf).norm hF, k⟩
end Ops
/-! contracts and calls -/
section Calls
variable {md : Bool} {EL : List (String × Nat)} {p : Program} {l : Launch} {e : Env} {R : Room} {s : State} {m : MethodId} {args : Array Value} {below : List Frame} {meth : Method} {c : Code} {S : State} {G : JFrame} {own : String} {B : ByteArray} {ml : Nat} {mn : String} {rt : Option FieldType} {Z : State} {a0 : Array Value} {n0 : Nat} {h0 : Heap} {vm : Vm} {h h' : Heap} {cells slots pc pc' : Nat} {Ls Ls' : Array Slot} {St St' : List Value} {index : Nat} {y z : MethodName} {cd : Cond} {rm : Room} {as' : Array Value} {maxL np ck sk W len : Nat} {ret : Option FieldType} {Q : Option Value → Heap → Prop} {argsL rest : List Value}
def Mt (md : Bool) (EL : List (String × Nat)) (l : Launch) (y : MethodName) (cd : Cond) (rm : Room) (as' : Array Value) (Z : State) (a0 : Array Value) (h0 : Heap) (n0 : Nat) (Q : Option Value → Heap → Prop) : Prop :=
  Old Z n0 h0 → (md = true → EW Z a0 EL) → ∀ ws : List Cond, MetFree l y (head1 (cd :: ws) rm) (fun a U => a = as' ∧ Z.Warmed39 U.vm ∧ U.heap = h0 ∧ (md = true → CHv Z EL U.vm h0)) (fun _ _ _ _ _ => True)
    (fun _ U o U' => ∃ v L, o = .returned v ∧ (Fr n0 L ∧ Q v U'.heap) ∧ ((md = false ∧ FrameEnd U o U' L rm.cells rm.slots) ∨ (md = true ∧ CHr Z EL U.vm U.heap U'.vm U'.heap ∧ ReturnedEndW U o U' L rm.cells rm.slots)))
def Py (l : Launch) (R : Room) (p : Program) (e : Env) (below : List Frame) (s : State) (args : Array Value) (n0 : Nat) (y : MethodName) (len W : Nat) (as' : Array Value) (h : Heap) (ck sk : Nat) (Q : Option Value → Heap → Prop) : Prop :=
  Back l R p e below s args y len W (fun A a => a = as' ∧ A.U.heap = h ∧ A.cells + ck ≤ R.cells ∧ A.slots + sk ≤ R.slots) (fun A _ v B => ∃ L, (Fr n0 L ∧ Q v B.U.heap) ∧ B.locs = A.locs ++ L ∧ B.cells = A.cells + ck ∧ B.slots = A.slots + sk)
def CW (Z : State) (a0 : Array Value) (y : MethodName) (cd : Cond) (maxL : Nat) (ret : Option FieldType) (np : Nat) : Prop :=
  (∃ bytes, cd = .code y bytes maxL ret ∨ ∃ hs, cd = .codeWith y bytes maxL ret hs) ∧ cd.before a0 Z = true ∧ (Cond.initialized y.cls).before a0 Z = true ∧ (y.cls ≠ "java/lang/invoke/MethodHandle" ∧ y.cls ≠ "java/lang/invoke/VarHandle") ∧ ∃ ps r, parseMethodDescriptor y.desc = some ⟨ps, r⟩ ∧ ps.length = np
theorem Mt.free (M : Mt false EL l y cd rm as' Z a0 h n0 Q) (O : Old Z n0 h) :
    MetFree l y (head1 [cd] rm) (fun a U => a = as' ∧ Z.Warmed39 U.vm ∧ U.heap = h) (fun _ _ _ _ _ => True) (fun _ U o U' => ∃ v L, o = .returned v ∧ (Fr n0 L ∧ Q v U'.heap) ∧ FrameEnd U o U' L rm.cells rm.slots) := by
  intro p e ha hc hk s m args below hf happ hP hK
  obtain ⟨n, o, h1, h2, h3, v, L, e1, e2, e3⟩ := M O (fun q => nomatch q) [] p e ha hc hk s m args below hf happ ⟨hP.1, hP.2.1, hP.2.2, fun q => nomatch q⟩ hK
  refine ⟨n, o, h1, h2, h3, v, L, e1, e2, ?_⟩
  rcases e3 with ⟨-, e3⟩ | ⟨q, -⟩
  · exact e3
  · cases q
theorem Mt.pay (M : Mt false EL l y cd rm as' Z a0 h n0 Q) (C : CW Z a0 y cd maxL ret np) (O : Old Z n0 h) (hZ : Z.Warmed39 s.vm) (hf : rm.frames + 1 ≤ R.frames) (hl : W + (maxL + 11) + rm.locals ≤ R.locals) : Py l R p e below s args n0 y len W as' h rm.cells rm.slots Q := by
  obtain ⟨⟨bytes, hc⟩, wc, wz, -, -⟩ := C
  have F := M.free O
  rcases hc with rfl | ⟨hs, rfl⟩
  · exact backOf (Q := fun v h L => Fr n0 L ∧ Q v h) F hZ wc wz hf hl
  · exact backOfWith (Q := fun v h L => Fr n0 L ∧ Q v h) F hZ wc wz hf hl
def Cl (md : Bool) (EL : List (String × Nat)) (p : Program) (l : Launch) (e : Env) (R : Room) (s : State) (m : MethodId) (args : Array Value) (below : List Frame) (meth : Method) (c : Code) (S : State) (G : JFrame) (own : String) (B : ByteArray) (ml : Nat) (mn : String) (rt : Option FieldType) (Z : State) (a0 : Array Value) (n0 : Nat) (h0 : Heap) (vm : Vm) (h : Heap) (cells slots pc : Nat) (Ls : Array Slot) (rest : List Value) (Q : Option Value → Heap → Prop) : Prop :=
  ∀ ws : List Addr, (∀ v h', Q v h' → Keep h h' ws) → (∀ w ∈ ws, n0 ≤ w) → (md = false ∨ ∀ w ∈ ws, Safe Z EL vm h w) → ∃ v h', Q v h' ∧ Wk md EL p l e R s m args below meth c S G own B ml mn rt Z a0 n0 h0 vm h' cells slots pc Ls (v.toList ++ rest)
theorem Wk.called (k : Wk md EL p l e R s m args below meth c S G own B ml mn rt Z a0 n0 h0 vm h cells slots pc Ls St)
    (f : ∀ {s' : State} {T locs}, Stand p l e R s' m args below meth c T locs cells slots → p.tables.exec = Jvm.exec → c.code = B → c.maxLocals = ml → Z.Warmed39 s'.vm → s'.vm.findClass own = some m.cls → T.heap = h →
      ∃ v vm₁ B', s'.WarmedH vm₁ ∧ Stand p l e R s' m args below meth c (Pt.U B') (Pt.locs B') (Pt.cells B') (Pt.slots B') ∧ (∃ L, (Fr n0 L ∧ Q v (Pt.U B').heap) ∧ Pt.locs B' = locs ++ L ∧ Pt.cells B' = cells + ck ∧ Pt.slots B' = slots + sk) ∧ Steps p.tables e below (T.setTop (mkF m pc Ls St)) ((Pt.U B').setTop (mkF m pc' Ls (v.toList ++ rest)))) :
    Cl md EL p l e R s m args below meth c S G own B ml mn rt Z a0 n0 h0 vm h (cells + ck) (slots + sk) pc' Ls rest Q := by
  intro ws hq hn hs
  obtain ⟨q1, q2, q3, q4, q5, q6, T, locs, X, eT, N, g⟩ := k
  obtain ⟨v, vm₁, ⟨T', L', c', n'⟩, -, X', ⟨L, ⟨N', hQ⟩, e1, e2, e3⟩, st⟩ := f X q1.1 q1.2.1 q1.2.2.1 q2 q3 eT
  dsimp only [Pt.U, Pt.locs, Pt.cells, Pt.slots] at X' hQ e1 e2 e3 st
  subst e1 e2 e3
  have K := hq _ _ hQ
  exact ⟨v, T'.heap, hQ, q1, q2, q3, q4.keep K hn, Nat.le_trans q5 K.1, q6.keep K hs, T', _, X', rfl, N.app N', fun t q => g t (st.trans q)⟩
def Pv (h0 : Heap) (w : Value) : Option Value → Heap → Prop := fun v h => v = some w ∧ h = h0
def P0 (h0 : Heap) : Option Value → Heap → Prop := fun v h => v = none ∧ h = h0
def KpV (h0 : Heap) (ws : List Addr) (Q : Value → Heap → Prop) : Option Value → Heap → Prop := fun v h => ∃ w, v = some w ∧ Keep h0 h ws ∧ Q w h
def K0 (h0 : Heap) (ws : List Addr) (Q : Heap → Prop) : Option Value → Heap → Prop := fun v h => v = none ∧ Keep h0 h ws ∧ Q h
theorem Cl.pv {w : Value} (k : Cl md EL p l e R s m args below meth c S G own B ml mn rt Z a0 n0 h0 vm h cells slots pc Ls rest (Pv h w)) : Wk md EL p l e R s m args below meth c S G own B ml mn rt Z a0 n0 h0 vm h cells slots pc Ls (w :: rest) := by
  obtain ⟨v, h', ⟨rfl, rfl⟩, k2⟩ := k [] (fun v h' q => q.2 ▸ Keep.refl _ _) (fun _ q => nomatch q) (Or.inr fun _ q => nomatch q)
  exact k2
theorem Cl.p0 (k : Cl md EL p l e R s m args below meth c S G own B ml mn rt Z a0 n0 h0 vm h cells slots pc Ls rest (P0 h)) : Wk md EL p l e R s m args below meth c S G own B ml mn rt Z a0 n0 h0 vm h cells slots pc Ls rest := by
  obtain ⟨v, h', ⟨rfl, rfl⟩, k2⟩ := k [] (fun v h' q => q.2 ▸ Keep.refl _ _) (fun _ q => nomatch q) (Or.inr fun _ q => nomatch q)
  exact k2
theorem Cl.kv {ws : List Addr} {Q : Value → Heap → Prop} (k : Cl md EL p l e R s m args below meth c S G own B ml mn rt Z a0 n0 h0 vm h cells slots pc Ls rest (KpV h ws Q)) (hn : ∀ w ∈ ws, n0 ≤ w := by exact all0) (hs : md = false ∨ ∀ w ∈ ws, Safe Z EL vm h w := by exact Or.inl rfl) :
    ∃ w h', Keep h h' ws ∧ Q w h' ∧ Wk md EL p l e R s m args below meth c S G own B ml mn rt Z a0 n0 h0 vm h' cells slots pc Ls (w :: rest) := by
  obtain ⟨v, h', ⟨w, rfl, K, q⟩, k⟩ := k ws (fun v h' q => q.choose_spec.2.1) hn hs
  exact ⟨w, h', K, q, k⟩
theorem Cl.k0 {ws : List Addr} {Q : Heap → Prop} (k : Cl md EL p l e R s m args below meth c S G own B ml mn rt Z a0 n0 h0 vm h cells slots pc Ls rest (K0 h ws Q)) (hn : ∀ w ∈ ws, n0 ≤ w := by exact all0) (hs : md = false ∨ ∀ w ∈ ws, Safe Z EL vm h w := by exact Or.inl rfl) :
    ∃ h', Keep h h' ws ∧ Q h' ∧ Wk md EL p l e R s m args below meth c S G own B ml mn rt Z a0 n0 h0 vm h' cells slots pc Ls rest := by
  obtain ⟨v, h', ⟨rfl, K, q⟩, k⟩ := k ws (fun v h' q => q.2.1) hn hs
  exact ⟨h', K, q, k⟩
theorem wsum (m : MethodId) (Ls : Array Slot) (St : List Value) : 2 * (mkF m pc Ls St).monitorRoom + (rest.map fun v => v.category).sum ≤ (rest.map fun v => v.category).sum := by
  show 2 * 0 + _ ≤ _; rw [Nat.mul_zero, Nat.zero_add]; exact Nat.le_refl _
theorem wsW {W : Nat} (m : MethodId) (Ls : Array Slot) (St : List Value) (h : (rest.map fun v => v.category).sum = W) : 2 * (mkF m pc Ls St).monitorRoom + (rest.map fun v => v.category).sum ≤ W := by rw [← h]; exact wsum m Ls St
theorem CW.plen {maxL np : Nat} (C : CW Z a0 y cd maxL ret np) (e : argsL.length = np) : ∀ sig, parseMethodDescriptor y.desc = some sig → argsL.length = sig.parameters.length := fun sig h => by
  obtain ⟨-, -, -, -, ps, r, hpd, hnp⟩ := C
  cases hpd.symm.trans h; exact e.trans hnp.symm
def SC (Z : State) (a0 : Array Value) (y : MethodName) (cd : Cond) (maxL : Nat) (ret : Option FieldType) (np : Nat) : Prop := (Cond.static y).before a0 Z = true ∧ CW Z a0 y cd maxL ret np
def IC (Z : State) (a0 : Array Value) (y : MethodName) (cd : Cond) (maxL : Nat) (np : Nat) : Prop := (Cond.instanceMethod y).before a0 Z = true ∧ y.name = "<init>" ∧ CW Z a0 y cd maxL none np
def VC (Z : State) (a0 : Array Value) (y z : MethodName) (C : String) (cd : Cond) (maxL : Nat) (ret : Option FieldType) (np : Nat) : Prop :=
  (Cond.declares y).before a0 Z = true ∧ (∀ s : State, Z.Warmed39 s.vm → NotFace s y) ∧ (Cond.selects C y z).before a0 Z = true ∧ (Cond.instanceMethod z).before a0 Z = true ∧ (y.cls ≠ "java/lang/invoke/MethodHandle" ∧ y.cls ≠ "java/lang/invoke/VarHandle") ∧ y.desc = z.desc ∧ CW Z a0 z cd maxL ret np
def PC (Z : State) (a0 : Array Value) (y : MethodName) (bytes : ByteArray) (maxL : Nat) (ret : Option FieldType) (np : Nat) : Prop :=
  (Cond.instanceMethod y).before a0 Z = true ∧ (∀ (s : State) (args : Array Value), Z.Warmed39 s.vm → (Cond.selects y.cls y y).before args s = true ∧ s.PrivateAt y) ∧ CW Z a0 y (.code y bytes maxL ret) maxL ret np
theorem Wk.callS (k : Wk md EL p l e R s m args below meth c S G own B ml mn rt Z a0 n0 h0 vm h cells slots pc Ls St) (wl : (Cond.methodLink own index y).before a0 Z = true) (C : SC Z a0 y cd maxL ret argsL.length) (M : Mt false [] l y cd rm argsL.toArray Z a0 h n0 Q)
    (hd : Dc B pc (.invokestatic index) 3 pc') (W : Nat) (hst : St = argsL.reverse ++ rest) (hL : Ls.size = ml := by rfl) (hW : (rest.map fun v => v.category).sum = W := by rfl) (hr : rm.frames + 1 ≤ R.frames ∧ W + (maxL + 11) + rm.locals ≤ R.locals ∧ cells + rm.cells ≤ R.cells ∧ slots + rm.slots ≤ R.slots := by decide) :
    Cl md EL p l e R s m args below meth c S G own B ml mn rt Z a0 n0 h0 vm h (cells + rm.cells) (slots + rm.slots) pc' Ls rest Q := by
  have O := k.old
  obtain ⟨hd, rfl⟩ := hd
  obtain ⟨ws, C⟩ := C
  refine k.called fun {s' T locs} X hx hb hml hZ hown eT => ?_
  have P := M.pay (p := p) (e := e) (below := below) (s := s') (args := args) (R := R) (len := 3) (W := W) C O hZ hr.1 hr.2.1
  have hlen := C.plen (argsL := argsL) rfl
  obtain ⟨⟨bytes, hc⟩, wc, wz, hy, -⟩ := C
  rcases hc with rfl | ⟨hs, rfl⟩
  · obtain ⟨v, vm₁, B', q1, q2, q3, q4⟩ := Jvm.LawKit.callS X hx hown (mvT hZ wl) (mvT hZ ws) (mvT hZ wz) (mvT hZ wc) hy P (g := mkF m pc Ls St) rfl (by rw [hml]; exact hL) (argsL := argsL) (rest := rest) hlen hst (wsW m Ls St hW) (by rw [hb]; exact hd) (fun _ _ => ⟨rfl, eT, hr.2.2.1, hr.2.2.2⟩)
    exact ⟨v, vm₁, B', q1, q2, q3, q4 _ (Steps.refl _)⟩
  · obtain ⟨v, vm₁, B', q1, q2, q3, q4⟩ := callSH X hx hown (mvT hZ wl) (mvT hZ ws) (mvT hZ wz) (mvT hZ wc) hy P (g := mkF m pc Ls St) rfl (by rw [hml]; exact hL) (argsL := argsL) (rest := rest) hlen hst (wsW m Ls St hW) (by rw [hb]; exact hd) (fun _ _ => ⟨rfl, eT, hr.2.2.1, hr.2.2.2⟩)
    exact ⟨v, vm₁, B', q1, q2, q3, q4 _ (Steps.refl _)⟩
theorem Wk.callI {a : Addr} (k : Wk md EL p l e R s m args below meth c S G own B ml mn rt Z a0 n0 h0 vm h cells slots pc Ls St) (wl : (Cond.methodLink own index y).before a0 Z = true) (C : IC Z a0 y cd maxL argsL.length) (M : Mt false [] l y cd rm (.ref a :: argsL).toArray Z a0 h n0 Q)
    (hd : Dc B pc (.invokespecial index) 3 pc') (W : Nat) (hst : St = argsL.reverse ++ .ref a :: rest) (hL : Ls.size = ml := by rfl) (hW : (rest.map fun v => v.category).sum = W := by rfl) (hr : rm.frames + 1 ≤ R.frames ∧ W + (maxL + 11) + rm.locals ≤ R.locals ∧ cells + rm.cells ≤ R.cells ∧ slots + rm.slots ≤ R.slots := by decide) :
    Cl md EL p l e R s m args below meth c S G own B ml mn rt Z a0 n0 h0 vm h (cells + rm.cells) (slots + rm.slots) pc' Ls rest Q := by
  have O := k.old
  obtain ⟨hd, rfl⟩ := hd
  obtain ⟨ws, hy1, C⟩ := C
  refine k.called fun {s' T locs} X hx hb hml hZ hown eT => ?_
  have P := M.pay (p := p) (e := e) (below := below) (s := s') (args := args) (R := R) (len := 3) (W := W) C O hZ hr.1 hr.2.1
  have hlen := C.plen (argsL := argsL) rfl
  obtain ⟨⟨bytes, hc⟩, wc, wz, hy, -⟩ := C
  rcases hc with rfl | ⟨hs, rfl⟩
  · exact X.specialBack hx hy1 hown (mvT hZ wl) (mvT hZ ws) (mvT hZ wc) hy P (g := mkF m pc Ls St) rfl (by rw [hml]; exact hL) (Steps.refl _) (a := a) (argsL := argsL) (rest := rest) hlen hst (wsW m Ls St hW) (by rw [hb]; exact hd) (fun _ _ => ⟨rfl, eT, hr.2.2.1, hr.2.2.2⟩)
  · exact X.specialBackH hx hy1 hown (mvT hZ wl) (mvT hZ ws) (mvT hZ wc) hy P (g := mkF m pc Ls St) rfl (by rw [hml]; exact hL) (Steps.refl _) (a := a) (argsL := argsL) (rest := rest) hlen hst (wsW m Ls St hW) (by rw [hb]; exact hd) (fun _ _ => ⟨rfl, eT, hr.2.2.1, hr.2.2.2⟩)
theorem Wk.callV {a : Addr} {C : String} (k : Wk md EL p l e R s m args below meth c S G own B ml mn rt Z a0 n0 h0 vm h cells slots pc Ls St) (wl : (Cond.methodLink own index y).before a0 Z = true) (V : VC Z a0 y z C cd maxL ret argsL.length) (E : Exa Z h a C) (M : Mt false [] l z cd rm (.ref a :: argsL).toArray Z a0 h n0 Q)
    (hd : Dc B pc (.invokevirtual index) 3 pc') (W : Nat) (hst : St = argsL.reverse ++ .ref a :: rest) (hL : Ls.size = ml := by rfl) (hW : (rest.map fun v => v.category).sum = W := by rfl) (hr : rm.frames + 1 ≤ R.frames ∧ W + (maxL + 11) + rm.locals ≤ R.locals ∧ cells + rm.cells ≤ R.cells ∧ slots + rm.slots ≤ R.slots := by decide) :
    Cl md EL p l e R s m args below meth c S G own B ml mn rt Z a0 n0 h0 vm h (cells + rm.cells) (slots + rm.slots) pc' Ls rest Q := by
  have O := k.old
  obtain ⟨hd, rfl⟩ := hd
  obtain ⟨v1, v2, v3, v4, v5, v6, C⟩ := V
  refine k.called fun {s' T locs} X hx hb hml hZ hown eT => ?_
  have P := M.pay (p := p) (e := e) (below := below) (s := s') (args := args) (R := R) (len := 3) (W := W) C O hZ hr.1 hr.2.1
  obtain ⟨cq, kq, qa, qb, qc⟩ := isOf hZ eT E
  exact X.virtualBack hx hown (mvT hZ wl) (mvT hZ v1) (v2 s' hZ) (mvT hZ v3) (mvT hZ v4) v5 P qa qc (g := mkF m pc Ls St) rfl (by rw [hml]; exact hL) (Steps.refl _) (argsL := argsL) (rest := rest) (fun sig q => C.plen (argsL := argsL) rfl sig (v6 ▸ q)) hst (wsW m Ls St hW) (by rw [hb]; exact hd) (fun _ _ => ⟨rfl, eT, hr.2.2.1, hr.2.2.2⟩)
theorem Wk.callP {a : Addr} {C : String} {bytes : ByteArray} (k : Wk md EL p l e R s m args below meth c S G own B ml mn rt Z a0 n0 h0 vm h cells slots pc Ls St) (wl : (Cond.methodLink own index y).before a0 Z = true) (V : PC Z a0 y bytes maxL ret argsL.length) (E : Exa Z h a C) (M : Mt false [] l y (.code y bytes maxL ret) rm (.ref a :: argsL).toArray Z a0 h n0 Q)
    (hd : Dc B pc (.invokevirtual index) 3 pc') (W : Nat) (hst : St = argsL.reverse ++ .ref a :: rest) (hL : Ls.size = ml := by rfl) (hW : (rest.map fun v => v.category).sum = W := by rfl) (hr : rm.frames + 1 ≤ R.frames ∧ W + (maxL + 11) + rm.locals ≤ R.locals ∧ cells + rm.cells ≤ R.cells ∧ slots + rm.slots ≤ R.slots := by decide) :
    Cl md EL p l e R s m args below meth c S G own B ml mn rt Z a0 n0 h0 vm h (cells + rm.cells) (slots + rm.slots) pc' Ls rest Q := by
  have O := k.old
  obtain ⟨hd, rfl⟩ := hd
  obtain ⟨v1, v2, C⟩ := V
  refine k.called fun {s' T locs} X hx hb hml hZ hown eT => ?_
  have P := M.pay (p := p) (e := e) (below := below) (s := s') (args := args) (R := R) (len := 3) (W := W) C O hZ hr.1 hr.2.1
  obtain ⟨cl, q1, q2⟩ := E.cell
  exact X.privateBack hx hown (mvT hZ wl) (mvT hZ v1) (v2 s' args hZ).1 (v2 s' args hZ).2 (mvT hZ C.2.1) C.2.2.2.1 P (g := mkF m pc Ls St) rfl (by rw [hml]; exact hL) (Steps.refl _) (a := a) (by rw [eT]; exact q1) q2 (argsL := argsL) (rest := rest) (C.plen rfl) hst (wsW m Ls St hW) (by rw [hb]; exact hd) (fun _ _ => ⟨rfl, eT, hr.2.2.1, hr.2.2.2⟩)
theorem Wk.callX {a : Addr} {C : String} {bytes : ByteArray} (k : Wk md EL p l e R s m args below meth c S G own B ml mn rt Z a0 n0 h0 vm h cells slots pc Ls St) (wl : (Cond.methodLink own index y).before a0 Z = true) (w2 : (Cond.sameMethod y.cls y.cls y.name y.desc).before a0 Z = true) (w3 : (Cond.instanceMethod y).before a0 Z = true) (w4 : (Cond.superclass own y.cls).before a0 Z = true) (hn : y.name ≠ "<init>") (V : CW Z a0 y (.code y bytes maxL ret) maxL ret argsL.length) (E : Exa Z h a C) (M : Mt false [] l y (.code y bytes maxL ret) rm (.ref a :: argsL).toArray Z a0 h n0 Q)
    (hd : Dc B pc (.invokespecial index) 3 pc') (W : Nat) (hst : St = argsL.reverse ++ .ref a :: rest) (hL : Ls.size = ml := by rfl) (hW : (rest.map fun v => v.category).sum = W := by rfl) (hr : rm.frames + 1 ≤ R.frames ∧ W + (maxL + 11) + rm.locals ≤ R.locals ∧ cells + rm.cells ≤ R.cells ∧ slots + rm.slots ≤ R.slots := by decide) :
    Cl md EL p l e R s m args below meth c S G own B ml mn rt Z a0 n0 h0 vm h (cells + rm.cells) (slots + rm.slots) pc' Ls rest Q := by
  have O := k.old
  obtain ⟨hd, rfl⟩ := hd
  refine k.called fun {s' T locs} X hx hb hml hZ hown eT => ?_
  have P := M.pay (p := p) (e := e) (below := below) (s := s') (args := args) (R := R) (len := 3) (W := W) V O hZ hr.1 hr.2.1
  exact superBack X hx hZ hown wl w2 w3 w4 hn P eT (Ins.self E) (g := mkF m pc Ls St) rfl (by rw [hml]; exact hL) V.2.1 (argsL := argsL) (rest := rest) (V.plen rfl) hst (wsW m Ls St hW) (by rw [hb]; exact hd) (fun _ _ => ⟨rfl, eT, hr.2.2.1, hr.2.2.2⟩)
end Calls
/-! the start and the end of a walk; the other steps -/
section More
variable {md : Bool} {EL : List (String × Nat)} {p : Program} {l : Launch} {e : Env} {R : Room} {s : State} {m : MethodId} {args : Array Value} {below : List Frame} {meth : Method} {c : Code} {S : State} {G : JFrame} {own : String} {B : ByteArray} {ml : Nat} {mn : String} {rt : Option FieldType} {Z : State} {a0 : Array Value} {n0 : Nat} {h0 : Heap} {vm : Vm} {h h' : Heap} {cells slots pc pc' : Nat} {Ls Ls' : Array Slot} {St St' : List Value} {index : Nat} {Q : Option Value → Heap → Prop} {rest : List Value} {a b : Addr}
theorem nlt {x y : Addr} (q : x < h.size) (r : h.size ≤ y) : x ≠ y := Nat.ne_of_lt (Nat.lt_of_lt_of_le q r)
theorem nlt' {x y : Addr} (q : x < h.size) (r : h.size ≤ y) : y ≠ x := Ne.symm (nlt q r)
theorem Old.nlt {x y : Addr} (O : Old Z n0 h) (q : x < Z.heap.size) (r : n0 ≤ y) : x ≠ y := O.ne q r
def En (md : Bool) (EL : List (String × Nat)) (p : Program) (e : Env) (R : Room) (s : State) (below : List Frame) (S : State) (G : JFrame) (Z : State) (n0 : Nat) (h0 : Heap) (Q : Option Value → Heap → Prop) : Prop :=
  ∃ s₂ o, Steps p.tables e below (S.setTop G) s₂ ∧ s₂.status = .running ∧ Ended s₂ below o ∧ ∃ v L, o = .returned v ∧ (Fr n0 L ∧ Q v s₂.heap) ∧ ((md = false ∧ FrameEnd s o s₂ L R.cells R.slots) ∨ (md = true ∧ CHr Z EL s.vm h0 s₂.vm s₂.heap ∧ ReturnedEndW s o s₂ L R.cells R.slots))
theorem Mt.go {y : MethodName} {bytes : ByteArray} {maxL : Nat} {ret : Option FieldType} {cd : Cond} {rm : Room} {as' : Array Value} (hp : plainFor y = true) (hcd : cd = .code y bytes maxL ret ∨ ∃ hs, cd = .codeWith y bytes maxL ret hs) (hef : ∀ m, entryFrame m as' maxL = mkF m 0 Ls [])
    (W : ∀ {p e s m below meth c s₁ vm}, Wk md EL p l e rm s m as' below meth c s₁ (entryFrame m as' maxL) y.cls bytes maxL y.name ret Z a0 n0 h0 vm h0 0 0 0 Ls [] → En md EL p e rm s below s₁ (entryFrame m as' maxL) Z n0 h0 Q) :
    Mt md EL l y cd rm as' Z a0 h0 n0 Q := by
  intro O hEW ws
  have key : ∀ p e s m args below meth c s₁, BodyLoose p l y (head1 (cd :: ws) rm) bytes maxL ret e s m args below meth c s₁ → c.maxLocals = maxL → (args = as' ∧ Z.Warmed39 s.vm ∧ s.heap = h0 ∧ (md = true → CHv Z EL s.vm h0)) → True →
      ∃ s₂ o, Steps p.tables e below (s₁.setTop (entryFrame m args maxL)) s₂ ∧ s₂.status = .running ∧ Ended s₂ below o ∧ ∃ v L, o = .returned v ∧ (Fr n0 L ∧ Q v s₂.heap) ∧ ((md = false ∧ FrameEnd s o s₂ L rm.cells rm.slots) ∨ (md = true ∧ CHr Z EL s.vm s.heap s₂.vm s₂.heap ∧ ReturnedEndW s o s₂ L rm.cells rm.slots)) := by
    intro p e s m args below meth c s₁ Bd hml hP _
    obtain ⟨rfl, hZ, hh, hC⟩ := hP
    have X : Stand p l e rm s m args below meth c s₁ [] 0 0 := Stand.of_body Bd
    have k : Wk md EL p l e rm s m args below meth c s₁ (entryFrame m args maxL) y.cls bytes maxL y.name ret Z a0 n0 h0 s.vm h0 0 0 0 Ls [] := by
      refine ⟨⟨Bd.exec, Bd.bytes, hml, (name_of_methodNamed Bd.named Bd.method).1, Bd.returns, BodyLoose.notSynchronized Bd⟩, hZ, findClass_of_methodNamed Bd.named, O, Nat.le_refl _, ?_, s₁, [], X, ?_, Fr.nil n0, fun t q => castTop (hef m) q⟩
      · cases md
        · exact Or.inl ⟨rfl, rfl⟩
        · exact Or.inr ⟨rfl, hEW rfl, ⟨h0.size, (State.WarmedH.refl s).since _, Nat.le_refl _⟩, CHr.refl (hC rfl)⟩
      · rw [← hh, Bd.state]; rfl
    obtain ⟨s₂, o, h1, h2, h3, v, L, e1, e2, e3⟩ := W k
    refine ⟨s₂, o, h1, h2, h3, v, L, e1, e2, ?_⟩
    rcases e3 with e3 | e3
    · exact Or.inl e3
    · exact Or.inr ⟨e3.1, by rw [hh]; exact e3.2.1, e3.2.2⟩
  rcases hcd with rfl | ⟨hs, rfl⟩
  · exact MetFree.of_bodySF hp hisR key
  · exact MetFree.of_bodySF hp hisWith key
theorem Wk.fin {v : Option Value} (k : Wk md EL p l e R s m args below meth c S G own B ml mn rt Z a0 n0 h0 vm h cells slots pc Ls St) (hv : rt = none → v = none) (hc : cells ≤ R.cells ∧ slots ≤ R.slots) (hq : Q v h)
    (f : ∀ {s' : State} {T locs} {fs : List Frame}, Stand p l e R s' m args below meth c T locs cells slots → p.tables.exec = Jvm.exec → c.code = B → meth.sig.returnType = rt → (∀ (f : JFrame) (acts : List Action), f.method = m → f.locked = none → f.entered = [] → (doReturn e (T.setTop f) acts v).1 = T.setFrames fs) → Steps p.tables e below (T.setTop (mkF m pc Ls St)) (T.setFrames fs)) :
    En md EL p e R s below S G Z n0 h0 Q := by
  obtain ⟨⟨q1, q1b, q1c, q1d, q1e, q1f⟩, q2, q3, q4, q5, q6, T, locs, X, eT, N, g⟩ := k
  have hv' : meth.sig.returnType = none → v = none := fun z => hv (q1e.symm.trans z)
  rcases q6 with ⟨rfl, rfl⟩ | ⟨rfl, hEW, ⟨k0, hS, hk⟩, hC⟩
  · obtain ⟨fs, hr, hrun, hended, hW, hsame⟩ := X.leave hv' q1f
    exact ⟨_, _, g _ (f X q1 q1b q1e hr), hrun, hended, v, locs, rfl, ⟨N, by show Q v T.heap; rw [eT]; exact hq⟩, Or.inl ⟨rfl, ⟨_, rfl⟩, hW, hsame.mono hc.1 hc.2⟩⟩
  · obtain ⟨fs, hr, hrun, hended, w1, w2, w3, w4⟩ := X.leaveW hS (by rw [eT]; exact hk) hv' q1f
    refine ⟨_, _, g _ (f X q1 q1b q1e hr), hrun, hended, v, locs, rfl, ⟨N, by show Q v T.heap; rw [eT]; exact hq⟩, Or.inr ⟨rfl, ?_, w1, w2, w3, w4.mono hc.1 hc.2⟩⟩
    have A := CHv.at X q2 hEW hC.1
    show CHr Z EL s.vm h0 T.vm T.heap
    rw [eT]; exact hC.trans A
theorem Wk.ret0 (k : Wk md EL p l e R s m args below meth c S G own B ml mn rt Z a0 n0 h0 vm h cells slots pc Ls []) (hd : Dc B pc .return_ 1 pc') (hr : rt = none) (hq : Q none h) (hc : cells ≤ R.cells ∧ slots ≤ R.slots := by decide) : En md EL p e R s below S G Z n0 h0 Q :=
  k.fin (fun _ => rfl) hc hq fun X hx hb hrt hl => X.returnOut hx (hrt.trans hr) (by rw [hb]; exact hd.1) hl
theorem Wk.retI {z : Int32} (k : Wk md EL p l e R s m args below meth c S G own B ml mn rt Z a0 n0 h0 vm h cells slots pc Ls (.int z :: St)) (hd : Dc B pc .ireturn 1 pc') (hr : rt = some .int) (hq : Q (some (.int z)) h) (hc : cells ≤ R.cells ∧ slots ≤ R.slots := by decide) : En md EL p e R s below S G Z n0 h0 Q :=
  k.fin (fun q => by rw [hr] at q; cases q) hc hq fun X hx hb hrt hl => Jvm.RoadKit.retI X hx (hrt.trans hr) (by rw [hb]; exact hd.1) hl
theorem Wk.retN {z z' : Int32} {t : FieldType} (k : Wk md EL p l e R s m args below meth c S G own B ml mn rt Z a0 n0 h0 vm h cells slots pc Ls (.int z :: St)) (hd : Dc B pc .ireturn 1 pc') (hr : rt = some t) (ht : t = .boolean ∨ t = .byte ∨ t = .char ∨ t = .short) (hz : nar t z = z') (hq : Q (some (.int z')) h) (hc : cells ≤ R.cells ∧ slots ≤ R.slots := by decide) : En md EL p e R s below S G Z n0 h0 Q := by
  subst hz
  exact k.fin (fun q => by rw [hr] at q; cases q) hc hq fun X hx hb hrt hl => Jvm.RoadKit.retN X hx (hrt.trans hr) ht (by rw [hb]; exact hd.1) hl
theorem Wk.retJ {z : Int64} (k : Wk md EL p l e R s m args below meth c S G own B ml mn rt Z a0 n0 h0 vm h cells slots pc Ls (.long z :: St)) (hd : Dc B pc .lreturn 1 pc') (hr : rt = some .long) (hq : Q (some (.long z)) h) (hc : cells ≤ R.cells ∧ slots ≤ R.slots := by decide) : En md EL p e R s below S G Z n0 h0 Q :=
  k.fin (fun q => by rw [hr] at q; cases q) hc hq fun X hx hb hrt hl => Jvm.RoadKit.retOut X hx (hrt.trans hr) rfl (Or.inr (Or.inl ⟨rfl, rfl, _, rfl⟩)) (by rw [hb]; exact hd.1) hl
theorem Wk.retA {v : Value} {t : FieldType} (k : Wk md EL p l e R s m args below meth c S G own B ml mn rt Z a0 n0 h0 vm h cells slots pc Ls (v :: St)) (hd : Dc B pc .areturn 1 pc') (hr : rt = some t) (hq : Q (some v) h) (ht : t.isReference = true := by rfl) (hv : v.isRef = true := by rfl) (hn : narrow t v = v := by rfl) (hc : cells ≤ R.cells ∧ slots ≤ R.slots := by decide) : En md EL p e R s below S G Z n0 h0 Q :=
  k.fin (fun q => by rw [hr] at q; cases q) hc hq fun X hx hb hrt hl => Jvm.RoadKit.retOut X hx (hrt.trans hr) hn (Or.inr (Or.inr (Or.inr (Or.inr ⟨rfl, ht, hv⟩)))) (by rw [hb]; exact hd.1) hl
theorem selPriv {y : MethodName} {C : String} {s : State} {args a' : Array Value} (hy : y.cls ≠ "java/lang/invoke/MethodHandle" ∧ y.cls ≠ "java/lang/invoke/VarHandle") (hs : (Cond.selects C y y).before a' s = true) (hp : (Cond.privateMethod y).before a' s = true) (hi : (Cond.instanceMethod y).before a' s = true) : (Cond.selects y.cls y y).before args s = true := by
  obtain ⟨c2, r2, m2, -, q2, q3, -, kP, hkP, hkPi⟩ := Cond.selects_spec hs
  obtain ⟨mk, methM, hnamed, hmethM, -, -⟩ := Cond.instanceMethod_spec hi
  have hfound : s.methodFound? y.cls y.name y.desc = some mk := State.methodFound?_of_named hnamed hy
  have hc := findClass_of_methodNamed hnamed
  obtain rfl : m2 = mk := Option.some.inj (q3.symm.trans hnamed)
  have hsel : selectMethod {} s.vm m2.cls m2 = .method m2 := selectMethod_private hmethM (Cond.privateMethod_at hp m2 methM hnamed hmethM)
  simp only [Cond.before, Cond.holds, Cond.value, hc, hfound, hnamed, hsel, hkP]
  simp; exact hkPi
theorem sameOf {y y' : MethodName} {C : String} {s : State} {args a' : Array Value} (hy : y.cls ≠ "java/lang/invoke/MethodHandle" ∧ y.cls ≠ "java/lang/invoke/VarHandle") (hcl : y'.cls = y.cls) (hd : (Cond.declares y).before a' s = true) (hs : (Cond.selects C y' y').before a' s = true) : (Cond.sameMethod y.cls y.cls y.name y.desc).before args s = true := by
  obtain ⟨r0, r, hn, hrm, hstR, hsigR⟩ := Cond.declares_spec hd
  obtain ⟨c2, r2, m2, -, -, q3, -, kP, hkP, hkPi⟩ := Cond.selects_spec hs
  have hfound : s.methodFound? y.cls y.name y.desc = some r0 := State.methodFound?_of_named hn hy
  have hc := findClass_of_methodNamed hn
  have hc2 := findClass_of_methodNamed q3
  rw [hcl] at hc2
  have e : r0.cls = m2.cls := Option.some.inj (hc.symm.trans hc2)
  rw [← e] at hkP
  have hn' : s.methodNamed? ⟨y.cls, y.name, y.desc⟩ = some r0 := hn
  simp only [Cond.before, Cond.holds, Cond.value, hc, hfound, hn', hkP]
  simp; exact hkPi
theorem nfOf {y y' : MethodName} {C : String} {s : State} {a' : Array Value} (hcl : y'.cls = y.cls) (hs : (Cond.selects C y' y').before a' s = true) : NotFace s y := fun r0 h0 => by
  obtain ⟨c2, r2, m2, -, -, q3, -, kP, hkP, hkPi⟩ := Cond.selects_spec hs
  have hc2 := findClass_of_methodNamed q3
  rw [hcl] at hc2
  have e : r0.cls = m2.cls := Option.some.inj ((findClass_of_methodNamed h0).symm.trans hc2)
  exact ⟨kP, by rw [e]; exact hkP, hkPi⟩
/-! single steps -/
theorem Wk.initO (k : Wk md EL p l e R s m args below meth c S G own B ml mn rt Z a0 n0 h0 vm h cells slots pc Ls (.ref a :: St)) (w1 : (Cond.methodLink own index Lib.objectInit).before a0 Z = true) (w2 : (Cond.instanceMethod Lib.objectInit).before a0 Z = true) (w3 : (Cond.code Lib.objectInit ⟨#[0xb1]⟩ 1 none).before a0 Z = true) (hd : Dc B pc (.invokespecial index) 3 pc') (W : Nat) (hL : Ls.size = ml := by rfl) (hW : (St.map fun v => v.category).sum = W := by rfl) (hr : 1 ≤ R.frames ∧ W + 12 ≤ R.locals := by decide) :
    Wk md EL p l e R s m args below meth c S G own B ml mn rt Z a0 n0 h0 vm h cells slots pc' Ls St := by
  obtain ⟨hd, rfl⟩ := hd
  exact k.same fun X hx hb hml hZ hown eT => Jvm.RoadKit.initO X hx hZ hown w1 w2 w3 eT (g := mkF m pc Ls (.ref a :: St)) rfl (by rw [hml]; exact hL) rfl (by rw [hb]; exact hd) hr.1 (wsW m Ls (.ref a :: St) hW) hr.2
theorem Wk.castY {K : String} (k : Wk md EL p l e R s m args below meth c S G own B ml mn rt Z a0 n0 h0 vm h cells slots pc Ls (.ref a :: St)) (w : (Cond.classLink own index K).before a0 Z = true) (F : Ins Z h a K true) (hd : Dc B pc (.checkcast index) 3 pc') :
    Wk md EL p l e R s m args below meth c S G own B ml mn rt Z a0 n0 h0 vm h cells slots pc' Ls (.ref a :: St) := by
  obtain ⟨hd, rfl⟩ := hd
  exact k.same fun X hx hb hml hZ hown eT => Jvm.RoadKit.castY X hx hZ hown w eT F (g := mkF m pc Ls (.ref a :: St)) rfl rfl (by rw [hb]; exact hd)
theorem Wk.instY {K : String} (k : Wk md EL p l e R s m args below meth c S G own B ml mn rt Z a0 n0 h0 vm h cells slots pc Ls (.ref a :: St)) (w : (Cond.classLink own index K).before a0 Z = true) (F : Ins Z h a K true) (hd : Dc B pc (.instanceof index) 3 pc') :
    Wk md EL p l e R s m args below meth c S G own B ml mn rt Z a0 n0 h0 vm h cells slots pc' Ls (.int 1 :: St) := by
  obtain ⟨hd, rfl⟩ := hd
  exact k.same fun X hx hb hml hZ hown eT => Jvm.RoadKit.instY X hx hZ hown w eT F (g := mkF m pc Ls (.ref a :: St)) rfl rfl (by rw [hb]; exact hd)
theorem Wk.ldcI {v : Int32} (k : Wk md EL p l e R s m args below meth c S G own B ml mn rt Z a0 n0 h0 vm h cells slots pc Ls St) (w : (Cond.constant own index v).before a0 Z = true) (hd : Dc B pc (.ldc index) 2 pc') :
    Wk md EL p l e R s m args below meth c S G own B ml mn rt Z a0 n0 h0 vm h cells slots pc' Ls (.int v :: St) := by
  obtain ⟨hd, rfl⟩ := hd
  exact k.same fun X hx hb hml hZ hown eT => ⟨_, X, eT, fun t q => X.ldcInt hx hown (mvT hZ w) (g := mkF m pc Ls St) rfl (by rw [hb]; exact hd) _ q⟩
theorem Wk.ldcJ {v : Int64} (k : Wk md EL p l e R s m args below meth c S G own B ml mn rt Z a0 n0 h0 vm h cells slots pc Ls St) (w : (Cond.constantLong own index v).before a0 Z = true) (hd : Dc B pc (.ldc2_w index) 3 pc') :
    Wk md EL p l e R s m args below meth c S G own B ml mn rt Z a0 n0 h0 vm h cells slots pc' Ls (.long v :: St) := by
  obtain ⟨hd, rfl⟩ := hd
  exact k.same fun X hx hb hml hZ hown eT => ⟨_, X, eT, fun t q => X.ldc2Long hx hown (mvT hZ w) (g := mkF m pc Ls St) rfl (by rw [hb]; exact hd) _ q⟩
def okS : Slot → Bool
  | .second => false
  | .val v => v.category == 1
  | .unset => true
theorem stoA {A : List Slot} {x : Slot} {t : List Slot} {v : Value} (hx : okS x = true) (hv : v.category = 1) : storeLocals (A ++ x :: t).toArray A.length v = some (A ++ .val v :: t).toArray := by
  have q : (A ++ x :: t).toArray[A.length]? = some x := by simp
  rw [storeLocals_cat1 (x := x) q hv]
  · simp
  · cases x <;> simp_all [okS]
/-! copies of arrays -/
theorem ofNat_clamp {n : Nat} (h : n < 2147483648) : (Int32.ofNat n).toNatClampNeg = n ∧ ¬ (Int32.ofNat n) < 0 := by
  have e : (Int32.ofNat n).toInt = n := Int32.toInt_ofNat_small h
  refine ⟨by rw [clampNat, e]; rfl, fun q => ?_⟩
  rw [Int32.lt_iff_toInt_lt, e] at q
  have : (0 : Int32).toInt = 0 := rfl
  omega
theorem Ary.arv {T : String × FieldType} {n : Nat} {f : Nat → Value} (A : Ary Z h a T n f) (dv : Value) : ∃ k, OvT Z T.2 k ∧ n < 2147483648 ∧ Arv Z h a k T.2 (Int32.ofNat n) ((List.range n).map f) dv := by
  obtain ⟨-, c, A1, hk, hs, hn, hf, hfit⟩ := A
  have g : ∀ i, i < n → ((List.range n).map f).getD i dv = f i := fun i hi => by simp [List.getD_eq_getElem?_getD, hi]
  refine ⟨c.cls, hk, hn, c, A1, rfl, by rw [hs, (ofNat_clamp hn).1], (ofNat_clamp hn).2, fun i hi => ?_, fun i hi => ?_⟩
  · rw [hs] at hi; rw [g i hi]; exact hf i hi
  · rw [hs] at hi; rw [g i hi]; exact hfit i hi
theorem Ary.of_arv {T : String × FieldType} {n : Nat} {f : Nat → Value} {k : ClassId} {z : Int32} {vs : List Value} {dv : Value} (F : Arv Z h a k T.2 z vs dv) (O : OvT Z T.2 k) (E : T.1 = "" ∨ Exa Z h a T.1) (hz : z.toNatClampNeg = n) (g : ∀ i, i < n → vs.getD i dv = f i) : Ary Z h a T n f := by
  obtain ⟨c, A1, hk, hs, hn, H, G⟩ := F
  have hs' : c.slots.size = n := hs.trans hz
  subst hk
  refine ⟨E, c, A1, O, hs', by rw [← hz]; exact (back32 hn).2, fun i hi => ?_, fun i hi => ?_⟩
  · rw [← g i hi]; exact H i (by rw [hs']; exact hi)
  · rw [← g i hi]; exact G i (by rw [hs']; exact hi)
def cpyv (f g : Nat → Value) (sp dp nn : Nat) : Nat → Value := fun i => if dp ≤ i ∧ i < dp + nn then f (i - dp + sp) else g i
theorem cpy_list {f g : Nat → Value} {sp dp nn n : Nat} (h : dp + nn ≤ n) (dv : Value) (us : List Value) (hus : us.length = nn) (hu : ∀ i, i < nn → us.getD i dv = f (i + sp)) : ∀ i, i < n → (((List.range n).map g).take dp ++ us ++ ((List.range n).map g).drop (dp + nn)).getD i dv = cpyv f g sp dp nn i := fun i hi => by
  have l1 : (((List.range n).map g).take dp).length = dp := by simp; omega
  rw [List.getD_eq_getElem?_getD]
  by_cases c1 : i < dp
  · rw [List.append_assoc, List.getElem?_append_left (by rw [l1]; exact c1)]
    simp [cpyv, List.getElem?_take, c1, hi, Nat.not_le.mpr c1]
  · by_cases c2 : i < dp + nn
    · rw [List.getElem?_append_left (by rw [List.length_append, l1, hus]; exact c2), List.getElem?_append_right (by rw [l1]; omega), l1]
      have := hu (i - dp) (by omega)
      rw [List.getD_eq_getElem?_getD] at this
      rw [this]
      simp [cpyv, Nat.not_lt.mp c1, c2]
    · rw [List.getElem?_append_right (by rw [List.length_append, l1, hus]; omega), List.length_append, l1, hus, List.getElem?_drop]
      have e : dp + nn + (i - (dp + nn)) = i := by omega
      rw [e]
      simp [cpyv, hi, c2]
theorem Wk.acopy {T T' : String × FieldType} {n n' : Nat} {f g F : Nat → Value} {sp dp nn : Int32} {sp' dp' nn' : Nat} (k : Wk md EL p l e R s m args below meth c S G own B ml mn rt Z a0 n0 h0 vm h cells slots pc Ls (.int nn :: .int dp :: .ref b :: .int sp :: .ref a :: St))
    (w1 : (Cond.methodLink own index Jvm.Stand.acN).before a0 Z = true) (w2 : (Cond.native Jvm.Stand.acN).before a0 Z = true) (w3 : (Cond.static Jvm.Stand.acN).before a0 Z = true) (w4 : (Cond.initialized "java/lang/System").before a0 Z = true)
    (A : Ary Z h a T n f) (A' : Ary Z h b T' n' g) (hty : T.2 = T'.2 ∧ refKind T.2 = false) (h1 : ¬ sp < 0 ∧ sp.toNatClampNeg = sp') (h2 : ¬ dp < 0 ∧ dp.toNatClampNeg = dp') (h3 : ¬ nn < 0 ∧ nn.toNatClampNeg = nn') (h4 : sp' + nn' ≤ n) (h5 : dp' + nn' ≤ n') (hF : ∀ j, j < n' → cpyv f g sp' dp' nn' j = F j) (ge : n0 ≤ b) (hd : Dc B pc (.invokestatic index) 3 pc')
    (W : Nat) (hs : md = false ∨ Safe Z EL vm h b := by exact Or.inl rfl) (hL : Ls.size = ml := by rfl) (hW : (St.map fun v => v.category).sum = W := by rfl) (hr : 1 ≤ R.frames ∧ W + (nativeFrameWords "java/lang/System" "arraycopy" 5 + 11) ≤ R.locals := by decide) :
    ∃ h', Keep h h' [b] ∧ Ary Z h' b T' n' F ∧ Wk md EL p l e R s m args below meth c S G own B ml mn rt Z a0 n0 h0 vm h' cells slots pc' Ls St := by
  obtain ⟨hd, rfl⟩ := hd
  obtain ⟨h1, rfl⟩ := h1
  obtain ⟨h2, rfl⟩ := h2
  obtain ⟨h3, rfl⟩ := h3
  obtain ⟨q1, q2, q3, q4, q5, q6, T0, locs, X, eT, N, gg⟩ := k
  obtain ⟨ka, -, hA, VA⟩ := A.arv .null
  obtain ⟨kb, hO, hB, VB⟩ := A'.arv .null
  obtain ⟨T1, h', L, X', eT', N', K, V, st⟩ := cpA X q1.1 q2 q3 w1 w2 w3 w4 eT VA VB (us := (List.range nn.toNatClampNeg).map fun i => f (i + sp.toNatClampNeg)) (Or.inl hty) h1 h2 h3 (by rw [(ofNat_clamp hA).1]; exact h4) (by rw [(ofNat_clamp hB).1]; exact h5)
    (by
      refine List.map_congr_left fun i hi => ?_
      have hi' := List.mem_range.mp hi
      have hlt : i + sp.toNatClampNeg < n := by omega
      rw [Nat.add_comm sp.toNatClampNeg i]
      simp [List.getD_eq_getElem?_getD, hlt]) (by simpa using h5) N ge (g := mkF m pc Ls (.int nn :: .int dp :: .ref b :: .int sp :: .ref a :: St)) rfl (by rw [q1.2.2.1]; exact hL) rfl (by rw [q1.2.1]; exact hd) hr.1 (wsW m Ls _ hW) hr.2
  refine ⟨h', K, ?_, q1, q2, q3, q4.keep K (allS ge all0), Nat.le_trans q5 K.1, q6.keep K (hs.imp id fun z => allS z all0), T1, L, X', eT', N', fun t q => gg t (st t q)⟩
  exact (Ary.of_arv V hO (A'.1.imp id (·.keep K)) (ofNat_clamp hB).1 (cpy_list h5 .null _ (by simp) (fun i hi => by simp [List.getD_eq_getElem?_getD, hi]))).norm hF
end More
/-! walks that load String constants -/
section LitW
variable {EL : List (String × Nat)} {p : Program} {l : Launch} {e : Env} {R : Room} {s : State} {m : MethodId} {args : Array Value} {below : List Frame} {meth : Method} {c : Code} {S : State} {G : JFrame} {own : String} {B : ByteArray} {ml : Nat} {mn : String} {rt : Option FieldType} {Z : State} {a0 : Array Value} {n0 : Nat} {h0 : Heap} {vm : Vm} {h h' : Heap} {cells slots pc pc' : Nat} {Ls Ls' : Array Slot} {St St' : List Value} {index : Nat} {y z : MethodName} {cd : Cond} {rm : Room} {as' : Array Value} {maxL np W len : Nat} {ret : Option FieldType} {Q : Option Value → Heap → Prop} {argsL rest : List Value}
abbrev litL : Lay := ("java/lang/String", [("java/lang/String", "value", "[B", .null), ("java/lang/String", "coder", "B", .int 0)])
theorem Wk.ldcS {text : String} {vs : List Value} {n : Nat} (k : Wk true EL p l e R s m args below meth c S G own B ml mn rt Z a0 n0 h0 vm h cells slots pc Ls St) (w : (Cond.stringLink own index text).before a0 Z = true) (wS : ∀ a ∈ Bundle.stringAtoms, a.before a0 Z = true) (hmem : (own, index) ∈ EL)
    (ht : (∀ c ∈ text.toList, c.toNat < 256) ∧ text.toList.map (fun c => Value.int (Jvm.Lit.byteI c.toNat.toUInt16)) = vs) (hl : vs.length = n) (hd : Dc B pc (.ldc index) 2 pc') (hc : 4 * n ≤ 536870912 ∧ cells + 2 ≤ R.cells ∧ slots + (4 * n + 4) ≤ R.slots := by decide) :
    ∃ a b vm' h', Keep h h' [] ∧ CHr Z EL vm h vm' h' ∧ Obj Z h' a litL [.ref b, .int 0] ∧ Ary Z h' b ("", .byte) n (lv vs) ∧ (∀ x, Safe Z EL vm' h' x → x ≠ a ∧ x ≠ b) ∧ Wk true EL p l e R s m args below meth c S G own B ml mn rt Z a0 n0 h0 vm' h' (cells + 2) (slots + (4 * n + 4)) pc' Ls (.ref a :: St) := by
  obtain ⟨hd, rfl⟩ := hd
  obtain ⟨q1, q2, q3, q4, q5, q6, T, locs, X, eT, N, g⟩ := k
  rcases q6 with ⟨q, -⟩ | ⟨-, hEW, ⟨k0, hS, hk⟩, hC⟩
  · cases q
  have hlt : text.toList.length = n := by rw [← hl, ← ht.2, List.length_map]
  have hn : n < 2147483648 := by omega
  obtain ⟨a, T', h', k1, b, kc, X', eT', E, hS', hk', hW, ho, F1, F2, F3, F4, -, -, hR, -, hne, st⟩ := ldcCH X q1.1 q2 q3 w wS eT hS hk hEW hmem hC.1 (z := Int32.ofNat n) ht (ofNat_clamp hn).2 (by rw [(ofNat_clamp hn).1, hl]) (g := mkF m pc Ls St) rfl (by rw [q1.2.1]; exact hd) (n := 4 * n) (by rw [hlt]; exact Nat.le_refl _) hc.1 hc.2.1 hc.2.2
  have K : Keep h h' [] := (Keep.refl h []).ext E
  refine ⟨a, b, T'.vm, h', K, hR, ⟨F1, rfl, ?_⟩, ?_, hne, q1, hW, ho, q4.ext E, Nat.le_trans q5 E.1, Or.inr ⟨rfl, hEW, ⟨k1, hS', hk'⟩, hC.trans hR⟩, T', locs, X', eT', N, fun t q => g t (st t q)⟩
  · intro i q v hi hv
    match i, hi, hv with
    | 0, hi, hv => cases hi; cases hv; exact F3
    | 1, hi, hv => cases hi; cases hv; exact F2
  · refine Ary.of_arv (T := ("", .byte)) F4 (OvT.of_prim rfl) (Or.inl rfl) (ofNat_clamp hn).1 fun i hi => ?_
    rw [← hl] at hi
    simp [lv, List.getD_eq_getElem?_getD, hi]
theorem backS_of_with {Pre : Pt → Array Value → Prop} {Post : Pt → Array Value → Option Value → Pt → Prop} {S : Spec} {P : Array Value → State → Prop}
    {K : Program → Env → List Frame → State → Array Value → Prop} {Q : Array Value → State → Outcome → State → Prop} {bytes : ByteArray} {hs : List (Nat × Nat × Nat × Nat)} {E : Array Value → State → Outcome → State → List Loc → Nat → Nat → Prop}
    (hM : MetFree l y S P K Q) (hframes : S.room.frames + 1 ≤ R.frames) (hlocals : W + (maxL + 11) + S.room.locals ≤ R.locals)
    (hpre : ∀ m meth c (A : Pt) a, Stand p l e R s m args below meth c A.U A.locs A.cells A.slots → Pre A a → S.pre.before a A.U = true ∧ (Cond.codeWith y bytes maxL ret hs).before a A.U = true ∧ (Cond.initialized y.cls).before a A.U = true ∧ A.cells + S.room.cells ≤ R.cells ∧ A.slots + S.room.slots ≤ R.slots)
    (hP : ∀ m meth c (A : Pt) a (g : JFrame) mk, Stand p l e R s m args below meth c A.U A.locs A.cells A.slots → Pre A a → P a (A.U.calling g mk a))
    (hK : ∀ m meth c (A : Pt) a (g : JFrame) mk, Stand p l e R s m args below meth c A.U A.locs A.cells A.slots → Pre A a → K p e (A.U.setTop g).frames (A.U.calling g mk a) a)
    (hQ : ∀ a first o t, Q a first o t → ∃ L k n, ReturnedEndW first o t L k n ∧ E a first o t L k n)
    (hpost : ∀ m meth c (A : Pt) a (g : JFrame) mk v t L k n, Stand p l e R s m args below meth c A.U A.locs A.cells A.slots → Pre A a → Q a (A.U.calling g mk a) (.returned v) t → ReturnedEndW (A.U.calling g mk a) (.returned v) t L k n → E a (A.U.calling g mk a) (.returned v) t L k n →
      Post A a v ⟨(({ A.U with heap := t.heap, slotsUsed := t.slotsUsed } : State).setVm t.vm), A.locs ++ L, A.cells + k, A.slots + n⟩) :
    BackS l R p e below s args y len W Pre Post := by
  intro m meth c A g ig mk a X hg hsize hdg hW hn hp
  obtain ⟨h1, h2, h3, h4, h5⟩ := hpre m meth c A a X hp
  obtain ⟨U, Ls, c0, s0⟩ := A
  dsimp only [Pt.U, Pt.locs, Pt.cells, Pt.slots] at h1 h2 h3 h4 h5 X hn ⊢
  obtain ⟨mk', methY, cY, hn', hmY, hcY, -, hlY, -, -, -, -⟩ := Cond.codeWith_spec h2
  cases hn.symm.trans hn'
  obtain ⟨kY, hkY, -⟩ := className_of_methodNamed hn
  have hinitY : kY.init = .initialized := Cond.initialized_spec (findClass_of_methodNamed hn) hkY h3
  have h : At U g.method c below := by rw [hg]; exact X.here
  have happ : S.appliesLoose y e.platform (U.calling g mk a) = true :=
    Spec.appliesLoose_calling (g := g) h hdg hn hkY hinitY (X.room_calling (g := g) (R' := S.room) hsize hmY hcY hframes (by rw [hlY]; omega) h4 h5) h1
  obtain ⟨mid, hmid⟩ := h.above
  have hfr : (U.setTop g).frames = (.java g :: mid) ++ below := by rw [State.frames_setTop' g h.top, hmid]; rfl
  obtain ⟨o, s₂, hsteps, -, hend, hq⟩ := Steps.callFree hM p X.admits X.cas X.clock (acts := []) hfr happ (hP m meth c ⟨U, Ls, c0, s0⟩ a g mk X hp) (hK m meth c ⟨U, Ls, c0, s0⟩ a g mk X hp)
  have hq' : Q a (U.calling g mk a) o s₂ := hq
  rw [State.frames_setTop' g h.top] at hend
  obtain ⟨L, k, n, hfe, hE⟩ := hQ _ _ _ _ hq'
  obtain ⟨⟨v, rfl⟩, hW₂, hB₂, e2, q2, q3, q4, q5, q6⟩ := id hfe
  have e3 : s₂ = ({ (U.calling g mk a).setFrames s₂.frames with heap := s₂.heap, slotsUsed := s₂.slotsUsed } : State).setVm s₂.vm := by
    have : s₂ = ({ s₂ with vm := (U.calling g mk a).vm } : State).setVm s₂.vm := rfl
    rw [e2] at this
    exact this
  obtain ⟨c₂, i₂, len₂, hc₂, hd₂, hf₂⟩ := hend
  have hW' : U.Warmed39 s₂.vm := hW₂
  have hcc : c₂ = c := by
    have h1 : s₂.code? g.method = U.code? g.method := by rw [State.code?_eq, State.code?_eq, hW'.alike.method?]
    exact Option.some.inj (hc₂.symm.trans (h1.trans h.code))
  subst hcc
  have hlen : len₂ = len := by rw [hdg] at hd₂; cases hd₂; rfl
  subst hlen
  obtain ⟨g₀, hg0⟩ := Option.isSome_iff_exists.mp h.top
  obtain ⟨r, hr⟩ := State.topJava?_eq_some.mp hg0
  have hs₂ : s₂ = (({ U with heap := s₂.heap, slotsUsed := s₂.slotsUsed } : State).setVm s₂.vm).setTop { g with pc := g.pc + len₂, stack := v.toList ++ g.stack } := by
    have hr' : (({ U with heap := s₂.heap, slotsUsed := s₂.slotsUsed } : State).setVm s₂.vm).frames = .java g₀ :: r := hr
    refine e3.trans ?_
    rw [hf₂, State.calling_eq h.top, State.setFrames_setFrames, State.setTop_of_frames _ hr', hr]
    rfl
  have hsame : U.sameButNew ({ U with heap := s₂.heap, slotsUsed := s₂.slotsUsed } : State) L k n := by
    refine ⟨?_, q2, q3, q4, q5, q6⟩
    obtain ⟨t, ht, -⟩ := State.frames_cons hr
    show ({ U with heap := s₂.heap, slotsUsed := s₂.slotsUsed } : State) = { U.setFrames U.frames with heap := s₂.heap, slotsUsed := s₂.slotsUsed }
    rw [State.setFrames_self ht]
  subst hg
  obtain ⟨X', hS⟩ := X.movedW (T₂ := (({ U with heap := s₂.heap, slotsUsed := s₂.slotsUsed } : State).setVm s₂.vm)) ((X.here.setHeapUsed s₂.heap s₂.slotsUsed).setVm hW'.alike) X.tail rfl rfl hW' hB₂ hsame
  refine ⟨v, ⟨(({ U with heap := s₂.heap, slotsUsed := s₂.slotsUsed } : State).setVm s₂.vm), Ls ++ L, c0 + k, s0 + n⟩, X', hS, hsame.2.1, hpost _ meth _ ⟨U, Ls, c0, s0⟩ a g mk v s₂ L k n X hp hq' hfe hE, ?_⟩
  show Steps p.tables e below _ ((({ U with heap := s₂.heap, slotsUsed := s₂.slotsUsed } : State).setVm s₂.vm).setTop { g with pc := g.pc + len₂, stack := v.toList ++ g.stack })
  rw [← hs₂]
  exact hsteps
theorem Mt.freeW (M : Mt true EL l y cd rm as' Z a0 h n0 Q) (O : Old Z n0 h) (hEW : EW Z a0 EL) :
    MetFree l y (head1 [cd] rm) (fun a U => a = as' ∧ Z.Warmed39 U.vm ∧ U.heap = h ∧ CHv Z EL U.vm h) (fun _ _ _ _ _ => True) (fun _ U o U' => ∃ v L, o = .returned v ∧ (Fr n0 L ∧ Q v U'.heap) ∧ CHr Z EL U.vm U.heap U'.vm U'.heap ∧ ReturnedEndW U o U' L rm.cells rm.slots) := by
  intro p e ha hc hk s m args below hf happ hP hK
  obtain ⟨n, o, h1, h2, h3, v, L, e1, e2, e3⟩ := M O (fun _ => hEW) [] p e ha hc hk s m args below hf happ ⟨hP.1, hP.2.1, hP.2.2.1, fun _ => hP.2.2.2⟩ hK
  refine ⟨n, o, h1, h2, h3, v, L, e1, e2, ?_⟩
  rcases e3 with ⟨q, -⟩ | ⟨-, e3⟩
  · cases q
  · exact e3
theorem Mt.payW (M : Mt true EL l y cd rm as' Z a0 h n0 Q) (C : CW Z a0 y cd maxL ret np) (O : Old Z n0 h) (hZ : Z.Warmed39 vm) (hf : rm.frames + 1 ≤ R.frames) (hl : W + (maxL + 11) + rm.locals ≤ R.locals) (hEW : EW Z a0 EL) (H : CHv Z EL vm h) :
    BackS l R p e below (s.setVm vm) args y len W (fun A a => a = as' ∧ A.U.heap = h ∧ A.cells + rm.cells ≤ R.cells ∧ A.slots + rm.slots ≤ R.slots)
      (fun A _ v B => ∃ L, (Fr n0 L ∧ Q v B.U.heap) ∧ B.locs = A.locs ++ L ∧ B.cells = A.cells + rm.cells ∧ B.slots = A.slots + rm.slots ∧ CHr Z EL vm h B.U.vm B.U.heap) := by
  obtain ⟨⟨bytes, hc⟩, wc, wz, -, -⟩ := C
  have F := M.freeW O hEW
  rcases hc with rfl | ⟨hs, rfl⟩
  · exact backOfSH (Q := fun v h L => Fr n0 L ∧ Q v h) F hZ wc wz hf hl hEW H
  · exact backS_of_with (bytes := bytes) (maxL := maxL) (ret := ret) (hs := hs) (E := fun _ first o t L k n => k = rm.cells ∧ n = rm.slots ∧ (∃ v, o = .returned v ∧ (Fr n0 L ∧ Q v t.heap)) ∧ CHr Z EL first.vm first.heap t.vm t.heap) F hf hl
      (fun m meth c A a Y hp => have hU : Z.Warmed39 A.U.vm := wtrans (s := s.setVm vm) hZ Y.warmed
        ⟨by show (Cond.and _ .tt).before a A.U = true; rw [Cond.before_and, mv hU wc]; rfl, mv hU wc, mv hU wz, hp.2.2.1, hp.2.2.2⟩)
      (fun m meth c A a g mk Y hp => ⟨hp.1, wtrans (s := s.setVm vm) hZ Y.warmed, hp.2.1, (CHv.at Y hZ hEW H).1⟩) (fun _ _ _ _ _ _ _ _ _ => trivial)
      (fun _ _ _ _ ⟨v, L, h1, h2, h3, h4⟩ => ⟨L, _, _, h4, rfl, rfl, ⟨v, h1, h2⟩, h3⟩)
      (fun m meth c A a g mk v t L k n Y hp _ _ ⟨e1, e2, ⟨v', e3, e4⟩, e5⟩ => by
        cases e3; subst e1 e2
        refine ⟨L, e4, rfl, rfl, rfl, (CHv.at Y hZ hEW H).trans ?_⟩
        rw [← hp.2.1]; exact e5)
def ClW (EL : List (String × Nat)) (p : Program) (l : Launch) (e : Env) (R : Room) (s : State) (m : MethodId) (args : Array Value) (below : List Frame) (meth : Method) (c : Code) (S : State) (G : JFrame) (own : String) (B : ByteArray) (ml : Nat) (mn : String) (rt : Option FieldType) (Z : State) (a0 : Array Value) (n0 : Nat) (h0 : Heap) (vm : Vm) (h : Heap) (cells slots pc : Nat) (Ls : Array Slot) (rest : List Value) (Q : Option Value → Heap → Prop) : Prop :=
  ∀ ws : List Addr, (∀ v h', Q v h' → Keep h h' ws) → (∀ w ∈ ws, n0 ≤ w) → ∃ v vm' h', Q v h' ∧ CHr Z EL vm h vm' h' ∧ Wk true EL p l e R s m args below meth c S G own B ml mn rt Z a0 n0 h0 vm' h' cells slots pc Ls (v.toList ++ rest)
theorem Wk.calledW {ck sk : Nat} (k : Wk true EL p l e R s m args below meth c S G own B ml mn rt Z a0 n0 h0 vm h cells slots pc Ls St)
    (f : ∀ {T locs}, Stand p l e R (s.setVm vm) m args below meth c T locs cells slots → p.tables.exec = Jvm.exec → c.code = B → c.maxLocals = ml → Z.Warmed39 vm → vm.findClass own = some m.cls → T.heap = h → EW Z a0 EL → CHv Z EL vm h →
      ∃ v vm₁ B', (s.setVm vm).WarmedH vm₁ ∧ Stand p l e R ((s.setVm vm).setVm (Pt.U B').vm) m args below meth c (Pt.U B') (Pt.locs B') (Pt.cells B') (Pt.slots B') ∧ (s.setVm vm).Since (Pt.U B').vm (Pt.U B').heap.size ∧ T.heap.size ≤ (Pt.U B').heap.size ∧
        (∃ L, (Fr n0 L ∧ Q v (Pt.U B').heap) ∧ Pt.locs B' = locs ++ L ∧ Pt.cells B' = cells + ck ∧ Pt.slots B' = slots + sk ∧ CHr Z EL vm h (Pt.U B').vm (Pt.U B').heap) ∧ Steps p.tables e below (T.setTop (mkF m pc Ls St)) ((Pt.U B').setTop (mkF m pc' Ls (v.toList ++ rest)))) :
    ClW EL p l e R s m args below meth c S G own B ml mn rt Z a0 n0 h0 vm h (cells + ck) (slots + sk) pc' Ls rest Q := by
  intro ws hq hn
  obtain ⟨q1, q2, q3, q4, q5, q6, T, locs, X, eT, N, g⟩ := k
  rcases q6 with ⟨q, -⟩ | ⟨-, hEW, ⟨k0, hS, hk⟩, hC⟩
  · cases q
  obtain ⟨v, vm₁, ⟨T', L', c', n'⟩, -, X', hS2, hg2, ⟨L, ⟨N', hQ⟩, e1, e2, e3, hR⟩, st⟩ := f X q1.1 q1.2.1 q1.2.2.1 q2 q3 eT hEW hC.1
  dsimp only [Pt.U, Pt.locs, Pt.cells, Pt.slots] at X' hQ e1 e2 e3 st hR hS2 hg2
  subst e1 e2 e3
  have K := hq _ _ hQ
  have hW : Z.Warmed39 T'.vm := State.Warmed39.trans (t := s.setVm vm) q2 hS2.1
  exact ⟨v, T'.vm, T'.heap, hQ, hR, q1, hW, by rw [hS2.1.alike.findClass]; exact q3, q4.keep K hn, Nat.le_trans q5 K.1, Or.inr ⟨rfl, hEW, ⟨_, foldS hS (by rw [eT]; exact hk) hS2 hg2, Nat.le_refl _⟩, hC.trans hR⟩, T', _, X', rfl, N.app N', fun t q => g t (st.trans q)⟩
theorem ClW.kv {ws : List Addr} {Q : Value → Heap → Prop} (k : ClW EL p l e R s m args below meth c S G own B ml mn rt Z a0 n0 h0 vm h cells slots pc Ls rest (KpV h ws Q)) (hn : ∀ w ∈ ws, n0 ≤ w := by exact all0) :
    ∃ w vm' h', Keep h h' ws ∧ CHr Z EL vm h vm' h' ∧ Q w h' ∧ Wk true EL p l e R s m args below meth c S G own B ml mn rt Z a0 n0 h0 vm' h' cells slots pc Ls (w :: rest) := by
  obtain ⟨v, vm', h', ⟨w, rfl, K, q⟩, hR, k⟩ := k ws (fun v h' q => q.choose_spec.2.1) hn
  exact ⟨w, vm', h', K, hR, q, k⟩
theorem ClW.k0 {ws : List Addr} {Q : Heap → Prop} (k : ClW EL p l e R s m args below meth c S G own B ml mn rt Z a0 n0 h0 vm h cells slots pc Ls rest (K0 h ws Q)) (hn : ∀ w ∈ ws, n0 ≤ w := by exact all0) :
    ∃ vm' h', Keep h h' ws ∧ CHr Z EL vm h vm' h' ∧ Q h' ∧ Wk true EL p l e R s m args below meth c S G own B ml mn rt Z a0 n0 h0 vm' h' cells slots pc Ls rest := by
  obtain ⟨v, vm', h', ⟨rfl, K, q⟩, hR, k⟩ := k ws (fun v h' q => q.2.1) hn
  exact ⟨vm', h', K, hR, q, k⟩
theorem Wk.callVW {a : Addr} {C : String} (k : Wk true EL p l e R s m args below meth c S G own B ml mn rt Z a0 n0 h0 vm h cells slots pc Ls St) (wl : (Cond.methodLink own index y).before a0 Z = true) (V : VC Z a0 y z C cd maxL ret argsL.length) (E : Exa Z h a C) (M : Mt true EL l z cd rm (.ref a :: argsL).toArray Z a0 h n0 Q)
    (hd : Dc B pc (.invokevirtual index) 3 pc') (W : Nat) (hst : St = argsL.reverse ++ .ref a :: rest) (hL : Ls.size = ml := by rfl) (hW : (rest.map fun v => v.category).sum = W := by rfl) (hr : rm.frames + 1 ≤ R.frames ∧ W + (maxL + 11) + rm.locals ≤ R.locals ∧ cells + rm.cells ≤ R.cells ∧ slots + rm.slots ≤ R.slots := by decide) :
    ClW EL p l e R s m args below meth c S G own B ml mn rt Z a0 n0 h0 vm h (cells + rm.cells) (slots + rm.slots) pc' Ls rest Q := by
  have O := k.old
  obtain ⟨hd, rfl⟩ := hd
  obtain ⟨v1, v2, v3, v4, v5, v6, C⟩ := V
  refine k.calledW fun {T locs} X hx hb hml hZ hown eT hEW H => ?_
  have P := M.payW (p := p) (e := e) (below := below) (s := s) (args := args) (R := R) (len := 3) (W := W) C O hZ hr.1 hr.2.1 hEW H
  have hZ' : Z.Warmed39 (s.setVm vm).vm := hZ
  have hown' : (s.setVm vm).vm.findClass own = some m.cls := hown
  obtain ⟨cq, kq, qa, qb, qc⟩ := isOf hZ' eT E
  exact X.virtualBackS hx hown' (mvT hZ' wl) (mvT hZ' v1) (v2 _ hZ') (mvT hZ' v3) (mvT hZ' v4) v5 P qa qc (g := mkF m pc Ls St) rfl (by rw [hml]; exact hL) (Steps.refl _) (argsL := argsL) (rest := rest) (fun sig q => C.plen (argsL := argsL) rfl sig (v6 ▸ q)) hst (wsW m Ls St hW) (by rw [hb]; exact hd) (fun _ _ => ⟨rfl, eT, hr.2.2.1, hr.2.2.2⟩)
end LitW
/-! arrays of int kinds: their contents as functions to Int32 -/
section Sym
variable {md : Bool} {EL : List (String × Nat)} {p : Program} {l : Launch} {e : Env} {R : Room} {s : State} {m : MethodId} {args : Array Value} {below : List Frame} {meth : Method} {c : Code} {S : State} {G : JFrame} {own : String} {B : ByteArray} {ml : Nat} {mn : String} {rt : Option FieldType} {Z : State} {a0 : Array Value} {n0 : Nat} {h0 : Heap} {vm : Vm} {h h' : Heap} {cells slots pc pc' : Nat} {Ls Ls' : Array Slot} {St St' : List Value} {f g : Nat → Int32} {n i : Nat}
theorem Ary.ext {a : Addr} {T : String × FieldType} {F : Nat → Value} (A : Ary Z h a T n F) (E : Ext h h') : Ary Z h' a T n F := A.keep ((Keep.refl h []).ext E) nin0
def bv (f : Nat → Int32) : Nat → Value := fun i => .int (f i)
def lvi (L : List Int32) : Nat → Int32 := fun i => L.getD i 0
def updi (f : Nat → Int32) (i : Nat) (v : Int32) : Nat → Int32 := fun j => if j = i then v else f j
def cpyi (f g : Nat → Int32) (sp dp nn : Nat) : Nat → Int32 := fun i => if dp ≤ i ∧ i < dp + nn then f (i - dp + sp) else g i
theorem bv_at : bv f i = .int (f i) := rfl
theorem bv_upd {v : Int32} : ∀ q, q < n → updv (bv f) i (.int v) q = bv (updi f i v) q := fun q _ => by
  by_cases h : q = i <;> simp [updv, bv, updi, h]
theorem bv_cpy {sp dp nn : Nat} : ∀ q, q < n → cpyv (bv f) (bv g) sp dp nn q = bv (cpyi f g sp dp nn) q := fun q _ => by
  by_cases h : dp ≤ q ∧ q < dp + nn <;> simp [cpyv, bv, cpyi, h]
theorem bv_zero : ∀ j, j < n → Value.int 0 = bv (fun _ => 0) j := fun _ _ => rfl
theorem bi_const {L : List Int32} (e : L = List.replicate n 0) : ∀ j, j < n → Value.int 0 = bv (lvi L) j := fun j hj => by subst e; simp [bv, lvi, List.getD_eq_getElem?_getD, hj]
theorem bi_cpy {V U V' : List Int32} {sp dp nn : Nat} (hU : U.length = n) (e : (List.range n).map (fun i => if dp ≤ i ∧ i < dp + nn then V.getD (i - dp + sp) 0 else U.getD i 0) = V') : ∀ j, j < n → cpyv (bv (lvi V)) (bv (lvi U)) sp dp nn j = bv (lvi V') j := fun j hj => by
  subst e
  by_cases h : dp ≤ j ∧ j < dp + nn <;> simp [cpyv, bv, lvi, List.getD_eq_getElem?_getD, hj, h]
theorem lv_bi {L : List Int32} {V : List Value} (e : L.map Value.int = V) (hn : L.length = n) : ∀ j, j < n → lv V j = bv (lvi L) j := fun j hj => by
  subst e hn; simp [lv, bv, lvi, List.getD_eq_getElem?_getD, hj]
theorem Wk.top {x y : Int32} (k : Wk md EL p l e R s m args below meth c S G own B ml mn rt Z a0 n0 h0 vm h cells slots pc Ls (.int x :: St)) (e' : x = y) : Wk md EL p l e R s m args below meth c S G own B ml mn rt Z a0 n0 h0 vm h cells slots pc Ls (.int y :: St) := e' ▸ k
theorem ixS {j q : Int32} {N : Nat} (h1 : ¬ j < 0) (h2 : j < q) (e : q.toNatClampNeg = N) : ¬ j < 0 ∧ j.toNatClampNeg = j.toNatClampNeg ∧ j.toNatClampNeg < N := by
  refine ⟨h1, rfl, ?_⟩
  rw [← e, clampNat, clampNat]
  rw [Int32.lt_iff_toInt_lt] at h1 h2
  have : (0 : Int32).toInt = 0 := rfl
  omega
theorem lenS {q : Int32} (h : ¬ q < 0) : Int32.ofNat q.toNatClampNeg = q := by
  rw [Int32.lt_iff_toInt_lt] at h
  have z : (0 : Int32).toInt = 0 := rfl
  have r := q.toInt_lt
  apply Int32.toInt_inj.mp
  rw [Int32.toInt_ofNat_small (by rw [clampNat]; omega), clampNat]
  omega
theorem nnS {q : Int32} (h : ¬ q < 0) : ¬ q < 0 ∧ q.toNatClampNeg = q.toNatClampNeg := ⟨h, rfl⟩
end Sym
/-! decimal figures in a byte[] (z570, z849): what getChars writes -/
section Dec
def nd (m : Nat) : Nat := if m < 10 then 1 else nd (m / 10) + 1
theorem nd_lt {m : Nat} (h : m < 10) : nd m = 1 := by rw [nd, if_pos h]
theorem nd_ge {m : Nat} (h : ¬ m < 10) : nd m = nd (m / 10) + 1 := by rw [nd, if_neg h]
theorem nd_eq : ∀ (L m : Nat), (L = 0 ∨ 10 ^ L ≤ m) → m < 10 ^ (L + 1) → nd m = L + 1
  | 0, m, _, h => nd_lt (by simpa using h)
  | L + 1, m, h, h' => by
    have h : 10 ^ (L + 1) ≤ m := h.resolve_left (by omega)
    have p1 : 10 ^ (L + 1) = 10 ^ L * 10 := Nat.pow_succ 10 L
    have p2 : 10 ^ (L + 1 + 1) = 10 ^ (L + 1) * 10 := Nat.pow_succ 10 (L + 1)
    have p3 : 0 < 10 ^ L := Nat.pow_pos (by decide)
    rw [nd_ge (by omega), nd_eq L (m / 10) (Or.inr (by omega)) (by omega)]
theorem nd_100 {x : Nat} (h : 100 ≤ x) : nd x = nd (x / 100) + 2 := by
  rw [nd_ge (by omega), nd_ge (m := x / 10) (by omega), Nat.div_div_eq_div_mul]
def DGs (f : Nat → Int32) (e m n : Nat) : Prop := ∀ j, j < n → (f (e - 1 - j)).toInt = ((48 + m / 10 ^ j % 10 : Nat) : Int)
def GI (m e sg : Nat) (f1 f : Nat → Int32) (x c k : Nat) : Prop := x = m / 10 ^ k ∧ c + k = e ∧ nd x + sg ≤ c ∧ nd m = nd x + k ∧ DGs f e m k ∧ ∀ j, j < c → f j = f1 j
def GF (m e sg : Nat) (f1 f : Nat → Int32) : Prop := DGs f e m (nd m) ∧ (sg = 1 → f (e - nd m - 1) = 45) ∧ ∀ j, j < e - (nd m + sg) → f j = f1 j
theorem GI.start {m e sg : Nat} {f1 : Nat → Int32} (h : nd m + sg ≤ e) : GI m e sg f1 f1 m e 0 := ⟨by simp, rfl, h, rfl, fun j q => absurd q (Nat.not_lt_zero _), fun _ _ => rfl⟩
theorem updi_eq {f : Nat → Int32} {i : Nat} {v : Int32} : updi f i v i = v := if_pos rfl
theorem updi_ne {f : Nat → Int32} {i j : Nat} {v : Int32} (h : j ≠ i) : updi f i v j = f j := if_neg h
theorem GI.one {m e sg : Nat} {f1 f : Nat → Int32} {x c k : Nat} {o : Int32} (I : GI m e sg f1 f x c k) (hc : 0 < c) (ho : o.toInt = ((48 + x % 10 : Nat) : Int)) : x / 10 = m / 10 ^ (k + 1) ∧ DGs (updi f (c - 1) o) e m (k + 1) ∧ ∀ j, j < c - 1 → updi f (c - 1) o j = f1 j := by
  obtain ⟨e1, e2, e3, e4, e5, e6⟩ := I
  refine ⟨by rw [e1, Nat.div_div_eq_div_mul, Nat.pow_succ], fun j hj => ?_, fun j hj => ?_⟩
  · by_cases q : j = k
    · subst q
      rw [show e - 1 - j = c - 1 by omega, updi_eq, ho, e1]
    · rw [updi_ne (by omega)]; exact e5 j (by omega)
  · rw [updi_ne (by omega)]; exact e6 j (by omega)
theorem GI.turn {m e sg : Nat} {f1 f : Nat → Int32} {x c k : Nat} {o t : Int32} (I : GI m e sg f1 f x c k) (hx : 100 ≤ x) (ho : o.toInt = ((48 + x % 10 : Nat) : Int)) (ht : t.toInt = ((48 + x / 10 % 10 : Nat) : Int)) : GI m e sg f1 (updi (updi f (c - 1) o) (c - 1 - 1) t) (x / 100) (c - 1 - 1) (k + 2) := by
  have hn := nd_100 hx
  obtain ⟨e1, e2, e3, e4, e5, e6⟩ := id I
  obtain ⟨a1, a2, a3⟩ := I.one (by omega) ho
  have I2 : GI m e 0 f1 (updi f (c - 1) o) (x / 10) (c - 1) (k + 1) := ⟨a1, by omega, by have := nd_ge (m := x) (by omega); omega, by have := nd_ge (m := x) (by omega); omega, a2, a3⟩
  obtain ⟨b1, b2, b3⟩ := I2.one (by omega) ht
  exact ⟨by rw [← b1, Nat.div_div_eq_div_mul], by omega, by omega, by omega, b2, b3⟩
theorem GI.fin {m e sg : Nat} {f1 f f' : Nat → Int32} {x c k c' : Nat} (I : GI m e sg f1 f x c k) (hc : c' + nd x = c) (hd : DGs f' e m (nd m)) (hf : ∀ j, j < c' → f' j = f1 j) : (sg = 0 → GF m e sg f1 f') ∧ (sg = 1 → GF m e sg f1 (updi f' (c' - 1) 45)) := by
  obtain ⟨e1, e2, e3, e4, e5, e6⟩ := I
  refine ⟨fun h => ⟨hd, fun q => by omega, fun j q => hf j (by omega)⟩, fun h => ⟨fun j q => ?_, fun _ => ?_, fun j q => ?_⟩⟩
  · rw [updi_ne (by omega)]; exact hd j q
  · rw [show e - nd m - 1 = c' - 1 by omega, updi_eq]
  · rw [updi_ne (by omega)]; exact hf j (by omega)
theorem GI.end1 {m e sg : Nat} {f1 f : Nat → Int32} {x c k : Nat} {o : Int32} (I : GI m e sg f1 f x c k) (hx : x < 10) (ho : o.toInt = ((48 + x % 10 : Nat) : Int)) : (sg = 0 → GF m e sg f1 (updi f (c - 1) o)) ∧ (sg = 1 → GF m e sg f1 (updi (updi f (c - 1) o) (c - 1 - 1) 45)) := by
  have hn := nd_lt hx
  obtain ⟨e1, e2, e3, e4, e5, e6⟩ := id I
  obtain ⟨a1, a2, a3⟩ := I.one (by omega) ho
  exact I.fin (by omega) (by rw [e4, hn, Nat.add_comm]; exact a2) a3
theorem GI.end2 {m e sg : Nat} {f1 f : Nat → Int32} {x c k : Nat} {o t : Int32} (I : GI m e sg f1 f x c k) (hx : x < 100) (hx' : ¬ x < 10) (ho : o.toInt = ((48 + x % 10 : Nat) : Int)) (ht : t.toInt = ((48 + x / 10 % 10 : Nat) : Int)) : (sg = 0 → GF m e sg f1 (updi (updi f (c - 1) o) (c - 1 - 1) t)) ∧ (sg = 1 → GF m e sg f1 (updi (updi (updi f (c - 1) o) (c - 1 - 1) t) (c - 1 - 1 - 1) 45)) := by
  have hn := nd_ge hx'
  have hn2 := nd_lt (m := x / 10) (by omega)
  obtain ⟨e1, e2, e3, e4, e5, e6⟩ := id I
  obtain ⟨a1, a2, a3⟩ := I.one (by omega) ho
  have I2 : GI m e 0 f1 (updi f (c - 1) o) (x / 10) (c - 1) (k + 1) := ⟨a1, by omega, by omega, by omega, a2, a3⟩
  obtain ⟨b1, b2, b3⟩ := I2.one (by omega) ht
  exact I.fin (by omega) (by rw [e4, hn, hn2, show 1 + 1 + k = k + 1 + 1 by omega]; exact b2) b3
end Dec
section Dec2
theorem cm1 {c d : Int32} (e : d = c + (-1)) (h : 0 < c.toInt) : d.toInt = c.toInt - 1 ∧ d.toNatClampNeg = c.toNatClampNeg - 1 := by
  have r := rng32 c
  have z : (-1 : Int32).toInt = -1 := rfl
  have e := e_iaddN e (by omega)
  rw [clampNat, clampNat]
  omega
theorem n10 {r : Int32} {fO : Nat → Int32} {x : Nat} (h : ∀ i, i < 100 → fO i = Int32.ofNat (48 + i % 10)) (h1 : 0 ≤ r.toInt) (h2 : r.toInt < 100) (hx : r.toInt % 10 = ((x % 10 : Nat) : Int)) : (fO r.toNatClampNeg).toInt8.toInt32.toInt = ((48 + x % 10 : Nat) : Int) := by
  have e : (fO r.toNatClampNeg).toInt = ((48 + x % 10 : Nat) : Int) := by rw [clampNat, h _ (by omega), Int32.toInt_ofNat_of_lt (by omega)]; omega
  rw [e_i2bN (v := (fO r.toNatClampNeg).toInt8.toInt32) rfl (by omega), e]
theorem n100 {r : Int32} {fT : Nat → Int32} {x : Nat} (h : ∀ i, i < 100 → fT i = Int32.ofNat (48 + i / 10)) (h1 : 0 ≤ r.toInt) (h2 : r.toInt < 100) (hx : r.toInt / 10 = ((x % 10 : Nat) : Int)) : (fT r.toNatClampNeg).toInt8.toInt32.toInt = ((48 + x % 10 : Nat) : Int) := by
  have e : (fT r.toNatClampNeg).toInt = ((48 + x % 10 : Nat) : Int) := by rw [clampNat, h _ (by omega), Int32.toInt_ofNat_of_lt (by omega)]; omega
  rw [e_i2bN (v := (fT r.toNatClampNeg).toInt8.toInt32) rfl (by omega), e]
def GJ (m e sg : Nat) (f1 f : Nat → Int32) (N i c : Int32) (k : Nat) : Prop := i.toInt ≤ 0 ∧ 0 ≤ c.toInt ∧ c.toInt ≤ N.toInt ∧ GI m e sg f1 f (-i.toInt).toNat c.toNatClampNeg k
variable {m e sg k : Nat} {f1 f fO fT : Nat → Int32} {N i c p : Int32}
theorem nd_pos (x : Nat) : 1 ≤ nd x := by rw [nd]; split <;> omega
variable {c1 c2 c3 q r n : Int32}
theorem GJ.qr (dq : q = i / 100) (dr : r = q * 100 - i) (I : GJ m e sg f1 f N i c k) (h : ¬ ((-100) < i)) : q.toInt = -((-i.toInt) / 100) ∧ r.toInt = (-i.toInt) % 100 := by
  have r0 := rng32 i
  have z : (-100 : Int32).toInt = -100 := rfl
  have := i_nlt h
  have e1 := e_idivM dq 100 I.1
  obtain ⟨u, du⟩ : ∃ u, u = q * 100 := ⟨_, rfl⟩
  have e2 := e_imulN du 100 (by omega)
  rw [← du] at dr
  have e3 := e_isubN dr (by omega)
  omega
theorem GJ.pl (I : GJ m e sg f1 f N i c k) : (nd (-i.toInt).toNat + sg : Int) ≤ c.toInt := by
  have := I.2.2.2.2.2.1
  have := I.2.1
  rw [clampNat] at *
  omega
theorem GJ.bt (d1 : c1 = c + (-1)) (d2 : c2 = c1 + (-1)) (dq : q = i / 100) (dr : r = q * 100 - i) (I : GJ m e sg f1 f N i c k) (h : ¬ ((-100) < i)) : ¬ (c1 < 0) ∧ c1 < N ∧ ¬ (c2 < 0) ∧ c2 < N ∧ ¬ (r < 0) ∧ r < 100 := by
  have hq := I.qr dq dr h
  have hc := I.pl
  have z : (-100 : Int32).toInt = -100 := rfl
  have z0 : (0 : Int32).toInt = 0 := rfl
  have z1 : (100 : Int32).toInt = 100 := rfl
  have hh := i_nlt h
  have hn := nd_100 (x := (-i.toInt).toNat) (by omega)
  have := I.2.2.1
  have p1 := nd_pos ((-i.toInt).toNat / 100)
  have c1 := (cm1 d1 (by omega)).1
  have c2 := (cm1 d2 (by omega)).1
  refine ⟨o_nlt ?_, o_lt ?_, o_nlt ?_, o_lt ?_, o_nlt ?_, o_lt ?_⟩ <;> omega
theorem GJ.turn (d1 : c1 = c + (-1)) (d2 : c2 = c1 + (-1)) (dq : q = i / 100) (dr : r = q * 100 - i) (I : GJ m e sg f1 f N i c k) (h : ¬ ((-100) < i)) (hO : ∀ i, i < 100 → fO i = Int32.ofNat (48 + i % 10)) (hT : ∀ i, i < 100 → fT i = Int32.ofNat (48 + i / 10)) :
    GJ m e sg f1 (updi (updi f c1.toNatClampNeg (fO r.toNatClampNeg).toInt8.toInt32) c2.toNatClampNeg (fT r.toNatClampNeg).toInt8.toInt32) N q c2 (k + 2) := by
  have hq := I.qr dq dr h
  have hc := I.pl
  have z : (-100 : Int32).toInt = -100 := rfl
  have hh := i_nlt h
  have hn := nd_100 (x := (-i.toInt).toNat) (by omega)
  have := I.2.2.1
  have p1 := nd_pos ((-i.toInt).toNat / 100)
  have c1 := cm1 d1 (by omega)
  have c2 := cm1 d2 (by omega)
  refine ⟨by omega, by omega, by omega, ?_⟩
  have t := I.2.2.2.turn (by omega) (n10 hO (r := r) (by omega) (by omega) (by omega)) (n100 hT (r := r) (by omega) (by omega) (by omega))
  rw [c2.2, c1.2, show (-q.toInt).toNat = (-i.toInt).toNat / 100 by omega]
  exact t
theorem GJ.dec (dq : q = i / 100) (I : GJ m e sg f1 f N i c k) (h : ¬ ((-100) < i)) {n : Nat} (hx : (-i.toInt).toNat < n + 1) : (-q.toInt).toNat < n := by
  have hq := (I.qr dq rfl h).1
  have z : (-100 : Int32).toInt = -100 := rfl
  have hh := i_nlt h
  omega
theorem GJ.ng (h1 : i.toInt ≤ 0) (dn : n = -i) (h : (-100) < i) : n.toInt = -i.toInt ∧ -i.toInt < 100 := by
  have z : (-100 : Int32).toInt = -100 := rfl
  have := i_lt h
  have := e_inegN dn (by omega)
  omega
theorem GJ.b1 (d1 : c1 = c + (-1)) (dn : n = -i) (I : GJ m e sg f1 f N i c k) (h : (-100) < i) : ¬ (c1 < 0) ∧ c1 < N ∧ ¬ (n < 0) ∧ n < 100 := by
  have q := GJ.ng I.1 dn h
  have hc := I.pl
  have p1 := nd_pos (-i.toInt).toNat
  have z0 : (0 : Int32).toInt = 0 := rfl
  have z1 : (100 : Int32).toInt = 100 := rfl
  have := I.1
  have := I.2.2.1
  have c1 := (cm1 d1 (by omega)).1
  refine ⟨o_nlt ?_, o_lt ?_, o_nlt ?_, o_lt ?_⟩ <;> omega
theorem GJ.b2 (d1 : c1 = c + (-1)) (d2 : c2 = c1 + (-1)) (I : GJ m e sg f1 f N i c k) (h : i < (-9)) : ¬ (c2 < 0) ∧ c2 < N := by
  have z : (-9 : Int32).toInt = -9 := rfl
  have hh := i_lt h
  have hc := I.pl
  have p1 := nd_ge (m := (-i.toInt).toNat) (by omega)
  have p2 := nd_pos ((-i.toInt).toNat / 10)
  have z0 : (0 : Int32).toInt = 0 := rfl
  have := I.2.2.1
  have c1 := (cm1 d1 (by omega)).1
  have c2 := (cm1 d2 (by omega)).1
  refine ⟨o_nlt ?_, o_lt ?_⟩ <;> omega
theorem GJ.b1s (d1 : c1 = c + (-1)) (d2 : c2 = c1 + (-1)) (I : GJ m e sg f1 f N i c k) (hs : sg = 1) : ¬ (c2 < 0) ∧ c2 < N := by
  have hc := I.pl
  have p1 := nd_pos (-i.toInt).toNat
  have z0 : (0 : Int32).toInt = 0 := rfl
  have := I.2.2.1
  have c1 := (cm1 d1 (by omega)).1
  have c2 := (cm1 d2 (by omega)).1
  refine ⟨o_nlt ?_, o_lt ?_⟩ <;> omega
theorem GJ.b2s (d1 : c1 = c + (-1)) (d2 : c2 = c1 + (-1)) (d3 : c3 = c2 + (-1)) (I : GJ m e sg f1 f N i c k) (h : i < (-9)) (hs : sg = 1) : ¬ (c3 < 0) ∧ c3 < N := by
  have z : (-9 : Int32).toInt = -9 := rfl
  have hh := i_lt h
  have hc := I.pl
  have p1 := nd_ge (m := (-i.toInt).toNat) (by omega)
  have p2 := nd_pos ((-i.toInt).toNat / 10)
  have z0 : (0 : Int32).toInt = 0 := rfl
  have := I.2.2.1
  have c1 := (cm1 d1 (by omega)).1
  have c2 := (cm1 d2 (by omega)).1
  have c3 := (cm1 d3 (by omega)).1
  refine ⟨o_nlt ?_, o_lt ?_⟩ <;> omega
theorem GJ.e1 (d1 : c1 = c + (-1)) (d2 : c2 = c1 + (-1)) (dn : n = -i) (I : GJ m e sg f1 f N i c k) (h : (-100) < i) (h9 : ¬ (i < (-9))) (hO : ∀ i, i < 100 → fO i = Int32.ofNat (48 + i % 10)) :
    (sg = 0 → GF m e sg f1 (updi f c1.toNatClampNeg (fO n.toNatClampNeg).toInt8.toInt32)) ∧ (sg = 1 → GF m e sg f1 (updi (updi f c1.toNatClampNeg (fO n.toNatClampNeg).toInt8.toInt32) c2.toNatClampNeg 45)) := by
  have z : (-9 : Int32).toInt = -9 := rfl
  have hh := i_nlt h9
  have q := GJ.ng I.1 dn h
  have hc := I.pl
  have p1 := nd_pos (-i.toInt).toNat
  have := I.1
  have t := I.2.2.2.end1 (by omega) (n10 hO (r := n) (by omega) (by omega) (by omega))
  have c1 := cm1 d1 (by omega)
  rw [c1.2]
  refine ⟨t.1, fun s1 => ?_⟩
  have c2 := cm1 d2 (by omega)
  rw [c2.2, c1.2]
  exact t.2 s1
theorem GJ.e2 (d1 : c1 = c + (-1)) (d2 : c2 = c1 + (-1)) (d3 : c3 = c2 + (-1)) (dn : n = -i) (I : GJ m e sg f1 f N i c k) (h : (-100) < i) (h9 : i < (-9)) (hO : ∀ i, i < 100 → fO i = Int32.ofNat (48 + i % 10)) (hT : ∀ i, i < 100 → fT i = Int32.ofNat (48 + i / 10)) :
    (sg = 0 → GF m e sg f1 (updi (updi f c1.toNatClampNeg (fO n.toNatClampNeg).toInt8.toInt32) c2.toNatClampNeg (fT n.toNatClampNeg).toInt8.toInt32)) ∧ (sg = 1 → GF m e sg f1 (updi (updi (updi f c1.toNatClampNeg (fO n.toNatClampNeg).toInt8.toInt32) c2.toNatClampNeg (fT n.toNatClampNeg).toInt8.toInt32) c3.toNatClampNeg 45)) := by
  have z : (-9 : Int32).toInt = -9 := rfl
  have hh := i_lt h9
  have q := GJ.ng I.1 dn h
  have hc := I.pl
  have p1 := nd_ge (m := (-i.toInt).toNat) (by omega)
  have p2 := nd_pos ((-i.toInt).toNat / 10)
  have := I.1
  have t := I.2.2.2.end2 (by omega) (by omega) (n10 hO (r := n) (by omega) (by omega) (by omega)) (n100 hT (r := n) (by omega) (by omega) (by omega))
  have c1 := cm1 d1 (by omega)
  have c2 := cm1 d2 (by omega)
  rw [c2.2, c1.2]
  refine ⟨t.1, fun s1 => ?_⟩
  have c3 := cm1 d3 (by omega)
  rw [c3.2, c2.2, c1.2]
  exact t.2 s1
def sgnI (p : Int32) : Nat := if p < 0 then 1 else 0
def ssz (p : Int32) : Int32 := Int32.ofNat (nd p.toInt.natAbs + sgnI p)
theorem sgnI_y (h : p < 0) : sgnI p = 1 := if_pos h
theorem sgnI_n (h : ¬ (p < 0)) : sgnI p = 0 := if_neg h
theorem nd_le : ∀ (L m : Nat), m < 10 ^ (L + 1) → nd m ≤ L + 1
  | 0, m, h => by rw [nd_lt (by simpa using h)]; decide
  | L + 1, m, h => by
    by_cases q : m < 10
    · rw [nd_lt q]; omega
    · have := nd_le L (m / 10) (by have : 10 ^ (L + 1 + 1) = 10 ^ (L + 1) * 10 := Nat.pow_succ 10 (L + 1); omega)
      rw [nd_ge q]; omega
theorem sgnI_le (p : Int32) : sgnI p ≤ 1 := by unfold sgnI; split <;> decide
theorem ssz_int (p : Int32) : (ssz p).toInt = ((nd p.toInt.natAbs + sgnI p : Nat) : Int) ∧ 1 ≤ nd p.toInt.natAbs ∧ nd p.toInt.natAbs ≤ 10 ∧ sgnI p ≤ 1 := by
  have r := rng32 p
  have a := nd_le 9 p.toInt.natAbs (by have : (10 : Nat) ^ (9 + 1) = 10000000000 := by decide
                                       omega)
  have b := sgnI_le p
  exact ⟨Int32.toInt_ofNat_of_lt (by omega), nd_pos _, a, b⟩
theorem GJ.s1 {z q : Int32} (hz : z = ssz p) (h1 : ¬ (q < z)) (h2 : ¬ (N < q)) (hp : p < 0) : GJ p.toInt.natAbs q.toNatClampNeg (sgnI p) f1 f1 N p q 0 := by
  have a := ssz_int p
  rw [← hz] at a
  have := i_nlt h1; have := i_nlt h2; have := i_lt hp
  have z0 : (0 : Int32).toInt = 0 := rfl
  refine ⟨by omega, by omega, by omega, ?_⟩
  rw [show (-p.toInt).toNat = p.toInt.natAbs by omega]
  exact GI.start (by rw [clampNat]; omega)
theorem GJ.s0 {z q : Int32} (hz : z = ssz p) (h1 : ¬ (q < z)) (h2 : ¬ (N < q)) (hp : ¬ (p < 0)) : GJ p.toInt.natAbs q.toNatClampNeg (sgnI p) f1 f1 N (-p) q 0 := by
  have a := ssz_int p
  rw [← hz] at a
  have := i_nlt h1; have := i_nlt h2; have := i_nlt hp
  have z0 : (0 : Int32).toInt = 0 := rfl
  have e := e_inegN (v := -p) rfl (by omega)
  refine ⟨by omega, by omega, by omega, ?_⟩
  rw [show (-(-p).toInt).toNat = p.toInt.natAbs by omega]
  exact GI.start (by rw [clampNat]; omega)
end Dec2
theorem e_ssz {v p : Int32} (e : v = ssz p) : 1 ≤ v.toInt ∧ v.toInt ≤ 11 := by subst e; have := ssz_int p; omega
def nz (p : Int32) : Nat := nd p.toInt.natAbs + sgnI p
theorem nz_int {v p : Int32} (e : v = ssz p) : v.toInt = nz p ∧ 1 ≤ nz p ∧ nz p ≤ 11 := by subst e; have := ssz_int p; unfold nz; omega
def GN (f : Nat → Int32) (o : Nat) (p : Int32) : Prop := DGs f (o + nz p) p.toInt.natAbs (nd p.toInt.natAbs) ∧ (p < 0 → f o = 45)
theorem GF.num {p : Int32} {e o : Nat} {f1 f : Nat → Int32} (h : GF p.toInt.natAbs e (sgnI p) f1 f) (he : e = o + nz p) : GN f o p ∧ ∀ j, j < o → f j = f1 j := by
  subst he
  obtain ⟨a, b, c⟩ := h
  refine ⟨⟨a, fun q => ?_⟩, fun j q => c j (by unfold nz; omega)⟩
  have hs := sgnI_y q
  have := b hs
  rwa [show o + nz p - nd p.toInt.natAbs - 1 = o by unfold nz; omega] at this
theorem GN.congr {p : Int32} {o : Nat} {f g : Nat → Int32} (h : GN f o p) (e : ∀ j, o ≤ j → j < o + nz p → g j = f j) : GN g o p := by
  have := nd_pos p.toInt.natAbs
  refine ⟨fun j hj => ?_, fun q => ?_⟩
  · rw [e _ (by unfold nz; omega) (by unfold nz; omega)]; exact h.1 j hj
  · rw [e _ (by omega) (by unfold nz; omega)]; exact h.2 q
theorem cpyi_in {f g : Nat → Int32} {sp dp nn i : Nat} (h1 : dp ≤ i) (h2 : i < dp + nn) : cpyi f g sp dp nn i = f (i - dp + sp) := if_pos ⟨h1, h2⟩
theorem cpyi_out {f g : Nat → Int32} {sp dp nn i : Nat} (h : i < dp ∨ dp + nn ≤ i) : cpyi f g sp dp nn i = g i := if_neg (by omega)
theorem shl0 (x : Int32) : x <<< ((0 : Int32) &&& 31) = x := by
  obtain ⟨v, e⟩ : ∃ v, v = x <<< ((0 : Int32) &&& 31) := ⟨_, rfl⟩
  rw [← e]
  have := e_ishl e 0 1
  have := rng32 x
  exact o_eq (by omega)
theorem Ary.len {Z : State} {h : Heap} {a : Addr} {T : String × FieldType} {n n' : Nat} {F : Nat → Value} (A : Ary Z h a T n F) (e : n = n') : Ary Z h a T n' F := e ▸ A
end Jvm.Own
namespace Jvm.Pilot.@@N@@
set_option maxRecDepth 65536
set_option maxHeartbeats 40000000
open Jvm Jvm.ClassFile Sem Op Lib Jvm.Free Jvm.Stand Jvm.LawKit Jvm.RoadKit Jvm.Own Bundle Jvm.Pilot.@@N@@.Jvm.D
def HW (a0 : Array Value) (Z : State) : Prop := ∀ d ∈ tables_1, d.before a0 Z = true
abbrev ATB : String × FieldType := ("[B", .byte)
abbrev rmk (f c s l : Nat) : Room := { frames := f, cells := c, slots := s, locals := l }
variable {l : Launch} {Z : State} {a0 : Array Value} {n0 : Nat} {h0 : Heap}
theorem HW.at (hw : HW a0 Z) (i : Nat) {d : Cond} (e : tables_1[i]? = some d) : d.before a0 Z = true := hw d (List.mem_of_getElem? e)

abbrev lo8 (c : Int32) : Int32 := (c >>> ((0 : Int32) &&& 31)).toInt8.toInt32
abbrev hi8 (c : Int32) : Int32 := (c >>> ((8 : Int32) &&& 31)).toInt8.toInt32
abbrev gcv (x y : Int32) : Int32 := (((x &&& 255) <<< ((0 : Int32) &&& 31)) ||| ((y &&& 255) <<< ((8 : Int32) &&& 31))).toUInt32.toUInt16.toUInt32.toInt32
abbrev latc (x : Int32) : Int32 := (x &&& 255).toUInt32.toUInt16.toUInt32.toInt32
theorem e_lo8 {v c : Int32} (e : v = lo8 c) : -128 ≤ v.toInt ∧ v.toInt < 128 := (e_i2b e).2
theorem e_hi8 {v c : Int32} (e : v = hi8 c) : -128 ≤ v.toInt ∧ v.toInt < 128 := (e_i2b e).2
theorem e_gcv {v x y : Int32} (e : v = gcv x y) : 0 ≤ v.toInt ∧ v.toInt < 65536 := (e_i2c e).2
theorem e_latc {v x : Int32} (e : v = latc x) : v.toInt = x.toInt % 256 := by
  subst e
  show ((x &&& 255).toUInt32.toUInt16.toUInt32.toInt32).toInt = _
  have c2 := e_mask (v := x &&& 255) rfl 8 256
  have c3 := c_i2c (x &&& 255)
  omega
def L32 : List Int32 := [83, 101, 109, 97, 112, 104, 111, 114, 101, 66, 117, 108, 107, 104, 101, 97, 100, 83, 110, 97, 112, 115, 104, 111, 116, 91, 108, 105, 109, 105, 116, 61]
def L12 : List Int32 := [44, 32, 97, 118, 97, 105, 108, 97, 98, 108, 101, 61]
def LZ : List Int32 := [83, 101, 109, 97, 112, 104, 111, 114, 101, 66, 117, 108, 107, 104, 101, 97, 100, 83, 110, 97, 112, 115, 104, 111, 116, 91, 108, 105, 109, 105, 116, 61, 48, 44, 32, 97, 118, 97, 105, 108, 97, 98, 108, 101, 61, 48, 93]
def Snap (f : Nat → Int32) (p1 p2 : Int32) : Prop := (∀ i, i < 32 → f i = lvi L32 i) ∧ GN f 32 p1 ∧ (∀ j, j < 12 → f (32 + nz p1 + j) = lvi L12 j) ∧ GN f (44 + nz p1) p2 ∧ f (44 + nz p1 + nz p2) = 93
theorem snap_of {p1 p2 : Int32} {f0 f1 f1' f3 : Nat → Int32} {E1 E1s E3 E3s n5 : Nat} (h1 : E1 = 32 + nz p1) (h1s : E1s = E1) (h3 : E3 = 44 + nz p1 + nz p2) (h3s : E3s = E3) (h5 : n5 = E3 + 1) (a : ∀ i, i < 32 → f0 i = lvi L32 i) (g1 : GF p1.toInt.natAbs E1 (sgnI p1) f0 f1) (b : ∀ i, i < 32 + nz p1 → f1' i = f1 i) (g3 : GF p2.toInt.natAbs E3 (sgnI p2) (cpyi (lvi L12) f1' 0 E1s 12) f3) : Snap (cpyi (cpyi (lvi [93]) f3 0 E3s 1) (fun _ => 0) 0 0 n5) p1 p2 := by
  subst h1s h3s h5 h1
  obtain ⟨n1, k1⟩ := g1.num rfl
  obtain ⟨n2, k2⟩ := g3.num (o := 44 + nz p1) h3
  have F : ∀ j, j < E3s → cpyi (cpyi (lvi [93]) f3 0 E3s 1) (fun _ => 0) 0 0 (E3s + 1) j = f3 j := fun j hj => by rw [cpyi_in (by omega) (by omega), Nat.sub_zero, Nat.add_zero, cpyi_out (by omega)]
  have M : ∀ j, j < 32 + nz p1 → f3 j = f1 j := fun j hj => by rw [k2 j (by omega), cpyi_out (by omega), b j hj]
  refine ⟨fun i hi => ?_, n1.congr fun j q1 q2 => ?_, fun j hj => ?_, n2.congr fun j q1 q2 => F j (by omega), ?_⟩
  · rw [F i (by omega), M i (by omega), k1 i hi, a i hi]
  · rw [F j (by omega), M j q2]
  · rw [F _ (by omega), k2 _ (by omega), cpyi_in (by omega) (by omega), show 32 + nz p1 + j - (32 + nz p1) + 0 = j by omega]
  · rw [cpyi_in (by omega) (by omega), Nat.sub_zero, Nat.add_zero, cpyi_in (by omega) (by omega), show 44 + nz p1 + nz p2 - E3s + 0 = 0 by omega]; rfl
theorem snap_pos {p1 p2 x y z w s1 s2 : Int32} (h1 : s1 = ssz p1) (h2 : s2 = ssz p2) (ex : x = 32 + s1) (ey : y = x + 12) (ez : z = y + s2) (ew : w = z + 1) : (x.toNatClampNeg = 32 + nz p1 ∧ y.toNatClampNeg = 44 + nz p1 ∧ z.toNatClampNeg = 44 + nz p1 + nz p2 ∧ w.toNatClampNeg = 44 + nz p1 + nz p2 + 1) ∧ x.toInt = 32 + nz p1 ∧ y.toInt = 44 + nz p1 ∧ z.toInt = 44 + nz p1 + nz p2 ∧ w.toInt = 45 + nz p1 + nz p2 := by
  have a := nz_int h1
  have b := nz_int h2
  have c1 : (32 : Int32).toInt = 32 := rfl
  have c2 : (12 : Int32).toInt = 12 := rfl
  have c3 : (1 : Int32).toInt = 1 := rfl
  have := e_iaddN ex (by omega)
  have := e_iaddN ey (by omega)
  have := e_iaddN ez (by omega)
  have := e_iaddN ew (by omega)
  simp only [clampNat]
  omega
theorem ng34 {x y : Int32} (e : y = x - 34) (h : ¬ (0 < y)) : x.toNatClampNeg ≤ 34 := by
  have c0 : (0 : Int32).toInt = 0 := rfl
  have c1 : (34 : Int32).toInt = 34 := rfl
  have := i_nlt h
  rw [clampNat] at *
  by_cases q : x.toInt < 0
  · omega
  · have := e_isubN e (by have := rng32 x; omega)
    omega
theorem nz0 : nz 0 = 1 := by
  have : sgnI 0 = 0 := sgnI_n (by decide)
  unfold nz
  rw [this, show (0 : Int32).toInt.natAbs = 0 from rfl, nd_lt (by decide)]
theorem ssz0 : ssz 0 = 1 := by
  have a := nz_int (p := 0) rfl
  rw [nz0] at a
  exact o_eq a.1
theorem dg0 {f : Nat → Int32} {o : Nat} (h : GN f o 0) : f o = 48 := by
  have q := h.1 0 (by have := nd_pos (0 : Int32).toInt.natAbs; omega)
  rw [nz0] at q
  simp only [Nat.add_sub_cancel, Nat.sub_zero] at q
  exact o_eq q
theorem zero_norm {f : Nat → Int32} (S : Snap f 0 0) : ∀ j, j < 47 → bv f j = bv (lvi LZ) j := by
  obtain ⟨a, b, c, d, e⟩ := S
  have b := dg0 b
  have d := dg0 d
  rw [nz0] at *
  have z1 : ∀ i, i < 32 → lvi L32 i = lvi LZ i := by decide
  have z2 : ∀ i, i < 12 → lvi L12 i = lvi LZ (33 + i) := by decide
  intro j hj
  show Value.int (f j) = Value.int (lvi LZ j)
  congr 1
  by_cases h1 : j < 32
  · rw [a j h1, z1 j h1]
  by_cases h2 : j = 32
  · subst h2; rw [b]; rfl
  by_cases h3 : j < 45
  · have q := c (j - 33) (by omega)
    have q2 := z2 (j - 33) (by omega)
    rw [show 32 + 1 + (j - 33) = j by omega] at q
    rw [show 33 + (j - 33) = j by omega] at q2
    rw [q, q2]
  by_cases h4 : j = 45
  · subst h4; rw [show (45 : Nat) = 44 + 1 from rfl, d]; rfl
  · rw [show j = 44 + 1 + 1 by omega, e]; rfl
/-! the law's own helpers -/
def mag (m : Int64) : Int32 := Int32.ofNat (nd m.toInt.toNat)
theorem mag_int (m : Int64) : (mag m).toInt = nd m.toInt.toNat ∧ 1 ≤ nd m.toInt.toNat ∧ nd m.toInt.toNat ≤ 19 := by
  have r := rng64 m
  have a := nd_le 18 m.toInt.toNat (by have : (10 : Nat) ^ (18 + 1) = 10000000000000000000 := rfl
                                       omega)
  exact ⟨Int32.toInt_ofNat_of_lt (by omega), nd_pos _, a⟩
theorem e_mag {v : Int32} {m : Int64} (e : v = mag m) : 1 ≤ v.toInt ∧ v.toInt ≤ 19 := by subst e; have := mag_int m; omega
theorem dl1 {p s t : Int32} {q m : Int64} (eq : q = p.toInt64) (em : m = -q) (h : q < 0) (es : s = mag m) (et : t = ssz p) : s + 1 = t ∧ s = t - 1 ∧ m.toInt = p.toInt.natAbs ∧ p < 0 := by
  have a := e_i2l eq
  have b := e_lneg em
  have c := j_lt h
  have r := rng32 p
  have z : (0 : Int64).toInt = 0 := rfl
  have z1 : (1 : Int32).toInt = 1 := rfl
  have z2 : (0 : Int32).toInt = 0 := rfl
  have hp : p < 0 := o_lt (by omega)
  have hm : m.toInt = p.toInt.natAbs := by omega
  have d := mag_int m
  rw [← es, hm, Int.toNat_natCast] at d
  have f := ssz_int p
  rw [← et, sgnI_y hp] at f
  obtain ⟨u, eu⟩ : ∃ u, u = s + 1 := ⟨_, rfl⟩
  obtain ⟨w, ew⟩ : ∃ w, w = t - 1 := ⟨_, rfl⟩
  have := e_iaddN eu (by omega)
  have := e_isubN ew (by omega)
  rw [← eu, ← ew]
  exact ⟨o_eq (by omega), o_eq (by omega), hm, hp⟩
theorem dl0 {p s t : Int32} {q : Int64} (eq : q = p.toInt64) (h : ¬ (q < 0)) (es : s = mag q) (et : t = ssz p) : s + 0 = t ∧ s = t ∧ q.toInt = p.toInt.natAbs ∧ ¬ (p < 0) := by
  have a := e_i2l eq
  have c := j_nlt h
  have z : (0 : Int64).toInt = 0 := rfl
  have z2 : (0 : Int32).toInt = 0 := rfl
  have hp : ¬ (p < 0) := o_nlt (by omega)
  have hm : q.toInt = p.toInt.natAbs := by omega
  have d := mag_int q
  rw [← es, hm, Int.toNat_natCast] at d
  have f := ssz_int p
  rw [← et, sgnI_n hp] at f
  have e : s = t := o_eq (by omega)
  exact ⟨by rw [e]; exact Int32.add_zero t, e, hm, hp⟩
theorem lat_of {x c : Int32} {v d : Int32} (h : x = c) (e : latc c = d) : latc x = d := h ▸ e
/-- the figure at a place, p < 0 -/
theorem dgn {f : Nat → Int32} {o st n t pos s p k : Int32} {m T : Int64} {j : Nat} (Q : GN f o.toNatClampNeg p) (es : s = ssz p) (e1 : st = o + 1) (e2 : n = s - 1) (e3 : t = st + n) (e4 : pos = t - k) (hk : k.toInt = j + 1) (ho : ¬ (o < 0)) (ho' : o < 1000) (hm : m.toInt = p.toInt.natAbs) (hp : p < 0) (hj : (j : Int) < n.toInt) (hT : T.toInt = (10 ^ j : Nat)) : (f pos.toNatClampNeg).toInt = 48 + m.toInt / T.toInt % 10 := by
  have a := ssz_int p
  rw [← es, sgnI_y hp] at a
  have z1 : (1 : Int32).toInt = 1 := rfl
  have z0 : (0 : Int32).toInt = 0 := rfl
  have z9 : (1000 : Int32).toInt = 1000 := rfl
  have := i_nlt ho; have := i_lt ho'
  have := e_iaddN e1 (by omega)
  have := e_isubN e2 (by omega)
  have := e_iaddN e3 (by omega)
  have := e_isubN e4 (by omega)
  have q := Q.1 j (by omega)
  rw [show o.toNatClampNeg + nz p - 1 - j = pos.toNatClampNeg by unfold nz; rw [clampNat, clampNat, sgnI_y hp]; omega] at q
  rw [q, hm, hT]
  simp
theorem dgp {f : Nat → Int32} {o t pos s p k : Int32} {m T : Int64} {j : Nat} (Q : GN f o.toNatClampNeg p) (es : s = ssz p) (e3 : t = o + s) (e4 : pos = t - k) (hk : k.toInt = j + 1) (ho : ¬ (o < 0)) (ho' : o < 1000) (hm : m.toInt = p.toInt.natAbs) (hp : ¬ (p < 0)) (hj : (j : Int) < s.toInt) (hT : T.toInt = (10 ^ j : Nat)) : (f pos.toNatClampNeg).toInt = 48 + m.toInt / T.toInt % 10 := by
  have a := ssz_int p
  rw [← es, sgnI_n hp] at a
  have z0 : (0 : Int32).toInt = 0 := rfl
  have z9 : (1000 : Int32).toInt = 1000 := rfl
  have := i_nlt ho; have := i_lt ho'
  have := e_iaddN e3 (by omega)
  have := e_isubN e4 (by omega)
  have q := Q.1 j (by omega)
  rw [show o.toNatClampNeg + nz p - 1 - j = pos.toNatClampNeg by unfold nz; rw [clampNat, clampNat, sgnI_n hp]; omega] at q
  rw [q, hm, hT]
  simp
theorem dig_eq {x l a b v : Int32} {m T d r : Int64} (ed : d = m / T) (er : r = d % 10) (el : l = r.toInt32) (ea : a = 48 + l) (eb : b = a.toUInt32.toUInt16.toUInt32.toInt32) (ev : v = latc x) (hm : ¬ (m < 0)) (hT : 0 < T) (hd : x.toInt = 48 + m.toInt / T.toInt % 10) : v = b := by
  have z0 : (0 : Int64).toInt = 0 := rfl
  have z48 : (48 : Int32).toInt = 48 := rfl
  have h1 := j_nlt hm
  have h2 := j_lt hT
  have q1 := (e_ldiv ed T.toInt ⟨rfl, fun q => by rw [q] at h2; exact absurd h2 (by decide)⟩).1 (by omega)
  have p0 : 0 ≤ m.toInt / T.toInt := Int.ediv_nonneg (by omega) (by omega)
  have q2 := (e_lrem er 10).1 (by omega)
  have q3 := e_l2i el
  rw [← q1] at hd
  have q4 := e_iaddN ea (by omega)
  have q5 := e_i2c eb
  have q6 := e_latc ev
  exact o_eq (by omega)
theorem mid_at {f : Nat → Int32} {o x k : Int32} {j : Nat} {v d : Int32} (M : ∀ j, j < 12 → f (o.toNatClampNeg + j) = lvi L12 j) (ho : ¬ (o < 0)) (ho' : o < 1000) (ex : x = o + k) (hk : k.toInt = j) (hj : j < 12) (e : latc (lvi L12 j) = d) : latc (f x.toNatClampNeg) = d := by
  have z0 : (0 : Int32).toInt = 0 := rfl
  have z9 : (1000 : Int32).toInt = 1000 := rfl
  have := i_nlt ho; have := i_lt ho'
  have := e_iaddN ex (by omega)
  rw [show x.toNatClampNeg = o.toNatClampNeg + j by rw [clampNat, clampNat]; omega, M j hj, e]
theorem Snap.mid {f : Nat → Int32} {p1 p2 x : Int32} (S : Snap f p1 p2) (e : x = 32 + ssz p1) : ∀ j, j < 12 → f (x.toNatClampNeg + j) = lvi L12 j := by
  rw [(snap_pos (p2 := p2) rfl rfl e rfl rfl rfl).1.1]; exact S.2.2.1
theorem Snap.n2 {f : Nat → Int32} {p1 p2 x y : Int32} (S : Snap f p1 p2) (e : x = 32 + ssz p1) (e' : y = x + 12) : GN f y.toNatClampNeg p2 := by
  rw [(snap_pos (p2 := p2) rfl rfl e e' rfl rfl).1.2.1]; exact S.2.2.2.1
theorem Snap.last {f : Nat → Int32} {p1 p2 x y z w u : Int32} (S : Snap f p1 p2) (ex : x = 32 + ssz p1) (ey : y = x + 12) (ez : z = y + ssz p2) (ew : w = z + 1) (eu : u = w - 1) : latc (f u.toNatClampNeg) = 93 := by
  obtain ⟨s1, h1⟩ : ∃ s, s = ssz p1 := ⟨_, rfl⟩
  obtain ⟨s2, h2⟩ : ∃ s, s = ssz p2 := ⟨_, rfl⟩
  rw [← h1] at ex
  rw [← h2] at ez
  have a := snap_pos h1 h2 ex ey ez ew
  have b := nz_int h1
  have b' := nz_int h2
  have c3 : (1 : Int32).toInt = 1 := rfl
  have := e_isubN eu (by omega)
  rw [show u.toNatClampNeg = 44 + nz p1 + nz p2 by rw [clampNat]; omega, S.2.2.2.2]
  decide
abbrev TS_CS (Z : State) (w_CS : Int32) : Prop := Sta Z Z.heap "java/lang/String" "COMPACT_STRINGS" "Z" (.int w_CS)
abbrev TS_SF (Z : State) (w_SF : Value) : Prop := Sta Z Z.heap "jdk/internal/util/Preconditions" "SIOOBE_FORMATTER" "Ljava/util/function/BiFunction;" w_SF
abbrev TS_DO (Z : State) (w_DO : Addr) : Prop := Sta Z Z.heap "java/lang/Integer" "DigitOnes" "[B" (.ref w_DO)
abbrev TS_DT (Z : State) (w_DT : Addr) : Prop := Sta Z Z.heap "java/lang/Integer" "DigitTens" "[B" (.ref w_DT)
def Gl (Z : State) (w_CS : Int32) (w_SF : Value) (w_DO : Addr) (w_DT : Addr) (w_fO : Nat → Int32) (w_fT : Nat → Int32) : Prop := TS_CS Z w_CS ∧ TS_SF Z w_SF ∧ TS_DO Z w_DO ∧ TS_DT Z w_DT ∧ w_SF.isRef = true ∧ ¬ (w_CS = 0) ∧ Ary Z Z.heap w_DO ATB 100 (bv w_fO) ∧ Ary Z Z.heap w_DT ATB 100 (bv w_fT) ∧ (∀ i, i < 100 → w_fO i = Int32.ofNat (48 + i % 10)) ∧ (∀ i, i < 100 → w_fT i = Int32.ofNat (48 + i / 10))
theorem Gl.S_CS {w_CS : Int32} {w_SF : Value} {w_DO : Addr} {w_DT : Addr} {w_fO : Nat → Int32} {w_fT : Nat → Int32} (G : Gl Z w_CS w_SF w_DO w_DT w_fO w_fT) : TS_CS Z w_CS := G.1
theorem Gl.S_SF {w_CS : Int32} {w_SF : Value} {w_DO : Addr} {w_DT : Addr} {w_fO : Nat → Int32} {w_fT : Nat → Int32} (G : Gl Z w_CS w_SF w_DO w_DT w_fO w_fT) : TS_SF Z w_SF := G.2.1
theorem Gl.S_DO {w_CS : Int32} {w_SF : Value} {w_DO : Addr} {w_DT : Addr} {w_fO : Nat → Int32} {w_fT : Nat → Int32} (G : Gl Z w_CS w_SF w_DO w_DT w_fO w_fT) : TS_DO Z w_DO := G.2.2.1
theorem Gl.S_DT {w_CS : Int32} {w_SF : Value} {w_DO : Addr} {w_DT : Addr} {w_fO : Nat → Int32} {w_fT : Nat → Int32} (G : Gl Z w_CS w_SF w_DO w_DT w_fO w_fT) : TS_DT Z w_DT := G.2.2.2.1
theorem Gl.r_SF {w_CS : Int32} {w_SF : Value} {w_DO : Addr} {w_DT : Addr} {w_fO : Nat → Int32} {w_fT : Nat → Int32} (G : Gl Z w_CS w_SF w_DO w_DT w_fO w_fT) : w_SF.isRef = true := G.2.2.2.2.1
theorem Gl.h_CS {w_CS : Int32} {w_SF : Value} {w_DO : Addr} {w_DT : Addr} {w_fO : Nat → Int32} {w_fT : Nat → Int32} (G : Gl Z w_CS w_SF w_DO w_DT w_fO w_fT) : ¬ (w_CS = 0) := G.2.2.2.2.2.1
theorem Gl.A_DO {w_CS : Int32} {w_SF : Value} {w_DO : Addr} {w_DT : Addr} {w_fO : Nat → Int32} {w_fT : Nat → Int32} (G : Gl Z w_CS w_SF w_DO w_DT w_fO w_fT) : Ary Z Z.heap w_DO ATB 100 (bv w_fO) := G.2.2.2.2.2.2.1
theorem Gl.A_DT {w_CS : Int32} {w_SF : Value} {w_DO : Addr} {w_DT : Addr} {w_fO : Nat → Int32} {w_fT : Nat → Int32} (G : Gl Z w_CS w_SF w_DO w_DT w_fO w_fT) : Ary Z Z.heap w_DT ATB 100 (bv w_fT) := G.2.2.2.2.2.2.2.1
theorem Gl.h_DO {w_CS : Int32} {w_SF : Value} {w_DO : Addr} {w_DT : Addr} {w_fO : Nat → Int32} {w_fT : Nat → Int32} (G : Gl Z w_CS w_SF w_DO w_DT w_fO w_fT) : (∀ i, i < 100 → w_fO i = Int32.ofNat (48 + i % 10)) := G.2.2.2.2.2.2.2.2.1
theorem Gl.h_DT {w_CS : Int32} {w_SF : Value} {w_DO : Addr} {w_DT : Addr} {w_fO : Nat → Int32} {w_fT : Nat → Int32} (G : Gl Z w_CS w_SF w_DO w_DT w_fO w_fT) : (∀ i, i < 100 → w_fT i = Int32.ofNat (48 + i / 10)) := G.2.2.2.2.2.2.2.2.2
variable {w_CS : Int32} {w_SF : Value} {w_DO : Addr} {w_DT : Addr} {w_fO : Nat → Int32} {w_fT : Nat → Int32}
abbrev w_32 (hw : HW a0 Z) := hw.at 32 rfl
abbrev w_39 (hw : HW a0 Z) := hw.at 39 rfl
abbrev w_33 (hw : HW a0 Z) := hw.at 33 rfl
abbrev w_40 (hw : HW a0 Z) := hw.at 40 rfl
abbrev w_41 (hw : HW a0 Z) := hw.at 41 rfl
abbrev w_42 (hw : HW a0 Z) := hw.at 42 rfl
abbrev w_43 (hw : HW a0 Z) := hw.at 43 rfl
theorem strAt (hw : HW a0 Z) : ∀ a ∈ Bundle.stringAtoms, a.before a0 Z = true := allC (w_32 hw) (allC (w_39 hw) (allC (w_33 hw) (allC (w_40 hw) (allC (w_41 hw) (allC (w_42 hw) (allC (w_43 hw) (allN)))))))
abbrev w_178 (hw : HW a0 Z) := hw.at 178 rfl
abbrev w_140 (hw : HW a0 Z) := hw.at 140 rfl
abbrev w_139 (hw : HW a0 Z) := hw.at 139 rfl
abbrev w_38 (hw : HW a0 Z) := hw.at 38 rfl
theorem ewC (hw : HW a0 Z) : EW Z a0 consts_1 := (EW.cons (w_38 hw) (by decide) (EW.cons (w_139 hw) (by decide) (EW.cons (w_140 hw) (by decide) (EW.cons (w_178 hw) (by decide) EW.nil))))
theorem ssz_of {p : Int32} (L s : Nat) (hn : nd p.toInt.natAbs = L) (hs : sgnI p = s) : Int32.ofNat (L + s) = ssz p := by unfold ssz; rw [hn, hs]
theorem szn0 {p x : Int32} (e : p = x) (hp : p < 0) (b : (-10) < x) : Int32.ofNat 2 = ssz p := by
  subst e
  have := i_lt hp
  have := i_lt b
  have : (-10 : Int32).toInt = -10 := rfl
  have : (10 : Nat) ^ 0 = 1 := rfl
  have : (10 : Nat) ^ (0 + 1) = 10 := rfl
  have := rng32 p
  have : (0 : Int32).toInt = 0 := rfl
  exact ssz_of 1 1 (nd_eq 0 p.toInt.natAbs (Or.inl rfl) (by omega)) (sgnI_y hp)
theorem szp0 {p x : Int32} (e : x = -p) (hp : ¬ (p < 0)) (b : (-10) < x) : Int32.ofNat 1 = ssz p := by
  have := i_nlt hp
  have := i_lt b
  have : (-10 : Int32).toInt = -10 := rfl
  have : (10 : Nat) ^ 0 = 1 := rfl
  have : (10 : Nat) ^ (0 + 1) = 10 := rfl
  have := rng32 p
  have : (0 : Int32).toInt = 0 := rfl
  have := e_inegN e (by omega)
  exact ssz_of 1 0 (nd_eq 0 p.toInt.natAbs (Or.inl rfl) (by omega)) (sgnI_n hp)
theorem szn1 {p x : Int32} (e : p = x) (hp : p < 0) (a : ¬ ((-10) < x)) (b : (-100) < x) : Int32.ofNat 3 = ssz p := by
  subst e
  have := i_lt hp
  have := i_nlt a
  have : (-10 : Int32).toInt = -10 := rfl
  have := i_lt b
  have : (-100 : Int32).toInt = -100 := rfl
  have : (10 : Nat) ^ 1 = 10 := rfl
  have : (10 : Nat) ^ (1 + 1) = 100 := rfl
  have := rng32 p
  have : (0 : Int32).toInt = 0 := rfl
  exact ssz_of 2 1 (nd_eq 1 p.toInt.natAbs (Or.inr (by omega)) (by omega)) (sgnI_y hp)
theorem szp1 {p x : Int32} (e : x = -p) (hp : ¬ (p < 0)) (a : ¬ ((-10) < x)) (b : (-100) < x) : Int32.ofNat 2 = ssz p := by
  have := i_nlt hp
  have := i_nlt a
  have : (-10 : Int32).toInt = -10 := rfl
  have := i_lt b
  have : (-100 : Int32).toInt = -100 := rfl
  have : (10 : Nat) ^ 1 = 10 := rfl
  have : (10 : Nat) ^ (1 + 1) = 100 := rfl
  have := rng32 p
  have : (0 : Int32).toInt = 0 := rfl
  have := e_inegN e (by omega)
  exact ssz_of 2 0 (nd_eq 1 p.toInt.natAbs (Or.inr (by omega)) (by omega)) (sgnI_n hp)
theorem szn2 {p x : Int32} (e : p = x) (hp : p < 0) (a : ¬ ((-100) < x)) (b : (-1000) < x) : Int32.ofNat 4 = ssz p := by
  subst e
  have := i_lt hp
  have := i_nlt a
  have : (-100 : Int32).toInt = -100 := rfl
  have := i_lt b
  have : (-1000 : Int32).toInt = -1000 := rfl
  have : (10 : Nat) ^ 2 = 100 := rfl
  have : (10 : Nat) ^ (2 + 1) = 1000 := rfl
  have := rng32 p
  have : (0 : Int32).toInt = 0 := rfl
  exact ssz_of 3 1 (nd_eq 2 p.toInt.natAbs (Or.inr (by omega)) (by omega)) (sgnI_y hp)
theorem szp2 {p x : Int32} (e : x = -p) (hp : ¬ (p < 0)) (a : ¬ ((-100) < x)) (b : (-1000) < x) : Int32.ofNat 3 = ssz p := by
  have := i_nlt hp
  have := i_nlt a
  have : (-100 : Int32).toInt = -100 := rfl
  have := i_lt b
  have : (-1000 : Int32).toInt = -1000 := rfl
  have : (10 : Nat) ^ 2 = 100 := rfl
  have : (10 : Nat) ^ (2 + 1) = 1000 := rfl
  have := rng32 p
  have : (0 : Int32).toInt = 0 := rfl
  have := e_inegN e (by omega)
  exact ssz_of 3 0 (nd_eq 2 p.toInt.natAbs (Or.inr (by omega)) (by omega)) (sgnI_n hp)
theorem szn3 {p x : Int32} (e : p = x) (hp : p < 0) (a : ¬ ((-1000) < x)) (b : (-10000) < x) : Int32.ofNat 5 = ssz p := by
  subst e
  have := i_lt hp
  have := i_nlt a
  have : (-1000 : Int32).toInt = -1000 := rfl
  have := i_lt b
  have : (-10000 : Int32).toInt = -10000 := rfl
  have : (10 : Nat) ^ 3 = 1000 := rfl
  have : (10 : Nat) ^ (3 + 1) = 10000 := rfl
  have := rng32 p
  have : (0 : Int32).toInt = 0 := rfl
  exact ssz_of 4 1 (nd_eq 3 p.toInt.natAbs (Or.inr (by omega)) (by omega)) (sgnI_y hp)
theorem szp3 {p x : Int32} (e : x = -p) (hp : ¬ (p < 0)) (a : ¬ ((-1000) < x)) (b : (-10000) < x) : Int32.ofNat 4 = ssz p := by
  have := i_nlt hp
  have := i_nlt a
  have : (-1000 : Int32).toInt = -1000 := rfl
  have := i_lt b
  have : (-10000 : Int32).toInt = -10000 := rfl
  have : (10 : Nat) ^ 3 = 1000 := rfl
  have : (10 : Nat) ^ (3 + 1) = 10000 := rfl
  have := rng32 p
  have : (0 : Int32).toInt = 0 := rfl
  have := e_inegN e (by omega)
  exact ssz_of 4 0 (nd_eq 3 p.toInt.natAbs (Or.inr (by omega)) (by omega)) (sgnI_n hp)
theorem szn4 {p x : Int32} (e : p = x) (hp : p < 0) (a : ¬ ((-10000) < x)) (b : (-100000) < x) : Int32.ofNat 6 = ssz p := by
  subst e
  have := i_lt hp
  have := i_nlt a
  have : (-10000 : Int32).toInt = -10000 := rfl
  have := i_lt b
  have : (-100000 : Int32).toInt = -100000 := rfl
  have : (10 : Nat) ^ 4 = 10000 := rfl
  have : (10 : Nat) ^ (4 + 1) = 100000 := rfl
  have := rng32 p
  have : (0 : Int32).toInt = 0 := rfl
  exact ssz_of 5 1 (nd_eq 4 p.toInt.natAbs (Or.inr (by omega)) (by omega)) (sgnI_y hp)
theorem szp4 {p x : Int32} (e : x = -p) (hp : ¬ (p < 0)) (a : ¬ ((-10000) < x)) (b : (-100000) < x) : Int32.ofNat 5 = ssz p := by
  have := i_nlt hp
  have := i_nlt a
  have : (-10000 : Int32).toInt = -10000 := rfl
  have := i_lt b
  have : (-100000 : Int32).toInt = -100000 := rfl
  have : (10 : Nat) ^ 4 = 10000 := rfl
  have : (10 : Nat) ^ (4 + 1) = 100000 := rfl
  have := rng32 p
  have : (0 : Int32).toInt = 0 := rfl
  have := e_inegN e (by omega)
  exact ssz_of 5 0 (nd_eq 4 p.toInt.natAbs (Or.inr (by omega)) (by omega)) (sgnI_n hp)
theorem szn5 {p x : Int32} (e : p = x) (hp : p < 0) (a : ¬ ((-100000) < x)) (b : (-1000000) < x) : Int32.ofNat 7 = ssz p := by
  subst e
  have := i_lt hp
  have := i_nlt a
  have : (-100000 : Int32).toInt = -100000 := rfl
  have := i_lt b
  have : (-1000000 : Int32).toInt = -1000000 := rfl
  have : (10 : Nat) ^ 5 = 100000 := rfl
  have : (10 : Nat) ^ (5 + 1) = 1000000 := rfl
  have := rng32 p
  have : (0 : Int32).toInt = 0 := rfl
  exact ssz_of 6 1 (nd_eq 5 p.toInt.natAbs (Or.inr (by omega)) (by omega)) (sgnI_y hp)
theorem szp5 {p x : Int32} (e : x = -p) (hp : ¬ (p < 0)) (a : ¬ ((-100000) < x)) (b : (-1000000) < x) : Int32.ofNat 6 = ssz p := by
  have := i_nlt hp
  have := i_nlt a
  have : (-100000 : Int32).toInt = -100000 := rfl
  have := i_lt b
  have : (-1000000 : Int32).toInt = -1000000 := rfl
  have : (10 : Nat) ^ 5 = 100000 := rfl
  have : (10 : Nat) ^ (5 + 1) = 1000000 := rfl
  have := rng32 p
  have : (0 : Int32).toInt = 0 := rfl
  have := e_inegN e (by omega)
  exact ssz_of 6 0 (nd_eq 5 p.toInt.natAbs (Or.inr (by omega)) (by omega)) (sgnI_n hp)
theorem szn6 {p x : Int32} (e : p = x) (hp : p < 0) (a : ¬ ((-1000000) < x)) (b : (-10000000) < x) : Int32.ofNat 8 = ssz p := by
  subst e
  have := i_lt hp
  have := i_nlt a
  have : (-1000000 : Int32).toInt = -1000000 := rfl
  have := i_lt b
  have : (-10000000 : Int32).toInt = -10000000 := rfl
  have : (10 : Nat) ^ 6 = 1000000 := rfl
  have : (10 : Nat) ^ (6 + 1) = 10000000 := rfl
  have := rng32 p
  have : (0 : Int32).toInt = 0 := rfl
  exact ssz_of 7 1 (nd_eq 6 p.toInt.natAbs (Or.inr (by omega)) (by omega)) (sgnI_y hp)
theorem szp6 {p x : Int32} (e : x = -p) (hp : ¬ (p < 0)) (a : ¬ ((-1000000) < x)) (b : (-10000000) < x) : Int32.ofNat 7 = ssz p := by
  have := i_nlt hp
  have := i_nlt a
  have : (-1000000 : Int32).toInt = -1000000 := rfl
  have := i_lt b
  have : (-10000000 : Int32).toInt = -10000000 := rfl
  have : (10 : Nat) ^ 6 = 1000000 := rfl
  have : (10 : Nat) ^ (6 + 1) = 10000000 := rfl
  have := rng32 p
  have : (0 : Int32).toInt = 0 := rfl
  have := e_inegN e (by omega)
  exact ssz_of 7 0 (nd_eq 6 p.toInt.natAbs (Or.inr (by omega)) (by omega)) (sgnI_n hp)
theorem szn7 {p x : Int32} (e : p = x) (hp : p < 0) (a : ¬ ((-10000000) < x)) (b : (-100000000) < x) : Int32.ofNat 9 = ssz p := by
  subst e
  have := i_lt hp
  have := i_nlt a
  have : (-10000000 : Int32).toInt = -10000000 := rfl
  have := i_lt b
  have : (-100000000 : Int32).toInt = -100000000 := rfl
  have : (10 : Nat) ^ 7 = 10000000 := rfl
  have : (10 : Nat) ^ (7 + 1) = 100000000 := rfl
  have := rng32 p
  have : (0 : Int32).toInt = 0 := rfl
  exact ssz_of 8 1 (nd_eq 7 p.toInt.natAbs (Or.inr (by omega)) (by omega)) (sgnI_y hp)
theorem szp7 {p x : Int32} (e : x = -p) (hp : ¬ (p < 0)) (a : ¬ ((-10000000) < x)) (b : (-100000000) < x) : Int32.ofNat 8 = ssz p := by
  have := i_nlt hp
  have := i_nlt a
  have : (-10000000 : Int32).toInt = -10000000 := rfl
  have := i_lt b
  have : (-100000000 : Int32).toInt = -100000000 := rfl
  have : (10 : Nat) ^ 7 = 10000000 := rfl
  have : (10 : Nat) ^ (7 + 1) = 100000000 := rfl
  have := rng32 p
  have : (0 : Int32).toInt = 0 := rfl
  have := e_inegN e (by omega)
  exact ssz_of 8 0 (nd_eq 7 p.toInt.natAbs (Or.inr (by omega)) (by omega)) (sgnI_n hp)
theorem szn8 {p x : Int32} (e : p = x) (hp : p < 0) (a : ¬ ((-100000000) < x)) (b : (-1000000000) < x) : Int32.ofNat 10 = ssz p := by
  subst e
  have := i_lt hp
  have := i_nlt a
  have : (-100000000 : Int32).toInt = -100000000 := rfl
  have := i_lt b
  have : (-1000000000 : Int32).toInt = -1000000000 := rfl
  have : (10 : Nat) ^ 8 = 100000000 := rfl
  have : (10 : Nat) ^ (8 + 1) = 1000000000 := rfl
  have := rng32 p
  have : (0 : Int32).toInt = 0 := rfl
  exact ssz_of 9 1 (nd_eq 8 p.toInt.natAbs (Or.inr (by omega)) (by omega)) (sgnI_y hp)
theorem szp8 {p x : Int32} (e : x = -p) (hp : ¬ (p < 0)) (a : ¬ ((-100000000) < x)) (b : (-1000000000) < x) : Int32.ofNat 9 = ssz p := by
  have := i_nlt hp
  have := i_nlt a
  have : (-100000000 : Int32).toInt = -100000000 := rfl
  have := i_lt b
  have : (-1000000000 : Int32).toInt = -1000000000 := rfl
  have : (10 : Nat) ^ 8 = 100000000 := rfl
  have : (10 : Nat) ^ (8 + 1) = 1000000000 := rfl
  have := rng32 p
  have : (0 : Int32).toInt = 0 := rfl
  have := e_inegN e (by omega)
  exact ssz_of 9 0 (nd_eq 8 p.toInt.natAbs (Or.inr (by omega)) (by omega)) (sgnI_n hp)
theorem szn9 {p x : Int32} (e : p = x) (hp : p < 0) (a : ¬ ((-1000000000) < x)) : Int32.ofNat 11 = ssz p := by
  subst e
  have := i_lt hp
  have := i_nlt a
  have : (-1000000000 : Int32).toInt = -1000000000 := rfl
  have : (10 : Nat) ^ 9 = 1000000000 := rfl
  have : (10 : Nat) ^ (9 + 1) = 10000000000 := rfl
  have := rng32 p
  have : (0 : Int32).toInt = 0 := rfl
  exact ssz_of 10 1 (nd_eq 9 p.toInt.natAbs (Or.inr (by omega)) (by omega)) (sgnI_y hp)
theorem szp9 {p x : Int32} (e : x = -p) (hp : ¬ (p < 0)) (a : ¬ ((-1000000000) < x)) : Int32.ofNat 10 = ssz p := by
  have := i_nlt hp
  have := i_nlt a
  have : (-1000000000 : Int32).toInt = -1000000000 := rfl
  have : (10 : Nat) ^ 9 = 1000000000 := rfl
  have : (10 : Nat) ^ (9 + 1) = 10000000000 := rfl
  have := rng32 p
  have : (0 : Int32).toInt = 0 := rfl
  have := e_inegN e (by omega)
  exact ssz_of 10 0 (nd_eq 9 p.toInt.natAbs (Or.inr (by omega)) (by omega)) (sgnI_n hp)
abbrev Y0 : MethodName := ⟨"java/lang/Integer", "stringSize", "(I)I"⟩
abbrev J0 := jdk_33_method_13_code
abbrev C0 : Cond := .code Y0 J0 4 (some .int)
theorem D0_0 : Dc J0 0 (.iconst 1) 1 1 := by decide +kernel
theorem D0_1 : Dc J0 1 (.istore_n 1) 1 2 := by decide +kernel
theorem sto1 {x0 x : Slot} {t : List Slot} {v : Value} (hx : okS x = true := by rfl) (hv : v.category = 1 := by rfl) : storeLocals (List.toArray (x0 :: x :: t)) 1 v = some (List.toArray (x0 :: .val v :: t)) := stoA (A := [x0]) hx hv
theorem D0_2 : Dc J0 2 (.iload_n 0) 1 3 := by decide +kernel
theorem D0_3 : Dj J0 3 (.ifCond .lt 8) 8 6 11 := by decide +kernel
theorem D0_11 : Dc J0 11 (.bipush (-10)) 2 13 := by decide +kernel
theorem D0_13 : Dc J0 13 (.istore_n 2) 1 14 := by decide +kernel
theorem sto2 {x0 x1 x : Slot} {t : List Slot} {v : Value} (hx : okS x = true := by rfl) (hv : v.category = 1 := by rfl) : storeLocals (List.toArray (x0 :: x1 :: x :: t)) 2 v = some (List.toArray (x0 :: x1 :: .val v :: t)) := stoA (A := [x0, x1]) hx hv
theorem D0_14 : Dc J0 14 (.iconst 1) 1 15 := by decide +kernel
theorem D0_15 : Dc J0 15 (.istore_n 3) 1 16 := by decide +kernel
theorem sto3 {x0 x1 x2 x : Slot} {t : List Slot} {v : Value} (hx : okS x = true := by rfl) (hv : v.category = 1 := by rfl) : storeLocals (List.toArray (x0 :: x1 :: x2 :: x :: t)) 3 v = some (List.toArray (x0 :: x1 :: x2 :: .val v :: t)) := stoA (A := [x0, x1, x2]) hx hv
theorem D0_16 : Dc J0 16 (.iload_n 3) 1 17 := by decide +kernel
theorem D0_17 : Dc J0 17 (.bipush 10) 2 19 := by decide +kernel
theorem D0_19 : Dj J0 19 (.if_icmp .ge 23) 23 22 42 := by decide +kernel
theorem D0_22 : Dc J0 22 (.iload_n 0) 1 23 := by decide +kernel
theorem D0_23 : Dc J0 23 (.iload_n 2) 1 24 := by decide +kernel
theorem D0_24 : Dj J0 24 (.if_icmp .le 7) 7 27 31 := by decide +kernel
theorem D0_27 : Dc J0 27 (.iload_n 3) 1 28 := by decide +kernel
theorem D0_28 : Dc J0 28 (.iload_n 1) 1 29 := by decide +kernel
theorem D0_29 : Dc J0 29 .iadd 1 30 := by decide +kernel
theorem D0_30 : Dc J0 30 .ireturn 1 31 := by decide +kernel
theorem D0_31 : Dc J0 31 (.bipush 10) 2 33 := by decide +kernel
theorem D0_33 : Dc J0 33 (.iload_n 2) 1 34 := by decide +kernel
theorem D0_34 : Dc J0 34 .imul 1 35 := by decide +kernel
theorem D0_35 : Dc J0 35 (.istore_n 2) 1 36 := by decide +kernel
theorem D0_36 : Dc J0 36 (.iinc 3 1) 3 39 := by decide +kernel
theorem D0_39 : Dj J0 39 (.goto (-23)) (-23) 42 16 := by decide +kernel
theorem D0_42 : Dc J0 42 (.bipush 10) 2 44 := by decide +kernel
theorem D0_44 : Dc J0 44 (.iload_n 1) 1 45 := by decide +kernel
theorem D0_45 : Dc J0 45 .iadd 1 46 := by decide +kernel
theorem D0_46 : Dc J0 46 .ireturn 1 47 := by decide +kernel
theorem D0_6 : Dc J0 6 (.iconst 0) 1 7 := by decide +kernel
theorem D0_7 : Dc J0 7 (.istore_n 1) 1 8 := by decide +kernel
theorem D0_8 : Dc J0 8 (.iload_n 0) 1 9 := by decide +kernel
theorem D0_9 : Dc J0 9 .ineg 1 10 := by decide +kernel
theorem D0_10 : Dc J0 10 (.istore_n 0) 1 11 := by decide +kernel
theorem sto0 { x : Slot} {t : List Slot} {v : Value} (hx : okS x = true := by rfl) (hv : v.category = 1 := by rfl) : storeLocals (List.toArray (x :: t)) 0 v = some (List.toArray (.val v :: t)) := stoA (A := []) hx hv
theorem pn_Integer : plainName "java/lang/Integer" = true := by first | (simp [plainName, overriddenIn]; done) | decide +kernel
theorem PN0 : plainFor Y0 = true := plainFor_of_name pn_Integer
theorem ef_I_4 {x0 : Int32}  (m : MethodId) : entryFrame m #[(.int x0)] 4 = mkF m 0 #[.val (.int x0), .unset, .unset, .unset] [] := by
  first | (simp [entryFrame, mkF, argsToLocals, Value.category]; done) | rfl
theorem R_ssz {p1 : Int32} (hw : HW a0 Z) (G : Gl Z w_CS w_SF w_DO w_DT w_fO w_fT) : Mt false [] l Y0 C0 (rmk 0 0 0 0) #[.int p1] Z a0 h0 n0 (Pv h0 (.int (ssz p1))) := by
  refine Mt.go PN0 (Or.inl rfl) ef_I_4 fun k => ?_
  replace k := k |>.iconst D0_0 1 |>.istoreN D0_1 sto1 |>.iloadN D0_2 rfl
  by_cases hc3_1 : p1 < 0
  · replace k := k |>.ifYes D0_3 ((if0 _ _).trans (tlt hc3_1).1) |>.bipush D0_11 (-10) |>.istoreN D0_13 sto2 |>.iconst D0_14 1 |>.istoreN D0_15 sto3 |>.iloadN D0_16 rfl |>.bipush D0_17 10 |>.icmpNo D0_19  |>.iloadN D0_22 rfl |>.iloadN D0_23 rfl
    by_cases hc24_2 : (-10) < p1
    · replace k := k |>.icmpNo D0_24 (tlt hc24_2).2.2.2 |>.iloadN D0_27 rfl |>.iloadN D0_28 rfl |>.iadd D0_29 (z := 2)
      exact k.retI D0_30 rfl ⟨congrArg some (congrArg Value.int (szn0 rfl hc3_1 hc24_2)), rfl⟩
    · replace k := k |>.icmpYes D0_24 (flt hc24_2).2.2.2 |>.bipush D0_31 10 |>.iloadN D0_33 rfl |>.imul D0_34 (z := (-100)) |>.istoreN D0_35 sto2 |>.iinc D0_36 rfl (z := 2) (by decide) sto3 |>.goto D0_39 |>.iloadN D0_16 rfl |>.bipush D0_17 10 |>.icmpNo D0_19  |>.iloadN D0_22 rfl |>.iloadN D0_23 rfl
      by_cases hc24_3 : (-100) < p1
      · replace k := k |>.icmpNo D0_24 (tlt hc24_3).2.2.2 |>.iloadN D0_27 rfl |>.iloadN D0_28 rfl |>.iadd D0_29 (z := 3)
        exact k.retI D0_30 rfl ⟨congrArg some (congrArg Value.int (szn1 rfl hc3_1 hc24_2 hc24_3)), rfl⟩
      · replace k := k |>.icmpYes D0_24 (flt hc24_3).2.2.2 |>.bipush D0_31 10 |>.iloadN D0_33 rfl |>.imul D0_34 (z := (-1000)) |>.istoreN D0_35 sto2 |>.iinc D0_36 rfl (z := 3) (by decide) sto3 |>.goto D0_39 |>.iloadN D0_16 rfl |>.bipush D0_17 10 |>.icmpNo D0_19  |>.iloadN D0_22 rfl |>.iloadN D0_23 rfl
        by_cases hc24_4 : (-1000) < p1
        · replace k := k |>.icmpNo D0_24 (tlt hc24_4).2.2.2 |>.iloadN D0_27 rfl |>.iloadN D0_28 rfl |>.iadd D0_29 (z := 4)
          exact k.retI D0_30 rfl ⟨congrArg some (congrArg Value.int (szn2 rfl hc3_1 hc24_3 hc24_4)), rfl⟩
        · replace k := k |>.icmpYes D0_24 (flt hc24_4).2.2.2 |>.bipush D0_31 10 |>.iloadN D0_33 rfl |>.imul D0_34 (z := (-10000)) |>.istoreN D0_35 sto2 |>.iinc D0_36 rfl (z := 4) (by decide) sto3 |>.goto D0_39 |>.iloadN D0_16 rfl |>.bipush D0_17 10 |>.icmpNo D0_19  |>.iloadN D0_22 rfl |>.iloadN D0_23 rfl
          by_cases hc24_5 : (-10000) < p1
          · replace k := k |>.icmpNo D0_24 (tlt hc24_5).2.2.2 |>.iloadN D0_27 rfl |>.iloadN D0_28 rfl |>.iadd D0_29 (z := 5)
            exact k.retI D0_30 rfl ⟨congrArg some (congrArg Value.int (szn3 rfl hc3_1 hc24_4 hc24_5)), rfl⟩
          · replace k := k |>.icmpYes D0_24 (flt hc24_5).2.2.2 |>.bipush D0_31 10 |>.iloadN D0_33 rfl |>.imul D0_34 (z := (-100000)) |>.istoreN D0_35 sto2 |>.iinc D0_36 rfl (z := 5) (by decide) sto3 |>.goto D0_39 |>.iloadN D0_16 rfl |>.bipush D0_17 10 |>.icmpNo D0_19  |>.iloadN D0_22 rfl |>.iloadN D0_23 rfl
            by_cases hc24_6 : (-100000) < p1
            · replace k := k |>.icmpNo D0_24 (tlt hc24_6).2.2.2 |>.iloadN D0_27 rfl |>.iloadN D0_28 rfl |>.iadd D0_29 (z := 6)
              exact k.retI D0_30 rfl ⟨congrArg some (congrArg Value.int (szn4 rfl hc3_1 hc24_5 hc24_6)), rfl⟩
            · replace k := k |>.icmpYes D0_24 (flt hc24_6).2.2.2 |>.bipush D0_31 10 |>.iloadN D0_33 rfl |>.imul D0_34 (z := (-1000000)) |>.istoreN D0_35 sto2 |>.iinc D0_36 rfl (z := 6) (by decide) sto3 |>.goto D0_39 |>.iloadN D0_16 rfl |>.bipush D0_17 10 |>.icmpNo D0_19  |>.iloadN D0_22 rfl |>.iloadN D0_23 rfl
              by_cases hc24_7 : (-1000000) < p1
              · replace k := k |>.icmpNo D0_24 (tlt hc24_7).2.2.2 |>.iloadN D0_27 rfl |>.iloadN D0_28 rfl |>.iadd D0_29 (z := 7)
                exact k.retI D0_30 rfl ⟨congrArg some (congrArg Value.int (szn5 rfl hc3_1 hc24_6 hc24_7)), rfl⟩
              · replace k := k |>.icmpYes D0_24 (flt hc24_7).2.2.2 |>.bipush D0_31 10 |>.iloadN D0_33 rfl |>.imul D0_34 (z := (-10000000)) |>.istoreN D0_35 sto2 |>.iinc D0_36 rfl (z := 7) (by decide) sto3 |>.goto D0_39 |>.iloadN D0_16 rfl |>.bipush D0_17 10 |>.icmpNo D0_19  |>.iloadN D0_22 rfl |>.iloadN D0_23 rfl
                by_cases hc24_8 : (-10000000) < p1
                · replace k := k |>.icmpNo D0_24 (tlt hc24_8).2.2.2 |>.iloadN D0_27 rfl |>.iloadN D0_28 rfl |>.iadd D0_29 (z := 8)
                  exact k.retI D0_30 rfl ⟨congrArg some (congrArg Value.int (szn6 rfl hc3_1 hc24_7 hc24_8)), rfl⟩
                · replace k := k |>.icmpYes D0_24 (flt hc24_8).2.2.2 |>.bipush D0_31 10 |>.iloadN D0_33 rfl |>.imul D0_34 (z := (-100000000)) |>.istoreN D0_35 sto2 |>.iinc D0_36 rfl (z := 8) (by decide) sto3 |>.goto D0_39 |>.iloadN D0_16 rfl |>.bipush D0_17 10 |>.icmpNo D0_19  |>.iloadN D0_22 rfl |>.iloadN D0_23 rfl
                  by_cases hc24_9 : (-100000000) < p1
                  · replace k := k |>.icmpNo D0_24 (tlt hc24_9).2.2.2 |>.iloadN D0_27 rfl |>.iloadN D0_28 rfl |>.iadd D0_29 (z := 9)
                    exact k.retI D0_30 rfl ⟨congrArg some (congrArg Value.int (szn7 rfl hc3_1 hc24_8 hc24_9)), rfl⟩
                  · replace k := k |>.icmpYes D0_24 (flt hc24_9).2.2.2 |>.bipush D0_31 10 |>.iloadN D0_33 rfl |>.imul D0_34 (z := (-1000000000)) |>.istoreN D0_35 sto2 |>.iinc D0_36 rfl (z := 9) (by decide) sto3 |>.goto D0_39 |>.iloadN D0_16 rfl |>.bipush D0_17 10 |>.icmpNo D0_19  |>.iloadN D0_22 rfl |>.iloadN D0_23 rfl
                    by_cases hc24_10 : (-1000000000) < p1
                    · replace k := k |>.icmpNo D0_24 (tlt hc24_10).2.2.2 |>.iloadN D0_27 rfl |>.iloadN D0_28 rfl |>.iadd D0_29 (z := 10)
                      exact k.retI D0_30 rfl ⟨congrArg some (congrArg Value.int (szn8 rfl hc3_1 hc24_9 hc24_10)), rfl⟩
                    · replace k := k |>.icmpYes D0_24 (flt hc24_10).2.2.2 |>.bipush D0_31 10 |>.iloadN D0_33 rfl |>.imul D0_34 (z := (-1410065408)) |>.istoreN D0_35 sto2 |>.iinc D0_36 rfl (z := 10) (by decide) sto3 |>.goto D0_39 |>.iloadN D0_16 rfl |>.bipush D0_17 10 |>.icmpYes D0_19  |>.bipush D0_42 10 |>.iloadN D0_44 rfl
                      replace k := k |>.iadd D0_45 (z := 11)
                      exact k.retI D0_46 rfl ⟨congrArg some (congrArg Value.int (szn9 rfl hc3_1 hc24_10)), rfl⟩
  · replace k := k |>.ifNo D0_3 ((if0 _ _).trans (flt hc3_1).1) |>.iconst D0_6 0 |>.istoreN D0_7 sto1 |>.iloadN D0_8 rfl |>.ineg D0_9 rfl |>.istoreN D0_10 sto0 |>.bipush D0_11 (-10) |>.istoreN D0_13 sto2 |>.iconst D0_14 1 |>.istoreN D0_15 sto3 |>.iloadN D0_16 rfl |>.bipush D0_17 10
    replace k := k |>.icmpNo D0_19  |>.iloadN D0_22 rfl |>.iloadN D0_23 rfl
    by_cases hc24_11 : (-10) < (-p1)
    · replace k := k |>.icmpNo D0_24 (tlt hc24_11).2.2.2 |>.iloadN D0_27 rfl |>.iloadN D0_28 rfl |>.iadd D0_29 (z := 1)
      exact k.retI D0_30 rfl ⟨congrArg some (congrArg Value.int (szp0 rfl hc3_1 hc24_11)), rfl⟩
    · replace k := k |>.icmpYes D0_24 (flt hc24_11).2.2.2 |>.bipush D0_31 10 |>.iloadN D0_33 rfl |>.imul D0_34 (z := (-100)) |>.istoreN D0_35 sto2 |>.iinc D0_36 rfl (z := 2) (by decide) sto3 |>.goto D0_39 |>.iloadN D0_16 rfl |>.bipush D0_17 10 |>.icmpNo D0_19  |>.iloadN D0_22 rfl |>.iloadN D0_23 rfl
      by_cases hc24_12 : (-100) < (-p1)
      · replace k := k |>.icmpNo D0_24 (tlt hc24_12).2.2.2 |>.iloadN D0_27 rfl |>.iloadN D0_28 rfl |>.iadd D0_29 (z := 2)
        exact k.retI D0_30 rfl ⟨congrArg some (congrArg Value.int (szp1 rfl hc3_1 hc24_11 hc24_12)), rfl⟩
      · replace k := k |>.icmpYes D0_24 (flt hc24_12).2.2.2 |>.bipush D0_31 10 |>.iloadN D0_33 rfl |>.imul D0_34 (z := (-1000)) |>.istoreN D0_35 sto2 |>.iinc D0_36 rfl (z := 3) (by decide) sto3 |>.goto D0_39 |>.iloadN D0_16 rfl |>.bipush D0_17 10 |>.icmpNo D0_19  |>.iloadN D0_22 rfl |>.iloadN D0_23 rfl
        by_cases hc24_13 : (-1000) < (-p1)
        · replace k := k |>.icmpNo D0_24 (tlt hc24_13).2.2.2 |>.iloadN D0_27 rfl |>.iloadN D0_28 rfl |>.iadd D0_29 (z := 3)
          exact k.retI D0_30 rfl ⟨congrArg some (congrArg Value.int (szp2 rfl hc3_1 hc24_12 hc24_13)), rfl⟩
        · replace k := k |>.icmpYes D0_24 (flt hc24_13).2.2.2 |>.bipush D0_31 10 |>.iloadN D0_33 rfl |>.imul D0_34 (z := (-10000)) |>.istoreN D0_35 sto2 |>.iinc D0_36 rfl (z := 4) (by decide) sto3 |>.goto D0_39 |>.iloadN D0_16 rfl |>.bipush D0_17 10 |>.icmpNo D0_19  |>.iloadN D0_22 rfl |>.iloadN D0_23 rfl
          by_cases hc24_14 : (-10000) < (-p1)
          · replace k := k |>.icmpNo D0_24 (tlt hc24_14).2.2.2 |>.iloadN D0_27 rfl |>.iloadN D0_28 rfl |>.iadd D0_29 (z := 4)
            exact k.retI D0_30 rfl ⟨congrArg some (congrArg Value.int (szp3 rfl hc3_1 hc24_13 hc24_14)), rfl⟩
          · replace k := k |>.icmpYes D0_24 (flt hc24_14).2.2.2 |>.bipush D0_31 10 |>.iloadN D0_33 rfl |>.imul D0_34 (z := (-100000)) |>.istoreN D0_35 sto2 |>.iinc D0_36 rfl (z := 5) (by decide) sto3 |>.goto D0_39 |>.iloadN D0_16 rfl |>.bipush D0_17 10 |>.icmpNo D0_19  |>.iloadN D0_22 rfl |>.iloadN D0_23 rfl
            by_cases hc24_15 : (-100000) < (-p1)
            · replace k := k |>.icmpNo D0_24 (tlt hc24_15).2.2.2 |>.iloadN D0_27 rfl |>.iloadN D0_28 rfl |>.iadd D0_29 (z := 5)
              exact k.retI D0_30 rfl ⟨congrArg some (congrArg Value.int (szp4 rfl hc3_1 hc24_14 hc24_15)), rfl⟩
            · replace k := k |>.icmpYes D0_24 (flt hc24_15).2.2.2 |>.bipush D0_31 10 |>.iloadN D0_33 rfl |>.imul D0_34 (z := (-1000000)) |>.istoreN D0_35 sto2 |>.iinc D0_36 rfl (z := 6) (by decide) sto3 |>.goto D0_39 |>.iloadN D0_16 rfl |>.bipush D0_17 10 |>.icmpNo D0_19  |>.iloadN D0_22 rfl |>.iloadN D0_23 rfl
              by_cases hc24_16 : (-1000000) < (-p1)
              · replace k := k |>.icmpNo D0_24 (tlt hc24_16).2.2.2 |>.iloadN D0_27 rfl |>.iloadN D0_28 rfl |>.iadd D0_29 (z := 6)
                exact k.retI D0_30 rfl ⟨congrArg some (congrArg Value.int (szp5 rfl hc3_1 hc24_15 hc24_16)), rfl⟩
              · replace k := k |>.icmpYes D0_24 (flt hc24_16).2.2.2 |>.bipush D0_31 10 |>.iloadN D0_33 rfl |>.imul D0_34 (z := (-10000000)) |>.istoreN D0_35 sto2 |>.iinc D0_36 rfl (z := 7) (by decide) sto3 |>.goto D0_39 |>.iloadN D0_16 rfl |>.bipush D0_17 10 |>.icmpNo D0_19  |>.iloadN D0_22 rfl |>.iloadN D0_23 rfl
                by_cases hc24_17 : (-10000000) < (-p1)
                · replace k := k |>.icmpNo D0_24 (tlt hc24_17).2.2.2 |>.iloadN D0_27 rfl |>.iloadN D0_28 rfl |>.iadd D0_29 (z := 7)
                  exact k.retI D0_30 rfl ⟨congrArg some (congrArg Value.int (szp6 rfl hc3_1 hc24_16 hc24_17)), rfl⟩
                · replace k := k |>.icmpYes D0_24 (flt hc24_17).2.2.2 |>.bipush D0_31 10 |>.iloadN D0_33 rfl |>.imul D0_34 (z := (-100000000)) |>.istoreN D0_35 sto2 |>.iinc D0_36 rfl (z := 8) (by decide) sto3 |>.goto D0_39 |>.iloadN D0_16 rfl |>.bipush D0_17 10 |>.icmpNo D0_19  |>.iloadN D0_22 rfl |>.iloadN D0_23 rfl
                  by_cases hc24_18 : (-100000000) < (-p1)
                  · replace k := k |>.icmpNo D0_24 (tlt hc24_18).2.2.2 |>.iloadN D0_27 rfl |>.iloadN D0_28 rfl |>.iadd D0_29 (z := 8)
                    exact k.retI D0_30 rfl ⟨congrArg some (congrArg Value.int (szp7 rfl hc3_1 hc24_17 hc24_18)), rfl⟩
                  · replace k := k |>.icmpYes D0_24 (flt hc24_18).2.2.2 |>.bipush D0_31 10 |>.iloadN D0_33 rfl |>.imul D0_34 (z := (-1000000000)) |>.istoreN D0_35 sto2 |>.iinc D0_36 rfl (z := 9) (by decide) sto3 |>.goto D0_39 |>.iloadN D0_16 rfl |>.bipush D0_17 10 |>.icmpNo D0_19  |>.iloadN D0_22 rfl |>.iloadN D0_23 rfl
                    by_cases hc24_19 : (-1000000000) < (-p1)
                    · replace k := k |>.icmpNo D0_24 (tlt hc24_19).2.2.2 |>.iloadN D0_27 rfl |>.iloadN D0_28 rfl |>.iadd D0_29 (z := 9)
                      exact k.retI D0_30 rfl ⟨congrArg some (congrArg Value.int (szp8 rfl hc3_1 hc24_18 hc24_19)), rfl⟩
                    · replace k := k |>.icmpYes D0_24 (flt hc24_19).2.2.2 |>.bipush D0_31 10 |>.iloadN D0_33 rfl |>.imul D0_34 (z := (-1410065408)) |>.istoreN D0_35 sto2 |>.iinc D0_36 rfl (z := 10) (by decide) sto3 |>.goto D0_39 |>.iloadN D0_16 rfl |>.bipush D0_17 10 |>.icmpYes D0_19  |>.bipush D0_42 10 |>.iloadN D0_44 rfl
                      replace k := k |>.iadd D0_45 (z := 10)
                      exact k.retI D0_46 rfl ⟨congrArg some (congrArg Value.int (szp9 rfl hc3_1 hc24_19)), rfl⟩
abbrev Y1 : MethodName := ⟨"java/lang/Integer", "getChars", "(II[B)I"⟩
abbrev J1 := jdk_33_method_12_code
abbrev C1 : Cond := .code Y1 J1 7 (some .int)
theorem D1_22 : Dc J1 22 (.iload_n 0) 1 23 := by decide +kernel
theorem D1_23 : Dc J1 23 (.bipush (-100)) 2 25 := by decide +kernel
theorem D1_25 : Dj J1 25 (.if_icmp .gt 47) 47 28 72 := by decide +kernel
theorem D1_28 : Dc J1 28 (.iload_n 0) 1 29 := by decide +kernel
theorem D1_29 : Dc J1 29 (.bipush 100) 2 31 := by decide +kernel
theorem D1_31 : Dc J1 31 .idiv 1 32 := by decide +kernel
theorem D1_32 : Dc J1 32 (.istore_n 3) 1 33 := by decide +kernel
theorem D1_33 : Dc J1 33 (.iload_n 3) 1 34 := by decide +kernel
theorem D1_34 : Dc J1 34 (.bipush 100) 2 36 := by decide +kernel
theorem D1_36 : Dc J1 36 .imul 1 37 := by decide +kernel
theorem D1_37 : Dc J1 37 (.iload_n 0) 1 38 := by decide +kernel
theorem D1_38 : Dc J1 38 .isub 1 39 := by decide +kernel
theorem D1_39 : Dc J1 39 (.istore 4) 2 41 := by decide +kernel
theorem sto4 {x0 x1 x2 x3 x : Slot} {t : List Slot} {v : Value} (hx : okS x = true := by rfl) (hv : v.category = 1 := by rfl) : storeLocals (List.toArray (x0 :: x1 :: x2 :: x3 :: x :: t)) 4 v = some (List.toArray (x0 :: x1 :: x2 :: x3 :: .val v :: t)) := stoA (A := [x0, x1, x2, x3]) hx hv
theorem D1_41 : Dc J1 41 (.iload_n 3) 1 42 := by decide +kernel
theorem D1_42 : Dc J1 42 (.istore_n 0) 1 43 := by decide +kernel
theorem D1_43 : Dc J1 43 (.aload_n 2) 1 44 := by decide +kernel
theorem D1_44 : Dc J1 44 (.iinc 5 (-1)) 3 47 := by decide +kernel
theorem sto5 {x0 x1 x2 x3 x4 x : Slot} {t : List Slot} {v : Value} (hx : okS x = true := by rfl) (hv : v.category = 1 := by rfl) : storeLocals (List.toArray (x0 :: x1 :: x2 :: x3 :: x4 :: x :: t)) 5 v = some (List.toArray (x0 :: x1 :: x2 :: x3 :: x4 :: .val v :: t)) := stoA (A := [x0, x1, x2, x3, x4]) hx hv
theorem D1_47 : Dc J1 47 (.iload 5) 2 49 := by decide +kernel
theorem D1_49 : Dc J1 49 (.getstatic 83) 3 52 := by decide +kernel
abbrev w_138 (hw : HW a0 Z) := hw.at 138 rfl
theorem fl_138 (hw : HW a0 Z) : FL Z a0 "java/lang/Integer" 83 "java/lang/Integer" "DigitOnes" "[B" := ⟨_, "", Or.inl (w_138 hw), Via.refl⟩
theorem D1_52 : Dc J1 52 (.iload 4) 2 54 := by decide +kernel
theorem D1_54 : Dc J1 54 .baload 1 55 := by decide +kernel
theorem D1_55 : Dc J1 55 .bastore 1 56 := by decide +kernel
theorem D1_56 : Dc J1 56 (.aload_n 2) 1 57 := by decide +kernel
theorem D1_57 : Dc J1 57 (.iinc 5 (-1)) 3 60 := by decide +kernel
theorem D1_60 : Dc J1 60 (.iload 5) 2 62 := by decide +kernel
theorem D1_62 : Dc J1 62 (.getstatic 87) 3 65 := by decide +kernel
abbrev w_234 (hw : HW a0 Z) := hw.at 234 rfl
theorem fl_234 (hw : HW a0 Z) : FL Z a0 "java/lang/Integer" 87 "java/lang/Integer" "DigitTens" "[B" := ⟨_, "", Or.inl (w_234 hw), Via.refl⟩
theorem D1_65 : Dc J1 65 (.iload 4) 2 67 := by decide +kernel
theorem D1_67 : Dc J1 67 .baload 1 68 := by decide +kernel
theorem D1_68 : Dc J1 68 .bastore 1 69 := by decide +kernel
theorem D1_69 : Dj J1 69 (.goto (-47)) (-47) 72 22 := by decide +kernel
theorem LP_gc {p : Program} {e : Env} {R : Room} {s : State} {m : MethodId} {args : Array Value} {below : List Frame} {meth : Method} {c : Code} {S : State} {g : JFrame} {ml : Nat} {mn : String} {rt : Option FieldType} {vm : Vm} {cells slots : Nat} {a1 : Addr} {vN : Int32} {f1 : Nat → Int32} {M E sg : Nat} {q1 ng : Int32} (hw : HW a0 Z) (G : Gl Z w_CS w_SF w_DO w_DT w_fO w_fT) (N1 : n0 ≤ a1) : ∀ (n : Nat) {vi vc : Int32} {f2 : Nat → Int32} {ys yr : Slot} {hx : Heap} {kk : Nat}, okS ys = true → okS yr = true → (-vi.toInt).toNat < n → GJ M E sg f1 f2 vN vi vc kk → Ary Z hx a1 ATB vN.toNatClampNeg (bv f2) → Wk false [] p l e R s m args below meth c S g "java/lang/Integer" J1 ml mn rt Z a0 n0 h0 vm hx cells slots 22 #[.val (.int vi), .val (.int q1), .val (.ref a1), ys, yr, .val (.int vc), .val (.int ng)] [] → ∃ (wi wc : Int32) (f3 : Nat → Int32) (yt yu : Slot) (hy : Heap) (kl : Nat), okS yt = true ∧ okS yu = true ∧ (-100) < wi ∧ GJ M E sg f1 f3 vN wi wc kl ∧ Keep hx hy [a1] ∧ Ary Z hy a1 ATB vN.toNatClampNeg (bv f3) ∧ Wk false [] p l e R s m args below meth c S g "java/lang/Integer" J1 ml mn rt Z a0 n0 h0 vm hy cells slots 72 #[.val (.int wi), .val (.int q1), .val (.ref a1), yt, yu, .val (.int wc), .val (.int ng)] [] := by
  intro n
  induction n with
  | zero => intro vi vc f2 ys yr hx kk _ _ hl; exact absurd hl (Nat.not_lt_zero _)
  | succ n ih =>
    intro vi vc f2 ys yr hx kk oq or hl I A k
    replace k := k |>.iloadN D1_22 rfl |>.bipush D1_23 (-100)
    by_cases hc25_1 : (-100) < vi
    · replace k := k |>.icmpYes D1_25 (tlt hc25_1).2.2.1
      exact ⟨vi, vc, f2, ys, yr, hx, kk, oq, or, hc25_1, I, Keep.refl hx [a1], A, k⟩
    · replace k := k |>.icmpNo D1_25 (flt hc25_1).2.2.1
      obtain ⟨x1, x2, x3, x4, x5, x6⟩ := I.bt rfl rfl rfl rfl hc25_1
      replace k := k |>.iloadN D1_28 rfl |>.bipush D1_29 100 |>.idiv D1_31 (by decide) rfl |>.istoreN D1_32 (sto3 oq) |>.iloadN D1_33 rfl |>.bipush D1_34 100 |>.imul D1_36 rfl |>.iloadN D1_37 rfl |>.isub D1_38 rfl |>.istore D1_39 (sto4 or) |>.iloadN D1_41 rfl |>.istoreN D1_42 sto0
      replace k := k |>.aloadN D1_43 rfl rfl |>.iinc D1_44 rfl (z := (vc + (-1))) rfl sto5 |>.iload D1_47 rfl |>.getS (fl_138 hw) G.S_DO D1_49 |>.iload D1_52 rfl |>.bald (G.A_DO.ext k.old.2) D1_54 (i := (((vi / 100) * 100) - vi).toNatClampNeg) (ixS x5 x6 rfl) bv_at
      obtain ⟨h2, K2, O2, k⟩ := k.stB A N1 (Or.inl rfl) D1_55 (i := (vc + (-1)).toNatClampNeg) (ixS x1 x2 rfl) (v := (.int (nar .byte (w_fO (((vi / 100) * 100) - vi).toNatClampNeg)))) rfl (fits_nar_byte _) bv_upd
      replace k := k |>.aloadN D1_56 rfl rfl |>.iinc D1_57 rfl (z := ((vc + (-1)) + (-1))) rfl sto5 |>.iload D1_60 rfl |>.getS (fl_234 hw) G.S_DT D1_62 |>.iload D1_65 rfl |>.bald (G.A_DT.ext k.old.2) D1_67 (i := (((vi / 100) * 100) - vi).toNatClampNeg) (ixS x5 x6 rfl) bv_at
      obtain ⟨h3, K3, O3, k⟩ := k.stB O2 N1 (Or.inl rfl) D1_68 (i := ((vc + (-1)) + (-1)).toNatClampNeg) (ixS x3 x4 rfl) (v := (.int (nar .byte (w_fT (((vi / 100) * 100) - vi).toNatClampNeg)))) rfl (fits_nar_byte _) bv_upd
      replace k := k |>.goto D1_69
      obtain ⟨wi, wc, f3, yt, yu, hy, kl, o1, o2, u1, u2, u3, u4, k⟩ := ih rfl rfl (I.dec rfl hc25_1 hl) (I.turn rfl rfl rfl rfl hc25_1 G.h_DO G.h_DT) O3 k
      exact ⟨wi, wc, f3, yt, yu, hy, kl, o1, o2, u1, u2, (K2.trans K3 (allS (Or.inl (List.mem_of_getElem? (i := 0) rfl)) all0)).trans u3 (allS (Or.inl (List.mem_of_getElem? (i := 0) rfl)) all0), u4, k⟩
theorem D1_0 : Dc J1 0 (.iload_n 1) 1 1 := by decide +kernel
theorem D1_1 : Dc J1 1 (.istore 5) 2 3 := by decide +kernel
theorem D1_3 : Dc J1 3 (.iload_n 0) 1 4 := by decide +kernel
theorem D1_4 : Dj J1 4 (.ifCond .ge 7) 7 7 11 := by decide +kernel
theorem D1_7 : Dc J1 7 (.iconst 1) 1 8 := by decide +kernel
theorem D1_8 : Dj J1 8 (.goto 4) 4 11 12 := by decide +kernel
theorem D1_12 : Dc J1 12 (.istore 6) 2 14 := by decide +kernel
theorem sto6 {x0 x1 x2 x3 x4 x5 x : Slot} {t : List Slot} {v : Value} (hx : okS x = true := by rfl) (hv : v.category = 1 := by rfl) : storeLocals (List.toArray (x0 :: x1 :: x2 :: x3 :: x4 :: x5 :: x :: t)) 6 v = some (List.toArray (x0 :: x1 :: x2 :: x3 :: x4 :: x5 :: .val v :: t)) := stoA (A := [x0, x1, x2, x3, x4, x5]) hx hv
theorem D1_14 : Dc J1 14 (.iload 6) 2 16 := by decide +kernel
theorem D1_16 : Dj J1 16 (.ifCond .ne 6) 6 19 22 := by decide +kernel
theorem D1_72 : Dc J1 72 (.aload_n 2) 1 73 := by decide +kernel
theorem D1_73 : Dc J1 73 (.iinc 5 (-1)) 3 76 := by decide +kernel
theorem D1_76 : Dc J1 76 (.iload 5) 2 78 := by decide +kernel
theorem D1_78 : Dc J1 78 (.getstatic 83) 3 81 := by decide +kernel
theorem D1_81 : Dc J1 81 (.iload_n 0) 1 82 := by decide +kernel
theorem D1_82 : Dc J1 82 .ineg 1 83 := by decide +kernel
theorem D1_83 : Dc J1 83 .baload 1 84 := by decide +kernel
theorem D1_84 : Dc J1 84 .bastore 1 85 := by decide +kernel
theorem D1_85 : Dc J1 85 (.iload_n 0) 1 86 := by decide +kernel
theorem D1_86 : Dc J1 86 (.bipush (-9)) 2 88 := by decide +kernel
theorem D1_88 : Dj J1 88 (.if_icmp .ge 16) 16 91 104 := by decide +kernel
theorem D1_91 : Dc J1 91 (.aload_n 2) 1 92 := by decide +kernel
theorem D1_92 : Dc J1 92 (.iinc 5 (-1)) 3 95 := by decide +kernel
theorem D1_95 : Dc J1 95 (.iload 5) 2 97 := by decide +kernel
theorem D1_97 : Dc J1 97 (.getstatic 87) 3 100 := by decide +kernel
theorem D1_100 : Dc J1 100 (.iload_n 0) 1 101 := by decide +kernel
theorem D1_101 : Dc J1 101 .ineg 1 102 := by decide +kernel
theorem D1_102 : Dc J1 102 .baload 1 103 := by decide +kernel
theorem D1_103 : Dc J1 103 .bastore 1 104 := by decide +kernel
theorem D1_104 : Dc J1 104 (.iload 6) 2 106 := by decide +kernel
theorem D1_106 : Dj J1 106 (.ifCond .eq 12) 12 109 118 := by decide +kernel
theorem D1_109 : Dc J1 109 (.aload_n 2) 1 110 := by decide +kernel
theorem D1_110 : Dc J1 110 (.iinc 5 (-1)) 3 113 := by decide +kernel
theorem D1_113 : Dc J1 113 (.iload 5) 2 115 := by decide +kernel
theorem D1_115 : Dc J1 115 (.bipush 45) 2 117 := by decide +kernel
theorem D1_117 : Dc J1 117 .bastore 1 118 := by decide +kernel
theorem D1_118 : Dc J1 118 (.iload 5) 2 120 := by decide +kernel
theorem D1_120 : Dc J1 120 .ireturn 1 121 := by decide +kernel
theorem D1_11 : Dc J1 11 (.iconst 0) 1 12 := by decide +kernel
theorem D1_19 : Dc J1 19 (.iload_n 0) 1 20 := by decide +kernel
theorem D1_20 : Dc J1 20 .ineg 1 21 := by decide +kernel
theorem D1_21 : Dc J1 21 (.istore_n 0) 1 22 := by decide +kernel
theorem PN1 : plainFor Y1 = true := plainFor_of_name pn_Integer
theorem ef_IIR_7 {x0 : Int32} {x1 : Int32} {x2 : Addr}  (m : MethodId) : entryFrame m #[(.int x0), (.int x1), (.ref x2)] 7 = mkF m 0 #[.val (.int x0), .val (.int x1), .val (.ref x2), .unset, .unset, .unset, .unset] [] := by
  first | (simp [entryFrame, mkF, argsToLocals, Value.category]; done) | rfl
theorem R_gch {a1 : Addr} {p1 q1 vN : Int32} {f1 : Nat → Int32} (hw : HW a0 Z) (G : Gl Z w_CS w_SF w_DO w_DT w_fO w_fT) (A : Ary Z h0 a1 ATB vN.toNatClampNeg (bv f1)) (N1 : n0 ≤ a1) (x1 : ¬ (q1 < (ssz p1))) (x2 : ¬ (vN < q1)) : Mt false [] l Y1 C1 (rmk 0 0 0 0) #[.int p1, .int q1, .ref a1] Z a0 h0 n0 (KpV h0 [a1] fun v h => ∃ (z : Int32) (f : Nat → Int32), v = .int z ∧ Ary Z h a1 ATB vN.toNatClampNeg (bv f) ∧ GF p1.toInt.natAbs q1.toNatClampNeg (sgnI p1) f1 f) := by
  refine Mt.go PN1 (Or.inl rfl) ef_IIR_7 fun k => ?_
  replace k := k |>.iloadN D1_0 rfl |>.istore D1_1 sto5 |>.iloadN D1_3 rfl
  by_cases hc4_1 : p1 < 0
  · replace k := k |>.ifNo D1_4 ((if0 _ _).trans (tlt hc4_1).2.1) |>.iconst D1_7 1 |>.goto D1_8 |>.istore D1_12 sto6 |>.iload D1_14 rfl |>.ifYes D1_16 
    obtain ⟨wi, wc, f3, yt, yu, hy, kl, o1, o2, u1, I, KL, AL, k⟩ := LP_gc hw G N1 _ rfl rfl (Nat.lt_succ_self _) (GJ.s1 rfl x1 x2 hc4_1) A k
    obtain ⟨y1, y2, y3, y4⟩ := I.b1 rfl rfl u1
    replace k := k |>.aloadN D1_72 rfl rfl |>.iinc D1_73 rfl (z := (wc + (-1))) rfl sto5 |>.iload D1_76 rfl |>.getS (fl_138 hw) G.S_DO D1_78 |>.iloadN D1_81 rfl |>.ineg D1_82 rfl |>.bald (G.A_DO.ext k.old.2) D1_83 (i := (-wi).toNatClampNeg) (ixS y3 y4 rfl) bv_at
    obtain ⟨h2, K2, O2, k⟩ := k.stB AL N1 (Or.inl rfl) D1_84 (i := (wc + (-1)).toNatClampNeg) (ixS y1 y2 rfl) (v := (.int (nar .byte (w_fO (-wi).toNatClampNeg)))) rfl (fits_nar_byte _) bv_upd
    replace k := k |>.iloadN D1_85 rfl |>.bipush D1_86 (-9)
    by_cases hc88_3 : wi < (-9)
    · replace k := k |>.icmpNo D1_88 (tlt hc88_3).2.1
      obtain ⟨y4a, y4b⟩ := I.b2 rfl rfl hc88_3
      replace k := k |>.aloadN D1_91 rfl rfl |>.iinc D1_92 rfl (z := ((wc + (-1)) + (-1))) rfl sto5 |>.iload D1_95 rfl |>.getS (fl_234 hw) G.S_DT D1_97 |>.iloadN D1_100 rfl |>.ineg D1_101 rfl |>.bald (G.A_DT.ext k.old.2) D1_102 (i := (-wi).toNatClampNeg) (ixS y3 y4 rfl) bv_at
      obtain ⟨h5, K5, O5, k⟩ := k.stB O2 N1 (Or.inl rfl) D1_103 (i := ((wc + (-1)) + (-1)).toNatClampNeg) (ixS y4a y4b rfl) (v := (.int (nar .byte (w_fT (-wi).toNatClampNeg)))) rfl (fits_nar_byte _) bv_upd
      replace k := k |>.iload D1_104 rfl |>.ifNo D1_106 
      obtain ⟨y6a, y6b⟩ := I.b2s rfl rfl rfl hc88_3 (sgnI_y hc4_1)
      replace k := k |>.aloadN D1_109 rfl rfl |>.iinc D1_110 rfl (z := (((wc + (-1)) + (-1)) + (-1))) rfl sto5 |>.iload D1_113 rfl |>.bipush D1_115 45
      obtain ⟨h7, K7, O7, k⟩ := k.stB O5 N1 (Or.inl rfl) D1_117 (i := (((wc + (-1)) + (-1)) + (-1)).toNatClampNeg) (ixS y6a y6b rfl) (v := (.int 45)) (by decide) (by decide) bv_upd
      replace k := k |>.iload D1_118 rfl
      exact k.retI D1_120 rfl ⟨_, rfl, (((KL.trans K2 (allS (Or.inl (List.mem_of_getElem? (i := 0) rfl)) all0)).trans K5 (allS (Or.inl (List.mem_of_getElem? (i := 0) rfl)) all0)).trans K7 (allS (Or.inl (List.mem_of_getElem? (i := 0) rfl)) all0)), _, _, rfl, O7, (I.e2 rfl rfl rfl rfl u1 hc88_3 G.h_DO G.h_DT).2 (sgnI_y hc4_1)⟩
    · replace k := k |>.icmpYes D1_88 (flt hc88_3).2.1 |>.iload D1_104 rfl |>.ifNo D1_106 
      obtain ⟨y8a, y8b⟩ := I.b1s rfl rfl (sgnI_y hc4_1)
      replace k := k |>.aloadN D1_109 rfl rfl |>.iinc D1_110 rfl (z := ((wc + (-1)) + (-1))) rfl sto5 |>.iload D1_113 rfl |>.bipush D1_115 45
      obtain ⟨h9, K9, O9, k⟩ := k.stB O2 N1 (Or.inl rfl) D1_117 (i := ((wc + (-1)) + (-1)).toNatClampNeg) (ixS y8a y8b rfl) (v := (.int 45)) (by decide) (by decide) bv_upd
      replace k := k |>.iload D1_118 rfl
      exact k.retI D1_120 rfl ⟨_, rfl, ((KL.trans K2 (allS (Or.inl (List.mem_of_getElem? (i := 0) rfl)) all0)).trans K9 (allS (Or.inl (List.mem_of_getElem? (i := 0) rfl)) all0)), _, _, rfl, O9, (I.e1 rfl rfl rfl u1 hc88_3 G.h_DO).2 (sgnI_y hc4_1)⟩
  · replace k := k |>.ifYes D1_4 ((if0 _ _).trans (flt hc4_1).2.1) |>.iconst D1_11 0 |>.istore D1_12 sto6 |>.iload D1_14 rfl |>.ifNo D1_16  |>.iloadN D1_19 rfl |>.ineg D1_20 rfl |>.istoreN D1_21 sto0
    obtain ⟨wi, wc, f3, yt, yu, hy, kl, o1, o2, u1, I, KL, AL, k⟩ := LP_gc hw G N1 _ rfl rfl (Nat.lt_succ_self _) (GJ.s0 rfl x1 x2 hc4_1) A k
    obtain ⟨y1, y2, y3, y4⟩ := I.b1 rfl rfl u1
    replace k := k |>.aloadN D1_72 rfl rfl |>.iinc D1_73 rfl (z := (wc + (-1))) rfl sto5 |>.iload D1_76 rfl |>.getS (fl_138 hw) G.S_DO D1_78 |>.iloadN D1_81 rfl |>.ineg D1_82 rfl |>.bald (G.A_DO.ext k.old.2) D1_83 (i := (-wi).toNatClampNeg) (ixS y3 y4 rfl) bv_at
    obtain ⟨h10, K10, O10, k⟩ := k.stB AL N1 (Or.inl rfl) D1_84 (i := (wc + (-1)).toNatClampNeg) (ixS y1 y2 rfl) (v := (.int (nar .byte (w_fO (-wi).toNatClampNeg)))) rfl (fits_nar_byte _) bv_upd
    replace k := k |>.iloadN D1_85 rfl |>.bipush D1_86 (-9)
    by_cases hc88_11 : wi < (-9)
    · replace k := k |>.icmpNo D1_88 (tlt hc88_11).2.1
      obtain ⟨y12a, y12b⟩ := I.b2 rfl rfl hc88_11
      replace k := k |>.aloadN D1_91 rfl rfl |>.iinc D1_92 rfl (z := ((wc + (-1)) + (-1))) rfl sto5 |>.iload D1_95 rfl |>.getS (fl_234 hw) G.S_DT D1_97 |>.iloadN D1_100 rfl |>.ineg D1_101 rfl |>.bald (G.A_DT.ext k.old.2) D1_102 (i := (-wi).toNatClampNeg) (ixS y3 y4 rfl) bv_at
      obtain ⟨h13, K13, O13, k⟩ := k.stB O10 N1 (Or.inl rfl) D1_103 (i := ((wc + (-1)) + (-1)).toNatClampNeg) (ixS y12a y12b rfl) (v := (.int (nar .byte (w_fT (-wi).toNatClampNeg)))) rfl (fits_nar_byte _) bv_upd
      replace k := k |>.iload D1_104 rfl |>.ifYes D1_106  |>.iload D1_118 rfl
      exact k.retI D1_120 rfl ⟨_, rfl, ((KL.trans K10 (allS (Or.inl (List.mem_of_getElem? (i := 0) rfl)) all0)).trans K13 (allS (Or.inl (List.mem_of_getElem? (i := 0) rfl)) all0)), _, _, rfl, O13, (I.e2 rfl rfl rfl rfl u1 hc88_11 G.h_DO G.h_DT).1 (sgnI_n hc4_1)⟩
    · replace k := k |>.icmpYes D1_88 (flt hc88_11).2.1 |>.iload D1_104 rfl |>.ifYes D1_106  |>.iload D1_118 rfl
      exact k.retI D1_120 rfl ⟨_, rfl, (KL.trans K10 (allS (Or.inl (List.mem_of_getElem? (i := 0) rfl)) all0)), _, _, rfl, O10, (I.e1 rfl rfl rfl u1 hc88_11 G.h_DO).1 (sgnI_n hc4_1)⟩
abbrev L_SemaphoreBulkheadSnapshot : Jvm.Own.Lay := ("com/example/chatham/chatham/pattern/SemaphoreBulkheadSnapshot", [("com/example/chatham/chatham/pattern/SemaphoreBulkheadSnapshot", "limit", "I", (.int 0)), ("com/example/chatham/chatham/pattern/SemaphoreBulkheadSnapshot", "available", "I", (.int 0))])
theorem dvL_SemaphoreBulkheadSnapshot : (L_SemaphoreBulkheadSnapshot.2.map fun q => q.2.2.2) = [(.int 0), (.int 0)] := rfl
abbrev w_10 (hw : HW a0 Z) := hw.at 10 rfl
abbrev w_12 (hw : HW a0 Z) := hw.at 12 rfl
theorem okL_SemaphoreBulkheadSnapshot (hw : HW a0 Z) : LOk Z a0 L_SemaphoreBulkheadSnapshot := ⟨allC ⟨Or.inr (w_10 hw), .int, by decide +kernel, rfl⟩ (allC ⟨Or.inr (w_12 hw), .int, by decide +kernel, rfl⟩ (allN)), by decide +kernel⟩
abbrev Y2 : MethodName := ⟨"com/example/chatham/chatham/pattern/SemaphoreBulkheadSnapshot", "toString", "()Ljava/lang/String;"⟩
abbrev J2 := prog_39_method_4_code
abbrev C2 : Cond := .code Y2 J2 1 (some (.object "java/lang/String"))
theorem D2_0 : Dc J2 0 (.new 16) 3 3 := by decide +kernel
abbrev L_StringBuilder : Jvm.Own.Lay := ("java/lang/StringBuilder", [("java/lang/AbstractStringBuilder", "value", "[B", .null), ("java/lang/AbstractStringBuilder", "coder", "B", (.int 0)), ("java/lang/AbstractStringBuilder", "count", "I", (.int 0))])
theorem dvL_StringBuilder : (L_StringBuilder.2.map fun q => q.2.2.2) = [.null, (.int 0), (.int 0)] := rfl
abbrev w_35 (hw : HW a0 Z) := hw.at 35 rfl
abbrev w_37 (hw : HW a0 Z) := hw.at 37 rfl
abbrev w_68 (hw : HW a0 Z) := hw.at 68 rfl
theorem okL_StringBuilder (hw : HW a0 Z) : LOk Z a0 L_StringBuilder := ⟨allC ⟨Or.inl (w_35 hw), (.array .byte), by decide +kernel, rfl⟩ (allC ⟨Or.inl (w_37 hw), .byte, by decide +kernel, rfl⟩ (allC ⟨Or.inl (w_68 hw), .int, by decide +kernel, rfl⟩ (allN))), by decide +kernel⟩
abbrev w_19 (hw : HW a0 Z) := hw.at 19 rfl
abbrev w_20 (hw : HW a0 Z) := hw.at 20 rfl
theorem nw_StringBuilder (hw : HW a0 Z) : NW Z a0 L_StringBuilder 4 := ⟨okL_StringBuilder hw, (w_19 hw), (w_20 hw)⟩
abbrev w_18 (hw : HW a0 Z) := hw.at 18 rfl
theorem D2_3 : Dc J2 3 .dup 1 4 := by decide +kernel
theorem D2_4 : Dc J2 4 (.invokespecial 18) 3 7 := by decide +kernel
abbrev Y3 : MethodName := ⟨"java/lang/StringBuilder", "<init>", "()V"⟩
abbrev J3 := jdk_67_method_1_code
abbrev C3 : Cond := .code Y3 J3 1 none
theorem D3_0 : Dc J3 0 (.aload_n 0) 1 1 := by decide +kernel
theorem D3_1 : Dc J3 1 (.bipush 16) 2 3 := by decide +kernel
theorem D3_3 : Dc J3 3 (.invokespecial 1) 3 6 := by decide +kernel
abbrev Y4 : MethodName := ⟨"java/lang/AbstractStringBuilder", "<init>", "(I)V"⟩
abbrev J4 := jdk_68_method_2_code
abbrev C4 : Cond := .code Y4 J4 2 none
theorem D4_0 : Dc J4 0 (.aload_n 0) 1 1 := by decide +kernel
theorem D4_1 : Dc J4 1 (.invokespecial 3) 3 4 := by decide +kernel
abbrev w_30 (hw : HW a0 Z) := hw.at 30 rfl
abbrev w_7 (hw : HW a0 Z) := hw.at 7 rfl
abbrev w_8 (hw : HW a0 Z) := hw.at 8 rfl
theorem D4_4 : Dc J4 4 (.getstatic 18) 3 7 := by decide +kernel
abbrev w_31 (hw : HW a0 Z) := hw.at 31 rfl
theorem fl_31 (hw : HW a0 Z) : FL Z a0 "java/lang/AbstractStringBuilder" 18 "java/lang/String" "COMPACT_STRINGS" "Z" := ⟨_, "", Or.inl (w_31 hw), Via.refl⟩
theorem D4_7 : Dj J4 7 (.ifCond .eq 18) 18 10 25 := by decide +kernel
theorem D4_10 : Dc J4 10 (.aload_n 0) 1 11 := by decide +kernel
theorem D4_11 : Dc J4 11 (.iload_n 1) 1 12 := by decide +kernel
theorem D4_12 : Dc J4 12 (.newarray .byte) 2 14 := by decide +kernel
theorem D4_14 : Dc J4 14 (.putfield 15) 3 17 := by decide +kernel
abbrev w_34 (hw : HW a0 Z) := hw.at 34 rfl
theorem fl_34 (hw : HW a0 Z) : FL Z a0 "java/lang/AbstractStringBuilder" 15 "java/lang/AbstractStringBuilder" "value" "[B" := ⟨_, "", Or.inl (w_34 hw), Via.refl⟩
theorem pw_AbstractStringBuilder_i_StringBuilder_value {mn : String} (hw : HW a0 Z) : PW Z a0 "java/lang/AbstractStringBuilder" mn L_StringBuilder "java/lang/AbstractStringBuilder" "value" "[B" (.array .byte) := ⟨okL_StringBuilder hw, Or.inl (w_35 hw), ⟨_, (w_19 hw)⟩, by decide +kernel⟩
theorem ls0 { x v : Value} {t : List Value} : (x :: t).set 0 v = v :: t := rfl
theorem D4_17 : Dc J4 17 (.aload_n 0) 1 18 := by decide +kernel
theorem D4_18 : Dc J4 18 (.iconst 0) 1 19 := by decide +kernel
theorem D4_19 : Dc J4 19 (.putfield 22) 3 22 := by decide +kernel
abbrev w_36 (hw : HW a0 Z) := hw.at 36 rfl
theorem fl_36 (hw : HW a0 Z) : FL Z a0 "java/lang/AbstractStringBuilder" 22 "java/lang/AbstractStringBuilder" "coder" "B" := ⟨_, "", Or.inl (w_36 hw), Via.refl⟩
theorem fp_36 (hw : HW a0 Z) : FP Z a0 "java/lang/AbstractStringBuilder" 22 "java/lang/AbstractStringBuilder" "coder" "B" := ⟨_, (w_36 hw), Via.refl⟩
theorem pw_AbstractStringBuilder_i_StringBuilder_coder {mn : String} (hw : HW a0 Z) : PW Z a0 "java/lang/AbstractStringBuilder" mn L_StringBuilder "java/lang/AbstractStringBuilder" "coder" "B" .byte := ⟨okL_StringBuilder hw, Or.inl (w_37 hw), ⟨_, (w_19 hw)⟩, by decide +kernel⟩
theorem ls1 {x0 x v : Value} {t : List Value} : (x0 :: x :: t).set 1 v = x0 :: v :: t := rfl
theorem D4_22 : Dj J4 22 (.goto 16) 16 25 38 := by decide +kernel
theorem D4_38 : Dc J4 38 .return_ 1 39 := by decide +kernel
theorem pn_AbstractStringBuilder : plainName "java/lang/AbstractStringBuilder" = true := by first | (simp [plainName, overriddenIn]; done) | decide +kernel
theorem PN4 : plainFor Y4 = true := plainFor_of_name pn_AbstractStringBuilder
theorem ef_RI_2 {x0 : Addr} {x1 : Int32}  (m : MethodId) : entryFrame m #[(.ref x0), (.int x1)] 2 = mkF m 0 #[.val (.ref x0), .val (.int x1)] [] := by
  first | (simp [entryFrame, mkF, argsToLocals, Value.category]; done) | rfl
theorem R_4_1 {a1 : Addr} (hw : HW a0 Z) (G : Gl Z w_CS w_SF w_DO w_DT w_fO w_fT) (pr1 : Obj Z h0 a1 L_StringBuilder [.null, .int 0, .int 0]) (pr2 : n0 ≤ a1) : Mt false [] l Y4 C4 (rmk 1 1 16 12) #[.ref a1, .int 16] Z a0 h0 n0 (K0 h0 [a1] fun h => ∃ u1 : Addr, h0.size ≤ u1 ∧ Obj Z h a1 L_StringBuilder [.ref u1, .int 0, .int 0] ∧ Ary Z h u1 ATB 16 (bv (lvi [0, 0, 0, 0, 0, 0, 0, 0, 0, 0, 0, 0, 0, 0, 0, 0]))) := by
  refine Mt.go PN4 (Or.inl rfl) ef_RI_2 fun k => ?_
  replace k := k |>.aloadN D4_0 rfl rfl |>.initO (w_30 hw) (w_7 hw) (w_8 hw) D4_1 0 |>.getS (fl_31 hw) G.S_CS D4_4 |>.ifNo D4_7 ((if0 _ _).trans (feq G.h_CS).1) |>.aloadN D4_10 rfl rfl |>.iloadN D4_11 rfl
  have z1 := k.sz
  obtain ⟨b1, h1, g1, K1, O1, k⟩ := k.newP (aty := .byte) "[B" (w_33 hw) (by decide) D4_12 16 (by decide) (n := 16) (by decide) (by decide) (by decide) (bi_const (L := [0, 0, 0, 0, 0, 0, 0, 0, 0, 0, 0, 0, 0, 0, 0, 0]) rfl)
  have o2 := pr1.keep K1 nin0
  obtain ⟨h3, K3, O3, k⟩ := k.putF (fl_34 hw) (pw_AbstractStringBuilder_i_StringBuilder_value hw) o2 0 pr2 (Or.inl rfl) D4_14 rfl rfl rfl ls0
  replace k := k |>.aloadN D4_17 rfl rfl |>.iconst D4_18 0
  obtain ⟨h4, K4, O4, k⟩ := k.putN (fp_36 hw) (pw_AbstractStringBuilder_i_StringBuilder_coder hw) O3 1 pr2 (Or.inl rfl) D4_19 rfl (v' := (.int 0)) (by decide) (by decide) ls1
  replace k := k |>.goto D4_22
  have s_b1 := Nat.le_trans z1 g1
  have o5 := (O1.keep K3 (ninS (nlt' pr1.lt s_b1) nin0)).keep K4 (ninS (nlt' pr1.lt s_b1) nin0)
  exact k.ret0 D4_38 rfl ⟨rfl, ((((Keep.refl h0 [a1]).trans K1 all0).trans K3 (allS (Or.inl (List.mem_of_getElem? (i := 0) rfl)) all0)).trans K4 (allS (Or.inl (List.mem_of_getElem? (i := 0) rfl)) all0)), b1, s_b1, O4, o5⟩
abbrev w_24 (hw : HW a0 Z) := hw.at 24 rfl
abbrev w_29 (hw : HW a0 Z) := hw.at 29 rfl
abbrev w_28 (hw : HW a0 Z) := hw.at 28 rfl
theorem pd_I_r_V : parseMethodDescriptor "(I)V" = some ⟨[.int], none⟩ := by decide +kernel
abbrev w_25 (hw : HW a0 Z) := hw.at 25 rfl
theorem I4 (hw : HW a0 Z) : IC Z a0 Y4 C4 2 1 := ⟨(w_25 hw), rfl, ⟨⟨_, Or.inl rfl⟩, (w_29 hw), (w_28 hw), by decide, _, _, pd_I_r_V, rfl⟩⟩
theorem D3_6 : Dc J3 6 .return_ 1 7 := by decide +kernel
theorem pn_StringBuilder : plainName "java/lang/StringBuilder" = true := by first | (simp [plainName, overriddenIn]; done) | decide +kernel
theorem PN3 : plainFor Y3 = true := plainFor_of_name pn_StringBuilder
theorem ef_R_1 {x0 : Addr}  (m : MethodId) : entryFrame m #[(.ref x0)] 1 = mkF m 0 #[.val (.ref x0)] [] := by
  first | (simp [entryFrame, mkF, argsToLocals, Value.category]; done) | rfl
theorem R_3_1 {a1 : Addr} (hw : HW a0 Z) (G : Gl Z w_CS w_SF w_DO w_DT w_fO w_fT) (pr1 : Obj Z h0 a1 L_StringBuilder [.null, .int 0, .int 0]) (pr2 : n0 ≤ a1) : Mt false [] l Y3 C3 (rmk 2 1 16 25) #[.ref a1] Z a0 h0 n0 (K0 h0 [a1] fun h => ∃ u1 : Addr, h0.size ≤ u1 ∧ Obj Z h a1 L_StringBuilder [.ref u1, .int 0, .int 0] ∧ Ary Z h u1 ATB 16 (bv (lvi [0, 0, 0, 0, 0, 0, 0, 0, 0, 0, 0, 0, 0, 0, 0, 0]))) := by
  refine Mt.go PN3 (Or.inl rfl) ef_R_1 fun k => ?_
  replace k := k |>.aloadN D3_0 rfl rfl |>.bipush D3_1 16
  have z1 := k.sz
  obtain ⟨h1, K1, ⟨u1_1, f1_0, f1_1, f1_2⟩, k⟩ := (k.callI (w_24 hw) (I4 hw) (R_4_1 hw G pr1 pr2) D3_3 0 rfl).k0 (allS pr2 all0)
  have s_u1_1 := Nat.le_trans z1 f1_0
  exact k.ret0 D3_6 rfl ⟨rfl, K1, u1_1, s_u1_1, f1_1, f1_2⟩
abbrev w_21 (hw : HW a0 Z) := hw.at 21 rfl
abbrev w_23 (hw : HW a0 Z) := hw.at 23 rfl
theorem pd__r_V : parseMethodDescriptor "()V" = some ⟨[], none⟩ := by decide +kernel
abbrev w_22 (hw : HW a0 Z) := hw.at 22 rfl
theorem I3 (hw : HW a0 Z) : IC Z a0 Y3 C3 1 0 := ⟨(w_22 hw), rfl, ⟨⟨_, Or.inl rfl⟩, (w_23 hw), (w_20 hw), by decide, _, _, pd__r_V, rfl⟩⟩
theorem D2_7 : Dc J2 7 (.ldc 19) 2 9 := by decide +kernel
theorem lit_38 : (∀ c ∈ "SemaphoreBulkheadSnapshot[limit=".toList, c.toNat < 256) ∧ "SemaphoreBulkheadSnapshot[limit=".toList.map (fun c => Value.int (Jvm.Lit.byteI c.toNat.toUInt16)) = [(.int 83), (.int 101), (.int 109), (.int 97), (.int 112), (.int 104), (.int 111), (.int 114), (.int 101), (.int 66), (.int 117), (.int 108), (.int 107), (.int 104), (.int 101), (.int 97), (.int 100), (.int 83), (.int 110), (.int 97), (.int 112), (.int 115), (.int 104), (.int 111), (.int 116), (.int 91), (.int 108), (.int 105), (.int 109), (.int 105), (.int 116), (.int 61)] := by decide +kernel
theorem D2_9 : Dc J2 9 (.invokevirtual 21) 3 12 := by decide +kernel
abbrev Y5 : MethodName := ⟨"java/lang/StringBuilder", "append", "(Ljava/lang/String;)Ljava/lang/StringBuilder;"⟩
abbrev J5 := jdk_67_method_7_code
abbrev C5 : Cond := .code Y5 J5 2 (some (.object "java/lang/StringBuilder"))
theorem D5_0 : Dc J5 0 (.aload_n 0) 1 1 := by decide +kernel
theorem D5_1 : Dc J5 1 (.aload_n 1) 1 2 := by decide +kernel
theorem D5_2 : Dc J5 2 (.invokespecial 29) 3 5 := by decide +kernel
abbrev Y6 : MethodName := ⟨"java/lang/AbstractStringBuilder", "append", "(Ljava/lang/String;)Ljava/lang/AbstractStringBuilder;"⟩
abbrev J6 := jdk_68_method_22_code
abbrev C6 : Cond := .code Y6 J6 3 (some (.object "java/lang/AbstractStringBuilder"))
theorem D6_0 : Dc J6 0 (.aload_n 1) 1 1 := by decide +kernel
theorem D6_1 : Dj J6 1 (.ifnonnull 8) 8 4 9 := by decide +kernel
theorem D6_9 : Dc J6 9 (.aload_n 1) 1 10 := by decide +kernel
theorem D6_10 : Dc J6 10 (.invokevirtual 32) 3 13 := by decide +kernel
abbrev Y7 : MethodName := ⟨"java/lang/String", "length", "()I"⟩
abbrev J7 := jdk_42_method_54_code
abbrev C7 : Cond := .code Y7 J7 1 (some .int)
theorem D7_0 : Dc J7 0 (.aload_n 0) 1 1 := by decide +kernel
theorem D7_1 : Dc J7 1 (.getfield 9) 3 4 := by decide +kernel
abbrev w_59 (hw : HW a0 Z) := hw.at 59 rfl
theorem fl_59 (hw : HW a0 Z) : FL Z a0 "java/lang/String" 9 "java/lang/String" "value" "[B" := ⟨_, "", Or.inl (w_59 hw), Via.refl⟩
theorem D7_4 : Dc J7 4 .arraylength 1 5 := by decide +kernel
theorem D7_5 : Dc J7 5 (.aload_n 0) 1 6 := by decide +kernel
theorem D7_6 : Dc J7 6 (.invokevirtual 335) 3 9 := by decide +kernel
abbrev Y8 : MethodName := ⟨"java/lang/String", "coder", "()B"⟩
abbrev J8 := jdk_42_method_152_code
abbrev C8 : Cond := .code Y8 J8 1 (some .byte)
theorem D8_0 : Dc J8 0 (.getstatic 38) 3 3 := by decide +kernel
abbrev w_65 (hw : HW a0 Z) := hw.at 65 rfl
theorem fl_65 (hw : HW a0 Z) : FL Z a0 "java/lang/String" 38 "java/lang/String" "COMPACT_STRINGS" "Z" := ⟨_, "", Or.inl (w_65 hw), Via.refl⟩
theorem D8_3 : Dj J8 3 (.ifCond .eq 10) 10 6 13 := by decide +kernel
theorem D8_6 : Dc J8 6 (.aload_n 0) 1 7 := by decide +kernel
theorem D8_7 : Dc J8 7 (.getfield 15) 3 10 := by decide +kernel
abbrev w_66 (hw : HW a0 Z) := hw.at 66 rfl
theorem fl_66 (hw : HW a0 Z) : FL Z a0 "java/lang/String" 15 "java/lang/String" "coder" "B" := ⟨_, "", Or.inl (w_66 hw), Via.refl⟩
theorem D8_10 : Dj J8 10 (.goto 4) 4 13 14 := by decide +kernel
theorem D8_14 : Dc J8 14 .ireturn 1 15 := by decide +kernel
theorem pn_String : plainName "java/lang/String" = true := by first | (simp [plainName, overriddenIn]; done) | decide +kernel
theorem PN8 : plainFor Y8 = true := plainFor_of_name pn_String
theorem R_8_1 {a1 a2 : Addr} (hw : HW a0 Z) (G : Gl Z w_CS w_SF w_DO w_DT w_fO w_fT) (pr1 : Obj Z h0 a1 litL [.ref a2, .int 0]) : Mt false [] l Y8 C8 (rmk 0 0 0 0) #[.ref a1] Z a0 h0 n0 (Pv h0 (.int 0)) := by
  refine Mt.go PN8 (Or.inl rfl) ef_R_1 fun k => ?_
  replace k := k |>.getS (fl_65 hw) G.S_CS D8_0 |>.ifNo D8_3 ((if0 _ _).trans (feq G.h_CS).1) |>.aloadN D8_6 rfl rfl |>.getF (fl_66 hw) pr1 1 D8_7 rfl rfl |>.goto D8_10
  exact k.retN (t := .byte) D8_14 rfl (by simp) (z' := 0) (by decide) ⟨rfl, rfl⟩
abbrev w_60 (hw : HW a0 Z) := hw.at 60 rfl
abbrev w_64 (hw : HW a0 Z) := hw.at 64 rfl
theorem pd__r_B : parseMethodDescriptor "()B" = some ⟨[], some .byte⟩ := by decide +kernel
abbrev w_63 (hw : HW a0 Z) := hw.at 63 rfl
abbrev w_62 (hw : HW a0 Z) := hw.at 62 rfl
abbrev w_61 (hw : HW a0 Z) := hw.at 61 rfl
theorem V_Y8_8_String (hw : HW a0 Z) : VC Z a0 Y8 Y8 "java/lang/String" C8 1 (some .byte) 0 := ⟨(w_61 hw), fun s hZ => notFace_of_selects (args := #[]) (mvT hZ (w_63 hw)), (w_63 hw), (w_62 hw), by decide, rfl, ⟨⟨_, Or.inl rfl⟩, (w_64 hw), (w_32 hw), by decide, _, _, pd__r_B, rfl⟩⟩
theorem D7_9 : Dc J7 9 .ishr 1 10 := by decide +kernel
theorem D7_10 : Dc J7 10 .ireturn 1 11 := by decide +kernel
theorem PN7 : plainFor Y7 = true := plainFor_of_name pn_String
theorem R_7_1 {a1 a2 : Addr} (hw : HW a0 Z) (G : Gl Z w_CS w_SF w_DO w_DT w_fO w_fT) (pr1 : Obj Z h0 a1 litL [.ref a2, .int 0]) (pr2 : Ary Z h0 a2 ("", .byte) 32 (bv (lvi [83, 101, 109, 97, 112, 104, 111, 114, 101, 66, 117, 108, 107, 104, 101, 97, 100, 83, 110, 97, 112, 115, 104, 111, 116, 91, 108, 105, 109, 105, 116, 61]))) : Mt false [] l Y7 C7 (rmk 1 0 0 13) #[.ref a1] Z a0 h0 n0 (Pv h0 (.int 32)) := by
  refine Mt.go PN7 (Or.inl rfl) ef_R_1 fun k => ?_
  replace k := k |>.aloadN D7_0 rfl rfl |>.getF (fl_59 hw) pr1 0 D7_1 rfl rfl |>.alen pr2 D7_4 (z := 32) (by decide) |>.aloadN D7_5 rfl rfl
  replace k := (k.callV (w_60 hw) (V_Y8_8_String hw) pr1.exa (R_8_1 hw G pr1) D7_6 1 rfl).pv
  replace k := k |>.ishr D7_9 (z := 32)
  exact k.retI D7_10 rfl ⟨rfl, rfl⟩
abbrev w_54 (hw : HW a0 Z) := hw.at 54 rfl
abbrev w_58 (hw : HW a0 Z) := hw.at 58 rfl
theorem pd__r_I : parseMethodDescriptor "()I" = some ⟨[], some .int⟩ := by decide +kernel
abbrev w_57 (hw : HW a0 Z) := hw.at 57 rfl
abbrev w_56 (hw : HW a0 Z) := hw.at 56 rfl
abbrev w_55 (hw : HW a0 Z) := hw.at 55 rfl
theorem V_Y7_7_String (hw : HW a0 Z) : VC Z a0 Y7 Y7 "java/lang/String" C7 1 (some .int) 0 := ⟨(w_55 hw), fun s hZ => notFace_of_selects (args := #[]) (mvT hZ (w_57 hw)), (w_57 hw), (w_56 hw), by decide, rfl, ⟨⟨_, Or.inl rfl⟩, (w_58 hw), (w_32 hw), by decide, _, _, pd__r_I, rfl⟩⟩
theorem D6_13 : Dc J6 13 (.istore_n 2) 1 14 := by decide +kernel
theorem D6_14 : Dc J6 14 (.aload_n 0) 1 15 := by decide +kernel
theorem D6_15 : Dc J6 15 (.aload_n 0) 1 16 := by decide +kernel
theorem D6_16 : Dc J6 16 (.getfield 79) 3 19 := by decide +kernel
abbrev w_67 (hw : HW a0 Z) := hw.at 67 rfl
theorem fl_67 (hw : HW a0 Z) : FL Z a0 "java/lang/AbstractStringBuilder" 79 "java/lang/AbstractStringBuilder" "count" "I" := ⟨_, "", Or.inl (w_67 hw), Via.refl⟩
theorem D6_19 : Dc J6 19 (.iload_n 2) 1 20 := by decide +kernel
theorem D6_20 : Dc J6 20 .iadd 1 21 := by decide +kernel
theorem D6_21 : Dc J6 21 (.invokevirtual 100) 3 24 := by decide +kernel
abbrev Y9 : MethodName := ⟨"java/lang/AbstractStringBuilder", "ensureCapacityInternal", "(I)V"⟩
abbrev J9 := jdk_68_method_9_code
abbrev C9 : Cond := .code Y9 J9 3 none
theorem D9_0 : Dc J9 0 (.aload_n 0) 1 1 := by decide +kernel
theorem D9_1 : Dc J9 1 (.getfield 15) 3 4 := by decide +kernel
theorem D9_4 : Dc J9 4 .arraylength 1 5 := by decide +kernel
theorem D9_5 : Dc J9 5 (.aload_n 0) 1 6 := by decide +kernel
theorem D9_6 : Dc J9 6 (.getfield 22) 3 9 := by decide +kernel
theorem D9_9 : Dc J9 9 .ishr 1 10 := by decide +kernel
theorem D9_10 : Dc J9 10 (.istore_n 2) 1 11 := by decide +kernel
theorem D9_11 : Dc J9 11 (.iload_n 1) 1 12 := by decide +kernel
theorem D9_12 : Dc J9 12 (.iload_n 2) 1 13 := by decide +kernel
theorem D9_13 : Dc J9 13 .isub 1 14 := by decide +kernel
theorem D9_14 : Dj J9 14 (.ifCond .le 24) 24 17 38 := by decide +kernel
theorem D9_17 : Dc J9 17 (.aload_n 0) 1 18 := by decide +kernel
theorem D9_18 : Dc J9 18 (.aload_n 0) 1 19 := by decide +kernel
theorem D9_19 : Dc J9 19 (.getfield 15) 3 22 := by decide +kernel
theorem D9_22 : Dc J9 22 (.aload_n 0) 1 23 := by decide +kernel
theorem D9_23 : Dc J9 23 (.iload_n 1) 1 24 := by decide +kernel
theorem D9_24 : Dc J9 24 (.invokevirtual 104) 3 27 := by decide +kernel
abbrev Y10 : MethodName := ⟨"java/lang/AbstractStringBuilder", "newCapacity", "(I)I"⟩
abbrev J10 := jdk_68_method_10_code
abbrev C10 : Cond := .code Y10 J10 6 (some .int)
theorem D10_0 : Dc J10 0 (.aload_n 0) 1 1 := by decide +kernel
theorem D10_1 : Dc J10 1 (.getfield 15) 3 4 := by decide +kernel
theorem D10_4 : Dc J10 4 .arraylength 1 5 := by decide +kernel
theorem D10_5 : Dc J10 5 (.istore_n 2) 1 6 := by decide +kernel
theorem D10_6 : Dc J10 6 (.iload_n 1) 1 7 := by decide +kernel
theorem D10_7 : Dc J10 7 (.aload_n 0) 1 8 := by decide +kernel
theorem D10_8 : Dc J10 8 (.getfield 22) 3 11 := by decide +kernel
theorem D10_11 : Dc J10 11 .ishl 1 12 := by decide +kernel
theorem D10_12 : Dc J10 12 (.istore_n 3) 1 13 := by decide +kernel
theorem D10_13 : Dc J10 13 (.iload_n 3) 1 14 := by decide +kernel
theorem D10_14 : Dc J10 14 (.iload_n 2) 1 15 := by decide +kernel
theorem D10_15 : Dc J10 15 .isub 1 16 := by decide +kernel
theorem D10_16 : Dc J10 16 (.istore 4) 2 18 := by decide +kernel
theorem D10_18 : Dc J10 18 (.iload_n 2) 1 19 := by decide +kernel
theorem D10_19 : Dc J10 19 (.iload 4) 2 21 := by decide +kernel
theorem D10_21 : Dc J10 21 (.iload_n 2) 1 22 := by decide +kernel
theorem D10_22 : Dc J10 22 (.iconst 2) 1 23 := by decide +kernel
theorem D10_23 : Dc J10 23 (.aload_n 0) 1 24 := by decide +kernel
theorem D10_24 : Dc J10 24 (.getfield 22) 3 27 := by decide +kernel
theorem D10_27 : Dc J10 27 .ishl 1 28 := by decide +kernel
theorem D10_28 : Dc J10 28 .iadd 1 29 := by decide +kernel
theorem D10_29 : Dc J10 29 (.invokestatic 114) 3 32 := by decide +kernel
abbrev Y11 : MethodName := ⟨"jdk/internal/util/ArraysSupport", "newLength", "(III)I"⟩
abbrev J11 := jdk_48_method_27_code
abbrev C11 : Cond := .code Y11 J11 4 (some .int)
theorem D11_0 : Dc J11 0 (.iload_n 0) 1 1 := by decide +kernel
theorem D11_1 : Dc J11 1 (.iload_n 1) 1 2 := by decide +kernel
theorem D11_2 : Dc J11 2 (.iload_n 2) 1 3 := by decide +kernel
theorem D11_3 : Dc J11 3 (.invokestatic 194) 3 6 := by decide +kernel
abbrev Y12 : MethodName := ⟨"java/lang/Math", "max", "(II)I"⟩
abbrev J12 := jdk_29_method_65_code
abbrev C12 : Cond := .code Y12 J12 2 (some .int)
theorem D12_0 : Dc J12 0 (.iload_n 0) 1 1 := by decide +kernel
theorem D12_1 : Dc J12 1 (.iload_n 1) 1 2 := by decide +kernel
theorem D12_2 : Dj J12 2 (.if_icmp .lt 7) 7 5 9 := by decide +kernel
theorem D12_9 : Dc J12 9 (.iload_n 1) 1 10 := by decide +kernel
theorem D12_10 : Dc J12 10 .ireturn 1 11 := by decide +kernel
theorem PN12 : plainFor Y12 = true := Jvm.Free.JP.mathPlain rfl (by decide +kernel)
theorem ef_II_2 {x0 : Int32} {x1 : Int32}  (m : MethodId) : entryFrame m #[(.int x0), (.int x1)] 2 = mkF m 0 #[.val (.int x0), .val (.int x1)] [] := by
  first | (simp [entryFrame, mkF, argsToLocals, Value.category]; done) | rfl
theorem R_12_1 {p1 p2 : Int32} (hw : HW a0 Z) (G : Gl Z w_CS w_SF w_DO w_DT w_fO w_fT) (pr1 : p1 < p2) : Mt false [] l Y12 C12 (rmk 0 0 0 0) #[.int p1, .int p2] Z a0 h0 n0 (Pv h0 (.int p2)) := by
  refine Mt.go PN12 (Or.inl rfl) ef_II_2 fun k => ?_
  replace k := k |>.iloadN D12_0 rfl |>.iloadN D12_1 rfl |>.icmpYes D12_2 (tlt pr1).1 |>.iloadN D12_9 rfl
  exact k.retI D12_10 rfl ⟨rfl, rfl⟩
abbrev w_83 (hw : HW a0 Z) := hw.at 83 rfl
abbrev w_86 (hw : HW a0 Z) := hw.at 86 rfl
abbrev w_85 (hw : HW a0 Z) := hw.at 85 rfl
theorem pd_II_r_I : parseMethodDescriptor "(II)I" = some ⟨[.int, .int], some .int⟩ := by decide +kernel
abbrev w_84 (hw : HW a0 Z) := hw.at 84 rfl
theorem S12 (hw : HW a0 Z) : SC Z a0 Y12 C12 2 (some .int) 2 := ⟨(w_84 hw), ⟨⟨_, Or.inl rfl⟩, (w_86 hw), (w_85 hw), by decide, _, _, pd_II_r_I, rfl⟩⟩
theorem D11_6 : Dc J11 6 .iadd 1 7 := by decide +kernel
theorem D11_7 : Dc J11 7 (.istore_n 3) 1 8 := by decide +kernel
theorem D11_8 : Dc J11 8 (.iconst 0) 1 9 := by decide +kernel
theorem D11_9 : Dc J11 9 (.iload_n 3) 1 10 := by decide +kernel
theorem D11_10 : Dj J11 10 (.if_icmp .ge 11) 11 13 21 := by decide +kernel
theorem D11_13 : Dc J11 13 (.iload_n 3) 1 14 := by decide +kernel
theorem D11_14 : Dc J11 14 (.ldc 200) 2 16 := by decide +kernel
abbrev w_87 (hw : HW a0 Z) := hw.at 87 rfl
theorem D11_16 : Dj J11 16 (.if_icmp .gt 5) 5 19 21 := by decide +kernel
theorem D11_19 : Dc J11 19 (.iload_n 3) 1 20 := by decide +kernel
theorem D11_20 : Dc J11 20 .ireturn 1 21 := by decide +kernel
theorem pn_ArraysSupport : plainName "jdk/internal/util/ArraysSupport" = true := by first | (simp [plainName, overriddenIn]; done) | decide +kernel
theorem PN11 : plainFor Y11 = true := plainFor_of_name pn_ArraysSupport
theorem ef_III_4 {x0 : Int32} {x1 : Int32} {x2 : Int32}  (m : MethodId) : entryFrame m #[(.int x0), (.int x1), (.int x2)] 4 = mkF m 0 #[.val (.int x0), .val (.int x1), .val (.int x2), .unset] [] := by
  first | (simp [entryFrame, mkF, argsToLocals, Value.category]; done) | rfl
theorem R_11_1 {p1 p2 p3 : Int32} (hw : HW a0 Z) (G : Gl Z w_CS w_SF w_DO w_DT w_fO w_fT) (pr1 : p2 < p3) (pr2 : 0 < (p1 + p3)) (pr3 : ¬ (2147483639 < (p1 + p3))) : Mt false [] l Y11 C11 (rmk 1 0 0 14) #[.int p1, .int p2, .int p3] Z a0 h0 n0 (Pv h0 (.int (p1 + p3))) := by
  refine Mt.go PN11 (Or.inl rfl) ef_III_4 fun k => ?_
  replace k := k |>.iloadN D11_0 rfl |>.iloadN D11_1 rfl |>.iloadN D11_2 rfl
  replace k := (k.callS (w_83 hw) (S12 hw) (R_12_1 hw G pr1) D11_3 1 rfl).pv
  replace k := k |>.iadd D11_6 rfl |>.istoreN D11_7 sto3 |>.iconst D11_8 0 |>.iloadN D11_9 rfl |>.icmpNo D11_10 (tlt pr2).2.1 |>.iloadN D11_13 rfl |>.ldcI (w_87 hw) D11_14 |>.icmpNo D11_16 (flt pr3).2.2.1 |>.iloadN D11_19 rfl
  exact k.retI D11_20 rfl ⟨rfl, rfl⟩
abbrev w_79 (hw : HW a0 Z) := hw.at 79 rfl
abbrev w_82 (hw : HW a0 Z) := hw.at 82 rfl
abbrev w_81 (hw : HW a0 Z) := hw.at 81 rfl
theorem pd_III_r_I : parseMethodDescriptor "(III)I" = some ⟨[.int, .int, .int], some .int⟩ := by decide +kernel
abbrev w_80 (hw : HW a0 Z) := hw.at 80 rfl
theorem S11 (hw : HW a0 Z) : SC Z a0 Y11 C11 4 (some .int) 3 := ⟨(w_80 hw), ⟨⟨_, Or.inl rfl⟩, (w_82 hw), (w_81 hw), by decide, _, _, pd_III_r_I, rfl⟩⟩
theorem D10_32 : Dc J10 32 (.istore 5) 2 34 := by decide +kernel
theorem D10_34 : Dc J10 34 (.iload 5) 2 36 := by decide +kernel
theorem D10_36 : Dc J10 36 (.ldc 39) 2 38 := by decide +kernel
abbrev w_88 (hw : HW a0 Z) := hw.at 88 rfl
theorem D10_38 : Dj J10 38 (.if_icmp .ne 13) 13 41 51 := by decide +kernel
theorem D10_51 : Dc J10 51 (.iload 5) 2 53 := by decide +kernel
theorem D10_53 : Dc J10 53 (.aload_n 0) 1 54 := by decide +kernel
theorem D10_54 : Dc J10 54 (.getfield 22) 3 57 := by decide +kernel
theorem D10_57 : Dc J10 57 .ishr 1 58 := by decide +kernel
theorem D10_58 : Dc J10 58 .ireturn 1 59 := by decide +kernel
theorem PN10 : plainFor Y10 = true := plainFor_of_name pn_AbstractStringBuilder
theorem ef_RI_6 {x0 : Addr} {x1 : Int32}  (m : MethodId) : entryFrame m #[(.ref x0), (.int x1)] 6 = mkF m 0 #[.val (.ref x0), .val (.int x1), .unset, .unset, .unset, .unset] [] := by
  first | (simp [entryFrame, mkF, argsToLocals, Value.category]; done) | rfl
theorem R_10_1 {a1 a2 : Addr} (hw : HW a0 Z) (G : Gl Z w_CS w_SF w_DO w_DT w_fO w_fT) (pr1 : Obj Z h0 a1 L_StringBuilder [.ref a2, .int 0, .int 0]) (pr2 : Ary Z h0 a2 ATB 16 (bv (lvi [0, 0, 0, 0, 0, 0, 0, 0, 0, 0, 0, 0, 0, 0, 0, 0]))) : Mt false [] l Y10 C10 (rmk 2 0 0 29) #[.ref a1, .int 32] Z a0 h0 n0 (Pv h0 (.int 34)) := by
  refine Mt.go PN10 (Or.inl rfl) ef_RI_6 fun k => ?_
  replace k := k |>.aloadN D10_0 rfl rfl |>.getF (fl_34 hw) pr1 0 D10_1 rfl rfl |>.alen pr2 D10_4 (z := 16) (by decide) |>.istoreN D10_5 sto2 |>.iloadN D10_6 rfl |>.aloadN D10_7 rfl rfl |>.getF (fl_36 hw) pr1 1 D10_8 rfl rfl |>.ishl D10_11 (z := 32) |>.istoreN D10_12 sto3 |>.iloadN D10_13 rfl |>.iloadN D10_14 rfl |>.isub D10_15 (z := 16)
  replace k := k |>.istore D10_16 sto4 |>.iloadN D10_18 rfl |>.iload D10_19 rfl |>.iloadN D10_21 rfl |>.iconst D10_22 2 |>.aloadN D10_23 rfl rfl |>.getF (fl_36 hw) pr1 1 D10_24 rfl rfl |>.ishl D10_27 (z := 2) |>.iadd D10_28 (z := 18)
  replace k := (k.callS (w_79 hw) (S11 hw) (R_11_1 hw G (by decide) (by decide) (by decide) (p1 := 16) (p2 := 16) (p3 := 18)) D10_29 0 rfl).pv
  replace k := k |>.top (y := 34) (by decide) |>.istore D10_32 sto5 |>.iload D10_34 rfl |>.ldcI (w_88 hw) D10_36 |>.icmpYes D10_38  |>.iload D10_51 rfl |>.aloadN D10_53 rfl rfl |>.getF (fl_36 hw) pr1 1 D10_54 rfl rfl |>.ishr D10_57 (z := 34)
  exact k.retI D10_58 rfl ⟨rfl, rfl⟩
abbrev w_74 (hw : HW a0 Z) := hw.at 74 rfl
abbrev w_78 (hw : HW a0 Z) := hw.at 78 rfl
theorem pd_I_r_I : parseMethodDescriptor "(I)I" = some ⟨[.int], some .int⟩ := by decide +kernel
abbrev w_77 (hw : HW a0 Z) := hw.at 77 rfl
abbrev w_76 (hw : HW a0 Z) := hw.at 76 rfl
abbrev w_75 (hw : HW a0 Z) := hw.at 75 rfl
theorem P10 (hw : HW a0 Z) : PC Z a0 Y10 jdk_68_method_10_code 6 (some .int) 1 := ⟨(w_75 hw), fun s args hZ => ⟨selPriv (by decide) (mvT (args := args) hZ (w_77 hw)) (mvP hZ (w_76 hw)) (mvT hZ (w_75 hw)), Cond.privateMethod_at (mvP hZ (w_76 hw) (args := #[]))⟩, ⟨⟨_, Or.inl rfl⟩, (w_78 hw), (w_28 hw), by decide, _, _, pd_I_r_I, rfl⟩⟩
theorem D9_27 : Dc J9 27 (.aload_n 0) 1 28 := by decide +kernel
theorem D9_28 : Dc J9 28 (.getfield 22) 3 31 := by decide +kernel
theorem D9_31 : Dc J9 31 .ishl 1 32 := by decide +kernel
theorem D9_32 : Dc J9 32 (.invokestatic 108) 3 35 := by decide +kernel
abbrev Y13 : MethodName := ⟨"java/util/Arrays", "copyOf", "([BI)[B"⟩
abbrev J13 := jdk_65_method_121_code
abbrev C13 : Cond := .code Y13 J13 3 (some (.array .byte))
theorem D13_0 : Dc J13 0 (.iload_n 1) 1 1 := by decide +kernel
theorem D13_1 : Dc J13 1 (.aload_n 0) 1 2 := by decide +kernel
theorem D13_2 : Dc J13 2 .arraylength 1 3 := by decide +kernel
theorem D13_3 : Dj J13 3 (.if_icmp .ne 11) 11 6 14 := by decide +kernel
theorem D13_14 : Dc J13 14 (.iload_n 1) 1 15 := by decide +kernel
theorem D13_15 : Dc J13 15 (.newarray .byte) 2 17 := by decide +kernel
theorem D13_17 : Dc J13 17 (.astore_n 2) 1 18 := by decide +kernel
theorem D13_18 : Dc J13 18 (.aload_n 0) 1 19 := by decide +kernel
theorem D13_19 : Dc J13 19 (.iconst 0) 1 20 := by decide +kernel
theorem D13_20 : Dc J13 20 (.aload_n 2) 1 21 := by decide +kernel
theorem D13_21 : Dc J13 21 (.iconst 0) 1 22 := by decide +kernel
theorem D13_22 : Dc J13 22 (.aload_n 0) 1 23 := by decide +kernel
theorem D13_23 : Dc J13 23 .arraylength 1 24 := by decide +kernel
theorem D13_24 : Dc J13 24 (.iload_n 1) 1 25 := by decide +kernel
theorem D13_25 : Dc J13 25 (.invokestatic 304) 3 28 := by decide +kernel
abbrev Y14 : MethodName := ⟨"java/lang/Math", "min", "(II)I"⟩
abbrev J14 := jdk_29_method_69_code
abbrev C14 : Cond := .code Y14 J14 2 (some .int)
theorem D14_0 : Dc J14 0 (.iload_n 0) 1 1 := by decide +kernel
theorem D14_1 : Dc J14 1 (.iload_n 1) 1 2 := by decide +kernel
theorem D14_2 : Dj J14 2 (.if_icmp .gt 7) 7 5 9 := by decide +kernel
theorem D14_5 : Dc J14 5 (.iload_n 0) 1 6 := by decide +kernel
theorem D14_6 : Dj J14 6 (.goto 4) 4 9 10 := by decide +kernel
theorem D14_10 : Dc J14 10 .ireturn 1 11 := by decide +kernel
theorem PN14 : plainFor Y14 = true := Jvm.Free.JP.mathPlain rfl (by decide +kernel)
theorem R_14_1 {p1 p2 : Int32} (hw : HW a0 Z) (G : Gl Z w_CS w_SF w_DO w_DT w_fO w_fT) (pr1 : ¬ (p2 < p1)) : Mt false [] l Y14 C14 (rmk 0 0 0 0) #[.int p1, .int p2] Z a0 h0 n0 (Pv h0 (.int p1)) := by
  refine Mt.go PN14 (Or.inl rfl) ef_II_2 fun k => ?_
  replace k := k |>.iloadN D14_0 rfl |>.iloadN D14_1 rfl |>.icmpNo D14_2 (flt pr1).2.2.1 |>.iloadN D14_5 rfl |>.goto D14_6
  exact k.retI D14_10 rfl ⟨rfl, rfl⟩
abbrev w_93 (hw : HW a0 Z) := hw.at 93 rfl
abbrev w_95 (hw : HW a0 Z) := hw.at 95 rfl
abbrev w_94 (hw : HW a0 Z) := hw.at 94 rfl
theorem S14 (hw : HW a0 Z) : SC Z a0 Y14 C14 2 (some .int) 2 := ⟨(w_94 hw), ⟨⟨_, Or.inl rfl⟩, (w_95 hw), (w_85 hw), by decide, _, _, pd_II_r_I, rfl⟩⟩
theorem D13_28 : Dc J13 28 (.invokestatic 150) 3 31 := by decide +kernel
abbrev w_96 (hw : HW a0 Z) := hw.at 96 rfl
abbrev w_99 (hw : HW a0 Z) := hw.at 99 rfl
abbrev w_97 (hw : HW a0 Z) := hw.at 97 rfl
abbrev w_98 (hw : HW a0 Z) := hw.at 98 rfl
theorem D13_31 : Dc J13 31 (.aload_n 2) 1 32 := by decide +kernel
theorem D13_32 : Dc J13 32 .areturn 1 33 := by decide +kernel
theorem pn_Arrays : plainName "java/util/Arrays" = true := by first | (simp [plainName, overriddenIn]; done) | decide +kernel
theorem PN13 : plainFor Y13 = true := plainFor_of_name pn_Arrays
theorem ef_RI_3 {x0 : Addr} {x1 : Int32}  (m : MethodId) : entryFrame m #[(.ref x0), (.int x1)] 3 = mkF m 0 #[.val (.ref x0), .val (.int x1), .unset] [] := by
  first | (simp [entryFrame, mkF, argsToLocals, Value.category]; done) | rfl
theorem R_13_1 {a1 : Addr} (hw : HW a0 Z) (G : Gl Z w_CS w_SF w_DO w_DT w_fO w_fT) (pr1 : Ary Z h0 a1 ATB 16 (bv (lvi [0, 0, 0, 0, 0, 0, 0, 0, 0, 0, 0, 0, 0, 0, 0, 0]))) : Mt false [] l Y13 C13 (rmk 1 1 34 18) #[.ref a1, .int 34] Z a0 h0 n0 (KpV h0 [] fun v h => ∃ u1 : Addr, v = (.ref u1) ∧ h0.size ≤ u1 ∧ Ary Z h u1 ATB 34 (bv (lvi [0, 0, 0, 0, 0, 0, 0, 0, 0, 0, 0, 0, 0, 0, 0, 0, 0, 0, 0, 0, 0, 0, 0, 0, 0, 0, 0, 0, 0, 0, 0, 0, 0, 0]))) := by
  refine Mt.go PN13 (Or.inl rfl) ef_RI_3 fun k => ?_
  have nz := k.n0le
  replace k := k |>.iloadN D13_0 rfl |>.aloadN D13_1 rfl rfl |>.alen pr1 D13_2 (z := 16) (by decide) |>.icmpYes D13_3  |>.iloadN D13_14 rfl
  have z1 := k.sz
  obtain ⟨b1, h1, g1, K1, O1, k⟩ := k.newP (aty := .byte) "[B" (w_33 hw) (by decide) D13_15 34 (by decide) (n := 34) (by decide) (by decide) (by decide) (bi_const (L := [0, 0, 0, 0, 0, 0, 0, 0, 0, 0, 0, 0, 0, 0, 0, 0, 0, 0, 0, 0, 0, 0, 0, 0, 0, 0, 0, 0, 0, 0, 0, 0, 0, 0]) rfl)
  replace k := k |>.astoreN D13_17 rfl sto2 |>.aloadN D13_18 rfl rfl |>.iconst D13_19 0 |>.aloadN D13_20 rfl rfl |>.iconst D13_21 0 |>.aloadN D13_22 rfl rfl
  have o2 := pr1.keep K1 nin0
  replace k := k |>.alen o2 D13_23 (z := 16) (by decide) |>.iloadN D13_24 rfl
  replace k := (k.callS (w_93 hw) (S14 hw) (R_14_1 hw G (by decide) (p1 := 16) (p2 := 34)) D13_25 4 rfl).pv
  have s_b1 := Nat.le_trans z1 g1
  have n_b1 := Nat.le_trans nz s_b1
  obtain ⟨h4, K4, O4, k⟩ := k.acopy (w_96 hw) (w_99 hw) (w_97 hw) (w_98 hw) o2 O1 ⟨rfl, rfl⟩ (sp' := 0) (by decide) (dp' := 0) (by decide) (nn' := 16) (by decide) (by decide) (by decide) (bi_cpy (V' := [0, 0, 0, 0, 0, 0, 0, 0, 0, 0, 0, 0, 0, 0, 0, 0, 0, 0, 0, 0, 0, 0, 0, 0, 0, 0, 0, 0, 0, 0, 0, 0, 0, 0]) rfl rfl) n_b1 D13_28 0
  replace k := k |>.aloadN D13_31 rfl rfl
  exact k.retA D13_32 rfl ⟨_, rfl, (K1.trans K4 (allS (Or.inr s_b1) all0)), b1, rfl, s_b1, O4⟩
abbrev w_89 (hw : HW a0 Z) := hw.at 89 rfl
abbrev w_92 (hw : HW a0 Z) := hw.at 92 rfl
abbrev w_91 (hw : HW a0 Z) := hw.at 91 rfl
theorem pd_ABI_r_AB : parseMethodDescriptor "([BI)[B" = some ⟨[(.array .byte), .int], some (.array .byte)⟩ := by decide +kernel
abbrev w_90 (hw : HW a0 Z) := hw.at 90 rfl
theorem S13 (hw : HW a0 Z) : SC Z a0 Y13 C13 3 (some (.array .byte)) 2 := ⟨(w_90 hw), ⟨⟨_, Or.inl rfl⟩, (w_92 hw), (w_91 hw), by decide, _, _, pd_ABI_r_AB, rfl⟩⟩
theorem D9_35 : Dc J9 35 (.putfield 15) 3 38 := by decide +kernel
theorem pw_AbstractStringBuilder_m_StringBuilder_value {mn : String} (hw : HW a0 Z) : PW Z a0 "java/lang/AbstractStringBuilder" mn L_StringBuilder "java/lang/AbstractStringBuilder" "value" "[B" (.array .byte) := ⟨okL_StringBuilder hw, Or.inl (w_35 hw), ⟨_, (w_19 hw)⟩, by decide +kernel⟩
theorem D9_38 : Dc J9 38 .return_ 1 39 := by decide +kernel
theorem PN9 : plainFor Y9 = true := plainFor_of_name pn_AbstractStringBuilder
theorem R_9_1 {a1 a2 : Addr} (hw : HW a0 Z) (G : Gl Z w_CS w_SF w_DO w_DT w_fO w_fT) (pr1 : Obj Z h0 a1 L_StringBuilder [.ref a2, .int 0, .int 0]) (pr2 : Ary Z h0 a2 ATB 16 (bv (lvi [0, 0, 0, 0, 0, 0, 0, 0, 0, 0, 0, 0, 0, 0, 0, 0]))) (pr3 : n0 ≤ a1) : Mt false [] l Y9 C9 (rmk 3 1 34 48) #[.ref a1, .int 32] Z a0 h0 n0 (K0 h0 [a1] fun h => ∃ u1 : Addr, h0.size ≤ u1 ∧ Obj Z h a1 L_StringBuilder [.ref u1, .int 0, .int 0] ∧ Ary Z h u1 ATB 34 (bv (lvi [0, 0, 0, 0, 0, 0, 0, 0, 0, 0, 0, 0, 0, 0, 0, 0, 0, 0, 0, 0, 0, 0, 0, 0, 0, 0, 0, 0, 0, 0, 0, 0, 0, 0]))) := by
  refine Mt.go PN9 (Or.inl rfl) ef_RI_3 fun k => ?_
  replace k := k |>.aloadN D9_0 rfl rfl |>.getF (fl_34 hw) pr1 0 D9_1 rfl rfl |>.alen pr2 D9_4 (z := 16) (by decide) |>.aloadN D9_5 rfl rfl |>.getF (fl_36 hw) pr1 1 D9_6 rfl rfl |>.ishr D9_9 (z := 16) |>.istoreN D9_10 sto2 |>.iloadN D9_11 rfl |>.iloadN D9_12 rfl |>.isub D9_13 (z := 16) |>.ifNo D9_14  |>.aloadN D9_17 rfl rfl
  replace k := k |>.aloadN D9_18 rfl rfl |>.getF (fl_34 hw) pr1 0 D9_19 rfl rfl |>.aloadN D9_22 rfl rfl |>.iloadN D9_23 rfl
  replace k := (k.callP (w_74 hw) (P10 hw) pr1.exa (R_10_1 hw G pr1 pr2) D9_24 2 rfl).pv
  replace k := k |>.aloadN D9_27 rfl rfl |>.getF (fl_36 hw) pr1 1 D9_28 rfl rfl |>.ishl D9_31 (z := 34)
  have z2 := k.sz
  obtain ⟨_, h2, K2, ⟨u1_2, rfl, f2_0, f2_1⟩, k⟩ := (k.callS (w_89 hw) (S13 hw) (R_13_1 hw G pr2) D9_32 1 rfl).kv
  have o3 := pr1.keep K2 nin0
  obtain ⟨h4, K4, O4, k⟩ := k.putF (fl_34 hw) (pw_AbstractStringBuilder_m_StringBuilder_value hw) o3 0 pr3 (Or.inl rfl) D9_35 rfl rfl rfl ls0
  have s_u1_2 := Nat.le_trans z2 f2_0
  have o5 := f2_1.keep K4 (ninS (nlt' pr1.lt s_u1_2) nin0)
  exact k.ret0 D9_38 rfl ⟨rfl, (((Keep.refl h0 [a1]).trans K2 all0).trans K4 (allS (Or.inl (List.mem_of_getElem? (i := 0) rfl)) all0)), u1_2, s_u1_2, O4, o5⟩
abbrev w_69 (hw : HW a0 Z) := hw.at 69 rfl
abbrev w_73 (hw : HW a0 Z) := hw.at 73 rfl
abbrev w_72 (hw : HW a0 Z) := hw.at 72 rfl
abbrev w_71 (hw : HW a0 Z) := hw.at 71 rfl
abbrev w_70 (hw : HW a0 Z) := hw.at 70 rfl
theorem P9 (hw : HW a0 Z) : PC Z a0 Y9 jdk_68_method_9_code 3 none 1 := ⟨(w_70 hw), fun s args hZ => ⟨selPriv (by decide) (mvT (args := args) hZ (w_72 hw)) (mvP hZ (w_71 hw)) (mvT hZ (w_70 hw)), Cond.privateMethod_at (mvP hZ (w_71 hw) (args := #[]))⟩, ⟨⟨_, Or.inl rfl⟩, (w_73 hw), (w_28 hw), by decide, _, _, pd_I_r_V, rfl⟩⟩
theorem D6_24 : Dc J6 24 (.aload_n 0) 1 25 := by decide +kernel
theorem D6_25 : Dc J6 25 (.aload_n 0) 1 26 := by decide +kernel
theorem D6_26 : Dc J6 26 (.getfield 79) 3 29 := by decide +kernel
theorem D6_29 : Dc J6 29 (.aload_n 1) 1 30 := by decide +kernel
theorem D6_30 : Dc J6 30 (.invokevirtual 208) 3 33 := by decide +kernel
abbrev Y15 : MethodName := ⟨"java/lang/AbstractStringBuilder", "putStringAt", "(ILjava/lang/String;)V"⟩
abbrev J15 := jdk_68_method_73_code
abbrev C15 : Cond := .code Y15 J15 3 none
theorem D15_0 : Dc J15 0 (.aload_n 0) 1 1 := by decide +kernel
theorem D15_1 : Dc J15 1 (.aload_n 2) 1 2 := by decide +kernel
theorem D15_2 : Dc J15 2 (.invokevirtual 397) 3 5 := by decide +kernel
abbrev Y16 : MethodName := ⟨"java/lang/AbstractStringBuilder", "inflateIfNeededFor", "(Ljava/lang/String;)V"⟩
abbrev J16 := jdk_68_method_71_code
abbrev C16 : Cond := .code Y16 J16 2 none
theorem D16_0 : Dc J16 0 (.getstatic 18) 3 3 := by decide +kernel
theorem D16_3 : Dj J16 3 (.ifCond .eq 18) 18 6 21 := by decide +kernel
theorem D16_6 : Dc J16 6 (.aload_n 0) 1 7 := by decide +kernel
theorem D16_7 : Dc J16 7 (.getfield 22) 3 10 := by decide +kernel
theorem D16_10 : Dc J16 10 (.aload_n 1) 1 11 := by decide +kernel
theorem D16_11 : Dc J16 11 (.invokevirtual 40) 3 14 := by decide +kernel
abbrev w_110 (hw : HW a0 Z) := hw.at 110 rfl
theorem D16_14 : Dj J16 14 (.if_icmp .eq 7) 7 17 21 := by decide +kernel
theorem D16_21 : Dc J16 21 .return_ 1 22 := by decide +kernel
theorem PN16 : plainFor Y16 = true := plainFor_of_name pn_AbstractStringBuilder
theorem ef_RR_2 {x0 : Addr} {x1 : Addr}  (m : MethodId) : entryFrame m #[(.ref x0), (.ref x1)] 2 = mkF m 0 #[.val (.ref x0), .val (.ref x1)] [] := by
  first | (simp [entryFrame, mkF, argsToLocals, Value.category]; done) | rfl
theorem R_16_1 {a1 a2 a3 a4 : Addr} (hw : HW a0 Z) (G : Gl Z w_CS w_SF w_DO w_DT w_fO w_fT) (pr1 : Obj Z h0 a1 L_StringBuilder [.ref a3, .int 0, .int 0]) (pr2 : Obj Z h0 a2 litL [.ref a4, .int 0]) : Mt false [] l Y16 C16 (rmk 1 0 0 13) #[.ref a1, .ref a2] Z a0 h0 n0 (P0 h0) := by
  refine Mt.go PN16 (Or.inl rfl) ef_RR_2 fun k => ?_
  replace k := k |>.getS (fl_31 hw) G.S_CS D16_0 |>.ifNo D16_3 ((if0 _ _).trans (feq G.h_CS).1) |>.aloadN D16_6 rfl rfl |>.getF (fl_36 hw) pr1 1 D16_7 rfl rfl |>.aloadN D16_10 rfl rfl
  replace k := (k.callV (w_110 hw) (V_Y8_8_String hw) pr2.exa (R_8_1 hw G pr2) D16_11 1 rfl).pv
  replace k := k |>.icmpYes D16_14 
  exact k.ret0 D16_21 rfl ⟨rfl, rfl⟩
abbrev w_105 (hw : HW a0 Z) := hw.at 105 rfl
abbrev w_109 (hw : HW a0 Z) := hw.at 109 rfl
theorem pd_Ljava_lang_String_r_V : parseMethodDescriptor "(Ljava/lang/String;)V" = some ⟨[(.object "java/lang/String")], none⟩ := by decide +kernel
abbrev w_108 (hw : HW a0 Z) := hw.at 108 rfl
abbrev w_107 (hw : HW a0 Z) := hw.at 107 rfl
abbrev w_106 (hw : HW a0 Z) := hw.at 106 rfl
theorem P16 (hw : HW a0 Z) : PC Z a0 Y16 jdk_68_method_71_code 2 none 1 := ⟨(w_106 hw), fun s args hZ => ⟨selPriv (by decide) (mvT (args := args) hZ (w_108 hw)) (mvP hZ (w_107 hw)) (mvT hZ (w_106 hw)), Cond.privateMethod_at (mvP hZ (w_107 hw) (args := #[]))⟩, ⟨⟨_, Or.inl rfl⟩, (w_109 hw), (w_28 hw), by decide, _, _, pd_Ljava_lang_String_r_V, rfl⟩⟩
theorem D15_5 : Dc J15 5 (.aload_n 2) 1 6 := by decide +kernel
theorem D15_6 : Dc J15 6 (.aload_n 0) 1 7 := by decide +kernel
theorem D15_7 : Dc J15 7 (.getfield 15) 3 10 := by decide +kernel
theorem D15_10 : Dc J15 10 (.iload_n 1) 1 11 := by decide +kernel
theorem D15_11 : Dc J15 11 (.aload_n 0) 1 12 := by decide +kernel
theorem D15_12 : Dc J15 12 (.getfield 22) 3 15 := by decide +kernel
theorem D15_15 : Dc J15 15 (.invokevirtual 399) 3 18 := by decide +kernel
abbrev Y17 : MethodName := ⟨"java/lang/String", "getBytes", "([BIB)V"⟩
abbrev J17 := jdk_42_method_147_code
abbrev C17 : Cond := .code Y17 J17 4 none
theorem D17_0 : Dc J17 0 (.aload_n 0) 1 1 := by decide +kernel
theorem D17_1 : Dc J17 1 (.invokevirtual 335) 3 4 := by decide +kernel
theorem D17_4 : Dc J17 4 (.iload_n 3) 1 5 := by decide +kernel
theorem D17_5 : Dj J17 5 (.if_icmp .ne 23) 23 8 28 := by decide +kernel
theorem D17_8 : Dc J17 8 (.aload_n 0) 1 9 := by decide +kernel
theorem D17_9 : Dc J17 9 (.getfield 9) 3 12 := by decide +kernel
theorem D17_12 : Dc J17 12 (.iconst 0) 1 13 := by decide +kernel
theorem D17_13 : Dc J17 13 (.aload_n 1) 1 14 := by decide +kernel
theorem D17_14 : Dc J17 14 (.iload_n 2) 1 15 := by decide +kernel
theorem D17_15 : Dc J17 15 (.iload_n 3) 1 16 := by decide +kernel
theorem D17_16 : Dc J17 16 .ishl 1 17 := by decide +kernel
theorem D17_17 : Dc J17 17 (.aload_n 0) 1 18 := by decide +kernel
theorem D17_18 : Dc J17 18 (.getfield 9) 3 21 := by decide +kernel
theorem D17_21 : Dc J17 21 .arraylength 1 22 := by decide +kernel
theorem D17_22 : Dc J17 22 (.invokestatic 212) 3 25 := by decide +kernel
abbrev w_116 (hw : HW a0 Z) := hw.at 116 rfl
theorem D17_25 : Dj J17 25 (.goto 18) 18 28 43 := by decide +kernel
theorem D17_43 : Dc J17 43 .return_ 1 44 := by decide +kernel
theorem PN17 : plainFor Y17 = true := plainFor_of_name pn_String
theorem ef_RRII_4 {x0 : Addr} {x1 : Addr} {x2 : Int32} {x3 : Int32}  (m : MethodId) : entryFrame m #[(.ref x0), (.ref x1), (.int x2), (.int x3)] 4 = mkF m 0 #[.val (.ref x0), .val (.ref x1), .val (.int x2), .val (.int x3)] [] := by
  first | (simp [entryFrame, mkF, argsToLocals, Value.category]; done) | rfl
theorem R_17_1 {a1 a2 a3 : Addr} (hw : HW a0 Z) (G : Gl Z w_CS w_SF w_DO w_DT w_fO w_fT) (pr1 : Obj Z h0 a1 litL [.ref a3, .int 0]) (pr2 : Ary Z h0 a3 ("", .byte) 32 (bv (lvi [83, 101, 109, 97, 112, 104, 111, 114, 101, 66, 117, 108, 107, 104, 101, 97, 100, 83, 110, 97, 112, 115, 104, 111, 116, 91, 108, 105, 109, 105, 116, 61]))) (pr3 : Ary Z h0 a2 ATB 34 (bv (lvi [0, 0, 0, 0, 0, 0, 0, 0, 0, 0, 0, 0, 0, 0, 0, 0, 0, 0, 0, 0, 0, 0, 0, 0, 0, 0, 0, 0, 0, 0, 0, 0, 0, 0]))) (pr4 : n0 ≤ a2) : Mt false [] l Y17 C17 (rmk 1 0 0 18) #[.ref a1, .ref a2, .int 0, .int 0] Z a0 h0 n0 (K0 h0 [a2] fun h => Ary Z h a2 ATB 34 (bv (lvi [83, 101, 109, 97, 112, 104, 111, 114, 101, 66, 117, 108, 107, 104, 101, 97, 100, 83, 110, 97, 112, 115, 104, 111, 116, 91, 108, 105, 109, 105, 116, 61, 0, 0]))) := by
  refine Mt.go PN17 (Or.inl rfl) ef_RRII_4 fun k => ?_
  replace k := k |>.aloadN D17_0 rfl rfl
  replace k := (k.callV (w_60 hw) (V_Y8_8_String hw) pr1.exa (R_8_1 hw G pr1) D17_1 0 rfl).pv
  replace k := k |>.iloadN D17_4 rfl |>.icmpNo D17_5  |>.aloadN D17_8 rfl rfl |>.getF (fl_59 hw) pr1 0 D17_9 rfl rfl |>.iconst D17_12 0 |>.aloadN D17_13 rfl rfl |>.iloadN D17_14 rfl |>.iloadN D17_15 rfl |>.ishl D17_16 (z := 0) |>.aloadN D17_17 rfl rfl |>.getF (fl_59 hw) pr1 0 D17_18 rfl rfl |>.alen pr2 D17_21 (z := 32) (by decide)
  obtain ⟨h2, K2, O2, k⟩ := k.acopy (w_116 hw) (w_99 hw) (w_97 hw) (w_98 hw) pr2 pr3 ⟨rfl, rfl⟩ (sp' := 0) (by decide) (dp' := 0) (by decide) (nn' := 32) (by decide) (by decide) (by decide) (bi_cpy (V' := [83, 101, 109, 97, 112, 104, 111, 114, 101, 66, 117, 108, 107, 104, 101, 97, 100, 83, 110, 97, 112, 115, 104, 111, 116, 91, 108, 105, 109, 105, 116, 61, 0, 0]) rfl rfl) pr4 D17_22 0
  replace k := k |>.goto D17_25
  exact k.ret0 D17_43 rfl ⟨rfl, K2, O2⟩
abbrev w_111 (hw : HW a0 Z) := hw.at 111 rfl
abbrev w_115 (hw : HW a0 Z) := hw.at 115 rfl
theorem pd_ABIB_r_V : parseMethodDescriptor "([BIB)V" = some ⟨[(.array .byte), .int, .byte], none⟩ := by decide +kernel
abbrev w_114 (hw : HW a0 Z) := hw.at 114 rfl
abbrev w_113 (hw : HW a0 Z) := hw.at 113 rfl
abbrev w_112 (hw : HW a0 Z) := hw.at 112 rfl
theorem V_Y17_17_String (hw : HW a0 Z) : VC Z a0 Y17 Y17 "java/lang/String" C17 4 none 3 := ⟨(w_112 hw), fun s hZ => notFace_of_selects (args := #[]) (mvT hZ (w_114 hw)), (w_114 hw), (w_113 hw), by decide, rfl, ⟨⟨_, Or.inl rfl⟩, (w_115 hw), (w_32 hw), by decide, _, _, pd_ABIB_r_V, rfl⟩⟩
theorem D15_18 : Dc J15 18 .return_ 1 19 := by decide +kernel
theorem PN15 : plainFor Y15 = true := plainFor_of_name pn_AbstractStringBuilder
theorem ef_RIR_3 {x0 : Addr} {x1 : Int32} {x2 : Addr}  (m : MethodId) : entryFrame m #[(.ref x0), (.int x1), (.ref x2)] 3 = mkF m 0 #[.val (.ref x0), .val (.int x1), .val (.ref x2)] [] := by
  first | (simp [entryFrame, mkF, argsToLocals, Value.category]; done) | rfl
theorem R_15_1 {a1 a2 a3 a4 : Addr} (hw : HW a0 Z) (G : Gl Z w_CS w_SF w_DO w_DT w_fO w_fT) (pr1 : Obj Z h0 a1 L_StringBuilder [.ref a3, .int 0, .int 0]) (pr2 : Obj Z h0 a2 litL [.ref a4, .int 0]) (pr3 : Ary Z h0 a4 ("", .byte) 32 (bv (lvi [83, 101, 109, 97, 112, 104, 111, 114, 101, 66, 117, 108, 107, 104, 101, 97, 100, 83, 110, 97, 112, 115, 104, 111, 116, 91, 108, 105, 109, 105, 116, 61]))) (pr4 : Ary Z h0 a3 ATB 34 (bv (lvi [0, 0, 0, 0, 0, 0, 0, 0, 0, 0, 0, 0, 0, 0, 0, 0, 0, 0, 0, 0, 0, 0, 0, 0, 0, 0, 0, 0, 0, 0, 0, 0, 0, 0]))) (pr5 : n0 ≤ a3) : Mt false [] l Y15 C15 (rmk 2 0 0 33) #[.ref a1, .int 0, .ref a2] Z a0 h0 n0 (K0 h0 [a3] fun h => Ary Z h a3 ATB 34 (bv (lvi [83, 101, 109, 97, 112, 104, 111, 114, 101, 66, 117, 108, 107, 104, 101, 97, 100, 83, 110, 97, 112, 115, 104, 111, 116, 91, 108, 105, 109, 105, 116, 61, 0, 0]))) := by
  refine Mt.go PN15 (Or.inl rfl) ef_RIR_3 fun k => ?_
  replace k := k |>.aloadN D15_0 rfl rfl |>.aloadN D15_1 rfl rfl
  replace k := (k.callP (w_105 hw) (P16 hw) pr1.exa (R_16_1 hw G pr1 pr2) D15_2 0 rfl).p0
  replace k := k |>.aloadN D15_5 rfl rfl |>.aloadN D15_6 rfl rfl |>.getF (fl_34 hw) pr1 0 D15_7 rfl rfl |>.iloadN D15_10 rfl |>.aloadN D15_11 rfl rfl |>.getF (fl_36 hw) pr1 1 D15_12 rfl rfl
  obtain ⟨h2, K2, f2_0, k⟩ := (k.callV (w_111 hw) (V_Y17_17_String hw) pr2.exa (R_17_1 hw G pr2 pr3 pr4 pr5) D15_15 0 rfl).k0 (allS pr5 all0)
  exact k.ret0 D15_18 rfl ⟨rfl, K2, f2_0⟩
abbrev w_100 (hw : HW a0 Z) := hw.at 100 rfl
abbrev w_104 (hw : HW a0 Z) := hw.at 104 rfl
theorem pd_ILjava_lang_String_r_V : parseMethodDescriptor "(ILjava/lang/String;)V" = some ⟨[.int, (.object "java/lang/String")], none⟩ := by decide +kernel
abbrev w_103 (hw : HW a0 Z) := hw.at 103 rfl
abbrev w_102 (hw : HW a0 Z) := hw.at 102 rfl
abbrev w_101 (hw : HW a0 Z) := hw.at 101 rfl
theorem P15 (hw : HW a0 Z) : PC Z a0 Y15 jdk_68_method_73_code 3 none 2 := ⟨(w_101 hw), fun s args hZ => ⟨selPriv (by decide) (mvT (args := args) hZ (w_103 hw)) (mvP hZ (w_102 hw)) (mvT hZ (w_101 hw)), Cond.privateMethod_at (mvP hZ (w_102 hw) (args := #[]))⟩, ⟨⟨_, Or.inl rfl⟩, (w_104 hw), (w_28 hw), by decide, _, _, pd_ILjava_lang_String_r_V, rfl⟩⟩
theorem D6_33 : Dc J6 33 (.aload_n 0) 1 34 := by decide +kernel
theorem D6_34 : Dc J6 34 .dup 1 35 := by decide +kernel
theorem D6_35 : Dc J6 35 (.getfield 79) 3 38 := by decide +kernel
theorem D6_38 : Dc J6 38 (.iload_n 2) 1 39 := by decide +kernel
theorem D6_39 : Dc J6 39 .iadd 1 40 := by decide +kernel
theorem D6_40 : Dc J6 40 (.putfield 79) 3 43 := by decide +kernel
theorem pw_AbstractStringBuilder_m_StringBuilder_count {mn : String} (hw : HW a0 Z) : PW Z a0 "java/lang/AbstractStringBuilder" mn L_StringBuilder "java/lang/AbstractStringBuilder" "count" "I" .int := ⟨okL_StringBuilder hw, Or.inl (w_68 hw), ⟨_, (w_19 hw)⟩, by decide +kernel⟩
theorem ls2 {x0 x1 x v : Value} {t : List Value} : (x0 :: x1 :: x :: t).set 2 v = x0 :: x1 :: v :: t := rfl
theorem D6_43 : Dc J6 43 (.aload_n 0) 1 44 := by decide +kernel
theorem D6_44 : Dc J6 44 .areturn 1 45 := by decide +kernel
theorem PN6 : plainFor Y6 = true := plainFor_of_name pn_AbstractStringBuilder
theorem ef_RR_3 {x0 : Addr} {x1 : Addr}  (m : MethodId) : entryFrame m #[(.ref x0), (.ref x1)] 3 = mkF m 0 #[.val (.ref x0), .val (.ref x1), .unset] [] := by
  first | (simp [entryFrame, mkF, argsToLocals, Value.category]; done) | rfl
theorem R_6_1 {a1 a2 a3 a4 : Addr} (hw : HW a0 Z) (G : Gl Z w_CS w_SF w_DO w_DT w_fO w_fT) (pr1 : Obj Z h0 a2 litL [.ref a3, .int 0]) (pr2 : Ary Z h0 a3 ("", .byte) 32 (bv (lvi [83, 101, 109, 97, 112, 104, 111, 114, 101, 66, 117, 108, 107, 104, 101, 97, 100, 83, 110, 97, 112, 115, 104, 111, 116, 91, 108, 105, 109, 105, 116, 61]))) (pr3 : Obj Z h0 a1 L_StringBuilder [.ref a4, .int 0, .int 0]) (pr4 : Ary Z h0 a4 ATB 16 (bv (lvi [0, 0, 0, 0, 0, 0, 0, 0, 0, 0, 0, 0, 0, 0, 0, 0]))) (pr5 : n0 ≤ a1) (pr6 : a2 ≠ a1) (pr7 : a3 ≠ a1) : Mt false [] l Y6 C6 (rmk 4 1 34 62) #[.ref a1, .ref a2] Z a0 h0 n0 (KpV h0 [a1] fun v h => ∃ u1 : Addr, v = (.ref a1) ∧ h0.size ≤ u1 ∧ Obj Z h a1 L_StringBuilder [.ref u1, .int 0, .int 32] ∧ Ary Z h u1 ATB 34 (bv (lvi [83, 101, 109, 97, 112, 104, 111, 114, 101, 66, 117, 108, 107, 104, 101, 97, 100, 83, 110, 97, 112, 115, 104, 111, 116, 91, 108, 105, 109, 105, 116, 61, 0, 0]))) := by
  refine Mt.go PN6 (Or.inl rfl) ef_RR_3 fun k => ?_
  have nz := k.n0le
  replace k := k |>.aloadN D6_0 rfl rfl |>.ifnonnullYes D6_1 |>.aloadN D6_9 rfl rfl
  replace k := (k.callV (w_54 hw) (V_Y7_7_String hw) pr1.exa (R_7_1 hw G pr1 pr2) D6_10 0 rfl).pv
  replace k := k |>.istoreN D6_13 sto2 |>.aloadN D6_14 rfl rfl |>.aloadN D6_15 rfl rfl |>.getF (fl_67 hw) pr3 2 D6_16 rfl rfl |>.iloadN D6_19 rfl |>.iadd D6_20 (z := 32)
  have z2 := k.sz
  obtain ⟨h2, K2, ⟨u1_2, f2_0, f2_1, f2_2⟩, k⟩ := (k.callP (w_69 hw) (P9 hw) pr3.exa (R_9_1 hw G pr3 pr4 pr5) D6_21 0 rfl).k0 (allS pr5 all0)
  replace k := k |>.aloadN D6_24 rfl rfl |>.aloadN D6_25 rfl rfl |>.getF (fl_67 hw) f2_1 2 D6_26 rfl rfl |>.aloadN D6_29 rfl rfl
  have s_u1_2 := Nat.le_trans z2 f2_0
  have n_u1_2 := Nat.le_trans nz s_u1_2
  have o4 := pr1.keep K2 (ninS pr6 nin0)
  have o5 := pr2.keep K2 (ninS pr7 nin0)
  obtain ⟨h3, K3, f3_0, k⟩ := (k.callP (w_100 hw) (P15 hw) f2_1.exa (R_15_1 hw G f2_1 o4 o5 f2_2 n_u1_2) D6_30 0 rfl).k0 (allS n_u1_2 all0)
  replace k := k |>.aloadN D6_33 rfl rfl |>.dup D6_34 rfl
  have o6 := f2_1.keep K3 (ninS (nlt pr3.lt s_u1_2) nin0)
  replace k := k |>.getF (fl_67 hw) o6 2 D6_35 rfl rfl |>.iloadN D6_38 rfl |>.iadd D6_39 (z := 32)
  obtain ⟨h7, K7, O7, k⟩ := k.putF (fl_67 hw) (pw_AbstractStringBuilder_m_StringBuilder_count hw) o6 2 pr5 (Or.inl rfl) D6_40 rfl rfl rfl ls2
  replace k := k |>.aloadN D6_43 rfl rfl
  have o8 := f3_0.keep K7 (ninS (nlt' pr3.lt s_u1_2) nin0)
  exact k.retA D6_44 rfl ⟨_, rfl, ((K2.trans K3 (allS (Or.inr s_u1_2) all0)).trans K7 (allS (Or.inl (List.mem_of_getElem? (i := 0) rfl)) all0)), u1_2, rfl, s_u1_2, O7, o8⟩
abbrev w_49 (hw : HW a0 Z) := hw.at 49 rfl
abbrev w_53 (hw : HW a0 Z) := hw.at 53 rfl
theorem pd_Ljava_lang_String_r_Ljava_lang_AbstractStringBuilder : parseMethodDescriptor "(Ljava/lang/String;)Ljava/lang/AbstractStringBuilder;" = some ⟨[(.object "java/lang/String")], some (.object "java/lang/AbstractStringBuilder")⟩ := by decide +kernel
theorem CW6 (hw : HW a0 Z) : CW Z a0 Y6 C6 3 (some (.object "java/lang/AbstractStringBuilder")) 1 := ⟨⟨_, Or.inl rfl⟩, (w_53 hw), (w_28 hw), by decide, _, _, pd_Ljava_lang_String_r_Ljava_lang_AbstractStringBuilder, rfl⟩
abbrev w_52 (hw : HW a0 Z) := hw.at 52 rfl
abbrev w_50 (hw : HW a0 Z) := hw.at 50 rfl
abbrev w_51 (hw : HW a0 Z) := hw.at 51 rfl
theorem D5_5 : Dc J5 5 .pop 1 6 := by decide +kernel
theorem D5_6 : Dc J5 6 (.aload_n 0) 1 7 := by decide +kernel
theorem D5_7 : Dc J5 7 .areturn 1 8 := by decide +kernel
theorem PN5 : plainFor Y5 = true := plainFor_of_name pn_StringBuilder
theorem R_5_1 {a1 a2 a3 a4 : Addr} (hw : HW a0 Z) (G : Gl Z w_CS w_SF w_DO w_DT w_fO w_fT) (pr1 : Obj Z h0 a2 litL [.ref a3, .int 0]) (pr2 : Ary Z h0 a3 ("", .byte) 32 (bv (lvi [83, 101, 109, 97, 112, 104, 111, 114, 101, 66, 117, 108, 107, 104, 101, 97, 100, 83, 110, 97, 112, 115, 104, 111, 116, 91, 108, 105, 109, 105, 116, 61]))) (pr3 : Obj Z h0 a1 L_StringBuilder [.ref a4, .int 0, .int 0]) (pr4 : Ary Z h0 a4 ATB 16 (bv (lvi [0, 0, 0, 0, 0, 0, 0, 0, 0, 0, 0, 0, 0, 0, 0, 0]))) (pr5 : n0 ≤ a1) (pr6 : a2 ≠ a1) (pr7 : a3 ≠ a1) : Mt false [] l Y5 C5 (rmk 5 1 34 76) #[.ref a1, .ref a2] Z a0 h0 n0 (KpV h0 [a1] fun v h => ∃ u1 : Addr, v = (.ref a1) ∧ h0.size ≤ u1 ∧ Obj Z h a1 L_StringBuilder [.ref u1, .int 0, .int 32] ∧ Ary Z h u1 ATB 34 (bv (lvi [83, 101, 109, 97, 112, 104, 111, 114, 101, 66, 117, 108, 107, 104, 101, 97, 100, 83, 110, 97, 112, 115, 104, 111, 116, 91, 108, 105, 109, 105, 116, 61, 0, 0]))) := by
  refine Mt.go PN5 (Or.inl rfl) ef_RR_2 fun k => ?_
  replace k := k |>.aloadN D5_0 rfl rfl |>.aloadN D5_1 rfl rfl
  have z1 := k.sz
  obtain ⟨_, h1, K1, ⟨u1_1, rfl, f1_0, f1_1, f1_2⟩, k⟩ := (k.callX (w_49 hw) (sameOf (y := Y6) (by decide) (by rfl) (w_52 hw) (w_72 hw)) (w_50 hw) (w_51 hw) (by decide) (CW6 hw) pr3.exa (R_6_1 hw G pr1 pr2 pr3 pr4 pr5 pr6 pr7) D5_2 0 rfl).kv (allS pr5 all0)
  replace k := k |>.pop D5_5 rfl |>.aloadN D5_6 rfl rfl
  have s_u1_1 := Nat.le_trans z1 f1_0
  exact k.retA D5_7 rfl ⟨_, rfl, K1, u1_1, rfl, s_u1_1, f1_1, f1_2⟩
abbrev w_44 (hw : HW a0 Z) := hw.at 44 rfl
abbrev w_48 (hw : HW a0 Z) := hw.at 48 rfl
theorem pd_Ljava_lang_String_r_Ljava_lang_StringBuilder : parseMethodDescriptor "(Ljava/lang/String;)Ljava/lang/StringBuilder;" = some ⟨[(.object "java/lang/String")], some (.object "java/lang/StringBuilder")⟩ := by decide +kernel
abbrev w_47 (hw : HW a0 Z) := hw.at 47 rfl
abbrev w_46 (hw : HW a0 Z) := hw.at 46 rfl
abbrev w_45 (hw : HW a0 Z) := hw.at 45 rfl
theorem V_Y5_5_StringBuilder (hw : HW a0 Z) : VC Z a0 Y5 Y5 "java/lang/StringBuilder" C5 2 (some (.object "java/lang/StringBuilder")) 1 := ⟨(w_45 hw), fun s hZ => notFace_of_selects (args := #[]) (mvT hZ (w_47 hw)), (w_47 hw), (w_46 hw), by decide, rfl, ⟨⟨_, Or.inl rfl⟩, (w_48 hw), (w_20 hw), by decide, _, _, pd_Ljava_lang_String_r_Ljava_lang_StringBuilder, rfl⟩⟩
theorem D2_12 : Dc J2 12 (.aload_n 0) 1 13 := by decide +kernel
theorem D2_13 : Dc J2 13 (.getfield 7) 3 16 := by decide +kernel
abbrev w_9 (hw : HW a0 Z) := hw.at 9 rfl
theorem fl_9 (hw : HW a0 Z) : FL Z a0 "com/example/chatham/chatham/pattern/SemaphoreBulkheadSnapshot" 7 "com/example/chatham/chatham/pattern/SemaphoreBulkheadSnapshot" "limit" "I" := ⟨_, "", Or.inl (w_9 hw), Via.refl⟩
theorem D2_16 : Dc J2 16 (.invokevirtual 25) 3 19 := by decide +kernel
abbrev Y18 : MethodName := ⟨"java/lang/StringBuilder", "append", "(I)Ljava/lang/StringBuilder;"⟩
abbrev J18 := jdk_67_method_15_code
abbrev C18 : Cond := .code Y18 J18 2 (some (.object "java/lang/StringBuilder"))
theorem D18_0 : Dc J18 0 (.aload_n 0) 1 1 := by decide +kernel
theorem D18_1 : Dc J18 1 (.iload_n 1) 1 2 := by decide +kernel
theorem D18_2 : Dc J18 2 (.invokespecial 53) 3 5 := by decide +kernel
abbrev Y19 : MethodName := ⟨"java/lang/AbstractStringBuilder", "append", "(I)Ljava/lang/AbstractStringBuilder;"⟩
abbrev J19 := jdk_68_method_32_code
abbrev C19 : Cond := .code Y19 J19 4 (some (.object "java/lang/AbstractStringBuilder"))
theorem D19_0 : Dc J19 0 (.aload_n 0) 1 1 := by decide +kernel
theorem D19_1 : Dc J19 1 (.getfield 79) 3 4 := by decide +kernel
theorem D19_4 : Dc J19 4 (.istore_n 2) 1 5 := by decide +kernel
theorem D19_5 : Dc J19 5 (.iload_n 2) 1 6 := by decide +kernel
theorem D19_6 : Dc J19 6 (.iload_n 1) 1 7 := by decide +kernel
theorem D19_7 : Dc J19 7 (.invokestatic 245) 3 10 := by decide +kernel
abbrev w_126 (hw : HW a0 Z) := hw.at 126 rfl
abbrev w_129 (hw : HW a0 Z) := hw.at 129 rfl
abbrev w_128 (hw : HW a0 Z) := hw.at 128 rfl
abbrev w_127 (hw : HW a0 Z) := hw.at 127 rfl
theorem S0 (hw : HW a0 Z) : SC Z a0 Y0 C0 4 (some .int) 1 := ⟨(w_127 hw), ⟨⟨_, Or.inl rfl⟩, (w_129 hw), (w_128 hw), by decide, _, _, pd_I_r_I, rfl⟩⟩
theorem D19_10 : Dc J19 10 .iadd 1 11 := by decide +kernel
theorem D19_11 : Dc J19 11 (.istore_n 3) 1 12 := by decide +kernel
theorem D19_12 : Dc J19 12 (.aload_n 0) 1 13 := by decide +kernel
theorem D19_13 : Dc J19 13 (.iload_n 3) 1 14 := by decide +kernel
theorem D19_14 : Dc J19 14 (.invokevirtual 100) 3 17 := by decide +kernel
theorem own_d1 {p1 v0 v1 v2 v3 v4 : Int32} (e0 : v0 = (ssz p1)) (e1 : v1 = (32 + v0)) (e2 : v2 = (v1 - 34)) (e3 : v3 = (v1 <<< ((0 : Int32) &&& 31))) (e4 : v4 = (v3 - 34)) (hq0 : 0 < v2) : v4 < 36 := by
  have : (0 : Int32).toInt = 0 := by decide
  have : (32 : Int32).toInt = 32 := by decide
  have := rng32 p1
  have := e_ssz e0
  have := e_iaddN e1 (by omega)
  have : (34 : Int32).toInt = 34 := by decide
  have := e_isubN e2 (by omega)
  have := i_lt hq0
  have := e_ishlN e3 0 1 (by omega)
  have := e_isubN e4 (by omega)
  have : (36 : Int32).toInt = 36 := by decide
  exact o_lt (by omega)
theorem R_10_2 {a1 a3 : Addr} {p2 : Int32} (hw : HW a0 Z) (G : Gl Z w_CS w_SF w_DO w_DT w_fO w_fT) (pr1 : Obj Z h0 a1 L_StringBuilder [.ref a3, .int 0, .int 32]) (pr2 : Ary Z h0 a3 ATB 34 (bv (lvi [83, 101, 109, 97, 112, 104, 111, 114, 101, 66, 117, 108, 107, 104, 101, 97, 100, 83, 110, 97, 112, 115, 104, 111, 116, 91, 108, 105, 109, 105, 116, 61, 0, 0]))) (pr3 : ((p2 <<< ((0 : Int32) &&& 31)) - 34) < 36) : Mt false [] l Y10 C10 (rmk 2 0 0 29) #[.ref a1, .int p2] Z a0 h0 n0 (Pv h0 (.int 70)) := by
  refine Mt.go PN10 (Or.inl rfl) ef_RI_6 fun k => ?_
  replace k := k |>.aloadN D10_0 rfl rfl |>.getF (fl_34 hw) pr1 0 D10_1 rfl rfl |>.alen pr2 D10_4 (z := 34) (by decide) |>.istoreN D10_5 sto2 |>.iloadN D10_6 rfl |>.aloadN D10_7 rfl rfl |>.getF (fl_36 hw) pr1 1 D10_8 rfl rfl |>.ishl D10_11 rfl |>.istoreN D10_12 sto3 |>.iloadN D10_13 rfl |>.iloadN D10_14 rfl |>.isub D10_15 rfl
  replace k := k |>.istore D10_16 sto4 |>.iloadN D10_18 rfl |>.iload D10_19 rfl |>.iloadN D10_21 rfl |>.iconst D10_22 2 |>.aloadN D10_23 rfl rfl |>.getF (fl_36 hw) pr1 1 D10_24 rfl rfl |>.ishl D10_27 (z := 2) |>.iadd D10_28 (z := 36)
  replace k := (k.callS (w_79 hw) (S11 hw) (R_11_1 hw G pr3 (by decide) (by decide) (p1 := 34) (p3 := 36)) D10_29 0 rfl).pv
  replace k := k |>.top (y := 70) (by decide) |>.istore D10_32 sto5 |>.iload D10_34 rfl |>.ldcI (w_88 hw) D10_36 |>.icmpYes D10_38  |>.iload D10_51 rfl |>.aloadN D10_53 rfl rfl |>.getF (fl_36 hw) pr1 1 D10_54 rfl rfl |>.ishr D10_57 (z := 70)
  exact k.retI D10_58 rfl ⟨rfl, rfl⟩
theorem R_13_2 {a1 : Addr} (hw : HW a0 Z) (G : Gl Z w_CS w_SF w_DO w_DT w_fO w_fT) (pr1 : Ary Z h0 a1 ATB 34 (bv (lvi [83, 101, 109, 97, 112, 104, 111, 114, 101, 66, 117, 108, 107, 104, 101, 97, 100, 83, 110, 97, 112, 115, 104, 111, 116, 91, 108, 105, 109, 105, 116, 61, 0, 0]))) : Mt false [] l Y13 C13 (rmk 1 1 70 18) #[.ref a1, .int 70] Z a0 h0 n0 (KpV h0 [] fun v h => ∃ u1 : Addr, v = (.ref u1) ∧ h0.size ≤ u1 ∧ Ary Z h u1 ATB 70 (bv (cpyi (lvi [83, 101, 109, 97, 112, 104, 111, 114, 101, 66, 117, 108, 107, 104, 101, 97, 100, 83, 110, 97, 112, 115, 104, 111, 116, 91, 108, 105, 109, 105, 116, 61, 0, 0]) (fun _ => 0) 0 0 34))) := by
  refine Mt.go PN13 (Or.inl rfl) ef_RI_3 fun k => ?_
  have nz := k.n0le
  replace k := k |>.iloadN D13_0 rfl |>.aloadN D13_1 rfl rfl |>.alen pr1 D13_2 (z := 34) (by decide) |>.icmpYes D13_3  |>.iloadN D13_14 rfl
  have z1 := k.sz
  obtain ⟨b1, h1, g1, K1, O1, k⟩ := k.newP (aty := .byte) "[B" (w_33 hw) (by decide) D13_15 70 (by decide) (n := 70) (by decide) (by decide) (by decide) bv_zero
  replace k := k |>.astoreN D13_17 rfl sto2 |>.aloadN D13_18 rfl rfl |>.iconst D13_19 0 |>.aloadN D13_20 rfl rfl |>.iconst D13_21 0 |>.aloadN D13_22 rfl rfl
  have o2 := pr1.keep K1 nin0
  replace k := k |>.alen o2 D13_23 (z := 34) (by decide) |>.iloadN D13_24 rfl
  replace k := (k.callS (w_93 hw) (S14 hw) (R_14_1 hw G (by decide) (p1 := 34) (p2 := 70)) D13_25 4 rfl).pv
  have s_b1 := Nat.le_trans z1 g1
  have n_b1 := Nat.le_trans nz s_b1
  obtain ⟨h4, K4, O4, k⟩ := k.acopy (w_96 hw) (w_99 hw) (w_97 hw) (w_98 hw) o2 O1 ⟨rfl, rfl⟩ (sp' := 0) (by decide) (dp' := 0) (by decide) (nn' := 34) (by decide) (by decide) (by decide) bv_cpy n_b1 D13_28 0
  replace k := k |>.aloadN D13_31 rfl rfl
  exact k.retA D13_32 rfl ⟨_, rfl, (K1.trans K4 (allS (Or.inr s_b1) all0)), b1, rfl, s_b1, O4⟩
theorem R_9_3 {a1 a3 : Addr} {p2 : Int32} (hw : HW a0 Z) (G : Gl Z w_CS w_SF w_DO w_DT w_fO w_fT) (pr1 : Obj Z h0 a1 L_StringBuilder [.ref a3, .int 0, .int 32]) (pr2 : Ary Z h0 a3 ATB 34 (bv (lvi [83, 101, 109, 97, 112, 104, 111, 114, 101, 66, 117, 108, 107, 104, 101, 97, 100, 83, 110, 97, 112, 115, 104, 111, 116, 91, 108, 105, 109, 105, 116, 61, 0, 0]))) (pr3 : 0 < (p2 - 34)) (pr4 : ((p2 <<< ((0 : Int32) &&& 31)) - 34) < 36) (pr5 : n0 ≤ a1) : Mt false [] l Y9 C9 (rmk 3 1 70 48) #[.ref a1, .int p2] Z a0 h0 n0 (K0 h0 [a1] fun h => ∃ u1 : Addr, h0.size ≤ u1 ∧ Obj Z h a1 L_StringBuilder [.ref u1, .int 0, .int 32] ∧ Ary Z h u1 ATB 70 (bv (cpyi (lvi [83, 101, 109, 97, 112, 104, 111, 114, 101, 66, 117, 108, 107, 104, 101, 97, 100, 83, 110, 97, 112, 115, 104, 111, 116, 91, 108, 105, 109, 105, 116, 61, 0, 0]) (fun _ => 0) 0 0 34))) := by
  refine Mt.go PN9 (Or.inl rfl) ef_RI_3 fun k => ?_
  replace k := k |>.aloadN D9_0 rfl rfl |>.getF (fl_34 hw) pr1 0 D9_1 rfl rfl |>.alen pr2 D9_4 (z := 34) (by decide) |>.aloadN D9_5 rfl rfl |>.getF (fl_36 hw) pr1 1 D9_6 rfl rfl |>.ishr D9_9 (z := 34) |>.istoreN D9_10 sto2 |>.iloadN D9_11 rfl |>.iloadN D9_12 rfl |>.isub D9_13 rfl |>.ifNo D9_14 ((if0 _ _).trans (tlt pr3).2.2.2) |>.aloadN D9_17 rfl rfl
  replace k := k |>.aloadN D9_18 rfl rfl |>.getF (fl_34 hw) pr1 0 D9_19 rfl rfl |>.aloadN D9_22 rfl rfl |>.iloadN D9_23 rfl
  replace k := (k.callP (w_74 hw) (P10 hw) pr1.exa (R_10_2 hw G pr1 pr2 pr4) D9_24 2 rfl).pv
  replace k := k |>.aloadN D9_27 rfl rfl |>.getF (fl_36 hw) pr1 1 D9_28 rfl rfl |>.ishl D9_31 (z := 70)
  have z2 := k.sz
  obtain ⟨_, h2, K2, ⟨u1_2, rfl, f2_0, f2_1⟩, k⟩ := (k.callS (w_89 hw) (S13 hw) (R_13_2 hw G pr2) D9_32 1 rfl).kv
  have o3 := pr1.keep K2 nin0
  obtain ⟨h4, K4, O4, k⟩ := k.putF (fl_34 hw) (pw_AbstractStringBuilder_m_StringBuilder_value hw) o3 0 pr5 (Or.inl rfl) D9_35 rfl rfl rfl ls0
  have s_u1_2 := Nat.le_trans z2 f2_0
  have o5 := f2_1.keep K4 (ninS (nlt' pr1.lt s_u1_2) nin0)
  exact k.ret0 D9_38 rfl ⟨rfl, (((Keep.refl h0 [a1]).trans K2 all0).trans K4 (allS (Or.inl (List.mem_of_getElem? (i := 0) rfl)) all0)), u1_2, s_u1_2, O4, o5⟩
theorem D19_17 : Dc J19 17 (.aload_n 0) 1 18 := by decide +kernel
theorem D19_18 : Dc J19 18 (.invokevirtual 83) 3 21 := by decide +kernel
abbrev Y20 : MethodName := ⟨"java/lang/AbstractStringBuilder", "isLatin1", "()Z"⟩
abbrev J20 := jdk_68_method_68_code
abbrev C20 : Cond := .code Y20 J20 1 (some .boolean)
theorem D20_0 : Dc J20 0 (.getstatic 18) 3 3 := by decide +kernel
theorem D20_3 : Dj J20 3 (.ifCond .eq 14) 14 6 17 := by decide +kernel
theorem D20_6 : Dc J20 6 (.aload_n 0) 1 7 := by decide +kernel
theorem D20_7 : Dc J20 7 (.getfield 22) 3 10 := by decide +kernel
theorem D20_10 : Dj J20 10 (.ifCond .ne 7) 7 13 17 := by decide +kernel
theorem D20_13 : Dc J20 13 (.iconst 1) 1 14 := by decide +kernel
theorem D20_14 : Dj J20 14 (.goto 4) 4 17 18 := by decide +kernel
theorem D20_18 : Dc J20 18 .ireturn 1 19 := by decide +kernel
theorem PN20 : plainFor Y20 = true := plainFor_of_name pn_AbstractStringBuilder
theorem R_20_1 {a1 a2 : Addr} (hw : HW a0 Z) (G : Gl Z w_CS w_SF w_DO w_DT w_fO w_fT) (pr1 : Obj Z h0 a1 L_StringBuilder [.ref a2, .int 0, .int 32]) : Mt false [] l Y20 C20 (rmk 0 0 0 0) #[.ref a1] Z a0 h0 n0 (Pv h0 (.int 1)) := by
  refine Mt.go PN20 (Or.inl rfl) ef_R_1 fun k => ?_
  replace k := k |>.getS (fl_31 hw) G.S_CS D20_0 |>.ifNo D20_3 ((if0 _ _).trans (feq G.h_CS).1) |>.aloadN D20_6 rfl rfl |>.getF (fl_36 hw) pr1 1 D20_7 rfl rfl |>.ifNo D20_10  |>.iconst D20_13 1 |>.goto D20_14
  exact k.retN (t := .boolean) D20_18 rfl (by simp) (z' := 1) (by decide) ⟨rfl, rfl⟩
abbrev w_130 (hw : HW a0 Z) := hw.at 130 rfl
abbrev w_134 (hw : HW a0 Z) := hw.at 134 rfl
theorem pd__r_Z : parseMethodDescriptor "()Z" = some ⟨[], some .boolean⟩ := by decide +kernel
abbrev w_133 (hw : HW a0 Z) := hw.at 133 rfl
abbrev w_132 (hw : HW a0 Z) := hw.at 132 rfl
abbrev w_131 (hw : HW a0 Z) := hw.at 131 rfl
theorem V_Y20_20_StringBuilder (hw : HW a0 Z) : VC Z a0 Y20 Y20 "java/lang/StringBuilder" C20 1 (some .boolean) 0 := ⟨(w_131 hw), fun s hZ => notFace_of_selects (args := #[]) (mvT hZ (w_133 hw)), (w_133 hw), (w_132 hw), by decide, rfl, ⟨⟨_, Or.inl rfl⟩, (w_134 hw), (w_28 hw), by decide, _, _, pd__r_Z, rfl⟩⟩
theorem D19_21 : Dj J19 21 (.ifCond .eq 16) 16 24 37 := by decide +kernel
theorem D19_24 : Dc J19 24 (.iload_n 1) 1 25 := by decide +kernel
theorem D19_25 : Dc J19 25 (.iload_n 3) 1 26 := by decide +kernel
theorem D19_26 : Dc J19 26 (.aload_n 0) 1 27 := by decide +kernel
theorem D19_27 : Dc J19 27 (.getfield 15) 3 30 := by decide +kernel
theorem D19_30 : Dc J19 30 (.invokestatic 248) 3 33 := by decide +kernel
theorem own_d2 {p1 v0 v1 v2 : Int32} (e0 : v0 = (ssz p1)) (e1 : v1 = (32 + v0)) (e2 : v2 = (v1 - 34)) (hq0 : 0 < v2) : ¬ (v1 < v0) := by
  have : (0 : Int32).toInt = 0 := by decide
  have : (32 : Int32).toInt = 32 := by decide
  have := rng32 p1
  have := e_ssz e0
  have := e_iaddN e1 (by omega)
  have : (34 : Int32).toInt = 34 := by decide
  have := e_isubN e2 (by omega)
  have := i_lt hq0
  exact o_nlt (by omega)
theorem own_d3 {p1 v0 v1 v2 : Int32} (e0 : v0 = (ssz p1)) (e1 : v1 = (32 + v0)) (e2 : v2 = (v1 - 34)) (hq0 : 0 < v2) : ¬ (70 < v1) := by
  have : (0 : Int32).toInt = 0 := by decide
  have : (32 : Int32).toInt = 32 := by decide
  have := rng32 p1
  have := e_ssz e0
  have := e_iaddN e1 (by omega)
  have : (34 : Int32).toInt = 34 := by decide
  have := e_isubN e2 (by omega)
  have := i_lt hq0
  have : (70 : Int32).toInt = 70 := by decide
  exact o_nlt (by omega)
abbrev w_135 (hw : HW a0 Z) := hw.at 135 rfl
abbrev w_137 (hw : HW a0 Z) := hw.at 137 rfl
theorem pd_IIAB_r_I : parseMethodDescriptor "(II[B)I" = some ⟨[.int, .int, (.array .byte)], some .int⟩ := by decide +kernel
abbrev w_136 (hw : HW a0 Z) := hw.at 136 rfl
theorem S1 (hw : HW a0 Z) : SC Z a0 Y1 C1 7 (some .int) 3 := ⟨(w_136 hw), ⟨⟨_, Or.inl rfl⟩, (w_137 hw), (w_128 hw), by decide, _, _, pd_IIAB_r_I, rfl⟩⟩
theorem D19_33 : Dc J19 33 .pop 1 34 := by decide +kernel
theorem D19_34 : Dj J19 34 (.goto 14) 14 37 48 := by decide +kernel
theorem D19_48 : Dc J19 48 (.aload_n 0) 1 49 := by decide +kernel
theorem D19_49 : Dc J19 49 (.iload_n 3) 1 50 := by decide +kernel
theorem D19_50 : Dc J19 50 (.putfield 79) 3 53 := by decide +kernel
theorem D19_53 : Dc J19 53 (.aload_n 0) 1 54 := by decide +kernel
theorem D19_54 : Dc J19 54 .areturn 1 55 := by decide +kernel
theorem PN19 : plainFor Y19 = true := plainFor_of_name pn_AbstractStringBuilder
theorem ef_RI_4 {x0 : Addr} {x1 : Int32}  (m : MethodId) : entryFrame m #[(.ref x0), (.int x1)] 4 = mkF m 0 #[.val (.ref x0), .val (.int x1), .unset, .unset] [] := by
  first | (simp [entryFrame, mkF, argsToLocals, Value.category]; done) | rfl
theorem R_19_2 {a1 a3 : Addr} {p2 : Int32} (hw : HW a0 Z) (G : Gl Z w_CS w_SF w_DO w_DT w_fO w_fT) (pr1 : Obj Z h0 a1 L_StringBuilder [.ref a3, .int 0, .int 32]) (pr2 : Ary Z h0 a3 ATB 34 (bv (lvi [83, 101, 109, 97, 112, 104, 111, 114, 101, 66, 117, 108, 107, 104, 101, 97, 100, 83, 110, 97, 112, 115, 104, 111, 116, 91, 108, 105, 109, 105, 116, 61, 0, 0]))) (pr3 : 0 < ((32 + (ssz p2)) - 34)) (pr4 : (((32 + (ssz p2)) <<< ((0 : Int32) &&& 31)) - 34) < 36) (pr5 : n0 ≤ a1) (pr6 : ¬ ((32 + (ssz p2)) < (ssz p2))) (pr7 : ¬ (70 < (32 + (ssz p2)))) : Mt false [] l Y19 C19 (rmk 4 1 70 62) #[.ref a1, .int p2] Z a0 h0 n0 (KpV h0 [a1] fun v h => ∃ (u1 : Addr) (g2 : Nat → Int32), v = (.ref a1) ∧ h0.size ≤ u1 ∧ Obj Z h a1 L_StringBuilder [.ref u1, .int 0, .int (32 + (ssz p2))] ∧ Ary Z h u1 ATB 70 (bv g2) ∧ GF (p2 : Int32).toInt.natAbs (32 + (ssz p2)).toNatClampNeg (sgnI p2) (cpyi (lvi [83, 101, 109, 97, 112, 104, 111, 114, 101, 66, 117, 108, 107, 104, 101, 97, 100, 83, 110, 97, 112, 115, 104, 111, 116, 91, 108, 105, 109, 105, 116, 61, 0, 0]) (fun _ => 0) 0 0 34) g2) := by
  refine Mt.go PN19 (Or.inl rfl) ef_RI_4 fun k => ?_
  have nz := k.n0le
  replace k := k |>.aloadN D19_0 rfl rfl |>.getF (fl_67 hw) pr1 2 D19_1 rfl rfl |>.istoreN D19_4 sto2 |>.iloadN D19_5 rfl |>.iloadN D19_6 rfl
  replace k := (k.callS (w_126 hw) (S0 hw) (R_ssz hw G (p1 := p2)) D19_7 1 rfl).pv
  replace k := k |>.iadd D19_10 rfl |>.istoreN D19_11 sto3 |>.aloadN D19_12 rfl rfl |>.iloadN D19_13 rfl
  have z1 := k.sz
  obtain ⟨h1, K1, ⟨u1_1, f1_0, f1_1, f1_2⟩, k⟩ := (k.callP (w_69 hw) (P9 hw) pr1.exa (R_9_3 hw G pr1 pr2 pr3 pr4 pr5) D19_14 0 rfl).k0 (allS pr5 all0)
  replace k := k |>.aloadN D19_17 rfl rfl
  replace k := (k.callV (w_130 hw) (V_Y20_20_StringBuilder hw) f1_1.exa (R_20_1 hw G f1_1) D19_18 0 rfl).pv
  replace k := k |>.ifNo D19_21  |>.iloadN D19_24 rfl |>.iloadN D19_25 rfl |>.aloadN D19_26 rfl rfl |>.getF (fl_34 hw) f1_1 0 D19_27 rfl rfl
  have s_u1_1 := Nat.le_trans z1 f1_0
  have n_u1_1 := Nat.le_trans nz s_u1_1
  obtain ⟨_, h3, K3, ⟨_, g3, rfl, O3, G3⟩, k⟩ := (k.callS (w_135 hw) (S1 hw) (R_gch hw G f1_2 n_u1_1 pr6 pr7 (vN := 70)) D19_30 0 rfl).kv (allS n_u1_1 all0)
  replace k := k |>.pop D19_33 rfl |>.goto D19_34 |>.aloadN D19_48 rfl rfl |>.iloadN D19_49 rfl
  have o4 := f1_1.keep K3 (ninS (nlt pr1.lt s_u1_1) nin0)
  obtain ⟨h5, K5, O5, k⟩ := k.putF (fl_67 hw) (pw_AbstractStringBuilder_m_StringBuilder_count hw) o4 2 pr5 (Or.inl rfl) D19_50 rfl rfl rfl ls2
  replace k := k |>.aloadN D19_53 rfl rfl
  have o6 := O3.keep K5 (ninS (nlt' pr1.lt s_u1_1) nin0)
  exact k.retA D19_54 rfl ⟨_, rfl, ((K1.trans K3 (allS (Or.inr s_u1_1) all0)).trans K5 (allS (Or.inl (List.mem_of_getElem? (i := 0) rfl)) all0)), u1_1, g3, rfl, s_u1_1, O5, o6, G3⟩
abbrev w_122 (hw : HW a0 Z) := hw.at 122 rfl
abbrev w_125 (hw : HW a0 Z) := hw.at 125 rfl
theorem pd_I_r_Ljava_lang_AbstractStringBuilder : parseMethodDescriptor "(I)Ljava/lang/AbstractStringBuilder;" = some ⟨[.int], some (.object "java/lang/AbstractStringBuilder")⟩ := by decide +kernel
theorem CW19 (hw : HW a0 Z) : CW Z a0 Y19 C19 4 (some (.object "java/lang/AbstractStringBuilder")) 1 := ⟨⟨_, Or.inl rfl⟩, (w_125 hw), (w_28 hw), by decide, _, _, pd_I_r_Ljava_lang_AbstractStringBuilder, rfl⟩
abbrev w_124 (hw : HW a0 Z) := hw.at 124 rfl
abbrev w_123 (hw : HW a0 Z) := hw.at 123 rfl
theorem D18_5 : Dc J18 5 .pop 1 6 := by decide +kernel
theorem D18_6 : Dc J18 6 (.aload_n 0) 1 7 := by decide +kernel
theorem D18_7 : Dc J18 7 .areturn 1 8 := by decide +kernel
theorem PN18 : plainFor Y18 = true := plainFor_of_name pn_StringBuilder
theorem R_18_2 {a1 a3 : Addr} {p2 : Int32} (hw : HW a0 Z) (G : Gl Z w_CS w_SF w_DO w_DT w_fO w_fT) (pr1 : Obj Z h0 a1 L_StringBuilder [.ref a3, .int 0, .int 32]) (pr2 : Ary Z h0 a3 ATB 34 (bv (lvi [83, 101, 109, 97, 112, 104, 111, 114, 101, 66, 117, 108, 107, 104, 101, 97, 100, 83, 110, 97, 112, 115, 104, 111, 116, 91, 108, 105, 109, 105, 116, 61, 0, 0]))) (pr3 : 0 < ((32 + (ssz p2)) - 34)) (pr4 : (((32 + (ssz p2)) <<< ((0 : Int32) &&& 31)) - 34) < 36) (pr5 : n0 ≤ a1) (pr6 : ¬ ((32 + (ssz p2)) < (ssz p2))) (pr7 : ¬ (70 < (32 + (ssz p2)))) : Mt false [] l Y18 C18 (rmk 5 1 70 77) #[.ref a1, .int p2] Z a0 h0 n0 (KpV h0 [a1] fun v h => ∃ (u1 : Addr) (g2 : Nat → Int32), v = (.ref a1) ∧ h0.size ≤ u1 ∧ Obj Z h a1 L_StringBuilder [.ref u1, .int 0, .int (32 + (ssz p2))] ∧ Ary Z h u1 ATB 70 (bv g2) ∧ GF (p2 : Int32).toInt.natAbs (32 + (ssz p2)).toNatClampNeg (sgnI p2) (cpyi (lvi [83, 101, 109, 97, 112, 104, 111, 114, 101, 66, 117, 108, 107, 104, 101, 97, 100, 83, 110, 97, 112, 115, 104, 111, 116, 91, 108, 105, 109, 105, 116, 61, 0, 0]) (fun _ => 0) 0 0 34) g2) := by
  refine Mt.go PN18 (Or.inl rfl) ef_RI_2 fun k => ?_
  replace k := k |>.aloadN D18_0 rfl rfl |>.iloadN D18_1 rfl
  have z1 := k.sz
  obtain ⟨_, h1, K1, ⟨u1_1, g2_1, rfl, f1_0, f1_1, f1_2, f1_3⟩, k⟩ := (k.callX (w_122 hw) (sameOf (y := Y19) (by decide) (by rfl) (w_124 hw) (w_72 hw)) (w_123 hw) (w_51 hw) (by decide) (CW19 hw) pr1.exa (R_19_2 hw G pr1 pr2 pr3 pr4 pr5 pr6 pr7) D18_2 0 rfl).kv (allS pr5 all0)
  replace k := k |>.pop D18_5 rfl |>.aloadN D18_6 rfl rfl
  have s_u1_1 := Nat.le_trans z1 f1_0
  exact k.retA D18_7 rfl ⟨_, rfl, K1, u1_1, g2_1, rfl, s_u1_1, f1_1, f1_2, f1_3⟩
abbrev w_117 (hw : HW a0 Z) := hw.at 117 rfl
abbrev w_121 (hw : HW a0 Z) := hw.at 121 rfl
theorem pd_I_r_Ljava_lang_StringBuilder : parseMethodDescriptor "(I)Ljava/lang/StringBuilder;" = some ⟨[.int], some (.object "java/lang/StringBuilder")⟩ := by decide +kernel
abbrev w_120 (hw : HW a0 Z) := hw.at 120 rfl
abbrev w_119 (hw : HW a0 Z) := hw.at 119 rfl
abbrev w_118 (hw : HW a0 Z) := hw.at 118 rfl
theorem V_Y18_18_StringBuilder (hw : HW a0 Z) : VC Z a0 Y18 Y18 "java/lang/StringBuilder" C18 2 (some (.object "java/lang/StringBuilder")) 1 := ⟨(w_118 hw), fun s hZ => notFace_of_selects (args := #[]) (mvT hZ (w_120 hw)), (w_120 hw), (w_119 hw), by decide, rfl, ⟨⟨_, Or.inl rfl⟩, (w_121 hw), (w_20 hw), by decide, _, _, pd_I_r_Ljava_lang_StringBuilder, rfl⟩⟩
theorem D2_19 : Dc J2 19 (.ldc 28) 2 21 := by decide +kernel
theorem lit_139 : (∀ c ∈ ", available=".toList, c.toNat < 256) ∧ ", available=".toList.map (fun c => Value.int (Jvm.Lit.byteI c.toNat.toUInt16)) = [(.int 44), (.int 32), (.int 97), (.int 118), (.int 97), (.int 105), (.int 108), (.int 97), (.int 98), (.int 108), (.int 101), (.int 61)] := by decide +kernel
theorem D2_21 : Dc J2 21 (.invokevirtual 21) 3 24 := by decide +kernel
theorem R_7_2 {a1 a2 : Addr} (hw : HW a0 Z) (G : Gl Z w_CS w_SF w_DO w_DT w_fO w_fT) (pr1 : Obj Z h0 a1 litL [.ref a2, .int 0]) (pr2 : Ary Z h0 a2 ("", .byte) 12 (bv (lvi [44, 32, 97, 118, 97, 105, 108, 97, 98, 108, 101, 61]))) : Mt false [] l Y7 C7 (rmk 1 0 0 13) #[.ref a1] Z a0 h0 n0 (Pv h0 (.int 12)) := by
  refine Mt.go PN7 (Or.inl rfl) ef_R_1 fun k => ?_
  replace k := k |>.aloadN D7_0 rfl rfl |>.getF (fl_59 hw) pr1 0 D7_1 rfl rfl |>.alen pr2 D7_4 (z := 12) (by decide) |>.aloadN D7_5 rfl rfl
  replace k := (k.callV (w_60 hw) (V_Y8_8_String hw) pr1.exa (R_8_1 hw G pr1) D7_6 1 rfl).pv
  replace k := k |>.ishr D7_9 (z := 12)
  exact k.retI D7_10 rfl ⟨rfl, rfl⟩
theorem own_d4 {p1 v0 v1 v2 v3 v4 : Int32} (e0 : v0 = (ssz p1)) (e1 : v1 = (32 + v0)) (e2 : v2 = (v1 - 34)) (e3 : v3 = (v1 + 12)) (e4 : v4 = (v3 - 70)) (hq0 : 0 < v2) : ¬ (0 < v4) := by
  have : (0 : Int32).toInt = 0 := by decide
  have : (32 : Int32).toInt = 32 := by decide
  have := rng32 p1
  have := e_ssz e0
  have := e_iaddN e1 (by omega)
  have : (34 : Int32).toInt = 34 := by decide
  have := e_isubN e2 (by omega)
  have := i_lt hq0
  have : (12 : Int32).toInt = 12 := by decide
  have := e_iaddN e3 (by omega)
  have : (70 : Int32).toInt = 70 := by decide
  have := e_isubN e4 (by omega)
  exact o_nlt (by omega)
theorem R_9_4 {a1 a3 : Addr} {p2 p4 : Int32} {f5 : Nat → Int32} (hw : HW a0 Z) (G : Gl Z w_CS w_SF w_DO w_DT w_fO w_fT) (pr1 : Obj Z h0 a1 L_StringBuilder [.ref a3, .int 0, .int p4]) (pr2 : Ary Z h0 a3 ATB 70 (bv f5)) (pr3 : ¬ (0 < (p2 - 70))) : Mt false [] l Y9 C9 (rmk 0 0 0 0) #[.ref a1, .int p2] Z a0 h0 n0 (P0 h0) := by
  refine Mt.go PN9 (Or.inl rfl) ef_RI_3 fun k => ?_
  replace k := k |>.aloadN D9_0 rfl rfl |>.getF (fl_34 hw) pr1 0 D9_1 rfl rfl |>.alen pr2 D9_4 (z := 70) (by decide) |>.aloadN D9_5 rfl rfl |>.getF (fl_36 hw) pr1 1 D9_6 rfl rfl |>.ishr D9_9 (z := 70) |>.istoreN D9_10 sto2 |>.iloadN D9_11 rfl |>.iloadN D9_12 rfl |>.isub D9_13 rfl |>.ifYes D9_14 ((if0 _ _).trans (flt pr3).2.2.2)
  exact k.ret0 D9_38 rfl ⟨rfl, rfl⟩
theorem R_16_2 {a1 a2 a3 a5 : Addr} {p4 : Int32} (hw : HW a0 Z) (G : Gl Z w_CS w_SF w_DO w_DT w_fO w_fT) (pr1 : Obj Z h0 a1 L_StringBuilder [.ref a3, .int 0, .int p4]) (pr2 : Obj Z h0 a2 litL [.ref a5, .int 0]) : Mt false [] l Y16 C16 (rmk 1 0 0 13) #[.ref a1, .ref a2] Z a0 h0 n0 (P0 h0) := by
  refine Mt.go PN16 (Or.inl rfl) ef_RR_2 fun k => ?_
  replace k := k |>.getS (fl_31 hw) G.S_CS D16_0 |>.ifNo D16_3 ((if0 _ _).trans (feq G.h_CS).1) |>.aloadN D16_6 rfl rfl |>.getF (fl_36 hw) pr1 1 D16_7 rfl rfl |>.aloadN D16_10 rfl rfl
  replace k := (k.callV (w_110 hw) (V_Y8_8_String hw) pr2.exa (R_8_1 hw G pr2) D16_11 1 rfl).pv
  replace k := k |>.icmpYes D16_14 
  exact k.ret0 D16_21 rfl ⟨rfl, rfl⟩
theorem own_d5 {p1 v0 v1 v2 v3 : Int32} (e0 : v0 = (ssz p1)) (e1 : v1 = (32 + v0)) (e2 : v2 = (v1 - 34)) (e3 : v3 = (v1 <<< ((0 : Int32) &&& 31))) (hq0 : 0 < v2) : ¬ (v3 < 0) := by
  have : (0 : Int32).toInt = 0 := by decide
  have : (32 : Int32).toInt = 32 := by decide
  have := rng32 p1
  have := e_ssz e0
  have := e_iaddN e1 (by omega)
  have : (34 : Int32).toInt = 34 := by decide
  have := e_isubN e2 (by omega)
  have := i_lt hq0
  have := e_ishlN e3 0 1 (by omega)
  exact o_nlt (by omega)
theorem own_d6 {p1 v0 v1 v2 v3 : Int32} (e0 : v0 = (ssz p1)) (e1 : v1 = (32 + v0)) (e2 : v2 = (v1 - 34)) (e3 : v3 = (v1 <<< ((0 : Int32) &&& 31))) (hq0 : 0 < v2) : v3.toNatClampNeg + 12 ≤ 70 := by
  have : (0 : Int32).toInt = 0 := by decide
  have : (32 : Int32).toInt = 32 := by decide
  have := rng32 p1
  have := e_ssz e0
  have := e_iaddN e1 (by omega)
  have : (34 : Int32).toInt = 34 := by decide
  have := e_isubN e2 (by omega)
  have := i_lt hq0
  have := e_ishlN e3 0 1 (by omega)
  have : (12 : Int32).toInt = 12 := by decide
  have : (70 : Int32).toInt = 70 := by decide
  simp only [clampNat]
  omega
theorem R_17_2 {a1 a2 a4 : Addr} {p3 : Int32} {f5 : Nat → Int32} (hw : HW a0 Z) (G : Gl Z w_CS w_SF w_DO w_DT w_fO w_fT) (pr1 : Obj Z h0 a1 litL [.ref a4, .int 0]) (pr2 : Ary Z h0 a4 ("", .byte) 12 (bv (lvi [44, 32, 97, 118, 97, 105, 108, 97, 98, 108, 101, 61]))) (pr3 : Ary Z h0 a2 ATB 70 (bv f5)) (pr4 : n0 ≤ a2) (pr5 : ¬ ((p3 <<< ((0 : Int32) &&& 31)) < 0)) (pr6 : (p3 <<< ((0 : Int32) &&& 31)).toNatClampNeg + 12 ≤ 70) : Mt false [] l Y17 C17 (rmk 1 0 0 18) #[.ref a1, .ref a2, .int p3, .int 0] Z a0 h0 n0 (K0 h0 [a2] fun h => Ary Z h a2 ATB 70 (bv (cpyi (lvi [44, 32, 97, 118, 97, 105, 108, 97, 98, 108, 101, 61]) f5 0 (p3 <<< ((0 : Int32) &&& 31)).toNatClampNeg 12))) := by
  refine Mt.go PN17 (Or.inl rfl) ef_RRII_4 fun k => ?_
  replace k := k |>.aloadN D17_0 rfl rfl
  replace k := (k.callV (w_60 hw) (V_Y8_8_String hw) pr1.exa (R_8_1 hw G pr1) D17_1 0 rfl).pv
  replace k := k |>.iloadN D17_4 rfl |>.icmpNo D17_5  |>.aloadN D17_8 rfl rfl |>.getF (fl_59 hw) pr1 0 D17_9 rfl rfl |>.iconst D17_12 0 |>.aloadN D17_13 rfl rfl |>.iloadN D17_14 rfl |>.iloadN D17_15 rfl |>.ishl D17_16 rfl |>.aloadN D17_17 rfl rfl |>.getF (fl_59 hw) pr1 0 D17_18 rfl rfl |>.alen pr2 D17_21 (z := 12) (by decide)
  obtain ⟨h2, K2, O2, k⟩ := k.acopy (w_116 hw) (w_99 hw) (w_97 hw) (w_98 hw) pr2 pr3 ⟨rfl, rfl⟩ (sp' := 0) (by decide) (dp' := (p3 <<< ((0 : Int32) &&& 31)).toNatClampNeg) (nnS pr5) (nn' := 12) (by decide) (by decide) pr6 bv_cpy pr4 D17_22 0
  replace k := k |>.goto D17_25
  exact k.ret0 D17_43 rfl ⟨rfl, K2, O2⟩
theorem R_15_2 {a1 a3 a4 a5 : Addr} {p2 : Int32} {f6 : Nat → Int32} (hw : HW a0 Z) (G : Gl Z w_CS w_SF w_DO w_DT w_fO w_fT) (pr1 : Obj Z h0 a1 L_StringBuilder [.ref a4, .int 0, .int p2]) (pr2 : Obj Z h0 a3 litL [.ref a5, .int 0]) (pr3 : Ary Z h0 a5 ("", .byte) 12 (bv (lvi [44, 32, 97, 118, 97, 105, 108, 97, 98, 108, 101, 61]))) (pr4 : Ary Z h0 a4 ATB 70 (bv f6)) (pr5 : n0 ≤ a4) (pr6 : ¬ ((p2 <<< ((0 : Int32) &&& 31)) < 0)) (pr7 : (p2 <<< ((0 : Int32) &&& 31)).toNatClampNeg + 12 ≤ 70) : Mt false [] l Y15 C15 (rmk 2 0 0 33) #[.ref a1, .int p2, .ref a3] Z a0 h0 n0 (K0 h0 [a4] fun h => Ary Z h a4 ATB 70 (bv (cpyi (lvi [44, 32, 97, 118, 97, 105, 108, 97, 98, 108, 101, 61]) f6 0 (p2 <<< ((0 : Int32) &&& 31)).toNatClampNeg 12))) := by
  refine Mt.go PN15 (Or.inl rfl) ef_RIR_3 fun k => ?_
  replace k := k |>.aloadN D15_0 rfl rfl |>.aloadN D15_1 rfl rfl
  replace k := (k.callP (w_105 hw) (P16 hw) pr1.exa (R_16_2 hw G pr1 pr2) D15_2 0 rfl).p0
  replace k := k |>.aloadN D15_5 rfl rfl |>.aloadN D15_6 rfl rfl |>.getF (fl_34 hw) pr1 0 D15_7 rfl rfl |>.iloadN D15_10 rfl |>.aloadN D15_11 rfl rfl |>.getF (fl_36 hw) pr1 1 D15_12 rfl rfl
  obtain ⟨h2, K2, f2_0, k⟩ := (k.callV (w_111 hw) (V_Y17_17_String hw) pr2.exa (R_17_2 hw G pr2 pr3 pr4 pr5 pr6 pr7) D15_15 0 rfl).k0 (allS pr5 all0)
  exact k.ret0 D15_18 rfl ⟨rfl, K2, f2_0⟩
theorem R_6_2 {a1 a2 a3 a4 : Addr} {p5 : Int32} {f6 : Nat → Int32} (hw : HW a0 Z) (G : Gl Z w_CS w_SF w_DO w_DT w_fO w_fT) (pr1 : Obj Z h0 a2 litL [.ref a3, .int 0]) (pr2 : Ary Z h0 a3 ("", .byte) 12 (bv (lvi [44, 32, 97, 118, 97, 105, 108, 97, 98, 108, 101, 61]))) (pr3 : Obj Z h0 a1 L_StringBuilder [.ref a4, .int 0, .int p5]) (pr4 : Ary Z h0 a4 ATB 70 (bv f6)) (pr5 : ¬ (0 < ((p5 + 12) - 70))) (pr6 : n0 ≤ a4) (pr7 : ¬ ((p5 <<< ((0 : Int32) &&& 31)) < 0)) (pr8 : (p5 <<< ((0 : Int32) &&& 31)).toNatClampNeg + 12 ≤ 70) (pr9 : a1 ≠ a4) (pr10 : n0 ≤ a1) : Mt false [] l Y6 C6 (rmk 3 0 0 47) #[.ref a1, .ref a2] Z a0 h0 n0 (KpV h0 [a1, a4] fun v h => v = (.ref a1) ∧ Obj Z h a1 L_StringBuilder [.ref a4, .int 0, .int (p5 + 12)] ∧ Ary Z h a4 ATB 70 (bv (cpyi (lvi [44, 32, 97, 118, 97, 105, 108, 97, 98, 108, 101, 61]) f6 0 (p5 <<< ((0 : Int32) &&& 31)).toNatClampNeg 12))) := by
  refine Mt.go PN6 (Or.inl rfl) ef_RR_3 fun k => ?_
  replace k := k |>.aloadN D6_0 rfl rfl |>.ifnonnullYes D6_1 |>.aloadN D6_9 rfl rfl
  replace k := (k.callV (w_54 hw) (V_Y7_7_String hw) pr1.exa (R_7_2 hw G pr1 pr2) D6_10 0 rfl).pv
  replace k := k |>.istoreN D6_13 sto2 |>.aloadN D6_14 rfl rfl |>.aloadN D6_15 rfl rfl |>.getF (fl_67 hw) pr3 2 D6_16 rfl rfl |>.iloadN D6_19 rfl |>.iadd D6_20 rfl
  replace k := (k.callP (w_69 hw) (P9 hw) pr3.exa (R_9_4 hw G pr3 pr4 pr5) D6_21 0 rfl).p0
  replace k := k |>.aloadN D6_24 rfl rfl |>.aloadN D6_25 rfl rfl |>.getF (fl_67 hw) pr3 2 D6_26 rfl rfl |>.aloadN D6_29 rfl rfl
  obtain ⟨h3, K3, f3_0, k⟩ := (k.callP (w_100 hw) (P15 hw) pr3.exa (R_15_2 hw G pr3 pr1 pr2 pr4 pr6 pr7 pr8) D6_30 0 rfl).k0 (allS pr6 all0)
  replace k := k |>.aloadN D6_33 rfl rfl |>.dup D6_34 rfl
  have o4 := pr3.keep K3 (ninS pr9 nin0)
  replace k := k |>.getF (fl_67 hw) o4 2 D6_35 rfl rfl |>.iloadN D6_38 rfl |>.iadd D6_39 rfl
  obtain ⟨h5, K5, O5, k⟩ := k.putF (fl_67 hw) (pw_AbstractStringBuilder_m_StringBuilder_count hw) o4 2 pr10 (Or.inl rfl) D6_40 rfl rfl rfl ls2
  replace k := k |>.aloadN D6_43 rfl rfl
  have o6 := f3_0.keep K5 (ninS (Ne.symm pr9) nin0)
  exact k.retA D6_44 rfl ⟨_, rfl, (((Keep.refl h0 [a1, a4]).trans K3 (allS (Or.inl (List.mem_of_getElem? (i := 1) rfl)) all0)).trans K5 (allS (Or.inl (List.mem_of_getElem? (i := 0) rfl)) all0)), rfl, O5, o6⟩
theorem R_5_2 {a1 a2 a3 a4 : Addr} {p5 : Int32} {f6 : Nat → Int32} (hw : HW a0 Z) (G : Gl Z w_CS w_SF w_DO w_DT w_fO w_fT) (pr1 : Obj Z h0 a2 litL [.ref a3, .int 0]) (pr2 : Ary Z h0 a3 ("", .byte) 12 (bv (lvi [44, 32, 97, 118, 97, 105, 108, 97, 98, 108, 101, 61]))) (pr3 : Obj Z h0 a1 L_StringBuilder [.ref a4, .int 0, .int p5]) (pr4 : Ary Z h0 a4 ATB 70 (bv f6)) (pr5 : ¬ (0 < ((p5 + 12) - 70))) (pr6 : n0 ≤ a4) (pr7 : ¬ ((p5 <<< ((0 : Int32) &&& 31)) < 0)) (pr8 : (p5 <<< ((0 : Int32) &&& 31)).toNatClampNeg + 12 ≤ 70) (pr9 : a1 ≠ a4) (pr10 : n0 ≤ a1) : Mt false [] l Y5 C5 (rmk 4 0 0 61) #[.ref a1, .ref a2] Z a0 h0 n0 (KpV h0 [a1, a4] fun v h => v = (.ref a1) ∧ Obj Z h a1 L_StringBuilder [.ref a4, .int 0, .int (p5 + 12)] ∧ Ary Z h a4 ATB 70 (bv (cpyi (lvi [44, 32, 97, 118, 97, 105, 108, 97, 98, 108, 101, 61]) f6 0 (p5 <<< ((0 : Int32) &&& 31)).toNatClampNeg 12))) := by
  refine Mt.go PN5 (Or.inl rfl) ef_RR_2 fun k => ?_
  replace k := k |>.aloadN D5_0 rfl rfl |>.aloadN D5_1 rfl rfl
  obtain ⟨_, h1, K1, ⟨rfl, f1_0, f1_1⟩, k⟩ := (k.callX (w_49 hw) (sameOf (y := Y6) (by decide) (by rfl) (w_52 hw) (w_72 hw)) (w_50 hw) (w_51 hw) (by decide) (CW6 hw) pr3.exa (R_6_2 hw G pr1 pr2 pr3 pr4 pr5 pr6 pr7 pr8 pr9 pr10) D5_2 0 rfl).kv (allS pr10 (allS pr6 all0))
  replace k := k |>.pop D5_5 rfl |>.aloadN D5_6 rfl rfl
  exact k.retA D5_7 rfl ⟨_, rfl, K1, rfl, f1_0, f1_1⟩
theorem D2_24 : Dc J2 24 (.aload_n 0) 1 25 := by decide +kernel
theorem D2_25 : Dc J2 25 (.getfield 13) 3 28 := by decide +kernel
abbrev w_11 (hw : HW a0 Z) := hw.at 11 rfl
theorem fl_11 (hw : HW a0 Z) : FL Z a0 "com/example/chatham/chatham/pattern/SemaphoreBulkheadSnapshot" 13 "com/example/chatham/chatham/pattern/SemaphoreBulkheadSnapshot" "available" "I" := ⟨_, "", Or.inl (w_11 hw), Via.refl⟩
theorem D2_28 : Dc J2 28 (.invokevirtual 25) 3 31 := by decide +kernel
theorem own_d7 {p1 p2 v0 v1 v2 v3 v4 v5 v6 : Int32} (e0 : v0 = (ssz p1)) (e1 : v1 = (32 + v0)) (e2 : v2 = (v1 - 34)) (e3 : v3 = (v1 + 12)) (e4 : v4 = (ssz p2)) (e5 : v5 = (v3 + v4)) (e6 : v6 = (v5 - 70)) (hq0 : 0 < v2) : ¬ (0 < v6) := by
  have : (0 : Int32).toInt = 0 := by decide
  have : (32 : Int32).toInt = 32 := by decide
  have := rng32 p1
  have := e_ssz e0
  have := e_iaddN e1 (by omega)
  have : (34 : Int32).toInt = 34 := by decide
  have := e_isubN e2 (by omega)
  have := i_lt hq0
  have : (12 : Int32).toInt = 12 := by decide
  have := e_iaddN e3 (by omega)
  have := rng32 p2
  have := e_ssz e4
  have := e_iaddN e5 (by omega)
  have : (70 : Int32).toInt = 70 := by decide
  have := e_isubN e6 (by omega)
  exact o_nlt (by omega)
theorem R_20_2 {a1 a2 : Addr} {p3 : Int32} (hw : HW a0 Z) (G : Gl Z w_CS w_SF w_DO w_DT w_fO w_fT) (pr1 : Obj Z h0 a1 L_StringBuilder [.ref a2, .int 0, .int p3]) : Mt false [] l Y20 C20 (rmk 0 0 0 0) #[.ref a1] Z a0 h0 n0 (Pv h0 (.int 1)) := by
  refine Mt.go PN20 (Or.inl rfl) ef_R_1 fun k => ?_
  replace k := k |>.getS (fl_31 hw) G.S_CS D20_0 |>.ifNo D20_3 ((if0 _ _).trans (feq G.h_CS).1) |>.aloadN D20_6 rfl rfl |>.getF (fl_36 hw) pr1 1 D20_7 rfl rfl |>.ifNo D20_10  |>.iconst D20_13 1 |>.goto D20_14
  exact k.retN (t := .boolean) D20_18 rfl (by simp) (z' := 1) (by decide) ⟨rfl, rfl⟩
theorem own_d8 {p1 p2 v0 v1 v2 v3 v4 v5 : Int32} (e0 : v0 = (ssz p1)) (e1 : v1 = (32 + v0)) (e2 : v2 = (v1 - 34)) (e3 : v3 = (v1 + 12)) (e4 : v4 = (ssz p2)) (e5 : v5 = (v3 + v4)) (hq0 : 0 < v2) : ¬ (v5 < v4) := by
  have : (0 : Int32).toInt = 0 := by decide
  have : (32 : Int32).toInt = 32 := by decide
  have := rng32 p1
  have := e_ssz e0
  have := e_iaddN e1 (by omega)
  have : (34 : Int32).toInt = 34 := by decide
  have := e_isubN e2 (by omega)
  have := i_lt hq0
  have : (12 : Int32).toInt = 12 := by decide
  have := e_iaddN e3 (by omega)
  have := rng32 p2
  have := e_ssz e4
  have := e_iaddN e5 (by omega)
  exact o_nlt (by omega)
theorem own_d9 {p1 p2 v0 v1 v2 v3 v4 v5 : Int32} (e0 : v0 = (ssz p1)) (e1 : v1 = (32 + v0)) (e2 : v2 = (v1 - 34)) (e3 : v3 = (v1 + 12)) (e4 : v4 = (ssz p2)) (e5 : v5 = (v3 + v4)) (hq0 : 0 < v2) : ¬ (70 < v5) := by
  have : (0 : Int32).toInt = 0 := by decide
  have : (32 : Int32).toInt = 32 := by decide
  have := rng32 p1
  have := e_ssz e0
  have := e_iaddN e1 (by omega)
  have : (34 : Int32).toInt = 34 := by decide
  have := e_isubN e2 (by omega)
  have := i_lt hq0
  have : (70 : Int32).toInt = 70 := by decide
  have : (12 : Int32).toInt = 12 := by decide
  have := e_iaddN e3 (by omega)
  have := rng32 p2
  have := e_ssz e4
  have := e_iaddN e5 (by omega)
  exact o_nlt (by omega)
theorem R_19_3 {a1 a3 : Addr} {p2 p4 : Int32} {f5 : Nat → Int32} (hw : HW a0 Z) (G : Gl Z w_CS w_SF w_DO w_DT w_fO w_fT) (pr1 : Obj Z h0 a1 L_StringBuilder [.ref a3, .int 0, .int p4]) (pr2 : Ary Z h0 a3 ATB 70 (bv f5)) (pr3 : ¬ (0 < ((p4 + (ssz p2)) - 70))) (pr4 : ¬ ((p4 + (ssz p2)) < (ssz p2))) (pr5 : ¬ (70 < (p4 + (ssz p2)))) (pr6 : n0 ≤ a3) (pr7 : a1 ≠ a3) (pr8 : n0 ≤ a1) : Mt false [] l Y19 C19 (rmk 1 0 0 18) #[.ref a1, .int p2] Z a0 h0 n0 (KpV h0 [a1, a3] fun v h => ∃ (g1 : Nat → Int32), v = (.ref a1) ∧ Obj Z h a1 L_StringBuilder [.ref a3, .int 0, .int (p4 + (ssz p2))] ∧ Ary Z h a3 ATB 70 (bv g1) ∧ GF (p2 : Int32).toInt.natAbs (p4 + (ssz p2)).toNatClampNeg (sgnI p2) f5 g1) := by
  refine Mt.go PN19 (Or.inl rfl) ef_RI_4 fun k => ?_
  replace k := k |>.aloadN D19_0 rfl rfl |>.getF (fl_67 hw) pr1 2 D19_1 rfl rfl |>.istoreN D19_4 sto2 |>.iloadN D19_5 rfl |>.iloadN D19_6 rfl
  replace k := (k.callS (w_126 hw) (S0 hw) (R_ssz hw G (p1 := p2)) D19_7 1 rfl).pv
  replace k := k |>.iadd D19_10 rfl |>.istoreN D19_11 sto3 |>.aloadN D19_12 rfl rfl |>.iloadN D19_13 rfl
  replace k := (k.callP (w_69 hw) (P9 hw) pr1.exa (R_9_4 hw G pr1 pr2 pr3) D19_14 0 rfl).p0
  replace k := k |>.aloadN D19_17 rfl rfl
  replace k := (k.callV (w_130 hw) (V_Y20_20_StringBuilder hw) pr1.exa (R_20_2 hw G pr1) D19_18 0 rfl).pv
  replace k := k |>.ifNo D19_21  |>.iloadN D19_24 rfl |>.iloadN D19_25 rfl |>.aloadN D19_26 rfl rfl |>.getF (fl_34 hw) pr1 0 D19_27 rfl rfl
  obtain ⟨_, h3, K3, ⟨_, g3, rfl, O3, G3⟩, k⟩ := (k.callS (w_135 hw) (S1 hw) (R_gch hw G pr2 pr6 pr4 pr5 (vN := 70)) D19_30 0 rfl).kv (allS pr6 all0)
  replace k := k |>.pop D19_33 rfl |>.goto D19_34 |>.aloadN D19_48 rfl rfl |>.iloadN D19_49 rfl
  have o4 := pr1.keep K3 (ninS pr7 nin0)
  obtain ⟨h5, K5, O5, k⟩ := k.putF (fl_67 hw) (pw_AbstractStringBuilder_m_StringBuilder_count hw) o4 2 pr8 (Or.inl rfl) D19_50 rfl rfl rfl ls2
  replace k := k |>.aloadN D19_53 rfl rfl
  have o6 := O3.keep K5 (ninS (Ne.symm pr7) nin0)
  exact k.retA D19_54 rfl ⟨_, rfl, (((Keep.refl h0 [a1, a3]).trans K3 (allS (Or.inl (List.mem_of_getElem? (i := 1) rfl)) all0)).trans K5 (allS (Or.inl (List.mem_of_getElem? (i := 0) rfl)) all0)), g3, rfl, O5, o6, G3⟩
theorem R_18_3 {a1 a3 : Addr} {p2 p4 : Int32} {f5 : Nat → Int32} (hw : HW a0 Z) (G : Gl Z w_CS w_SF w_DO w_DT w_fO w_fT) (pr1 : Obj Z h0 a1 L_StringBuilder [.ref a3, .int 0, .int p4]) (pr2 : Ary Z h0 a3 ATB 70 (bv f5)) (pr3 : ¬ (0 < ((p4 + (ssz p2)) - 70))) (pr4 : ¬ ((p4 + (ssz p2)) < (ssz p2))) (pr5 : ¬ (70 < (p4 + (ssz p2)))) (pr6 : n0 ≤ a3) (pr7 : a1 ≠ a3) (pr8 : n0 ≤ a1) : Mt false [] l Y18 C18 (rmk 2 0 0 33) #[.ref a1, .int p2] Z a0 h0 n0 (KpV h0 [a1, a3] fun v h => ∃ (g1 : Nat → Int32), v = (.ref a1) ∧ Obj Z h a1 L_StringBuilder [.ref a3, .int 0, .int (p4 + (ssz p2))] ∧ Ary Z h a3 ATB 70 (bv g1) ∧ GF (p2 : Int32).toInt.natAbs (p4 + (ssz p2)).toNatClampNeg (sgnI p2) f5 g1) := by
  refine Mt.go PN18 (Or.inl rfl) ef_RI_2 fun k => ?_
  replace k := k |>.aloadN D18_0 rfl rfl |>.iloadN D18_1 rfl
  obtain ⟨_, h1, K1, ⟨g1_1, rfl, f1_0, f1_1, f1_2⟩, k⟩ := (k.callX (w_122 hw) (sameOf (y := Y19) (by decide) (by rfl) (w_124 hw) (w_72 hw)) (w_123 hw) (w_51 hw) (by decide) (CW19 hw) pr1.exa (R_19_3 hw G pr1 pr2 pr3 pr4 pr5 pr6 pr7 pr8) D18_2 0 rfl).kv (allS pr8 (allS pr6 all0))
  replace k := k |>.pop D18_5 rfl |>.aloadN D18_6 rfl rfl
  exact k.retA D18_7 rfl ⟨_, rfl, K1, g1_1, rfl, f1_0, f1_1, f1_2⟩
theorem D2_31 : Dc J2 31 (.ldc 30) 2 33 := by decide +kernel
theorem lit_140 : (∀ c ∈ "]".toList, c.toNat < 256) ∧ "]".toList.map (fun c => Value.int (Jvm.Lit.byteI c.toNat.toUInt16)) = [(.int 93)] := by decide +kernel
theorem D2_33 : Dc J2 33 (.invokevirtual 21) 3 36 := by decide +kernel
theorem R_7_3 {a1 a2 : Addr} (hw : HW a0 Z) (G : Gl Z w_CS w_SF w_DO w_DT w_fO w_fT) (pr1 : Obj Z h0 a1 litL [.ref a2, .int 0]) (pr2 : Ary Z h0 a2 ("", .byte) 1 (bv (lvi [93]))) : Mt false [] l Y7 C7 (rmk 1 0 0 13) #[.ref a1] Z a0 h0 n0 (Pv h0 (.int 1)) := by
  refine Mt.go PN7 (Or.inl rfl) ef_R_1 fun k => ?_
  replace k := k |>.aloadN D7_0 rfl rfl |>.getF (fl_59 hw) pr1 0 D7_1 rfl rfl |>.alen pr2 D7_4 (z := 1) (by decide) |>.aloadN D7_5 rfl rfl
  replace k := (k.callV (w_60 hw) (V_Y8_8_String hw) pr1.exa (R_8_1 hw G pr1) D7_6 1 rfl).pv
  replace k := k |>.ishr D7_9 (z := 1)
  exact k.retI D7_10 rfl ⟨rfl, rfl⟩
theorem own_d10 {p1 p2 v0 v1 v2 v3 v4 v5 v6 v7 : Int32} (e0 : v0 = (ssz p1)) (e1 : v1 = (32 + v0)) (e2 : v2 = (v1 - 34)) (e3 : v3 = (v1 + 12)) (e4 : v4 = (ssz p2)) (e5 : v5 = (v3 + v4)) (e6 : v6 = (v5 + 1)) (e7 : v7 = (v6 - 70)) (hq0 : 0 < v2) : ¬ (0 < v7) := by
  have : (0 : Int32).toInt = 0 := by decide
  have : (32 : Int32).toInt = 32 := by decide
  have := rng32 p1
  have := e_ssz e0
  have := e_iaddN e1 (by omega)
  have : (34 : Int32).toInt = 34 := by decide
  have := e_isubN e2 (by omega)
  have := i_lt hq0
  have : (12 : Int32).toInt = 12 := by decide
  have := e_iaddN e3 (by omega)
  have := rng32 p2
  have := e_ssz e4
  have := e_iaddN e5 (by omega)
  have : (1 : Int32).toInt = 1 := by decide
  have := e_iaddN e6 (by omega)
  have : (70 : Int32).toInt = 70 := by decide
  have := e_isubN e7 (by omega)
  exact o_nlt (by omega)
theorem own_d11 {p1 p2 v0 v1 v2 v3 v4 v5 v6 : Int32} (e0 : v0 = (ssz p1)) (e1 : v1 = (32 + v0)) (e2 : v2 = (v1 - 34)) (e3 : v3 = (v1 + 12)) (e4 : v4 = (ssz p2)) (e5 : v5 = (v3 + v4)) (e6 : v6 = (v5 <<< ((0 : Int32) &&& 31))) (hq0 : 0 < v2) : ¬ (v6 < 0) := by
  have : (0 : Int32).toInt = 0 := by decide
  have : (32 : Int32).toInt = 32 := by decide
  have := rng32 p1
  have := e_ssz e0
  have := e_iaddN e1 (by omega)
  have : (34 : Int32).toInt = 34 := by decide
  have := e_isubN e2 (by omega)
  have := i_lt hq0
  have : (12 : Int32).toInt = 12 := by decide
  have := e_iaddN e3 (by omega)
  have := rng32 p2
  have := e_ssz e4
  have := e_iaddN e5 (by omega)
  have := e_ishlN e6 0 1 (by omega)
  exact o_nlt (by omega)
theorem own_d12 {p1 p2 v0 v1 v2 v3 v4 v5 v6 : Int32} (e0 : v0 = (ssz p1)) (e1 : v1 = (32 + v0)) (e2 : v2 = (v1 - 34)) (e3 : v3 = (v1 + 12)) (e4 : v4 = (ssz p2)) (e5 : v5 = (v3 + v4)) (e6 : v6 = (v5 <<< ((0 : Int32) &&& 31))) (hq0 : 0 < v2) : v6.toNatClampNeg + 1 ≤ 70 := by
  have : (0 : Int32).toInt = 0 := by decide
  have : (32 : Int32).toInt = 32 := by decide
  have := rng32 p1
  have := e_ssz e0
  have := e_iaddN e1 (by omega)
  have : (34 : Int32).toInt = 34 := by decide
  have := e_isubN e2 (by omega)
  have := i_lt hq0
  have : (12 : Int32).toInt = 12 := by decide
  have := e_iaddN e3 (by omega)
  have := rng32 p2
  have := e_ssz e4
  have := e_iaddN e5 (by omega)
  have := e_ishlN e6 0 1 (by omega)
  have : (1 : Int32).toInt = 1 := by decide
  have : (70 : Int32).toInt = 70 := by decide
  simp only [clampNat]
  omega
theorem R_17_3 {a1 a2 a4 : Addr} {p3 : Int32} {f5 : Nat → Int32} (hw : HW a0 Z) (G : Gl Z w_CS w_SF w_DO w_DT w_fO w_fT) (pr1 : Obj Z h0 a1 litL [.ref a4, .int 0]) (pr2 : Ary Z h0 a4 ("", .byte) 1 (bv (lvi [93]))) (pr3 : Ary Z h0 a2 ATB 70 (bv f5)) (pr4 : n0 ≤ a2) (pr5 : ¬ ((p3 <<< ((0 : Int32) &&& 31)) < 0)) (pr6 : (p3 <<< ((0 : Int32) &&& 31)).toNatClampNeg + 1 ≤ 70) : Mt false [] l Y17 C17 (rmk 1 0 0 18) #[.ref a1, .ref a2, .int p3, .int 0] Z a0 h0 n0 (K0 h0 [a2] fun h => Ary Z h a2 ATB 70 (bv (cpyi (lvi [93]) f5 0 (p3 <<< ((0 : Int32) &&& 31)).toNatClampNeg 1))) := by
  refine Mt.go PN17 (Or.inl rfl) ef_RRII_4 fun k => ?_
  replace k := k |>.aloadN D17_0 rfl rfl
  replace k := (k.callV (w_60 hw) (V_Y8_8_String hw) pr1.exa (R_8_1 hw G pr1) D17_1 0 rfl).pv
  replace k := k |>.iloadN D17_4 rfl |>.icmpNo D17_5  |>.aloadN D17_8 rfl rfl |>.getF (fl_59 hw) pr1 0 D17_9 rfl rfl |>.iconst D17_12 0 |>.aloadN D17_13 rfl rfl |>.iloadN D17_14 rfl |>.iloadN D17_15 rfl |>.ishl D17_16 rfl |>.aloadN D17_17 rfl rfl |>.getF (fl_59 hw) pr1 0 D17_18 rfl rfl |>.alen pr2 D17_21 (z := 1) (by decide)
  obtain ⟨h2, K2, O2, k⟩ := k.acopy (w_116 hw) (w_99 hw) (w_97 hw) (w_98 hw) pr2 pr3 ⟨rfl, rfl⟩ (sp' := 0) (by decide) (dp' := (p3 <<< ((0 : Int32) &&& 31)).toNatClampNeg) (nnS pr5) (nn' := 1) (by decide) (by decide) pr6 bv_cpy pr4 D17_22 0
  replace k := k |>.goto D17_25
  exact k.ret0 D17_43 rfl ⟨rfl, K2, O2⟩
theorem R_15_3 {a1 a3 a4 a5 : Addr} {p2 : Int32} {f6 : Nat → Int32} (hw : HW a0 Z) (G : Gl Z w_CS w_SF w_DO w_DT w_fO w_fT) (pr1 : Obj Z h0 a1 L_StringBuilder [.ref a4, .int 0, .int p2]) (pr2 : Obj Z h0 a3 litL [.ref a5, .int 0]) (pr3 : Ary Z h0 a5 ("", .byte) 1 (bv (lvi [93]))) (pr4 : Ary Z h0 a4 ATB 70 (bv f6)) (pr5 : n0 ≤ a4) (pr6 : ¬ ((p2 <<< ((0 : Int32) &&& 31)) < 0)) (pr7 : (p2 <<< ((0 : Int32) &&& 31)).toNatClampNeg + 1 ≤ 70) : Mt false [] l Y15 C15 (rmk 2 0 0 33) #[.ref a1, .int p2, .ref a3] Z a0 h0 n0 (K0 h0 [a4] fun h => Ary Z h a4 ATB 70 (bv (cpyi (lvi [93]) f6 0 (p2 <<< ((0 : Int32) &&& 31)).toNatClampNeg 1))) := by
  refine Mt.go PN15 (Or.inl rfl) ef_RIR_3 fun k => ?_
  replace k := k |>.aloadN D15_0 rfl rfl |>.aloadN D15_1 rfl rfl
  replace k := (k.callP (w_105 hw) (P16 hw) pr1.exa (R_16_2 hw G pr1 pr2) D15_2 0 rfl).p0
  replace k := k |>.aloadN D15_5 rfl rfl |>.aloadN D15_6 rfl rfl |>.getF (fl_34 hw) pr1 0 D15_7 rfl rfl |>.iloadN D15_10 rfl |>.aloadN D15_11 rfl rfl |>.getF (fl_36 hw) pr1 1 D15_12 rfl rfl
  obtain ⟨h2, K2, f2_0, k⟩ := (k.callV (w_111 hw) (V_Y17_17_String hw) pr2.exa (R_17_3 hw G pr2 pr3 pr4 pr5 pr6 pr7) D15_15 0 rfl).k0 (allS pr5 all0)
  exact k.ret0 D15_18 rfl ⟨rfl, K2, f2_0⟩
theorem R_6_3 {a1 a2 a3 a4 : Addr} {p5 : Int32} {f6 : Nat → Int32} (hw : HW a0 Z) (G : Gl Z w_CS w_SF w_DO w_DT w_fO w_fT) (pr1 : Obj Z h0 a2 litL [.ref a3, .int 0]) (pr2 : Ary Z h0 a3 ("", .byte) 1 (bv (lvi [93]))) (pr3 : Obj Z h0 a1 L_StringBuilder [.ref a4, .int 0, .int p5]) (pr4 : Ary Z h0 a4 ATB 70 (bv f6)) (pr5 : ¬ (0 < ((p5 + 1) - 70))) (pr6 : n0 ≤ a4) (pr7 : ¬ ((p5 <<< ((0 : Int32) &&& 31)) < 0)) (pr8 : (p5 <<< ((0 : Int32) &&& 31)).toNatClampNeg + 1 ≤ 70) (pr9 : a1 ≠ a4) (pr10 : n0 ≤ a1) : Mt false [] l Y6 C6 (rmk 3 0 0 47) #[.ref a1, .ref a2] Z a0 h0 n0 (KpV h0 [a1, a4] fun v h => v = (.ref a1) ∧ Obj Z h a1 L_StringBuilder [.ref a4, .int 0, .int (p5 + 1)] ∧ Ary Z h a4 ATB 70 (bv (cpyi (lvi [93]) f6 0 (p5 <<< ((0 : Int32) &&& 31)).toNatClampNeg 1))) := by
  refine Mt.go PN6 (Or.inl rfl) ef_RR_3 fun k => ?_
  replace k := k |>.aloadN D6_0 rfl rfl |>.ifnonnullYes D6_1 |>.aloadN D6_9 rfl rfl
  replace k := (k.callV (w_54 hw) (V_Y7_7_String hw) pr1.exa (R_7_3 hw G pr1 pr2) D6_10 0 rfl).pv
  replace k := k |>.istoreN D6_13 sto2 |>.aloadN D6_14 rfl rfl |>.aloadN D6_15 rfl rfl |>.getF (fl_67 hw) pr3 2 D6_16 rfl rfl |>.iloadN D6_19 rfl |>.iadd D6_20 rfl
  replace k := (k.callP (w_69 hw) (P9 hw) pr3.exa (R_9_4 hw G pr3 pr4 pr5) D6_21 0 rfl).p0
  replace k := k |>.aloadN D6_24 rfl rfl |>.aloadN D6_25 rfl rfl |>.getF (fl_67 hw) pr3 2 D6_26 rfl rfl |>.aloadN D6_29 rfl rfl
  obtain ⟨h3, K3, f3_0, k⟩ := (k.callP (w_100 hw) (P15 hw) pr3.exa (R_15_3 hw G pr3 pr1 pr2 pr4 pr6 pr7 pr8) D6_30 0 rfl).k0 (allS pr6 all0)
  replace k := k |>.aloadN D6_33 rfl rfl |>.dup D6_34 rfl
  have o4 := pr3.keep K3 (ninS pr9 nin0)
  replace k := k |>.getF (fl_67 hw) o4 2 D6_35 rfl rfl |>.iloadN D6_38 rfl |>.iadd D6_39 rfl
  obtain ⟨h5, K5, O5, k⟩ := k.putF (fl_67 hw) (pw_AbstractStringBuilder_m_StringBuilder_count hw) o4 2 pr10 (Or.inl rfl) D6_40 rfl rfl rfl ls2
  replace k := k |>.aloadN D6_43 rfl rfl
  have o6 := f3_0.keep K5 (ninS (Ne.symm pr9) nin0)
  exact k.retA D6_44 rfl ⟨_, rfl, (((Keep.refl h0 [a1, a4]).trans K3 (allS (Or.inl (List.mem_of_getElem? (i := 1) rfl)) all0)).trans K5 (allS (Or.inl (List.mem_of_getElem? (i := 0) rfl)) all0)), rfl, O5, o6⟩
theorem R_5_3 {a1 a2 a3 a4 : Addr} {p5 : Int32} {f6 : Nat → Int32} (hw : HW a0 Z) (G : Gl Z w_CS w_SF w_DO w_DT w_fO w_fT) (pr1 : Obj Z h0 a2 litL [.ref a3, .int 0]) (pr2 : Ary Z h0 a3 ("", .byte) 1 (bv (lvi [93]))) (pr3 : Obj Z h0 a1 L_StringBuilder [.ref a4, .int 0, .int p5]) (pr4 : Ary Z h0 a4 ATB 70 (bv f6)) (pr5 : ¬ (0 < ((p5 + 1) - 70))) (pr6 : n0 ≤ a4) (pr7 : ¬ ((p5 <<< ((0 : Int32) &&& 31)) < 0)) (pr8 : (p5 <<< ((0 : Int32) &&& 31)).toNatClampNeg + 1 ≤ 70) (pr9 : a1 ≠ a4) (pr10 : n0 ≤ a1) : Mt false [] l Y5 C5 (rmk 4 0 0 61) #[.ref a1, .ref a2] Z a0 h0 n0 (KpV h0 [a1, a4] fun v h => v = (.ref a1) ∧ Obj Z h a1 L_StringBuilder [.ref a4, .int 0, .int (p5 + 1)] ∧ Ary Z h a4 ATB 70 (bv (cpyi (lvi [93]) f6 0 (p5 <<< ((0 : Int32) &&& 31)).toNatClampNeg 1))) := by
  refine Mt.go PN5 (Or.inl rfl) ef_RR_2 fun k => ?_
  replace k := k |>.aloadN D5_0 rfl rfl |>.aloadN D5_1 rfl rfl
  obtain ⟨_, h1, K1, ⟨rfl, f1_0, f1_1⟩, k⟩ := (k.callX (w_49 hw) (sameOf (y := Y6) (by decide) (by rfl) (w_52 hw) (w_72 hw)) (w_50 hw) (w_51 hw) (by decide) (CW6 hw) pr3.exa (R_6_3 hw G pr1 pr2 pr3 pr4 pr5 pr6 pr7 pr8 pr9 pr10) D5_2 0 rfl).kv (allS pr10 (allS pr6 all0))
  replace k := k |>.pop D5_5 rfl |>.aloadN D5_6 rfl rfl
  exact k.retA D5_7 rfl ⟨_, rfl, K1, rfl, f1_0, f1_1⟩
theorem D2_36 : Dc J2 36 (.invokevirtual 32) 3 39 := by decide +kernel
abbrev Y21 : MethodName := ⟨"java/lang/StringBuilder", "toString", "()Ljava/lang/String;"⟩
abbrev J21 := jdk_67_method_42_code
abbrev C21 : Cond := .code Y21 J21 1 (some (.object "java/lang/String"))
theorem D21_0 : Dc J21 0 (.new 18) 3 3 := by decide +kernel
abbrev L_String : Jvm.Own.Lay := ("java/lang/String", [("java/lang/String", "value", "[B", .null), ("java/lang/String", "coder", "B", (.int 0))])
theorem dvL_String : (L_String.2.map fun q => q.2.2.2) = [.null, (.int 0)] := rfl
theorem okL_String (hw : HW a0 Z) : LOk Z a0 L_String := ⟨allC ⟨Or.inr (w_40 hw), (.array .byte), by decide +kernel, rfl⟩ (allC ⟨Or.inr (w_41 hw), .byte, by decide +kernel, rfl⟩ (allN)), by decide +kernel⟩
theorem nw_String (hw : HW a0 Z) : NW Z a0 L_String 4 := ⟨okL_String hw, (w_39 hw), (w_32 hw)⟩
abbrev w_146 (hw : HW a0 Z) := hw.at 146 rfl
theorem D21_3 : Dc J21 3 .dup 1 4 := by decide +kernel
theorem D21_4 : Dc J21 4 (.aload_n 0) 1 5 := by decide +kernel
theorem D21_5 : Dc J21 5 (.invokespecial 137) 3 8 := by decide +kernel
abbrev Y22 : MethodName := ⟨"java/lang/String", "<init>", "(Ljava/lang/StringBuilder;)V"⟩
abbrev J22 := jdk_42_method_53_code
abbrev C22 : Cond := .code Y22 J22 2 none
theorem D22_0 : Dc J22 0 (.aload_n 0) 1 1 := by decide +kernel
theorem D22_1 : Dc J22 1 (.aload_n 1) 1 2 := by decide +kernel
theorem D22_2 : Dc J22 2 .aconst_null 1 3 := by decide +kernel
theorem D22_3 : Dc J22 3 (.invokespecial 489) 3 6 := by decide +kernel
abbrev Y23 : MethodName := ⟨"java/lang/String", "<init>", "(Ljava/lang/AbstractStringBuilder;Ljava/lang/Void;)V"⟩
abbrev J23 := jdk_42_method_150_code
abbrev C23 : Cond := .code Y23 J23 5 none
theorem D23_0 : Dc J23 0 (.aload_n 0) 1 1 := by decide +kernel
theorem D23_1 : Dc J23 1 (.invokespecial 1) 3 4 := by decide +kernel
abbrev w_154 (hw : HW a0 Z) := hw.at 154 rfl
theorem D23_4 : Dc J23 4 (.aload_n 1) 1 5 := by decide +kernel
theorem D23_5 : Dc J23 5 (.invokevirtual 552) 3 8 := by decide +kernel
abbrev Y24 : MethodName := ⟨"java/lang/AbstractStringBuilder", "getValue", "()[B"⟩
abbrev J24 := jdk_68_method_64_code
abbrev C24 : Cond := .code Y24 J24 1 (some (.array .byte))
theorem D24_0 : Dc J24 0 (.aload_n 0) 1 1 := by decide +kernel
theorem D24_1 : Dc J24 1 (.getfield 15) 3 4 := by decide +kernel
theorem D24_4 : Dc J24 4 .areturn 1 5 := by decide +kernel
theorem PN24 : plainFor Y24 = true := plainFor_of_name pn_AbstractStringBuilder
theorem R_24_1 {a1 a2 : Addr} {p3 : Int32} (hw : HW a0 Z) (G : Gl Z w_CS w_SF w_DO w_DT w_fO w_fT) (pr1 : Obj Z h0 a1 L_StringBuilder [.ref a2, .int 0, .int p3]) : Mt false [] l Y24 C24 (rmk 0 0 0 0) #[.ref a1] Z a0 h0 n0 (Pv h0 (.ref a2)) := by
  refine Mt.go PN24 (Or.inl rfl) ef_R_1 fun k => ?_
  replace k := k |>.aloadN D24_0 rfl rfl |>.getF (fl_34 hw) pr1 0 D24_1 rfl rfl
  exact k.retA D24_4 rfl ⟨rfl, rfl⟩
abbrev w_155 (hw : HW a0 Z) := hw.at 155 rfl
abbrev w_159 (hw : HW a0 Z) := hw.at 159 rfl
theorem pd__r_AB : parseMethodDescriptor "()[B" = some ⟨[], some (.array .byte)⟩ := by decide +kernel
abbrev w_158 (hw : HW a0 Z) := hw.at 158 rfl
abbrev w_157 (hw : HW a0 Z) := hw.at 157 rfl
abbrev w_156 (hw : HW a0 Z) := hw.at 156 rfl
theorem V_Y24_24_StringBuilder (hw : HW a0 Z) : VC Z a0 Y24 Y24 "java/lang/StringBuilder" C24 1 (some (.array .byte)) 0 := ⟨(w_156 hw), fun s hZ => notFace_of_selects (args := #[]) (mvT hZ (w_158 hw)), (w_158 hw), (w_157 hw), by decide, rfl, ⟨⟨_, Or.inl rfl⟩, (w_159 hw), (w_28 hw), by decide, _, _, pd__r_AB, rfl⟩⟩
theorem D23_8 : Dc J23 8 (.astore_n 3) 1 9 := by decide +kernel
theorem D23_9 : Dc J23 9 (.aload_n 1) 1 10 := by decide +kernel
theorem D23_10 : Dc J23 10 (.invokevirtual 549) 3 13 := by decide +kernel
abbrev Y25 : MethodName := ⟨"java/lang/StringBuilder", "length", "()I"⟩
abbrev J25 := jdk_67_method_93_code
abbrev C25 : Cond := .code Y25 J25 1 (some .int)
theorem D25_0 : Dc J25 0 (.aload_n 0) 1 1 := by decide +kernel
theorem D25_1 : Dc J25 1 (.invokespecial 343) 3 4 := by decide +kernel
abbrev Y26 : MethodName := ⟨"java/lang/AbstractStringBuilder", "length", "()I"⟩
abbrev J26 := jdk_68_method_6_code
abbrev C26 : Cond := .code Y26 J26 1 (some .int)
theorem D26_0 : Dc J26 0 (.aload_n 0) 1 1 := by decide +kernel
theorem D26_1 : Dc J26 1 (.getfield 79) 3 4 := by decide +kernel
theorem D26_4 : Dc J26 4 .ireturn 1 5 := by decide +kernel
theorem PN26 : plainFor Y26 = true := plainFor_of_name pn_AbstractStringBuilder
theorem R_26_1 {a1 a2 : Addr} {p3 : Int32} (hw : HW a0 Z) (G : Gl Z w_CS w_SF w_DO w_DT w_fO w_fT) (pr1 : Obj Z h0 a1 L_StringBuilder [.ref a2, .int 0, .int p3]) : Mt false [] l Y26 C26 (rmk 0 0 0 0) #[.ref a1] Z a0 h0 n0 (Pv h0 (.int p3)) := by
  refine Mt.go PN26 (Or.inl rfl) ef_R_1 fun k => ?_
  replace k := k |>.aloadN D26_0 rfl rfl |>.getF (fl_67 hw) pr1 2 D26_1 rfl rfl
  exact k.retI D26_4 rfl ⟨rfl, rfl⟩
abbrev w_166 (hw : HW a0 Z) := hw.at 166 rfl
abbrev w_167 (hw : HW a0 Z) := hw.at 167 rfl
theorem CW26 (hw : HW a0 Z) : CW Z a0 Y26 C26 1 (some .int) 0 := ⟨⟨_, Or.inl rfl⟩, (w_167 hw), (w_28 hw), by decide, _, _, pd__r_I, rfl⟩
abbrev w_161 (hw : HW a0 Z) := hw.at 161 rfl
abbrev w_162 (hw : HW a0 Z) := hw.at 162 rfl
theorem D25_4 : Dc J25 4 .ireturn 1 5 := by decide +kernel
theorem PN25 : plainFor Y25 = true := plainFor_of_name pn_StringBuilder
theorem R_25_1 {a1 a2 : Addr} {p3 : Int32} (hw : HW a0 Z) (G : Gl Z w_CS w_SF w_DO w_DT w_fO w_fT) (pr1 : Obj Z h0 a1 L_StringBuilder [.ref a2, .int 0, .int p3]) : Mt false [] l Y25 C25 (rmk 1 0 0 12) #[.ref a1] Z a0 h0 n0 (Pv h0 (.int p3)) := by
  refine Mt.go PN25 (Or.inl rfl) ef_R_1 fun k => ?_
  replace k := k |>.aloadN D25_0 rfl rfl
  replace k := (k.callX (w_166 hw) (sameOf (y := Y26) (by decide) (by rfl) (w_161 hw) (w_72 hw)) (w_162 hw) (w_51 hw) (by decide) (CW26 hw) pr1.exa (R_26_1 hw G pr1) D25_1 0 rfl).pv
  exact k.retI D25_4 rfl ⟨rfl, rfl⟩
abbrev w_160 (hw : HW a0 Z) := hw.at 160 rfl
abbrev w_165 (hw : HW a0 Z) := hw.at 165 rfl
abbrev w_163 (hw : HW a0 Z) := hw.at 163 rfl
abbrev w_164 (hw : HW a0 Z) := hw.at 164 rfl
theorem V_Y26_25_StringBuilder (hw : HW a0 Z) : VC Z a0 Y26 Y25 "java/lang/StringBuilder" C25 1 (some .int) 0 := ⟨(w_161 hw), fun s hZ => nfOf (y := Y26) (by rfl) (mvT (args := #[]) hZ (w_72 hw)), (w_163 hw), (w_164 hw), by decide, rfl, ⟨⟨_, Or.inl rfl⟩, (w_165 hw), (w_20 hw), by decide, _, _, pd__r_I, rfl⟩⟩
theorem D23_13 : Dc J23 13 (.istore 4) 2 15 := by decide +kernel
theorem D23_15 : Dc J23 15 (.aload_n 1) 1 16 := by decide +kernel
theorem D23_16 : Dc J23 16 (.invokevirtual 1047) 3 19 := by decide +kernel
abbrev w_168 (hw : HW a0 Z) := hw.at 168 rfl
theorem D23_19 : Dj J23 19 (.ifCond .eq 22) 22 22 41 := by decide +kernel
theorem D23_22 : Dc J23 22 (.aload_n 0) 1 23 := by decide +kernel
theorem D23_23 : Dc J23 23 (.iconst 0) 1 24 := by decide +kernel
theorem D23_24 : Dc J23 24 (.putfield 15) 3 27 := by decide +kernel
theorem fp_66 (hw : HW a0 Z) : FP Z a0 "java/lang/String" 15 "java/lang/String" "coder" "B" := ⟨_, (w_66 hw), Via.refl⟩
theorem pw_String_i_String_coder (hw : HW a0 Z) : PW Z a0 "java/lang/String" "<init>" L_String "java/lang/String" "coder" "B" .byte := ⟨okL_String hw, Or.inr ⟨(w_41 hw), rfl, rfl⟩, ⟨_, (w_39 hw)⟩, by decide +kernel⟩
theorem D23_27 : Dc J23 27 (.aload_n 0) 1 28 := by decide +kernel
theorem D23_28 : Dc J23 28 (.aload_n 3) 1 29 := by decide +kernel
theorem D23_29 : Dc J23 29 (.iconst 0) 1 30 := by decide +kernel
theorem D23_30 : Dc J23 30 (.iload 4) 2 32 := by decide +kernel
theorem D23_32 : Dc J23 32 (.invokestatic 54) 3 35 := by decide +kernel
abbrev Y27 : MethodName := ⟨"java/util/Arrays", "copyOfRange", "([BII)[B"⟩
abbrev J27 := jdk_65_method_132_code
abbrev C27 : Cond := .code Y27 J27 3 (some (.array .byte))
theorem D27_0 : Dc J27 0 (.iload_n 1) 1 1 := by decide +kernel
theorem D27_1 : Dj J27 1 (.ifCond .ne 9) 9 4 10 := by decide +kernel
theorem D27_4 : Dc J27 4 (.iload_n 2) 1 5 := by decide +kernel
theorem D27_5 : Dc J27 5 (.aload_n 0) 1 6 := by decide +kernel
theorem D27_6 : Dc J27 6 .arraylength 1 7 := by decide +kernel
theorem D27_7 : Dj J27 7 (.if_icmp .eq 10) 10 10 17 := by decide +kernel
theorem own_d13 {p1 p2 v0 v1 v2 v3 v4 v5 v6 : Int32} (e0 : v0 = (ssz p1)) (e1 : v1 = (32 + v0)) (e2 : v2 = (v1 - 34)) (e3 : v3 = (v1 + 12)) (e4 : v4 = (ssz p2)) (e5 : v5 = (v3 + v4)) (e6 : v6 = (v5 + 1)) (hq0 : 0 < v2) : ¬ (v6 = 70) := by
  have : (0 : Int32).toInt = 0 := by decide
  have : (32 : Int32).toInt = 32 := by decide
  have := rng32 p1
  have := e_ssz e0
  have := e_iaddN e1 (by omega)
  have : (34 : Int32).toInt = 34 := by decide
  have := e_isubN e2 (by omega)
  have := i_lt hq0
  have : (12 : Int32).toInt = 12 := by decide
  have := e_iaddN e3 (by omega)
  have := rng32 p2
  have := e_ssz e4
  have := e_iaddN e5 (by omega)
  have : (1 : Int32).toInt = 1 := by decide
  have := e_iaddN e6 (by omega)
  have : (70 : Int32).toInt = 70 := by decide
  exact o_neq (by omega)
theorem D27_10 : Dc J27 10 (.aload_n 0) 1 11 := by decide +kernel
theorem D27_11 : Dc J27 11 (.iload_n 1) 1 12 := by decide +kernel
theorem D27_12 : Dc J27 12 (.iload_n 2) 1 13 := by decide +kernel
theorem D27_13 : Dc J27 13 (.invokestatic 339) 3 16 := by decide +kernel
abbrev Y28 : MethodName := ⟨"java/util/Arrays", "copyOfRangeByte", "([BII)[B"⟩
abbrev J28 := jdk_65_method_133_code
abbrev C28 : Cond := .code Y28 J28 5 (some (.array .byte))
theorem D28_0 : Dc J28 0 (.iload_n 1) 1 1 := by decide +kernel
theorem D28_1 : Dc J28 1 (.iload_n 2) 1 2 := by decide +kernel
theorem D28_2 : Dc J28 2 (.invokestatic 343) 3 5 := by decide +kernel
abbrev Y29 : MethodName := ⟨"java/util/Arrays", "checkLength", "(II)V"⟩
abbrev J29 := jdk_65_method_131_code
abbrev C29 : Cond := .code Y29 J29 2 none
theorem D29_0 : Dc J29 0 (.iload_n 1) 1 1 := by decide +kernel
theorem D29_1 : Dc J29 1 (.iload_n 0) 1 2 := by decide +kernel
theorem D29_2 : Dj J29 2 (.if_icmp .ge 35) 35 5 37 := by decide +kernel
theorem own_d14 {p1 p2 v0 v1 v2 v3 v4 v5 v6 : Int32} (e0 : v0 = (ssz p1)) (e1 : v1 = (32 + v0)) (e2 : v2 = (v1 - 34)) (e3 : v3 = (v1 + 12)) (e4 : v4 = (ssz p2)) (e5 : v5 = (v3 + v4)) (e6 : v6 = (v5 + 1)) (hq0 : 0 < v2) : ¬ (v6 < 0) := by
  have : (0 : Int32).toInt = 0 := by decide
  have : (32 : Int32).toInt = 32 := by decide
  have := rng32 p1
  have := e_ssz e0
  have := e_iaddN e1 (by omega)
  have : (34 : Int32).toInt = 34 := by decide
  have := e_isubN e2 (by omega)
  have := i_lt hq0
  have : (12 : Int32).toInt = 12 := by decide
  have := e_iaddN e3 (by omega)
  have := rng32 p2
  have := e_ssz e4
  have := e_iaddN e5 (by omega)
  have : (1 : Int32).toInt = 1 := by decide
  have := e_iaddN e6 (by omega)
  exact o_nlt (by omega)
theorem D29_37 : Dc J29 37 .return_ 1 38 := by decide +kernel
theorem PN29 : plainFor Y29 = true := plainFor_of_name pn_Arrays
theorem R_29_1 {p1 : Int32} (hw : HW a0 Z) (G : Gl Z w_CS w_SF w_DO w_DT w_fO w_fT) (pr1 : ¬ (p1 < 0)) : Mt false [] l Y29 C29 (rmk 0 0 0 0) #[.int 0, .int p1] Z a0 h0 n0 (P0 h0) := by
  refine Mt.go PN29 (Or.inl rfl) ef_II_2 fun k => ?_
  replace k := k |>.iloadN D29_0 rfl |>.iloadN D29_1 rfl |>.icmpYes D29_2 (flt pr1).2.1
  exact k.ret0 D29_37 rfl ⟨rfl, rfl⟩
abbrev w_175 (hw : HW a0 Z) := hw.at 175 rfl
abbrev w_177 (hw : HW a0 Z) := hw.at 177 rfl
theorem pd_II_r_V : parseMethodDescriptor "(II)V" = some ⟨[.int, .int], none⟩ := by decide +kernel
abbrev w_176 (hw : HW a0 Z) := hw.at 176 rfl
theorem S29 (hw : HW a0 Z) : SC Z a0 Y29 C29 2 none 2 := ⟨(w_176 hw), ⟨⟨_, Or.inl rfl⟩, (w_177 hw), (w_91 hw), by decide, _, _, pd_II_r_V, rfl⟩⟩
theorem D28_5 : Dc J28 5 (.iload_n 2) 1 6 := by decide +kernel
theorem D28_6 : Dc J28 6 (.iload_n 1) 1 7 := by decide +kernel
theorem D28_7 : Dc J28 7 .isub 1 8 := by decide +kernel
theorem D28_8 : Dc J28 8 (.istore_n 3) 1 9 := by decide +kernel
theorem D28_9 : Dc J28 9 (.iload_n 3) 1 10 := by decide +kernel
theorem D28_10 : Dc J28 10 (.newarray .byte) 2 12 := by decide +kernel
theorem own_d15 {p1 p2 v0 v1 v2 v3 v4 v5 v6 v7 : Int32} (e0 : v0 = (ssz p1)) (e1 : v1 = (32 + v0)) (e2 : v2 = (v1 - 34)) (e3 : v3 = (v1 + 12)) (e4 : v4 = (ssz p2)) (e5 : v5 = (v3 + v4)) (e6 : v6 = (v5 + 1)) (e7 : v7 = (v6 - 0)) (hq0 : 0 < v2) : ¬ (v7 < 0) := by
  have : (0 : Int32).toInt = 0 := by decide
  have : (32 : Int32).toInt = 32 := by decide
  have := rng32 p1
  have := e_ssz e0
  have := e_iaddN e1 (by omega)
  have : (34 : Int32).toInt = 34 := by decide
  have := e_isubN e2 (by omega)
  have := i_lt hq0
  have : (12 : Int32).toInt = 12 := by decide
  have := e_iaddN e3 (by omega)
  have := rng32 p2
  have := e_ssz e4
  have := e_iaddN e5 (by omega)
  have : (1 : Int32).toInt = 1 := by decide
  have := e_iaddN e6 (by omega)
  have := e_isubN e7 (by omega)
  exact o_nlt (by omega)
theorem own_d16 {p1 p2 v0 v1 v2 v3 v4 v5 v6 v7 : Int32} (e0 : v0 = (ssz p1)) (e1 : v1 = (32 + v0)) (e2 : v2 = (v1 - 34)) (e3 : v3 = (v1 + 12)) (e4 : v4 = (ssz p2)) (e5 : v5 = (v3 + v4)) (e6 : v6 = (v5 + 1)) (e7 : v7 = (v6 - 0)) (hq0 : 0 < v2) : v7.toNatClampNeg ≤ 80 := by
  have : (0 : Int32).toInt = 0 := by decide
  have : (32 : Int32).toInt = 32 := by decide
  have := rng32 p1
  have := e_ssz e0
  have := e_iaddN e1 (by omega)
  have : (34 : Int32).toInt = 34 := by decide
  have := e_isubN e2 (by omega)
  have := i_lt hq0
  have : (12 : Int32).toInt = 12 := by decide
  have := e_iaddN e3 (by omega)
  have := rng32 p2
  have := e_ssz e4
  have := e_iaddN e5 (by omega)
  have : (1 : Int32).toInt = 1 := by decide
  have := e_iaddN e6 (by omega)
  have := e_isubN e7 (by omega)
  have : (80 : Int32).toInt = 80 := by decide
  simp only [clampNat]
  omega
theorem D28_12 : Dc J28 12 (.astore 4) 2 14 := by decide +kernel
theorem D28_14 : Dc J28 14 (.aload_n 0) 1 15 := by decide +kernel
theorem D28_15 : Dc J28 15 (.iload_n 1) 1 16 := by decide +kernel
theorem D28_16 : Dc J28 16 (.aload 4) 2 18 := by decide +kernel
theorem D28_18 : Dc J28 18 (.iconst 0) 1 19 := by decide +kernel
theorem D28_19 : Dc J28 19 (.aload_n 0) 1 20 := by decide +kernel
theorem D28_20 : Dc J28 20 .arraylength 1 21 := by decide +kernel
theorem D28_21 : Dc J28 21 (.iload_n 1) 1 22 := by decide +kernel
theorem D28_22 : Dc J28 22 .isub 1 23 := by decide +kernel
theorem D28_23 : Dc J28 23 (.iload_n 3) 1 24 := by decide +kernel
theorem D28_24 : Dc J28 24 (.invokestatic 304) 3 27 := by decide +kernel
theorem own_d17 {p1 p2 v0 v1 v2 v3 v4 v5 v6 v7 : Int32} (e0 : v0 = (ssz p1)) (e1 : v1 = (32 + v0)) (e2 : v2 = (v1 - 34)) (e3 : v3 = (v1 + 12)) (e4 : v4 = (ssz p2)) (e5 : v5 = (v3 + v4)) (e6 : v6 = (v5 + 1)) (e7 : v7 = (v6 - 0)) (hq0 : 0 < v2) : v7 < 70 := by
  have : (0 : Int32).toInt = 0 := by decide
  have : (32 : Int32).toInt = 32 := by decide
  have := rng32 p1
  have := e_ssz e0
  have := e_iaddN e1 (by omega)
  have : (34 : Int32).toInt = 34 := by decide
  have := e_isubN e2 (by omega)
  have := i_lt hq0
  have : (12 : Int32).toInt = 12 := by decide
  have := e_iaddN e3 (by omega)
  have := rng32 p2
  have := e_ssz e4
  have := e_iaddN e5 (by omega)
  have : (1 : Int32).toInt = 1 := by decide
  have := e_iaddN e6 (by omega)
  have := e_isubN e7 (by omega)
  have : (70 : Int32).toInt = 70 := by decide
  exact o_lt (by omega)
theorem D14_9 : Dc J14 9 (.iload_n 1) 1 10 := by decide +kernel
theorem R_14_2 {p1 p2 : Int32} (hw : HW a0 Z) (G : Gl Z w_CS w_SF w_DO w_DT w_fO w_fT) (pr1 : p2 < p1) : Mt false [] l Y14 C14 (rmk 0 0 0 0) #[.int p1, .int p2] Z a0 h0 n0 (Pv h0 (.int p2)) := by
  refine Mt.go PN14 (Or.inl rfl) ef_II_2 fun k => ?_
  replace k := k |>.iloadN D14_0 rfl |>.iloadN D14_1 rfl |>.icmpYes D14_2 (tlt pr1).2.2.1 |>.iloadN D14_9 rfl
  exact k.retI D14_10 rfl ⟨rfl, rfl⟩
theorem D28_27 : Dc J28 27 (.invokestatic 150) 3 30 := by decide +kernel
theorem own_d18 {p1 p2 v0 v1 v2 v3 v4 v5 v6 v7 : Int32} (e0 : v0 = (ssz p1)) (e1 : v1 = (32 + v0)) (e2 : v2 = (v1 - 34)) (e3 : v3 = (v1 + 12)) (e4 : v4 = (ssz p2)) (e5 : v5 = (v3 + v4)) (e6 : v6 = (v5 + 1)) (e7 : v7 = (v6 - 0)) (hq0 : 0 < v2) : 0 + v7.toNatClampNeg ≤ 70 := by
  have : (0 : Int32).toInt = 0 := by decide
  have : (32 : Int32).toInt = 32 := by decide
  have := rng32 p1
  have := e_ssz e0
  have := e_iaddN e1 (by omega)
  have : (34 : Int32).toInt = 34 := by decide
  have := e_isubN e2 (by omega)
  have := i_lt hq0
  have : (12 : Int32).toInt = 12 := by decide
  have := e_iaddN e3 (by omega)
  have := rng32 p2
  have := e_ssz e4
  have := e_iaddN e5 (by omega)
  have : (1 : Int32).toInt = 1 := by decide
  have := e_iaddN e6 (by omega)
  have := e_isubN e7 (by omega)
  have : (70 : Int32).toInt = 70 := by decide
  simp only [clampNat]
  omega
theorem own_d19 {p1 p2 v0 v1 v2 v3 v4 v5 v6 v7 : Int32} (e0 : v0 = (ssz p1)) (e1 : v1 = (32 + v0)) (e2 : v2 = (v1 - 34)) (e3 : v3 = (v1 + 12)) (e4 : v4 = (ssz p2)) (e5 : v5 = (v3 + v4)) (e6 : v6 = (v5 + 1)) (e7 : v7 = (v6 - 0)) (hq0 : 0 < v2) : 0 + v7.toNatClampNeg ≤ v7.toNatClampNeg := by
  have : (0 : Int32).toInt = 0 := by decide
  have : (32 : Int32).toInt = 32 := by decide
  have := rng32 p1
  have := e_ssz e0
  have := e_iaddN e1 (by omega)
  have : (34 : Int32).toInt = 34 := by decide
  have := e_isubN e2 (by omega)
  have := i_lt hq0
  have : (12 : Int32).toInt = 12 := by decide
  have := e_iaddN e3 (by omega)
  have := rng32 p2
  have := e_ssz e4
  have := e_iaddN e5 (by omega)
  have : (1 : Int32).toInt = 1 := by decide
  have := e_iaddN e6 (by omega)
  have := e_isubN e7 (by omega)
  simp only [clampNat]
  omega
theorem D28_30 : Dc J28 30 (.aload 4) 2 32 := by decide +kernel
theorem D28_32 : Dc J28 32 .areturn 1 33 := by decide +kernel
theorem PN28 : plainFor Y28 = true := plainFor_of_name pn_Arrays
theorem ef_RII_5 {x0 : Addr} {x1 : Int32} {x2 : Int32}  (m : MethodId) : entryFrame m #[(.ref x0), (.int x1), (.int x2)] 5 = mkF m 0 #[.val (.ref x0), .val (.int x1), .val (.int x2), .unset, .unset] [] := by
  first | (simp [entryFrame, mkF, argsToLocals, Value.category]; done) | rfl
theorem R_28_1 {a1 : Addr} {p2 : Int32} {f3 : Nat → Int32} (hw : HW a0 Z) (G : Gl Z w_CS w_SF w_DO w_DT w_fO w_fT) (pr1 : ¬ (p2 < 0)) (pr2 : ¬ ((p2 - 0) < 0)) (pr3 : (p2 - 0).toNatClampNeg ≤ 80) (pr4 : Ary Z h0 a1 ATB 70 (bv f3)) (pr5 : (p2 - 0) < 70) (pr6 : 0 + (p2 - 0).toNatClampNeg ≤ 70) (pr7 : 0 + (p2 - 0).toNatClampNeg ≤ (p2 - 0).toNatClampNeg) : Mt false [] l Y28 C28 (rmk 1 1 80 18) #[.ref a1, .int 0, .int p2] Z a0 h0 n0 (KpV h0 [] fun v h => ∃ u1 : Addr, v = (.ref u1) ∧ h0.size ≤ u1 ∧ Ary Z h u1 ATB (p2 - 0).toNatClampNeg (bv (cpyi f3 (fun _ => 0) 0 0 (p2 - 0).toNatClampNeg))) := by
  refine Mt.go PN28 (Or.inl rfl) ef_RII_5 fun k => ?_
  have nz := k.n0le
  replace k := k |>.iloadN D28_0 rfl |>.iloadN D28_1 rfl
  replace k := (k.callS (w_175 hw) (S29 hw) (R_29_1 hw G pr1) D28_2 0 rfl).p0
  replace k := k |>.iloadN D28_5 rfl |>.iloadN D28_6 rfl |>.isub D28_7 rfl |>.istoreN D28_8 sto3 |>.iloadN D28_9 rfl
  have z2 := k.sz
  obtain ⟨b2, h2, g2, K2, O2, k⟩ := k.newP (aty := .byte) "[B" (w_33 hw) (by decide) D28_10 80 pr2 (n := (p2 - 0).toNatClampNeg) rfl pr3 (by decide) bv_zero
  replace k := k |>.astore D28_12 rfl sto4 |>.aloadN D28_14 rfl rfl |>.iloadN D28_15 rfl |>.aload D28_16 rfl rfl |>.iconst D28_18 0 |>.aloadN D28_19 rfl rfl
  have o3 := pr4.keep K2 nin0
  replace k := k |>.alen o3 D28_20 (z := 70) (by decide) |>.iloadN D28_21 rfl |>.isub D28_22 (z := 70) |>.iloadN D28_23 rfl
  replace k := (k.callS (w_93 hw) (S14 hw) (R_14_2 hw G pr5 (p1 := 70)) D28_24 4 rfl).pv
  have s_b2 := Nat.le_trans z2 g2
  have n_b2 := Nat.le_trans nz s_b2
  obtain ⟨h5, K5, O5, k⟩ := k.acopy (w_96 hw) (w_99 hw) (w_97 hw) (w_98 hw) o3 O2 ⟨rfl, rfl⟩ (sp' := 0) (by decide) (dp' := 0) (by decide) (nn' := (p2 - 0).toNatClampNeg) (nnS pr2) pr6 pr7 bv_cpy n_b2 D28_27 0
  replace k := k |>.aload D28_30 rfl rfl
  exact k.retA D28_32 rfl ⟨_, rfl, (K2.trans K5 (allS (Or.inr s_b2) all0)), b2, rfl, s_b2, O5⟩
abbrev w_172 (hw : HW a0 Z) := hw.at 172 rfl
abbrev w_174 (hw : HW a0 Z) := hw.at 174 rfl
theorem pd_ABII_r_AB : parseMethodDescriptor "([BII)[B" = some ⟨[(.array .byte), .int, .int], some (.array .byte)⟩ := by decide +kernel
abbrev w_173 (hw : HW a0 Z) := hw.at 173 rfl
theorem S28 (hw : HW a0 Z) : SC Z a0 Y28 C28 5 (some (.array .byte)) 3 := ⟨(w_173 hw), ⟨⟨_, Or.inl rfl⟩, (w_174 hw), (w_91 hw), by decide, _, _, pd_ABII_r_AB, rfl⟩⟩
theorem D27_16 : Dc J27 16 .areturn 1 17 := by decide +kernel
theorem PN27 : plainFor Y27 = true := plainFor_of_name pn_Arrays
theorem ef_RII_3 {x0 : Addr} {x1 : Int32} {x2 : Int32}  (m : MethodId) : entryFrame m #[(.ref x0), (.int x1), (.int x2)] 3 = mkF m 0 #[.val (.ref x0), .val (.int x1), .val (.int x2)] [] := by
  first | (simp [entryFrame, mkF, argsToLocals, Value.category]; done) | rfl
theorem R_27_1 {a1 : Addr} {p2 : Int32} {f3 : Nat → Int32} (hw : HW a0 Z) (G : Gl Z w_CS w_SF w_DO w_DT w_fO w_fT) (pr1 : Ary Z h0 a1 ATB 70 (bv f3)) (pr2 : ¬ (p2 = 70)) (pr3 : ¬ (p2 < 0)) (pr4 : ¬ ((p2 - 0) < 0)) (pr5 : (p2 - 0).toNatClampNeg ≤ 80) (pr6 : (p2 - 0) < 70) (pr7 : 0 + (p2 - 0).toNatClampNeg ≤ 70) (pr8 : 0 + (p2 - 0).toNatClampNeg ≤ (p2 - 0).toNatClampNeg) : Mt false [] l Y27 C27 (rmk 2 1 80 34) #[.ref a1, .int 0, .int p2] Z a0 h0 n0 (KpV h0 [] fun v h => ∃ u1 : Addr, v = (.ref u1) ∧ h0.size ≤ u1 ∧ Ary Z h u1 ATB (p2 - 0).toNatClampNeg (bv (cpyi f3 (fun _ => 0) 0 0 (p2 - 0).toNatClampNeg))) := by
  refine Mt.go PN27 (Or.inl rfl) ef_RII_3 fun k => ?_
  replace k := k |>.iloadN D27_0 rfl |>.ifNo D27_1  |>.iloadN D27_4 rfl |>.aloadN D27_5 rfl rfl |>.alen pr1 D27_6 (z := 70) (by decide) |>.icmpNo D27_7 (feq pr2).1 |>.aloadN D27_10 rfl rfl |>.iloadN D27_11 rfl |>.iloadN D27_12 rfl
  have z1 := k.sz
  obtain ⟨_, h1, K1, ⟨u1_1, rfl, f1_0, f1_1⟩, k⟩ := (k.callS (w_172 hw) (S28 hw) (R_28_1 hw G pr3 pr4 pr5 pr1 pr6 pr7 pr8) D27_13 0 rfl).kv
  have s_u1_1 := Nat.le_trans z1 f1_0
  exact k.retA D27_16 rfl ⟨_, rfl, K1, u1_1, rfl, s_u1_1, f1_1⟩
abbrev w_169 (hw : HW a0 Z) := hw.at 169 rfl
abbrev w_171 (hw : HW a0 Z) := hw.at 171 rfl
abbrev w_170 (hw : HW a0 Z) := hw.at 170 rfl
theorem S27 (hw : HW a0 Z) : SC Z a0 Y27 C27 3 (some (.array .byte)) 3 := ⟨(w_170 hw), ⟨⟨_, Or.inl rfl⟩, (w_171 hw), (w_91 hw), by decide, _, _, pd_ABII_r_AB, rfl⟩⟩
theorem D23_35 : Dc J23 35 (.putfield 9) 3 38 := by decide +kernel
theorem pw_String_i_String_value (hw : HW a0 Z) : PW Z a0 "java/lang/String" "<init>" L_String "java/lang/String" "value" "[B" (.array .byte) := ⟨okL_String hw, Or.inr ⟨(w_40 hw), rfl, rfl⟩, ⟨_, (w_39 hw)⟩, by decide +kernel⟩
theorem D23_38 : Dj J23 38 (.goto 59) 59 41 97 := by decide +kernel
theorem D23_97 : Dc J23 97 .return_ 1 98 := by decide +kernel
theorem PN23 : plainFor Y23 = true := plainFor_of_name pn_String
theorem ef_RRN_5 {x0 : Addr} {x1 : Addr}  (m : MethodId) : entryFrame m #[(.ref x0), (.ref x1), .null] 5 = mkF m 0 #[.val (.ref x0), .val (.ref x1), .val .null, .unset, .unset] [] := by
  first | (simp [entryFrame, mkF, argsToLocals, Value.category]; done) | rfl
theorem R_23_1 {a1 a2 a3 : Addr} {p4 : Int32} {f5 : Nat → Int32} (hw : HW a0 Z) (G : Gl Z w_CS w_SF w_DO w_DT w_fO w_fT) (pr1 : Obj Z h0 a2 L_StringBuilder [.ref a3, .int 0, .int p4]) (pr2 : Obj Z h0 a1 L_String [.null, .int 0]) (pr3 : n0 ≤ a1) (pr4 : Ary Z h0 a3 ATB 70 (bv f5)) (pr5 : ¬ (p4 = 70)) (pr6 : ¬ (p4 < 0)) (pr7 : ¬ ((p4 - 0) < 0)) (pr8 : (p4 - 0).toNatClampNeg ≤ 80) (pr9 : (p4 - 0) < 70) (pr10 : 0 + (p4 - 0).toNatClampNeg ≤ 70) (pr11 : 0 + (p4 - 0).toNatClampNeg ≤ (p4 - 0).toNatClampNeg) (pr12 : a3 ≠ a1) : Mt false [] l Y23 C23 (rmk 3 1 80 49) #[.ref a1, .ref a2, .null] Z a0 h0 n0 (K0 h0 [a1] fun h => ∃ u1 : Addr, h0.size ≤ u1 ∧ Obj Z h a1 L_String [.ref u1, .int 0] ∧ Ary Z h u1 ATB (p4 - 0).toNatClampNeg (bv (cpyi f5 (fun _ => 0) 0 0 (p4 - 0).toNatClampNeg))) := by
  refine Mt.go PN23 (Or.inl rfl) ef_RRN_5 fun k => ?_
  replace k := k |>.aloadN D23_0 rfl rfl |>.initO (w_154 hw) (w_7 hw) (w_8 hw) D23_1 0 |>.aloadN D23_4 rfl rfl
  replace k := (k.callV (w_155 hw) (V_Y24_24_StringBuilder hw) pr1.exa (R_24_1 hw G pr1) D23_5 0 rfl).pv
  replace k := k |>.astoreN D23_8 rfl sto3 |>.aloadN D23_9 rfl rfl
  replace k := (k.callV (w_160 hw) (V_Y26_25_StringBuilder hw) pr1.exa (R_25_1 hw G pr1) D23_10 0 rfl).pv
  replace k := k |>.istore D23_13 sto4 |>.aloadN D23_15 rfl rfl
  replace k := (k.callV (w_168 hw) (V_Y20_20_StringBuilder hw) pr1.exa (R_20_2 hw G pr1) D23_16 0 rfl).pv
  replace k := k |>.ifNo D23_19  |>.aloadN D23_22 rfl rfl |>.iconst D23_23 0
  obtain ⟨h4, K4, O4, k⟩ := k.putN (fp_66 hw) (pw_String_i_String_coder hw) pr2 1 pr3 (Or.inl rfl) D23_24 rfl (v' := (.int 0)) (by decide) (by decide) ls1
  replace k := k |>.aloadN D23_27 rfl rfl |>.aloadN D23_28 rfl rfl |>.iconst D23_29 0 |>.iload D23_30 rfl
  have o6 := pr4.keep K4 (ninS pr12 nin0)
  have z5 := k.sz
  obtain ⟨_, h5, K5, ⟨u1_5, rfl, f5_0, f5_1⟩, k⟩ := (k.callS (w_169 hw) (S27 hw) (R_27_1 hw G o6 pr5 pr6 pr7 pr8 pr9 pr10 pr11) D23_32 1 rfl).kv
  have o7 := O4.keep K5 nin0
  obtain ⟨h8, K8, O8, k⟩ := k.putF (fl_59 hw) (pw_String_i_String_value hw) o7 0 pr3 (Or.inl rfl) D23_35 rfl rfl rfl ls0
  replace k := k |>.goto D23_38
  have s_u1_5 := Nat.le_trans z5 f5_0
  have o9 := f5_1.keep K8 (ninS (nlt' pr2.lt s_u1_5) nin0)
  exact k.ret0 D23_97 rfl ⟨rfl, ((K4.trans K5 all0).trans K8 (allS (Or.inl (List.mem_of_getElem? (i := 0) rfl)) all0)), u1_5, s_u1_5, O8, o9⟩
abbrev w_151 (hw : HW a0 Z) := hw.at 151 rfl
abbrev w_153 (hw : HW a0 Z) := hw.at 153 rfl
theorem pd_Ljava_lang_AbstractStringBuilderLjava_lang_Void_r_V : parseMethodDescriptor "(Ljava/lang/AbstractStringBuilder;Ljava/lang/Void;)V" = some ⟨[(.object "java/lang/AbstractStringBuilder"), (.object "java/lang/Void")], none⟩ := by decide +kernel
abbrev w_152 (hw : HW a0 Z) := hw.at 152 rfl
theorem I23 (hw : HW a0 Z) : IC Z a0 Y23 C23 5 2 := ⟨(w_152 hw), rfl, ⟨⟨_, Or.inl rfl⟩, (w_153 hw), (w_32 hw), by decide, _, _, pd_Ljava_lang_AbstractStringBuilderLjava_lang_Void_r_V, rfl⟩⟩
theorem D22_6 : Dc J22 6 .return_ 1 7 := by decide +kernel
theorem PN22 : plainFor Y22 = true := plainFor_of_name pn_String
theorem R_22_1 {a1 a2 a3 : Addr} {p4 : Int32} {f5 : Nat → Int32} (hw : HW a0 Z) (G : Gl Z w_CS w_SF w_DO w_DT w_fO w_fT) (pr1 : Obj Z h0 a2 L_StringBuilder [.ref a3, .int 0, .int p4]) (pr2 : Obj Z h0 a1 L_String [.null, .int 0]) (pr3 : n0 ≤ a1) (pr4 : Ary Z h0 a3 ATB 70 (bv f5)) (pr5 : ¬ (p4 = 70)) (pr6 : ¬ (p4 < 0)) (pr7 : ¬ ((p4 - 0) < 0)) (pr8 : (p4 - 0).toNatClampNeg ≤ 80) (pr9 : (p4 - 0) < 70) (pr10 : 0 + (p4 - 0).toNatClampNeg ≤ 70) (pr11 : 0 + (p4 - 0).toNatClampNeg ≤ (p4 - 0).toNatClampNeg) (pr12 : a3 ≠ a1) : Mt false [] l Y22 C22 (rmk 4 1 80 65) #[.ref a1, .ref a2] Z a0 h0 n0 (K0 h0 [a1] fun h => ∃ u1 : Addr, h0.size ≤ u1 ∧ Obj Z h a1 L_String [.ref u1, .int 0] ∧ Ary Z h u1 ATB (p4 - 0).toNatClampNeg (bv (cpyi f5 (fun _ => 0) 0 0 (p4 - 0).toNatClampNeg))) := by
  refine Mt.go PN22 (Or.inl rfl) ef_RR_2 fun k => ?_
  replace k := k |>.aloadN D22_0 rfl rfl |>.aloadN D22_1 rfl rfl |>.aconstNull D22_2
  have z1 := k.sz
  obtain ⟨h1, K1, ⟨u1_1, f1_0, f1_1, f1_2⟩, k⟩ := (k.callI (w_151 hw) (I23 hw) (R_23_1 hw G pr1 pr2 pr3 pr4 pr5 pr6 pr7 pr8 pr9 pr10 pr11 pr12) D22_3 0 rfl).k0 (allS pr3 all0)
  have s_u1_1 := Nat.le_trans z1 f1_0
  exact k.ret0 D22_6 rfl ⟨rfl, K1, u1_1, s_u1_1, f1_1, f1_2⟩
abbrev w_147 (hw : HW a0 Z) := hw.at 147 rfl
abbrev w_150 (hw : HW a0 Z) := hw.at 150 rfl
theorem pd_Ljava_lang_StringBuilder_r_V : parseMethodDescriptor "(Ljava/lang/StringBuilder;)V" = some ⟨[(.object "java/lang/StringBuilder")], none⟩ := by decide +kernel
abbrev w_148 (hw : HW a0 Z) := hw.at 148 rfl
theorem I22 (hw : HW a0 Z) : IC Z a0 Y22 C22 2 1 := ⟨(w_148 hw), rfl, ⟨⟨_, Or.inl rfl⟩, (w_150 hw), (w_32 hw), by decide, _, _, pd_Ljava_lang_StringBuilder_r_V, rfl⟩⟩
theorem D21_8 : Dc J21 8 .areturn 1 9 := by decide +kernel
theorem PN21 : plainFor Y21 = true := plainFor_of_name pn_StringBuilder
theorem R_21_1 {a1 a2 : Addr} {p3 : Int32} {f4 : Nat → Int32} (hw : HW a0 Z) (G : Gl Z w_CS w_SF w_DO w_DT w_fO w_fT) (pr1 : Obj Z h0 a1 L_StringBuilder [.ref a2, .int 0, .int p3]) (pr2 : Ary Z h0 a2 ATB 70 (bv f4)) (pr3 : ¬ (p3 = 70)) (pr4 : ¬ (p3 < 0)) (pr5 : ¬ ((p3 - 0) < 0)) (pr6 : (p3 - 0).toNatClampNeg ≤ 80) (pr7 : (p3 - 0) < 70) (pr8 : 0 + (p3 - 0).toNatClampNeg ≤ 70) (pr9 : 0 + (p3 - 0).toNatClampNeg ≤ (p3 - 0).toNatClampNeg) : Mt false [] l Y21 C21 (rmk 5 2 84 79) #[.ref a1] Z a0 h0 n0 (KpV h0 [] fun v h => ∃ u1 u2 : Addr, v = (.ref u1) ∧ h0.size ≤ u1 ∧ h0.size ≤ u2 ∧ u2 ≠ u1 ∧ Obj Z h u1 L_String [.ref u2, .int 0] ∧ Ary Z h u2 ATB (p3 - 0).toNatClampNeg (bv (cpyi f4 (fun _ => 0) 0 0 (p3 - 0).toNatClampNeg))) := by
  refine Mt.go PN21 (Or.inl rfl) ef_R_1 fun k => ?_
  have nz := k.n0le
  have z1 := k.sz
  obtain ⟨b1, h1, g1, K1, O1, k⟩ := k.new (L := L_String) (w_146 hw) (nw_String hw) D21_0 (by decide) dvL_String
  replace k := k |>.dup D21_3 rfl |>.aloadN D21_4 rfl rfl
  have s_b1 := Nat.le_trans z1 g1
  have n_b1 := Nat.le_trans nz s_b1
  have o3 := pr1.keep K1 nin0
  have o4 := pr2.keep K1 nin0
  have z2 := k.sz
  obtain ⟨h2, K2, ⟨u1_2, f2_0, f2_1, f2_2⟩, k⟩ := (k.callI (w_147 hw) (I22 hw) (R_22_1 hw G o3 O1 n_b1 o4 pr3 pr4 pr5 pr6 pr7 pr8 pr9 (nlt pr2.lt s_b1)) D21_5 1 rfl).k0 (allS n_b1 all0)
  have s_u1_2 := Nat.le_trans z2 f2_0
  exact k.retA D21_8 rfl ⟨_, rfl, (K1.trans K2 (allS (Or.inr s_b1) all0)), b1, u1_2, rfl, s_b1, s_u1_2, (nlt' O1.lt f2_0), f2_1, f2_2⟩
abbrev w_141 (hw : HW a0 Z) := hw.at 141 rfl
abbrev w_145 (hw : HW a0 Z) := hw.at 145 rfl
theorem pd__r_Ljava_lang_String : parseMethodDescriptor "()Ljava/lang/String;" = some ⟨[], some (.object "java/lang/String")⟩ := by decide +kernel
abbrev w_144 (hw : HW a0 Z) := hw.at 144 rfl
abbrev w_143 (hw : HW a0 Z) := hw.at 143 rfl
abbrev w_142 (hw : HW a0 Z) := hw.at 142 rfl
theorem V_Y21_21_StringBuilder (hw : HW a0 Z) : VC Z a0 Y21 Y21 "java/lang/StringBuilder" C21 1 (some (.object "java/lang/String")) 0 := ⟨(w_142 hw), fun s hZ => notFace_of_selects (args := #[]) (mvT hZ (w_144 hw)), (w_144 hw), (w_143 hw), by decide, rfl, ⟨⟨_, Or.inl rfl⟩, (w_145 hw), (w_20 hw), by decide, _, _, pd__r_Ljava_lang_String, rfl⟩⟩
theorem D2_39 : Dc J2 39 .areturn 1 40 := by decide +kernel
theorem R_9_5 {a1 a3 : Addr} {p2 : Int32} (hw : HW a0 Z) (G : Gl Z w_CS w_SF w_DO w_DT w_fO w_fT) (pr1 : Obj Z h0 a1 L_StringBuilder [.ref a3, .int 0, .int 32]) (pr2 : Ary Z h0 a3 ATB 34 (bv (lvi [83, 101, 109, 97, 112, 104, 111, 114, 101, 66, 117, 108, 107, 104, 101, 97, 100, 83, 110, 97, 112, 115, 104, 111, 116, 91, 108, 105, 109, 105, 116, 61, 0, 0]))) (pr3 : ¬ (0 < (p2 - 34))) : Mt false [] l Y9 C9 (rmk 0 0 0 0) #[.ref a1, .int p2] Z a0 h0 n0 (P0 h0) := by
  refine Mt.go PN9 (Or.inl rfl) ef_RI_3 fun k => ?_
  replace k := k |>.aloadN D9_0 rfl rfl |>.getF (fl_34 hw) pr1 0 D9_1 rfl rfl |>.alen pr2 D9_4 (z := 34) (by decide) |>.aloadN D9_5 rfl rfl |>.getF (fl_36 hw) pr1 1 D9_6 rfl rfl |>.ishr D9_9 (z := 34) |>.istoreN D9_10 sto2 |>.iloadN D9_11 rfl |>.iloadN D9_12 rfl |>.isub D9_13 rfl |>.ifYes D9_14 ((if0 _ _).trans (flt pr3).2.2.2)
  exact k.ret0 D9_38 rfl ⟨rfl, rfl⟩
theorem own_d20 {p1 v0 v1 v2 : Int32} (e0 : v0 = (ssz p1)) (e1 : v1 = (32 + v0)) (e2 : v2 = (v1 - 34)) (hq0 : ¬ (0 < v2)) : ¬ (v1 < v0) := by
  have : (0 : Int32).toInt = 0 := by decide
  have : (32 : Int32).toInt = 32 := by decide
  have := rng32 p1
  have := e_ssz e0
  have := e_iaddN e1 (by omega)
  have : (34 : Int32).toInt = 34 := by decide
  have := e_isubN e2 (by omega)
  have := i_nlt hq0
  exact o_nlt (by omega)
theorem own_d21 {p1 v0 v1 v2 : Int32} (e0 : v0 = (ssz p1)) (e1 : v1 = (32 + v0)) (e2 : v2 = (v1 - 34)) (hq0 : ¬ (0 < v2)) : ¬ (34 < v1) := by
  have : (0 : Int32).toInt = 0 := by decide
  have : (32 : Int32).toInt = 32 := by decide
  have := rng32 p1
  have := e_ssz e0
  have := e_iaddN e1 (by omega)
  have : (34 : Int32).toInt = 34 := by decide
  have := e_isubN e2 (by omega)
  have := i_nlt hq0
  exact o_nlt (by omega)
theorem R_19_4 {a1 a3 : Addr} {p2 : Int32} (hw : HW a0 Z) (G : Gl Z w_CS w_SF w_DO w_DT w_fO w_fT) (pr1 : Obj Z h0 a1 L_StringBuilder [.ref a3, .int 0, .int 32]) (pr2 : Ary Z h0 a3 ATB 34 (bv (lvi [83, 101, 109, 97, 112, 104, 111, 114, 101, 66, 117, 108, 107, 104, 101, 97, 100, 83, 110, 97, 112, 115, 104, 111, 116, 91, 108, 105, 109, 105, 116, 61, 0, 0]))) (pr3 : ¬ (0 < ((32 + (ssz p2)) - 34))) (pr4 : ¬ ((32 + (ssz p2)) < (ssz p2))) (pr5 : ¬ (34 < (32 + (ssz p2)))) (pr6 : n0 ≤ a3) (pr7 : a1 ≠ a3) (pr8 : n0 ≤ a1) : Mt false [] l Y19 C19 (rmk 1 0 0 18) #[.ref a1, .int p2] Z a0 h0 n0 (KpV h0 [a1, a3] fun v h => ∃ (g1 : Nat → Int32), v = (.ref a1) ∧ Obj Z h a1 L_StringBuilder [.ref a3, .int 0, .int (32 + (ssz p2))] ∧ Ary Z h a3 ATB 34 (bv g1) ∧ GF (p2 : Int32).toInt.natAbs (32 + (ssz p2)).toNatClampNeg (sgnI p2) (lvi [83, 101, 109, 97, 112, 104, 111, 114, 101, 66, 117, 108, 107, 104, 101, 97, 100, 83, 110, 97, 112, 115, 104, 111, 116, 91, 108, 105, 109, 105, 116, 61, 0, 0]) g1) := by
  refine Mt.go PN19 (Or.inl rfl) ef_RI_4 fun k => ?_
  replace k := k |>.aloadN D19_0 rfl rfl |>.getF (fl_67 hw) pr1 2 D19_1 rfl rfl |>.istoreN D19_4 sto2 |>.iloadN D19_5 rfl |>.iloadN D19_6 rfl
  replace k := (k.callS (w_126 hw) (S0 hw) (R_ssz hw G (p1 := p2)) D19_7 1 rfl).pv
  replace k := k |>.iadd D19_10 rfl |>.istoreN D19_11 sto3 |>.aloadN D19_12 rfl rfl |>.iloadN D19_13 rfl
  replace k := (k.callP (w_69 hw) (P9 hw) pr1.exa (R_9_5 hw G pr1 pr2 pr3) D19_14 0 rfl).p0
  replace k := k |>.aloadN D19_17 rfl rfl
  replace k := (k.callV (w_130 hw) (V_Y20_20_StringBuilder hw) pr1.exa (R_20_1 hw G pr1) D19_18 0 rfl).pv
  replace k := k |>.ifNo D19_21  |>.iloadN D19_24 rfl |>.iloadN D19_25 rfl |>.aloadN D19_26 rfl rfl |>.getF (fl_34 hw) pr1 0 D19_27 rfl rfl
  obtain ⟨_, h3, K3, ⟨_, g3, rfl, O3, G3⟩, k⟩ := (k.callS (w_135 hw) (S1 hw) (R_gch hw G pr2 pr6 pr4 pr5 (vN := 34)) D19_30 0 rfl).kv (allS pr6 all0)
  replace k := k |>.pop D19_33 rfl |>.goto D19_34 |>.aloadN D19_48 rfl rfl |>.iloadN D19_49 rfl
  have o4 := pr1.keep K3 (ninS pr7 nin0)
  obtain ⟨h5, K5, O5, k⟩ := k.putF (fl_67 hw) (pw_AbstractStringBuilder_m_StringBuilder_count hw) o4 2 pr8 (Or.inl rfl) D19_50 rfl rfl rfl ls2
  replace k := k |>.aloadN D19_53 rfl rfl
  have o6 := O3.keep K5 (ninS (Ne.symm pr7) nin0)
  exact k.retA D19_54 rfl ⟨_, rfl, (((Keep.refl h0 [a1, a3]).trans K3 (allS (Or.inl (List.mem_of_getElem? (i := 1) rfl)) all0)).trans K5 (allS (Or.inl (List.mem_of_getElem? (i := 0) rfl)) all0)), g3, rfl, O5, o6, G3⟩
theorem R_18_4 {a1 a3 : Addr} {p2 : Int32} (hw : HW a0 Z) (G : Gl Z w_CS w_SF w_DO w_DT w_fO w_fT) (pr1 : Obj Z h0 a1 L_StringBuilder [.ref a3, .int 0, .int 32]) (pr2 : Ary Z h0 a3 ATB 34 (bv (lvi [83, 101, 109, 97, 112, 104, 111, 114, 101, 66, 117, 108, 107, 104, 101, 97, 100, 83, 110, 97, 112, 115, 104, 111, 116, 91, 108, 105, 109, 105, 116, 61, 0, 0]))) (pr3 : ¬ (0 < ((32 + (ssz p2)) - 34))) (pr4 : ¬ ((32 + (ssz p2)) < (ssz p2))) (pr5 : ¬ (34 < (32 + (ssz p2)))) (pr6 : n0 ≤ a3) (pr7 : a1 ≠ a3) (pr8 : n0 ≤ a1) : Mt false [] l Y18 C18 (rmk 2 0 0 33) #[.ref a1, .int p2] Z a0 h0 n0 (KpV h0 [a1, a3] fun v h => ∃ (g1 : Nat → Int32), v = (.ref a1) ∧ Obj Z h a1 L_StringBuilder [.ref a3, .int 0, .int (32 + (ssz p2))] ∧ Ary Z h a3 ATB 34 (bv g1) ∧ GF (p2 : Int32).toInt.natAbs (32 + (ssz p2)).toNatClampNeg (sgnI p2) (lvi [83, 101, 109, 97, 112, 104, 111, 114, 101, 66, 117, 108, 107, 104, 101, 97, 100, 83, 110, 97, 112, 115, 104, 111, 116, 91, 108, 105, 109, 105, 116, 61, 0, 0]) g1) := by
  refine Mt.go PN18 (Or.inl rfl) ef_RI_2 fun k => ?_
  replace k := k |>.aloadN D18_0 rfl rfl |>.iloadN D18_1 rfl
  obtain ⟨_, h1, K1, ⟨g1_1, rfl, f1_0, f1_1, f1_2⟩, k⟩ := (k.callX (w_122 hw) (sameOf (y := Y19) (by decide) (by rfl) (w_124 hw) (w_72 hw)) (w_123 hw) (w_51 hw) (by decide) (CW19 hw) pr1.exa (R_19_4 hw G pr1 pr2 pr3 pr4 pr5 pr6 pr7 pr8) D18_2 0 rfl).kv (allS pr8 (allS pr6 all0))
  replace k := k |>.pop D18_5 rfl |>.aloadN D18_6 rfl rfl
  exact k.retA D18_7 rfl ⟨_, rfl, K1, g1_1, rfl, f1_0, f1_1, f1_2⟩
theorem own_d22 {p1 v0 v1 v2 v3 v4 : Int32} (e0 : v0 = (ssz p1)) (e1 : v1 = (32 + v0)) (e2 : v2 = (v1 - 34)) (e3 : v3 = (v1 + 12)) (e4 : v4 = (v3 - 34)) (hq0 : ¬ (0 < v2)) : 0 < v4 := by
  have : (0 : Int32).toInt = 0 := by decide
  have : (32 : Int32).toInt = 32 := by decide
  have := rng32 p1
  have := e_ssz e0
  have := e_iaddN e1 (by omega)
  have : (34 : Int32).toInt = 34 := by decide
  have := e_isubN e2 (by omega)
  have := i_nlt hq0
  have : (12 : Int32).toInt = 12 := by decide
  have := e_iaddN e3 (by omega)
  have := e_isubN e4 (by omega)
  exact o_lt (by omega)
theorem own_d23 {p1 v0 v1 v2 v3 v4 v5 : Int32} (e0 : v0 = (ssz p1)) (e1 : v1 = (32 + v0)) (e2 : v2 = (v1 - 34)) (e3 : v3 = (v1 + 12)) (e4 : v4 = (v3 <<< ((0 : Int32) &&& 31))) (e5 : v5 = (v4 - 34)) (hq0 : ¬ (0 < v2)) : v5 < 36 := by
  have : (0 : Int32).toInt = 0 := by decide
  have : (32 : Int32).toInt = 32 := by decide
  have := rng32 p1
  have := e_ssz e0
  have := e_iaddN e1 (by omega)
  have : (34 : Int32).toInt = 34 := by decide
  have := e_isubN e2 (by omega)
  have := i_nlt hq0
  have : (12 : Int32).toInt = 12 := by decide
  have := e_iaddN e3 (by omega)
  have := e_ishlN e4 0 1 (by omega)
  have := e_isubN e5 (by omega)
  have : (36 : Int32).toInt = 36 := by decide
  exact o_lt (by omega)
theorem R_10_3 {a1 a3 : Addr} {p2 p4 : Int32} {f5 : Nat → Int32} (hw : HW a0 Z) (G : Gl Z w_CS w_SF w_DO w_DT w_fO w_fT) (pr1 : Obj Z h0 a1 L_StringBuilder [.ref a3, .int 0, .int p4]) (pr2 : Ary Z h0 a3 ATB 34 (bv f5)) (pr3 : ((p2 <<< ((0 : Int32) &&& 31)) - 34) < 36) : Mt false [] l Y10 C10 (rmk 2 0 0 29) #[.ref a1, .int p2] Z a0 h0 n0 (Pv h0 (.int 70)) := by
  refine Mt.go PN10 (Or.inl rfl) ef_RI_6 fun k => ?_
  replace k := k |>.aloadN D10_0 rfl rfl |>.getF (fl_34 hw) pr1 0 D10_1 rfl rfl |>.alen pr2 D10_4 (z := 34) (by decide) |>.istoreN D10_5 sto2 |>.iloadN D10_6 rfl |>.aloadN D10_7 rfl rfl |>.getF (fl_36 hw) pr1 1 D10_8 rfl rfl |>.ishl D10_11 rfl |>.istoreN D10_12 sto3 |>.iloadN D10_13 rfl |>.iloadN D10_14 rfl |>.isub D10_15 rfl
  replace k := k |>.istore D10_16 sto4 |>.iloadN D10_18 rfl |>.iload D10_19 rfl |>.iloadN D10_21 rfl |>.iconst D10_22 2 |>.aloadN D10_23 rfl rfl |>.getF (fl_36 hw) pr1 1 D10_24 rfl rfl |>.ishl D10_27 (z := 2) |>.iadd D10_28 (z := 36)
  replace k := (k.callS (w_79 hw) (S11 hw) (R_11_1 hw G pr3 (by decide) (by decide) (p1 := 34) (p3 := 36)) D10_29 0 rfl).pv
  replace k := k |>.top (y := 70) (by decide) |>.istore D10_32 sto5 |>.iload D10_34 rfl |>.ldcI (w_88 hw) D10_36 |>.icmpYes D10_38  |>.iload D10_51 rfl |>.aloadN D10_53 rfl rfl |>.getF (fl_36 hw) pr1 1 D10_54 rfl rfl |>.ishr D10_57 (z := 70)
  exact k.retI D10_58 rfl ⟨rfl, rfl⟩
theorem R_13_3 {a1 : Addr} {f2 : Nat → Int32} (hw : HW a0 Z) (G : Gl Z w_CS w_SF w_DO w_DT w_fO w_fT) (pr1 : Ary Z h0 a1 ATB 34 (bv f2)) : Mt false [] l Y13 C13 (rmk 1 1 70 18) #[.ref a1, .int 70] Z a0 h0 n0 (KpV h0 [] fun v h => ∃ u1 : Addr, v = (.ref u1) ∧ h0.size ≤ u1 ∧ Ary Z h u1 ATB 70 (bv (cpyi f2 (fun _ => 0) 0 0 34))) := by
  refine Mt.go PN13 (Or.inl rfl) ef_RI_3 fun k => ?_
  have nz := k.n0le
  replace k := k |>.iloadN D13_0 rfl |>.aloadN D13_1 rfl rfl |>.alen pr1 D13_2 (z := 34) (by decide) |>.icmpYes D13_3  |>.iloadN D13_14 rfl
  have z1 := k.sz
  obtain ⟨b1, h1, g1, K1, O1, k⟩ := k.newP (aty := .byte) "[B" (w_33 hw) (by decide) D13_15 70 (by decide) (n := 70) (by decide) (by decide) (by decide) bv_zero
  replace k := k |>.astoreN D13_17 rfl sto2 |>.aloadN D13_18 rfl rfl |>.iconst D13_19 0 |>.aloadN D13_20 rfl rfl |>.iconst D13_21 0 |>.aloadN D13_22 rfl rfl
  have o2 := pr1.keep K1 nin0
  replace k := k |>.alen o2 D13_23 (z := 34) (by decide) |>.iloadN D13_24 rfl
  replace k := (k.callS (w_93 hw) (S14 hw) (R_14_1 hw G (by decide) (p1 := 34) (p2 := 70)) D13_25 4 rfl).pv
  have s_b1 := Nat.le_trans z1 g1
  have n_b1 := Nat.le_trans nz s_b1
  obtain ⟨h4, K4, O4, k⟩ := k.acopy (w_96 hw) (w_99 hw) (w_97 hw) (w_98 hw) o2 O1 ⟨rfl, rfl⟩ (sp' := 0) (by decide) (dp' := 0) (by decide) (nn' := 34) (by decide) (by decide) (by decide) bv_cpy n_b1 D13_28 0
  replace k := k |>.aloadN D13_31 rfl rfl
  exact k.retA D13_32 rfl ⟨_, rfl, (K1.trans K4 (allS (Or.inr s_b1) all0)), b1, rfl, s_b1, O4⟩
theorem R_9_6 {a1 a3 : Addr} {p2 p4 : Int32} {f5 : Nat → Int32} (hw : HW a0 Z) (G : Gl Z w_CS w_SF w_DO w_DT w_fO w_fT) (pr1 : Obj Z h0 a1 L_StringBuilder [.ref a3, .int 0, .int p4]) (pr2 : Ary Z h0 a3 ATB 34 (bv f5)) (pr3 : 0 < (p2 - 34)) (pr4 : ((p2 <<< ((0 : Int32) &&& 31)) - 34) < 36) (pr5 : n0 ≤ a1) : Mt false [] l Y9 C9 (rmk 3 1 70 48) #[.ref a1, .int p2] Z a0 h0 n0 (K0 h0 [a1] fun h => ∃ u1 : Addr, h0.size ≤ u1 ∧ Obj Z h a1 L_StringBuilder [.ref u1, .int 0, .int p4] ∧ Ary Z h u1 ATB 70 (bv (cpyi f5 (fun _ => 0) 0 0 34))) := by
  refine Mt.go PN9 (Or.inl rfl) ef_RI_3 fun k => ?_
  replace k := k |>.aloadN D9_0 rfl rfl |>.getF (fl_34 hw) pr1 0 D9_1 rfl rfl |>.alen pr2 D9_4 (z := 34) (by decide) |>.aloadN D9_5 rfl rfl |>.getF (fl_36 hw) pr1 1 D9_6 rfl rfl |>.ishr D9_9 (z := 34) |>.istoreN D9_10 sto2 |>.iloadN D9_11 rfl |>.iloadN D9_12 rfl |>.isub D9_13 rfl |>.ifNo D9_14 ((if0 _ _).trans (tlt pr3).2.2.2) |>.aloadN D9_17 rfl rfl
  replace k := k |>.aloadN D9_18 rfl rfl |>.getF (fl_34 hw) pr1 0 D9_19 rfl rfl |>.aloadN D9_22 rfl rfl |>.iloadN D9_23 rfl
  replace k := (k.callP (w_74 hw) (P10 hw) pr1.exa (R_10_3 hw G pr1 pr2 pr4) D9_24 2 rfl).pv
  replace k := k |>.aloadN D9_27 rfl rfl |>.getF (fl_36 hw) pr1 1 D9_28 rfl rfl |>.ishl D9_31 (z := 70)
  have z2 := k.sz
  obtain ⟨_, h2, K2, ⟨u1_2, rfl, f2_0, f2_1⟩, k⟩ := (k.callS (w_89 hw) (S13 hw) (R_13_3 hw G pr2) D9_32 1 rfl).kv
  have o3 := pr1.keep K2 nin0
  obtain ⟨h4, K4, O4, k⟩ := k.putF (fl_34 hw) (pw_AbstractStringBuilder_m_StringBuilder_value hw) o3 0 pr5 (Or.inl rfl) D9_35 rfl rfl rfl ls0
  have s_u1_2 := Nat.le_trans z2 f2_0
  have o5 := f2_1.keep K4 (ninS (nlt' pr1.lt s_u1_2) nin0)
  exact k.ret0 D9_38 rfl ⟨rfl, (((Keep.refl h0 [a1]).trans K2 all0).trans K4 (allS (Or.inl (List.mem_of_getElem? (i := 0) rfl)) all0)), u1_2, s_u1_2, O4, o5⟩
theorem own_d24 {p1 v0 v1 v2 v3 : Int32} (e0 : v0 = (ssz p1)) (e1 : v1 = (32 + v0)) (e2 : v2 = (v1 - 34)) (e3 : v3 = (v1 <<< ((0 : Int32) &&& 31))) (hq0 : ¬ (0 < v2)) : ¬ (v3 < 0) := by
  have : (0 : Int32).toInt = 0 := by decide
  have : (32 : Int32).toInt = 32 := by decide
  have := rng32 p1
  have := e_ssz e0
  have := e_iaddN e1 (by omega)
  have : (34 : Int32).toInt = 34 := by decide
  have := e_isubN e2 (by omega)
  have := i_nlt hq0
  have := e_ishlN e3 0 1 (by omega)
  exact o_nlt (by omega)
theorem own_d25 {p1 v0 v1 v2 v3 : Int32} (e0 : v0 = (ssz p1)) (e1 : v1 = (32 + v0)) (e2 : v2 = (v1 - 34)) (e3 : v3 = (v1 <<< ((0 : Int32) &&& 31))) (hq0 : ¬ (0 < v2)) : v3.toNatClampNeg + 12 ≤ 70 := by
  have : (0 : Int32).toInt = 0 := by decide
  have : (32 : Int32).toInt = 32 := by decide
  have := rng32 p1
  have := e_ssz e0
  have := e_iaddN e1 (by omega)
  have : (34 : Int32).toInt = 34 := by decide
  have := e_isubN e2 (by omega)
  have := i_nlt hq0
  have := e_ishlN e3 0 1 (by omega)
  have : (12 : Int32).toInt = 12 := by decide
  have : (70 : Int32).toInt = 70 := by decide
  simp only [clampNat]
  omega
theorem R_6_4 {a1 a2 a3 a4 : Addr} {p5 : Int32} {f6 : Nat → Int32} (hw : HW a0 Z) (G : Gl Z w_CS w_SF w_DO w_DT w_fO w_fT) (pr1 : Obj Z h0 a2 litL [.ref a3, .int 0]) (pr2 : Ary Z h0 a3 ("", .byte) 12 (bv (lvi [44, 32, 97, 118, 97, 105, 108, 97, 98, 108, 101, 61]))) (pr3 : Obj Z h0 a1 L_StringBuilder [.ref a4, .int 0, .int p5]) (pr4 : Ary Z h0 a4 ATB 34 (bv f6)) (pr5 : 0 < ((p5 + 12) - 34)) (pr6 : (((p5 + 12) <<< ((0 : Int32) &&& 31)) - 34) < 36) (pr7 : n0 ≤ a1) (pr8 : ¬ ((p5 <<< ((0 : Int32) &&& 31)) < 0)) (pr9 : (p5 <<< ((0 : Int32) &&& 31)).toNatClampNeg + 12 ≤ 70) (pr10 : a2 ≠ a1) (pr11 : a3 ≠ a1) : Mt false [] l Y6 C6 (rmk 4 1 70 62) #[.ref a1, .ref a2] Z a0 h0 n0 (KpV h0 [a1] fun v h => ∃ u1 : Addr, v = (.ref a1) ∧ h0.size ≤ u1 ∧ Obj Z h a1 L_StringBuilder [.ref u1, .int 0, .int (p5 + 12)] ∧ Ary Z h u1 ATB 70 (bv (cpyi (lvi [44, 32, 97, 118, 97, 105, 108, 97, 98, 108, 101, 61]) (cpyi f6 (fun _ => 0) 0 0 34) 0 (p5 <<< ((0 : Int32) &&& 31)).toNatClampNeg 12))) := by
  refine Mt.go PN6 (Or.inl rfl) ef_RR_3 fun k => ?_
  have nz := k.n0le
  replace k := k |>.aloadN D6_0 rfl rfl |>.ifnonnullYes D6_1 |>.aloadN D6_9 rfl rfl
  replace k := (k.callV (w_54 hw) (V_Y7_7_String hw) pr1.exa (R_7_2 hw G pr1 pr2) D6_10 0 rfl).pv
  replace k := k |>.istoreN D6_13 sto2 |>.aloadN D6_14 rfl rfl |>.aloadN D6_15 rfl rfl |>.getF (fl_67 hw) pr3 2 D6_16 rfl rfl |>.iloadN D6_19 rfl |>.iadd D6_20 rfl
  have z2 := k.sz
  obtain ⟨h2, K2, ⟨u1_2, f2_0, f2_1, f2_2⟩, k⟩ := (k.callP (w_69 hw) (P9 hw) pr3.exa (R_9_6 hw G pr3 pr4 pr5 pr6 pr7) D6_21 0 rfl).k0 (allS pr7 all0)
  replace k := k |>.aloadN D6_24 rfl rfl |>.aloadN D6_25 rfl rfl |>.getF (fl_67 hw) f2_1 2 D6_26 rfl rfl |>.aloadN D6_29 rfl rfl
  have s_u1_2 := Nat.le_trans z2 f2_0
  have n_u1_2 := Nat.le_trans nz s_u1_2
  have o4 := pr1.keep K2 (ninS pr10 nin0)
  have o5 := pr2.keep K2 (ninS pr11 nin0)
  obtain ⟨h3, K3, f3_0, k⟩ := (k.callP (w_100 hw) (P15 hw) f2_1.exa (R_15_2 hw G f2_1 o4 o5 f2_2 n_u1_2 pr8 pr9) D6_30 0 rfl).k0 (allS n_u1_2 all0)
  replace k := k |>.aloadN D6_33 rfl rfl |>.dup D6_34 rfl
  have o6 := f2_1.keep K3 (ninS (nlt pr3.lt s_u1_2) nin0)
  replace k := k |>.getF (fl_67 hw) o6 2 D6_35 rfl rfl |>.iloadN D6_38 rfl |>.iadd D6_39 rfl
  obtain ⟨h7, K7, O7, k⟩ := k.putF (fl_67 hw) (pw_AbstractStringBuilder_m_StringBuilder_count hw) o6 2 pr7 (Or.inl rfl) D6_40 rfl rfl rfl ls2
  replace k := k |>.aloadN D6_43 rfl rfl
  have o8 := f3_0.keep K7 (ninS (nlt' pr3.lt s_u1_2) nin0)
  exact k.retA D6_44 rfl ⟨_, rfl, ((K2.trans K3 (allS (Or.inr s_u1_2) all0)).trans K7 (allS (Or.inl (List.mem_of_getElem? (i := 0) rfl)) all0)), u1_2, rfl, s_u1_2, O7, o8⟩
theorem R_5_4 {a1 a2 a3 a4 : Addr} {p5 : Int32} {f6 : Nat → Int32} (hw : HW a0 Z) (G : Gl Z w_CS w_SF w_DO w_DT w_fO w_fT) (pr1 : Obj Z h0 a2 litL [.ref a3, .int 0]) (pr2 : Ary Z h0 a3 ("", .byte) 12 (bv (lvi [44, 32, 97, 118, 97, 105, 108, 97, 98, 108, 101, 61]))) (pr3 : Obj Z h0 a1 L_StringBuilder [.ref a4, .int 0, .int p5]) (pr4 : Ary Z h0 a4 ATB 34 (bv f6)) (pr5 : 0 < ((p5 + 12) - 34)) (pr6 : (((p5 + 12) <<< ((0 : Int32) &&& 31)) - 34) < 36) (pr7 : n0 ≤ a1) (pr8 : ¬ ((p5 <<< ((0 : Int32) &&& 31)) < 0)) (pr9 : (p5 <<< ((0 : Int32) &&& 31)).toNatClampNeg + 12 ≤ 70) (pr10 : a2 ≠ a1) (pr11 : a3 ≠ a1) : Mt false [] l Y5 C5 (rmk 5 1 70 76) #[.ref a1, .ref a2] Z a0 h0 n0 (KpV h0 [a1] fun v h => ∃ u1 : Addr, v = (.ref a1) ∧ h0.size ≤ u1 ∧ Obj Z h a1 L_StringBuilder [.ref u1, .int 0, .int (p5 + 12)] ∧ Ary Z h u1 ATB 70 (bv (cpyi (lvi [44, 32, 97, 118, 97, 105, 108, 97, 98, 108, 101, 61]) (cpyi f6 (fun _ => 0) 0 0 34) 0 (p5 <<< ((0 : Int32) &&& 31)).toNatClampNeg 12))) := by
  refine Mt.go PN5 (Or.inl rfl) ef_RR_2 fun k => ?_
  replace k := k |>.aloadN D5_0 rfl rfl |>.aloadN D5_1 rfl rfl
  have z1 := k.sz
  obtain ⟨_, h1, K1, ⟨u1_1, rfl, f1_0, f1_1, f1_2⟩, k⟩ := (k.callX (w_49 hw) (sameOf (y := Y6) (by decide) (by rfl) (w_52 hw) (w_72 hw)) (w_50 hw) (w_51 hw) (by decide) (CW6 hw) pr3.exa (R_6_4 hw G pr1 pr2 pr3 pr4 pr5 pr6 pr7 pr8 pr9 pr10 pr11) D5_2 0 rfl).kv (allS pr7 all0)
  replace k := k |>.pop D5_5 rfl |>.aloadN D5_6 rfl rfl
  have s_u1_1 := Nat.le_trans z1 f1_0
  exact k.retA D5_7 rfl ⟨_, rfl, K1, u1_1, rfl, s_u1_1, f1_1, f1_2⟩
theorem own_d26 {p1 p2 v0 v1 v2 v3 v4 v5 v6 : Int32} (e0 : v0 = (ssz p1)) (e1 : v1 = (32 + v0)) (e2 : v2 = (v1 - 34)) (e3 : v3 = (v1 + 12)) (e4 : v4 = (ssz p2)) (e5 : v5 = (v3 + v4)) (e6 : v6 = (v5 - 70)) (hq0 : ¬ (0 < v2)) : ¬ (0 < v6) := by
  have : (0 : Int32).toInt = 0 := by decide
  have : (32 : Int32).toInt = 32 := by decide
  have := rng32 p1
  have := e_ssz e0
  have := e_iaddN e1 (by omega)
  have : (34 : Int32).toInt = 34 := by decide
  have := e_isubN e2 (by omega)
  have := i_nlt hq0
  have : (12 : Int32).toInt = 12 := by decide
  have := e_iaddN e3 (by omega)
  have := rng32 p2
  have := e_ssz e4
  have := e_iaddN e5 (by omega)
  have : (70 : Int32).toInt = 70 := by decide
  have := e_isubN e6 (by omega)
  exact o_nlt (by omega)
theorem own_d27 {p1 p2 v0 v1 v2 v3 v4 v5 : Int32} (e0 : v0 = (ssz p1)) (e1 : v1 = (32 + v0)) (e2 : v2 = (v1 - 34)) (e3 : v3 = (v1 + 12)) (e4 : v4 = (ssz p2)) (e5 : v5 = (v3 + v4)) (hq0 : ¬ (0 < v2)) : ¬ (v5 < v4) := by
  have : (0 : Int32).toInt = 0 := by decide
  have : (32 : Int32).toInt = 32 := by decide
  have := rng32 p1
  have := e_ssz e0
  have := e_iaddN e1 (by omega)
  have : (34 : Int32).toInt = 34 := by decide
  have := e_isubN e2 (by omega)
  have := i_nlt hq0
  have : (12 : Int32).toInt = 12 := by decide
  have := e_iaddN e3 (by omega)
  have := rng32 p2
  have := e_ssz e4
  have := e_iaddN e5 (by omega)
  exact o_nlt (by omega)
theorem own_d28 {p1 p2 v0 v1 v2 v3 v4 v5 : Int32} (e0 : v0 = (ssz p1)) (e1 : v1 = (32 + v0)) (e2 : v2 = (v1 - 34)) (e3 : v3 = (v1 + 12)) (e4 : v4 = (ssz p2)) (e5 : v5 = (v3 + v4)) (hq0 : ¬ (0 < v2)) : ¬ (70 < v5) := by
  have : (0 : Int32).toInt = 0 := by decide
  have : (32 : Int32).toInt = 32 := by decide
  have := rng32 p1
  have := e_ssz e0
  have := e_iaddN e1 (by omega)
  have : (34 : Int32).toInt = 34 := by decide
  have := e_isubN e2 (by omega)
  have := i_nlt hq0
  have : (70 : Int32).toInt = 70 := by decide
  have : (12 : Int32).toInt = 12 := by decide
  have := e_iaddN e3 (by omega)
  have := rng32 p2
  have := e_ssz e4
  have := e_iaddN e5 (by omega)
  exact o_nlt (by omega)
theorem own_d29 {p1 p2 v0 v1 v2 v3 v4 v5 v6 v7 : Int32} (e0 : v0 = (ssz p1)) (e1 : v1 = (32 + v0)) (e2 : v2 = (v1 - 34)) (e3 : v3 = (v1 + 12)) (e4 : v4 = (ssz p2)) (e5 : v5 = (v3 + v4)) (e6 : v6 = (v5 + 1)) (e7 : v7 = (v6 - 70)) (hq0 : ¬ (0 < v2)) : ¬ (0 < v7) := by
  have : (0 : Int32).toInt = 0 := by decide
  have : (32 : Int32).toInt = 32 := by decide
  have := rng32 p1
  have := e_ssz e0
  have := e_iaddN e1 (by omega)
  have : (34 : Int32).toInt = 34 := by decide
  have := e_isubN e2 (by omega)
  have := i_nlt hq0
  have : (12 : Int32).toInt = 12 := by decide
  have := e_iaddN e3 (by omega)
  have := rng32 p2
  have := e_ssz e4
  have := e_iaddN e5 (by omega)
  have : (1 : Int32).toInt = 1 := by decide
  have := e_iaddN e6 (by omega)
  have : (70 : Int32).toInt = 70 := by decide
  have := e_isubN e7 (by omega)
  exact o_nlt (by omega)
theorem own_d30 {p1 p2 v0 v1 v2 v3 v4 v5 v6 : Int32} (e0 : v0 = (ssz p1)) (e1 : v1 = (32 + v0)) (e2 : v2 = (v1 - 34)) (e3 : v3 = (v1 + 12)) (e4 : v4 = (ssz p2)) (e5 : v5 = (v3 + v4)) (e6 : v6 = (v5 <<< ((0 : Int32) &&& 31))) (hq0 : ¬ (0 < v2)) : ¬ (v6 < 0) := by
  have : (0 : Int32).toInt = 0 := by decide
  have : (32 : Int32).toInt = 32 := by decide
  have := rng32 p1
  have := e_ssz e0
  have := e_iaddN e1 (by omega)
  have : (34 : Int32).toInt = 34 := by decide
  have := e_isubN e2 (by omega)
  have := i_nlt hq0
  have : (12 : Int32).toInt = 12 := by decide
  have := e_iaddN e3 (by omega)
  have := rng32 p2
  have := e_ssz e4
  have := e_iaddN e5 (by omega)
  have := e_ishlN e6 0 1 (by omega)
  exact o_nlt (by omega)
theorem own_d31 {p1 p2 v0 v1 v2 v3 v4 v5 v6 : Int32} (e0 : v0 = (ssz p1)) (e1 : v1 = (32 + v0)) (e2 : v2 = (v1 - 34)) (e3 : v3 = (v1 + 12)) (e4 : v4 = (ssz p2)) (e5 : v5 = (v3 + v4)) (e6 : v6 = (v5 <<< ((0 : Int32) &&& 31))) (hq0 : ¬ (0 < v2)) : v6.toNatClampNeg + 1 ≤ 70 := by
  have : (0 : Int32).toInt = 0 := by decide
  have : (32 : Int32).toInt = 32 := by decide
  have := rng32 p1
  have := e_ssz e0
  have := e_iaddN e1 (by omega)
  have : (34 : Int32).toInt = 34 := by decide
  have := e_isubN e2 (by omega)
  have := i_nlt hq0
  have : (12 : Int32).toInt = 12 := by decide
  have := e_iaddN e3 (by omega)
  have := rng32 p2
  have := e_ssz e4
  have := e_iaddN e5 (by omega)
  have := e_ishlN e6 0 1 (by omega)
  have : (1 : Int32).toInt = 1 := by decide
  have : (70 : Int32).toInt = 70 := by decide
  simp only [clampNat]
  omega
theorem own_d32 {p1 p2 v0 v1 v2 v3 v4 v5 v6 : Int32} (e0 : v0 = (ssz p1)) (e1 : v1 = (32 + v0)) (e2 : v2 = (v1 - 34)) (e3 : v3 = (v1 + 12)) (e4 : v4 = (ssz p2)) (e5 : v5 = (v3 + v4)) (e6 : v6 = (v5 + 1)) (hq0 : ¬ (0 < v2)) : ¬ (v6 = 70) := by
  have : (0 : Int32).toInt = 0 := by decide
  have : (32 : Int32).toInt = 32 := by decide
  have := rng32 p1
  have := e_ssz e0
  have := e_iaddN e1 (by omega)
  have : (34 : Int32).toInt = 34 := by decide
  have := e_isubN e2 (by omega)
  have := i_nlt hq0
  have : (12 : Int32).toInt = 12 := by decide
  have := e_iaddN e3 (by omega)
  have := rng32 p2
  have := e_ssz e4
  have := e_iaddN e5 (by omega)
  have : (1 : Int32).toInt = 1 := by decide
  have := e_iaddN e6 (by omega)
  have : (70 : Int32).toInt = 70 := by decide
  exact o_neq (by omega)
theorem own_d33 {p1 p2 v0 v1 v2 v3 v4 v5 v6 : Int32} (e0 : v0 = (ssz p1)) (e1 : v1 = (32 + v0)) (e2 : v2 = (v1 - 34)) (e3 : v3 = (v1 + 12)) (e4 : v4 = (ssz p2)) (e5 : v5 = (v3 + v4)) (e6 : v6 = (v5 + 1)) (hq0 : ¬ (0 < v2)) : ¬ (v6 < 0) := by
  have : (0 : Int32).toInt = 0 := by decide
  have : (32 : Int32).toInt = 32 := by decide
  have := rng32 p1
  have := e_ssz e0
  have := e_iaddN e1 (by omega)
  have : (34 : Int32).toInt = 34 := by decide
  have := e_isubN e2 (by omega)
  have := i_nlt hq0
  have : (12 : Int32).toInt = 12 := by decide
  have := e_iaddN e3 (by omega)
  have := rng32 p2
  have := e_ssz e4
  have := e_iaddN e5 (by omega)
  have : (1 : Int32).toInt = 1 := by decide
  have := e_iaddN e6 (by omega)
  exact o_nlt (by omega)
theorem own_d34 {p1 p2 v0 v1 v2 v3 v4 v5 v6 v7 : Int32} (e0 : v0 = (ssz p1)) (e1 : v1 = (32 + v0)) (e2 : v2 = (v1 - 34)) (e3 : v3 = (v1 + 12)) (e4 : v4 = (ssz p2)) (e5 : v5 = (v3 + v4)) (e6 : v6 = (v5 + 1)) (e7 : v7 = (v6 - 0)) (hq0 : ¬ (0 < v2)) : ¬ (v7 < 0) := by
  have : (0 : Int32).toInt = 0 := by decide
  have : (32 : Int32).toInt = 32 := by decide
  have := rng32 p1
  have := e_ssz e0
  have := e_iaddN e1 (by omega)
  have : (34 : Int32).toInt = 34 := by decide
  have := e_isubN e2 (by omega)
  have := i_nlt hq0
  have : (12 : Int32).toInt = 12 := by decide
  have := e_iaddN e3 (by omega)
  have := rng32 p2
  have := e_ssz e4
  have := e_iaddN e5 (by omega)
  have : (1 : Int32).toInt = 1 := by decide
  have := e_iaddN e6 (by omega)
  have := e_isubN e7 (by omega)
  exact o_nlt (by omega)
theorem own_d35 {p1 p2 v0 v1 v2 v3 v4 v5 v6 v7 : Int32} (e0 : v0 = (ssz p1)) (e1 : v1 = (32 + v0)) (e2 : v2 = (v1 - 34)) (e3 : v3 = (v1 + 12)) (e4 : v4 = (ssz p2)) (e5 : v5 = (v3 + v4)) (e6 : v6 = (v5 + 1)) (e7 : v7 = (v6 - 0)) (hq0 : ¬ (0 < v2)) : v7.toNatClampNeg ≤ 80 := by
  have : (0 : Int32).toInt = 0 := by decide
  have : (32 : Int32).toInt = 32 := by decide
  have := rng32 p1
  have := e_ssz e0
  have := e_iaddN e1 (by omega)
  have : (34 : Int32).toInt = 34 := by decide
  have := e_isubN e2 (by omega)
  have := i_nlt hq0
  have : (12 : Int32).toInt = 12 := by decide
  have := e_iaddN e3 (by omega)
  have := rng32 p2
  have := e_ssz e4
  have := e_iaddN e5 (by omega)
  have : (1 : Int32).toInt = 1 := by decide
  have := e_iaddN e6 (by omega)
  have := e_isubN e7 (by omega)
  have : (80 : Int32).toInt = 80 := by decide
  simp only [clampNat]
  omega
theorem own_d36 {p1 p2 v0 v1 v2 v3 v4 v5 v6 v7 : Int32} (e0 : v0 = (ssz p1)) (e1 : v1 = (32 + v0)) (e2 : v2 = (v1 - 34)) (e3 : v3 = (v1 + 12)) (e4 : v4 = (ssz p2)) (e5 : v5 = (v3 + v4)) (e6 : v6 = (v5 + 1)) (e7 : v7 = (v6 - 0)) (hq0 : ¬ (0 < v2)) : v7 < 70 := by
  have : (0 : Int32).toInt = 0 := by decide
  have : (32 : Int32).toInt = 32 := by decide
  have := rng32 p1
  have := e_ssz e0
  have := e_iaddN e1 (by omega)
  have : (34 : Int32).toInt = 34 := by decide
  have := e_isubN e2 (by omega)
  have := i_nlt hq0
  have : (12 : Int32).toInt = 12 := by decide
  have := e_iaddN e3 (by omega)
  have := rng32 p2
  have := e_ssz e4
  have := e_iaddN e5 (by omega)
  have : (1 : Int32).toInt = 1 := by decide
  have := e_iaddN e6 (by omega)
  have := e_isubN e7 (by omega)
  have : (70 : Int32).toInt = 70 := by decide
  exact o_lt (by omega)
theorem own_d37 {p1 p2 v0 v1 v2 v3 v4 v5 v6 v7 : Int32} (e0 : v0 = (ssz p1)) (e1 : v1 = (32 + v0)) (e2 : v2 = (v1 - 34)) (e3 : v3 = (v1 + 12)) (e4 : v4 = (ssz p2)) (e5 : v5 = (v3 + v4)) (e6 : v6 = (v5 + 1)) (e7 : v7 = (v6 - 0)) (hq0 : ¬ (0 < v2)) : 0 + v7.toNatClampNeg ≤ 70 := by
  have : (0 : Int32).toInt = 0 := by decide
  have : (32 : Int32).toInt = 32 := by decide
  have := rng32 p1
  have := e_ssz e0
  have := e_iaddN e1 (by omega)
  have : (34 : Int32).toInt = 34 := by decide
  have := e_isubN e2 (by omega)
  have := i_nlt hq0
  have : (12 : Int32).toInt = 12 := by decide
  have := e_iaddN e3 (by omega)
  have := rng32 p2
  have := e_ssz e4
  have := e_iaddN e5 (by omega)
  have : (1 : Int32).toInt = 1 := by decide
  have := e_iaddN e6 (by omega)
  have := e_isubN e7 (by omega)
  have : (70 : Int32).toInt = 70 := by decide
  simp only [clampNat]
  omega
theorem own_d38 {p1 p2 v0 v1 v2 v3 v4 v5 v6 v7 : Int32} (e0 : v0 = (ssz p1)) (e1 : v1 = (32 + v0)) (e2 : v2 = (v1 - 34)) (e3 : v3 = (v1 + 12)) (e4 : v4 = (ssz p2)) (e5 : v5 = (v3 + v4)) (e6 : v6 = (v5 + 1)) (e7 : v7 = (v6 - 0)) (hq0 : ¬ (0 < v2)) : 0 + v7.toNatClampNeg ≤ v7.toNatClampNeg := by
  have : (0 : Int32).toInt = 0 := by decide
  have : (32 : Int32).toInt = 32 := by decide
  have := rng32 p1
  have := e_ssz e0
  have := e_iaddN e1 (by omega)
  have : (34 : Int32).toInt = 34 := by decide
  have := e_isubN e2 (by omega)
  have := i_nlt hq0
  have : (12 : Int32).toInt = 12 := by decide
  have := e_iaddN e3 (by omega)
  have := rng32 p2
  have := e_ssz e4
  have := e_iaddN e5 (by omega)
  have : (1 : Int32).toInt = 1 := by decide
  have := e_iaddN e6 (by omega)
  have := e_isubN e7 (by omega)
  simp only [clampNat]
  omega
theorem pn_SemaphoreBulkheadSnapshot : plainName "com/example/chatham/chatham/pattern/SemaphoreBulkheadSnapshot" = true := by first | (simp [plainName, overriddenIn]; done) | decide +kernel
theorem PN2 : plainFor Y2 = true := plainFor_of_name pn_SemaphoreBulkheadSnapshot
theorem R_ts {a1 : Addr} {p1 p2 : Int32} (hw : HW a0 Z) (G : Gl Z w_CS w_SF w_DO w_DT w_fO w_fT) (O : Obj Z h0 a1 L_SemaphoreBulkheadSnapshot [.int p1, .int p2]) : Mt true consts_1 l Y2 C2 (rmk 6 12 400 91) #[.ref a1] Z a0 h0 n0 (KpV h0 [] fun v h => ∃ (u w : Addr) (f : Nat → Int32), v = .ref u ∧ Obj Z h u litL [.ref w, .int 0] ∧ Ary Z h w ATB ((((32 + (ssz p1)) + 12) + (ssz p2)) + 1).toNatClampNeg (bv f) ∧ Snap f p1 p2) := by
  refine Mt.go PN2 (Or.inl rfl) ef_R_1 fun k => ?_
  have nz := k.n0le
  have cv2 := k.chv
  have z1 := k.sz
  obtain ⟨b1, h1, g1, K1, O1, k⟩ := k.new (L := L_StringBuilder) (w_18 hw) (nw_StringBuilder hw) D2_0 (by decide) dvL_StringBuilder
  replace k := k |>.dup D2_3 rfl
  have s_b1 := Nat.le_trans z1 g1
  have n_b1 := Nat.le_trans nz s_b1
  have sf4 := (Safe.new g1).keep K1 all0 cv2
  have cv5 := k.chv
  obtain ⟨h3, K3, ⟨u1_3, f3_0, f3_1, f3_2⟩, k⟩ := (k.callI (w_21 hw) (I3 hw) (R_3_1 hw G O1 n_b1) D2_4 1 rfl).k0 (allS n_b1 all0) (Or.inr (allS sf4 all0))
  obtain ⟨a6x, b6x, vm6, h6, K6, R6, O6, A6, N6, k⟩ := k.ldcS (w_38 hw) (strAt hw) (List.mem_of_getElem? (i := 0) rfl) lit_38 rfl D2_7
  replace A6 : Ary Z h6 b6x ("", .byte) 32 (bv (lvi [83, 101, 109, 97, 112, 104, 111, 114, 101, 66, 117, 108, 107, 104, 101, 97, 100, 83, 110, 97, 112, 115, 104, 111, 116, 91, 108, 105, 109, 105, 116, 61])) := Ary.norm A6 (lv_bi rfl rfl)
  have o8 := f3_1.keep K6 nin0
  have o9 := f3_2.keep K6 nin0
  have sf10 := R6.safe f3_1.lt (sf4.keep K3 (allS sf4 all0) cv5)
  have cv11 := k.chv
  have z7 := k.sz
  obtain ⟨_, h7, K7, ⟨u1_7, rfl, f7_0, f7_1, f7_2⟩, k⟩ := (k.callV (w_44 hw) (V_Y5_5_StringBuilder hw) o8.exa (R_5_1 hw G O6 A6 o8 o9 n_b1 (Ne.symm (N6 _ (R6.safe f3_1.lt (sf4.keep K3 (allS sf4 all0) cv5))).1) (Ne.symm (N6 _ (R6.safe f3_1.lt (sf4.keep K3 (allS sf4 all0) cv5))).2)) D2_9 0 rfl).kv (allS n_b1 all0) (Or.inr (allS sf10 all0))
  replace k := k |>.aloadN D2_12 rfl rfl
  have o12 := (((O.keep K1 nin0).keep K3 (ninS (nlt O.lt s_b1) nin0)).keep K6 nin0).keep K7 (ninS (nlt O.lt s_b1) nin0)
  replace k := k |>.getF (fl_9 hw) o12 0 D2_13 rfl rfl
  by_cases hs13 : 0 < ((32 + (ssz p1)) - 34)
  · have sf15 := sf10.keep K7 (allS sf10 all0) cv11
    have cv16 := k.chv
    have z14 := k.sz
    obtain ⟨_, h14, K14, ⟨u1_14, g2_14, rfl, f14_0, f14_1, f14_2, f14_3⟩, k⟩ := (k.callV (w_117 hw) (V_Y18_18_StringBuilder hw) f7_1.exa (R_18_2 hw G f7_1 f7_2 hs13 (own_d1 rfl rfl rfl rfl rfl hs13) n_b1 (own_d2 rfl rfl rfl hs13) (own_d3 rfl rfl rfl hs13)) D2_16 0 rfl).kv (allS n_b1 all0) (Or.inr (allS sf15 all0))
    obtain ⟨a17x, b17x, vm17, h17, K17, R17, O17, A17, N17, k⟩ := k.ldcS (w_139 hw) (strAt hw) (List.mem_of_getElem? (i := 1) rfl) lit_139 rfl D2_19
    replace A17 : Ary Z h17 b17x ("", .byte) 12 (bv (lvi [44, 32, 97, 118, 97, 105, 108, 97, 98, 108, 101, 61])) := Ary.norm A17 (lv_bi rfl rfl)
    have s_u1_14 := Nat.le_trans z14 f14_0
    have n_u1_14 := Nat.le_trans nz s_u1_14
    have o19 := f14_1.keep K17 nin0
    have o20 := f14_2.keep K17 nin0
    have sf21 := R17.safe f14_1.lt (sf15.keep K14 (allS sf15 all0) cv16)
    have sf22 := R17.safe f14_2.lt ((Safe.new f14_0).keep K14 (allS sf15 all0) cv16)
    have cv23 := k.chv
    obtain ⟨_, h18, K18, ⟨rfl, f18_0, f18_1⟩, k⟩ := (k.callV (w_44 hw) (V_Y5_5_StringBuilder hw) o19.exa (R_5_2 hw G O17 A17 o19 o20 (own_d4 rfl rfl rfl rfl rfl hs13) n_u1_14 (own_d5 rfl rfl rfl rfl hs13) (own_d6 rfl rfl rfl rfl hs13) (nlt f7_1.lt f14_0) n_b1) D2_21 0 rfl).kv (allS n_b1 (allS n_u1_14 all0)) (Or.inr (allS sf21 (allS sf22 all0)))
    replace k := k |>.aloadN D2_24 rfl rfl
    have o24 := ((o12.keep K14 (ninS (nlt O.lt s_b1) nin0)).keep K17 nin0).keep K18 (ninS (nlt O.lt s_b1) (ninS (nlt O.lt s_u1_14) nin0))
    replace k := k |>.getF (fl_11 hw) o24 1 D2_25 rfl rfl
    have sf26 := sf21.keep K18 (allS sf21 (allS sf22 all0)) cv23
    have sf27 := sf22.keep K18 (allS sf21 (allS sf22 all0)) cv23
    have cv28 := k.chv
    obtain ⟨_, h25, K25, ⟨g1_25, rfl, f25_0, f25_1, f25_2⟩, k⟩ := (k.callV (w_117 hw) (V_Y18_18_StringBuilder hw) f18_0.exa (R_18_3 hw G f18_0 f18_1 (own_d7 rfl rfl rfl rfl rfl rfl rfl hs13) (own_d8 rfl rfl rfl rfl rfl rfl hs13) (own_d9 rfl rfl rfl rfl rfl rfl hs13) n_u1_14 (nlt f7_1.lt f14_0) n_b1) D2_28 0 rfl).kv (allS n_b1 (allS n_u1_14 all0)) (Or.inr (allS sf26 (allS sf27 all0)))
    obtain ⟨a29x, b29x, vm29, h29, K29, R29, O29, A29, N29, k⟩ := k.ldcS (w_140 hw) (strAt hw) (List.mem_of_getElem? (i := 2) rfl) lit_140 rfl D2_31
    replace A29 : Ary Z h29 b29x ("", .byte) 1 (bv (lvi [93])) := Ary.norm A29 (lv_bi rfl rfl)
    have o31 := f25_0.keep K29 nin0
    have o32 := f25_1.keep K29 nin0
    have sf33 := R29.safe f25_0.lt (sf26.keep K25 (allS sf26 (allS sf27 all0)) cv28)
    have sf34 := R29.safe f25_1.lt (sf27.keep K25 (allS sf26 (allS sf27 all0)) cv28)
    obtain ⟨_, h30, K30, ⟨rfl, f30_0, f30_1⟩, k⟩ := (k.callV (w_44 hw) (V_Y5_5_StringBuilder hw) o31.exa (R_5_3 hw G O29 A29 o31 o32 (own_d10 rfl rfl rfl rfl rfl rfl rfl rfl hs13) n_u1_14 (own_d11 rfl rfl rfl rfl rfl rfl rfl hs13) (own_d12 rfl rfl rfl rfl rfl rfl rfl hs13) (nlt f7_1.lt f14_0) n_b1) D2_33 0 rfl).kv (allS n_b1 (allS n_u1_14 all0)) (Or.inr (allS sf33 (allS sf34 all0)))
    obtain ⟨_, h36, K36, ⟨u1_36, u2_36, rfl, f36_0, f36_1, f36_2, f36_3, f36_4⟩, k⟩ := (k.callV (w_141 hw) (V_Y21_21_StringBuilder hw) f30_0.exa (R_21_1 hw G f30_0 f30_1 (own_d13 rfl rfl rfl rfl rfl rfl rfl hs13) (own_d14 rfl rfl rfl rfl rfl rfl rfl hs13) (own_d15 rfl rfl rfl rfl rfl rfl rfl rfl hs13) (own_d16 rfl rfl rfl rfl rfl rfl rfl rfl hs13) (own_d17 rfl rfl rfl rfl rfl rfl rfl rfl hs13) (own_d18 rfl rfl rfl rfl rfl rfl rfl rfl hs13) (own_d19 rfl rfl rfl rfl rfl rfl rfl rfl hs13)) D2_36 0 rfl).kv all0 (Or.inr all0)
    obtain ⟨⟨c1, c2, c3, c4⟩, -⟩ := snap_pos (p1 := p1) (p2 := p2) rfl rfl rfl rfl rfl rfl
    have u1 : _ := nz_int (p := p1) rfl
    exact k.retA D2_39 rfl ⟨_, rfl, ((((((((((K1.trans K3 (allS (Or.inr s_b1) all0)).trans K6 all0).trans K7 (allS (Or.inr s_b1) all0)).trans K14 (allS (Or.inr s_b1) all0)).trans K17 all0).trans K18 (allS (Or.inr s_b1) (allS (Or.inr s_u1_14) all0))).trans K25 (allS (Or.inr s_b1) (allS (Or.inr s_u1_14) all0))).trans K29 all0).trans K30 (allS (Or.inr s_b1) (allS (Or.inr s_u1_14) all0))).trans K36 all0), u1_36, u2_36, _, rfl, f36_3, f36_4.len (congrArg Int32.toNatClampNeg (Int32.sub_zero _)), (snap_of c1 (by rw [shl0]) c3 (by rw [shl0]) (by rw [Int32.sub_zero, c4, c3]) (fun i hi => (cpyi_in (Nat.zero_le _) (by omega)).trans ((show ∀ i, i < 32 → lvi [83, 101, 109, 97, 112, 104, 111, 114, 101, 66, 117, 108, 107, 104, 101, 97, 100, 83, 110, 97, 112, 115, 104, 111, 116, 91, 108, 105, 109, 105, 116, 61, 0, 0] i = lvi L32 i by decide) i hi)) f14_3 (fun i hi => rfl) f25_2)⟩
  · have s_u1_7 := Nat.le_trans z7 f7_0
    have n_u1_7 := Nat.le_trans nz s_u1_7
    have sf39 := sf10.keep K7 (allS sf10 all0) cv11
    have sf40 := (Safe.new f7_0).keep K7 (allS sf10 all0) cv11
    have cv41 := k.chv
    obtain ⟨_, h38, K38, ⟨g1_38, rfl, f38_0, f38_1, f38_2⟩, k⟩ := (k.callV (w_117 hw) (V_Y18_18_StringBuilder hw) f7_1.exa (R_18_4 hw G f7_1 f7_2 hs13 (own_d20 rfl rfl rfl hs13) (own_d21 rfl rfl rfl hs13) n_u1_7 (nlt o8.lt f7_0) n_b1) D2_16 0 rfl).kv (allS n_b1 (allS n_u1_7 all0)) (Or.inr (allS sf39 (allS sf40 all0)))
    obtain ⟨a42x, b42x, vm42, h42, K42, R42, O42, A42, N42, k⟩ := k.ldcS (w_139 hw) (strAt hw) (List.mem_of_getElem? (i := 1) rfl) lit_139 rfl D2_19
    replace A42 : Ary Z h42 b42x ("", .byte) 12 (bv (lvi [44, 32, 97, 118, 97, 105, 108, 97, 98, 108, 101, 61])) := Ary.norm A42 (lv_bi rfl rfl)
    have o44 := f38_0.keep K42 nin0
    have o45 := f38_1.keep K42 nin0
    have sf46 := R42.safe f38_0.lt (sf39.keep K38 (allS sf39 (allS sf40 all0)) cv41)
    have cv47 := k.chv
    have z43 := k.sz
    obtain ⟨_, h43, K43, ⟨u1_43, rfl, f43_0, f43_1, f43_2⟩, k⟩ := (k.callV (w_44 hw) (V_Y5_5_StringBuilder hw) o44.exa (R_5_4 hw G O42 A42 o44 o45 (own_d22 rfl rfl rfl rfl rfl hs13) (own_d23 rfl rfl rfl rfl rfl rfl hs13) n_b1 (own_d24 rfl rfl rfl rfl hs13) (own_d25 rfl rfl rfl rfl hs13) (Ne.symm (N42 _ (R42.safe f38_0.lt (sf39.keep K38 (allS sf39 (allS sf40 all0)) cv41))).1) (Ne.symm (N42 _ (R42.safe f38_0.lt (sf39.keep K38 (allS sf39 (allS sf40 all0)) cv41))).2)) D2_21 0 rfl).kv (allS n_b1 all0) (Or.inr (allS sf46 all0))
    replace k := k |>.aloadN D2_24 rfl rfl
    have o48 := ((o12.keep K38 (ninS (nlt O.lt s_b1) (ninS (nlt O.lt s_u1_7) nin0))).keep K42 nin0).keep K43 (ninS (nlt O.lt s_b1) nin0)
    replace k := k |>.getF (fl_11 hw) o48 1 D2_25 rfl rfl
    have s_u1_43 := Nat.le_trans z43 f43_0
    have n_u1_43 := Nat.le_trans nz s_u1_43
    have sf50 := sf46.keep K43 (allS sf46 all0) cv47
    have sf51 := (Safe.new f43_0).keep K43 (allS sf46 all0) cv47
    have cv52 := k.chv
    obtain ⟨_, h49, K49, ⟨g1_49, rfl, f49_0, f49_1, f49_2⟩, k⟩ := (k.callV (w_117 hw) (V_Y18_18_StringBuilder hw) f43_1.exa (R_18_3 hw G f43_1 f43_2 (own_d26 rfl rfl rfl rfl rfl rfl rfl hs13) (own_d27 rfl rfl rfl rfl rfl rfl hs13) (own_d28 rfl rfl rfl rfl rfl rfl hs13) n_u1_43 (nlt o44.lt f43_0) n_b1) D2_28 0 rfl).kv (allS n_b1 (allS n_u1_43 all0)) (Or.inr (allS sf50 (allS sf51 all0)))
    obtain ⟨a53x, b53x, vm53, h53, K53, R53, O53, A53, N53, k⟩ := k.ldcS (w_140 hw) (strAt hw) (List.mem_of_getElem? (i := 2) rfl) lit_140 rfl D2_31
    replace A53 : Ary Z h53 b53x ("", .byte) 1 (bv (lvi [93])) := Ary.norm A53 (lv_bi rfl rfl)
    have o55 := f49_0.keep K53 nin0
    have o56 := f49_1.keep K53 nin0
    have sf57 := R53.safe f49_0.lt (sf50.keep K49 (allS sf50 (allS sf51 all0)) cv52)
    have sf58 := R53.safe f49_1.lt (sf51.keep K49 (allS sf50 (allS sf51 all0)) cv52)
    obtain ⟨_, h54, K54, ⟨rfl, f54_0, f54_1⟩, k⟩ := (k.callV (w_44 hw) (V_Y5_5_StringBuilder hw) o55.exa (R_5_3 hw G O53 A53 o55 o56 (own_d29 rfl rfl rfl rfl rfl rfl rfl rfl hs13) n_u1_43 (own_d30 rfl rfl rfl rfl rfl rfl rfl hs13) (own_d31 rfl rfl rfl rfl rfl rfl rfl hs13) (nlt o44.lt f43_0) n_b1) D2_33 0 rfl).kv (allS n_b1 (allS n_u1_43 all0)) (Or.inr (allS sf57 (allS sf58 all0)))
    obtain ⟨_, h60, K60, ⟨u1_60, u2_60, rfl, f60_0, f60_1, f60_2, f60_3, f60_4⟩, k⟩ := (k.callV (w_141 hw) (V_Y21_21_StringBuilder hw) f54_0.exa (R_21_1 hw G f54_0 f54_1 (own_d32 rfl rfl rfl rfl rfl rfl rfl hs13) (own_d33 rfl rfl rfl rfl rfl rfl rfl hs13) (own_d34 rfl rfl rfl rfl rfl rfl rfl rfl hs13) (own_d35 rfl rfl rfl rfl rfl rfl rfl rfl hs13) (own_d36 rfl rfl rfl rfl rfl rfl rfl rfl hs13) (own_d37 rfl rfl rfl rfl rfl rfl rfl rfl hs13) (own_d38 rfl rfl rfl rfl rfl rfl rfl rfl hs13)) D2_36 0 rfl).kv all0 (Or.inr all0)
    obtain ⟨⟨c1, c2, c3, c4⟩, -⟩ := snap_pos (p1 := p1) (p2 := p2) rfl rfl rfl rfl rfl rfl
    have u1 : _ := nz_int (p := p1) rfl
    have m0 : _ := ng34 rfl hs13
    exact k.retA D2_39 rfl ⟨_, rfl, ((((((((((K1.trans K3 (allS (Or.inr s_b1) all0)).trans K6 all0).trans K7 (allS (Or.inr s_b1) all0)).trans K38 (allS (Or.inr s_b1) (allS (Or.inr s_u1_7) all0))).trans K42 all0).trans K43 (allS (Or.inr s_b1) all0)).trans K49 (allS (Or.inr s_b1) (allS (Or.inr s_u1_43) all0))).trans K53 all0).trans K54 (allS (Or.inr s_b1) (allS (Or.inr s_u1_43) all0))).trans K60 all0), u1_60, u2_60, _, rfl, f60_3, f60_4.len (congrArg Int32.toNatClampNeg (Int32.sub_zero _)), (snap_of c1 (by rw [shl0]) c3 (by rw [shl0]) (by rw [Int32.sub_zero, c4, c3]) (show ∀ i, i < 32 → lvi [83, 101, 109, 97, 112, 104, 111, 114, 101, 66, 117, 108, 107, 104, 101, 97, 100, 83, 110, 97, 112, 115, 104, 111, 116, 91, 108, 105, 109, 105, 116, 61, 0, 0] i = lvi L32 i by decide) f38_2 (fun i hi => cpyi_in (Nat.zero_le _) (by omega)) f49_2)⟩
abbrev Y30 : MethodName := ⟨"java/lang/String", "charAt", "(I)C"⟩
abbrev J30 := jdk_42_method_56_code
abbrev C30 : Cond := .code Y30 J30 2 (some .char)
theorem D30_0 : Dc J30 0 (.aload_n 0) 1 1 := by decide +kernel
theorem D30_1 : Dc J30 1 (.invokevirtual 492) 3 4 := by decide +kernel
abbrev Y31 : MethodName := ⟨"java/lang/String", "isLatin1", "()Z"⟩
abbrev J31 := jdk_42_method_154_code
abbrev C31 : Cond := .code Y31 J31 1 (some .boolean)
theorem D31_0 : Dc J31 0 (.getstatic 38) 3 3 := by decide +kernel
theorem D31_3 : Dj J31 3 (.ifCond .eq 14) 14 6 17 := by decide +kernel
theorem D31_6 : Dc J31 6 (.aload_n 0) 1 7 := by decide +kernel
theorem D31_7 : Dc J31 7 (.getfield 15) 3 10 := by decide +kernel
theorem D31_10 : Dj J31 10 (.ifCond .ne 7) 7 13 17 := by decide +kernel
theorem D31_13 : Dc J31 13 (.iconst 1) 1 14 := by decide +kernel
theorem D31_14 : Dj J31 14 (.goto 4) 4 17 18 := by decide +kernel
theorem D31_18 : Dc J31 18 .ireturn 1 19 := by decide +kernel
theorem PN31 : plainFor Y31 = true := plainFor_of_name pn_String
theorem R_31_1 {a1 a2 : Addr} (hw : HW a0 Z) (G : Gl Z w_CS w_SF w_DO w_DT w_fO w_fT) (pr1 : Obj Z h0 a1 litL [.ref a2, .int 0]) : Mt false [] l Y31 C31 (rmk 0 0 0 0) #[.ref a1] Z a0 h0 n0 (Pv h0 (.int 1)) := by
  refine Mt.go PN31 (Or.inl rfl) ef_R_1 fun k => ?_
  replace k := k |>.getS (fl_65 hw) G.S_CS D31_0 |>.ifNo D31_3 ((if0 _ _).trans (feq G.h_CS).1) |>.aloadN D31_6 rfl rfl |>.getF (fl_66 hw) pr1 1 D31_7 rfl rfl |>.ifNo D31_10  |>.iconst D31_13 1 |>.goto D31_14
  exact k.retN (t := .boolean) D31_18 rfl (by simp) (z' := 1) (by decide) ⟨rfl, rfl⟩
abbrev w_209 (hw : HW a0 Z) := hw.at 209 rfl
abbrev w_213 (hw : HW a0 Z) := hw.at 213 rfl
abbrev w_212 (hw : HW a0 Z) := hw.at 212 rfl
abbrev w_211 (hw : HW a0 Z) := hw.at 211 rfl
abbrev w_210 (hw : HW a0 Z) := hw.at 210 rfl
theorem V_Y31_31_String (hw : HW a0 Z) : VC Z a0 Y31 Y31 "java/lang/String" C31 1 (some .boolean) 0 := ⟨(w_210 hw), fun s hZ => notFace_of_selects (args := #[]) (mvT hZ (w_212 hw)), (w_212 hw), (w_211 hw), by decide, rfl, ⟨⟨_, Or.inl rfl⟩, (w_213 hw), (w_32 hw), by decide, _, _, pd__r_Z, rfl⟩⟩
theorem D30_4 : Dj J30 4 (.ifCond .eq 12) 12 7 16 := by decide +kernel
theorem D30_7 : Dc J30 7 (.aload_n 0) 1 8 := by decide +kernel
theorem D30_8 : Dc J30 8 (.getfield 9) 3 11 := by decide +kernel
theorem D30_11 : Dc J30 11 (.iload_n 1) 1 12 := by decide +kernel
theorem D30_12 : Dc J30 12 (.invokestatic 495) 3 15 := by decide +kernel
abbrev Y32 : MethodName := ⟨"java/lang/StringLatin1", "charAt", "([BI)C"⟩
abbrev J32 := jdk_43_method_2_code
abbrev C32 : Cond := .code Y32 J32 2 (some .char)
theorem D32_0 : Dc J32 0 (.iload_n 1) 1 1 := by decide +kernel
theorem D32_1 : Dc J32 1 (.aload_n 0) 1 2 := by decide +kernel
theorem D32_2 : Dc J32 2 .arraylength 1 3 := by decide +kernel
theorem own_d39 {p1 vN : Int32} (hq0 : ¬ (p1 < 0)) (hq1 : p1 < vN) (hq2 : vN < 1000) : ¬ (vN < 0) := by
  have := rng32 p1
  have : (0 : Int32).toInt = 0 := by decide
  have := i_nlt hq0
  have := rng32 vN
  have := i_lt hq1
  have : (1000 : Int32).toInt = 1000 := by decide
  have := i_lt hq2
  exact o_nlt (by omega)
theorem D32_3 : Dc J32 3 (.invokestatic 9) 3 6 := by decide +kernel
abbrev Y33 : MethodName := ⟨"java/lang/String", "checkIndex", "(II)V"⟩
abbrev J33 := jdk_42_method_155_code
abbrev C33 : Cond := .code Y33 J33 2 none
theorem D33_0 : Dc J33 0 (.iload_n 0) 1 1 := by decide +kernel
theorem D33_1 : Dc J33 1 (.iload_n 1) 1 2 := by decide +kernel
theorem D33_2 : Dc J33 2 (.getstatic 1053) 3 5 := by decide +kernel
abbrev w_220 (hw : HW a0 Z) := hw.at 220 rfl
theorem fl_220 (hw : HW a0 Z) : FL Z a0 "java/lang/String" 1053 "jdk/internal/util/Preconditions" "SIOOBE_FORMATTER" "Ljava/util/function/BiFunction;" := ⟨_, "", Or.inl (w_220 hw), Via.refl⟩
theorem D33_5 : Dc J33 5 (.invokestatic 1059) 3 8 := by decide +kernel
abbrev Y34 : MethodName := ⟨"jdk/internal/util/Preconditions", "checkIndex", "(IILjava/util/function/BiFunction;)I"⟩
abbrev J34 := jdk_41_method_11_code
abbrev C34 : Cond := .code Y34 J34 3 (some .int)
theorem D34_0 : Dc J34 0 (.iload_n 0) 1 1 := by decide +kernel
theorem D34_1 : Dj J34 1 (.ifCond .lt 8) 8 4 9 := by decide +kernel
theorem D34_4 : Dc J34 4 (.iload_n 0) 1 5 := by decide +kernel
theorem D34_5 : Dc J34 5 (.iload_n 1) 1 6 := by decide +kernel
theorem D34_6 : Dj J34 6 (.if_icmp .lt 10) 10 9 16 := by decide +kernel
theorem D34_16 : Dc J34 16 (.iload_n 0) 1 17 := by decide +kernel
theorem D34_17 : Dc J34 17 .ireturn 1 18 := by decide +kernel
theorem pn_Preconditions : plainName "jdk/internal/util/Preconditions" = true := by first | (simp [plainName, overriddenIn]; done) | decide +kernel
theorem PN34 : plainFor Y34 = true := plainFor_of_name pn_Preconditions
theorem ef_IIV_3 {x0 : Int32} {x1 : Int32} {x2 : Value} (r2 : x2.isRef = true) (m : MethodId) : entryFrame m #[(.int x0), (.int x1), x2] 3 = mkF m 0 #[.val (.int x0), .val (.int x1), .val x2] [] := by
  rcases ref_cases r2 with rfl | ⟨_, rfl⟩
  all_goals
  first | (simp [entryFrame, mkF, argsToLocals, Value.category]; done) | rfl
theorem R_34_1 {p1 p2 : Int32} (hw : HW a0 Z) (G : Gl Z w_CS w_SF w_DO w_DT w_fO w_fT) (pr1 : ¬ (p1 < 0)) (pr2 : p1 < p2) : Mt false [] l Y34 C34 (rmk 0 0 0 0) #[.int p1, .int p2, w_SF] Z a0 h0 n0 (Pv h0 (.int p1)) := by
  refine Mt.go PN34 (Or.inl rfl) (ef_IIV_3 G.r_SF) fun k => ?_
  replace k := k |>.iloadN D34_0 rfl |>.ifNo D34_1 ((if0 _ _).trans (flt pr1).1) |>.iloadN D34_4 rfl |>.iloadN D34_5 rfl |>.icmpYes D34_6 (tlt pr2).1 |>.iloadN D34_16 rfl
  exact k.retI D34_17 rfl ⟨rfl, rfl⟩
abbrev w_222 (hw : HW a0 Z) := hw.at 222 rfl
abbrev w_224 (hw : HW a0 Z) := hw.at 224 rfl
abbrev w_221 (hw : HW a0 Z) := hw.at 221 rfl
theorem pd_IILjava_util_function_BiFunction_r_I : parseMethodDescriptor "(IILjava/util/function/BiFunction;)I" = some ⟨[.int, .int, (.object "java/util/function/BiFunction")], some .int⟩ := by decide +kernel
abbrev w_223 (hw : HW a0 Z) := hw.at 223 rfl
theorem S34 (hw : HW a0 Z) : SC Z a0 Y34 C34 3 (some .int) 3 := ⟨(w_223 hw), ⟨⟨_, Or.inl rfl⟩, (w_224 hw), (w_221 hw), by decide, _, _, pd_IILjava_util_function_BiFunction_r_I, rfl⟩⟩
theorem D33_8 : Dc J33 8 .pop 1 9 := by decide +kernel
theorem D33_9 : Dc J33 9 .return_ 1 10 := by decide +kernel
theorem PN33 : plainFor Y33 = true := plainFor_of_name pn_String
theorem R_33_1 {p1 p2 : Int32} (hw : HW a0 Z) (G : Gl Z w_CS w_SF w_DO w_DT w_fO w_fT) (pr1 : ¬ (p1 < 0)) (pr2 : p1 < p2) : Mt false [] l Y33 C33 (rmk 1 0 0 14) #[.int p1, .int p2] Z a0 h0 n0 (P0 h0) := by
  refine Mt.go PN33 (Or.inl rfl) ef_II_2 fun k => ?_
  replace k := k |>.iloadN D33_0 rfl |>.iloadN D33_1 rfl |>.getS (fl_220 hw) G.S_SF D33_2
  replace k := (k.callS (w_222 hw) (S34 hw) (R_34_1 hw G pr1 pr2) D33_5 0 rfl).pv
  replace k := k |>.pop D33_8 rfl
  exact k.ret0 D33_9 rfl ⟨rfl, rfl⟩
abbrev w_217 (hw : HW a0 Z) := hw.at 217 rfl
abbrev w_219 (hw : HW a0 Z) := hw.at 219 rfl
abbrev w_218 (hw : HW a0 Z) := hw.at 218 rfl
theorem S33 (hw : HW a0 Z) : SC Z a0 Y33 C33 2 none 2 := ⟨(w_218 hw), ⟨⟨_, Or.inl rfl⟩, (w_219 hw), (w_32 hw), by decide, _, _, pd_II_r_V, rfl⟩⟩
theorem D32_6 : Dc J32 6 (.aload_n 0) 1 7 := by decide +kernel
theorem D32_7 : Dc J32 7 (.iload_n 1) 1 8 := by decide +kernel
theorem D32_8 : Dc J32 8 .baload 1 9 := by decide +kernel
theorem D32_9 : Dc J32 9 (.sipush 255) 3 12 := by decide +kernel
theorem D32_12 : Dc J32 12 .iand 1 13 := by decide +kernel
theorem D32_13 : Dc J32 13 .i2c 1 14 := by decide +kernel
theorem D32_14 : Dc J32 14 .ireturn 1 15 := by decide +kernel
theorem pn_StringLatin1 : plainName "java/lang/StringLatin1" = true := by first | (simp [plainName, overriddenIn]; done) | decide +kernel
theorem PN32 : plainFor Y32 = true := plainFor_of_name pn_StringLatin1
theorem R_32_1 {a1 : Addr} {p2 p3 : Int32} {f4 : Nat → Int32} (hw : HW a0 Z) (G : Gl Z w_CS w_SF w_DO w_DT w_fO w_fT) (pr1 : Ary Z h0 a1 ATB p3.toNatClampNeg (bv f4)) (pr2 : ¬ (p3 < 0)) (pr3 : ¬ (p2 < 0)) (pr4 : p2 < p3) : Mt false [] l Y32 C32 (rmk 2 0 0 27) #[.ref a1, .int p2] Z a0 h0 n0 (Pv h0 (.int (latc (f4 p2.toNatClampNeg)))) := by
  refine Mt.go PN32 (Or.inl rfl) ef_RI_2 fun k => ?_
  replace k := k |>.iloadN D32_0 rfl |>.aloadN D32_1 rfl rfl |>.alen pr1 D32_2 (lenS pr2)
  replace k := (k.callS (w_217 hw) (S33 hw) (R_33_1 hw G pr3 pr4) D32_3 0 rfl).p0
  replace k := k |>.aloadN D32_6 rfl rfl |>.iloadN D32_7 rfl |>.bald pr1 D32_8 (i := p2.toNatClampNeg) (ixS pr3 pr4 rfl) bv_at |>.sipush D32_9 255 |>.iand D32_12 rfl |>.i2c D32_13 rfl
  exact k.retN (t := .char) D32_14 rfl (by simp) (own_nnCi2c _) ⟨rfl, rfl⟩
abbrev w_214 (hw : HW a0 Z) := hw.at 214 rfl
abbrev w_216 (hw : HW a0 Z) := hw.at 216 rfl
abbrev w_187 (hw : HW a0 Z) := hw.at 187 rfl
theorem pd_ABI_r_C : parseMethodDescriptor "([BI)C" = some ⟨[(.array .byte), .int], some .char⟩ := by decide +kernel
abbrev w_215 (hw : HW a0 Z) := hw.at 215 rfl
theorem S32 (hw : HW a0 Z) : SC Z a0 Y32 C32 2 (some .char) 2 := ⟨(w_215 hw), ⟨⟨_, Or.inl rfl⟩, (w_216 hw), (w_187 hw), by decide, _, _, pd_ABI_r_C, rfl⟩⟩
theorem D30_15 : Dc J30 15 .ireturn 1 16 := by decide +kernel
theorem PN30 : plainFor Y30 = true := plainFor_of_name pn_String
theorem R_chr {a1 a2 : Addr} {p1 vN : Int32} {f1 : Nat → Int32} (hw : HW a0 Z) (G : Gl Z w_CS w_SF w_DO w_DT w_fO w_fT) (O : Obj Z h0 a1 litL [.ref a2, .int 0]) (A : Ary Z h0 a2 ATB vN.toNatClampNeg (bv f1)) (x1 : ¬ (p1 < 0)) (x2 : p1 < vN) (x3 : vN < 1000) : Mt false [] l Y30 C30 (rmk 3 0 0 40) #[.ref a1, .int p1] Z a0 h0 n0 (Pv h0 (.int (latc (f1 p1.toNatClampNeg)))) := by
  refine Mt.go PN30 (Or.inl rfl) ef_RI_2 fun k => ?_
  replace k := k |>.aloadN D30_0 rfl rfl
  replace k := (k.callV (w_209 hw) (V_Y31_31_String hw) O.exa (R_31_1 hw G O) D30_1 0 rfl).pv
  replace k := k |>.ifNo D30_4  |>.aloadN D30_7 rfl rfl |>.getF (fl_59 hw) O 0 D30_8 rfl rfl |>.iloadN D30_11 rfl
  replace k := (k.callS (w_214 hw) (S32 hw) (R_32_1 hw G A (own_d39 x1 x2 x3) x1 x2) D30_12 0 rfl).pv
  exact k.retN (t := .char) D30_15 rfl (by simp) (own_nnCi2c _) ⟨rfl, rfl⟩
theorem mg1 {q : Int64} (n : ¬ (q < 0)) (b : q < 10) : (1 : Int32) = mag q := by
  have := j_nlt n
  have := j_lt b
  have : (10 : Int64).toInt = 10 := rfl
  have : (10 : Nat) ^ 0 = 1 := rfl
  have : (10 : Nat) ^ (0 + 1) = 10 := rfl
  unfold mag
  rw [nd_eq 0 q.toInt.toNat (Or.inl rfl) (by omega)]
  rfl
theorem mg2 {q : Int64} (n : ¬ (q < 0)) (a : ¬ (q < 10)) (b : q < 100) : (2 : Int32) = mag q := by
  have := j_nlt a
  have : (10 : Int64).toInt = 10 := rfl
  have := j_lt b
  have : (100 : Int64).toInt = 100 := rfl
  have : (10 : Nat) ^ 1 = 10 := rfl
  have : (10 : Nat) ^ (1 + 1) = 100 := rfl
  unfold mag
  rw [nd_eq 1 q.toInt.toNat (Or.inr (by omega)) (by omega)]
  rfl
theorem mg3 {q : Int64} (n : ¬ (q < 0)) (a : ¬ (q < 100)) (b : q < 1000) : (3 : Int32) = mag q := by
  have := j_nlt a
  have : (100 : Int64).toInt = 100 := rfl
  have := j_lt b
  have : (1000 : Int64).toInt = 1000 := rfl
  have : (10 : Nat) ^ 2 = 100 := rfl
  have : (10 : Nat) ^ (2 + 1) = 1000 := rfl
  unfold mag
  rw [nd_eq 2 q.toInt.toNat (Or.inr (by omega)) (by omega)]
  rfl
theorem mg4 {q : Int64} (n : ¬ (q < 0)) (a : ¬ (q < 1000)) (b : q < 10000) : (4 : Int32) = mag q := by
  have := j_nlt a
  have : (1000 : Int64).toInt = 1000 := rfl
  have := j_lt b
  have : (10000 : Int64).toInt = 10000 := rfl
  have : (10 : Nat) ^ 3 = 1000 := rfl
  have : (10 : Nat) ^ (3 + 1) = 10000 := rfl
  unfold mag
  rw [nd_eq 3 q.toInt.toNat (Or.inr (by omega)) (by omega)]
  rfl
theorem mg5 {q : Int64} (n : ¬ (q < 0)) (a : ¬ (q < 10000)) (b : q < 100000) : (5 : Int32) = mag q := by
  have := j_nlt a
  have : (10000 : Int64).toInt = 10000 := rfl
  have := j_lt b
  have : (100000 : Int64).toInt = 100000 := rfl
  have : (10 : Nat) ^ 4 = 10000 := rfl
  have : (10 : Nat) ^ (4 + 1) = 100000 := rfl
  unfold mag
  rw [nd_eq 4 q.toInt.toNat (Or.inr (by omega)) (by omega)]
  rfl
theorem mg6 {q : Int64} (n : ¬ (q < 0)) (a : ¬ (q < 100000)) (b : q < 1000000) : (6 : Int32) = mag q := by
  have := j_nlt a
  have : (100000 : Int64).toInt = 100000 := rfl
  have := j_lt b
  have : (1000000 : Int64).toInt = 1000000 := rfl
  have : (10 : Nat) ^ 5 = 100000 := rfl
  have : (10 : Nat) ^ (5 + 1) = 1000000 := rfl
  unfold mag
  rw [nd_eq 5 q.toInt.toNat (Or.inr (by omega)) (by omega)]
  rfl
theorem mg7 {q : Int64} (n : ¬ (q < 0)) (a : ¬ (q < 1000000)) (b : q < 10000000) : (7 : Int32) = mag q := by
  have := j_nlt a
  have : (1000000 : Int64).toInt = 1000000 := rfl
  have := j_lt b
  have : (10000000 : Int64).toInt = 10000000 := rfl
  have : (10 : Nat) ^ 6 = 1000000 := rfl
  have : (10 : Nat) ^ (6 + 1) = 10000000 := rfl
  unfold mag
  rw [nd_eq 6 q.toInt.toNat (Or.inr (by omega)) (by omega)]
  rfl
theorem mg8 {q : Int64} (n : ¬ (q < 0)) (a : ¬ (q < 10000000)) (b : q < 100000000) : (8 : Int32) = mag q := by
  have := j_nlt a
  have : (10000000 : Int64).toInt = 10000000 := rfl
  have := j_lt b
  have : (100000000 : Int64).toInt = 100000000 := rfl
  have : (10 : Nat) ^ 7 = 10000000 := rfl
  have : (10 : Nat) ^ (7 + 1) = 100000000 := rfl
  unfold mag
  rw [nd_eq 7 q.toInt.toNat (Or.inr (by omega)) (by omega)]
  rfl
theorem mg9 {q : Int64} (n : ¬ (q < 0)) (a : ¬ (q < 100000000)) (b : q < 1000000000) : (9 : Int32) = mag q := by
  have := j_nlt a
  have : (100000000 : Int64).toInt = 100000000 := rfl
  have := j_lt b
  have : (1000000000 : Int64).toInt = 1000000000 := rfl
  have : (10 : Nat) ^ 8 = 100000000 := rfl
  have : (10 : Nat) ^ (8 + 1) = 1000000000 := rfl
  unfold mag
  rw [nd_eq 8 q.toInt.toNat (Or.inr (by omega)) (by omega)]
  rfl
theorem mg10 {q : Int64} (n : ¬ (q < 0)) (a : ¬ (q < 1000000000)) (b : q < 10000000000) : (10 : Int32) = mag q := by
  have := j_nlt a
  have : (1000000000 : Int64).toInt = 1000000000 := rfl
  have := j_lt b
  have : (10000000000 : Int64).toInt = 10000000000 := rfl
  have : (10 : Nat) ^ 9 = 1000000000 := rfl
  have : (10 : Nat) ^ (9 + 1) = 10000000000 := rfl
  unfold mag
  rw [nd_eq 9 q.toInt.toNat (Or.inr (by omega)) (by omega)]
  rfl
abbrev Y35 : MethodName := ⟨"com/example/chatham/chatham/pattern/SemaphoreBulkheadSnapshotToStringPinLaw", "magLen", "(J)I"⟩
abbrev J35 := method_3_code
abbrev C35 : Cond := .code Y35 J35 2 (some .int)
theorem D35_0 : Dc J35 0 (.lload_n 0) 1 1 := by decide +kernel
theorem D35_1 : Dc J35 1 (.ldc2_w 50) 3 4 := by decide +kernel
abbrev w_199 (hw : HW a0 Z) := hw.at 199 rfl
theorem D35_4 : Dc J35 4 .lcmp 1 5 := by decide +kernel
theorem D35_5 : Dj J35 5 (.ifCond .ge 5) 5 8 10 := by decide +kernel
theorem D35_8 : Dc J35 8 (.iconst 1) 1 9 := by decide +kernel
theorem D35_9 : Dc J35 9 .ireturn 1 10 := by decide +kernel
theorem D35_10 : Dc J35 10 (.lload_n 0) 1 11 := by decide +kernel
theorem D35_11 : Dc J35 11 (.ldc2_w 52) 3 14 := by decide +kernel
abbrev w_235 (hw : HW a0 Z) := hw.at 235 rfl
theorem D35_14 : Dc J35 14 .lcmp 1 15 := by decide +kernel
theorem D35_15 : Dj J35 15 (.ifCond .ge 5) 5 18 20 := by decide +kernel
theorem D35_18 : Dc J35 18 (.iconst 2) 1 19 := by decide +kernel
theorem D35_19 : Dc J35 19 .ireturn 1 20 := by decide +kernel
theorem D35_20 : Dc J35 20 (.lload_n 0) 1 21 := by decide +kernel
theorem D35_21 : Dc J35 21 (.ldc2_w 54) 3 24 := by decide +kernel
abbrev w_236 (hw : HW a0 Z) := hw.at 236 rfl
theorem D35_24 : Dc J35 24 .lcmp 1 25 := by decide +kernel
theorem D35_25 : Dj J35 25 (.ifCond .ge 5) 5 28 30 := by decide +kernel
theorem D35_28 : Dc J35 28 (.iconst 3) 1 29 := by decide +kernel
theorem D35_29 : Dc J35 29 .ireturn 1 30 := by decide +kernel
theorem D35_30 : Dc J35 30 (.lload_n 0) 1 31 := by decide +kernel
theorem D35_31 : Dc J35 31 (.ldc2_w 56) 3 34 := by decide +kernel
abbrev w_237 (hw : HW a0 Z) := hw.at 237 rfl
theorem D35_34 : Dc J35 34 .lcmp 1 35 := by decide +kernel
theorem D35_35 : Dj J35 35 (.ifCond .ge 5) 5 38 40 := by decide +kernel
theorem D35_38 : Dc J35 38 (.iconst 4) 1 39 := by decide +kernel
theorem D35_39 : Dc J35 39 .ireturn 1 40 := by decide +kernel
theorem D35_40 : Dc J35 40 (.lload_n 0) 1 41 := by decide +kernel
theorem D35_41 : Dc J35 41 (.ldc2_w 58) 3 44 := by decide +kernel
abbrev w_238 (hw : HW a0 Z) := hw.at 238 rfl
theorem D35_44 : Dc J35 44 .lcmp 1 45 := by decide +kernel
theorem D35_45 : Dj J35 45 (.ifCond .ge 5) 5 48 50 := by decide +kernel
theorem D35_48 : Dc J35 48 (.iconst 5) 1 49 := by decide +kernel
theorem D35_49 : Dc J35 49 .ireturn 1 50 := by decide +kernel
theorem D35_50 : Dc J35 50 (.lload_n 0) 1 51 := by decide +kernel
theorem D35_51 : Dc J35 51 (.ldc2_w 60) 3 54 := by decide +kernel
abbrev w_239 (hw : HW a0 Z) := hw.at 239 rfl
theorem D35_54 : Dc J35 54 .lcmp 1 55 := by decide +kernel
theorem D35_55 : Dj J35 55 (.ifCond .ge 6) 6 58 61 := by decide +kernel
theorem D35_58 : Dc J35 58 (.bipush 6) 2 60 := by decide +kernel
theorem D35_60 : Dc J35 60 .ireturn 1 61 := by decide +kernel
theorem D35_61 : Dc J35 61 (.lload_n 0) 1 62 := by decide +kernel
theorem D35_62 : Dc J35 62 (.ldc2_w 62) 3 65 := by decide +kernel
abbrev w_240 (hw : HW a0 Z) := hw.at 240 rfl
theorem D35_65 : Dc J35 65 .lcmp 1 66 := by decide +kernel
theorem D35_66 : Dj J35 66 (.ifCond .ge 6) 6 69 72 := by decide +kernel
theorem D35_69 : Dc J35 69 (.bipush 7) 2 71 := by decide +kernel
theorem D35_71 : Dc J35 71 .ireturn 1 72 := by decide +kernel
theorem D35_72 : Dc J35 72 (.lload_n 0) 1 73 := by decide +kernel
theorem D35_73 : Dc J35 73 (.ldc2_w 64) 3 76 := by decide +kernel
abbrev w_241 (hw : HW a0 Z) := hw.at 241 rfl
theorem D35_76 : Dc J35 76 .lcmp 1 77 := by decide +kernel
theorem D35_77 : Dj J35 77 (.ifCond .ge 6) 6 80 83 := by decide +kernel
theorem D35_80 : Dc J35 80 (.bipush 8) 2 82 := by decide +kernel
theorem D35_82 : Dc J35 82 .ireturn 1 83 := by decide +kernel
theorem D35_83 : Dc J35 83 (.lload_n 0) 1 84 := by decide +kernel
theorem D35_84 : Dc J35 84 (.ldc2_w 66) 3 87 := by decide +kernel
abbrev w_242 (hw : HW a0 Z) := hw.at 242 rfl
theorem D35_87 : Dc J35 87 .lcmp 1 88 := by decide +kernel
theorem D35_88 : Dj J35 88 (.ifCond .ge 6) 6 91 94 := by decide +kernel
theorem D35_91 : Dc J35 91 (.bipush 9) 2 93 := by decide +kernel
theorem D35_93 : Dc J35 93 .ireturn 1 94 := by decide +kernel
theorem D35_94 : Dc J35 94 (.bipush 10) 2 96 := by decide +kernel
theorem D35_96 : Dc J35 96 .ireturn 1 97 := by decide +kernel
theorem pn_SemaphoreBulkheadSnapshotToStringPinLaw : plainName "com/example/chatham/chatham/pattern/SemaphoreBulkheadSnapshotToStringPinLaw" = true := by first | (simp [plainName, overriddenIn]; done) | decide +kernel
theorem PN35 : plainFor Y35 = true := plainFor_of_name pn_SemaphoreBulkheadSnapshotToStringPinLaw
theorem ef_J_2 {x0 : Int64}  (m : MethodId) : entryFrame m #[(.long x0)] 2 = mkF m 0 #[.val (.long x0), .second] [] := by
  first | (simp [entryFrame, mkF, argsToLocals, Value.category]; done) | rfl
theorem R_mg {q1 : Int64} (hw : HW a0 Z) (G : Gl Z w_CS w_SF w_DO w_DT w_fO w_fT) (hn : ¬ (q1 < 0)) (hb : q1 < 10000000000) : Mt false [] l Y35 C35 (rmk 0 0 0 0) #[.long q1] Z a0 h0 n0 (Pv h0 (.int (mag q1))) := by
  refine Mt.go PN35 (Or.inl rfl) ef_J_2 fun k => ?_
  replace k := k |>.lloadN D35_0 rfl |>.ldcJ (w_199 hw) D35_1 |>.lcmp D35_4
  by_cases hc5_1 : q1 < 10
  · replace k := k |>.ifNo D35_5 ((if0 _ _).trans (tlt ((lw_lt _ _).mpr hc5_1)).2.1) |>.iconst D35_8 1
    exact k.retI D35_9 rfl ⟨congrArg some (congrArg Value.int (mg1 hn hc5_1)), rfl⟩
  · replace k := k |>.ifYes D35_5 ((if0 _ _).trans (flt (fun q => hc5_1 ((lw_lt _ _).mp q))).2.1) |>.lloadN D35_10 rfl |>.ldcJ (w_235 hw) D35_11 |>.lcmp D35_14
    by_cases hc15_2 : q1 < 100
    · replace k := k |>.ifNo D35_15 ((if0 _ _).trans (tlt ((lw_lt _ _).mpr hc15_2)).2.1) |>.iconst D35_18 2
      exact k.retI D35_19 rfl ⟨congrArg some (congrArg Value.int (mg2 hn hc5_1 hc15_2)), rfl⟩
    · replace k := k |>.ifYes D35_15 ((if0 _ _).trans (flt (fun q => hc15_2 ((lw_lt _ _).mp q))).2.1) |>.lloadN D35_20 rfl |>.ldcJ (w_236 hw) D35_21 |>.lcmp D35_24
      by_cases hc25_3 : q1 < 1000
      · replace k := k |>.ifNo D35_25 ((if0 _ _).trans (tlt ((lw_lt _ _).mpr hc25_3)).2.1) |>.iconst D35_28 3
        exact k.retI D35_29 rfl ⟨congrArg some (congrArg Value.int (mg3 hn hc15_2 hc25_3)), rfl⟩
      · replace k := k |>.ifYes D35_25 ((if0 _ _).trans (flt (fun q => hc25_3 ((lw_lt _ _).mp q))).2.1) |>.lloadN D35_30 rfl |>.ldcJ (w_237 hw) D35_31 |>.lcmp D35_34
        by_cases hc35_4 : q1 < 10000
        · replace k := k |>.ifNo D35_35 ((if0 _ _).trans (tlt ((lw_lt _ _).mpr hc35_4)).2.1) |>.iconst D35_38 4
          exact k.retI D35_39 rfl ⟨congrArg some (congrArg Value.int (mg4 hn hc25_3 hc35_4)), rfl⟩
        · replace k := k |>.ifYes D35_35 ((if0 _ _).trans (flt (fun q => hc35_4 ((lw_lt _ _).mp q))).2.1) |>.lloadN D35_40 rfl |>.ldcJ (w_238 hw) D35_41 |>.lcmp D35_44
          by_cases hc45_5 : q1 < 100000
          · replace k := k |>.ifNo D35_45 ((if0 _ _).trans (tlt ((lw_lt _ _).mpr hc45_5)).2.1) |>.iconst D35_48 5
            exact k.retI D35_49 rfl ⟨congrArg some (congrArg Value.int (mg5 hn hc35_4 hc45_5)), rfl⟩
          · replace k := k |>.ifYes D35_45 ((if0 _ _).trans (flt (fun q => hc45_5 ((lw_lt _ _).mp q))).2.1) |>.lloadN D35_50 rfl |>.ldcJ (w_239 hw) D35_51 |>.lcmp D35_54
            by_cases hc55_6 : q1 < 1000000
            · replace k := k |>.ifNo D35_55 ((if0 _ _).trans (tlt ((lw_lt _ _).mpr hc55_6)).2.1) |>.bipush D35_58 6
              exact k.retI D35_60 rfl ⟨congrArg some (congrArg Value.int (mg6 hn hc45_5 hc55_6)), rfl⟩
            · replace k := k |>.ifYes D35_55 ((if0 _ _).trans (flt (fun q => hc55_6 ((lw_lt _ _).mp q))).2.1) |>.lloadN D35_61 rfl |>.ldcJ (w_240 hw) D35_62 |>.lcmp D35_65
              by_cases hc66_7 : q1 < 10000000
              · replace k := k |>.ifNo D35_66 ((if0 _ _).trans (tlt ((lw_lt _ _).mpr hc66_7)).2.1) |>.bipush D35_69 7
                exact k.retI D35_71 rfl ⟨congrArg some (congrArg Value.int (mg7 hn hc55_6 hc66_7)), rfl⟩
              · replace k := k |>.ifYes D35_66 ((if0 _ _).trans (flt (fun q => hc66_7 ((lw_lt _ _).mp q))).2.1) |>.lloadN D35_72 rfl |>.ldcJ (w_241 hw) D35_73 |>.lcmp D35_76
                by_cases hc77_8 : q1 < 100000000
                · replace k := k |>.ifNo D35_77 ((if0 _ _).trans (tlt ((lw_lt _ _).mpr hc77_8)).2.1) |>.bipush D35_80 8
                  exact k.retI D35_82 rfl ⟨congrArg some (congrArg Value.int (mg8 hn hc66_7 hc77_8)), rfl⟩
                · replace k := k |>.ifYes D35_77 ((if0 _ _).trans (flt (fun q => hc77_8 ((lw_lt _ _).mp q))).2.1) |>.lloadN D35_83 rfl |>.ldcJ (w_242 hw) D35_84 |>.lcmp D35_87
                  by_cases hc88_9 : q1 < 1000000000
                  · replace k := k |>.ifNo D35_88 ((if0 _ _).trans (tlt ((lw_lt _ _).mpr hc88_9)).2.1) |>.bipush D35_91 9
                    exact k.retI D35_93 rfl ⟨congrArg some (congrArg Value.int (mg9 hn hc77_8 hc88_9)), rfl⟩
                  · replace k := k |>.ifYes D35_88 ((if0 _ _).trans (flt (fun q => hc88_9 ((lw_lt _ _).mp q))).2.1) |>.bipush D35_94 10
                    exact k.retI D35_96 rfl ⟨congrArg some (congrArg Value.int (mg10 hn hc88_9 hb)), rfl⟩
abbrev Y36 : MethodName := ⟨"com/example/chatham/chatham/pattern/SemaphoreBulkheadSnapshotToStringPinLaw", "decLen", "(I)I"⟩
abbrev J36 := method_4_code
abbrev C36 : Cond := .code Y36 J36 3 (some .int)
theorem D36_0 : Dc J36 0 (.iload_n 0) 1 1 := by decide +kernel
theorem D36_1 : Dc J36 1 .i2l 1 2 := by decide +kernel
theorem D36_2 : Dc J36 2 (.invokestatic 68) 3 5 := by decide +kernel
abbrev Y37 : MethodName := ⟨"java/lang/Math", "abs", "(J)J"⟩
abbrev J37 := jdk_29_method_61_code
abbrev C37 : Cond := .code Y37 J37 2 (some .long)
theorem D37_0 : Dc J37 0 (.lload_n 0) 1 1 := by decide +kernel
theorem D37_1 : Dc J37 1 (.lconst 0) 1 2 := by decide +kernel
theorem D37_2 : Dc J37 2 .lcmp 1 3 := by decide +kernel
theorem D37_3 : Dj J37 3 (.ifCond .ge 8) 8 6 11 := by decide +kernel
theorem D37_6 : Dc J37 6 (.lload_n 0) 1 7 := by decide +kernel
theorem D37_7 : Dc J37 7 .lneg 1 8 := by decide +kernel
theorem D37_8 : Dj J37 8 (.goto 4) 4 11 12 := by decide +kernel
theorem D37_12 : Dc J37 12 .lreturn 1 13 := by decide +kernel
theorem PN37 : plainFor Y37 = true := Jvm.Free.JP.mathPlain rfl (by decide +kernel)
theorem R_37_2 {q1 : Int64} (hw : HW a0 Z) (G : Gl Z w_CS w_SF w_DO w_DT w_fO w_fT) (pr1 : q1 < 0) : Mt false [] l Y37 C37 (rmk 0 0 0 0) #[.long q1] Z a0 h0 n0 (Pv h0 (.long (-q1))) := by
  refine Mt.go PN37 (Or.inl rfl) ef_J_2 fun k => ?_
  replace k := k |>.lloadN D37_0 rfl |>.lconst D37_1 0 |>.lcmp D37_2 |>.ifNo D37_3 ((if0 _ _).trans (tlt ((lw_lt _ _).mpr pr1)).2.1) |>.lloadN D37_6 rfl |>.lneg D37_7 rfl |>.goto D37_8
  exact k.retJ D37_12 rfl ⟨rfl, rfl⟩
abbrev w_193 (hw : HW a0 Z) := hw.at 193 rfl
abbrev w_195 (hw : HW a0 Z) := hw.at 195 rfl
theorem pd_J_r_J : parseMethodDescriptor "(J)J" = some ⟨[.long], some .long⟩ := by decide +kernel
abbrev w_194 (hw : HW a0 Z) := hw.at 194 rfl
theorem S37 (hw : HW a0 Z) : SC Z a0 Y37 C37 2 (some .long) 1 := ⟨(w_194 hw), ⟨⟨_, Or.inl rfl⟩, (w_195 hw), (w_85 hw), by decide, _, _, pd_J_r_J, rfl⟩⟩
theorem D36_5 : Dc J36 5 (.lstore_n 1) 1 6 := by decide +kernel
theorem D36_6 : Dc J36 6 (.lload_n 1) 1 7 := by decide +kernel
theorem D36_7 : Dc J36 7 (.invokestatic 74) 3 10 := by decide +kernel
theorem own_d40 {p1 : Int32} {v0 v1 : Int64} (e0 : v0 = (p1.toInt64)) (e1 : v1 = (-v0)) (hq0 : v0 < (0 : Int64)) : ¬ (v1 < (0 : Int64)) := by
  have := rng32 p1
  have := e_i2l e0
  have : (0 : Int64).toInt = 0 := by decide
  have := j_lt hq0
  have := e_lneg e1
  exact u_nlt (by omega)
theorem own_d41 {p1 : Int32} {v0 v1 : Int64} (e0 : v0 = (p1.toInt64)) (e1 : v1 = (-v0)) (hq0 : v0 < (0 : Int64)) : v1 < (10000000000 : Int64) := by
  have := rng32 p1
  have := e_i2l e0
  have : (0 : Int64).toInt = 0 := by decide
  have := j_lt hq0
  have := e_lneg e1
  have : (10000000000 : Int64).toInt = 10000000000 := by decide
  exact u_lt (by omega)
abbrev w_196 (hw : HW a0 Z) := hw.at 196 rfl
abbrev w_198 (hw : HW a0 Z) := hw.at 198 rfl
abbrev w_191 (hw : HW a0 Z) := hw.at 191 rfl
theorem pd_J_r_I : parseMethodDescriptor "(J)I" = some ⟨[.long], some .int⟩ := by decide +kernel
abbrev w_197 (hw : HW a0 Z) := hw.at 197 rfl
theorem S35 (hw : HW a0 Z) : SC Z a0 Y35 C35 2 (some .int) 1 := ⟨(w_197 hw), ⟨⟨_, Or.inl rfl⟩, (w_198 hw), (w_191 hw), by decide, _, _, pd_J_r_I, rfl⟩⟩
theorem D36_10 : Dc J36 10 (.iload_n 0) 1 11 := by decide +kernel
theorem D36_11 : Dj J36 11 (.ifCond .ge 7) 7 14 18 := by decide +kernel
theorem own_d42 {p1 : Int32} {v0 : Int64} (e0 : v0 = (p1.toInt64)) (hq0 : v0 < (0 : Int64)) : p1 < 0 := by
  have := rng32 p1
  have := e_i2l e0
  have : (0 : Int64).toInt = 0 := by decide
  have := j_lt hq0
  have : (0 : Int32).toInt = 0 := by decide
  exact o_lt (by omega)
theorem D36_14 : Dc J36 14 (.iconst 1) 1 15 := by decide +kernel
theorem D36_15 : Dj J36 15 (.goto 4) 4 18 19 := by decide +kernel
theorem D36_19 : Dc J36 19 .iadd 1 20 := by decide +kernel
theorem D36_20 : Dc J36 20 .ireturn 1 21 := by decide +kernel
theorem D37_11 : Dc J37 11 (.lload_n 0) 1 12 := by decide +kernel
theorem R_37_3 {q1 : Int64} (hw : HW a0 Z) (G : Gl Z w_CS w_SF w_DO w_DT w_fO w_fT) (pr1 : ¬ (q1 < 0)) : Mt false [] l Y37 C37 (rmk 0 0 0 0) #[.long q1] Z a0 h0 n0 (Pv h0 (.long q1)) := by
  refine Mt.go PN37 (Or.inl rfl) ef_J_2 fun k => ?_
  replace k := k |>.lloadN D37_0 rfl |>.lconst D37_1 0 |>.lcmp D37_2 |>.ifYes D37_3 ((if0 _ _).trans (flt (fun q => pr1 ((lw_lt _ _).mp q))).2.1) |>.lloadN D37_11 rfl
  exact k.retJ D37_12 rfl ⟨rfl, rfl⟩
theorem own_d43 {p1 : Int32} {v0 : Int64} (e0 : v0 = (p1.toInt64)) (hq0 : ¬ (v0 < (0 : Int64))) : v0 < (10000000000 : Int64) := by
  have := rng32 p1
  have := e_i2l e0
  have : (0 : Int64).toInt = 0 := by decide
  have := j_nlt hq0
  have : (10000000000 : Int64).toInt = 10000000000 := by decide
  exact u_lt (by omega)
theorem own_d44 {p1 : Int32} {v0 : Int64} (e0 : v0 = (p1.toInt64)) (hq0 : ¬ (v0 < (0 : Int64))) : ¬ (p1 < 0) := by
  have := rng32 p1
  have := e_i2l e0
  have : (0 : Int64).toInt = 0 := by decide
  have := j_nlt hq0
  have : (0 : Int32).toInt = 0 := by decide
  exact o_nlt (by omega)
theorem D36_18 : Dc J36 18 (.iconst 0) 1 19 := by decide +kernel
theorem PN36 : plainFor Y36 = true := plainFor_of_name pn_SemaphoreBulkheadSnapshotToStringPinLaw
theorem ef_I_3 {x0 : Int32}  (m : MethodId) : entryFrame m #[(.int x0)] 3 = mkF m 0 #[.val (.int x0), .unset, .unset] [] := by
  first | (simp [entryFrame, mkF, argsToLocals, Value.category]; done) | rfl
theorem R_dl {p1 : Int32} (hw : HW a0 Z) (G : Gl Z w_CS w_SF w_DO w_DT w_fO w_fT) : Mt false [] l Y36 C36 (rmk 1 0 0 13) #[.int p1] Z a0 h0 n0 (Pv h0 (.int (ssz p1))) := by
  refine Mt.go PN36 (Or.inl rfl) ef_I_3 fun k => ?_
  replace k := k |>.iloadN D36_0 rfl |>.i2l D36_1 rfl
  by_cases hs1 : (p1.toInt64) < 0
  · replace k := (k.callS (w_193 hw) (S37 hw) (R_37_2 hw G hs1) D36_2 0 rfl).pv
    replace k := k |>.lstoreN D36_5 (Ls' := #[.val (.int p1), .val (.long (-(p1.toInt64))), .second]) rfl |>.lloadN D36_6 rfl
    replace k := (k.callS (w_196 hw) (S35 hw) (R_mg hw G (own_d40 rfl rfl hs1) (own_d41 rfl rfl hs1)) D36_7 0 rfl).pv
    replace k := k |>.iloadN D36_10 rfl |>.ifNo D36_11 ((if0 _ _).trans (tlt (own_d42 rfl hs1)).2.1) |>.iconst D36_14 1 |>.goto D36_15 |>.iadd D36_19 rfl
    exact k.retI D36_20 rfl ⟨congrArg some (congrArg Value.int (dl1 rfl rfl hs1 rfl rfl).1), rfl⟩
  · replace k := (k.callS (w_193 hw) (S37 hw) (R_37_3 hw G hs1) D36_2 0 rfl).pv
    replace k := k |>.lstoreN D36_5 (Ls' := #[.val (.int p1), .val (.long (p1.toInt64)), .second]) rfl |>.lloadN D36_6 rfl
    replace k := (k.callS (w_196 hw) (S35 hw) (R_mg hw G hs1 (own_d43 rfl hs1)) D36_7 0 rfl).pv
    replace k := k |>.iloadN D36_10 rfl |>.ifYes D36_11 ((if0 _ _).trans (flt (own_d44 rfl hs1)).2.1) |>.iconst D36_18 0 |>.iadd D36_19 rfl
    exact k.retI D36_20 rfl ⟨congrArg some (congrArg Value.int (dl0 rfl hs1 rfl rfl).1), rfl⟩
abbrev Y38 : MethodName := ⟨"com/example/chatham/chatham/pattern/SemaphoreBulkheadSnapshotToStringPinLaw", "dig", "(Ljava/lang/String;IJJ)Z"⟩
abbrev J38 := method_5_code
abbrev C38 : Cond := .code Y38 J38 6 (some .boolean)
theorem D38_0 : Dc J38 0 (.aload_n 0) 1 1 := by decide +kernel
theorem D38_1 : Dc J38 1 (.iload_n 1) 1 2 := by decide +kernel
theorem D38_2 : Dc J38 2 (.invokevirtual 46) 3 5 := by decide +kernel
abbrev w_208 (hw : HW a0 Z) := hw.at 208 rfl
theorem pd_I_r_C : parseMethodDescriptor "(I)C" = some ⟨[.int], some .char⟩ := by decide +kernel
abbrev w_207 (hw : HW a0 Z) := hw.at 207 rfl
abbrev w_206 (hw : HW a0 Z) := hw.at 206 rfl
abbrev w_205 (hw : HW a0 Z) := hw.at 205 rfl
theorem V_Y30_30_String (hw : HW a0 Z) : VC Z a0 Y30 Y30 "java/lang/String" C30 2 (some .char) 1 := ⟨(w_205 hw), fun s hZ => notFace_of_selects (args := #[]) (mvT hZ (w_207 hw)), (w_207 hw), (w_206 hw), by decide, rfl, ⟨⟨_, Or.inl rfl⟩, (w_208 hw), (w_32 hw), by decide, _, _, pd_I_r_C, rfl⟩⟩
abbrev w_204 (hw : HW a0 Z) := hw.at 204 rfl
theorem D38_5 : Dc J38 5 (.bipush 48) 2 7 := by decide +kernel
theorem D38_7 : Dc J38 7 (.lload_n 2) 1 8 := by decide +kernel
theorem D38_8 : Dc J38 8 (.lload 4) 2 10 := by decide +kernel
theorem D38_10 : Dc J38 10 .ldiv 1 11 := by decide +kernel
theorem D38_11 : Dc J38 11 (.ldc2_w 50) 3 14 := by decide +kernel
theorem D38_14 : Dc J38 14 .lrem 1 15 := by decide +kernel
theorem D38_15 : Dc J38 15 .l2i 1 16 := by decide +kernel
theorem D38_16 : Dc J38 16 .iadd 1 17 := by decide +kernel
theorem D38_17 : Dc J38 17 .i2c 1 18 := by decide +kernel
theorem D38_18 : Dj J38 18 (.if_icmp .ne 7) 7 21 25 := by decide +kernel
theorem D38_21 : Dc J38 21 (.iconst 1) 1 22 := by decide +kernel
theorem D38_22 : Dj J38 22 (.goto 4) 4 25 26 := by decide +kernel
theorem D38_26 : Dc J38 26 .ireturn 1 27 := by decide +kernel
theorem PN38 : plainFor Y38 = true := plainFor_of_name pn_SemaphoreBulkheadSnapshotToStringPinLaw
theorem ef_RIJJ_6 {x0 : Addr} {x1 : Int32} {x2 : Int64} {x3 : Int64}  (m : MethodId) : entryFrame m #[(.ref x0), (.int x1), (.long x2), (.long x3)] 6 = mkF m 0 #[.val (.ref x0), .val (.int x1), .val (.long x2), .second, .val (.long x3), .second] [] := by
  first | (simp [entryFrame, mkF, argsToLocals, Value.category]; done) | rfl
theorem R_di {a1 a2 : Addr} {vN p1 : Int32} {f1 : Nat → Int32} {q1 q2 : Int64} (hw : HW a0 Z) (G : Gl Z w_CS w_SF w_DO w_DT w_fO w_fT) (O : Obj Z h0 a1 litL [.ref a2, .int 0]) (A : Ary Z h0 a2 ATB vN.toNatClampNeg (bv f1)) (x1 : ¬ (p1 < 0)) (x2 : p1 < vN) (x3 : vN < 1000) (hm : ¬ (q1 < 0)) (ht : 0 < q2) (hz : ¬ (q2 = 0)) (hd : (f1 p1.toNatClampNeg).toInt = 48 + q1.toInt / q2.toInt % 10) : Mt false [] l Y38 C38 (rmk 4 0 0 53) #[.ref a1, .int p1, .long q1, .long q2] Z a0 h0 n0 (Pv h0 (.int 1)) := by
  refine Mt.go PN38 (Or.inl rfl) ef_RIJJ_6 fun k => ?_
  replace k := k |>.aloadN D38_0 rfl rfl |>.iloadN D38_1 rfl
  replace k := (k.callV (w_204 hw) (V_Y30_30_String hw) O.exa (R_chr hw G O A x1 x2 x3) D38_2 0 rfl).pv
  replace k := k |>.bipush D38_5 48 |>.lloadN D38_7 rfl |>.lload D38_8 rfl |>.ldiv D38_10 hz rfl |>.ldcJ (w_199 hw) D38_11 |>.lrem D38_14 (by decide) rfl |>.l2i D38_15 rfl |>.iadd D38_16 rfl |>.i2c D38_17 rfl |>.icmpNo D38_18 (teq (show (latc (f1 p1.toNatClampNeg)) = ((48 + (((q1 / q2) % 10).toInt32)).toUInt32.toUInt16.toUInt32.toInt32) from dig_eq rfl rfl rfl rfl rfl rfl hm ht hd)).2 |>.iconst D38_21 1 |>.goto D38_22
  exact k.retN (t := .boolean) D38_26 rfl (by simp) (z' := 1) (by decide) ⟨rfl, rfl⟩
theorem ssz_pos (p : Int32) : ((0 : Nat) : Int) < (ssz p).toInt := by have := ssz_int p; omega
theorem sub1_pos' {p n s : Int32} (es : s = ssz p) (e : n = s - 1) (h : p < 0) : ((0 : Nat) : Int) < n.toInt := by
  have a := ssz_int p
  rw [← es, sgnI_y h] at a
  have z : (1 : Int32).toInt = 1 := rfl
  have := e_isubN e (by omega)
  omega
theorem sub1_pos {p : Int32} (h : p < 0) : ((0 : Nat) : Int) < (ssz p - 1).toInt := sub1_pos' rfl rfl h
abbrev Y39 : MethodName := ⟨"com/example/chatham/chatham/pattern/SemaphoreBulkheadSnapshotToStringPinLaw", "numOk", "(Ljava/lang/String;II)Z"⟩
abbrev J39 := method_6_code
abbrev C39 : Cond := .code Y39 J39 9 (some .boolean)
theorem D39_0 : Dc J39 0 (.iload_n 2) 1 1 := by decide +kernel
theorem D39_1 : Dc J39 1 .i2l 1 2 := by decide +kernel
theorem D39_2 : Dc J39 2 (.invokestatic 68) 3 5 := by decide +kernel
theorem D39_5 : Dc J39 5 (.lstore_n 3) 1 6 := by decide +kernel
theorem D39_6 : Dc J39 6 (.iload_n 2) 1 7 := by decide +kernel
theorem D39_7 : Dj J39 7 (.ifCond .ge 7) 7 10 14 := by decide +kernel
theorem own_d45 {p2 vN p1 v1 v2 : Int32} {v0 : Int64} (e0 : v0 = (p1.toInt64)) (e1 : v1 = (ssz p1)) (e2 : v2 = (p2 + v1)) (hq0 : ¬ (p2 < 0)) (hq1 : p2 < 1000) (hq2 : vN < 1000) (hq3 : ¬ (vN < v2)) (hq4 : v0 < (0 : Int64)) : p1 < 0 := by
  have := rng32 p2
  have : (0 : Int32).toInt = 0 := by decide
  have := i_nlt hq0
  have : (1000 : Int32).toInt = 1000 := by decide
  have := i_lt hq1
  have := rng32 vN
  have := i_lt hq2
  have := rng32 p1
  have := e_i2l e0
  have : (0 : Int64).toInt = 0 := by decide
  have := j_lt hq4
  have := e_ssz e1
  have := e_iaddN e2 (by omega)
  have := i_nlt hq3
  exact o_lt (by omega)
theorem D39_10 : Dc J39 10 (.iconst 1) 1 11 := by decide +kernel
theorem D39_11 : Dj J39 11 (.goto 4) 4 14 15 := by decide +kernel
theorem D39_15 : Dc J39 15 (.istore 5) 2 17 := by decide +kernel
theorem D39_17 : Dc J39 17 (.iload 5) 2 19 := by decide +kernel
theorem D39_19 : Dj J39 19 (.ifCond .eq 9) 9 22 28 := by decide +kernel
theorem D39_22 : Dc J39 22 (.iload_n 1) 1 23 := by decide +kernel
theorem D39_23 : Dc J39 23 (.iconst 1) 1 24 := by decide +kernel
theorem D39_24 : Dc J39 24 .iadd 1 25 := by decide +kernel
theorem D39_25 : Dj J39 25 (.goto 4) 4 28 29 := by decide +kernel
theorem D39_29 : Dc J39 29 (.istore 6) 2 31 := by decide +kernel
theorem D39_31 : Dc J39 31 (.lload_n 3) 1 32 := by decide +kernel
theorem D39_32 : Dc J39 32 (.invokestatic 74) 3 35 := by decide +kernel
theorem own_d46 {p2 vN p1 v1 v2 : Int32} {v0 v3 : Int64} (e0 : v0 = (p1.toInt64)) (e1 : v1 = (ssz p1)) (e2 : v2 = (p2 + v1)) (e3 : v3 = (-v0)) (hq0 : ¬ (p2 < 0)) (hq1 : p2 < 1000) (hq2 : vN < 1000) (hq3 : ¬ (vN < v2)) (hq4 : v0 < (0 : Int64)) : ¬ (v3 < (0 : Int64)) := by
  have := rng32 p2
  have : (0 : Int32).toInt = 0 := by decide
  have := i_nlt hq0
  have : (1000 : Int32).toInt = 1000 := by decide
  have := i_lt hq1
  have := rng32 vN
  have := i_lt hq2
  have := rng32 p1
  have := e_i2l e0
  have : (0 : Int64).toInt = 0 := by decide
  have := j_lt hq4
  have := e_ssz e1
  have := e_iaddN e2 (by omega)
  have := i_nlt hq3
  have := e_lneg e3
  exact u_nlt (by omega)
theorem own_d47 {p2 vN p1 v1 v2 : Int32} {v0 v3 : Int64} (e0 : v0 = (p1.toInt64)) (e1 : v1 = (ssz p1)) (e2 : v2 = (p2 + v1)) (e3 : v3 = (-v0)) (hq0 : ¬ (p2 < 0)) (hq1 : p2 < 1000) (hq2 : vN < 1000) (hq3 : ¬ (vN < v2)) (hq4 : v0 < (0 : Int64)) : v3 < (10000000000 : Int64) := by
  have := rng32 p2
  have : (0 : Int32).toInt = 0 := by decide
  have := i_nlt hq0
  have : (1000 : Int32).toInt = 1000 := by decide
  have := i_lt hq1
  have := rng32 vN
  have := i_lt hq2
  have := rng32 p1
  have := e_i2l e0
  have : (0 : Int64).toInt = 0 := by decide
  have := j_lt hq4
  have := e_ssz e1
  have := e_iaddN e2 (by omega)
  have := i_nlt hq3
  have := e_lneg e3
  have : (10000000000 : Int64).toInt = 10000000000 := by decide
  exact u_lt (by omega)
theorem D39_35 : Dc J39 35 (.istore 7) 2 37 := by decide +kernel
theorem sto7 {x0 x1 x2 x3 x4 x5 x6 x : Slot} {t : List Slot} {v : Value} (hx : okS x = true := by rfl) (hv : v.category = 1 := by rfl) : storeLocals (List.toArray (x0 :: x1 :: x2 :: x3 :: x4 :: x5 :: x6 :: x :: t)) 7 v = some (List.toArray (x0 :: x1 :: x2 :: x3 :: x4 :: x5 :: x6 :: .val v :: t)) := stoA (A := [x0, x1, x2, x3, x4, x5, x6]) hx hv
theorem D39_37 : Dc J39 37 (.iload 5) 2 39 := by decide +kernel
theorem D39_39 : Dj J39 39 (.ifCond .eq 13) 13 42 52 := by decide +kernel
theorem D39_42 : Dc J39 42 (.aload_n 0) 1 43 := by decide +kernel
theorem D39_43 : Dc J39 43 (.iload_n 1) 1 44 := by decide +kernel
theorem D39_44 : Dc J39 44 (.invokevirtual 46) 3 47 := by decide +kernel
theorem own_d48 {p2 vN p1 v1 v2 : Int32} {v0 : Int64} (e0 : v0 = (p1.toInt64)) (e1 : v1 = (ssz p1)) (e2 : v2 = (p2 + v1)) (hq0 : ¬ (p2 < 0)) (hq1 : p2 < 1000) (hq2 : vN < 1000) (hq3 : ¬ (vN < v2)) (hq4 : v0 < (0 : Int64)) : p2 < vN := by
  have := rng32 p2
  have : (0 : Int32).toInt = 0 := by decide
  have := i_nlt hq0
  have : (1000 : Int32).toInt = 1000 := by decide
  have := i_lt hq1
  have := rng32 vN
  have := i_lt hq2
  have := rng32 p1
  have := e_i2l e0
  have : (0 : Int64).toInt = 0 := by decide
  have := j_lt hq4
  have := e_ssz e1
  have := e_iaddN e2 (by omega)
  have := i_nlt hq3
  exact o_lt (by omega)
theorem D39_47 : Dc J39 47 (.bipush 45) 2 49 := by decide +kernel
theorem D39_49 : Dj J39 49 (.if_icmp .ne 7) 7 52 56 := by decide +kernel
theorem D39_52 : Dc J39 52 (.iconst 1) 1 53 := by decide +kernel
theorem D39_53 : Dj J39 53 (.goto 4) 4 56 57 := by decide +kernel
theorem D39_57 : Dc J39 57 (.istore 8) 2 59 := by decide +kernel
theorem sto8 {x0 x1 x2 x3 x4 x5 x6 x7 x : Slot} {t : List Slot} {v : Value} (hx : okS x = true := by rfl) (hv : v.category = 1 := by rfl) : storeLocals (List.toArray (x0 :: x1 :: x2 :: x3 :: x4 :: x5 :: x6 :: x7 :: x :: t)) 8 v = some (List.toArray (x0 :: x1 :: x2 :: x3 :: x4 :: x5 :: x6 :: x7 :: .val v :: t)) := stoA (A := [x0, x1, x2, x3, x4, x5, x6, x7]) hx hv
theorem D39_59 : Dc J39 59 (.iload 8) 2 61 := by decide +kernel
theorem D39_61 : Dj J39 61 (.ifCond .eq 23) 23 64 84 := by decide +kernel
theorem D39_64 : Dc J39 64 (.aload_n 0) 1 65 := by decide +kernel
theorem D39_65 : Dc J39 65 (.iload 6) 2 67 := by decide +kernel
theorem D39_67 : Dc J39 67 (.iload 7) 2 69 := by decide +kernel
theorem D39_69 : Dc J39 69 .iadd 1 70 := by decide +kernel
theorem D39_70 : Dc J39 70 (.iconst 1) 1 71 := by decide +kernel
theorem D39_71 : Dc J39 71 .isub 1 72 := by decide +kernel
theorem D39_72 : Dc J39 72 (.lload_n 3) 1 73 := by decide +kernel
theorem D39_73 : Dc J39 73 (.lconst 1) 1 74 := by decide +kernel
theorem D39_74 : Dc J39 74 (.invokestatic 78) 3 77 := by decide +kernel
theorem own_d49 {p2 vN p1 v1 v2 v3 v4 v5 v6 : Int32} {v0 : Int64} (e0 : v0 = (p1.toInt64)) (e1 : v1 = (ssz p1)) (e2 : v2 = (p2 + v1)) (e3 : v3 = (p2 + 1)) (e4 : v4 = (v1 - 1)) (e5 : v5 = (v3 + v4)) (e6 : v6 = (v5 - 1)) (hq0 : ¬ (p2 < 0)) (hq1 : p2 < 1000) (hq2 : vN < 1000) (hq3 : ¬ (vN < v2)) (hq4 : v0 < (0 : Int64)) : ¬ (v6 < 0) := by
  have := rng32 p2
  have : (0 : Int32).toInt = 0 := by decide
  have := i_nlt hq0
  have : (1000 : Int32).toInt = 1000 := by decide
  have := i_lt hq1
  have := rng32 vN
  have := i_lt hq2
  have := rng32 p1
  have := e_i2l e0
  have : (0 : Int64).toInt = 0 := by decide
  have := j_lt hq4
  have := e_ssz e1
  have := e_iaddN e2 (by omega)
  have := i_nlt hq3
  have : (1 : Int32).toInt = 1 := by decide
  have := e_iaddN e3 (by omega)
  have := e_isubN e4 (by omega)
  have := e_iaddN e5 (by omega)
  have := e_isubN e6 (by omega)
  exact o_nlt (by omega)
theorem own_d50 {p2 vN p1 v1 v2 v3 v4 v5 v6 : Int32} {v0 : Int64} (e0 : v0 = (p1.toInt64)) (e1 : v1 = (ssz p1)) (e2 : v2 = (p2 + v1)) (e3 : v3 = (p2 + 1)) (e4 : v4 = (v1 - 1)) (e5 : v5 = (v3 + v4)) (e6 : v6 = (v5 - 1)) (hq0 : ¬ (p2 < 0)) (hq1 : p2 < 1000) (hq2 : vN < 1000) (hq3 : ¬ (vN < v2)) (hq4 : v0 < (0 : Int64)) : v6 < vN := by
  have := rng32 p2
  have : (0 : Int32).toInt = 0 := by decide
  have := i_nlt hq0
  have : (1000 : Int32).toInt = 1000 := by decide
  have := i_lt hq1
  have := rng32 vN
  have := i_lt hq2
  have := rng32 p1
  have := e_i2l e0
  have : (0 : Int64).toInt = 0 := by decide
  have := j_lt hq4
  have := e_ssz e1
  have := e_iaddN e2 (by omega)
  have := i_nlt hq3
  have : (1 : Int32).toInt = 1 := by decide
  have := e_iaddN e3 (by omega)
  have := e_isubN e4 (by omega)
  have := e_iaddN e5 (by omega)
  have := e_isubN e6 (by omega)
  exact o_lt (by omega)
abbrev w_228 (hw : HW a0 Z) := hw.at 228 rfl
abbrev w_230 (hw : HW a0 Z) := hw.at 230 rfl
theorem pd_Ljava_lang_StringIJJ_r_Z : parseMethodDescriptor "(Ljava/lang/String;IJJ)Z" = some ⟨[(.object "java/lang/String"), .int, .long, .long], some .boolean⟩ := by decide +kernel
abbrev w_229 (hw : HW a0 Z) := hw.at 229 rfl
theorem S38 (hw : HW a0 Z) : SC Z a0 Y38 C38 6 (some .boolean) 4 := ⟨(w_229 hw), ⟨⟨_, Or.inl rfl⟩, (w_230 hw), (w_191 hw), by decide, _, _, pd_Ljava_lang_StringIJJ_r_Z, rfl⟩⟩
theorem D39_77 : Dj J39 77 (.ifCond .eq 7) 7 80 84 := by decide +kernel
theorem D39_80 : Dc J39 80 (.iconst 1) 1 81 := by decide +kernel
theorem D39_81 : Dj J39 81 (.goto 4) 4 84 85 := by decide +kernel
theorem D39_85 : Dc J39 85 (.istore 8) 2 87 := by decide +kernel
theorem D39_87 : Dc J39 87 (.iload 7) 2 89 := by decide +kernel
theorem D39_89 : Dc J39 89 (.iconst 1) 1 90 := by decide +kernel
theorem D39_90 : Dj J39 90 (.if_icmp .le 33) 33 93 123 := by decide +kernel
theorem D39_93 : Dc J39 93 (.iload 8) 2 95 := by decide +kernel
theorem D39_95 : Dj J39 95 (.ifCond .eq 25) 25 98 120 := by decide +kernel
theorem D39_98 : Dc J39 98 (.aload_n 0) 1 99 := by decide +kernel
theorem D39_99 : Dc J39 99 (.iload 6) 2 101 := by decide +kernel
theorem D39_101 : Dc J39 101 (.iload 7) 2 103 := by decide +kernel
theorem D39_103 : Dc J39 103 .iadd 1 104 := by decide +kernel
theorem D39_104 : Dc J39 104 (.iconst 2) 1 105 := by decide +kernel
theorem D39_105 : Dc J39 105 .isub 1 106 := by decide +kernel
theorem D39_106 : Dc J39 106 (.lload_n 3) 1 107 := by decide +kernel
theorem D39_107 : Dc J39 107 (.ldc2_w 50) 3 110 := by decide +kernel
theorem D39_110 : Dc J39 110 (.invokestatic 78) 3 113 := by decide +kernel
theorem own_d51 {p2 vN p1 v1 v2 v3 v4 v5 v6 : Int32} {v0 : Int64} (e0 : v0 = (p1.toInt64)) (e1 : v1 = (ssz p1)) (e2 : v2 = (v1 - 1)) (e3 : v3 = (p2 + v1)) (e4 : v4 = (p2 + 1)) (e5 : v5 = (v4 + v2)) (e6 : v6 = (v5 - 2)) (hq0 : ¬ (p2 < 0)) (hq1 : p2 < 1000) (hq2 : vN < 1000) (hq3 : ¬ (vN < v3)) (hq4 : v0 < (0 : Int64)) (hq5 : 1 < v2) : ¬ (v6 < 0) := by
  have := rng32 p2
  have : (0 : Int32).toInt = 0 := by decide
  have := i_nlt hq0
  have : (1000 : Int32).toInt = 1000 := by decide
  have := i_lt hq1
  have := rng32 vN
  have := i_lt hq2
  have := rng32 p1
  have := e_i2l e0
  have : (0 : Int64).toInt = 0 := by decide
  have := j_lt hq4
  have : (1 : Int32).toInt = 1 := by decide
  have := e_ssz e1
  have := e_isubN e2 (by omega)
  have := i_lt hq5
  have := e_iaddN e3 (by omega)
  have := i_nlt hq3
  have := e_iaddN e4 (by omega)
  have := e_iaddN e5 (by omega)
  have : (2 : Int32).toInt = 2 := by decide
  have := e_isubN e6 (by omega)
  exact o_nlt (by omega)
theorem own_d52 {p2 vN p1 v1 v2 v3 v4 v5 v6 : Int32} {v0 : Int64} (e0 : v0 = (p1.toInt64)) (e1 : v1 = (ssz p1)) (e2 : v2 = (v1 - 1)) (e3 : v3 = (p2 + v1)) (e4 : v4 = (p2 + 1)) (e5 : v5 = (v4 + v2)) (e6 : v6 = (v5 - 2)) (hq0 : ¬ (p2 < 0)) (hq1 : p2 < 1000) (hq2 : vN < 1000) (hq3 : ¬ (vN < v3)) (hq4 : v0 < (0 : Int64)) (hq5 : 1 < v2) : v6 < vN := by
  have := rng32 p2
  have : (0 : Int32).toInt = 0 := by decide
  have := i_nlt hq0
  have : (1000 : Int32).toInt = 1000 := by decide
  have := i_lt hq1
  have := rng32 vN
  have := i_lt hq2
  have := rng32 p1
  have := e_i2l e0
  have : (0 : Int64).toInt = 0 := by decide
  have := j_lt hq4
  have : (1 : Int32).toInt = 1 := by decide
  have := e_ssz e1
  have := e_isubN e2 (by omega)
  have := i_lt hq5
  have := e_iaddN e3 (by omega)
  have := i_nlt hq3
  have := e_iaddN e4 (by omega)
  have := e_iaddN e5 (by omega)
  have : (2 : Int32).toInt = 2 := by decide
  have := e_isubN e6 (by omega)
  exact o_lt (by omega)
theorem own_d53 {p2 vN p1 v1 v2 v3 : Int32} {v0 v4 : Int64} (e0 : v0 = (p1.toInt64)) (e1 : v1 = (ssz p1)) (e2 : v2 = (v1 - 1)) (e3 : v3 = (p2 + v1)) (e4 : v4 = (-v0)) (hq0 : ¬ (p2 < 0)) (hq1 : p2 < 1000) (hq2 : vN < 1000) (hq3 : ¬ (vN < v3)) (hq4 : v0 < (0 : Int64)) (hq5 : 1 < v2) : ¬ (v4 < (0 : Int64)) := by
  have := rng32 p2
  have : (0 : Int32).toInt = 0 := by decide
  have := i_nlt hq0
  have : (1000 : Int32).toInt = 1000 := by decide
  have := i_lt hq1
  have := rng32 vN
  have := i_lt hq2
  have := rng32 p1
  have := e_i2l e0
  have : (0 : Int64).toInt = 0 := by decide
  have := j_lt hq4
  have : (1 : Int32).toInt = 1 := by decide
  have := e_ssz e1
  have := e_isubN e2 (by omega)
  have := i_lt hq5
  have := e_iaddN e3 (by omega)
  have := i_nlt hq3
  have := e_lneg e4
  exact u_nlt (by omega)
theorem D39_113 : Dj J39 113 (.ifCond .eq 7) 7 116 120 := by decide +kernel
theorem D39_116 : Dc J39 116 (.iconst 1) 1 117 := by decide +kernel
theorem D39_117 : Dj J39 117 (.goto 4) 4 120 121 := by decide +kernel
theorem D39_121 : Dc J39 121 (.istore 8) 2 123 := by decide +kernel
theorem D39_123 : Dc J39 123 (.iload 7) 2 125 := by decide +kernel
theorem D39_125 : Dc J39 125 (.iconst 2) 1 126 := by decide +kernel
theorem D39_126 : Dj J39 126 (.if_icmp .le 33) 33 129 159 := by decide +kernel
theorem D39_129 : Dc J39 129 (.iload 8) 2 131 := by decide +kernel
theorem D39_131 : Dj J39 131 (.ifCond .eq 25) 25 134 156 := by decide +kernel
theorem D39_134 : Dc J39 134 (.aload_n 0) 1 135 := by decide +kernel
theorem D39_135 : Dc J39 135 (.iload 6) 2 137 := by decide +kernel
theorem D39_137 : Dc J39 137 (.iload 7) 2 139 := by decide +kernel
theorem D39_139 : Dc J39 139 .iadd 1 140 := by decide +kernel
theorem D39_140 : Dc J39 140 (.iconst 3) 1 141 := by decide +kernel
theorem D39_141 : Dc J39 141 .isub 1 142 := by decide +kernel
theorem D39_142 : Dc J39 142 (.lload_n 3) 1 143 := by decide +kernel
theorem D39_143 : Dc J39 143 (.ldc2_w 52) 3 146 := by decide +kernel
theorem D39_146 : Dc J39 146 (.invokestatic 78) 3 149 := by decide +kernel
theorem own_d54 {p2 vN p1 v1 v2 v3 v4 v5 v6 : Int32} {v0 : Int64} (e0 : v0 = (p1.toInt64)) (e1 : v1 = (ssz p1)) (e2 : v2 = (v1 - 1)) (e3 : v3 = (p2 + v1)) (e4 : v4 = (p2 + 1)) (e5 : v5 = (v4 + v2)) (e6 : v6 = (v5 - 3)) (hq0 : ¬ (p2 < 0)) (hq1 : p2 < 1000) (hq2 : vN < 1000) (hq3 : ¬ (vN < v3)) (hq4 : v0 < (0 : Int64)) (hq5 : 1 < v2) (hq6 : 2 < v2) : ¬ (v6 < 0) := by
  have := rng32 p2
  have : (0 : Int32).toInt = 0 := by decide
  have := i_nlt hq0
  have : (1000 : Int32).toInt = 1000 := by decide
  have := i_lt hq1
  have := rng32 vN
  have := i_lt hq2
  have := rng32 p1
  have := e_i2l e0
  have : (0 : Int64).toInt = 0 := by decide
  have := j_lt hq4
  have : (1 : Int32).toInt = 1 := by decide
  have := e_ssz e1
  have := e_isubN e2 (by omega)
  have := i_lt hq5
  have : (2 : Int32).toInt = 2 := by decide
  have := i_lt hq6
  have := e_iaddN e3 (by omega)
  have := i_nlt hq3
  have := e_iaddN e4 (by omega)
  have := e_iaddN e5 (by omega)
  have : (3 : Int32).toInt = 3 := by decide
  have := e_isubN e6 (by omega)
  exact o_nlt (by omega)
theorem own_d55 {p2 vN p1 v1 v2 v3 v4 v5 v6 : Int32} {v0 : Int64} (e0 : v0 = (p1.toInt64)) (e1 : v1 = (ssz p1)) (e2 : v2 = (v1 - 1)) (e3 : v3 = (p2 + v1)) (e4 : v4 = (p2 + 1)) (e5 : v5 = (v4 + v2)) (e6 : v6 = (v5 - 3)) (hq0 : ¬ (p2 < 0)) (hq1 : p2 < 1000) (hq2 : vN < 1000) (hq3 : ¬ (vN < v3)) (hq4 : v0 < (0 : Int64)) (hq5 : 1 < v2) (hq6 : 2 < v2) : v6 < vN := by
  have := rng32 p2
  have : (0 : Int32).toInt = 0 := by decide
  have := i_nlt hq0
  have : (1000 : Int32).toInt = 1000 := by decide
  have := i_lt hq1
  have := rng32 vN
  have := i_lt hq2
  have := rng32 p1
  have := e_i2l e0
  have : (0 : Int64).toInt = 0 := by decide
  have := j_lt hq4
  have : (1 : Int32).toInt = 1 := by decide
  have := e_ssz e1
  have := e_isubN e2 (by omega)
  have := i_lt hq5
  have : (2 : Int32).toInt = 2 := by decide
  have := i_lt hq6
  have := e_iaddN e3 (by omega)
  have := i_nlt hq3
  have := e_iaddN e4 (by omega)
  have := e_iaddN e5 (by omega)
  have : (3 : Int32).toInt = 3 := by decide
  have := e_isubN e6 (by omega)
  exact o_lt (by omega)
theorem own_d56 {p2 vN p1 v1 v2 v3 : Int32} {v0 v4 : Int64} (e0 : v0 = (p1.toInt64)) (e1 : v1 = (ssz p1)) (e2 : v2 = (v1 - 1)) (e3 : v3 = (p2 + v1)) (e4 : v4 = (-v0)) (hq0 : ¬ (p2 < 0)) (hq1 : p2 < 1000) (hq2 : vN < 1000) (hq3 : ¬ (vN < v3)) (hq4 : v0 < (0 : Int64)) (hq5 : 1 < v2) (hq6 : 2 < v2) : ¬ (v4 < (0 : Int64)) := by
  have := rng32 p2
  have : (0 : Int32).toInt = 0 := by decide
  have := i_nlt hq0
  have : (1000 : Int32).toInt = 1000 := by decide
  have := i_lt hq1
  have := rng32 vN
  have := i_lt hq2
  have := rng32 p1
  have := e_i2l e0
  have : (0 : Int64).toInt = 0 := by decide
  have := j_lt hq4
  have : (1 : Int32).toInt = 1 := by decide
  have := e_ssz e1
  have := e_isubN e2 (by omega)
  have := i_lt hq5
  have : (2 : Int32).toInt = 2 := by decide
  have := i_lt hq6
  have := e_iaddN e3 (by omega)
  have := i_nlt hq3
  have := e_lneg e4
  exact u_nlt (by omega)
theorem D39_149 : Dj J39 149 (.ifCond .eq 7) 7 152 156 := by decide +kernel
theorem D39_152 : Dc J39 152 (.iconst 1) 1 153 := by decide +kernel
theorem D39_153 : Dj J39 153 (.goto 4) 4 156 157 := by decide +kernel
theorem D39_157 : Dc J39 157 (.istore 8) 2 159 := by decide +kernel
theorem D39_159 : Dc J39 159 (.iload 7) 2 161 := by decide +kernel
theorem D39_161 : Dc J39 161 (.iconst 3) 1 162 := by decide +kernel
theorem D39_162 : Dj J39 162 (.if_icmp .le 33) 33 165 195 := by decide +kernel
theorem D39_165 : Dc J39 165 (.iload 8) 2 167 := by decide +kernel
theorem D39_167 : Dj J39 167 (.ifCond .eq 25) 25 170 192 := by decide +kernel
theorem D39_170 : Dc J39 170 (.aload_n 0) 1 171 := by decide +kernel
theorem D39_171 : Dc J39 171 (.iload 6) 2 173 := by decide +kernel
theorem D39_173 : Dc J39 173 (.iload 7) 2 175 := by decide +kernel
theorem D39_175 : Dc J39 175 .iadd 1 176 := by decide +kernel
theorem D39_176 : Dc J39 176 (.iconst 4) 1 177 := by decide +kernel
theorem D39_177 : Dc J39 177 .isub 1 178 := by decide +kernel
theorem D39_178 : Dc J39 178 (.lload_n 3) 1 179 := by decide +kernel
theorem D39_179 : Dc J39 179 (.ldc2_w 54) 3 182 := by decide +kernel
theorem D39_182 : Dc J39 182 (.invokestatic 78) 3 185 := by decide +kernel
theorem own_d57 {p2 vN p1 v1 v2 v3 v4 v5 v6 : Int32} {v0 : Int64} (e0 : v0 = (p1.toInt64)) (e1 : v1 = (ssz p1)) (e2 : v2 = (v1 - 1)) (e3 : v3 = (p2 + v1)) (e4 : v4 = (p2 + 1)) (e5 : v5 = (v4 + v2)) (e6 : v6 = (v5 - 4)) (hq0 : ¬ (p2 < 0)) (hq1 : p2 < 1000) (hq2 : vN < 1000) (hq3 : ¬ (vN < v3)) (hq4 : v0 < (0 : Int64)) (hq5 : 1 < v2) (hq6 : 2 < v2) (hq7 : 3 < v2) : ¬ (v6 < 0) := by
  have := rng32 p2
  have : (0 : Int32).toInt = 0 := by decide
  have := i_nlt hq0
  have : (1000 : Int32).toInt = 1000 := by decide
  have := i_lt hq1
  have := rng32 vN
  have := i_lt hq2
  have := rng32 p1
  have := e_i2l e0
  have : (0 : Int64).toInt = 0 := by decide
  have := j_lt hq4
  have : (1 : Int32).toInt = 1 := by decide
  have := e_ssz e1
  have := e_isubN e2 (by omega)
  have := i_lt hq5
  have : (2 : Int32).toInt = 2 := by decide
  have := i_lt hq6
  have : (3 : Int32).toInt = 3 := by decide
  have := i_lt hq7
  have := e_iaddN e3 (by omega)
  have := i_nlt hq3
  have := e_iaddN e4 (by omega)
  have := e_iaddN e5 (by omega)
  have : (4 : Int32).toInt = 4 := by decide
  have := e_isubN e6 (by omega)
  exact o_nlt (by omega)
theorem own_d58 {p2 vN p1 v1 v2 v3 v4 v5 v6 : Int32} {v0 : Int64} (e0 : v0 = (p1.toInt64)) (e1 : v1 = (ssz p1)) (e2 : v2 = (v1 - 1)) (e3 : v3 = (p2 + v1)) (e4 : v4 = (p2 + 1)) (e5 : v5 = (v4 + v2)) (e6 : v6 = (v5 - 4)) (hq0 : ¬ (p2 < 0)) (hq1 : p2 < 1000) (hq2 : vN < 1000) (hq3 : ¬ (vN < v3)) (hq4 : v0 < (0 : Int64)) (hq5 : 1 < v2) (hq6 : 2 < v2) (hq7 : 3 < v2) : v6 < vN := by
  have := rng32 p2
  have : (0 : Int32).toInt = 0 := by decide
  have := i_nlt hq0
  have : (1000 : Int32).toInt = 1000 := by decide
  have := i_lt hq1
  have := rng32 vN
  have := i_lt hq2
  have := rng32 p1
  have := e_i2l e0
  have : (0 : Int64).toInt = 0 := by decide
  have := j_lt hq4
  have : (1 : Int32).toInt = 1 := by decide
  have := e_ssz e1
  have := e_isubN e2 (by omega)
  have := i_lt hq5
  have : (2 : Int32).toInt = 2 := by decide
  have := i_lt hq6
  have : (3 : Int32).toInt = 3 := by decide
  have := i_lt hq7
  have := e_iaddN e3 (by omega)
  have := i_nlt hq3
  have := e_iaddN e4 (by omega)
  have := e_iaddN e5 (by omega)
  have : (4 : Int32).toInt = 4 := by decide
  have := e_isubN e6 (by omega)
  exact o_lt (by omega)
theorem own_d59 {p2 vN p1 v1 v2 v3 : Int32} {v0 v4 : Int64} (e0 : v0 = (p1.toInt64)) (e1 : v1 = (ssz p1)) (e2 : v2 = (v1 - 1)) (e3 : v3 = (p2 + v1)) (e4 : v4 = (-v0)) (hq0 : ¬ (p2 < 0)) (hq1 : p2 < 1000) (hq2 : vN < 1000) (hq3 : ¬ (vN < v3)) (hq4 : v0 < (0 : Int64)) (hq5 : 1 < v2) (hq6 : 2 < v2) (hq7 : 3 < v2) : ¬ (v4 < (0 : Int64)) := by
  have := rng32 p2
  have : (0 : Int32).toInt = 0 := by decide
  have := i_nlt hq0
  have : (1000 : Int32).toInt = 1000 := by decide
  have := i_lt hq1
  have := rng32 vN
  have := i_lt hq2
  have := rng32 p1
  have := e_i2l e0
  have : (0 : Int64).toInt = 0 := by decide
  have := j_lt hq4
  have : (1 : Int32).toInt = 1 := by decide
  have := e_ssz e1
  have := e_isubN e2 (by omega)
  have := i_lt hq5
  have : (2 : Int32).toInt = 2 := by decide
  have := i_lt hq6
  have : (3 : Int32).toInt = 3 := by decide
  have := i_lt hq7
  have := e_iaddN e3 (by omega)
  have := i_nlt hq3
  have := e_lneg e4
  exact u_nlt (by omega)
theorem D39_185 : Dj J39 185 (.ifCond .eq 7) 7 188 192 := by decide +kernel
theorem D39_188 : Dc J39 188 (.iconst 1) 1 189 := by decide +kernel
theorem D39_189 : Dj J39 189 (.goto 4) 4 192 193 := by decide +kernel
theorem D39_193 : Dc J39 193 (.istore 8) 2 195 := by decide +kernel
theorem D39_195 : Dc J39 195 (.iload 7) 2 197 := by decide +kernel
theorem D39_197 : Dc J39 197 (.iconst 4) 1 198 := by decide +kernel
theorem D39_198 : Dj J39 198 (.if_icmp .le 33) 33 201 231 := by decide +kernel
theorem D39_201 : Dc J39 201 (.iload 8) 2 203 := by decide +kernel
theorem D39_203 : Dj J39 203 (.ifCond .eq 25) 25 206 228 := by decide +kernel
theorem D39_206 : Dc J39 206 (.aload_n 0) 1 207 := by decide +kernel
theorem D39_207 : Dc J39 207 (.iload 6) 2 209 := by decide +kernel
theorem D39_209 : Dc J39 209 (.iload 7) 2 211 := by decide +kernel
theorem D39_211 : Dc J39 211 .iadd 1 212 := by decide +kernel
theorem D39_212 : Dc J39 212 (.iconst 5) 1 213 := by decide +kernel
theorem D39_213 : Dc J39 213 .isub 1 214 := by decide +kernel
theorem D39_214 : Dc J39 214 (.lload_n 3) 1 215 := by decide +kernel
theorem D39_215 : Dc J39 215 (.ldc2_w 56) 3 218 := by decide +kernel
theorem D39_218 : Dc J39 218 (.invokestatic 78) 3 221 := by decide +kernel
theorem own_d60 {p2 p1 vN v1 v2 v3 v4 v5 v6 : Int32} {v0 : Int64} (e0 : v0 = (p1.toInt64)) (e1 : v1 = (ssz p1)) (e2 : v2 = (v1 - 1)) (e3 : v3 = (p2 + v1)) (e4 : v4 = (p2 + 1)) (e5 : v5 = (v4 + v2)) (e6 : v6 = (v5 - 5)) (hq0 : ¬ (p2 < 0)) (hq1 : p2 < 1000) (hq2 : ¬ (vN < v3)) (hq3 : v0 < (0 : Int64)) (hq4 : 1 < v2) (hq5 : 2 < v2) (hq6 : 3 < v2) (hq7 : 4 < v2) : ¬ (v6 < 0) := by
  have := rng32 p2
  have : (0 : Int32).toInt = 0 := by decide
  have := i_nlt hq0
  have : (1000 : Int32).toInt = 1000 := by decide
  have := i_lt hq1
  have := rng32 p1
  have := e_i2l e0
  have : (0 : Int64).toInt = 0 := by decide
  have := j_lt hq3
  have : (1 : Int32).toInt = 1 := by decide
  have := e_ssz e1
  have := e_isubN e2 (by omega)
  have := i_lt hq4
  have : (2 : Int32).toInt = 2 := by decide
  have := i_lt hq5
  have : (3 : Int32).toInt = 3 := by decide
  have := i_lt hq6
  have : (4 : Int32).toInt = 4 := by decide
  have := i_lt hq7
  have := rng32 vN
  have := e_iaddN e3 (by omega)
  have := i_nlt hq2
  have := e_iaddN e4 (by omega)
  have := e_iaddN e5 (by omega)
  have : (5 : Int32).toInt = 5 := by decide
  have := e_isubN e6 (by omega)
  exact o_nlt (by omega)
theorem own_d61 {p2 vN p1 v1 v2 v3 v4 v5 v6 : Int32} {v0 : Int64} (e0 : v0 = (p1.toInt64)) (e1 : v1 = (ssz p1)) (e2 : v2 = (v1 - 1)) (e3 : v3 = (p2 + v1)) (e4 : v4 = (p2 + 1)) (e5 : v5 = (v4 + v2)) (e6 : v6 = (v5 - 5)) (hq0 : ¬ (p2 < 0)) (hq1 : p2 < 1000) (hq2 : vN < 1000) (hq3 : ¬ (vN < v3)) (hq4 : v0 < (0 : Int64)) (hq5 : 1 < v2) (hq6 : 2 < v2) (hq7 : 3 < v2) (hq8 : 4 < v2) : v6 < vN := by
  have := rng32 p2
  have : (0 : Int32).toInt = 0 := by decide
  have := i_nlt hq0
  have : (1000 : Int32).toInt = 1000 := by decide
  have := i_lt hq1
  have := rng32 vN
  have := i_lt hq2
  have := rng32 p1
  have := e_i2l e0
  have : (0 : Int64).toInt = 0 := by decide
  have := j_lt hq4
  have : (1 : Int32).toInt = 1 := by decide
  have := e_ssz e1
  have := e_isubN e2 (by omega)
  have := i_lt hq5
  have : (2 : Int32).toInt = 2 := by decide
  have := i_lt hq6
  have : (3 : Int32).toInt = 3 := by decide
  have := i_lt hq7
  have : (4 : Int32).toInt = 4 := by decide
  have := i_lt hq8
  have := e_iaddN e3 (by omega)
  have := i_nlt hq3
  have := e_iaddN e4 (by omega)
  have := e_iaddN e5 (by omega)
  have : (5 : Int32).toInt = 5 := by decide
  have := e_isubN e6 (by omega)
  exact o_lt (by omega)
theorem own_d62 {p1 vN p2 v1 v2 v3 : Int32} {v0 v4 : Int64} (e0 : v0 = (p1.toInt64)) (e1 : v1 = (ssz p1)) (e2 : v2 = (v1 - 1)) (e3 : v3 = (p2 + v1)) (e4 : v4 = (-v0)) (hq0 : ¬ (vN < v3)) (hq1 : v0 < (0 : Int64)) (hq2 : 1 < v2) (hq3 : 2 < v2) (hq4 : 3 < v2) (hq5 : 4 < v2) : ¬ (v4 < (0 : Int64)) := by
  have := rng32 p1
  have := e_i2l e0
  have : (0 : Int64).toInt = 0 := by decide
  have := j_lt hq1
  have : (1 : Int32).toInt = 1 := by decide
  have := e_ssz e1
  have := e_isubN e2 (by omega)
  have := i_lt hq2
  have : (2 : Int32).toInt = 2 := by decide
  have := i_lt hq3
  have : (3 : Int32).toInt = 3 := by decide
  have := i_lt hq4
  have : (4 : Int32).toInt = 4 := by decide
  have := i_lt hq5
  have := rng32 vN
  have := rng32 p2
  have := e_iadd e3
  have := i_nlt hq0
  have := e_lneg e4
  exact u_nlt (by omega)
theorem D39_221 : Dj J39 221 (.ifCond .eq 7) 7 224 228 := by decide +kernel
theorem D39_224 : Dc J39 224 (.iconst 1) 1 225 := by decide +kernel
theorem D39_225 : Dj J39 225 (.goto 4) 4 228 229 := by decide +kernel
theorem D39_229 : Dc J39 229 (.istore 8) 2 231 := by decide +kernel
theorem D39_231 : Dc J39 231 (.iload 7) 2 233 := by decide +kernel
theorem D39_233 : Dc J39 233 (.iconst 5) 1 234 := by decide +kernel
theorem D39_234 : Dj J39 234 (.if_icmp .le 34) 34 237 268 := by decide +kernel
theorem D39_237 : Dc J39 237 (.iload 8) 2 239 := by decide +kernel
theorem D39_239 : Dj J39 239 (.ifCond .eq 26) 26 242 265 := by decide +kernel
theorem D39_242 : Dc J39 242 (.aload_n 0) 1 243 := by decide +kernel
theorem D39_243 : Dc J39 243 (.iload 6) 2 245 := by decide +kernel
theorem D39_245 : Dc J39 245 (.iload 7) 2 247 := by decide +kernel
theorem D39_247 : Dc J39 247 .iadd 1 248 := by decide +kernel
theorem D39_248 : Dc J39 248 (.bipush 6) 2 250 := by decide +kernel
theorem D39_250 : Dc J39 250 .isub 1 251 := by decide +kernel
theorem D39_251 : Dc J39 251 (.lload_n 3) 1 252 := by decide +kernel
theorem D39_252 : Dc J39 252 (.ldc2_w 58) 3 255 := by decide +kernel
theorem D39_255 : Dc J39 255 (.invokestatic 78) 3 258 := by decide +kernel
theorem own_d63 {p2 p1 vN v1 v2 v3 v4 v5 v6 : Int32} {v0 : Int64} (e0 : v0 = (p1.toInt64)) (e1 : v1 = (ssz p1)) (e2 : v2 = (v1 - 1)) (e3 : v3 = (p2 + v1)) (e4 : v4 = (p2 + 1)) (e5 : v5 = (v4 + v2)) (e6 : v6 = (v5 - 6)) (hq0 : ¬ (p2 < 0)) (hq1 : p2 < 1000) (hq2 : ¬ (vN < v3)) (hq3 : v0 < (0 : Int64)) (hq4 : 1 < v2) (hq5 : 2 < v2) (hq6 : 3 < v2) (hq7 : 4 < v2) (hq8 : 5 < v2) : ¬ (v6 < 0) := by
  have := rng32 p2
  have : (0 : Int32).toInt = 0 := by decide
  have := i_nlt hq0
  have : (1000 : Int32).toInt = 1000 := by decide
  have := i_lt hq1
  have := rng32 p1
  have := e_i2l e0
  have : (0 : Int64).toInt = 0 := by decide
  have := j_lt hq3
  have : (1 : Int32).toInt = 1 := by decide
  have := e_ssz e1
  have := e_isubN e2 (by omega)
  have := i_lt hq4
  have : (2 : Int32).toInt = 2 := by decide
  have := i_lt hq5
  have : (3 : Int32).toInt = 3 := by decide
  have := i_lt hq6
  have : (4 : Int32).toInt = 4 := by decide
  have := i_lt hq7
  have : (5 : Int32).toInt = 5 := by decide
  have := i_lt hq8
  have := rng32 vN
  have := e_iaddN e3 (by omega)
  have := i_nlt hq2
  have := e_iaddN e4 (by omega)
  have := e_iaddN e5 (by omega)
  have : (6 : Int32).toInt = 6 := by decide
  have := e_isubN e6 (by omega)
  exact o_nlt (by omega)
theorem own_d64 {p2 vN p1 v1 v2 v3 v4 v5 v6 : Int32} {v0 : Int64} (e0 : v0 = (p1.toInt64)) (e1 : v1 = (ssz p1)) (e2 : v2 = (v1 - 1)) (e3 : v3 = (p2 + v1)) (e4 : v4 = (p2 + 1)) (e5 : v5 = (v4 + v2)) (e6 : v6 = (v5 - 6)) (hq0 : ¬ (p2 < 0)) (hq1 : p2 < 1000) (hq2 : vN < 1000) (hq3 : ¬ (vN < v3)) (hq4 : v0 < (0 : Int64)) (hq5 : 1 < v2) (hq6 : 2 < v2) (hq7 : 3 < v2) (hq8 : 4 < v2) (hq9 : 5 < v2) : v6 < vN := by
  have := rng32 p2
  have : (0 : Int32).toInt = 0 := by decide
  have := i_nlt hq0
  have : (1000 : Int32).toInt = 1000 := by decide
  have := i_lt hq1
  have := rng32 vN
  have := i_lt hq2
  have := rng32 p1
  have := e_i2l e0
  have : (0 : Int64).toInt = 0 := by decide
  have := j_lt hq4
  have : (1 : Int32).toInt = 1 := by decide
  have := e_ssz e1
  have := e_isubN e2 (by omega)
  have := i_lt hq5
  have : (2 : Int32).toInt = 2 := by decide
  have := i_lt hq6
  have : (3 : Int32).toInt = 3 := by decide
  have := i_lt hq7
  have : (4 : Int32).toInt = 4 := by decide
  have := i_lt hq8
  have : (5 : Int32).toInt = 5 := by decide
  have := i_lt hq9
  have := e_iaddN e3 (by omega)
  have := i_nlt hq3
  have := e_iaddN e4 (by omega)
  have := e_iaddN e5 (by omega)
  have : (6 : Int32).toInt = 6 := by decide
  have := e_isubN e6 (by omega)
  exact o_lt (by omega)
theorem own_d65 {p1 vN p2 v1 v2 v3 : Int32} {v0 v4 : Int64} (e0 : v0 = (p1.toInt64)) (e1 : v1 = (ssz p1)) (e2 : v2 = (v1 - 1)) (e3 : v3 = (p2 + v1)) (e4 : v4 = (-v0)) (hq0 : ¬ (vN < v3)) (hq1 : v0 < (0 : Int64)) (hq2 : 1 < v2) (hq3 : 2 < v2) (hq4 : 3 < v2) (hq5 : 4 < v2) (hq6 : 5 < v2) : ¬ (v4 < (0 : Int64)) := by
  have := rng32 p1
  have := e_i2l e0
  have : (0 : Int64).toInt = 0 := by decide
  have := j_lt hq1
  have : (1 : Int32).toInt = 1 := by decide
  have := e_ssz e1
  have := e_isubN e2 (by omega)
  have := i_lt hq2
  have : (2 : Int32).toInt = 2 := by decide
  have := i_lt hq3
  have : (3 : Int32).toInt = 3 := by decide
  have := i_lt hq4
  have : (4 : Int32).toInt = 4 := by decide
  have := i_lt hq5
  have : (5 : Int32).toInt = 5 := by decide
  have := i_lt hq6
  have := rng32 vN
  have := rng32 p2
  have := e_iadd e3
  have := i_nlt hq0
  have := e_lneg e4
  exact u_nlt (by omega)
theorem D39_258 : Dj J39 258 (.ifCond .eq 7) 7 261 265 := by decide +kernel
theorem D39_261 : Dc J39 261 (.iconst 1) 1 262 := by decide +kernel
theorem D39_262 : Dj J39 262 (.goto 4) 4 265 266 := by decide +kernel
theorem D39_266 : Dc J39 266 (.istore 8) 2 268 := by decide +kernel
theorem D39_268 : Dc J39 268 (.iload 7) 2 270 := by decide +kernel
theorem D39_270 : Dc J39 270 (.bipush 6) 2 272 := by decide +kernel
theorem D39_272 : Dj J39 272 (.if_icmp .le 34) 34 275 306 := by decide +kernel
theorem D39_275 : Dc J39 275 (.iload 8) 2 277 := by decide +kernel
theorem D39_277 : Dj J39 277 (.ifCond .eq 26) 26 280 303 := by decide +kernel
theorem D39_280 : Dc J39 280 (.aload_n 0) 1 281 := by decide +kernel
theorem D39_281 : Dc J39 281 (.iload 6) 2 283 := by decide +kernel
theorem D39_283 : Dc J39 283 (.iload 7) 2 285 := by decide +kernel
theorem D39_285 : Dc J39 285 .iadd 1 286 := by decide +kernel
theorem D39_286 : Dc J39 286 (.bipush 7) 2 288 := by decide +kernel
theorem D39_288 : Dc J39 288 .isub 1 289 := by decide +kernel
theorem D39_289 : Dc J39 289 (.lload_n 3) 1 290 := by decide +kernel
theorem D39_290 : Dc J39 290 (.ldc2_w 60) 3 293 := by decide +kernel
theorem D39_293 : Dc J39 293 (.invokestatic 78) 3 296 := by decide +kernel
theorem own_d66 {p2 p1 vN v1 v2 v3 v4 v5 v6 : Int32} {v0 : Int64} (e0 : v0 = (p1.toInt64)) (e1 : v1 = (ssz p1)) (e2 : v2 = (v1 - 1)) (e3 : v3 = (p2 + v1)) (e4 : v4 = (p2 + 1)) (e5 : v5 = (v4 + v2)) (e6 : v6 = (v5 - 7)) (hq0 : ¬ (p2 < 0)) (hq1 : p2 < 1000) (hq2 : ¬ (vN < v3)) (hq3 : v0 < (0 : Int64)) (hq4 : 1 < v2) (hq5 : 2 < v2) (hq6 : 3 < v2) (hq7 : 4 < v2) (hq8 : 5 < v2) (hq9 : 6 < v2) : ¬ (v6 < 0) := by
  have := rng32 p2
  have : (0 : Int32).toInt = 0 := by decide
  have := i_nlt hq0
  have : (1000 : Int32).toInt = 1000 := by decide
  have := i_lt hq1
  have := rng32 p1
  have := e_i2l e0
  have : (0 : Int64).toInt = 0 := by decide
  have := j_lt hq3
  have : (1 : Int32).toInt = 1 := by decide
  have := e_ssz e1
  have := e_isubN e2 (by omega)
  have := i_lt hq4
  have : (2 : Int32).toInt = 2 := by decide
  have := i_lt hq5
  have : (3 : Int32).toInt = 3 := by decide
  have := i_lt hq6
  have : (4 : Int32).toInt = 4 := by decide
  have := i_lt hq7
  have : (5 : Int32).toInt = 5 := by decide
  have := i_lt hq8
  have : (6 : Int32).toInt = 6 := by decide
  have := i_lt hq9
  have := rng32 vN
  have := e_iaddN e3 (by omega)
  have := i_nlt hq2
  have := e_iaddN e4 (by omega)
  have := e_iaddN e5 (by omega)
  have : (7 : Int32).toInt = 7 := by decide
  have := e_isubN e6 (by omega)
  exact o_nlt (by omega)
theorem own_d67 {p2 vN p1 v1 v2 v3 v4 v5 v6 : Int32} {v0 : Int64} (e0 : v0 = (p1.toInt64)) (e1 : v1 = (ssz p1)) (e2 : v2 = (v1 - 1)) (e3 : v3 = (p2 + v1)) (e4 : v4 = (p2 + 1)) (e5 : v5 = (v4 + v2)) (e6 : v6 = (v5 - 7)) (hq0 : ¬ (p2 < 0)) (hq1 : p2 < 1000) (hq2 : vN < 1000) (hq3 : ¬ (vN < v3)) (hq4 : v0 < (0 : Int64)) (hq5 : 1 < v2) (hq6 : 2 < v2) (hq7 : 3 < v2) (hq8 : 4 < v2) (hq9 : 5 < v2) (hq10 : 6 < v2) : v6 < vN := by
  have := rng32 p2
  have : (0 : Int32).toInt = 0 := by decide
  have := i_nlt hq0
  have : (1000 : Int32).toInt = 1000 := by decide
  have := i_lt hq1
  have := rng32 vN
  have := i_lt hq2
  have := rng32 p1
  have := e_i2l e0
  have : (0 : Int64).toInt = 0 := by decide
  have := j_lt hq4
  have : (1 : Int32).toInt = 1 := by decide
  have := e_ssz e1
  have := e_isubN e2 (by omega)
  have := i_lt hq5
  have : (2 : Int32).toInt = 2 := by decide
  have := i_lt hq6
  have : (3 : Int32).toInt = 3 := by decide
  have := i_lt hq7
  have : (4 : Int32).toInt = 4 := by decide
  have := i_lt hq8
  have : (5 : Int32).toInt = 5 := by decide
  have := i_lt hq9
  have : (6 : Int32).toInt = 6 := by decide
  have := i_lt hq10
  have := e_iaddN e3 (by omega)
  have := i_nlt hq3
  have := e_iaddN e4 (by omega)
  have := e_iaddN e5 (by omega)
  have : (7 : Int32).toInt = 7 := by decide
  have := e_isubN e6 (by omega)
  exact o_lt (by omega)
theorem own_d68 {p1 vN p2 v1 v2 v3 : Int32} {v0 v4 : Int64} (e0 : v0 = (p1.toInt64)) (e1 : v1 = (ssz p1)) (e2 : v2 = (v1 - 1)) (e3 : v3 = (p2 + v1)) (e4 : v4 = (-v0)) (hq0 : ¬ (vN < v3)) (hq1 : v0 < (0 : Int64)) (hq2 : 1 < v2) (hq3 : 2 < v2) (hq4 : 3 < v2) (hq5 : 4 < v2) (hq6 : 5 < v2) (hq7 : 6 < v2) : ¬ (v4 < (0 : Int64)) := by
  have := rng32 p1
  have := e_i2l e0
  have : (0 : Int64).toInt = 0 := by decide
  have := j_lt hq1
  have : (1 : Int32).toInt = 1 := by decide
  have := e_ssz e1
  have := e_isubN e2 (by omega)
  have := i_lt hq2
  have : (2 : Int32).toInt = 2 := by decide
  have := i_lt hq3
  have : (3 : Int32).toInt = 3 := by decide
  have := i_lt hq4
  have : (4 : Int32).toInt = 4 := by decide
  have := i_lt hq5
  have : (5 : Int32).toInt = 5 := by decide
  have := i_lt hq6
  have : (6 : Int32).toInt = 6 := by decide
  have := i_lt hq7
  have := rng32 vN
  have := rng32 p2
  have := e_iadd e3
  have := i_nlt hq0
  have := e_lneg e4
  exact u_nlt (by omega)
theorem D39_296 : Dj J39 296 (.ifCond .eq 7) 7 299 303 := by decide +kernel
theorem D39_299 : Dc J39 299 (.iconst 1) 1 300 := by decide +kernel
theorem D39_300 : Dj J39 300 (.goto 4) 4 303 304 := by decide +kernel
theorem D39_304 : Dc J39 304 (.istore 8) 2 306 := by decide +kernel
theorem D39_306 : Dc J39 306 (.iload 7) 2 308 := by decide +kernel
theorem D39_308 : Dc J39 308 (.bipush 7) 2 310 := by decide +kernel
theorem D39_310 : Dj J39 310 (.if_icmp .le 34) 34 313 344 := by decide +kernel
theorem D39_313 : Dc J39 313 (.iload 8) 2 315 := by decide +kernel
theorem D39_315 : Dj J39 315 (.ifCond .eq 26) 26 318 341 := by decide +kernel
theorem D39_318 : Dc J39 318 (.aload_n 0) 1 319 := by decide +kernel
theorem D39_319 : Dc J39 319 (.iload 6) 2 321 := by decide +kernel
theorem D39_321 : Dc J39 321 (.iload 7) 2 323 := by decide +kernel
theorem D39_323 : Dc J39 323 .iadd 1 324 := by decide +kernel
theorem D39_324 : Dc J39 324 (.bipush 8) 2 326 := by decide +kernel
theorem D39_326 : Dc J39 326 .isub 1 327 := by decide +kernel
theorem D39_327 : Dc J39 327 (.lload_n 3) 1 328 := by decide +kernel
theorem D39_328 : Dc J39 328 (.ldc2_w 62) 3 331 := by decide +kernel
theorem D39_331 : Dc J39 331 (.invokestatic 78) 3 334 := by decide +kernel
theorem own_d69 {p2 p1 vN v1 v2 v3 v4 v5 v6 : Int32} {v0 : Int64} (e0 : v0 = (p1.toInt64)) (e1 : v1 = (ssz p1)) (e2 : v2 = (v1 - 1)) (e3 : v3 = (p2 + v1)) (e4 : v4 = (p2 + 1)) (e5 : v5 = (v4 + v2)) (e6 : v6 = (v5 - 8)) (hq0 : ¬ (p2 < 0)) (hq1 : p2 < 1000) (hq2 : ¬ (vN < v3)) (hq3 : v0 < (0 : Int64)) (hq4 : 1 < v2) (hq5 : 2 < v2) (hq6 : 3 < v2) (hq7 : 4 < v2) (hq8 : 5 < v2) (hq9 : 6 < v2) (hq10 : 7 < v2) : ¬ (v6 < 0) := by
  have := rng32 p2
  have : (0 : Int32).toInt = 0 := by decide
  have := i_nlt hq0
  have : (1000 : Int32).toInt = 1000 := by decide
  have := i_lt hq1
  have := rng32 p1
  have := e_i2l e0
  have : (0 : Int64).toInt = 0 := by decide
  have := j_lt hq3
  have : (1 : Int32).toInt = 1 := by decide
  have := e_ssz e1
  have := e_isubN e2 (by omega)
  have := i_lt hq4
  have : (2 : Int32).toInt = 2 := by decide
  have := i_lt hq5
  have : (3 : Int32).toInt = 3 := by decide
  have := i_lt hq6
  have : (4 : Int32).toInt = 4 := by decide
  have := i_lt hq7
  have : (5 : Int32).toInt = 5 := by decide
  have := i_lt hq8
  have : (6 : Int32).toInt = 6 := by decide
  have := i_lt hq9
  have : (7 : Int32).toInt = 7 := by decide
  have := i_lt hq10
  have := rng32 vN
  have := e_iaddN e3 (by omega)
  have := i_nlt hq2
  have := e_iaddN e4 (by omega)
  have := e_iaddN e5 (by omega)
  have : (8 : Int32).toInt = 8 := by decide
  have := e_isubN e6 (by omega)
  exact o_nlt (by omega)
theorem own_d70 {p2 vN p1 v1 v2 v3 v4 v5 v6 : Int32} {v0 : Int64} (e0 : v0 = (p1.toInt64)) (e1 : v1 = (ssz p1)) (e2 : v2 = (v1 - 1)) (e3 : v3 = (p2 + v1)) (e4 : v4 = (p2 + 1)) (e5 : v5 = (v4 + v2)) (e6 : v6 = (v5 - 8)) (hq0 : ¬ (p2 < 0)) (hq1 : p2 < 1000) (hq2 : vN < 1000) (hq3 : ¬ (vN < v3)) (hq4 : v0 < (0 : Int64)) (hq5 : 1 < v2) (hq6 : 2 < v2) (hq7 : 3 < v2) (hq8 : 4 < v2) (hq9 : 5 < v2) (hq10 : 6 < v2) (hq11 : 7 < v2) : v6 < vN := by
  have := rng32 p2
  have : (0 : Int32).toInt = 0 := by decide
  have := i_nlt hq0
  have : (1000 : Int32).toInt = 1000 := by decide
  have := i_lt hq1
  have := rng32 vN
  have := i_lt hq2
  have := rng32 p1
  have := e_i2l e0
  have : (0 : Int64).toInt = 0 := by decide
  have := j_lt hq4
  have : (1 : Int32).toInt = 1 := by decide
  have := e_ssz e1
  have := e_isubN e2 (by omega)
  have := i_lt hq5
  have : (2 : Int32).toInt = 2 := by decide
  have := i_lt hq6
  have : (3 : Int32).toInt = 3 := by decide
  have := i_lt hq7
  have : (4 : Int32).toInt = 4 := by decide
  have := i_lt hq8
  have : (5 : Int32).toInt = 5 := by decide
  have := i_lt hq9
  have : (6 : Int32).toInt = 6 := by decide
  have := i_lt hq10
  have : (7 : Int32).toInt = 7 := by decide
  have := i_lt hq11
  have := e_iaddN e3 (by omega)
  have := i_nlt hq3
  have := e_iaddN e4 (by omega)
  have := e_iaddN e5 (by omega)
  have : (8 : Int32).toInt = 8 := by decide
  have := e_isubN e6 (by omega)
  exact o_lt (by omega)
theorem own_d71 {p1 vN p2 v1 v2 v3 : Int32} {v0 v4 : Int64} (e0 : v0 = (p1.toInt64)) (e1 : v1 = (ssz p1)) (e2 : v2 = (v1 - 1)) (e3 : v3 = (p2 + v1)) (e4 : v4 = (-v0)) (hq0 : ¬ (vN < v3)) (hq1 : v0 < (0 : Int64)) (hq2 : 1 < v2) (hq3 : 2 < v2) (hq4 : 3 < v2) (hq5 : 4 < v2) (hq6 : 5 < v2) (hq7 : 6 < v2) (hq8 : 7 < v2) : ¬ (v4 < (0 : Int64)) := by
  have := rng32 p1
  have := e_i2l e0
  have : (0 : Int64).toInt = 0 := by decide
  have := j_lt hq1
  have : (1 : Int32).toInt = 1 := by decide
  have := e_ssz e1
  have := e_isubN e2 (by omega)
  have := i_lt hq2
  have : (2 : Int32).toInt = 2 := by decide
  have := i_lt hq3
  have : (3 : Int32).toInt = 3 := by decide
  have := i_lt hq4
  have : (4 : Int32).toInt = 4 := by decide
  have := i_lt hq5
  have : (5 : Int32).toInt = 5 := by decide
  have := i_lt hq6
  have : (6 : Int32).toInt = 6 := by decide
  have := i_lt hq7
  have : (7 : Int32).toInt = 7 := by decide
  have := i_lt hq8
  have := rng32 vN
  have := rng32 p2
  have := e_iadd e3
  have := i_nlt hq0
  have := e_lneg e4
  exact u_nlt (by omega)
theorem D39_334 : Dj J39 334 (.ifCond .eq 7) 7 337 341 := by decide +kernel
theorem D39_337 : Dc J39 337 (.iconst 1) 1 338 := by decide +kernel
theorem D39_338 : Dj J39 338 (.goto 4) 4 341 342 := by decide +kernel
theorem D39_342 : Dc J39 342 (.istore 8) 2 344 := by decide +kernel
theorem D39_344 : Dc J39 344 (.iload 7) 2 346 := by decide +kernel
theorem D39_346 : Dc J39 346 (.bipush 8) 2 348 := by decide +kernel
theorem D39_348 : Dj J39 348 (.if_icmp .le 34) 34 351 382 := by decide +kernel
theorem D39_351 : Dc J39 351 (.iload 8) 2 353 := by decide +kernel
theorem D39_353 : Dj J39 353 (.ifCond .eq 26) 26 356 379 := by decide +kernel
theorem D39_356 : Dc J39 356 (.aload_n 0) 1 357 := by decide +kernel
theorem D39_357 : Dc J39 357 (.iload 6) 2 359 := by decide +kernel
theorem D39_359 : Dc J39 359 (.iload 7) 2 361 := by decide +kernel
theorem D39_361 : Dc J39 361 .iadd 1 362 := by decide +kernel
theorem D39_362 : Dc J39 362 (.bipush 9) 2 364 := by decide +kernel
theorem D39_364 : Dc J39 364 .isub 1 365 := by decide +kernel
theorem D39_365 : Dc J39 365 (.lload_n 3) 1 366 := by decide +kernel
theorem D39_366 : Dc J39 366 (.ldc2_w 64) 3 369 := by decide +kernel
theorem D39_369 : Dc J39 369 (.invokestatic 78) 3 372 := by decide +kernel
theorem own_d72 {p2 p1 vN v1 v2 v3 v4 v5 v6 : Int32} {v0 : Int64} (e0 : v0 = (p1.toInt64)) (e1 : v1 = (ssz p1)) (e2 : v2 = (v1 - 1)) (e3 : v3 = (p2 + v1)) (e4 : v4 = (p2 + 1)) (e5 : v5 = (v4 + v2)) (e6 : v6 = (v5 - 9)) (hq0 : ¬ (p2 < 0)) (hq1 : p2 < 1000) (hq2 : ¬ (vN < v3)) (hq3 : v0 < (0 : Int64)) (hq4 : 1 < v2) (hq5 : 2 < v2) (hq6 : 3 < v2) (hq7 : 4 < v2) (hq8 : 5 < v2) (hq9 : 6 < v2) (hq10 : 7 < v2) (hq11 : 8 < v2) : ¬ (v6 < 0) := by
  have := rng32 p2
  have : (0 : Int32).toInt = 0 := by decide
  have := i_nlt hq0
  have : (1000 : Int32).toInt = 1000 := by decide
  have := i_lt hq1
  have := rng32 p1
  have := e_i2l e0
  have : (0 : Int64).toInt = 0 := by decide
  have := j_lt hq3
  have : (1 : Int32).toInt = 1 := by decide
  have := e_ssz e1
  have := e_isubN e2 (by omega)
  have := i_lt hq4
  have : (2 : Int32).toInt = 2 := by decide
  have := i_lt hq5
  have : (3 : Int32).toInt = 3 := by decide
  have := i_lt hq6
  have : (4 : Int32).toInt = 4 := by decide
  have := i_lt hq7
  have : (5 : Int32).toInt = 5 := by decide
  have := i_lt hq8
  have : (6 : Int32).toInt = 6 := by decide
  have := i_lt hq9
  have : (7 : Int32).toInt = 7 := by decide
  have := i_lt hq10
  have : (8 : Int32).toInt = 8 := by decide
  have := i_lt hq11
  have := rng32 vN
  have := e_iaddN e3 (by omega)
  have := i_nlt hq2
  have := e_iaddN e4 (by omega)
  have := e_iaddN e5 (by omega)
  have : (9 : Int32).toInt = 9 := by decide
  have := e_isubN e6 (by omega)
  exact o_nlt (by omega)
theorem own_d73 {p2 vN p1 v1 v2 v3 v4 v5 v6 : Int32} {v0 : Int64} (e0 : v0 = (p1.toInt64)) (e1 : v1 = (ssz p1)) (e2 : v2 = (v1 - 1)) (e3 : v3 = (p2 + v1)) (e4 : v4 = (p2 + 1)) (e5 : v5 = (v4 + v2)) (e6 : v6 = (v5 - 9)) (hq0 : ¬ (p2 < 0)) (hq1 : p2 < 1000) (hq2 : vN < 1000) (hq3 : ¬ (vN < v3)) (hq4 : v0 < (0 : Int64)) (hq5 : 1 < v2) (hq6 : 2 < v2) (hq7 : 3 < v2) (hq8 : 4 < v2) (hq9 : 5 < v2) (hq10 : 6 < v2) (hq11 : 7 < v2) (hq12 : 8 < v2) : v6 < vN := by
  have := rng32 p2
  have : (0 : Int32).toInt = 0 := by decide
  have := i_nlt hq0
  have : (1000 : Int32).toInt = 1000 := by decide
  have := i_lt hq1
  have := rng32 vN
  have := i_lt hq2
  have := rng32 p1
  have := e_i2l e0
  have : (0 : Int64).toInt = 0 := by decide
  have := j_lt hq4
  have : (1 : Int32).toInt = 1 := by decide
  have := e_ssz e1
  have := e_isubN e2 (by omega)
  have := i_lt hq5
  have : (2 : Int32).toInt = 2 := by decide
  have := i_lt hq6
  have : (3 : Int32).toInt = 3 := by decide
  have := i_lt hq7
  have : (4 : Int32).toInt = 4 := by decide
  have := i_lt hq8
  have : (5 : Int32).toInt = 5 := by decide
  have := i_lt hq9
  have : (6 : Int32).toInt = 6 := by decide
  have := i_lt hq10
  have : (7 : Int32).toInt = 7 := by decide
  have := i_lt hq11
  have : (8 : Int32).toInt = 8 := by decide
  have := i_lt hq12
  have := e_iaddN e3 (by omega)
  have := i_nlt hq3
  have := e_iaddN e4 (by omega)
  have := e_iaddN e5 (by omega)
  have : (9 : Int32).toInt = 9 := by decide
  have := e_isubN e6 (by omega)
  exact o_lt (by omega)
theorem own_d74 {p1 vN p2 v1 v2 v3 : Int32} {v0 v4 : Int64} (e0 : v0 = (p1.toInt64)) (e1 : v1 = (ssz p1)) (e2 : v2 = (v1 - 1)) (e3 : v3 = (p2 + v1)) (e4 : v4 = (-v0)) (hq0 : ¬ (vN < v3)) (hq1 : v0 < (0 : Int64)) (hq2 : 1 < v2) (hq3 : 2 < v2) (hq4 : 3 < v2) (hq5 : 4 < v2) (hq6 : 5 < v2) (hq7 : 6 < v2) (hq8 : 7 < v2) (hq9 : 8 < v2) : ¬ (v4 < (0 : Int64)) := by
  have := rng32 p1
  have := e_i2l e0
  have : (0 : Int64).toInt = 0 := by decide
  have := j_lt hq1
  have : (1 : Int32).toInt = 1 := by decide
  have := e_ssz e1
  have := e_isubN e2 (by omega)
  have := i_lt hq2
  have : (2 : Int32).toInt = 2 := by decide
  have := i_lt hq3
  have : (3 : Int32).toInt = 3 := by decide
  have := i_lt hq4
  have : (4 : Int32).toInt = 4 := by decide
  have := i_lt hq5
  have : (5 : Int32).toInt = 5 := by decide
  have := i_lt hq6
  have : (6 : Int32).toInt = 6 := by decide
  have := i_lt hq7
  have : (7 : Int32).toInt = 7 := by decide
  have := i_lt hq8
  have : (8 : Int32).toInt = 8 := by decide
  have := i_lt hq9
  have := rng32 vN
  have := rng32 p2
  have := e_iadd e3
  have := i_nlt hq0
  have := e_lneg e4
  exact u_nlt (by omega)
theorem D39_372 : Dj J39 372 (.ifCond .eq 7) 7 375 379 := by decide +kernel
theorem D39_375 : Dc J39 375 (.iconst 1) 1 376 := by decide +kernel
theorem D39_376 : Dj J39 376 (.goto 4) 4 379 380 := by decide +kernel
theorem D39_380 : Dc J39 380 (.istore 8) 2 382 := by decide +kernel
theorem D39_382 : Dc J39 382 (.iload 7) 2 384 := by decide +kernel
theorem D39_384 : Dc J39 384 (.bipush 9) 2 386 := by decide +kernel
theorem D39_386 : Dj J39 386 (.if_icmp .le 34) 34 389 420 := by decide +kernel
theorem D39_389 : Dc J39 389 (.iload 8) 2 391 := by decide +kernel
theorem D39_391 : Dj J39 391 (.ifCond .eq 26) 26 394 417 := by decide +kernel
theorem D39_394 : Dc J39 394 (.aload_n 0) 1 395 := by decide +kernel
theorem D39_395 : Dc J39 395 (.iload 6) 2 397 := by decide +kernel
theorem D39_397 : Dc J39 397 (.iload 7) 2 399 := by decide +kernel
theorem D39_399 : Dc J39 399 .iadd 1 400 := by decide +kernel
theorem D39_400 : Dc J39 400 (.bipush 10) 2 402 := by decide +kernel
theorem D39_402 : Dc J39 402 .isub 1 403 := by decide +kernel
theorem D39_403 : Dc J39 403 (.lload_n 3) 1 404 := by decide +kernel
theorem D39_404 : Dc J39 404 (.ldc2_w 66) 3 407 := by decide +kernel
theorem D39_407 : Dc J39 407 (.invokestatic 78) 3 410 := by decide +kernel
theorem own_d75 {p2 p1 vN v1 v2 v3 v4 v5 v6 : Int32} {v0 : Int64} (e0 : v0 = (p1.toInt64)) (e1 : v1 = (ssz p1)) (e2 : v2 = (v1 - 1)) (e3 : v3 = (p2 + v1)) (e4 : v4 = (p2 + 1)) (e5 : v5 = (v4 + v2)) (e6 : v6 = (v5 - 10)) (hq0 : ¬ (p2 < 0)) (hq1 : p2 < 1000) (hq2 : ¬ (vN < v3)) (hq3 : v0 < (0 : Int64)) (hq4 : 1 < v2) (hq5 : 2 < v2) (hq6 : 3 < v2) (hq7 : 4 < v2) (hq8 : 5 < v2) (hq9 : 6 < v2) (hq10 : 7 < v2) (hq11 : 8 < v2) (hq12 : 9 < v2) : ¬ (v6 < 0) := by
  have := rng32 p2
  have : (0 : Int32).toInt = 0 := by decide
  have := i_nlt hq0
  have : (1000 : Int32).toInt = 1000 := by decide
  have := i_lt hq1
  have := rng32 p1
  have := e_i2l e0
  have : (0 : Int64).toInt = 0 := by decide
  have := j_lt hq3
  have : (1 : Int32).toInt = 1 := by decide
  have := e_ssz e1
  have := e_isubN e2 (by omega)
  have := i_lt hq4
  have : (2 : Int32).toInt = 2 := by decide
  have := i_lt hq5
  have : (3 : Int32).toInt = 3 := by decide
  have := i_lt hq6
  have : (4 : Int32).toInt = 4 := by decide
  have := i_lt hq7
  have : (5 : Int32).toInt = 5 := by decide
  have := i_lt hq8
  have : (6 : Int32).toInt = 6 := by decide
  have := i_lt hq9
  have : (7 : Int32).toInt = 7 := by decide
  have := i_lt hq10
  have : (8 : Int32).toInt = 8 := by decide
  have := i_lt hq11
  have : (9 : Int32).toInt = 9 := by decide
  have := i_lt hq12
  have := rng32 vN
  have := e_iaddN e3 (by omega)
  have := i_nlt hq2
  have := e_iaddN e4 (by omega)
  have := e_iaddN e5 (by omega)
  have : (10 : Int32).toInt = 10 := by decide
  have := e_isubN e6 (by omega)
  exact o_nlt (by omega)
theorem own_d76 {p2 vN p1 v1 v2 v3 v4 v5 v6 : Int32} {v0 : Int64} (e0 : v0 = (p1.toInt64)) (e1 : v1 = (ssz p1)) (e2 : v2 = (v1 - 1)) (e3 : v3 = (p2 + v1)) (e4 : v4 = (p2 + 1)) (e5 : v5 = (v4 + v2)) (e6 : v6 = (v5 - 10)) (hq0 : ¬ (p2 < 0)) (hq1 : p2 < 1000) (hq2 : vN < 1000) (hq3 : ¬ (vN < v3)) (hq4 : v0 < (0 : Int64)) (hq5 : 1 < v2) (hq6 : 2 < v2) (hq7 : 3 < v2) (hq8 : 4 < v2) (hq9 : 5 < v2) (hq10 : 6 < v2) (hq11 : 7 < v2) (hq12 : 8 < v2) (hq13 : 9 < v2) : v6 < vN := by
  have := rng32 p2
  have : (0 : Int32).toInt = 0 := by decide
  have := i_nlt hq0
  have : (1000 : Int32).toInt = 1000 := by decide
  have := i_lt hq1
  have := rng32 vN
  have := i_lt hq2
  have := rng32 p1
  have := e_i2l e0
  have : (0 : Int64).toInt = 0 := by decide
  have := j_lt hq4
  have : (1 : Int32).toInt = 1 := by decide
  have := e_ssz e1
  have := e_isubN e2 (by omega)
  have := i_lt hq5
  have : (2 : Int32).toInt = 2 := by decide
  have := i_lt hq6
  have : (3 : Int32).toInt = 3 := by decide
  have := i_lt hq7
  have : (4 : Int32).toInt = 4 := by decide
  have := i_lt hq8
  have : (5 : Int32).toInt = 5 := by decide
  have := i_lt hq9
  have : (6 : Int32).toInt = 6 := by decide
  have := i_lt hq10
  have : (7 : Int32).toInt = 7 := by decide
  have := i_lt hq11
  have : (8 : Int32).toInt = 8 := by decide
  have := i_lt hq12
  have : (9 : Int32).toInt = 9 := by decide
  have := i_lt hq13
  have := e_iaddN e3 (by omega)
  have := i_nlt hq3
  have := e_iaddN e4 (by omega)
  have := e_iaddN e5 (by omega)
  have : (10 : Int32).toInt = 10 := by decide
  have := e_isubN e6 (by omega)
  exact o_lt (by omega)
theorem own_d77 {p1 vN p2 v1 v2 v3 : Int32} {v0 v4 : Int64} (e0 : v0 = (p1.toInt64)) (e1 : v1 = (ssz p1)) (e2 : v2 = (v1 - 1)) (e3 : v3 = (p2 + v1)) (e4 : v4 = (-v0)) (hq0 : ¬ (vN < v3)) (hq1 : v0 < (0 : Int64)) (hq2 : 1 < v2) (hq3 : 2 < v2) (hq4 : 3 < v2) (hq5 : 4 < v2) (hq6 : 5 < v2) (hq7 : 6 < v2) (hq8 : 7 < v2) (hq9 : 8 < v2) (hq10 : 9 < v2) : ¬ (v4 < (0 : Int64)) := by
  have := rng32 p1
  have := e_i2l e0
  have : (0 : Int64).toInt = 0 := by decide
  have := j_lt hq1
  have : (1 : Int32).toInt = 1 := by decide
  have := e_ssz e1
  have := e_isubN e2 (by omega)
  have := i_lt hq2
  have : (2 : Int32).toInt = 2 := by decide
  have := i_lt hq3
  have : (3 : Int32).toInt = 3 := by decide
  have := i_lt hq4
  have : (4 : Int32).toInt = 4 := by decide
  have := i_lt hq5
  have : (5 : Int32).toInt = 5 := by decide
  have := i_lt hq6
  have : (6 : Int32).toInt = 6 := by decide
  have := i_lt hq7
  have : (7 : Int32).toInt = 7 := by decide
  have := i_lt hq8
  have : (8 : Int32).toInt = 8 := by decide
  have := i_lt hq9
  have : (9 : Int32).toInt = 9 := by decide
  have := i_lt hq10
  have := rng32 vN
  have := rng32 p2
  have := e_iadd e3
  have := i_nlt hq0
  have := e_lneg e4
  exact u_nlt (by omega)
theorem D39_410 : Dj J39 410 (.ifCond .eq 7) 7 413 417 := by decide +kernel
theorem D39_413 : Dc J39 413 (.iconst 1) 1 414 := by decide +kernel
theorem D39_414 : Dj J39 414 (.goto 4) 4 417 418 := by decide +kernel
theorem D39_418 : Dc J39 418 (.istore 8) 2 420 := by decide +kernel
theorem D39_420 : Dc J39 420 (.iload 8) 2 422 := by decide +kernel
theorem D39_422 : Dc J39 422 .ireturn 1 423 := by decide +kernel
theorem own_d78 {p1 vN p2 v1 v2 v3 : Int32} {v0 : Int64} (e0 : v0 = (p1.toInt64)) (e1 : v1 = (ssz p1)) (e2 : v2 = (v1 - 1)) (e3 : v3 = (p2 + v1)) (hq0 : ¬ (vN < v3)) (hq1 : v0 < (0 : Int64)) (hq2 : 1 < v2) (hq3 : 2 < v2) (hq4 : 3 < v2) (hq5 : 4 < v2) (hq6 : 5 < v2) (hq7 : 6 < v2) (hq8 : 7 < v2) (hq9 : ¬ (8 < v2)) : ¬ (9 < v2) := by
  have := rng32 p1
  have := e_i2l e0
  have : (0 : Int64).toInt = 0 := by decide
  have := j_lt hq1
  have : (1 : Int32).toInt = 1 := by decide
  have := e_ssz e1
  have := e_isubN e2 (by omega)
  have := i_lt hq2
  have : (2 : Int32).toInt = 2 := by decide
  have := i_lt hq3
  have : (3 : Int32).toInt = 3 := by decide
  have := i_lt hq4
  have : (4 : Int32).toInt = 4 := by decide
  have := i_lt hq5
  have : (5 : Int32).toInt = 5 := by decide
  have := i_lt hq6
  have : (6 : Int32).toInt = 6 := by decide
  have := i_lt hq7
  have : (7 : Int32).toInt = 7 := by decide
  have := i_lt hq8
  have : (8 : Int32).toInt = 8 := by decide
  have := i_nlt hq9
  have := rng32 vN
  have := rng32 p2
  have := e_iadd e3
  have := i_nlt hq0
  have : (9 : Int32).toInt = 9 := by decide
  exact o_nlt (by omega)
theorem own_d79 {p1 vN p2 v1 v2 v3 : Int32} {v0 : Int64} (e0 : v0 = (p1.toInt64)) (e1 : v1 = (ssz p1)) (e2 : v2 = (v1 - 1)) (e3 : v3 = (p2 + v1)) (hq0 : ¬ (vN < v3)) (hq1 : v0 < (0 : Int64)) (hq2 : 1 < v2) (hq3 : 2 < v2) (hq4 : 3 < v2) (hq5 : 4 < v2) (hq6 : 5 < v2) (hq7 : 6 < v2) (hq8 : ¬ (7 < v2)) : ¬ (8 < v2) := by
  have := rng32 p1
  have := e_i2l e0
  have : (0 : Int64).toInt = 0 := by decide
  have := j_lt hq1
  have : (1 : Int32).toInt = 1 := by decide
  have := e_ssz e1
  have := e_isubN e2 (by omega)
  have := i_lt hq2
  have : (2 : Int32).toInt = 2 := by decide
  have := i_lt hq3
  have : (3 : Int32).toInt = 3 := by decide
  have := i_lt hq4
  have : (4 : Int32).toInt = 4 := by decide
  have := i_lt hq5
  have : (5 : Int32).toInt = 5 := by decide
  have := i_lt hq6
  have : (6 : Int32).toInt = 6 := by decide
  have := i_lt hq7
  have : (7 : Int32).toInt = 7 := by decide
  have := i_nlt hq8
  have := rng32 vN
  have := rng32 p2
  have := e_iadd e3
  have := i_nlt hq0
  have : (8 : Int32).toInt = 8 := by decide
  exact o_nlt (by omega)
theorem own_d80 {p1 vN p2 v1 v2 v3 : Int32} {v0 : Int64} (e0 : v0 = (p1.toInt64)) (e1 : v1 = (ssz p1)) (e2 : v2 = (v1 - 1)) (e3 : v3 = (p2 + v1)) (hq0 : ¬ (vN < v3)) (hq1 : v0 < (0 : Int64)) (hq2 : 1 < v2) (hq3 : 2 < v2) (hq4 : 3 < v2) (hq5 : 4 < v2) (hq6 : 5 < v2) (hq7 : 6 < v2) (hq8 : ¬ (7 < v2)) : ¬ (9 < v2) := by
  have := rng32 p1
  have := e_i2l e0
  have : (0 : Int64).toInt = 0 := by decide
  have := j_lt hq1
  have : (1 : Int32).toInt = 1 := by decide
  have := e_ssz e1
  have := e_isubN e2 (by omega)
  have := i_lt hq2
  have : (2 : Int32).toInt = 2 := by decide
  have := i_lt hq3
  have : (3 : Int32).toInt = 3 := by decide
  have := i_lt hq4
  have : (4 : Int32).toInt = 4 := by decide
  have := i_lt hq5
  have : (5 : Int32).toInt = 5 := by decide
  have := i_lt hq6
  have : (6 : Int32).toInt = 6 := by decide
  have := i_lt hq7
  have : (7 : Int32).toInt = 7 := by decide
  have := i_nlt hq8
  have := rng32 vN
  have := rng32 p2
  have := e_iadd e3
  have := i_nlt hq0
  have : (9 : Int32).toInt = 9 := by decide
  exact o_nlt (by omega)
theorem own_d81 {p1 vN p2 v1 v2 v3 : Int32} {v0 : Int64} (e0 : v0 = (p1.toInt64)) (e1 : v1 = (ssz p1)) (e2 : v2 = (v1 - 1)) (e3 : v3 = (p2 + v1)) (hq0 : ¬ (vN < v3)) (hq1 : v0 < (0 : Int64)) (hq2 : 1 < v2) (hq3 : 2 < v2) (hq4 : 3 < v2) (hq5 : 4 < v2) (hq6 : 5 < v2) (hq7 : ¬ (6 < v2)) : ¬ (7 < v2) := by
  have := rng32 p1
  have := e_i2l e0
  have : (0 : Int64).toInt = 0 := by decide
  have := j_lt hq1
  have : (1 : Int32).toInt = 1 := by decide
  have := e_ssz e1
  have := e_isubN e2 (by omega)
  have := i_lt hq2
  have : (2 : Int32).toInt = 2 := by decide
  have := i_lt hq3
  have : (3 : Int32).toInt = 3 := by decide
  have := i_lt hq4
  have : (4 : Int32).toInt = 4 := by decide
  have := i_lt hq5
  have : (5 : Int32).toInt = 5 := by decide
  have := i_lt hq6
  have : (6 : Int32).toInt = 6 := by decide
  have := i_nlt hq7
  have := rng32 vN
  have := rng32 p2
  have := e_iadd e3
  have := i_nlt hq0
  have : (7 : Int32).toInt = 7 := by decide
  exact o_nlt (by omega)
theorem own_d82 {p1 vN p2 v1 v2 v3 : Int32} {v0 : Int64} (e0 : v0 = (p1.toInt64)) (e1 : v1 = (ssz p1)) (e2 : v2 = (v1 - 1)) (e3 : v3 = (p2 + v1)) (hq0 : ¬ (vN < v3)) (hq1 : v0 < (0 : Int64)) (hq2 : 1 < v2) (hq3 : 2 < v2) (hq4 : 3 < v2) (hq5 : 4 < v2) (hq6 : 5 < v2) (hq7 : ¬ (6 < v2)) : ¬ (8 < v2) := by
  have := rng32 p1
  have := e_i2l e0
  have : (0 : Int64).toInt = 0 := by decide
  have := j_lt hq1
  have : (1 : Int32).toInt = 1 := by decide
  have := e_ssz e1
  have := e_isubN e2 (by omega)
  have := i_lt hq2
  have : (2 : Int32).toInt = 2 := by decide
  have := i_lt hq3
  have : (3 : Int32).toInt = 3 := by decide
  have := i_lt hq4
  have : (4 : Int32).toInt = 4 := by decide
  have := i_lt hq5
  have : (5 : Int32).toInt = 5 := by decide
  have := i_lt hq6
  have : (6 : Int32).toInt = 6 := by decide
  have := i_nlt hq7
  have := rng32 vN
  have := rng32 p2
  have := e_iadd e3
  have := i_nlt hq0
  have : (8 : Int32).toInt = 8 := by decide
  exact o_nlt (by omega)
theorem own_d83 {p1 vN p2 v1 v2 v3 : Int32} {v0 : Int64} (e0 : v0 = (p1.toInt64)) (e1 : v1 = (ssz p1)) (e2 : v2 = (v1 - 1)) (e3 : v3 = (p2 + v1)) (hq0 : ¬ (vN < v3)) (hq1 : v0 < (0 : Int64)) (hq2 : 1 < v2) (hq3 : 2 < v2) (hq4 : 3 < v2) (hq5 : 4 < v2) (hq6 : 5 < v2) (hq7 : ¬ (6 < v2)) : ¬ (9 < v2) := by
  have := rng32 p1
  have := e_i2l e0
  have : (0 : Int64).toInt = 0 := by decide
  have := j_lt hq1
  have : (1 : Int32).toInt = 1 := by decide
  have := e_ssz e1
  have := e_isubN e2 (by omega)
  have := i_lt hq2
  have : (2 : Int32).toInt = 2 := by decide
  have := i_lt hq3
  have : (3 : Int32).toInt = 3 := by decide
  have := i_lt hq4
  have : (4 : Int32).toInt = 4 := by decide
  have := i_lt hq5
  have : (5 : Int32).toInt = 5 := by decide
  have := i_lt hq6
  have : (6 : Int32).toInt = 6 := by decide
  have := i_nlt hq7
  have := rng32 vN
  have := rng32 p2
  have := e_iadd e3
  have := i_nlt hq0
  have : (9 : Int32).toInt = 9 := by decide
  exact o_nlt (by omega)
theorem own_d84 {p1 vN p2 v1 v2 v3 : Int32} {v0 : Int64} (e0 : v0 = (p1.toInt64)) (e1 : v1 = (ssz p1)) (e2 : v2 = (v1 - 1)) (e3 : v3 = (p2 + v1)) (hq0 : ¬ (vN < v3)) (hq1 : v0 < (0 : Int64)) (hq2 : 1 < v2) (hq3 : 2 < v2) (hq4 : 3 < v2) (hq5 : 4 < v2) (hq6 : ¬ (5 < v2)) : ¬ (6 < v2) := by
  have := rng32 p1
  have := e_i2l e0
  have : (0 : Int64).toInt = 0 := by decide
  have := j_lt hq1
  have : (1 : Int32).toInt = 1 := by decide
  have := e_ssz e1
  have := e_isubN e2 (by omega)
  have := i_lt hq2
  have : (2 : Int32).toInt = 2 := by decide
  have := i_lt hq3
  have : (3 : Int32).toInt = 3 := by decide
  have := i_lt hq4
  have : (4 : Int32).toInt = 4 := by decide
  have := i_lt hq5
  have : (5 : Int32).toInt = 5 := by decide
  have := i_nlt hq6
  have := rng32 vN
  have := rng32 p2
  have := e_iadd e3
  have := i_nlt hq0
  have : (6 : Int32).toInt = 6 := by decide
  exact o_nlt (by omega)
theorem own_d85 {p1 vN p2 v1 v2 v3 : Int32} {v0 : Int64} (e0 : v0 = (p1.toInt64)) (e1 : v1 = (ssz p1)) (e2 : v2 = (v1 - 1)) (e3 : v3 = (p2 + v1)) (hq0 : ¬ (vN < v3)) (hq1 : v0 < (0 : Int64)) (hq2 : 1 < v2) (hq3 : 2 < v2) (hq4 : 3 < v2) (hq5 : 4 < v2) (hq6 : ¬ (5 < v2)) : ¬ (7 < v2) := by
  have := rng32 p1
  have := e_i2l e0
  have : (0 : Int64).toInt = 0 := by decide
  have := j_lt hq1
  have : (1 : Int32).toInt = 1 := by decide
  have := e_ssz e1
  have := e_isubN e2 (by omega)
  have := i_lt hq2
  have : (2 : Int32).toInt = 2 := by decide
  have := i_lt hq3
  have : (3 : Int32).toInt = 3 := by decide
  have := i_lt hq4
  have : (4 : Int32).toInt = 4 := by decide
  have := i_lt hq5
  have : (5 : Int32).toInt = 5 := by decide
  have := i_nlt hq6
  have := rng32 vN
  have := rng32 p2
  have := e_iadd e3
  have := i_nlt hq0
  have : (7 : Int32).toInt = 7 := by decide
  exact o_nlt (by omega)
theorem own_d86 {p1 vN p2 v1 v2 v3 : Int32} {v0 : Int64} (e0 : v0 = (p1.toInt64)) (e1 : v1 = (ssz p1)) (e2 : v2 = (v1 - 1)) (e3 : v3 = (p2 + v1)) (hq0 : ¬ (vN < v3)) (hq1 : v0 < (0 : Int64)) (hq2 : 1 < v2) (hq3 : 2 < v2) (hq4 : 3 < v2) (hq5 : 4 < v2) (hq6 : ¬ (5 < v2)) : ¬ (8 < v2) := by
  have := rng32 p1
  have := e_i2l e0
  have : (0 : Int64).toInt = 0 := by decide
  have := j_lt hq1
  have : (1 : Int32).toInt = 1 := by decide
  have := e_ssz e1
  have := e_isubN e2 (by omega)
  have := i_lt hq2
  have : (2 : Int32).toInt = 2 := by decide
  have := i_lt hq3
  have : (3 : Int32).toInt = 3 := by decide
  have := i_lt hq4
  have : (4 : Int32).toInt = 4 := by decide
  have := i_lt hq5
  have : (5 : Int32).toInt = 5 := by decide
  have := i_nlt hq6
  have := rng32 vN
  have := rng32 p2
  have := e_iadd e3
  have := i_nlt hq0
  have : (8 : Int32).toInt = 8 := by decide
  exact o_nlt (by omega)
theorem own_d87 {p1 vN p2 v1 v2 v3 : Int32} {v0 : Int64} (e0 : v0 = (p1.toInt64)) (e1 : v1 = (ssz p1)) (e2 : v2 = (v1 - 1)) (e3 : v3 = (p2 + v1)) (hq0 : ¬ (vN < v3)) (hq1 : v0 < (0 : Int64)) (hq2 : 1 < v2) (hq3 : 2 < v2) (hq4 : 3 < v2) (hq5 : 4 < v2) (hq6 : ¬ (5 < v2)) : ¬ (9 < v2) := by
  have := rng32 p1
  have := e_i2l e0
  have : (0 : Int64).toInt = 0 := by decide
  have := j_lt hq1
  have : (1 : Int32).toInt = 1 := by decide
  have := e_ssz e1
  have := e_isubN e2 (by omega)
  have := i_lt hq2
  have : (2 : Int32).toInt = 2 := by decide
  have := i_lt hq3
  have : (3 : Int32).toInt = 3 := by decide
  have := i_lt hq4
  have : (4 : Int32).toInt = 4 := by decide
  have := i_lt hq5
  have : (5 : Int32).toInt = 5 := by decide
  have := i_nlt hq6
  have := rng32 vN
  have := rng32 p2
  have := e_iadd e3
  have := i_nlt hq0
  have : (9 : Int32).toInt = 9 := by decide
  exact o_nlt (by omega)
theorem own_d88 {p1 vN p2 v1 v2 v3 : Int32} {v0 : Int64} (e0 : v0 = (p1.toInt64)) (e1 : v1 = (ssz p1)) (e2 : v2 = (v1 - 1)) (e3 : v3 = (p2 + v1)) (hq0 : ¬ (vN < v3)) (hq1 : v0 < (0 : Int64)) (hq2 : 1 < v2) (hq3 : 2 < v2) (hq4 : 3 < v2) (hq5 : ¬ (4 < v2)) : ¬ (5 < v2) := by
  have := rng32 p1
  have := e_i2l e0
  have : (0 : Int64).toInt = 0 := by decide
  have := j_lt hq1
  have : (1 : Int32).toInt = 1 := by decide
  have := e_ssz e1
  have := e_isubN e2 (by omega)
  have := i_lt hq2
  have : (2 : Int32).toInt = 2 := by decide
  have := i_lt hq3
  have : (3 : Int32).toInt = 3 := by decide
  have := i_lt hq4
  have : (4 : Int32).toInt = 4 := by decide
  have := i_nlt hq5
  have := rng32 vN
  have := rng32 p2
  have := e_iadd e3
  have := i_nlt hq0
  have : (5 : Int32).toInt = 5 := by decide
  exact o_nlt (by omega)
theorem own_d89 {p1 vN p2 v1 v2 v3 : Int32} {v0 : Int64} (e0 : v0 = (p1.toInt64)) (e1 : v1 = (ssz p1)) (e2 : v2 = (v1 - 1)) (e3 : v3 = (p2 + v1)) (hq0 : ¬ (vN < v3)) (hq1 : v0 < (0 : Int64)) (hq2 : 1 < v2) (hq3 : 2 < v2) (hq4 : 3 < v2) (hq5 : ¬ (4 < v2)) : ¬ (6 < v2) := by
  have := rng32 p1
  have := e_i2l e0
  have : (0 : Int64).toInt = 0 := by decide
  have := j_lt hq1
  have : (1 : Int32).toInt = 1 := by decide
  have := e_ssz e1
  have := e_isubN e2 (by omega)
  have := i_lt hq2
  have : (2 : Int32).toInt = 2 := by decide
  have := i_lt hq3
  have : (3 : Int32).toInt = 3 := by decide
  have := i_lt hq4
  have : (4 : Int32).toInt = 4 := by decide
  have := i_nlt hq5
  have := rng32 vN
  have := rng32 p2
  have := e_iadd e3
  have := i_nlt hq0
  have : (6 : Int32).toInt = 6 := by decide
  exact o_nlt (by omega)
theorem own_d90 {p1 vN p2 v1 v2 v3 : Int32} {v0 : Int64} (e0 : v0 = (p1.toInt64)) (e1 : v1 = (ssz p1)) (e2 : v2 = (v1 - 1)) (e3 : v3 = (p2 + v1)) (hq0 : ¬ (vN < v3)) (hq1 : v0 < (0 : Int64)) (hq2 : 1 < v2) (hq3 : 2 < v2) (hq4 : 3 < v2) (hq5 : ¬ (4 < v2)) : ¬ (7 < v2) := by
  have := rng32 p1
  have := e_i2l e0
  have : (0 : Int64).toInt = 0 := by decide
  have := j_lt hq1
  have : (1 : Int32).toInt = 1 := by decide
  have := e_ssz e1
  have := e_isubN e2 (by omega)
  have := i_lt hq2
  have : (2 : Int32).toInt = 2 := by decide
  have := i_lt hq3
  have : (3 : Int32).toInt = 3 := by decide
  have := i_lt hq4
  have : (4 : Int32).toInt = 4 := by decide
  have := i_nlt hq5
  have := rng32 vN
  have := rng32 p2
  have := e_iadd e3
  have := i_nlt hq0
  have : (7 : Int32).toInt = 7 := by decide
  exact o_nlt (by omega)
theorem own_d91 {p1 vN p2 v1 v2 v3 : Int32} {v0 : Int64} (e0 : v0 = (p1.toInt64)) (e1 : v1 = (ssz p1)) (e2 : v2 = (v1 - 1)) (e3 : v3 = (p2 + v1)) (hq0 : ¬ (vN < v3)) (hq1 : v0 < (0 : Int64)) (hq2 : 1 < v2) (hq3 : 2 < v2) (hq4 : 3 < v2) (hq5 : ¬ (4 < v2)) : ¬ (8 < v2) := by
  have := rng32 p1
  have := e_i2l e0
  have : (0 : Int64).toInt = 0 := by decide
  have := j_lt hq1
  have : (1 : Int32).toInt = 1 := by decide
  have := e_ssz e1
  have := e_isubN e2 (by omega)
  have := i_lt hq2
  have : (2 : Int32).toInt = 2 := by decide
  have := i_lt hq3
  have : (3 : Int32).toInt = 3 := by decide
  have := i_lt hq4
  have : (4 : Int32).toInt = 4 := by decide
  have := i_nlt hq5
  have := rng32 vN
  have := rng32 p2
  have := e_iadd e3
  have := i_nlt hq0
  have : (8 : Int32).toInt = 8 := by decide
  exact o_nlt (by omega)
theorem own_d92 {p1 vN p2 v1 v2 v3 : Int32} {v0 : Int64} (e0 : v0 = (p1.toInt64)) (e1 : v1 = (ssz p1)) (e2 : v2 = (v1 - 1)) (e3 : v3 = (p2 + v1)) (hq0 : ¬ (vN < v3)) (hq1 : v0 < (0 : Int64)) (hq2 : 1 < v2) (hq3 : 2 < v2) (hq4 : 3 < v2) (hq5 : ¬ (4 < v2)) : ¬ (9 < v2) := by
  have := rng32 p1
  have := e_i2l e0
  have : (0 : Int64).toInt = 0 := by decide
  have := j_lt hq1
  have : (1 : Int32).toInt = 1 := by decide
  have := e_ssz e1
  have := e_isubN e2 (by omega)
  have := i_lt hq2
  have : (2 : Int32).toInt = 2 := by decide
  have := i_lt hq3
  have : (3 : Int32).toInt = 3 := by decide
  have := i_lt hq4
  have : (4 : Int32).toInt = 4 := by decide
  have := i_nlt hq5
  have := rng32 vN
  have := rng32 p2
  have := e_iadd e3
  have := i_nlt hq0
  have : (9 : Int32).toInt = 9 := by decide
  exact o_nlt (by omega)
theorem own_d93 {p2 vN p1 v1 v2 v3 : Int32} {v0 : Int64} (e0 : v0 = (p1.toInt64)) (e1 : v1 = (ssz p1)) (e2 : v2 = (v1 - 1)) (e3 : v3 = (p2 + v1)) (hq0 : ¬ (p2 < 0)) (hq1 : p2 < 1000) (hq2 : vN < 1000) (hq3 : ¬ (vN < v3)) (hq4 : v0 < (0 : Int64)) (hq5 : 1 < v2) (hq6 : 2 < v2) (hq7 : ¬ (3 < v2)) : ¬ (4 < v2) := by
  have := rng32 p2
  have : (0 : Int32).toInt = 0 := by decide
  have := i_nlt hq0
  have : (1000 : Int32).toInt = 1000 := by decide
  have := i_lt hq1
  have := rng32 vN
  have := i_lt hq2
  have := rng32 p1
  have := e_i2l e0
  have : (0 : Int64).toInt = 0 := by decide
  have := j_lt hq4
  have : (1 : Int32).toInt = 1 := by decide
  have := e_ssz e1
  have := e_isubN e2 (by omega)
  have := i_lt hq5
  have : (2 : Int32).toInt = 2 := by decide
  have := i_lt hq6
  have : (3 : Int32).toInt = 3 := by decide
  have := i_nlt hq7
  have := e_iaddN e3 (by omega)
  have := i_nlt hq3
  have : (4 : Int32).toInt = 4 := by decide
  exact o_nlt (by omega)
theorem own_d94 {p2 vN p1 v1 v2 v3 : Int32} {v0 : Int64} (e0 : v0 = (p1.toInt64)) (e1 : v1 = (ssz p1)) (e2 : v2 = (v1 - 1)) (e3 : v3 = (p2 + v1)) (hq0 : ¬ (p2 < 0)) (hq1 : p2 < 1000) (hq2 : vN < 1000) (hq3 : ¬ (vN < v3)) (hq4 : v0 < (0 : Int64)) (hq5 : 1 < v2) (hq6 : 2 < v2) (hq7 : ¬ (3 < v2)) : ¬ (5 < v2) := by
  have := rng32 p2
  have : (0 : Int32).toInt = 0 := by decide
  have := i_nlt hq0
  have : (1000 : Int32).toInt = 1000 := by decide
  have := i_lt hq1
  have := rng32 vN
  have := i_lt hq2
  have := rng32 p1
  have := e_i2l e0
  have : (0 : Int64).toInt = 0 := by decide
  have := j_lt hq4
  have : (1 : Int32).toInt = 1 := by decide
  have := e_ssz e1
  have := e_isubN e2 (by omega)
  have := i_lt hq5
  have : (2 : Int32).toInt = 2 := by decide
  have := i_lt hq6
  have : (3 : Int32).toInt = 3 := by decide
  have := i_nlt hq7
  have := e_iaddN e3 (by omega)
  have := i_nlt hq3
  have : (5 : Int32).toInt = 5 := by decide
  exact o_nlt (by omega)
theorem own_d95 {p2 vN p1 v1 v2 v3 : Int32} {v0 : Int64} (e0 : v0 = (p1.toInt64)) (e1 : v1 = (ssz p1)) (e2 : v2 = (v1 - 1)) (e3 : v3 = (p2 + v1)) (hq0 : ¬ (p2 < 0)) (hq1 : p2 < 1000) (hq2 : vN < 1000) (hq3 : ¬ (vN < v3)) (hq4 : v0 < (0 : Int64)) (hq5 : 1 < v2) (hq6 : 2 < v2) (hq7 : ¬ (3 < v2)) : ¬ (6 < v2) := by
  have := rng32 p2
  have : (0 : Int32).toInt = 0 := by decide
  have := i_nlt hq0
  have : (1000 : Int32).toInt = 1000 := by decide
  have := i_lt hq1
  have := rng32 vN
  have := i_lt hq2
  have := rng32 p1
  have := e_i2l e0
  have : (0 : Int64).toInt = 0 := by decide
  have := j_lt hq4
  have : (1 : Int32).toInt = 1 := by decide
  have := e_ssz e1
  have := e_isubN e2 (by omega)
  have := i_lt hq5
  have : (2 : Int32).toInt = 2 := by decide
  have := i_lt hq6
  have : (3 : Int32).toInt = 3 := by decide
  have := i_nlt hq7
  have := e_iaddN e3 (by omega)
  have := i_nlt hq3
  have : (6 : Int32).toInt = 6 := by decide
  exact o_nlt (by omega)
theorem own_d96 {p2 vN p1 v1 v2 v3 : Int32} {v0 : Int64} (e0 : v0 = (p1.toInt64)) (e1 : v1 = (ssz p1)) (e2 : v2 = (v1 - 1)) (e3 : v3 = (p2 + v1)) (hq0 : ¬ (p2 < 0)) (hq1 : p2 < 1000) (hq2 : vN < 1000) (hq3 : ¬ (vN < v3)) (hq4 : v0 < (0 : Int64)) (hq5 : 1 < v2) (hq6 : 2 < v2) (hq7 : ¬ (3 < v2)) : ¬ (7 < v2) := by
  have := rng32 p2
  have : (0 : Int32).toInt = 0 := by decide
  have := i_nlt hq0
  have : (1000 : Int32).toInt = 1000 := by decide
  have := i_lt hq1
  have := rng32 vN
  have := i_lt hq2
  have := rng32 p1
  have := e_i2l e0
  have : (0 : Int64).toInt = 0 := by decide
  have := j_lt hq4
  have : (1 : Int32).toInt = 1 := by decide
  have := e_ssz e1
  have := e_isubN e2 (by omega)
  have := i_lt hq5
  have : (2 : Int32).toInt = 2 := by decide
  have := i_lt hq6
  have : (3 : Int32).toInt = 3 := by decide
  have := i_nlt hq7
  have := e_iaddN e3 (by omega)
  have := i_nlt hq3
  have : (7 : Int32).toInt = 7 := by decide
  exact o_nlt (by omega)
theorem own_d97 {p2 vN p1 v1 v2 v3 : Int32} {v0 : Int64} (e0 : v0 = (p1.toInt64)) (e1 : v1 = (ssz p1)) (e2 : v2 = (v1 - 1)) (e3 : v3 = (p2 + v1)) (hq0 : ¬ (p2 < 0)) (hq1 : p2 < 1000) (hq2 : vN < 1000) (hq3 : ¬ (vN < v3)) (hq4 : v0 < (0 : Int64)) (hq5 : 1 < v2) (hq6 : 2 < v2) (hq7 : ¬ (3 < v2)) : ¬ (8 < v2) := by
  have := rng32 p2
  have : (0 : Int32).toInt = 0 := by decide
  have := i_nlt hq0
  have : (1000 : Int32).toInt = 1000 := by decide
  have := i_lt hq1
  have := rng32 vN
  have := i_lt hq2
  have := rng32 p1
  have := e_i2l e0
  have : (0 : Int64).toInt = 0 := by decide
  have := j_lt hq4
  have : (1 : Int32).toInt = 1 := by decide
  have := e_ssz e1
  have := e_isubN e2 (by omega)
  have := i_lt hq5
  have : (2 : Int32).toInt = 2 := by decide
  have := i_lt hq6
  have : (3 : Int32).toInt = 3 := by decide
  have := i_nlt hq7
  have := e_iaddN e3 (by omega)
  have := i_nlt hq3
  have : (8 : Int32).toInt = 8 := by decide
  exact o_nlt (by omega)
theorem own_d98 {p2 vN p1 v1 v2 v3 : Int32} {v0 : Int64} (e0 : v0 = (p1.toInt64)) (e1 : v1 = (ssz p1)) (e2 : v2 = (v1 - 1)) (e3 : v3 = (p2 + v1)) (hq0 : ¬ (p2 < 0)) (hq1 : p2 < 1000) (hq2 : vN < 1000) (hq3 : ¬ (vN < v3)) (hq4 : v0 < (0 : Int64)) (hq5 : 1 < v2) (hq6 : 2 < v2) (hq7 : ¬ (3 < v2)) : ¬ (9 < v2) := by
  have := rng32 p2
  have : (0 : Int32).toInt = 0 := by decide
  have := i_nlt hq0
  have : (1000 : Int32).toInt = 1000 := by decide
  have := i_lt hq1
  have := rng32 vN
  have := i_lt hq2
  have := rng32 p1
  have := e_i2l e0
  have : (0 : Int64).toInt = 0 := by decide
  have := j_lt hq4
  have : (1 : Int32).toInt = 1 := by decide
  have := e_ssz e1
  have := e_isubN e2 (by omega)
  have := i_lt hq5
  have : (2 : Int32).toInt = 2 := by decide
  have := i_lt hq6
  have : (3 : Int32).toInt = 3 := by decide
  have := i_nlt hq7
  have := e_iaddN e3 (by omega)
  have := i_nlt hq3
  have : (9 : Int32).toInt = 9 := by decide
  exact o_nlt (by omega)
theorem own_d99 {p2 vN p1 v1 v2 v3 : Int32} {v0 : Int64} (e0 : v0 = (p1.toInt64)) (e1 : v1 = (ssz p1)) (e2 : v2 = (v1 - 1)) (e3 : v3 = (p2 + v1)) (hq0 : ¬ (p2 < 0)) (hq1 : p2 < 1000) (hq2 : vN < 1000) (hq3 : ¬ (vN < v3)) (hq4 : v0 < (0 : Int64)) (hq5 : 1 < v2) (hq6 : ¬ (2 < v2)) : ¬ (3 < v2) := by
  have := rng32 p2
  have : (0 : Int32).toInt = 0 := by decide
  have := i_nlt hq0
  have : (1000 : Int32).toInt = 1000 := by decide
  have := i_lt hq1
  have := rng32 vN
  have := i_lt hq2
  have := rng32 p1
  have := e_i2l e0
  have : (0 : Int64).toInt = 0 := by decide
  have := j_lt hq4
  have : (1 : Int32).toInt = 1 := by decide
  have := e_ssz e1
  have := e_isubN e2 (by omega)
  have := i_lt hq5
  have : (2 : Int32).toInt = 2 := by decide
  have := i_nlt hq6
  have := e_iaddN e3 (by omega)
  have := i_nlt hq3
  have : (3 : Int32).toInt = 3 := by decide
  exact o_nlt (by omega)
theorem own_d100 {p2 vN p1 v1 v2 v3 : Int32} {v0 : Int64} (e0 : v0 = (p1.toInt64)) (e1 : v1 = (ssz p1)) (e2 : v2 = (v1 - 1)) (e3 : v3 = (p2 + v1)) (hq0 : ¬ (p2 < 0)) (hq1 : p2 < 1000) (hq2 : vN < 1000) (hq3 : ¬ (vN < v3)) (hq4 : v0 < (0 : Int64)) (hq5 : 1 < v2) (hq6 : ¬ (2 < v2)) : ¬ (4 < v2) := by
  have := rng32 p2
  have : (0 : Int32).toInt = 0 := by decide
  have := i_nlt hq0
  have : (1000 : Int32).toInt = 1000 := by decide
  have := i_lt hq1
  have := rng32 vN
  have := i_lt hq2
  have := rng32 p1
  have := e_i2l e0
  have : (0 : Int64).toInt = 0 := by decide
  have := j_lt hq4
  have : (1 : Int32).toInt = 1 := by decide
  have := e_ssz e1
  have := e_isubN e2 (by omega)
  have := i_lt hq5
  have : (2 : Int32).toInt = 2 := by decide
  have := i_nlt hq6
  have := e_iaddN e3 (by omega)
  have := i_nlt hq3
  have : (4 : Int32).toInt = 4 := by decide
  exact o_nlt (by omega)
theorem own_d101 {p2 vN p1 v1 v2 v3 : Int32} {v0 : Int64} (e0 : v0 = (p1.toInt64)) (e1 : v1 = (ssz p1)) (e2 : v2 = (v1 - 1)) (e3 : v3 = (p2 + v1)) (hq0 : ¬ (p2 < 0)) (hq1 : p2 < 1000) (hq2 : vN < 1000) (hq3 : ¬ (vN < v3)) (hq4 : v0 < (0 : Int64)) (hq5 : 1 < v2) (hq6 : ¬ (2 < v2)) : ¬ (5 < v2) := by
  have := rng32 p2
  have : (0 : Int32).toInt = 0 := by decide
  have := i_nlt hq0
  have : (1000 : Int32).toInt = 1000 := by decide
  have := i_lt hq1
  have := rng32 vN
  have := i_lt hq2
  have := rng32 p1
  have := e_i2l e0
  have : (0 : Int64).toInt = 0 := by decide
  have := j_lt hq4
  have : (1 : Int32).toInt = 1 := by decide
  have := e_ssz e1
  have := e_isubN e2 (by omega)
  have := i_lt hq5
  have : (2 : Int32).toInt = 2 := by decide
  have := i_nlt hq6
  have := e_iaddN e3 (by omega)
  have := i_nlt hq3
  have : (5 : Int32).toInt = 5 := by decide
  exact o_nlt (by omega)
theorem own_d102 {p2 vN p1 v1 v2 v3 : Int32} {v0 : Int64} (e0 : v0 = (p1.toInt64)) (e1 : v1 = (ssz p1)) (e2 : v2 = (v1 - 1)) (e3 : v3 = (p2 + v1)) (hq0 : ¬ (p2 < 0)) (hq1 : p2 < 1000) (hq2 : vN < 1000) (hq3 : ¬ (vN < v3)) (hq4 : v0 < (0 : Int64)) (hq5 : 1 < v2) (hq6 : ¬ (2 < v2)) : ¬ (6 < v2) := by
  have := rng32 p2
  have : (0 : Int32).toInt = 0 := by decide
  have := i_nlt hq0
  have : (1000 : Int32).toInt = 1000 := by decide
  have := i_lt hq1
  have := rng32 vN
  have := i_lt hq2
  have := rng32 p1
  have := e_i2l e0
  have : (0 : Int64).toInt = 0 := by decide
  have := j_lt hq4
  have : (1 : Int32).toInt = 1 := by decide
  have := e_ssz e1
  have := e_isubN e2 (by omega)
  have := i_lt hq5
  have : (2 : Int32).toInt = 2 := by decide
  have := i_nlt hq6
  have := e_iaddN e3 (by omega)
  have := i_nlt hq3
  have : (6 : Int32).toInt = 6 := by decide
  exact o_nlt (by omega)
theorem own_d103 {p2 vN p1 v1 v2 v3 : Int32} {v0 : Int64} (e0 : v0 = (p1.toInt64)) (e1 : v1 = (ssz p1)) (e2 : v2 = (v1 - 1)) (e3 : v3 = (p2 + v1)) (hq0 : ¬ (p2 < 0)) (hq1 : p2 < 1000) (hq2 : vN < 1000) (hq3 : ¬ (vN < v3)) (hq4 : v0 < (0 : Int64)) (hq5 : 1 < v2) (hq6 : ¬ (2 < v2)) : ¬ (7 < v2) := by
  have := rng32 p2
  have : (0 : Int32).toInt = 0 := by decide
  have := i_nlt hq0
  have : (1000 : Int32).toInt = 1000 := by decide
  have := i_lt hq1
  have := rng32 vN
  have := i_lt hq2
  have := rng32 p1
  have := e_i2l e0
  have : (0 : Int64).toInt = 0 := by decide
  have := j_lt hq4
  have : (1 : Int32).toInt = 1 := by decide
  have := e_ssz e1
  have := e_isubN e2 (by omega)
  have := i_lt hq5
  have : (2 : Int32).toInt = 2 := by decide
  have := i_nlt hq6
  have := e_iaddN e3 (by omega)
  have := i_nlt hq3
  have : (7 : Int32).toInt = 7 := by decide
  exact o_nlt (by omega)
theorem own_d104 {p2 vN p1 v1 v2 v3 : Int32} {v0 : Int64} (e0 : v0 = (p1.toInt64)) (e1 : v1 = (ssz p1)) (e2 : v2 = (v1 - 1)) (e3 : v3 = (p2 + v1)) (hq0 : ¬ (p2 < 0)) (hq1 : p2 < 1000) (hq2 : vN < 1000) (hq3 : ¬ (vN < v3)) (hq4 : v0 < (0 : Int64)) (hq5 : 1 < v2) (hq6 : ¬ (2 < v2)) : ¬ (8 < v2) := by
  have := rng32 p2
  have : (0 : Int32).toInt = 0 := by decide
  have := i_nlt hq0
  have : (1000 : Int32).toInt = 1000 := by decide
  have := i_lt hq1
  have := rng32 vN
  have := i_lt hq2
  have := rng32 p1
  have := e_i2l e0
  have : (0 : Int64).toInt = 0 := by decide
  have := j_lt hq4
  have : (1 : Int32).toInt = 1 := by decide
  have := e_ssz e1
  have := e_isubN e2 (by omega)
  have := i_lt hq5
  have : (2 : Int32).toInt = 2 := by decide
  have := i_nlt hq6
  have := e_iaddN e3 (by omega)
  have := i_nlt hq3
  have : (8 : Int32).toInt = 8 := by decide
  exact o_nlt (by omega)
theorem own_d105 {p2 vN p1 v1 v2 v3 : Int32} {v0 : Int64} (e0 : v0 = (p1.toInt64)) (e1 : v1 = (ssz p1)) (e2 : v2 = (v1 - 1)) (e3 : v3 = (p2 + v1)) (hq0 : ¬ (p2 < 0)) (hq1 : p2 < 1000) (hq2 : vN < 1000) (hq3 : ¬ (vN < v3)) (hq4 : v0 < (0 : Int64)) (hq5 : 1 < v2) (hq6 : ¬ (2 < v2)) : ¬ (9 < v2) := by
  have := rng32 p2
  have : (0 : Int32).toInt = 0 := by decide
  have := i_nlt hq0
  have : (1000 : Int32).toInt = 1000 := by decide
  have := i_lt hq1
  have := rng32 vN
  have := i_lt hq2
  have := rng32 p1
  have := e_i2l e0
  have : (0 : Int64).toInt = 0 := by decide
  have := j_lt hq4
  have : (1 : Int32).toInt = 1 := by decide
  have := e_ssz e1
  have := e_isubN e2 (by omega)
  have := i_lt hq5
  have : (2 : Int32).toInt = 2 := by decide
  have := i_nlt hq6
  have := e_iaddN e3 (by omega)
  have := i_nlt hq3
  have : (9 : Int32).toInt = 9 := by decide
  exact o_nlt (by omega)
theorem own_d106 {p2 vN p1 v1 v2 v3 : Int32} {v0 : Int64} (e0 : v0 = (p1.toInt64)) (e1 : v1 = (ssz p1)) (e2 : v2 = (v1 - 1)) (e3 : v3 = (p2 + v1)) (hq0 : ¬ (p2 < 0)) (hq1 : p2 < 1000) (hq2 : vN < 1000) (hq3 : ¬ (vN < v3)) (hq4 : v0 < (0 : Int64)) (hq5 : ¬ (1 < v2)) : ¬ (2 < v2) := by
  have := rng32 p2
  have : (0 : Int32).toInt = 0 := by decide
  have := i_nlt hq0
  have : (1000 : Int32).toInt = 1000 := by decide
  have := i_lt hq1
  have := rng32 vN
  have := i_lt hq2
  have := rng32 p1
  have := e_i2l e0
  have : (0 : Int64).toInt = 0 := by decide
  have := j_lt hq4
  have : (1 : Int32).toInt = 1 := by decide
  have := e_ssz e1
  have := e_isubN e2 (by omega)
  have := i_nlt hq5
  have := e_iaddN e3 (by omega)
  have := i_nlt hq3
  have : (2 : Int32).toInt = 2 := by decide
  exact o_nlt (by omega)
theorem own_d107 {p2 vN p1 v1 v2 v3 : Int32} {v0 : Int64} (e0 : v0 = (p1.toInt64)) (e1 : v1 = (ssz p1)) (e2 : v2 = (v1 - 1)) (e3 : v3 = (p2 + v1)) (hq0 : ¬ (p2 < 0)) (hq1 : p2 < 1000) (hq2 : vN < 1000) (hq3 : ¬ (vN < v3)) (hq4 : v0 < (0 : Int64)) (hq5 : ¬ (1 < v2)) : ¬ (3 < v2) := by
  have := rng32 p2
  have : (0 : Int32).toInt = 0 := by decide
  have := i_nlt hq0
  have : (1000 : Int32).toInt = 1000 := by decide
  have := i_lt hq1
  have := rng32 vN
  have := i_lt hq2
  have := rng32 p1
  have := e_i2l e0
  have : (0 : Int64).toInt = 0 := by decide
  have := j_lt hq4
  have : (1 : Int32).toInt = 1 := by decide
  have := e_ssz e1
  have := e_isubN e2 (by omega)
  have := i_nlt hq5
  have := e_iaddN e3 (by omega)
  have := i_nlt hq3
  have : (3 : Int32).toInt = 3 := by decide
  exact o_nlt (by omega)
theorem own_d108 {p2 vN p1 v1 v2 v3 : Int32} {v0 : Int64} (e0 : v0 = (p1.toInt64)) (e1 : v1 = (ssz p1)) (e2 : v2 = (v1 - 1)) (e3 : v3 = (p2 + v1)) (hq0 : ¬ (p2 < 0)) (hq1 : p2 < 1000) (hq2 : vN < 1000) (hq3 : ¬ (vN < v3)) (hq4 : v0 < (0 : Int64)) (hq5 : ¬ (1 < v2)) : ¬ (4 < v2) := by
  have := rng32 p2
  have : (0 : Int32).toInt = 0 := by decide
  have := i_nlt hq0
  have : (1000 : Int32).toInt = 1000 := by decide
  have := i_lt hq1
  have := rng32 vN
  have := i_lt hq2
  have := rng32 p1
  have := e_i2l e0
  have : (0 : Int64).toInt = 0 := by decide
  have := j_lt hq4
  have : (1 : Int32).toInt = 1 := by decide
  have := e_ssz e1
  have := e_isubN e2 (by omega)
  have := i_nlt hq5
  have := e_iaddN e3 (by omega)
  have := i_nlt hq3
  have : (4 : Int32).toInt = 4 := by decide
  exact o_nlt (by omega)
theorem own_d109 {p2 vN p1 v1 v2 v3 : Int32} {v0 : Int64} (e0 : v0 = (p1.toInt64)) (e1 : v1 = (ssz p1)) (e2 : v2 = (v1 - 1)) (e3 : v3 = (p2 + v1)) (hq0 : ¬ (p2 < 0)) (hq1 : p2 < 1000) (hq2 : vN < 1000) (hq3 : ¬ (vN < v3)) (hq4 : v0 < (0 : Int64)) (hq5 : ¬ (1 < v2)) : ¬ (5 < v2) := by
  have := rng32 p2
  have : (0 : Int32).toInt = 0 := by decide
  have := i_nlt hq0
  have : (1000 : Int32).toInt = 1000 := by decide
  have := i_lt hq1
  have := rng32 vN
  have := i_lt hq2
  have := rng32 p1
  have := e_i2l e0
  have : (0 : Int64).toInt = 0 := by decide
  have := j_lt hq4
  have : (1 : Int32).toInt = 1 := by decide
  have := e_ssz e1
  have := e_isubN e2 (by omega)
  have := i_nlt hq5
  have := e_iaddN e3 (by omega)
  have := i_nlt hq3
  have : (5 : Int32).toInt = 5 := by decide
  exact o_nlt (by omega)
theorem own_d110 {p2 vN p1 v1 v2 v3 : Int32} {v0 : Int64} (e0 : v0 = (p1.toInt64)) (e1 : v1 = (ssz p1)) (e2 : v2 = (v1 - 1)) (e3 : v3 = (p2 + v1)) (hq0 : ¬ (p2 < 0)) (hq1 : p2 < 1000) (hq2 : vN < 1000) (hq3 : ¬ (vN < v3)) (hq4 : v0 < (0 : Int64)) (hq5 : ¬ (1 < v2)) : ¬ (6 < v2) := by
  have := rng32 p2
  have : (0 : Int32).toInt = 0 := by decide
  have := i_nlt hq0
  have : (1000 : Int32).toInt = 1000 := by decide
  have := i_lt hq1
  have := rng32 vN
  have := i_lt hq2
  have := rng32 p1
  have := e_i2l e0
  have : (0 : Int64).toInt = 0 := by decide
  have := j_lt hq4
  have : (1 : Int32).toInt = 1 := by decide
  have := e_ssz e1
  have := e_isubN e2 (by omega)
  have := i_nlt hq5
  have := e_iaddN e3 (by omega)
  have := i_nlt hq3
  have : (6 : Int32).toInt = 6 := by decide
  exact o_nlt (by omega)
theorem own_d111 {p2 vN p1 v1 v2 v3 : Int32} {v0 : Int64} (e0 : v0 = (p1.toInt64)) (e1 : v1 = (ssz p1)) (e2 : v2 = (v1 - 1)) (e3 : v3 = (p2 + v1)) (hq0 : ¬ (p2 < 0)) (hq1 : p2 < 1000) (hq2 : vN < 1000) (hq3 : ¬ (vN < v3)) (hq4 : v0 < (0 : Int64)) (hq5 : ¬ (1 < v2)) : ¬ (7 < v2) := by
  have := rng32 p2
  have : (0 : Int32).toInt = 0 := by decide
  have := i_nlt hq0
  have : (1000 : Int32).toInt = 1000 := by decide
  have := i_lt hq1
  have := rng32 vN
  have := i_lt hq2
  have := rng32 p1
  have := e_i2l e0
  have : (0 : Int64).toInt = 0 := by decide
  have := j_lt hq4
  have : (1 : Int32).toInt = 1 := by decide
  have := e_ssz e1
  have := e_isubN e2 (by omega)
  have := i_nlt hq5
  have := e_iaddN e3 (by omega)
  have := i_nlt hq3
  have : (7 : Int32).toInt = 7 := by decide
  exact o_nlt (by omega)
theorem own_d112 {p2 vN p1 v1 v2 v3 : Int32} {v0 : Int64} (e0 : v0 = (p1.toInt64)) (e1 : v1 = (ssz p1)) (e2 : v2 = (v1 - 1)) (e3 : v3 = (p2 + v1)) (hq0 : ¬ (p2 < 0)) (hq1 : p2 < 1000) (hq2 : vN < 1000) (hq3 : ¬ (vN < v3)) (hq4 : v0 < (0 : Int64)) (hq5 : ¬ (1 < v2)) : ¬ (8 < v2) := by
  have := rng32 p2
  have : (0 : Int32).toInt = 0 := by decide
  have := i_nlt hq0
  have : (1000 : Int32).toInt = 1000 := by decide
  have := i_lt hq1
  have := rng32 vN
  have := i_lt hq2
  have := rng32 p1
  have := e_i2l e0
  have : (0 : Int64).toInt = 0 := by decide
  have := j_lt hq4
  have : (1 : Int32).toInt = 1 := by decide
  have := e_ssz e1
  have := e_isubN e2 (by omega)
  have := i_nlt hq5
  have := e_iaddN e3 (by omega)
  have := i_nlt hq3
  have : (8 : Int32).toInt = 8 := by decide
  exact o_nlt (by omega)
theorem own_d113 {p2 vN p1 v1 v2 v3 : Int32} {v0 : Int64} (e0 : v0 = (p1.toInt64)) (e1 : v1 = (ssz p1)) (e2 : v2 = (v1 - 1)) (e3 : v3 = (p2 + v1)) (hq0 : ¬ (p2 < 0)) (hq1 : p2 < 1000) (hq2 : vN < 1000) (hq3 : ¬ (vN < v3)) (hq4 : v0 < (0 : Int64)) (hq5 : ¬ (1 < v2)) : ¬ (9 < v2) := by
  have := rng32 p2
  have : (0 : Int32).toInt = 0 := by decide
  have := i_nlt hq0
  have : (1000 : Int32).toInt = 1000 := by decide
  have := i_lt hq1
  have := rng32 vN
  have := i_lt hq2
  have := rng32 p1
  have := e_i2l e0
  have : (0 : Int64).toInt = 0 := by decide
  have := j_lt hq4
  have : (1 : Int32).toInt = 1 := by decide
  have := e_ssz e1
  have := e_isubN e2 (by omega)
  have := i_nlt hq5
  have := e_iaddN e3 (by omega)
  have := i_nlt hq3
  have : (9 : Int32).toInt = 9 := by decide
  exact o_nlt (by omega)
theorem own_d114 {p2 vN p1 v1 v2 : Int32} {v0 : Int64} (e0 : v0 = (p1.toInt64)) (e1 : v1 = (ssz p1)) (e2 : v2 = (p2 + v1)) (hq0 : ¬ (p2 < 0)) (hq1 : p2 < 1000) (hq2 : vN < 1000) (hq3 : ¬ (vN < v2)) (hq4 : ¬ (v0 < (0 : Int64))) : ¬ (p1 < 0) := by
  have := rng32 p2
  have : (0 : Int32).toInt = 0 := by decide
  have := i_nlt hq0
  have : (1000 : Int32).toInt = 1000 := by decide
  have := i_lt hq1
  have := rng32 vN
  have := i_lt hq2
  have := rng32 p1
  have := e_i2l e0
  have : (0 : Int64).toInt = 0 := by decide
  have := j_nlt hq4
  have := e_ssz e1
  have := e_iaddN e2 (by omega)
  have := i_nlt hq3
  exact o_nlt (by omega)
theorem D39_14 : Dc J39 14 (.iconst 0) 1 15 := by decide +kernel
theorem D39_28 : Dc J39 28 (.iload_n 1) 1 29 := by decide +kernel
theorem own_d115 {p2 vN p1 v1 v2 : Int32} {v0 : Int64} (e0 : v0 = (p1.toInt64)) (e1 : v1 = (ssz p1)) (e2 : v2 = (p2 + v1)) (hq0 : ¬ (p2 < 0)) (hq1 : p2 < 1000) (hq2 : vN < 1000) (hq3 : ¬ (vN < v2)) (hq4 : ¬ (v0 < (0 : Int64))) : v0 < (10000000000 : Int64) := by
  have := rng32 p2
  have : (0 : Int32).toInt = 0 := by decide
  have := i_nlt hq0
  have : (1000 : Int32).toInt = 1000 := by decide
  have := i_lt hq1
  have := rng32 vN
  have := i_lt hq2
  have := rng32 p1
  have := e_i2l e0
  have : (0 : Int64).toInt = 0 := by decide
  have := j_nlt hq4
  have := e_ssz e1
  have := e_iaddN e2 (by omega)
  have := i_nlt hq3
  have : (10000000000 : Int64).toInt = 10000000000 := by decide
  exact u_lt (by omega)
theorem own_d116 {p2 vN p1 v1 v2 v3 : Int32} {v0 : Int64} (e0 : v0 = (p1.toInt64)) (e1 : v1 = (ssz p1)) (e2 : v2 = (p2 + v1)) (e3 : v3 = (v2 - 1)) (hq0 : ¬ (p2 < 0)) (hq1 : p2 < 1000) (hq2 : vN < 1000) (hq3 : ¬ (vN < v2)) (hq4 : ¬ (v0 < (0 : Int64))) : ¬ (v3 < 0) := by
  have := rng32 p2
  have : (0 : Int32).toInt = 0 := by decide
  have := i_nlt hq0
  have : (1000 : Int32).toInt = 1000 := by decide
  have := i_lt hq1
  have := rng32 vN
  have := i_lt hq2
  have := rng32 p1
  have := e_i2l e0
  have : (0 : Int64).toInt = 0 := by decide
  have := j_nlt hq4
  have := e_ssz e1
  have := e_iaddN e2 (by omega)
  have := i_nlt hq3
  have : (1 : Int32).toInt = 1 := by decide
  have := e_isubN e3 (by omega)
  exact o_nlt (by omega)
theorem own_d117 {p2 vN p1 v1 v2 v3 : Int32} {v0 : Int64} (e0 : v0 = (p1.toInt64)) (e1 : v1 = (ssz p1)) (e2 : v2 = (p2 + v1)) (e3 : v3 = (v2 - 1)) (hq0 : ¬ (p2 < 0)) (hq1 : p2 < 1000) (hq2 : vN < 1000) (hq3 : ¬ (vN < v2)) (hq4 : ¬ (v0 < (0 : Int64))) : v3 < vN := by
  have := rng32 p2
  have : (0 : Int32).toInt = 0 := by decide
  have := i_nlt hq0
  have : (1000 : Int32).toInt = 1000 := by decide
  have := i_lt hq1
  have := rng32 vN
  have := i_lt hq2
  have := rng32 p1
  have := e_i2l e0
  have : (0 : Int64).toInt = 0 := by decide
  have := j_nlt hq4
  have := e_ssz e1
  have := e_iaddN e2 (by omega)
  have := i_nlt hq3
  have : (1 : Int32).toInt = 1 := by decide
  have := e_isubN e3 (by omega)
  exact o_lt (by omega)
theorem own_d118 {p2 vN p1 v0 v2 v3 : Int32} {v1 : Int64} (e0 : v0 = (ssz p1)) (e1 : v1 = (p1.toInt64)) (e2 : v2 = (p2 + v0)) (e3 : v3 = (v2 - 2)) (hq0 : ¬ (p2 < 0)) (hq1 : p2 < 1000) (hq2 : vN < 1000) (hq3 : ¬ (vN < v2)) (hq4 : ¬ (v1 < (0 : Int64))) (hq5 : 1 < v0) : ¬ (v3 < 0) := by
  have := rng32 p2
  have : (0 : Int32).toInt = 0 := by decide
  have := i_nlt hq0
  have : (1000 : Int32).toInt = 1000 := by decide
  have := i_lt hq1
  have := rng32 vN
  have := i_lt hq2
  have : (1 : Int32).toInt = 1 := by decide
  have := rng32 p1
  have := e_ssz e0
  have := i_lt hq5
  have := e_i2l e1
  have : (0 : Int64).toInt = 0 := by decide
  have := j_nlt hq4
  have := e_iaddN e2 (by omega)
  have := i_nlt hq3
  have : (2 : Int32).toInt = 2 := by decide
  have := e_isubN e3 (by omega)
  exact o_nlt (by omega)
theorem own_d119 {p2 vN p1 v0 v2 v3 : Int32} {v1 : Int64} (e0 : v0 = (ssz p1)) (e1 : v1 = (p1.toInt64)) (e2 : v2 = (p2 + v0)) (e3 : v3 = (v2 - 2)) (hq0 : ¬ (p2 < 0)) (hq1 : p2 < 1000) (hq2 : vN < 1000) (hq3 : ¬ (vN < v2)) (hq4 : ¬ (v1 < (0 : Int64))) (hq5 : 1 < v0) : v3 < vN := by
  have := rng32 p2
  have : (0 : Int32).toInt = 0 := by decide
  have := i_nlt hq0
  have : (1000 : Int32).toInt = 1000 := by decide
  have := i_lt hq1
  have := rng32 vN
  have := i_lt hq2
  have : (1 : Int32).toInt = 1 := by decide
  have := rng32 p1
  have := e_ssz e0
  have := i_lt hq5
  have := e_i2l e1
  have : (0 : Int64).toInt = 0 := by decide
  have := j_nlt hq4
  have := e_iaddN e2 (by omega)
  have := i_nlt hq3
  have : (2 : Int32).toInt = 2 := by decide
  have := e_isubN e3 (by omega)
  exact o_lt (by omega)
theorem own_d120 {p2 vN p1 v0 v2 v3 : Int32} {v1 : Int64} (e0 : v0 = (ssz p1)) (e1 : v1 = (p1.toInt64)) (e2 : v2 = (p2 + v0)) (e3 : v3 = (v2 - 3)) (hq0 : ¬ (p2 < 0)) (hq1 : p2 < 1000) (hq2 : vN < 1000) (hq3 : ¬ (vN < v2)) (hq4 : ¬ (v1 < (0 : Int64))) (hq5 : 1 < v0) (hq6 : 2 < v0) : ¬ (v3 < 0) := by
  have := rng32 p2
  have : (0 : Int32).toInt = 0 := by decide
  have := i_nlt hq0
  have : (1000 : Int32).toInt = 1000 := by decide
  have := i_lt hq1
  have := rng32 vN
  have := i_lt hq2
  have : (1 : Int32).toInt = 1 := by decide
  have := rng32 p1
  have := e_ssz e0
  have := i_lt hq5
  have : (2 : Int32).toInt = 2 := by decide
  have := i_lt hq6
  have := e_i2l e1
  have : (0 : Int64).toInt = 0 := by decide
  have := j_nlt hq4
  have := e_iaddN e2 (by omega)
  have := i_nlt hq3
  have : (3 : Int32).toInt = 3 := by decide
  have := e_isubN e3 (by omega)
  exact o_nlt (by omega)
theorem own_d121 {p2 vN p1 v0 v2 v3 : Int32} {v1 : Int64} (e0 : v0 = (ssz p1)) (e1 : v1 = (p1.toInt64)) (e2 : v2 = (p2 + v0)) (e3 : v3 = (v2 - 3)) (hq0 : ¬ (p2 < 0)) (hq1 : p2 < 1000) (hq2 : vN < 1000) (hq3 : ¬ (vN < v2)) (hq4 : ¬ (v1 < (0 : Int64))) (hq5 : 1 < v0) (hq6 : 2 < v0) : v3 < vN := by
  have := rng32 p2
  have : (0 : Int32).toInt = 0 := by decide
  have := i_nlt hq0
  have : (1000 : Int32).toInt = 1000 := by decide
  have := i_lt hq1
  have := rng32 vN
  have := i_lt hq2
  have : (1 : Int32).toInt = 1 := by decide
  have := rng32 p1
  have := e_ssz e0
  have := i_lt hq5
  have : (2 : Int32).toInt = 2 := by decide
  have := i_lt hq6
  have := e_i2l e1
  have : (0 : Int64).toInt = 0 := by decide
  have := j_nlt hq4
  have := e_iaddN e2 (by omega)
  have := i_nlt hq3
  have : (3 : Int32).toInt = 3 := by decide
  have := e_isubN e3 (by omega)
  exact o_lt (by omega)
theorem own_d122 {p2 vN p1 v0 v2 v3 : Int32} {v1 : Int64} (e0 : v0 = (ssz p1)) (e1 : v1 = (p1.toInt64)) (e2 : v2 = (p2 + v0)) (e3 : v3 = (v2 - 4)) (hq0 : ¬ (p2 < 0)) (hq1 : p2 < 1000) (hq2 : vN < 1000) (hq3 : ¬ (vN < v2)) (hq4 : ¬ (v1 < (0 : Int64))) (hq5 : 1 < v0) (hq6 : 2 < v0) (hq7 : 3 < v0) : ¬ (v3 < 0) := by
  have := rng32 p2
  have : (0 : Int32).toInt = 0 := by decide
  have := i_nlt hq0
  have : (1000 : Int32).toInt = 1000 := by decide
  have := i_lt hq1
  have := rng32 vN
  have := i_lt hq2
  have : (1 : Int32).toInt = 1 := by decide
  have := rng32 p1
  have := e_ssz e0
  have := i_lt hq5
  have : (2 : Int32).toInt = 2 := by decide
  have := i_lt hq6
  have : (3 : Int32).toInt = 3 := by decide
  have := i_lt hq7
  have := e_i2l e1
  have : (0 : Int64).toInt = 0 := by decide
  have := j_nlt hq4
  have := e_iaddN e2 (by omega)
  have := i_nlt hq3
  have : (4 : Int32).toInt = 4 := by decide
  have := e_isubN e3 (by omega)
  exact o_nlt (by omega)
theorem own_d123 {p2 vN p1 v0 v2 v3 : Int32} {v1 : Int64} (e0 : v0 = (ssz p1)) (e1 : v1 = (p1.toInt64)) (e2 : v2 = (p2 + v0)) (e3 : v3 = (v2 - 4)) (hq0 : ¬ (p2 < 0)) (hq1 : p2 < 1000) (hq2 : vN < 1000) (hq3 : ¬ (vN < v2)) (hq4 : ¬ (v1 < (0 : Int64))) (hq5 : 1 < v0) (hq6 : 2 < v0) (hq7 : 3 < v0) : v3 < vN := by
  have := rng32 p2
  have : (0 : Int32).toInt = 0 := by decide
  have := i_nlt hq0
  have : (1000 : Int32).toInt = 1000 := by decide
  have := i_lt hq1
  have := rng32 vN
  have := i_lt hq2
  have : (1 : Int32).toInt = 1 := by decide
  have := rng32 p1
  have := e_ssz e0
  have := i_lt hq5
  have : (2 : Int32).toInt = 2 := by decide
  have := i_lt hq6
  have : (3 : Int32).toInt = 3 := by decide
  have := i_lt hq7
  have := e_i2l e1
  have : (0 : Int64).toInt = 0 := by decide
  have := j_nlt hq4
  have := e_iaddN e2 (by omega)
  have := i_nlt hq3
  have : (4 : Int32).toInt = 4 := by decide
  have := e_isubN e3 (by omega)
  exact o_lt (by omega)
theorem own_d124 {p2 p1 vN v0 v2 v3 : Int32} {v1 : Int64} (e0 : v0 = (ssz p1)) (e1 : v1 = (p1.toInt64)) (e2 : v2 = (p2 + v0)) (e3 : v3 = (v2 - 5)) (hq0 : ¬ (p2 < 0)) (hq1 : p2 < 1000) (hq2 : ¬ (vN < v2)) (hq3 : ¬ (v1 < (0 : Int64))) (hq4 : 1 < v0) (hq5 : 2 < v0) (hq6 : 3 < v0) (hq7 : 4 < v0) : ¬ (v3 < 0) := by
  have := rng32 p2
  have : (0 : Int32).toInt = 0 := by decide
  have := i_nlt hq0
  have : (1000 : Int32).toInt = 1000 := by decide
  have := i_lt hq1
  have : (1 : Int32).toInt = 1 := by decide
  have := rng32 p1
  have := e_ssz e0
  have := i_lt hq4
  have : (2 : Int32).toInt = 2 := by decide
  have := i_lt hq5
  have : (3 : Int32).toInt = 3 := by decide
  have := i_lt hq6
  have : (4 : Int32).toInt = 4 := by decide
  have := i_lt hq7
  have := e_i2l e1
  have : (0 : Int64).toInt = 0 := by decide
  have := j_nlt hq3
  have := rng32 vN
  have := e_iaddN e2 (by omega)
  have := i_nlt hq2
  have : (5 : Int32).toInt = 5 := by decide
  have := e_isubN e3 (by omega)
  exact o_nlt (by omega)
theorem own_d125 {p2 vN p1 v0 v2 v3 : Int32} {v1 : Int64} (e0 : v0 = (ssz p1)) (e1 : v1 = (p1.toInt64)) (e2 : v2 = (p2 + v0)) (e3 : v3 = (v2 - 5)) (hq0 : ¬ (p2 < 0)) (hq1 : p2 < 1000) (hq2 : vN < 1000) (hq3 : ¬ (vN < v2)) (hq4 : ¬ (v1 < (0 : Int64))) (hq5 : 1 < v0) (hq6 : 2 < v0) (hq7 : 3 < v0) (hq8 : 4 < v0) : v3 < vN := by
  have := rng32 p2
  have : (0 : Int32).toInt = 0 := by decide
  have := i_nlt hq0
  have : (1000 : Int32).toInt = 1000 := by decide
  have := i_lt hq1
  have := rng32 vN
  have := i_lt hq2
  have : (1 : Int32).toInt = 1 := by decide
  have := rng32 p1
  have := e_ssz e0
  have := i_lt hq5
  have : (2 : Int32).toInt = 2 := by decide
  have := i_lt hq6
  have : (3 : Int32).toInt = 3 := by decide
  have := i_lt hq7
  have : (4 : Int32).toInt = 4 := by decide
  have := i_lt hq8
  have := e_i2l e1
  have : (0 : Int64).toInt = 0 := by decide
  have := j_nlt hq4
  have := e_iaddN e2 (by omega)
  have := i_nlt hq3
  have : (5 : Int32).toInt = 5 := by decide
  have := e_isubN e3 (by omega)
  exact o_lt (by omega)
theorem own_d126 {p2 p1 vN v0 v2 v3 : Int32} {v1 : Int64} (e0 : v0 = (ssz p1)) (e1 : v1 = (p1.toInt64)) (e2 : v2 = (p2 + v0)) (e3 : v3 = (v2 - 6)) (hq0 : ¬ (p2 < 0)) (hq1 : p2 < 1000) (hq2 : ¬ (vN < v2)) (hq3 : ¬ (v1 < (0 : Int64))) (hq4 : 1 < v0) (hq5 : 2 < v0) (hq6 : 3 < v0) (hq7 : 4 < v0) (hq8 : 5 < v0) : ¬ (v3 < 0) := by
  have := rng32 p2
  have : (0 : Int32).toInt = 0 := by decide
  have := i_nlt hq0
  have : (1000 : Int32).toInt = 1000 := by decide
  have := i_lt hq1
  have : (1 : Int32).toInt = 1 := by decide
  have := rng32 p1
  have := e_ssz e0
  have := i_lt hq4
  have : (2 : Int32).toInt = 2 := by decide
  have := i_lt hq5
  have : (3 : Int32).toInt = 3 := by decide
  have := i_lt hq6
  have : (4 : Int32).toInt = 4 := by decide
  have := i_lt hq7
  have : (5 : Int32).toInt = 5 := by decide
  have := i_lt hq8
  have := e_i2l e1
  have : (0 : Int64).toInt = 0 := by decide
  have := j_nlt hq3
  have := rng32 vN
  have := e_iaddN e2 (by omega)
  have := i_nlt hq2
  have : (6 : Int32).toInt = 6 := by decide
  have := e_isubN e3 (by omega)
  exact o_nlt (by omega)
theorem own_d127 {p2 vN p1 v0 v2 v3 : Int32} {v1 : Int64} (e0 : v0 = (ssz p1)) (e1 : v1 = (p1.toInt64)) (e2 : v2 = (p2 + v0)) (e3 : v3 = (v2 - 6)) (hq0 : ¬ (p2 < 0)) (hq1 : p2 < 1000) (hq2 : vN < 1000) (hq3 : ¬ (vN < v2)) (hq4 : ¬ (v1 < (0 : Int64))) (hq5 : 1 < v0) (hq6 : 2 < v0) (hq7 : 3 < v0) (hq8 : 4 < v0) (hq9 : 5 < v0) : v3 < vN := by
  have := rng32 p2
  have : (0 : Int32).toInt = 0 := by decide
  have := i_nlt hq0
  have : (1000 : Int32).toInt = 1000 := by decide
  have := i_lt hq1
  have := rng32 vN
  have := i_lt hq2
  have : (1 : Int32).toInt = 1 := by decide
  have := rng32 p1
  have := e_ssz e0
  have := i_lt hq5
  have : (2 : Int32).toInt = 2 := by decide
  have := i_lt hq6
  have : (3 : Int32).toInt = 3 := by decide
  have := i_lt hq7
  have : (4 : Int32).toInt = 4 := by decide
  have := i_lt hq8
  have : (5 : Int32).toInt = 5 := by decide
  have := i_lt hq9
  have := e_i2l e1
  have : (0 : Int64).toInt = 0 := by decide
  have := j_nlt hq4
  have := e_iaddN e2 (by omega)
  have := i_nlt hq3
  have : (6 : Int32).toInt = 6 := by decide
  have := e_isubN e3 (by omega)
  exact o_lt (by omega)
theorem own_d128 {p2 p1 vN v0 v2 v3 : Int32} {v1 : Int64} (e0 : v0 = (ssz p1)) (e1 : v1 = (p1.toInt64)) (e2 : v2 = (p2 + v0)) (e3 : v3 = (v2 - 7)) (hq0 : ¬ (p2 < 0)) (hq1 : p2 < 1000) (hq2 : ¬ (vN < v2)) (hq3 : ¬ (v1 < (0 : Int64))) (hq4 : 1 < v0) (hq5 : 2 < v0) (hq6 : 3 < v0) (hq7 : 4 < v0) (hq8 : 5 < v0) (hq9 : 6 < v0) : ¬ (v3 < 0) := by
  have := rng32 p2
  have : (0 : Int32).toInt = 0 := by decide
  have := i_nlt hq0
  have : (1000 : Int32).toInt = 1000 := by decide
  have := i_lt hq1
  have : (1 : Int32).toInt = 1 := by decide
  have := rng32 p1
  have := e_ssz e0
  have := i_lt hq4
  have : (2 : Int32).toInt = 2 := by decide
  have := i_lt hq5
  have : (3 : Int32).toInt = 3 := by decide
  have := i_lt hq6
  have : (4 : Int32).toInt = 4 := by decide
  have := i_lt hq7
  have : (5 : Int32).toInt = 5 := by decide
  have := i_lt hq8
  have : (6 : Int32).toInt = 6 := by decide
  have := i_lt hq9
  have := e_i2l e1
  have : (0 : Int64).toInt = 0 := by decide
  have := j_nlt hq3
  have := rng32 vN
  have := e_iaddN e2 (by omega)
  have := i_nlt hq2
  have : (7 : Int32).toInt = 7 := by decide
  have := e_isubN e3 (by omega)
  exact o_nlt (by omega)
theorem own_d129 {p2 vN p1 v0 v2 v3 : Int32} {v1 : Int64} (e0 : v0 = (ssz p1)) (e1 : v1 = (p1.toInt64)) (e2 : v2 = (p2 + v0)) (e3 : v3 = (v2 - 7)) (hq0 : ¬ (p2 < 0)) (hq1 : p2 < 1000) (hq2 : vN < 1000) (hq3 : ¬ (vN < v2)) (hq4 : ¬ (v1 < (0 : Int64))) (hq5 : 1 < v0) (hq6 : 2 < v0) (hq7 : 3 < v0) (hq8 : 4 < v0) (hq9 : 5 < v0) (hq10 : 6 < v0) : v3 < vN := by
  have := rng32 p2
  have : (0 : Int32).toInt = 0 := by decide
  have := i_nlt hq0
  have : (1000 : Int32).toInt = 1000 := by decide
  have := i_lt hq1
  have := rng32 vN
  have := i_lt hq2
  have : (1 : Int32).toInt = 1 := by decide
  have := rng32 p1
  have := e_ssz e0
  have := i_lt hq5
  have : (2 : Int32).toInt = 2 := by decide
  have := i_lt hq6
  have : (3 : Int32).toInt = 3 := by decide
  have := i_lt hq7
  have : (4 : Int32).toInt = 4 := by decide
  have := i_lt hq8
  have : (5 : Int32).toInt = 5 := by decide
  have := i_lt hq9
  have : (6 : Int32).toInt = 6 := by decide
  have := i_lt hq10
  have := e_i2l e1
  have : (0 : Int64).toInt = 0 := by decide
  have := j_nlt hq4
  have := e_iaddN e2 (by omega)
  have := i_nlt hq3
  have : (7 : Int32).toInt = 7 := by decide
  have := e_isubN e3 (by omega)
  exact o_lt (by omega)
theorem own_d130 {p2 p1 vN v0 v2 v3 : Int32} {v1 : Int64} (e0 : v0 = (ssz p1)) (e1 : v1 = (p1.toInt64)) (e2 : v2 = (p2 + v0)) (e3 : v3 = (v2 - 8)) (hq0 : ¬ (p2 < 0)) (hq1 : p2 < 1000) (hq2 : ¬ (vN < v2)) (hq3 : ¬ (v1 < (0 : Int64))) (hq4 : 1 < v0) (hq5 : 2 < v0) (hq6 : 3 < v0) (hq7 : 4 < v0) (hq8 : 5 < v0) (hq9 : 6 < v0) (hq10 : 7 < v0) : ¬ (v3 < 0) := by
  have := rng32 p2
  have : (0 : Int32).toInt = 0 := by decide
  have := i_nlt hq0
  have : (1000 : Int32).toInt = 1000 := by decide
  have := i_lt hq1
  have : (1 : Int32).toInt = 1 := by decide
  have := rng32 p1
  have := e_ssz e0
  have := i_lt hq4
  have : (2 : Int32).toInt = 2 := by decide
  have := i_lt hq5
  have : (3 : Int32).toInt = 3 := by decide
  have := i_lt hq6
  have : (4 : Int32).toInt = 4 := by decide
  have := i_lt hq7
  have : (5 : Int32).toInt = 5 := by decide
  have := i_lt hq8
  have : (6 : Int32).toInt = 6 := by decide
  have := i_lt hq9
  have : (7 : Int32).toInt = 7 := by decide
  have := i_lt hq10
  have := e_i2l e1
  have : (0 : Int64).toInt = 0 := by decide
  have := j_nlt hq3
  have := rng32 vN
  have := e_iaddN e2 (by omega)
  have := i_nlt hq2
  have : (8 : Int32).toInt = 8 := by decide
  have := e_isubN e3 (by omega)
  exact o_nlt (by omega)
theorem own_d131 {p2 vN p1 v0 v2 v3 : Int32} {v1 : Int64} (e0 : v0 = (ssz p1)) (e1 : v1 = (p1.toInt64)) (e2 : v2 = (p2 + v0)) (e3 : v3 = (v2 - 8)) (hq0 : ¬ (p2 < 0)) (hq1 : p2 < 1000) (hq2 : vN < 1000) (hq3 : ¬ (vN < v2)) (hq4 : ¬ (v1 < (0 : Int64))) (hq5 : 1 < v0) (hq6 : 2 < v0) (hq7 : 3 < v0) (hq8 : 4 < v0) (hq9 : 5 < v0) (hq10 : 6 < v0) (hq11 : 7 < v0) : v3 < vN := by
  have := rng32 p2
  have : (0 : Int32).toInt = 0 := by decide
  have := i_nlt hq0
  have : (1000 : Int32).toInt = 1000 := by decide
  have := i_lt hq1
  have := rng32 vN
  have := i_lt hq2
  have : (1 : Int32).toInt = 1 := by decide
  have := rng32 p1
  have := e_ssz e0
  have := i_lt hq5
  have : (2 : Int32).toInt = 2 := by decide
  have := i_lt hq6
  have : (3 : Int32).toInt = 3 := by decide
  have := i_lt hq7
  have : (4 : Int32).toInt = 4 := by decide
  have := i_lt hq8
  have : (5 : Int32).toInt = 5 := by decide
  have := i_lt hq9
  have : (6 : Int32).toInt = 6 := by decide
  have := i_lt hq10
  have : (7 : Int32).toInt = 7 := by decide
  have := i_lt hq11
  have := e_i2l e1
  have : (0 : Int64).toInt = 0 := by decide
  have := j_nlt hq4
  have := e_iaddN e2 (by omega)
  have := i_nlt hq3
  have : (8 : Int32).toInt = 8 := by decide
  have := e_isubN e3 (by omega)
  exact o_lt (by omega)
theorem own_d132 {p2 p1 vN v0 v2 v3 : Int32} {v1 : Int64} (e0 : v0 = (ssz p1)) (e1 : v1 = (p1.toInt64)) (e2 : v2 = (p2 + v0)) (e3 : v3 = (v2 - 9)) (hq0 : ¬ (p2 < 0)) (hq1 : p2 < 1000) (hq2 : ¬ (vN < v2)) (hq3 : ¬ (v1 < (0 : Int64))) (hq4 : 1 < v0) (hq5 : 2 < v0) (hq6 : 3 < v0) (hq7 : 4 < v0) (hq8 : 5 < v0) (hq9 : 6 < v0) (hq10 : 7 < v0) (hq11 : 8 < v0) : ¬ (v3 < 0) := by
  have := rng32 p2
  have : (0 : Int32).toInt = 0 := by decide
  have := i_nlt hq0
  have : (1000 : Int32).toInt = 1000 := by decide
  have := i_lt hq1
  have : (1 : Int32).toInt = 1 := by decide
  have := rng32 p1
  have := e_ssz e0
  have := i_lt hq4
  have : (2 : Int32).toInt = 2 := by decide
  have := i_lt hq5
  have : (3 : Int32).toInt = 3 := by decide
  have := i_lt hq6
  have : (4 : Int32).toInt = 4 := by decide
  have := i_lt hq7
  have : (5 : Int32).toInt = 5 := by decide
  have := i_lt hq8
  have : (6 : Int32).toInt = 6 := by decide
  have := i_lt hq9
  have : (7 : Int32).toInt = 7 := by decide
  have := i_lt hq10
  have : (8 : Int32).toInt = 8 := by decide
  have := i_lt hq11
  have := e_i2l e1
  have : (0 : Int64).toInt = 0 := by decide
  have := j_nlt hq3
  have := rng32 vN
  have := e_iaddN e2 (by omega)
  have := i_nlt hq2
  have : (9 : Int32).toInt = 9 := by decide
  have := e_isubN e3 (by omega)
  exact o_nlt (by omega)
theorem own_d133 {p2 vN p1 v0 v2 v3 : Int32} {v1 : Int64} (e0 : v0 = (ssz p1)) (e1 : v1 = (p1.toInt64)) (e2 : v2 = (p2 + v0)) (e3 : v3 = (v2 - 9)) (hq0 : ¬ (p2 < 0)) (hq1 : p2 < 1000) (hq2 : vN < 1000) (hq3 : ¬ (vN < v2)) (hq4 : ¬ (v1 < (0 : Int64))) (hq5 : 1 < v0) (hq6 : 2 < v0) (hq7 : 3 < v0) (hq8 : 4 < v0) (hq9 : 5 < v0) (hq10 : 6 < v0) (hq11 : 7 < v0) (hq12 : 8 < v0) : v3 < vN := by
  have := rng32 p2
  have : (0 : Int32).toInt = 0 := by decide
  have := i_nlt hq0
  have : (1000 : Int32).toInt = 1000 := by decide
  have := i_lt hq1
  have := rng32 vN
  have := i_lt hq2
  have : (1 : Int32).toInt = 1 := by decide
  have := rng32 p1
  have := e_ssz e0
  have := i_lt hq5
  have : (2 : Int32).toInt = 2 := by decide
  have := i_lt hq6
  have : (3 : Int32).toInt = 3 := by decide
  have := i_lt hq7
  have : (4 : Int32).toInt = 4 := by decide
  have := i_lt hq8
  have : (5 : Int32).toInt = 5 := by decide
  have := i_lt hq9
  have : (6 : Int32).toInt = 6 := by decide
  have := i_lt hq10
  have : (7 : Int32).toInt = 7 := by decide
  have := i_lt hq11
  have : (8 : Int32).toInt = 8 := by decide
  have := i_lt hq12
  have := e_i2l e1
  have : (0 : Int64).toInt = 0 := by decide
  have := j_nlt hq4
  have := e_iaddN e2 (by omega)
  have := i_nlt hq3
  have : (9 : Int32).toInt = 9 := by decide
  have := e_isubN e3 (by omega)
  exact o_lt (by omega)
theorem own_d134 {p2 p1 vN v0 v2 v3 : Int32} {v1 : Int64} (e0 : v0 = (ssz p1)) (e1 : v1 = (p1.toInt64)) (e2 : v2 = (p2 + v0)) (e3 : v3 = (v2 - 10)) (hq0 : ¬ (p2 < 0)) (hq1 : p2 < 1000) (hq2 : ¬ (vN < v2)) (hq3 : ¬ (v1 < (0 : Int64))) (hq4 : 1 < v0) (hq5 : 2 < v0) (hq6 : 3 < v0) (hq7 : 4 < v0) (hq8 : 5 < v0) (hq9 : 6 < v0) (hq10 : 7 < v0) (hq11 : 8 < v0) (hq12 : 9 < v0) : ¬ (v3 < 0) := by
  have := rng32 p2
  have : (0 : Int32).toInt = 0 := by decide
  have := i_nlt hq0
  have : (1000 : Int32).toInt = 1000 := by decide
  have := i_lt hq1
  have : (1 : Int32).toInt = 1 := by decide
  have := rng32 p1
  have := e_ssz e0
  have := i_lt hq4
  have : (2 : Int32).toInt = 2 := by decide
  have := i_lt hq5
  have : (3 : Int32).toInt = 3 := by decide
  have := i_lt hq6
  have : (4 : Int32).toInt = 4 := by decide
  have := i_lt hq7
  have : (5 : Int32).toInt = 5 := by decide
  have := i_lt hq8
  have : (6 : Int32).toInt = 6 := by decide
  have := i_lt hq9
  have : (7 : Int32).toInt = 7 := by decide
  have := i_lt hq10
  have : (8 : Int32).toInt = 8 := by decide
  have := i_lt hq11
  have : (9 : Int32).toInt = 9 := by decide
  have := i_lt hq12
  have := e_i2l e1
  have : (0 : Int64).toInt = 0 := by decide
  have := j_nlt hq3
  have := rng32 vN
  have := e_iaddN e2 (by omega)
  have := i_nlt hq2
  have : (10 : Int32).toInt = 10 := by decide
  have := e_isubN e3 (by omega)
  exact o_nlt (by omega)
theorem own_d135 {p2 vN p1 v0 v2 v3 : Int32} {v1 : Int64} (e0 : v0 = (ssz p1)) (e1 : v1 = (p1.toInt64)) (e2 : v2 = (p2 + v0)) (e3 : v3 = (v2 - 10)) (hq0 : ¬ (p2 < 0)) (hq1 : p2 < 1000) (hq2 : vN < 1000) (hq3 : ¬ (vN < v2)) (hq4 : ¬ (v1 < (0 : Int64))) (hq5 : 1 < v0) (hq6 : 2 < v0) (hq7 : 3 < v0) (hq8 : 4 < v0) (hq9 : 5 < v0) (hq10 : 6 < v0) (hq11 : 7 < v0) (hq12 : 8 < v0) (hq13 : 9 < v0) : v3 < vN := by
  have := rng32 p2
  have : (0 : Int32).toInt = 0 := by decide
  have := i_nlt hq0
  have : (1000 : Int32).toInt = 1000 := by decide
  have := i_lt hq1
  have := rng32 vN
  have := i_lt hq2
  have : (1 : Int32).toInt = 1 := by decide
  have := rng32 p1
  have := e_ssz e0
  have := i_lt hq5
  have : (2 : Int32).toInt = 2 := by decide
  have := i_lt hq6
  have : (3 : Int32).toInt = 3 := by decide
  have := i_lt hq7
  have : (4 : Int32).toInt = 4 := by decide
  have := i_lt hq8
  have : (5 : Int32).toInt = 5 := by decide
  have := i_lt hq9
  have : (6 : Int32).toInt = 6 := by decide
  have := i_lt hq10
  have : (7 : Int32).toInt = 7 := by decide
  have := i_lt hq11
  have : (8 : Int32).toInt = 8 := by decide
  have := i_lt hq12
  have : (9 : Int32).toInt = 9 := by decide
  have := i_lt hq13
  have := e_i2l e1
  have : (0 : Int64).toInt = 0 := by decide
  have := j_nlt hq4
  have := e_iaddN e2 (by omega)
  have := i_nlt hq3
  have : (10 : Int32).toInt = 10 := by decide
  have := e_isubN e3 (by omega)
  exact o_lt (by omega)
theorem own_d136 {p1 vN p2 v0 v2 : Int32} {v1 : Int64} (e0 : v0 = (ssz p1)) (e1 : v1 = (p1.toInt64)) (e2 : v2 = (p2 + v0)) (hq0 : ¬ (vN < v2)) (hq1 : ¬ (v1 < (0 : Int64))) (hq2 : 1 < v0) (hq3 : 2 < v0) (hq4 : 3 < v0) (hq5 : 4 < v0) (hq6 : 5 < v0) (hq7 : 6 < v0) (hq8 : 7 < v0) (hq9 : ¬ (8 < v0)) : ¬ (9 < v0) := by
  have : (1 : Int32).toInt = 1 := by decide
  have := rng32 p1
  have := e_ssz e0
  have := i_lt hq2
  have : (2 : Int32).toInt = 2 := by decide
  have := i_lt hq3
  have : (3 : Int32).toInt = 3 := by decide
  have := i_lt hq4
  have : (4 : Int32).toInt = 4 := by decide
  have := i_lt hq5
  have : (5 : Int32).toInt = 5 := by decide
  have := i_lt hq6
  have : (6 : Int32).toInt = 6 := by decide
  have := i_lt hq7
  have : (7 : Int32).toInt = 7 := by decide
  have := i_lt hq8
  have : (8 : Int32).toInt = 8 := by decide
  have := i_nlt hq9
  have := e_i2l e1
  have : (0 : Int64).toInt = 0 := by decide
  have := j_nlt hq1
  have := rng32 vN
  have := rng32 p2
  have := e_iadd e2
  have := i_nlt hq0
  have : (9 : Int32).toInt = 9 := by decide
  exact o_nlt (by omega)
theorem own_d137 {p1 vN p2 v0 v2 : Int32} {v1 : Int64} (e0 : v0 = (ssz p1)) (e1 : v1 = (p1.toInt64)) (e2 : v2 = (p2 + v0)) (hq0 : ¬ (vN < v2)) (hq1 : ¬ (v1 < (0 : Int64))) (hq2 : 1 < v0) (hq3 : 2 < v0) (hq4 : 3 < v0) (hq5 : 4 < v0) (hq6 : 5 < v0) (hq7 : 6 < v0) (hq8 : ¬ (7 < v0)) : ¬ (8 < v0) := by
  have : (1 : Int32).toInt = 1 := by decide
  have := rng32 p1
  have := e_ssz e0
  have := i_lt hq2
  have : (2 : Int32).toInt = 2 := by decide
  have := i_lt hq3
  have : (3 : Int32).toInt = 3 := by decide
  have := i_lt hq4
  have : (4 : Int32).toInt = 4 := by decide
  have := i_lt hq5
  have : (5 : Int32).toInt = 5 := by decide
  have := i_lt hq6
  have : (6 : Int32).toInt = 6 := by decide
  have := i_lt hq7
  have : (7 : Int32).toInt = 7 := by decide
  have := i_nlt hq8
  have := e_i2l e1
  have : (0 : Int64).toInt = 0 := by decide
  have := j_nlt hq1
  have := rng32 vN
  have := rng32 p2
  have := e_iadd e2
  have := i_nlt hq0
  have : (8 : Int32).toInt = 8 := by decide
  exact o_nlt (by omega)
theorem own_d138 {p1 vN p2 v0 v2 : Int32} {v1 : Int64} (e0 : v0 = (ssz p1)) (e1 : v1 = (p1.toInt64)) (e2 : v2 = (p2 + v0)) (hq0 : ¬ (vN < v2)) (hq1 : ¬ (v1 < (0 : Int64))) (hq2 : 1 < v0) (hq3 : 2 < v0) (hq4 : 3 < v0) (hq5 : 4 < v0) (hq6 : 5 < v0) (hq7 : 6 < v0) (hq8 : ¬ (7 < v0)) : ¬ (9 < v0) := by
  have : (1 : Int32).toInt = 1 := by decide
  have := rng32 p1
  have := e_ssz e0
  have := i_lt hq2
  have : (2 : Int32).toInt = 2 := by decide
  have := i_lt hq3
  have : (3 : Int32).toInt = 3 := by decide
  have := i_lt hq4
  have : (4 : Int32).toInt = 4 := by decide
  have := i_lt hq5
  have : (5 : Int32).toInt = 5 := by decide
  have := i_lt hq6
  have : (6 : Int32).toInt = 6 := by decide
  have := i_lt hq7
  have : (7 : Int32).toInt = 7 := by decide
  have := i_nlt hq8
  have := e_i2l e1
  have : (0 : Int64).toInt = 0 := by decide
  have := j_nlt hq1
  have := rng32 vN
  have := rng32 p2
  have := e_iadd e2
  have := i_nlt hq0
  have : (9 : Int32).toInt = 9 := by decide
  exact o_nlt (by omega)
theorem own_d139 {p1 vN p2 v0 v2 : Int32} {v1 : Int64} (e0 : v0 = (ssz p1)) (e1 : v1 = (p1.toInt64)) (e2 : v2 = (p2 + v0)) (hq0 : ¬ (vN < v2)) (hq1 : ¬ (v1 < (0 : Int64))) (hq2 : 1 < v0) (hq3 : 2 < v0) (hq4 : 3 < v0) (hq5 : 4 < v0) (hq6 : 5 < v0) (hq7 : ¬ (6 < v0)) : ¬ (7 < v0) := by
  have : (1 : Int32).toInt = 1 := by decide
  have := rng32 p1
  have := e_ssz e0
  have := i_lt hq2
  have : (2 : Int32).toInt = 2 := by decide
  have := i_lt hq3
  have : (3 : Int32).toInt = 3 := by decide
  have := i_lt hq4
  have : (4 : Int32).toInt = 4 := by decide
  have := i_lt hq5
  have : (5 : Int32).toInt = 5 := by decide
  have := i_lt hq6
  have : (6 : Int32).toInt = 6 := by decide
  have := i_nlt hq7
  have := e_i2l e1
  have : (0 : Int64).toInt = 0 := by decide
  have := j_nlt hq1
  have := rng32 vN
  have := rng32 p2
  have := e_iadd e2
  have := i_nlt hq0
  have : (7 : Int32).toInt = 7 := by decide
  exact o_nlt (by omega)
theorem own_d140 {p1 vN p2 v0 v2 : Int32} {v1 : Int64} (e0 : v0 = (ssz p1)) (e1 : v1 = (p1.toInt64)) (e2 : v2 = (p2 + v0)) (hq0 : ¬ (vN < v2)) (hq1 : ¬ (v1 < (0 : Int64))) (hq2 : 1 < v0) (hq3 : 2 < v0) (hq4 : 3 < v0) (hq5 : 4 < v0) (hq6 : 5 < v0) (hq7 : ¬ (6 < v0)) : ¬ (8 < v0) := by
  have : (1 : Int32).toInt = 1 := by decide
  have := rng32 p1
  have := e_ssz e0
  have := i_lt hq2
  have : (2 : Int32).toInt = 2 := by decide
  have := i_lt hq3
  have : (3 : Int32).toInt = 3 := by decide
  have := i_lt hq4
  have : (4 : Int32).toInt = 4 := by decide
  have := i_lt hq5
  have : (5 : Int32).toInt = 5 := by decide
  have := i_lt hq6
  have : (6 : Int32).toInt = 6 := by decide
  have := i_nlt hq7
  have := e_i2l e1
  have : (0 : Int64).toInt = 0 := by decide
  have := j_nlt hq1
  have := rng32 vN
  have := rng32 p2
  have := e_iadd e2
  have := i_nlt hq0
  have : (8 : Int32).toInt = 8 := by decide
  exact o_nlt (by omega)
theorem own_d141 {p1 vN p2 v0 v2 : Int32} {v1 : Int64} (e0 : v0 = (ssz p1)) (e1 : v1 = (p1.toInt64)) (e2 : v2 = (p2 + v0)) (hq0 : ¬ (vN < v2)) (hq1 : ¬ (v1 < (0 : Int64))) (hq2 : 1 < v0) (hq3 : 2 < v0) (hq4 : 3 < v0) (hq5 : 4 < v0) (hq6 : 5 < v0) (hq7 : ¬ (6 < v0)) : ¬ (9 < v0) := by
  have : (1 : Int32).toInt = 1 := by decide
  have := rng32 p1
  have := e_ssz e0
  have := i_lt hq2
  have : (2 : Int32).toInt = 2 := by decide
  have := i_lt hq3
  have : (3 : Int32).toInt = 3 := by decide
  have := i_lt hq4
  have : (4 : Int32).toInt = 4 := by decide
  have := i_lt hq5
  have : (5 : Int32).toInt = 5 := by decide
  have := i_lt hq6
  have : (6 : Int32).toInt = 6 := by decide
  have := i_nlt hq7
  have := e_i2l e1
  have : (0 : Int64).toInt = 0 := by decide
  have := j_nlt hq1
  have := rng32 vN
  have := rng32 p2
  have := e_iadd e2
  have := i_nlt hq0
  have : (9 : Int32).toInt = 9 := by decide
  exact o_nlt (by omega)
theorem own_d142 {p1 vN p2 v0 v2 : Int32} {v1 : Int64} (e0 : v0 = (ssz p1)) (e1 : v1 = (p1.toInt64)) (e2 : v2 = (p2 + v0)) (hq0 : ¬ (vN < v2)) (hq1 : ¬ (v1 < (0 : Int64))) (hq2 : 1 < v0) (hq3 : 2 < v0) (hq4 : 3 < v0) (hq5 : 4 < v0) (hq6 : ¬ (5 < v0)) : ¬ (6 < v0) := by
  have : (1 : Int32).toInt = 1 := by decide
  have := rng32 p1
  have := e_ssz e0
  have := i_lt hq2
  have : (2 : Int32).toInt = 2 := by decide
  have := i_lt hq3
  have : (3 : Int32).toInt = 3 := by decide
  have := i_lt hq4
  have : (4 : Int32).toInt = 4 := by decide
  have := i_lt hq5
  have : (5 : Int32).toInt = 5 := by decide
  have := i_nlt hq6
  have := e_i2l e1
  have : (0 : Int64).toInt = 0 := by decide
  have := j_nlt hq1
  have := rng32 vN
  have := rng32 p2
  have := e_iadd e2
  have := i_nlt hq0
  have : (6 : Int32).toInt = 6 := by decide
  exact o_nlt (by omega)
theorem own_d143 {p1 vN p2 v0 v2 : Int32} {v1 : Int64} (e0 : v0 = (ssz p1)) (e1 : v1 = (p1.toInt64)) (e2 : v2 = (p2 + v0)) (hq0 : ¬ (vN < v2)) (hq1 : ¬ (v1 < (0 : Int64))) (hq2 : 1 < v0) (hq3 : 2 < v0) (hq4 : 3 < v0) (hq5 : 4 < v0) (hq6 : ¬ (5 < v0)) : ¬ (7 < v0) := by
  have : (1 : Int32).toInt = 1 := by decide
  have := rng32 p1
  have := e_ssz e0
  have := i_lt hq2
  have : (2 : Int32).toInt = 2 := by decide
  have := i_lt hq3
  have : (3 : Int32).toInt = 3 := by decide
  have := i_lt hq4
  have : (4 : Int32).toInt = 4 := by decide
  have := i_lt hq5
  have : (5 : Int32).toInt = 5 := by decide
  have := i_nlt hq6
  have := e_i2l e1
  have : (0 : Int64).toInt = 0 := by decide
  have := j_nlt hq1
  have := rng32 vN
  have := rng32 p2
  have := e_iadd e2
  have := i_nlt hq0
  have : (7 : Int32).toInt = 7 := by decide
  exact o_nlt (by omega)
theorem own_d144 {p1 vN p2 v0 v2 : Int32} {v1 : Int64} (e0 : v0 = (ssz p1)) (e1 : v1 = (p1.toInt64)) (e2 : v2 = (p2 + v0)) (hq0 : ¬ (vN < v2)) (hq1 : ¬ (v1 < (0 : Int64))) (hq2 : 1 < v0) (hq3 : 2 < v0) (hq4 : 3 < v0) (hq5 : 4 < v0) (hq6 : ¬ (5 < v0)) : ¬ (8 < v0) := by
  have : (1 : Int32).toInt = 1 := by decide
  have := rng32 p1
  have := e_ssz e0
  have := i_lt hq2
  have : (2 : Int32).toInt = 2 := by decide
  have := i_lt hq3
  have : (3 : Int32).toInt = 3 := by decide
  have := i_lt hq4
  have : (4 : Int32).toInt = 4 := by decide
  have := i_lt hq5
  have : (5 : Int32).toInt = 5 := by decide
  have := i_nlt hq6
  have := e_i2l e1
  have : (0 : Int64).toInt = 0 := by decide
  have := j_nlt hq1
  have := rng32 vN
  have := rng32 p2
  have := e_iadd e2
  have := i_nlt hq0
  have : (8 : Int32).toInt = 8 := by decide
  exact o_nlt (by omega)
theorem own_d145 {p1 vN p2 v0 v2 : Int32} {v1 : Int64} (e0 : v0 = (ssz p1)) (e1 : v1 = (p1.toInt64)) (e2 : v2 = (p2 + v0)) (hq0 : ¬ (vN < v2)) (hq1 : ¬ (v1 < (0 : Int64))) (hq2 : 1 < v0) (hq3 : 2 < v0) (hq4 : 3 < v0) (hq5 : 4 < v0) (hq6 : ¬ (5 < v0)) : ¬ (9 < v0) := by
  have : (1 : Int32).toInt = 1 := by decide
  have := rng32 p1
  have := e_ssz e0
  have := i_lt hq2
  have : (2 : Int32).toInt = 2 := by decide
  have := i_lt hq3
  have : (3 : Int32).toInt = 3 := by decide
  have := i_lt hq4
  have : (4 : Int32).toInt = 4 := by decide
  have := i_lt hq5
  have : (5 : Int32).toInt = 5 := by decide
  have := i_nlt hq6
  have := e_i2l e1
  have : (0 : Int64).toInt = 0 := by decide
  have := j_nlt hq1
  have := rng32 vN
  have := rng32 p2
  have := e_iadd e2
  have := i_nlt hq0
  have : (9 : Int32).toInt = 9 := by decide
  exact o_nlt (by omega)
theorem own_d146 {p1 vN p2 v0 v2 : Int32} {v1 : Int64} (e0 : v0 = (ssz p1)) (e1 : v1 = (p1.toInt64)) (e2 : v2 = (p2 + v0)) (hq0 : ¬ (vN < v2)) (hq1 : ¬ (v1 < (0 : Int64))) (hq2 : 1 < v0) (hq3 : 2 < v0) (hq4 : 3 < v0) (hq5 : ¬ (4 < v0)) : ¬ (5 < v0) := by
  have : (1 : Int32).toInt = 1 := by decide
  have := rng32 p1
  have := e_ssz e0
  have := i_lt hq2
  have : (2 : Int32).toInt = 2 := by decide
  have := i_lt hq3
  have : (3 : Int32).toInt = 3 := by decide
  have := i_lt hq4
  have : (4 : Int32).toInt = 4 := by decide
  have := i_nlt hq5
  have := e_i2l e1
  have : (0 : Int64).toInt = 0 := by decide
  have := j_nlt hq1
  have := rng32 vN
  have := rng32 p2
  have := e_iadd e2
  have := i_nlt hq0
  have : (5 : Int32).toInt = 5 := by decide
  exact o_nlt (by omega)
theorem own_d147 {p1 vN p2 v0 v2 : Int32} {v1 : Int64} (e0 : v0 = (ssz p1)) (e1 : v1 = (p1.toInt64)) (e2 : v2 = (p2 + v0)) (hq0 : ¬ (vN < v2)) (hq1 : ¬ (v1 < (0 : Int64))) (hq2 : 1 < v0) (hq3 : 2 < v0) (hq4 : 3 < v0) (hq5 : ¬ (4 < v0)) : ¬ (6 < v0) := by
  have : (1 : Int32).toInt = 1 := by decide
  have := rng32 p1
  have := e_ssz e0
  have := i_lt hq2
  have : (2 : Int32).toInt = 2 := by decide
  have := i_lt hq3
  have : (3 : Int32).toInt = 3 := by decide
  have := i_lt hq4
  have : (4 : Int32).toInt = 4 := by decide
  have := i_nlt hq5
  have := e_i2l e1
  have : (0 : Int64).toInt = 0 := by decide
  have := j_nlt hq1
  have := rng32 vN
  have := rng32 p2
  have := e_iadd e2
  have := i_nlt hq0
  have : (6 : Int32).toInt = 6 := by decide
  exact o_nlt (by omega)
theorem own_d148 {p1 vN p2 v0 v2 : Int32} {v1 : Int64} (e0 : v0 = (ssz p1)) (e1 : v1 = (p1.toInt64)) (e2 : v2 = (p2 + v0)) (hq0 : ¬ (vN < v2)) (hq1 : ¬ (v1 < (0 : Int64))) (hq2 : 1 < v0) (hq3 : 2 < v0) (hq4 : 3 < v0) (hq5 : ¬ (4 < v0)) : ¬ (7 < v0) := by
  have : (1 : Int32).toInt = 1 := by decide
  have := rng32 p1
  have := e_ssz e0
  have := i_lt hq2
  have : (2 : Int32).toInt = 2 := by decide
  have := i_lt hq3
  have : (3 : Int32).toInt = 3 := by decide
  have := i_lt hq4
  have : (4 : Int32).toInt = 4 := by decide
  have := i_nlt hq5
  have := e_i2l e1
  have : (0 : Int64).toInt = 0 := by decide
  have := j_nlt hq1
  have := rng32 vN
  have := rng32 p2
  have := e_iadd e2
  have := i_nlt hq0
  have : (7 : Int32).toInt = 7 := by decide
  exact o_nlt (by omega)
theorem own_d149 {p1 vN p2 v0 v2 : Int32} {v1 : Int64} (e0 : v0 = (ssz p1)) (e1 : v1 = (p1.toInt64)) (e2 : v2 = (p2 + v0)) (hq0 : ¬ (vN < v2)) (hq1 : ¬ (v1 < (0 : Int64))) (hq2 : 1 < v0) (hq3 : 2 < v0) (hq4 : 3 < v0) (hq5 : ¬ (4 < v0)) : ¬ (8 < v0) := by
  have : (1 : Int32).toInt = 1 := by decide
  have := rng32 p1
  have := e_ssz e0
  have := i_lt hq2
  have : (2 : Int32).toInt = 2 := by decide
  have := i_lt hq3
  have : (3 : Int32).toInt = 3 := by decide
  have := i_lt hq4
  have : (4 : Int32).toInt = 4 := by decide
  have := i_nlt hq5
  have := e_i2l e1
  have : (0 : Int64).toInt = 0 := by decide
  have := j_nlt hq1
  have := rng32 vN
  have := rng32 p2
  have := e_iadd e2
  have := i_nlt hq0
  have : (8 : Int32).toInt = 8 := by decide
  exact o_nlt (by omega)
theorem own_d150 {p1 vN p2 v0 v2 : Int32} {v1 : Int64} (e0 : v0 = (ssz p1)) (e1 : v1 = (p1.toInt64)) (e2 : v2 = (p2 + v0)) (hq0 : ¬ (vN < v2)) (hq1 : ¬ (v1 < (0 : Int64))) (hq2 : 1 < v0) (hq3 : 2 < v0) (hq4 : 3 < v0) (hq5 : ¬ (4 < v0)) : ¬ (9 < v0) := by
  have : (1 : Int32).toInt = 1 := by decide
  have := rng32 p1
  have := e_ssz e0
  have := i_lt hq2
  have : (2 : Int32).toInt = 2 := by decide
  have := i_lt hq3
  have : (3 : Int32).toInt = 3 := by decide
  have := i_lt hq4
  have : (4 : Int32).toInt = 4 := by decide
  have := i_nlt hq5
  have := e_i2l e1
  have : (0 : Int64).toInt = 0 := by decide
  have := j_nlt hq1
  have := rng32 vN
  have := rng32 p2
  have := e_iadd e2
  have := i_nlt hq0
  have : (9 : Int32).toInt = 9 := by decide
  exact o_nlt (by omega)
theorem own_d151 {p2 vN p1 v0 v2 : Int32} {v1 : Int64} (e0 : v0 = (ssz p1)) (e1 : v1 = (p1.toInt64)) (e2 : v2 = (p2 + v0)) (hq0 : ¬ (p2 < 0)) (hq1 : p2 < 1000) (hq2 : vN < 1000) (hq3 : ¬ (vN < v2)) (hq4 : ¬ (v1 < (0 : Int64))) (hq5 : 1 < v0) (hq6 : 2 < v0) (hq7 : ¬ (3 < v0)) : ¬ (4 < v0) := by
  have := rng32 p2
  have : (0 : Int32).toInt = 0 := by decide
  have := i_nlt hq0
  have : (1000 : Int32).toInt = 1000 := by decide
  have := i_lt hq1
  have := rng32 vN
  have := i_lt hq2
  have : (1 : Int32).toInt = 1 := by decide
  have := rng32 p1
  have := e_ssz e0
  have := i_lt hq5
  have : (2 : Int32).toInt = 2 := by decide
  have := i_lt hq6
  have : (3 : Int32).toInt = 3 := by decide
  have := i_nlt hq7
  have := e_i2l e1
  have : (0 : Int64).toInt = 0 := by decide
  have := j_nlt hq4
  have := e_iaddN e2 (by omega)
  have := i_nlt hq3
  have : (4 : Int32).toInt = 4 := by decide
  exact o_nlt (by omega)
theorem own_d152 {p2 vN p1 v0 v2 : Int32} {v1 : Int64} (e0 : v0 = (ssz p1)) (e1 : v1 = (p1.toInt64)) (e2 : v2 = (p2 + v0)) (hq0 : ¬ (p2 < 0)) (hq1 : p2 < 1000) (hq2 : vN < 1000) (hq3 : ¬ (vN < v2)) (hq4 : ¬ (v1 < (0 : Int64))) (hq5 : 1 < v0) (hq6 : 2 < v0) (hq7 : ¬ (3 < v0)) : ¬ (5 < v0) := by
  have := rng32 p2
  have : (0 : Int32).toInt = 0 := by decide
  have := i_nlt hq0
  have : (1000 : Int32).toInt = 1000 := by decide
  have := i_lt hq1
  have := rng32 vN
  have := i_lt hq2
  have : (1 : Int32).toInt = 1 := by decide
  have := rng32 p1
  have := e_ssz e0
  have := i_lt hq5
  have : (2 : Int32).toInt = 2 := by decide
  have := i_lt hq6
  have : (3 : Int32).toInt = 3 := by decide
  have := i_nlt hq7
  have := e_i2l e1
  have : (0 : Int64).toInt = 0 := by decide
  have := j_nlt hq4
  have := e_iaddN e2 (by omega)
  have := i_nlt hq3
  have : (5 : Int32).toInt = 5 := by decide
  exact o_nlt (by omega)
theorem own_d153 {p2 vN p1 v0 v2 : Int32} {v1 : Int64} (e0 : v0 = (ssz p1)) (e1 : v1 = (p1.toInt64)) (e2 : v2 = (p2 + v0)) (hq0 : ¬ (p2 < 0)) (hq1 : p2 < 1000) (hq2 : vN < 1000) (hq3 : ¬ (vN < v2)) (hq4 : ¬ (v1 < (0 : Int64))) (hq5 : 1 < v0) (hq6 : 2 < v0) (hq7 : ¬ (3 < v0)) : ¬ (6 < v0) := by
  have := rng32 p2
  have : (0 : Int32).toInt = 0 := by decide
  have := i_nlt hq0
  have : (1000 : Int32).toInt = 1000 := by decide
  have := i_lt hq1
  have := rng32 vN
  have := i_lt hq2
  have : (1 : Int32).toInt = 1 := by decide
  have := rng32 p1
  have := e_ssz e0
  have := i_lt hq5
  have : (2 : Int32).toInt = 2 := by decide
  have := i_lt hq6
  have : (3 : Int32).toInt = 3 := by decide
  have := i_nlt hq7
  have := e_i2l e1
  have : (0 : Int64).toInt = 0 := by decide
  have := j_nlt hq4
  have := e_iaddN e2 (by omega)
  have := i_nlt hq3
  have : (6 : Int32).toInt = 6 := by decide
  exact o_nlt (by omega)
theorem own_d154 {p2 vN p1 v0 v2 : Int32} {v1 : Int64} (e0 : v0 = (ssz p1)) (e1 : v1 = (p1.toInt64)) (e2 : v2 = (p2 + v0)) (hq0 : ¬ (p2 < 0)) (hq1 : p2 < 1000) (hq2 : vN < 1000) (hq3 : ¬ (vN < v2)) (hq4 : ¬ (v1 < (0 : Int64))) (hq5 : 1 < v0) (hq6 : 2 < v0) (hq7 : ¬ (3 < v0)) : ¬ (7 < v0) := by
  have := rng32 p2
  have : (0 : Int32).toInt = 0 := by decide
  have := i_nlt hq0
  have : (1000 : Int32).toInt = 1000 := by decide
  have := i_lt hq1
  have := rng32 vN
  have := i_lt hq2
  have : (1 : Int32).toInt = 1 := by decide
  have := rng32 p1
  have := e_ssz e0
  have := i_lt hq5
  have : (2 : Int32).toInt = 2 := by decide
  have := i_lt hq6
  have : (3 : Int32).toInt = 3 := by decide
  have := i_nlt hq7
  have := e_i2l e1
  have : (0 : Int64).toInt = 0 := by decide
  have := j_nlt hq4
  have := e_iaddN e2 (by omega)
  have := i_nlt hq3
  have : (7 : Int32).toInt = 7 := by decide
  exact o_nlt (by omega)
theorem own_d155 {p2 vN p1 v0 v2 : Int32} {v1 : Int64} (e0 : v0 = (ssz p1)) (e1 : v1 = (p1.toInt64)) (e2 : v2 = (p2 + v0)) (hq0 : ¬ (p2 < 0)) (hq1 : p2 < 1000) (hq2 : vN < 1000) (hq3 : ¬ (vN < v2)) (hq4 : ¬ (v1 < (0 : Int64))) (hq5 : 1 < v0) (hq6 : 2 < v0) (hq7 : ¬ (3 < v0)) : ¬ (8 < v0) := by
  have := rng32 p2
  have : (0 : Int32).toInt = 0 := by decide
  have := i_nlt hq0
  have : (1000 : Int32).toInt = 1000 := by decide
  have := i_lt hq1
  have := rng32 vN
  have := i_lt hq2
  have : (1 : Int32).toInt = 1 := by decide
  have := rng32 p1
  have := e_ssz e0
  have := i_lt hq5
  have : (2 : Int32).toInt = 2 := by decide
  have := i_lt hq6
  have : (3 : Int32).toInt = 3 := by decide
  have := i_nlt hq7
  have := e_i2l e1
  have : (0 : Int64).toInt = 0 := by decide
  have := j_nlt hq4
  have := e_iaddN e2 (by omega)
  have := i_nlt hq3
  have : (8 : Int32).toInt = 8 := by decide
  exact o_nlt (by omega)
theorem own_d156 {p2 vN p1 v0 v2 : Int32} {v1 : Int64} (e0 : v0 = (ssz p1)) (e1 : v1 = (p1.toInt64)) (e2 : v2 = (p2 + v0)) (hq0 : ¬ (p2 < 0)) (hq1 : p2 < 1000) (hq2 : vN < 1000) (hq3 : ¬ (vN < v2)) (hq4 : ¬ (v1 < (0 : Int64))) (hq5 : 1 < v0) (hq6 : 2 < v0) (hq7 : ¬ (3 < v0)) : ¬ (9 < v0) := by
  have := rng32 p2
  have : (0 : Int32).toInt = 0 := by decide
  have := i_nlt hq0
  have : (1000 : Int32).toInt = 1000 := by decide
  have := i_lt hq1
  have := rng32 vN
  have := i_lt hq2
  have : (1 : Int32).toInt = 1 := by decide
  have := rng32 p1
  have := e_ssz e0
  have := i_lt hq5
  have : (2 : Int32).toInt = 2 := by decide
  have := i_lt hq6
  have : (3 : Int32).toInt = 3 := by decide
  have := i_nlt hq7
  have := e_i2l e1
  have : (0 : Int64).toInt = 0 := by decide
  have := j_nlt hq4
  have := e_iaddN e2 (by omega)
  have := i_nlt hq3
  have : (9 : Int32).toInt = 9 := by decide
  exact o_nlt (by omega)
theorem own_d157 {p2 vN p1 v0 v2 : Int32} {v1 : Int64} (e0 : v0 = (ssz p1)) (e1 : v1 = (p1.toInt64)) (e2 : v2 = (p2 + v0)) (hq0 : ¬ (p2 < 0)) (hq1 : p2 < 1000) (hq2 : vN < 1000) (hq3 : ¬ (vN < v2)) (hq4 : ¬ (v1 < (0 : Int64))) (hq5 : 1 < v0) (hq6 : ¬ (2 < v0)) : ¬ (3 < v0) := by
  have := rng32 p2
  have : (0 : Int32).toInt = 0 := by decide
  have := i_nlt hq0
  have : (1000 : Int32).toInt = 1000 := by decide
  have := i_lt hq1
  have := rng32 vN
  have := i_lt hq2
  have : (1 : Int32).toInt = 1 := by decide
  have := rng32 p1
  have := e_ssz e0
  have := i_lt hq5
  have : (2 : Int32).toInt = 2 := by decide
  have := i_nlt hq6
  have := e_i2l e1
  have : (0 : Int64).toInt = 0 := by decide
  have := j_nlt hq4
  have := e_iaddN e2 (by omega)
  have := i_nlt hq3
  have : (3 : Int32).toInt = 3 := by decide
  exact o_nlt (by omega)
theorem own_d158 {p2 vN p1 v0 v2 : Int32} {v1 : Int64} (e0 : v0 = (ssz p1)) (e1 : v1 = (p1.toInt64)) (e2 : v2 = (p2 + v0)) (hq0 : ¬ (p2 < 0)) (hq1 : p2 < 1000) (hq2 : vN < 1000) (hq3 : ¬ (vN < v2)) (hq4 : ¬ (v1 < (0 : Int64))) (hq5 : 1 < v0) (hq6 : ¬ (2 < v0)) : ¬ (4 < v0) := by
  have := rng32 p2
  have : (0 : Int32).toInt = 0 := by decide
  have := i_nlt hq0
  have : (1000 : Int32).toInt = 1000 := by decide
  have := i_lt hq1
  have := rng32 vN
  have := i_lt hq2
  have : (1 : Int32).toInt = 1 := by decide
  have := rng32 p1
  have := e_ssz e0
  have := i_lt hq5
  have : (2 : Int32).toInt = 2 := by decide
  have := i_nlt hq6
  have := e_i2l e1
  have : (0 : Int64).toInt = 0 := by decide
  have := j_nlt hq4
  have := e_iaddN e2 (by omega)
  have := i_nlt hq3
  have : (4 : Int32).toInt = 4 := by decide
  exact o_nlt (by omega)
theorem own_d159 {p2 vN p1 v0 v2 : Int32} {v1 : Int64} (e0 : v0 = (ssz p1)) (e1 : v1 = (p1.toInt64)) (e2 : v2 = (p2 + v0)) (hq0 : ¬ (p2 < 0)) (hq1 : p2 < 1000) (hq2 : vN < 1000) (hq3 : ¬ (vN < v2)) (hq4 : ¬ (v1 < (0 : Int64))) (hq5 : 1 < v0) (hq6 : ¬ (2 < v0)) : ¬ (5 < v0) := by
  have := rng32 p2
  have : (0 : Int32).toInt = 0 := by decide
  have := i_nlt hq0
  have : (1000 : Int32).toInt = 1000 := by decide
  have := i_lt hq1
  have := rng32 vN
  have := i_lt hq2
  have : (1 : Int32).toInt = 1 := by decide
  have := rng32 p1
  have := e_ssz e0
  have := i_lt hq5
  have : (2 : Int32).toInt = 2 := by decide
  have := i_nlt hq6
  have := e_i2l e1
  have : (0 : Int64).toInt = 0 := by decide
  have := j_nlt hq4
  have := e_iaddN e2 (by omega)
  have := i_nlt hq3
  have : (5 : Int32).toInt = 5 := by decide
  exact o_nlt (by omega)
theorem own_d160 {p2 vN p1 v0 v2 : Int32} {v1 : Int64} (e0 : v0 = (ssz p1)) (e1 : v1 = (p1.toInt64)) (e2 : v2 = (p2 + v0)) (hq0 : ¬ (p2 < 0)) (hq1 : p2 < 1000) (hq2 : vN < 1000) (hq3 : ¬ (vN < v2)) (hq4 : ¬ (v1 < (0 : Int64))) (hq5 : 1 < v0) (hq6 : ¬ (2 < v0)) : ¬ (6 < v0) := by
  have := rng32 p2
  have : (0 : Int32).toInt = 0 := by decide
  have := i_nlt hq0
  have : (1000 : Int32).toInt = 1000 := by decide
  have := i_lt hq1
  have := rng32 vN
  have := i_lt hq2
  have : (1 : Int32).toInt = 1 := by decide
  have := rng32 p1
  have := e_ssz e0
  have := i_lt hq5
  have : (2 : Int32).toInt = 2 := by decide
  have := i_nlt hq6
  have := e_i2l e1
  have : (0 : Int64).toInt = 0 := by decide
  have := j_nlt hq4
  have := e_iaddN e2 (by omega)
  have := i_nlt hq3
  have : (6 : Int32).toInt = 6 := by decide
  exact o_nlt (by omega)
theorem own_d161 {p2 vN p1 v0 v2 : Int32} {v1 : Int64} (e0 : v0 = (ssz p1)) (e1 : v1 = (p1.toInt64)) (e2 : v2 = (p2 + v0)) (hq0 : ¬ (p2 < 0)) (hq1 : p2 < 1000) (hq2 : vN < 1000) (hq3 : ¬ (vN < v2)) (hq4 : ¬ (v1 < (0 : Int64))) (hq5 : 1 < v0) (hq6 : ¬ (2 < v0)) : ¬ (7 < v0) := by
  have := rng32 p2
  have : (0 : Int32).toInt = 0 := by decide
  have := i_nlt hq0
  have : (1000 : Int32).toInt = 1000 := by decide
  have := i_lt hq1
  have := rng32 vN
  have := i_lt hq2
  have : (1 : Int32).toInt = 1 := by decide
  have := rng32 p1
  have := e_ssz e0
  have := i_lt hq5
  have : (2 : Int32).toInt = 2 := by decide
  have := i_nlt hq6
  have := e_i2l e1
  have : (0 : Int64).toInt = 0 := by decide
  have := j_nlt hq4
  have := e_iaddN e2 (by omega)
  have := i_nlt hq3
  have : (7 : Int32).toInt = 7 := by decide
  exact o_nlt (by omega)
theorem own_d162 {p2 vN p1 v0 v2 : Int32} {v1 : Int64} (e0 : v0 = (ssz p1)) (e1 : v1 = (p1.toInt64)) (e2 : v2 = (p2 + v0)) (hq0 : ¬ (p2 < 0)) (hq1 : p2 < 1000) (hq2 : vN < 1000) (hq3 : ¬ (vN < v2)) (hq4 : ¬ (v1 < (0 : Int64))) (hq5 : 1 < v0) (hq6 : ¬ (2 < v0)) : ¬ (8 < v0) := by
  have := rng32 p2
  have : (0 : Int32).toInt = 0 := by decide
  have := i_nlt hq0
  have : (1000 : Int32).toInt = 1000 := by decide
  have := i_lt hq1
  have := rng32 vN
  have := i_lt hq2
  have : (1 : Int32).toInt = 1 := by decide
  have := rng32 p1
  have := e_ssz e0
  have := i_lt hq5
  have : (2 : Int32).toInt = 2 := by decide
  have := i_nlt hq6
  have := e_i2l e1
  have : (0 : Int64).toInt = 0 := by decide
  have := j_nlt hq4
  have := e_iaddN e2 (by omega)
  have := i_nlt hq3
  have : (8 : Int32).toInt = 8 := by decide
  exact o_nlt (by omega)
theorem own_d163 {p2 vN p1 v0 v2 : Int32} {v1 : Int64} (e0 : v0 = (ssz p1)) (e1 : v1 = (p1.toInt64)) (e2 : v2 = (p2 + v0)) (hq0 : ¬ (p2 < 0)) (hq1 : p2 < 1000) (hq2 : vN < 1000) (hq3 : ¬ (vN < v2)) (hq4 : ¬ (v1 < (0 : Int64))) (hq5 : 1 < v0) (hq6 : ¬ (2 < v0)) : ¬ (9 < v0) := by
  have := rng32 p2
  have : (0 : Int32).toInt = 0 := by decide
  have := i_nlt hq0
  have : (1000 : Int32).toInt = 1000 := by decide
  have := i_lt hq1
  have := rng32 vN
  have := i_lt hq2
  have : (1 : Int32).toInt = 1 := by decide
  have := rng32 p1
  have := e_ssz e0
  have := i_lt hq5
  have : (2 : Int32).toInt = 2 := by decide
  have := i_nlt hq6
  have := e_i2l e1
  have : (0 : Int64).toInt = 0 := by decide
  have := j_nlt hq4
  have := e_iaddN e2 (by omega)
  have := i_nlt hq3
  have : (9 : Int32).toInt = 9 := by decide
  exact o_nlt (by omega)
theorem own_d164 {p2 vN p1 v0 v2 : Int32} {v1 : Int64} (e0 : v0 = (ssz p1)) (e1 : v1 = (p1.toInt64)) (e2 : v2 = (p2 + v0)) (hq0 : ¬ (p2 < 0)) (hq1 : p2 < 1000) (hq2 : vN < 1000) (hq3 : ¬ (vN < v2)) (hq4 : ¬ (v1 < (0 : Int64))) (hq5 : ¬ (1 < v0)) : ¬ (2 < v0) := by
  have := rng32 p2
  have : (0 : Int32).toInt = 0 := by decide
  have := i_nlt hq0
  have : (1000 : Int32).toInt = 1000 := by decide
  have := i_lt hq1
  have := rng32 vN
  have := i_lt hq2
  have : (1 : Int32).toInt = 1 := by decide
  have := rng32 p1
  have := e_ssz e0
  have := i_nlt hq5
  have := e_i2l e1
  have : (0 : Int64).toInt = 0 := by decide
  have := j_nlt hq4
  have := e_iaddN e2 (by omega)
  have := i_nlt hq3
  have : (2 : Int32).toInt = 2 := by decide
  exact o_nlt (by omega)
theorem own_d165 {p2 vN p1 v0 v2 : Int32} {v1 : Int64} (e0 : v0 = (ssz p1)) (e1 : v1 = (p1.toInt64)) (e2 : v2 = (p2 + v0)) (hq0 : ¬ (p2 < 0)) (hq1 : p2 < 1000) (hq2 : vN < 1000) (hq3 : ¬ (vN < v2)) (hq4 : ¬ (v1 < (0 : Int64))) (hq5 : ¬ (1 < v0)) : ¬ (3 < v0) := by
  have := rng32 p2
  have : (0 : Int32).toInt = 0 := by decide
  have := i_nlt hq0
  have : (1000 : Int32).toInt = 1000 := by decide
  have := i_lt hq1
  have := rng32 vN
  have := i_lt hq2
  have : (1 : Int32).toInt = 1 := by decide
  have := rng32 p1
  have := e_ssz e0
  have := i_nlt hq5
  have := e_i2l e1
  have : (0 : Int64).toInt = 0 := by decide
  have := j_nlt hq4
  have := e_iaddN e2 (by omega)
  have := i_nlt hq3
  have : (3 : Int32).toInt = 3 := by decide
  exact o_nlt (by omega)
theorem own_d166 {p2 vN p1 v0 v2 : Int32} {v1 : Int64} (e0 : v0 = (ssz p1)) (e1 : v1 = (p1.toInt64)) (e2 : v2 = (p2 + v0)) (hq0 : ¬ (p2 < 0)) (hq1 : p2 < 1000) (hq2 : vN < 1000) (hq3 : ¬ (vN < v2)) (hq4 : ¬ (v1 < (0 : Int64))) (hq5 : ¬ (1 < v0)) : ¬ (4 < v0) := by
  have := rng32 p2
  have : (0 : Int32).toInt = 0 := by decide
  have := i_nlt hq0
  have : (1000 : Int32).toInt = 1000 := by decide
  have := i_lt hq1
  have := rng32 vN
  have := i_lt hq2
  have : (1 : Int32).toInt = 1 := by decide
  have := rng32 p1
  have := e_ssz e0
  have := i_nlt hq5
  have := e_i2l e1
  have : (0 : Int64).toInt = 0 := by decide
  have := j_nlt hq4
  have := e_iaddN e2 (by omega)
  have := i_nlt hq3
  have : (4 : Int32).toInt = 4 := by decide
  exact o_nlt (by omega)
theorem own_d167 {p2 vN p1 v0 v2 : Int32} {v1 : Int64} (e0 : v0 = (ssz p1)) (e1 : v1 = (p1.toInt64)) (e2 : v2 = (p2 + v0)) (hq0 : ¬ (p2 < 0)) (hq1 : p2 < 1000) (hq2 : vN < 1000) (hq3 : ¬ (vN < v2)) (hq4 : ¬ (v1 < (0 : Int64))) (hq5 : ¬ (1 < v0)) : ¬ (5 < v0) := by
  have := rng32 p2
  have : (0 : Int32).toInt = 0 := by decide
  have := i_nlt hq0
  have : (1000 : Int32).toInt = 1000 := by decide
  have := i_lt hq1
  have := rng32 vN
  have := i_lt hq2
  have : (1 : Int32).toInt = 1 := by decide
  have := rng32 p1
  have := e_ssz e0
  have := i_nlt hq5
  have := e_i2l e1
  have : (0 : Int64).toInt = 0 := by decide
  have := j_nlt hq4
  have := e_iaddN e2 (by omega)
  have := i_nlt hq3
  have : (5 : Int32).toInt = 5 := by decide
  exact o_nlt (by omega)
theorem own_d168 {p2 vN p1 v0 v2 : Int32} {v1 : Int64} (e0 : v0 = (ssz p1)) (e1 : v1 = (p1.toInt64)) (e2 : v2 = (p2 + v0)) (hq0 : ¬ (p2 < 0)) (hq1 : p2 < 1000) (hq2 : vN < 1000) (hq3 : ¬ (vN < v2)) (hq4 : ¬ (v1 < (0 : Int64))) (hq5 : ¬ (1 < v0)) : ¬ (6 < v0) := by
  have := rng32 p2
  have : (0 : Int32).toInt = 0 := by decide
  have := i_nlt hq0
  have : (1000 : Int32).toInt = 1000 := by decide
  have := i_lt hq1
  have := rng32 vN
  have := i_lt hq2
  have : (1 : Int32).toInt = 1 := by decide
  have := rng32 p1
  have := e_ssz e0
  have := i_nlt hq5
  have := e_i2l e1
  have : (0 : Int64).toInt = 0 := by decide
  have := j_nlt hq4
  have := e_iaddN e2 (by omega)
  have := i_nlt hq3
  have : (6 : Int32).toInt = 6 := by decide
  exact o_nlt (by omega)
theorem own_d169 {p2 vN p1 v0 v2 : Int32} {v1 : Int64} (e0 : v0 = (ssz p1)) (e1 : v1 = (p1.toInt64)) (e2 : v2 = (p2 + v0)) (hq0 : ¬ (p2 < 0)) (hq1 : p2 < 1000) (hq2 : vN < 1000) (hq3 : ¬ (vN < v2)) (hq4 : ¬ (v1 < (0 : Int64))) (hq5 : ¬ (1 < v0)) : ¬ (7 < v0) := by
  have := rng32 p2
  have : (0 : Int32).toInt = 0 := by decide
  have := i_nlt hq0
  have : (1000 : Int32).toInt = 1000 := by decide
  have := i_lt hq1
  have := rng32 vN
  have := i_lt hq2
  have : (1 : Int32).toInt = 1 := by decide
  have := rng32 p1
  have := e_ssz e0
  have := i_nlt hq5
  have := e_i2l e1
  have : (0 : Int64).toInt = 0 := by decide
  have := j_nlt hq4
  have := e_iaddN e2 (by omega)
  have := i_nlt hq3
  have : (7 : Int32).toInt = 7 := by decide
  exact o_nlt (by omega)
theorem own_d170 {p2 vN p1 v0 v2 : Int32} {v1 : Int64} (e0 : v0 = (ssz p1)) (e1 : v1 = (p1.toInt64)) (e2 : v2 = (p2 + v0)) (hq0 : ¬ (p2 < 0)) (hq1 : p2 < 1000) (hq2 : vN < 1000) (hq3 : ¬ (vN < v2)) (hq4 : ¬ (v1 < (0 : Int64))) (hq5 : ¬ (1 < v0)) : ¬ (8 < v0) := by
  have := rng32 p2
  have : (0 : Int32).toInt = 0 := by decide
  have := i_nlt hq0
  have : (1000 : Int32).toInt = 1000 := by decide
  have := i_lt hq1
  have := rng32 vN
  have := i_lt hq2
  have : (1 : Int32).toInt = 1 := by decide
  have := rng32 p1
  have := e_ssz e0
  have := i_nlt hq5
  have := e_i2l e1
  have : (0 : Int64).toInt = 0 := by decide
  have := j_nlt hq4
  have := e_iaddN e2 (by omega)
  have := i_nlt hq3
  have : (8 : Int32).toInt = 8 := by decide
  exact o_nlt (by omega)
theorem own_d171 {p2 vN p1 v0 v2 : Int32} {v1 : Int64} (e0 : v0 = (ssz p1)) (e1 : v1 = (p1.toInt64)) (e2 : v2 = (p2 + v0)) (hq0 : ¬ (p2 < 0)) (hq1 : p2 < 1000) (hq2 : vN < 1000) (hq3 : ¬ (vN < v2)) (hq4 : ¬ (v1 < (0 : Int64))) (hq5 : ¬ (1 < v0)) : ¬ (9 < v0) := by
  have := rng32 p2
  have : (0 : Int32).toInt = 0 := by decide
  have := i_nlt hq0
  have : (1000 : Int32).toInt = 1000 := by decide
  have := i_lt hq1
  have := rng32 vN
  have := i_lt hq2
  have : (1 : Int32).toInt = 1 := by decide
  have := rng32 p1
  have := e_ssz e0
  have := i_nlt hq5
  have := e_i2l e1
  have : (0 : Int64).toInt = 0 := by decide
  have := j_nlt hq4
  have := e_iaddN e2 (by omega)
  have := i_nlt hq3
  have : (9 : Int32).toInt = 9 := by decide
  exact o_nlt (by omega)
theorem PN39 : plainFor Y39 = true := plainFor_of_name pn_SemaphoreBulkheadSnapshotToStringPinLaw
theorem ef_RII_9 {x0 : Addr} {x1 : Int32} {x2 : Int32}  (m : MethodId) : entryFrame m #[(.ref x0), (.int x1), (.int x2)] 9 = mkF m 0 #[.val (.ref x0), .val (.int x1), .val (.int x2), .unset, .unset, .unset, .unset, .unset, .unset] [] := by
  first | (simp [entryFrame, mkF, argsToLocals, Value.category]; done) | rfl
theorem R_no {a1 a2 : Addr} {vN p1 p2 : Int32} {f1 : Nat → Int32} (hw : HW a0 Z) (G : Gl Z w_CS w_SF w_DO w_DT w_fO w_fT) (O : Obj Z h0 a1 litL [.ref a2, .int 0]) (A : Ary Z h0 a2 ATB vN.toNatClampNeg (bv f1)) (x1 : ¬ (p2 < 0)) (x2 : p2 < 1000) (x3 : vN < 1000) (x4 : ¬ (vN < (p2 + (ssz p1)))) (Q : GN f1 p2.toNatClampNeg p1) : Mt false [] l Y39 C39 (rmk 5 0 0 70) #[.ref a1, .int p2, .int p1] Z a0 h0 n0 (Pv h0 (.int 1)) := by
  refine Mt.go PN39 (Or.inl rfl) ef_RII_9 fun k => ?_
  replace k := k |>.iloadN D39_0 rfl |>.i2l D39_1 rfl
  by_cases hs1 : (p1.toInt64) < 0
  · replace k := (k.callS (w_193 hw) (S37 hw) (R_37_2 hw G hs1) D39_2 0 rfl).pv
    replace k := k |>.lstoreN D39_5 (Ls' := #[.val (.ref a1), .val (.int p2), .val (.int p1), .val (.long (-(p1.toInt64))), .second, .unset, .unset, .unset, .unset]) rfl |>.iloadN D39_6 rfl |>.ifNo D39_7 ((if0 _ _).trans (tlt (own_d45 rfl rfl rfl x1 x2 x3 x4 hs1)).2.1) |>.iconst D39_10 1 |>.goto D39_11 |>.istore D39_15 sto5 |>.iload D39_17 rfl |>.ifNo D39_19  |>.iloadN D39_22 rfl |>.iconst D39_23 1 |>.iadd D39_24 rfl |>.goto D39_25
    replace k := k |>.istore D39_29 sto6 |>.lloadN D39_31 rfl
    replace k := (k.callS (w_196 hw) (S35 hw) (R_mg hw G (own_d46 rfl rfl rfl rfl x1 x2 x3 x4 hs1) (own_d47 rfl rfl rfl rfl x1 x2 x3 x4 hs1)) D39_32 0 rfl).pv
    obtain ⟨-, t3, m3, n3⟩ := dl1 (p := p1) rfl rfl hs1 rfl rfl
    replace k := k |>.top t3 |>.istore D39_35 sto7 |>.iload D39_37 rfl |>.ifNo D39_39  |>.aloadN D39_42 rfl rfl |>.iloadN D39_43 rfl
    replace k := (k.callV (w_204 hw) (V_Y30_30_String hw) O.exa (R_chr hw G O A x1 (own_d48 rfl rfl rfl x1 x2 x3 x4 hs1) x3) D39_44 0 rfl).pv
    replace k := k |>.top (y := 45) (lat_of (v := 0) (Q.2 n3) (by decide)) |>.bipush D39_47 45 |>.icmpNo D39_49  |>.iconst D39_52 1 |>.goto D39_53 |>.istore D39_57 sto8 |>.iload D39_59 rfl |>.ifNo D39_61  |>.aloadN D39_64 rfl rfl |>.iload D39_65 rfl |>.iload D39_67 rfl |>.iadd D39_69 rfl
    replace k := k |>.iconst D39_70 1 |>.isub D39_71 rfl |>.lloadN D39_72 rfl |>.lconst D39_73 1
    replace k := (k.callS (w_228 hw) (S38 hw) (R_di hw G O A (own_d49 rfl rfl rfl rfl rfl rfl rfl x1 x2 x3 x4 hs1) (own_d50 rfl rfl rfl rfl rfl rfl rfl x1 x2 x3 x4 hs1) x3 (own_d46 rfl rfl rfl rfl x1 x2 x3 x4 hs1) (by decide) (by decide) (dgn Q rfl rfl rfl rfl rfl (j := 0) rfl x1 x2 m3 n3 (sub1_pos n3) rfl) (q2 := 1)) D39_74 0 rfl).pv
    replace k := k |>.ifNo D39_77  |>.iconst D39_80 1 |>.goto D39_81 |>.istore D39_85 sto8 |>.iload D39_87 rfl |>.iconst D39_89 1
    by_cases hc90_4 : 1 < ((ssz p1) - 1)
    · replace k := k |>.icmpNo D39_90 (tlt hc90_4).2.2.2 |>.iload D39_93 rfl |>.ifNo D39_95  |>.aloadN D39_98 rfl rfl |>.iload D39_99 rfl |>.iload D39_101 rfl |>.iadd D39_103 rfl |>.iconst D39_104 2 |>.isub D39_105 rfl |>.lloadN D39_106 rfl |>.ldcJ (w_199 hw) D39_107
      replace k := (k.callS (w_228 hw) (S38 hw) (R_di hw G O A (own_d51 rfl rfl rfl rfl rfl rfl rfl x1 x2 x3 x4 hs1 hc90_4) (own_d52 rfl rfl rfl rfl rfl rfl rfl x1 x2 x3 x4 hs1 hc90_4) x3 (own_d53 rfl rfl rfl rfl rfl x1 x2 x3 x4 hs1 hc90_4) (by decide) (by decide) (dgn Q rfl rfl rfl rfl rfl (j := 1) rfl x1 x2 m3 n3 (i_lt hc90_4) rfl) (q2 := 10)) D39_110 0 rfl).pv
      replace k := k |>.ifNo D39_113  |>.iconst D39_116 1 |>.goto D39_117 |>.istore D39_121 sto8 |>.iload D39_123 rfl |>.iconst D39_125 2
      by_cases hc126_5 : 2 < ((ssz p1) - 1)
      · replace k := k |>.icmpNo D39_126 (tlt hc126_5).2.2.2 |>.iload D39_129 rfl |>.ifNo D39_131  |>.aloadN D39_134 rfl rfl |>.iload D39_135 rfl |>.iload D39_137 rfl |>.iadd D39_139 rfl |>.iconst D39_140 3 |>.isub D39_141 rfl |>.lloadN D39_142 rfl |>.ldcJ (w_235 hw) D39_143
        replace k := (k.callS (w_228 hw) (S38 hw) (R_di hw G O A (own_d54 rfl rfl rfl rfl rfl rfl rfl x1 x2 x3 x4 hs1 hc90_4 hc126_5) (own_d55 rfl rfl rfl rfl rfl rfl rfl x1 x2 x3 x4 hs1 hc90_4 hc126_5) x3 (own_d56 rfl rfl rfl rfl rfl x1 x2 x3 x4 hs1 hc90_4 hc126_5) (by decide) (by decide) (dgn Q rfl rfl rfl rfl rfl (j := 2) rfl x1 x2 m3 n3 (i_lt hc126_5) rfl) (q2 := 100)) D39_146 0 rfl).pv
        replace k := k |>.ifNo D39_149  |>.iconst D39_152 1 |>.goto D39_153 |>.istore D39_157 sto8 |>.iload D39_159 rfl |>.iconst D39_161 3
        by_cases hc162_6 : 3 < ((ssz p1) - 1)
        · replace k := k |>.icmpNo D39_162 (tlt hc162_6).2.2.2 |>.iload D39_165 rfl |>.ifNo D39_167  |>.aloadN D39_170 rfl rfl |>.iload D39_171 rfl |>.iload D39_173 rfl |>.iadd D39_175 rfl |>.iconst D39_176 4 |>.isub D39_177 rfl |>.lloadN D39_178 rfl |>.ldcJ (w_236 hw) D39_179
          replace k := (k.callS (w_228 hw) (S38 hw) (R_di hw G O A (own_d57 rfl rfl rfl rfl rfl rfl rfl x1 x2 x3 x4 hs1 hc90_4 hc126_5 hc162_6) (own_d58 rfl rfl rfl rfl rfl rfl rfl x1 x2 x3 x4 hs1 hc90_4 hc126_5 hc162_6) x3 (own_d59 rfl rfl rfl rfl rfl x1 x2 x3 x4 hs1 hc90_4 hc126_5 hc162_6) (by decide) (by decide) (dgn Q rfl rfl rfl rfl rfl (j := 3) rfl x1 x2 m3 n3 (i_lt hc162_6) rfl) (q2 := 1000)) D39_182 0 rfl).pv
          replace k := k |>.ifNo D39_185  |>.iconst D39_188 1 |>.goto D39_189 |>.istore D39_193 sto8 |>.iload D39_195 rfl |>.iconst D39_197 4
          by_cases hc198_7 : 4 < ((ssz p1) - 1)
          · replace k := k |>.icmpNo D39_198 (tlt hc198_7).2.2.2 |>.iload D39_201 rfl |>.ifNo D39_203  |>.aloadN D39_206 rfl rfl |>.iload D39_207 rfl |>.iload D39_209 rfl |>.iadd D39_211 rfl |>.iconst D39_212 5 |>.isub D39_213 rfl |>.lloadN D39_214 rfl |>.ldcJ (w_237 hw) D39_215
            replace k := (k.callS (w_228 hw) (S38 hw) (R_di hw G O A (own_d60 rfl rfl rfl rfl rfl rfl rfl x1 x2 x4 hs1 hc90_4 hc126_5 hc162_6 hc198_7) (own_d61 rfl rfl rfl rfl rfl rfl rfl x1 x2 x3 x4 hs1 hc90_4 hc126_5 hc162_6 hc198_7) x3 (own_d62 rfl rfl rfl rfl rfl x4 hs1 hc90_4 hc126_5 hc162_6 hc198_7) (by decide) (by decide) (dgn Q rfl rfl rfl rfl rfl (j := 4) rfl x1 x2 m3 n3 (i_lt hc198_7) rfl) (q2 := 10000)) D39_218 0 rfl).pv
            replace k := k |>.ifNo D39_221  |>.iconst D39_224 1 |>.goto D39_225 |>.istore D39_229 sto8 |>.iload D39_231 rfl |>.iconst D39_233 5
            by_cases hc234_8 : 5 < ((ssz p1) - 1)
            · replace k := k |>.icmpNo D39_234 (tlt hc234_8).2.2.2 |>.iload D39_237 rfl |>.ifNo D39_239  |>.aloadN D39_242 rfl rfl |>.iload D39_243 rfl |>.iload D39_245 rfl |>.iadd D39_247 rfl |>.bipush D39_248 6 |>.isub D39_250 rfl |>.lloadN D39_251 rfl |>.ldcJ (w_238 hw) D39_252
              replace k := (k.callS (w_228 hw) (S38 hw) (R_di hw G O A (own_d63 rfl rfl rfl rfl rfl rfl rfl x1 x2 x4 hs1 hc90_4 hc126_5 hc162_6 hc198_7 hc234_8) (own_d64 rfl rfl rfl rfl rfl rfl rfl x1 x2 x3 x4 hs1 hc90_4 hc126_5 hc162_6 hc198_7 hc234_8) x3 (own_d65 rfl rfl rfl rfl rfl x4 hs1 hc90_4 hc126_5 hc162_6 hc198_7 hc234_8) (by decide) (by decide) (dgn Q rfl rfl rfl rfl rfl (j := 5) rfl x1 x2 m3 n3 (i_lt hc234_8) rfl) (q2 := 100000)) D39_255 0 rfl).pv
              replace k := k |>.ifNo D39_258  |>.iconst D39_261 1 |>.goto D39_262 |>.istore D39_266 sto8 |>.iload D39_268 rfl |>.bipush D39_270 6
              by_cases hc272_9 : 6 < ((ssz p1) - 1)
              · replace k := k |>.icmpNo D39_272 (tlt hc272_9).2.2.2 |>.iload D39_275 rfl |>.ifNo D39_277  |>.aloadN D39_280 rfl rfl |>.iload D39_281 rfl |>.iload D39_283 rfl |>.iadd D39_285 rfl |>.bipush D39_286 7 |>.isub D39_288 rfl |>.lloadN D39_289 rfl |>.ldcJ (w_239 hw) D39_290
                replace k := (k.callS (w_228 hw) (S38 hw) (R_di hw G O A (own_d66 rfl rfl rfl rfl rfl rfl rfl x1 x2 x4 hs1 hc90_4 hc126_5 hc162_6 hc198_7 hc234_8 hc272_9) (own_d67 rfl rfl rfl rfl rfl rfl rfl x1 x2 x3 x4 hs1 hc90_4 hc126_5 hc162_6 hc198_7 hc234_8 hc272_9) x3 (own_d68 rfl rfl rfl rfl rfl x4 hs1 hc90_4 hc126_5 hc162_6 hc198_7 hc234_8 hc272_9) (by decide) (by decide) (dgn Q rfl rfl rfl rfl rfl (j := 6) rfl x1 x2 m3 n3 (i_lt hc272_9) rfl) (q2 := 1000000)) D39_293 0 rfl).pv
                replace k := k |>.ifNo D39_296  |>.iconst D39_299 1 |>.goto D39_300 |>.istore D39_304 sto8 |>.iload D39_306 rfl |>.bipush D39_308 7
                by_cases hc310_10 : 7 < ((ssz p1) - 1)
                · replace k := k |>.icmpNo D39_310 (tlt hc310_10).2.2.2 |>.iload D39_313 rfl |>.ifNo D39_315  |>.aloadN D39_318 rfl rfl |>.iload D39_319 rfl |>.iload D39_321 rfl |>.iadd D39_323 rfl |>.bipush D39_324 8 |>.isub D39_326 rfl |>.lloadN D39_327 rfl |>.ldcJ (w_240 hw) D39_328
                  replace k := (k.callS (w_228 hw) (S38 hw) (R_di hw G O A (own_d69 rfl rfl rfl rfl rfl rfl rfl x1 x2 x4 hs1 hc90_4 hc126_5 hc162_6 hc198_7 hc234_8 hc272_9 hc310_10) (own_d70 rfl rfl rfl rfl rfl rfl rfl x1 x2 x3 x4 hs1 hc90_4 hc126_5 hc162_6 hc198_7 hc234_8 hc272_9 hc310_10) x3 (own_d71 rfl rfl rfl rfl rfl x4 hs1 hc90_4 hc126_5 hc162_6 hc198_7 hc234_8 hc272_9 hc310_10) (by decide) (by decide) (dgn Q rfl rfl rfl rfl rfl (j := 7) rfl x1 x2 m3 n3 (i_lt hc310_10) rfl) (q2 := 10000000)) D39_331 0 rfl).pv
                  replace k := k |>.ifNo D39_334  |>.iconst D39_337 1 |>.goto D39_338 |>.istore D39_342 sto8 |>.iload D39_344 rfl |>.bipush D39_346 8
                  by_cases hc348_11 : 8 < ((ssz p1) - 1)
                  · replace k := k |>.icmpNo D39_348 (tlt hc348_11).2.2.2 |>.iload D39_351 rfl |>.ifNo D39_353  |>.aloadN D39_356 rfl rfl |>.iload D39_357 rfl |>.iload D39_359 rfl |>.iadd D39_361 rfl |>.bipush D39_362 9 |>.isub D39_364 rfl |>.lloadN D39_365 rfl |>.ldcJ (w_241 hw) D39_366
                    replace k := (k.callS (w_228 hw) (S38 hw) (R_di hw G O A (own_d72 rfl rfl rfl rfl rfl rfl rfl x1 x2 x4 hs1 hc90_4 hc126_5 hc162_6 hc198_7 hc234_8 hc272_9 hc310_10 hc348_11) (own_d73 rfl rfl rfl rfl rfl rfl rfl x1 x2 x3 x4 hs1 hc90_4 hc126_5 hc162_6 hc198_7 hc234_8 hc272_9 hc310_10 hc348_11) x3 (own_d74 rfl rfl rfl rfl rfl x4 hs1 hc90_4 hc126_5 hc162_6 hc198_7 hc234_8 hc272_9 hc310_10 hc348_11) (by decide) (by decide) (dgn Q rfl rfl rfl rfl rfl (j := 8) rfl x1 x2 m3 n3 (i_lt hc348_11) rfl) (q2 := 100000000)) D39_369 0 rfl).pv
                    replace k := k |>.ifNo D39_372  |>.iconst D39_375 1 |>.goto D39_376 |>.istore D39_380 sto8 |>.iload D39_382 rfl |>.bipush D39_384 9
                    by_cases hc386_12 : 9 < ((ssz p1) - 1)
                    · replace k := k |>.icmpNo D39_386 (tlt hc386_12).2.2.2 |>.iload D39_389 rfl |>.ifNo D39_391  |>.aloadN D39_394 rfl rfl |>.iload D39_395 rfl |>.iload D39_397 rfl |>.iadd D39_399 rfl |>.bipush D39_400 10 |>.isub D39_402 rfl |>.lloadN D39_403 rfl |>.ldcJ (w_242 hw) D39_404
                      replace k := (k.callS (w_228 hw) (S38 hw) (R_di hw G O A (own_d75 rfl rfl rfl rfl rfl rfl rfl x1 x2 x4 hs1 hc90_4 hc126_5 hc162_6 hc198_7 hc234_8 hc272_9 hc310_10 hc348_11 hc386_12) (own_d76 rfl rfl rfl rfl rfl rfl rfl x1 x2 x3 x4 hs1 hc90_4 hc126_5 hc162_6 hc198_7 hc234_8 hc272_9 hc310_10 hc348_11 hc386_12) x3 (own_d77 rfl rfl rfl rfl rfl x4 hs1 hc90_4 hc126_5 hc162_6 hc198_7 hc234_8 hc272_9 hc310_10 hc348_11 hc386_12) (by decide) (by decide) (dgn Q rfl rfl rfl rfl rfl (j := 9) rfl x1 x2 m3 n3 (i_lt hc386_12) rfl) (q2 := 1000000000)) D39_407 0 rfl).pv
                      replace k := k |>.ifNo D39_410  |>.iconst D39_413 1 |>.goto D39_414 |>.istore D39_418 sto8 |>.iload D39_420 rfl
                      exact k.retN (t := .boolean) D39_422 rfl (by simp) (z' := 1) (by decide) ⟨rfl, rfl⟩
                    · replace k := k |>.icmpYes D39_386 (flt hc386_12).2.2.2 |>.iload D39_420 rfl
                      exact k.retN (t := .boolean) D39_422 rfl (by simp) (z' := 1) (by decide) ⟨rfl, rfl⟩
                  · replace k := k |>.icmpYes D39_348 (flt hc348_11).2.2.2 |>.iload D39_382 rfl |>.bipush D39_384 9 |>.icmpYes D39_386 (flt (own_d78 rfl rfl rfl rfl x4 hs1 hc90_4 hc126_5 hc162_6 hc198_7 hc234_8 hc272_9 hc310_10 hc348_11)).2.2.2 |>.iload D39_420 rfl
                    exact k.retN (t := .boolean) D39_422 rfl (by simp) (z' := 1) (by decide) ⟨rfl, rfl⟩
                · replace k := k |>.icmpYes D39_310 (flt hc310_10).2.2.2 |>.iload D39_344 rfl |>.bipush D39_346 8 |>.icmpYes D39_348 (flt (own_d79 rfl rfl rfl rfl x4 hs1 hc90_4 hc126_5 hc162_6 hc198_7 hc234_8 hc272_9 hc310_10)).2.2.2 |>.iload D39_382 rfl |>.bipush D39_384 9 |>.icmpYes D39_386 (flt (own_d80 rfl rfl rfl rfl x4 hs1 hc90_4 hc126_5 hc162_6 hc198_7 hc234_8 hc272_9 hc310_10)).2.2.2 |>.iload D39_420 rfl
                  exact k.retN (t := .boolean) D39_422 rfl (by simp) (z' := 1) (by decide) ⟨rfl, rfl⟩
              · replace k := k |>.icmpYes D39_272 (flt hc272_9).2.2.2 |>.iload D39_306 rfl |>.bipush D39_308 7 |>.icmpYes D39_310 (flt (own_d81 rfl rfl rfl rfl x4 hs1 hc90_4 hc126_5 hc162_6 hc198_7 hc234_8 hc272_9)).2.2.2 |>.iload D39_344 rfl |>.bipush D39_346 8 |>.icmpYes D39_348 (flt (own_d82 rfl rfl rfl rfl x4 hs1 hc90_4 hc126_5 hc162_6 hc198_7 hc234_8 hc272_9)).2.2.2 |>.iload D39_382 rfl |>.bipush D39_384 9 |>.icmpYes D39_386 (flt (own_d83 rfl rfl rfl rfl x4 hs1 hc90_4 hc126_5 hc162_6 hc198_7 hc234_8 hc272_9)).2.2.2 |>.iload D39_420 rfl
                exact k.retN (t := .boolean) D39_422 rfl (by simp) (z' := 1) (by decide) ⟨rfl, rfl⟩
            · replace k := k |>.icmpYes D39_234 (flt hc234_8).2.2.2 |>.iload D39_268 rfl |>.bipush D39_270 6 |>.icmpYes D39_272 (flt (own_d84 rfl rfl rfl rfl x4 hs1 hc90_4 hc126_5 hc162_6 hc198_7 hc234_8)).2.2.2 |>.iload D39_306 rfl |>.bipush D39_308 7 |>.icmpYes D39_310 (flt (own_d85 rfl rfl rfl rfl x4 hs1 hc90_4 hc126_5 hc162_6 hc198_7 hc234_8)).2.2.2 |>.iload D39_344 rfl |>.bipush D39_346 8 |>.icmpYes D39_348 (flt (own_d86 rfl rfl rfl rfl x4 hs1 hc90_4 hc126_5 hc162_6 hc198_7 hc234_8)).2.2.2 |>.iload D39_382 rfl |>.bipush D39_384 9
              replace k := k |>.icmpYes D39_386 (flt (own_d87 rfl rfl rfl rfl x4 hs1 hc90_4 hc126_5 hc162_6 hc198_7 hc234_8)).2.2.2 |>.iload D39_420 rfl
              exact k.retN (t := .boolean) D39_422 rfl (by simp) (z' := 1) (by decide) ⟨rfl, rfl⟩
          · replace k := k |>.icmpYes D39_198 (flt hc198_7).2.2.2 |>.iload D39_231 rfl |>.iconst D39_233 5 |>.icmpYes D39_234 (flt (own_d88 rfl rfl rfl rfl x4 hs1 hc90_4 hc126_5 hc162_6 hc198_7)).2.2.2 |>.iload D39_268 rfl |>.bipush D39_270 6 |>.icmpYes D39_272 (flt (own_d89 rfl rfl rfl rfl x4 hs1 hc90_4 hc126_5 hc162_6 hc198_7)).2.2.2 |>.iload D39_306 rfl |>.bipush D39_308 7 |>.icmpYes D39_310 (flt (own_d90 rfl rfl rfl rfl x4 hs1 hc90_4 hc126_5 hc162_6 hc198_7)).2.2.2 |>.iload D39_344 rfl |>.bipush D39_346 8
            replace k := k |>.icmpYes D39_348 (flt (own_d91 rfl rfl rfl rfl x4 hs1 hc90_4 hc126_5 hc162_6 hc198_7)).2.2.2 |>.iload D39_382 rfl |>.bipush D39_384 9 |>.icmpYes D39_386 (flt (own_d92 rfl rfl rfl rfl x4 hs1 hc90_4 hc126_5 hc162_6 hc198_7)).2.2.2 |>.iload D39_420 rfl
            exact k.retN (t := .boolean) D39_422 rfl (by simp) (z' := 1) (by decide) ⟨rfl, rfl⟩
        · replace k := k |>.icmpYes D39_162 (flt hc162_6).2.2.2 |>.iload D39_195 rfl |>.iconst D39_197 4 |>.icmpYes D39_198 (flt (own_d93 rfl rfl rfl rfl x1 x2 x3 x4 hs1 hc90_4 hc126_5 hc162_6)).2.2.2 |>.iload D39_231 rfl |>.iconst D39_233 5 |>.icmpYes D39_234 (flt (own_d94 rfl rfl rfl rfl x1 x2 x3 x4 hs1 hc90_4 hc126_5 hc162_6)).2.2.2 |>.iload D39_268 rfl |>.bipush D39_270 6 |>.icmpYes D39_272 (flt (own_d95 rfl rfl rfl rfl x1 x2 x3 x4 hs1 hc90_4 hc126_5 hc162_6)).2.2.2 |>.iload D39_306 rfl |>.bipush D39_308 7
          replace k := k |>.icmpYes D39_310 (flt (own_d96 rfl rfl rfl rfl x1 x2 x3 x4 hs1 hc90_4 hc126_5 hc162_6)).2.2.2 |>.iload D39_344 rfl |>.bipush D39_346 8 |>.icmpYes D39_348 (flt (own_d97 rfl rfl rfl rfl x1 x2 x3 x4 hs1 hc90_4 hc126_5 hc162_6)).2.2.2 |>.iload D39_382 rfl |>.bipush D39_384 9 |>.icmpYes D39_386 (flt (own_d98 rfl rfl rfl rfl x1 x2 x3 x4 hs1 hc90_4 hc126_5 hc162_6)).2.2.2 |>.iload D39_420 rfl
          exact k.retN (t := .boolean) D39_422 rfl (by simp) (z' := 1) (by decide) ⟨rfl, rfl⟩
      · replace k := k |>.icmpYes D39_126 (flt hc126_5).2.2.2 |>.iload D39_159 rfl |>.iconst D39_161 3 |>.icmpYes D39_162 (flt (own_d99 rfl rfl rfl rfl x1 x2 x3 x4 hs1 hc90_4 hc126_5)).2.2.2 |>.iload D39_195 rfl |>.iconst D39_197 4 |>.icmpYes D39_198 (flt (own_d100 rfl rfl rfl rfl x1 x2 x3 x4 hs1 hc90_4 hc126_5)).2.2.2 |>.iload D39_231 rfl |>.iconst D39_233 5 |>.icmpYes D39_234 (flt (own_d101 rfl rfl rfl rfl x1 x2 x3 x4 hs1 hc90_4 hc126_5)).2.2.2 |>.iload D39_268 rfl |>.bipush D39_270 6
        replace k := k |>.icmpYes D39_272 (flt (own_d102 rfl rfl rfl rfl x1 x2 x3 x4 hs1 hc90_4 hc126_5)).2.2.2 |>.iload D39_306 rfl |>.bipush D39_308 7 |>.icmpYes D39_310 (flt (own_d103 rfl rfl rfl rfl x1 x2 x3 x4 hs1 hc90_4 hc126_5)).2.2.2 |>.iload D39_344 rfl |>.bipush D39_346 8 |>.icmpYes D39_348 (flt (own_d104 rfl rfl rfl rfl x1 x2 x3 x4 hs1 hc90_4 hc126_5)).2.2.2 |>.iload D39_382 rfl |>.bipush D39_384 9 |>.icmpYes D39_386 (flt (own_d105 rfl rfl rfl rfl x1 x2 x3 x4 hs1 hc90_4 hc126_5)).2.2.2 |>.iload D39_420 rfl
        exact k.retN (t := .boolean) D39_422 rfl (by simp) (z' := 1) (by decide) ⟨rfl, rfl⟩
    · replace k := k |>.icmpYes D39_90 (flt hc90_4).2.2.2 |>.iload D39_123 rfl |>.iconst D39_125 2 |>.icmpYes D39_126 (flt (own_d106 rfl rfl rfl rfl x1 x2 x3 x4 hs1 hc90_4)).2.2.2 |>.iload D39_159 rfl |>.iconst D39_161 3 |>.icmpYes D39_162 (flt (own_d107 rfl rfl rfl rfl x1 x2 x3 x4 hs1 hc90_4)).2.2.2 |>.iload D39_195 rfl |>.iconst D39_197 4 |>.icmpYes D39_198 (flt (own_d108 rfl rfl rfl rfl x1 x2 x3 x4 hs1 hc90_4)).2.2.2 |>.iload D39_231 rfl |>.iconst D39_233 5
      replace k := k |>.icmpYes D39_234 (flt (own_d109 rfl rfl rfl rfl x1 x2 x3 x4 hs1 hc90_4)).2.2.2 |>.iload D39_268 rfl |>.bipush D39_270 6 |>.icmpYes D39_272 (flt (own_d110 rfl rfl rfl rfl x1 x2 x3 x4 hs1 hc90_4)).2.2.2 |>.iload D39_306 rfl |>.bipush D39_308 7 |>.icmpYes D39_310 (flt (own_d111 rfl rfl rfl rfl x1 x2 x3 x4 hs1 hc90_4)).2.2.2 |>.iload D39_344 rfl |>.bipush D39_346 8 |>.icmpYes D39_348 (flt (own_d112 rfl rfl rfl rfl x1 x2 x3 x4 hs1 hc90_4)).2.2.2 |>.iload D39_382 rfl |>.bipush D39_384 9
      replace k := k |>.icmpYes D39_386 (flt (own_d113 rfl rfl rfl rfl x1 x2 x3 x4 hs1 hc90_4)).2.2.2 |>.iload D39_420 rfl
      exact k.retN (t := .boolean) D39_422 rfl (by simp) (z' := 1) (by decide) ⟨rfl, rfl⟩
  · replace k := (k.callS (w_193 hw) (S37 hw) (R_37_3 hw G hs1) D39_2 0 rfl).pv
    replace k := k |>.lstoreN D39_5 (Ls' := #[.val (.ref a1), .val (.int p2), .val (.int p1), .val (.long (p1.toInt64)), .second, .unset, .unset, .unset, .unset]) rfl |>.iloadN D39_6 rfl |>.ifYes D39_7 ((if0 _ _).trans (flt (own_d114 rfl rfl rfl x1 x2 x3 x4 hs1)).2.1) |>.iconst D39_14 0 |>.istore D39_15 sto5 |>.iload D39_17 rfl |>.ifYes D39_19  |>.iloadN D39_28 rfl |>.istore D39_29 sto6 |>.lloadN D39_31 rfl
    replace k := (k.callS (w_196 hw) (S35 hw) (R_mg hw G hs1 (own_d115 rfl rfl rfl x1 x2 x3 x4 hs1)) D39_32 0 rfl).pv
    obtain ⟨-, t14, m14, n14⟩ := dl0 (p := p1) rfl hs1 rfl rfl
    replace k := k |>.top t14 |>.istore D39_35 sto7 |>.iload D39_37 rfl |>.ifYes D39_39  |>.iconst D39_52 1 |>.goto D39_53 |>.istore D39_57 sto8 |>.iload D39_59 rfl |>.ifNo D39_61  |>.aloadN D39_64 rfl rfl |>.iload D39_65 rfl |>.iload D39_67 rfl
    replace k := k |>.iadd D39_69 rfl |>.iconst D39_70 1 |>.isub D39_71 rfl |>.lloadN D39_72 rfl |>.lconst D39_73 1
    replace k := (k.callS (w_228 hw) (S38 hw) (R_di hw G O A (own_d116 rfl rfl rfl rfl x1 x2 x3 x4 hs1) (own_d117 rfl rfl rfl rfl x1 x2 x3 x4 hs1) x3 hs1 (by decide) (by decide) (dgp Q rfl rfl rfl (j := 0) rfl x1 x2 m14 n14 (ssz_pos p1) rfl) (q2 := 1)) D39_74 0 rfl).pv
    replace k := k |>.ifNo D39_77  |>.iconst D39_80 1 |>.goto D39_81 |>.istore D39_85 sto8 |>.iload D39_87 rfl |>.iconst D39_89 1
    by_cases hc90_15 : 1 < (ssz p1)
    · replace k := k |>.icmpNo D39_90 (tlt hc90_15).2.2.2 |>.iload D39_93 rfl |>.ifNo D39_95  |>.aloadN D39_98 rfl rfl |>.iload D39_99 rfl |>.iload D39_101 rfl |>.iadd D39_103 rfl |>.iconst D39_104 2 |>.isub D39_105 rfl |>.lloadN D39_106 rfl |>.ldcJ (w_199 hw) D39_107
      replace k := (k.callS (w_228 hw) (S38 hw) (R_di hw G O A (own_d118 rfl rfl rfl rfl x1 x2 x3 x4 hs1 hc90_15) (own_d119 rfl rfl rfl rfl x1 x2 x3 x4 hs1 hc90_15) x3 hs1 (by decide) (by decide) (dgp Q rfl rfl rfl (j := 1) rfl x1 x2 m14 n14 (i_lt hc90_15) rfl) (q2 := 10)) D39_110 0 rfl).pv
      replace k := k |>.ifNo D39_113  |>.iconst D39_116 1 |>.goto D39_117 |>.istore D39_121 sto8 |>.iload D39_123 rfl |>.iconst D39_125 2
      by_cases hc126_16 : 2 < (ssz p1)
      · replace k := k |>.icmpNo D39_126 (tlt hc126_16).2.2.2 |>.iload D39_129 rfl |>.ifNo D39_131  |>.aloadN D39_134 rfl rfl |>.iload D39_135 rfl |>.iload D39_137 rfl |>.iadd D39_139 rfl |>.iconst D39_140 3 |>.isub D39_141 rfl |>.lloadN D39_142 rfl |>.ldcJ (w_235 hw) D39_143
        replace k := (k.callS (w_228 hw) (S38 hw) (R_di hw G O A (own_d120 rfl rfl rfl rfl x1 x2 x3 x4 hs1 hc90_15 hc126_16) (own_d121 rfl rfl rfl rfl x1 x2 x3 x4 hs1 hc90_15 hc126_16) x3 hs1 (by decide) (by decide) (dgp Q rfl rfl rfl (j := 2) rfl x1 x2 m14 n14 (i_lt hc126_16) rfl) (q2 := 100)) D39_146 0 rfl).pv
        replace k := k |>.ifNo D39_149  |>.iconst D39_152 1 |>.goto D39_153 |>.istore D39_157 sto8 |>.iload D39_159 rfl |>.iconst D39_161 3
        by_cases hc162_17 : 3 < (ssz p1)
        · replace k := k |>.icmpNo D39_162 (tlt hc162_17).2.2.2 |>.iload D39_165 rfl |>.ifNo D39_167  |>.aloadN D39_170 rfl rfl |>.iload D39_171 rfl |>.iload D39_173 rfl |>.iadd D39_175 rfl |>.iconst D39_176 4 |>.isub D39_177 rfl |>.lloadN D39_178 rfl |>.ldcJ (w_236 hw) D39_179
          replace k := (k.callS (w_228 hw) (S38 hw) (R_di hw G O A (own_d122 rfl rfl rfl rfl x1 x2 x3 x4 hs1 hc90_15 hc126_16 hc162_17) (own_d123 rfl rfl rfl rfl x1 x2 x3 x4 hs1 hc90_15 hc126_16 hc162_17) x3 hs1 (by decide) (by decide) (dgp Q rfl rfl rfl (j := 3) rfl x1 x2 m14 n14 (i_lt hc162_17) rfl) (q2 := 1000)) D39_182 0 rfl).pv
          replace k := k |>.ifNo D39_185  |>.iconst D39_188 1 |>.goto D39_189 |>.istore D39_193 sto8 |>.iload D39_195 rfl |>.iconst D39_197 4
          by_cases hc198_18 : 4 < (ssz p1)
          · replace k := k |>.icmpNo D39_198 (tlt hc198_18).2.2.2 |>.iload D39_201 rfl |>.ifNo D39_203  |>.aloadN D39_206 rfl rfl |>.iload D39_207 rfl |>.iload D39_209 rfl |>.iadd D39_211 rfl |>.iconst D39_212 5 |>.isub D39_213 rfl |>.lloadN D39_214 rfl |>.ldcJ (w_237 hw) D39_215
            replace k := (k.callS (w_228 hw) (S38 hw) (R_di hw G O A (own_d124 rfl rfl rfl rfl x1 x2 x4 hs1 hc90_15 hc126_16 hc162_17 hc198_18) (own_d125 rfl rfl rfl rfl x1 x2 x3 x4 hs1 hc90_15 hc126_16 hc162_17 hc198_18) x3 hs1 (by decide) (by decide) (dgp Q rfl rfl rfl (j := 4) rfl x1 x2 m14 n14 (i_lt hc198_18) rfl) (q2 := 10000)) D39_218 0 rfl).pv
            replace k := k |>.ifNo D39_221  |>.iconst D39_224 1 |>.goto D39_225 |>.istore D39_229 sto8 |>.iload D39_231 rfl |>.iconst D39_233 5
            by_cases hc234_19 : 5 < (ssz p1)
            · replace k := k |>.icmpNo D39_234 (tlt hc234_19).2.2.2 |>.iload D39_237 rfl |>.ifNo D39_239  |>.aloadN D39_242 rfl rfl |>.iload D39_243 rfl |>.iload D39_245 rfl |>.iadd D39_247 rfl |>.bipush D39_248 6 |>.isub D39_250 rfl |>.lloadN D39_251 rfl |>.ldcJ (w_238 hw) D39_252
              replace k := (k.callS (w_228 hw) (S38 hw) (R_di hw G O A (own_d126 rfl rfl rfl rfl x1 x2 x4 hs1 hc90_15 hc126_16 hc162_17 hc198_18 hc234_19) (own_d127 rfl rfl rfl rfl x1 x2 x3 x4 hs1 hc90_15 hc126_16 hc162_17 hc198_18 hc234_19) x3 hs1 (by decide) (by decide) (dgp Q rfl rfl rfl (j := 5) rfl x1 x2 m14 n14 (i_lt hc234_19) rfl) (q2 := 100000)) D39_255 0 rfl).pv
              replace k := k |>.ifNo D39_258  |>.iconst D39_261 1 |>.goto D39_262 |>.istore D39_266 sto8 |>.iload D39_268 rfl |>.bipush D39_270 6
              by_cases hc272_20 : 6 < (ssz p1)
              · replace k := k |>.icmpNo D39_272 (tlt hc272_20).2.2.2 |>.iload D39_275 rfl |>.ifNo D39_277  |>.aloadN D39_280 rfl rfl |>.iload D39_281 rfl |>.iload D39_283 rfl |>.iadd D39_285 rfl |>.bipush D39_286 7 |>.isub D39_288 rfl |>.lloadN D39_289 rfl |>.ldcJ (w_239 hw) D39_290
                replace k := (k.callS (w_228 hw) (S38 hw) (R_di hw G O A (own_d128 rfl rfl rfl rfl x1 x2 x4 hs1 hc90_15 hc126_16 hc162_17 hc198_18 hc234_19 hc272_20) (own_d129 rfl rfl rfl rfl x1 x2 x3 x4 hs1 hc90_15 hc126_16 hc162_17 hc198_18 hc234_19 hc272_20) x3 hs1 (by decide) (by decide) (dgp Q rfl rfl rfl (j := 6) rfl x1 x2 m14 n14 (i_lt hc272_20) rfl) (q2 := 1000000)) D39_293 0 rfl).pv
                replace k := k |>.ifNo D39_296  |>.iconst D39_299 1 |>.goto D39_300 |>.istore D39_304 sto8 |>.iload D39_306 rfl |>.bipush D39_308 7
                by_cases hc310_21 : 7 < (ssz p1)
                · replace k := k |>.icmpNo D39_310 (tlt hc310_21).2.2.2 |>.iload D39_313 rfl |>.ifNo D39_315  |>.aloadN D39_318 rfl rfl |>.iload D39_319 rfl |>.iload D39_321 rfl |>.iadd D39_323 rfl |>.bipush D39_324 8 |>.isub D39_326 rfl |>.lloadN D39_327 rfl |>.ldcJ (w_240 hw) D39_328
                  replace k := (k.callS (w_228 hw) (S38 hw) (R_di hw G O A (own_d130 rfl rfl rfl rfl x1 x2 x4 hs1 hc90_15 hc126_16 hc162_17 hc198_18 hc234_19 hc272_20 hc310_21) (own_d131 rfl rfl rfl rfl x1 x2 x3 x4 hs1 hc90_15 hc126_16 hc162_17 hc198_18 hc234_19 hc272_20 hc310_21) x3 hs1 (by decide) (by decide) (dgp Q rfl rfl rfl (j := 7) rfl x1 x2 m14 n14 (i_lt hc310_21) rfl) (q2 := 10000000)) D39_331 0 rfl).pv
                  replace k := k |>.ifNo D39_334  |>.iconst D39_337 1 |>.goto D39_338 |>.istore D39_342 sto8 |>.iload D39_344 rfl |>.bipush D39_346 8
                  by_cases hc348_22 : 8 < (ssz p1)
                  · replace k := k |>.icmpNo D39_348 (tlt hc348_22).2.2.2 |>.iload D39_351 rfl |>.ifNo D39_353  |>.aloadN D39_356 rfl rfl |>.iload D39_357 rfl |>.iload D39_359 rfl |>.iadd D39_361 rfl |>.bipush D39_362 9 |>.isub D39_364 rfl |>.lloadN D39_365 rfl |>.ldcJ (w_241 hw) D39_366
                    replace k := (k.callS (w_228 hw) (S38 hw) (R_di hw G O A (own_d132 rfl rfl rfl rfl x1 x2 x4 hs1 hc90_15 hc126_16 hc162_17 hc198_18 hc234_19 hc272_20 hc310_21 hc348_22) (own_d133 rfl rfl rfl rfl x1 x2 x3 x4 hs1 hc90_15 hc126_16 hc162_17 hc198_18 hc234_19 hc272_20 hc310_21 hc348_22) x3 hs1 (by decide) (by decide) (dgp Q rfl rfl rfl (j := 8) rfl x1 x2 m14 n14 (i_lt hc348_22) rfl) (q2 := 100000000)) D39_369 0 rfl).pv
                    replace k := k |>.ifNo D39_372  |>.iconst D39_375 1 |>.goto D39_376 |>.istore D39_380 sto8 |>.iload D39_382 rfl |>.bipush D39_384 9
                    by_cases hc386_23 : 9 < (ssz p1)
                    · replace k := k |>.icmpNo D39_386 (tlt hc386_23).2.2.2 |>.iload D39_389 rfl |>.ifNo D39_391  |>.aloadN D39_394 rfl rfl |>.iload D39_395 rfl |>.iload D39_397 rfl |>.iadd D39_399 rfl |>.bipush D39_400 10 |>.isub D39_402 rfl |>.lloadN D39_403 rfl |>.ldcJ (w_242 hw) D39_404
                      replace k := (k.callS (w_228 hw) (S38 hw) (R_di hw G O A (own_d134 rfl rfl rfl rfl x1 x2 x4 hs1 hc90_15 hc126_16 hc162_17 hc198_18 hc234_19 hc272_20 hc310_21 hc348_22 hc386_23) (own_d135 rfl rfl rfl rfl x1 x2 x3 x4 hs1 hc90_15 hc126_16 hc162_17 hc198_18 hc234_19 hc272_20 hc310_21 hc348_22 hc386_23) x3 hs1 (by decide) (by decide) (dgp Q rfl rfl rfl (j := 9) rfl x1 x2 m14 n14 (i_lt hc386_23) rfl) (q2 := 1000000000)) D39_407 0 rfl).pv
                      replace k := k |>.ifNo D39_410  |>.iconst D39_413 1 |>.goto D39_414 |>.istore D39_418 sto8 |>.iload D39_420 rfl
                      exact k.retN (t := .boolean) D39_422 rfl (by simp) (z' := 1) (by decide) ⟨rfl, rfl⟩
                    · replace k := k |>.icmpYes D39_386 (flt hc386_23).2.2.2 |>.iload D39_420 rfl
                      exact k.retN (t := .boolean) D39_422 rfl (by simp) (z' := 1) (by decide) ⟨rfl, rfl⟩
                  · replace k := k |>.icmpYes D39_348 (flt hc348_22).2.2.2 |>.iload D39_382 rfl |>.bipush D39_384 9 |>.icmpYes D39_386 (flt (own_d136 rfl rfl rfl x4 hs1 hc90_15 hc126_16 hc162_17 hc198_18 hc234_19 hc272_20 hc310_21 hc348_22)).2.2.2 |>.iload D39_420 rfl
                    exact k.retN (t := .boolean) D39_422 rfl (by simp) (z' := 1) (by decide) ⟨rfl, rfl⟩
                · replace k := k |>.icmpYes D39_310 (flt hc310_21).2.2.2 |>.iload D39_344 rfl |>.bipush D39_346 8 |>.icmpYes D39_348 (flt (own_d137 rfl rfl rfl x4 hs1 hc90_15 hc126_16 hc162_17 hc198_18 hc234_19 hc272_20 hc310_21)).2.2.2 |>.iload D39_382 rfl |>.bipush D39_384 9 |>.icmpYes D39_386 (flt (own_d138 rfl rfl rfl x4 hs1 hc90_15 hc126_16 hc162_17 hc198_18 hc234_19 hc272_20 hc310_21)).2.2.2 |>.iload D39_420 rfl
                  exact k.retN (t := .boolean) D39_422 rfl (by simp) (z' := 1) (by decide) ⟨rfl, rfl⟩
              · replace k := k |>.icmpYes D39_272 (flt hc272_20).2.2.2 |>.iload D39_306 rfl |>.bipush D39_308 7 |>.icmpYes D39_310 (flt (own_d139 rfl rfl rfl x4 hs1 hc90_15 hc126_16 hc162_17 hc198_18 hc234_19 hc272_20)).2.2.2 |>.iload D39_344 rfl |>.bipush D39_346 8 |>.icmpYes D39_348 (flt (own_d140 rfl rfl rfl x4 hs1 hc90_15 hc126_16 hc162_17 hc198_18 hc234_19 hc272_20)).2.2.2 |>.iload D39_382 rfl |>.bipush D39_384 9 |>.icmpYes D39_386 (flt (own_d141 rfl rfl rfl x4 hs1 hc90_15 hc126_16 hc162_17 hc198_18 hc234_19 hc272_20)).2.2.2 |>.iload D39_420 rfl
                exact k.retN (t := .boolean) D39_422 rfl (by simp) (z' := 1) (by decide) ⟨rfl, rfl⟩
            · replace k := k |>.icmpYes D39_234 (flt hc234_19).2.2.2 |>.iload D39_268 rfl |>.bipush D39_270 6 |>.icmpYes D39_272 (flt (own_d142 rfl rfl rfl x4 hs1 hc90_15 hc126_16 hc162_17 hc198_18 hc234_19)).2.2.2 |>.iload D39_306 rfl |>.bipush D39_308 7 |>.icmpYes D39_310 (flt (own_d143 rfl rfl rfl x4 hs1 hc90_15 hc126_16 hc162_17 hc198_18 hc234_19)).2.2.2 |>.iload D39_344 rfl |>.bipush D39_346 8 |>.icmpYes D39_348 (flt (own_d144 rfl rfl rfl x4 hs1 hc90_15 hc126_16 hc162_17 hc198_18 hc234_19)).2.2.2 |>.iload D39_382 rfl |>.bipush D39_384 9
              replace k := k |>.icmpYes D39_386 (flt (own_d145 rfl rfl rfl x4 hs1 hc90_15 hc126_16 hc162_17 hc198_18 hc234_19)).2.2.2 |>.iload D39_420 rfl
              exact k.retN (t := .boolean) D39_422 rfl (by simp) (z' := 1) (by decide) ⟨rfl, rfl⟩
          · replace k := k |>.icmpYes D39_198 (flt hc198_18).2.2.2 |>.iload D39_231 rfl |>.iconst D39_233 5 |>.icmpYes D39_234 (flt (own_d146 rfl rfl rfl x4 hs1 hc90_15 hc126_16 hc162_17 hc198_18)).2.2.2 |>.iload D39_268 rfl |>.bipush D39_270 6 |>.icmpYes D39_272 (flt (own_d147 rfl rfl rfl x4 hs1 hc90_15 hc126_16 hc162_17 hc198_18)).2.2.2 |>.iload D39_306 rfl |>.bipush D39_308 7 |>.icmpYes D39_310 (flt (own_d148 rfl rfl rfl x4 hs1 hc90_15 hc126_16 hc162_17 hc198_18)).2.2.2 |>.iload D39_344 rfl |>.bipush D39_346 8
            replace k := k |>.icmpYes D39_348 (flt (own_d149 rfl rfl rfl x4 hs1 hc90_15 hc126_16 hc162_17 hc198_18)).2.2.2 |>.iload D39_382 rfl |>.bipush D39_384 9 |>.icmpYes D39_386 (flt (own_d150 rfl rfl rfl x4 hs1 hc90_15 hc126_16 hc162_17 hc198_18)).2.2.2 |>.iload D39_420 rfl
            exact k.retN (t := .boolean) D39_422 rfl (by simp) (z' := 1) (by decide) ⟨rfl, rfl⟩
        · replace k := k |>.icmpYes D39_162 (flt hc162_17).2.2.2 |>.iload D39_195 rfl |>.iconst D39_197 4 |>.icmpYes D39_198 (flt (own_d151 rfl rfl rfl x1 x2 x3 x4 hs1 hc90_15 hc126_16 hc162_17)).2.2.2 |>.iload D39_231 rfl |>.iconst D39_233 5 |>.icmpYes D39_234 (flt (own_d152 rfl rfl rfl x1 x2 x3 x4 hs1 hc90_15 hc126_16 hc162_17)).2.2.2 |>.iload D39_268 rfl |>.bipush D39_270 6 |>.icmpYes D39_272 (flt (own_d153 rfl rfl rfl x1 x2 x3 x4 hs1 hc90_15 hc126_16 hc162_17)).2.2.2 |>.iload D39_306 rfl |>.bipush D39_308 7
          replace k := k |>.icmpYes D39_310 (flt (own_d154 rfl rfl rfl x1 x2 x3 x4 hs1 hc90_15 hc126_16 hc162_17)).2.2.2 |>.iload D39_344 rfl |>.bipush D39_346 8 |>.icmpYes D39_348 (flt (own_d155 rfl rfl rfl x1 x2 x3 x4 hs1 hc90_15 hc126_16 hc162_17)).2.2.2 |>.iload D39_382 rfl |>.bipush D39_384 9 |>.icmpYes D39_386 (flt (own_d156 rfl rfl rfl x1 x2 x3 x4 hs1 hc90_15 hc126_16 hc162_17)).2.2.2 |>.iload D39_420 rfl
          exact k.retN (t := .boolean) D39_422 rfl (by simp) (z' := 1) (by decide) ⟨rfl, rfl⟩
      · replace k := k |>.icmpYes D39_126 (flt hc126_16).2.2.2 |>.iload D39_159 rfl |>.iconst D39_161 3 |>.icmpYes D39_162 (flt (own_d157 rfl rfl rfl x1 x2 x3 x4 hs1 hc90_15 hc126_16)).2.2.2 |>.iload D39_195 rfl |>.iconst D39_197 4 |>.icmpYes D39_198 (flt (own_d158 rfl rfl rfl x1 x2 x3 x4 hs1 hc90_15 hc126_16)).2.2.2 |>.iload D39_231 rfl |>.iconst D39_233 5 |>.icmpYes D39_234 (flt (own_d159 rfl rfl rfl x1 x2 x3 x4 hs1 hc90_15 hc126_16)).2.2.2 |>.iload D39_268 rfl |>.bipush D39_270 6
        replace k := k |>.icmpYes D39_272 (flt (own_d160 rfl rfl rfl x1 x2 x3 x4 hs1 hc90_15 hc126_16)).2.2.2 |>.iload D39_306 rfl |>.bipush D39_308 7 |>.icmpYes D39_310 (flt (own_d161 rfl rfl rfl x1 x2 x3 x4 hs1 hc90_15 hc126_16)).2.2.2 |>.iload D39_344 rfl |>.bipush D39_346 8 |>.icmpYes D39_348 (flt (own_d162 rfl rfl rfl x1 x2 x3 x4 hs1 hc90_15 hc126_16)).2.2.2 |>.iload D39_382 rfl |>.bipush D39_384 9 |>.icmpYes D39_386 (flt (own_d163 rfl rfl rfl x1 x2 x3 x4 hs1 hc90_15 hc126_16)).2.2.2 |>.iload D39_420 rfl
        exact k.retN (t := .boolean) D39_422 rfl (by simp) (z' := 1) (by decide) ⟨rfl, rfl⟩
    · replace k := k |>.icmpYes D39_90 (flt hc90_15).2.2.2 |>.iload D39_123 rfl |>.iconst D39_125 2 |>.icmpYes D39_126 (flt (own_d164 rfl rfl rfl x1 x2 x3 x4 hs1 hc90_15)).2.2.2 |>.iload D39_159 rfl |>.iconst D39_161 3 |>.icmpYes D39_162 (flt (own_d165 rfl rfl rfl x1 x2 x3 x4 hs1 hc90_15)).2.2.2 |>.iload D39_195 rfl |>.iconst D39_197 4 |>.icmpYes D39_198 (flt (own_d166 rfl rfl rfl x1 x2 x3 x4 hs1 hc90_15)).2.2.2 |>.iload D39_231 rfl |>.iconst D39_233 5
      replace k := k |>.icmpYes D39_234 (flt (own_d167 rfl rfl rfl x1 x2 x3 x4 hs1 hc90_15)).2.2.2 |>.iload D39_268 rfl |>.bipush D39_270 6 |>.icmpYes D39_272 (flt (own_d168 rfl rfl rfl x1 x2 x3 x4 hs1 hc90_15)).2.2.2 |>.iload D39_306 rfl |>.bipush D39_308 7 |>.icmpYes D39_310 (flt (own_d169 rfl rfl rfl x1 x2 x3 x4 hs1 hc90_15)).2.2.2 |>.iload D39_344 rfl |>.bipush D39_346 8 |>.icmpYes D39_348 (flt (own_d170 rfl rfl rfl x1 x2 x3 x4 hs1 hc90_15)).2.2.2 |>.iload D39_382 rfl |>.bipush D39_384 9
      replace k := k |>.icmpYes D39_386 (flt (own_d171 rfl rfl rfl x1 x2 x3 x4 hs1 hc90_15)).2.2.2 |>.iload D39_420 rfl
      exact k.retN (t := .boolean) D39_422 rfl (by simp) (z' := 1) (by decide) ⟨rfl, rfl⟩
abbrev Y40 : MethodName := ⟨"com/example/chatham/chatham/pattern/SemaphoreBulkheadSnapshotToStringPinLaw", "pre", "(Ljava/lang/String;Ljava/lang/String;)Z"⟩
abbrev J40 := method_7_code
abbrev C40 : Cond := .code Y40 J40 2 (some .boolean)
theorem D40_0 : Dc J40 0 (.aload_n 0) 1 1 := by decide +kernel
theorem D40_1 : Dc J40 1 (.iconst 0) 1 2 := by decide +kernel
theorem D40_2 : Dc J40 2 (.invokevirtual 46) 3 5 := by decide +kernel
theorem own_d172 {vN : Int32} (hq0 : vN < 1000) (hq1 : ¬ (vN < 32)) : 0 < vN := by
  have := rng32 vN
  have : (32 : Int32).toInt = 32 := by decide
  have := i_nlt hq1
  have : (1000 : Int32).toInt = 1000 := by decide
  have := i_lt hq0
  have : (0 : Int32).toInt = 0 := by decide
  exact o_lt (by omega)
theorem D40_5 : Dc J40 5 (.aload_n 1) 1 6 := by decide +kernel
theorem D40_6 : Dc J40 6 (.iconst 0) 1 7 := by decide +kernel
theorem D40_7 : Dc J40 7 (.invokevirtual 46) 3 10 := by decide +kernel
theorem D40_10 : Dj J40 10 (.if_icmp .ne 462) 462 13 472 := by decide +kernel
theorem D40_13 : Dc J40 13 (.aload_n 0) 1 14 := by decide +kernel
theorem D40_14 : Dc J40 14 (.iconst 1) 1 15 := by decide +kernel
theorem D40_15 : Dc J40 15 (.invokevirtual 46) 3 18 := by decide +kernel
theorem own_d173 {vN : Int32} (hq0 : vN < 1000) (hq1 : ¬ (vN < 32)) : 1 < vN := by
  have := rng32 vN
  have : (32 : Int32).toInt = 32 := by decide
  have := i_nlt hq1
  have : (1000 : Int32).toInt = 1000 := by decide
  have := i_lt hq0
  have : (1 : Int32).toInt = 1 := by decide
  exact o_lt (by omega)
theorem D40_18 : Dc J40 18 (.aload_n 1) 1 19 := by decide +kernel
theorem D40_19 : Dc J40 19 (.iconst 1) 1 20 := by decide +kernel
theorem D40_20 : Dc J40 20 (.invokevirtual 46) 3 23 := by decide +kernel
theorem D40_23 : Dj J40 23 (.if_icmp .ne 449) 449 26 472 := by decide +kernel
theorem D40_26 : Dc J40 26 (.aload_n 0) 1 27 := by decide +kernel
theorem D40_27 : Dc J40 27 (.iconst 2) 1 28 := by decide +kernel
theorem D40_28 : Dc J40 28 (.invokevirtual 46) 3 31 := by decide +kernel
theorem own_d174 {vN : Int32} (hq0 : vN < 1000) (hq1 : ¬ (vN < 32)) : 2 < vN := by
  have := rng32 vN
  have : (32 : Int32).toInt = 32 := by decide
  have := i_nlt hq1
  have : (1000 : Int32).toInt = 1000 := by decide
  have := i_lt hq0
  have : (2 : Int32).toInt = 2 := by decide
  exact o_lt (by omega)
theorem D40_31 : Dc J40 31 (.aload_n 1) 1 32 := by decide +kernel
theorem D40_32 : Dc J40 32 (.iconst 2) 1 33 := by decide +kernel
theorem D40_33 : Dc J40 33 (.invokevirtual 46) 3 36 := by decide +kernel
theorem D40_36 : Dj J40 36 (.if_icmp .ne 436) 436 39 472 := by decide +kernel
theorem D40_39 : Dc J40 39 (.aload_n 0) 1 40 := by decide +kernel
theorem D40_40 : Dc J40 40 (.iconst 3) 1 41 := by decide +kernel
theorem D40_41 : Dc J40 41 (.invokevirtual 46) 3 44 := by decide +kernel
theorem own_d175 {vN : Int32} (hq0 : vN < 1000) (hq1 : ¬ (vN < 32)) : 3 < vN := by
  have := rng32 vN
  have : (32 : Int32).toInt = 32 := by decide
  have := i_nlt hq1
  have : (1000 : Int32).toInt = 1000 := by decide
  have := i_lt hq0
  have : (3 : Int32).toInt = 3 := by decide
  exact o_lt (by omega)
theorem D40_44 : Dc J40 44 (.aload_n 1) 1 45 := by decide +kernel
theorem D40_45 : Dc J40 45 (.iconst 3) 1 46 := by decide +kernel
theorem D40_46 : Dc J40 46 (.invokevirtual 46) 3 49 := by decide +kernel
theorem D40_49 : Dj J40 49 (.if_icmp .ne 423) 423 52 472 := by decide +kernel
theorem D40_52 : Dc J40 52 (.aload_n 0) 1 53 := by decide +kernel
theorem D40_53 : Dc J40 53 (.iconst 4) 1 54 := by decide +kernel
theorem D40_54 : Dc J40 54 (.invokevirtual 46) 3 57 := by decide +kernel
theorem own_d176 {vN : Int32} (hq0 : vN < 1000) (hq1 : ¬ (vN < 32)) : 4 < vN := by
  have := rng32 vN
  have : (32 : Int32).toInt = 32 := by decide
  have := i_nlt hq1
  have : (1000 : Int32).toInt = 1000 := by decide
  have := i_lt hq0
  have : (4 : Int32).toInt = 4 := by decide
  exact o_lt (by omega)
theorem D40_57 : Dc J40 57 (.aload_n 1) 1 58 := by decide +kernel
theorem D40_58 : Dc J40 58 (.iconst 4) 1 59 := by decide +kernel
theorem D40_59 : Dc J40 59 (.invokevirtual 46) 3 62 := by decide +kernel
theorem D40_62 : Dj J40 62 (.if_icmp .ne 410) 410 65 472 := by decide +kernel
theorem D40_65 : Dc J40 65 (.aload_n 0) 1 66 := by decide +kernel
theorem D40_66 : Dc J40 66 (.iconst 5) 1 67 := by decide +kernel
theorem D40_67 : Dc J40 67 (.invokevirtual 46) 3 70 := by decide +kernel
theorem own_d177 {vN : Int32} (hq0 : vN < 1000) (hq1 : ¬ (vN < 32)) : 5 < vN := by
  have := rng32 vN
  have : (32 : Int32).toInt = 32 := by decide
  have := i_nlt hq1
  have : (1000 : Int32).toInt = 1000 := by decide
  have := i_lt hq0
  have : (5 : Int32).toInt = 5 := by decide
  exact o_lt (by omega)
theorem D40_70 : Dc J40 70 (.aload_n 1) 1 71 := by decide +kernel
theorem D40_71 : Dc J40 71 (.iconst 5) 1 72 := by decide +kernel
theorem D40_72 : Dc J40 72 (.invokevirtual 46) 3 75 := by decide +kernel
theorem D40_75 : Dj J40 75 (.if_icmp .ne 397) 397 78 472 := by decide +kernel
theorem D40_78 : Dc J40 78 (.aload_n 0) 1 79 := by decide +kernel
theorem D40_79 : Dc J40 79 (.bipush 6) 2 81 := by decide +kernel
theorem D40_81 : Dc J40 81 (.invokevirtual 46) 3 84 := by decide +kernel
theorem own_d178 {vN : Int32} (hq0 : vN < 1000) (hq1 : ¬ (vN < 32)) : 6 < vN := by
  have := rng32 vN
  have : (32 : Int32).toInt = 32 := by decide
  have := i_nlt hq1
  have : (1000 : Int32).toInt = 1000 := by decide
  have := i_lt hq0
  have : (6 : Int32).toInt = 6 := by decide
  exact o_lt (by omega)
theorem D40_84 : Dc J40 84 (.aload_n 1) 1 85 := by decide +kernel
theorem D40_85 : Dc J40 85 (.bipush 6) 2 87 := by decide +kernel
theorem D40_87 : Dc J40 87 (.invokevirtual 46) 3 90 := by decide +kernel
theorem D40_90 : Dj J40 90 (.if_icmp .ne 382) 382 93 472 := by decide +kernel
theorem D40_93 : Dc J40 93 (.aload_n 0) 1 94 := by decide +kernel
theorem D40_94 : Dc J40 94 (.bipush 7) 2 96 := by decide +kernel
theorem D40_96 : Dc J40 96 (.invokevirtual 46) 3 99 := by decide +kernel
theorem own_d179 {vN : Int32} (hq0 : vN < 1000) (hq1 : ¬ (vN < 32)) : 7 < vN := by
  have := rng32 vN
  have : (32 : Int32).toInt = 32 := by decide
  have := i_nlt hq1
  have : (1000 : Int32).toInt = 1000 := by decide
  have := i_lt hq0
  have : (7 : Int32).toInt = 7 := by decide
  exact o_lt (by omega)
theorem D40_99 : Dc J40 99 (.aload_n 1) 1 100 := by decide +kernel
theorem D40_100 : Dc J40 100 (.bipush 7) 2 102 := by decide +kernel
theorem D40_102 : Dc J40 102 (.invokevirtual 46) 3 105 := by decide +kernel
theorem D40_105 : Dj J40 105 (.if_icmp .ne 367) 367 108 472 := by decide +kernel
theorem D40_108 : Dc J40 108 (.aload_n 0) 1 109 := by decide +kernel
theorem D40_109 : Dc J40 109 (.bipush 8) 2 111 := by decide +kernel
theorem D40_111 : Dc J40 111 (.invokevirtual 46) 3 114 := by decide +kernel
theorem own_d180 {vN : Int32} (hq0 : vN < 1000) (hq1 : ¬ (vN < 32)) : 8 < vN := by
  have := rng32 vN
  have : (32 : Int32).toInt = 32 := by decide
  have := i_nlt hq1
  have : (1000 : Int32).toInt = 1000 := by decide
  have := i_lt hq0
  have : (8 : Int32).toInt = 8 := by decide
  exact o_lt (by omega)
theorem D40_114 : Dc J40 114 (.aload_n 1) 1 115 := by decide +kernel
theorem D40_115 : Dc J40 115 (.bipush 8) 2 117 := by decide +kernel
theorem D40_117 : Dc J40 117 (.invokevirtual 46) 3 120 := by decide +kernel
theorem D40_120 : Dj J40 120 (.if_icmp .ne 352) 352 123 472 := by decide +kernel
theorem D40_123 : Dc J40 123 (.aload_n 0) 1 124 := by decide +kernel
theorem D40_124 : Dc J40 124 (.bipush 9) 2 126 := by decide +kernel
theorem D40_126 : Dc J40 126 (.invokevirtual 46) 3 129 := by decide +kernel
theorem own_d181 {vN : Int32} (hq0 : vN < 1000) (hq1 : ¬ (vN < 32)) : 9 < vN := by
  have := rng32 vN
  have : (32 : Int32).toInt = 32 := by decide
  have := i_nlt hq1
  have : (1000 : Int32).toInt = 1000 := by decide
  have := i_lt hq0
  have : (9 : Int32).toInt = 9 := by decide
  exact o_lt (by omega)
theorem D40_129 : Dc J40 129 (.aload_n 1) 1 130 := by decide +kernel
theorem D40_130 : Dc J40 130 (.bipush 9) 2 132 := by decide +kernel
theorem D40_132 : Dc J40 132 (.invokevirtual 46) 3 135 := by decide +kernel
theorem D40_135 : Dj J40 135 (.if_icmp .ne 337) 337 138 472 := by decide +kernel
theorem D40_138 : Dc J40 138 (.aload_n 0) 1 139 := by decide +kernel
theorem D40_139 : Dc J40 139 (.bipush 10) 2 141 := by decide +kernel
theorem D40_141 : Dc J40 141 (.invokevirtual 46) 3 144 := by decide +kernel
theorem own_d182 {vN : Int32} (hq0 : vN < 1000) (hq1 : ¬ (vN < 32)) : 10 < vN := by
  have := rng32 vN
  have : (32 : Int32).toInt = 32 := by decide
  have := i_nlt hq1
  have : (1000 : Int32).toInt = 1000 := by decide
  have := i_lt hq0
  have : (10 : Int32).toInt = 10 := by decide
  exact o_lt (by omega)
theorem D40_144 : Dc J40 144 (.aload_n 1) 1 145 := by decide +kernel
theorem D40_145 : Dc J40 145 (.bipush 10) 2 147 := by decide +kernel
theorem D40_147 : Dc J40 147 (.invokevirtual 46) 3 150 := by decide +kernel
theorem D40_150 : Dj J40 150 (.if_icmp .ne 322) 322 153 472 := by decide +kernel
theorem D40_153 : Dc J40 153 (.aload_n 0) 1 154 := by decide +kernel
theorem D40_154 : Dc J40 154 (.bipush 11) 2 156 := by decide +kernel
theorem D40_156 : Dc J40 156 (.invokevirtual 46) 3 159 := by decide +kernel
theorem own_d183 {vN : Int32} (hq0 : vN < 1000) (hq1 : ¬ (vN < 32)) : 11 < vN := by
  have := rng32 vN
  have : (32 : Int32).toInt = 32 := by decide
  have := i_nlt hq1
  have : (1000 : Int32).toInt = 1000 := by decide
  have := i_lt hq0
  have : (11 : Int32).toInt = 11 := by decide
  exact o_lt (by omega)
theorem D40_159 : Dc J40 159 (.aload_n 1) 1 160 := by decide +kernel
theorem D40_160 : Dc J40 160 (.bipush 11) 2 162 := by decide +kernel
theorem D40_162 : Dc J40 162 (.invokevirtual 46) 3 165 := by decide +kernel
theorem D40_165 : Dj J40 165 (.if_icmp .ne 307) 307 168 472 := by decide +kernel
theorem D40_168 : Dc J40 168 (.aload_n 0) 1 169 := by decide +kernel
theorem D40_169 : Dc J40 169 (.bipush 12) 2 171 := by decide +kernel
theorem D40_171 : Dc J40 171 (.invokevirtual 46) 3 174 := by decide +kernel
theorem own_d184 {vN : Int32} (hq0 : vN < 1000) (hq1 : ¬ (vN < 32)) : 12 < vN := by
  have := rng32 vN
  have : (32 : Int32).toInt = 32 := by decide
  have := i_nlt hq1
  have : (1000 : Int32).toInt = 1000 := by decide
  have := i_lt hq0
  have : (12 : Int32).toInt = 12 := by decide
  exact o_lt (by omega)
theorem D40_174 : Dc J40 174 (.aload_n 1) 1 175 := by decide +kernel
theorem D40_175 : Dc J40 175 (.bipush 12) 2 177 := by decide +kernel
theorem D40_177 : Dc J40 177 (.invokevirtual 46) 3 180 := by decide +kernel
theorem D40_180 : Dj J40 180 (.if_icmp .ne 292) 292 183 472 := by decide +kernel
theorem D40_183 : Dc J40 183 (.aload_n 0) 1 184 := by decide +kernel
theorem D40_184 : Dc J40 184 (.bipush 13) 2 186 := by decide +kernel
theorem D40_186 : Dc J40 186 (.invokevirtual 46) 3 189 := by decide +kernel
theorem own_d185 {vN : Int32} (hq0 : vN < 1000) (hq1 : ¬ (vN < 32)) : 13 < vN := by
  have := rng32 vN
  have : (32 : Int32).toInt = 32 := by decide
  have := i_nlt hq1
  have : (1000 : Int32).toInt = 1000 := by decide
  have := i_lt hq0
  have : (13 : Int32).toInt = 13 := by decide
  exact o_lt (by omega)
theorem D40_189 : Dc J40 189 (.aload_n 1) 1 190 := by decide +kernel
theorem D40_190 : Dc J40 190 (.bipush 13) 2 192 := by decide +kernel
theorem D40_192 : Dc J40 192 (.invokevirtual 46) 3 195 := by decide +kernel
theorem D40_195 : Dj J40 195 (.if_icmp .ne 277) 277 198 472 := by decide +kernel
theorem D40_198 : Dc J40 198 (.aload_n 0) 1 199 := by decide +kernel
theorem D40_199 : Dc J40 199 (.bipush 14) 2 201 := by decide +kernel
theorem D40_201 : Dc J40 201 (.invokevirtual 46) 3 204 := by decide +kernel
theorem own_d186 {vN : Int32} (hq0 : vN < 1000) (hq1 : ¬ (vN < 32)) : 14 < vN := by
  have := rng32 vN
  have : (32 : Int32).toInt = 32 := by decide
  have := i_nlt hq1
  have : (1000 : Int32).toInt = 1000 := by decide
  have := i_lt hq0
  have : (14 : Int32).toInt = 14 := by decide
  exact o_lt (by omega)
theorem D40_204 : Dc J40 204 (.aload_n 1) 1 205 := by decide +kernel
theorem D40_205 : Dc J40 205 (.bipush 14) 2 207 := by decide +kernel
theorem D40_207 : Dc J40 207 (.invokevirtual 46) 3 210 := by decide +kernel
theorem D40_210 : Dj J40 210 (.if_icmp .ne 262) 262 213 472 := by decide +kernel
theorem D40_213 : Dc J40 213 (.aload_n 0) 1 214 := by decide +kernel
theorem D40_214 : Dc J40 214 (.bipush 15) 2 216 := by decide +kernel
theorem D40_216 : Dc J40 216 (.invokevirtual 46) 3 219 := by decide +kernel
theorem own_d187 {vN : Int32} (hq0 : vN < 1000) (hq1 : ¬ (vN < 32)) : 15 < vN := by
  have := rng32 vN
  have : (32 : Int32).toInt = 32 := by decide
  have := i_nlt hq1
  have : (1000 : Int32).toInt = 1000 := by decide
  have := i_lt hq0
  have : (15 : Int32).toInt = 15 := by decide
  exact o_lt (by omega)
theorem D40_219 : Dc J40 219 (.aload_n 1) 1 220 := by decide +kernel
theorem D40_220 : Dc J40 220 (.bipush 15) 2 222 := by decide +kernel
theorem D40_222 : Dc J40 222 (.invokevirtual 46) 3 225 := by decide +kernel
theorem D40_225 : Dj J40 225 (.if_icmp .ne 247) 247 228 472 := by decide +kernel
theorem D40_228 : Dc J40 228 (.aload_n 0) 1 229 := by decide +kernel
theorem D40_229 : Dc J40 229 (.bipush 16) 2 231 := by decide +kernel
theorem D40_231 : Dc J40 231 (.invokevirtual 46) 3 234 := by decide +kernel
theorem own_d188 {vN : Int32} (hq0 : vN < 1000) (hq1 : ¬ (vN < 32)) : 16 < vN := by
  have := rng32 vN
  have : (32 : Int32).toInt = 32 := by decide
  have := i_nlt hq1
  have : (1000 : Int32).toInt = 1000 := by decide
  have := i_lt hq0
  have : (16 : Int32).toInt = 16 := by decide
  exact o_lt (by omega)
theorem D40_234 : Dc J40 234 (.aload_n 1) 1 235 := by decide +kernel
theorem D40_235 : Dc J40 235 (.bipush 16) 2 237 := by decide +kernel
theorem D40_237 : Dc J40 237 (.invokevirtual 46) 3 240 := by decide +kernel
theorem D40_240 : Dj J40 240 (.if_icmp .ne 232) 232 243 472 := by decide +kernel
theorem D40_243 : Dc J40 243 (.aload_n 0) 1 244 := by decide +kernel
theorem D40_244 : Dc J40 244 (.bipush 17) 2 246 := by decide +kernel
theorem D40_246 : Dc J40 246 (.invokevirtual 46) 3 249 := by decide +kernel
theorem own_d189 {vN : Int32} (hq0 : vN < 1000) (hq1 : ¬ (vN < 32)) : 17 < vN := by
  have := rng32 vN
  have : (32 : Int32).toInt = 32 := by decide
  have := i_nlt hq1
  have : (1000 : Int32).toInt = 1000 := by decide
  have := i_lt hq0
  have : (17 : Int32).toInt = 17 := by decide
  exact o_lt (by omega)
theorem D40_249 : Dc J40 249 (.aload_n 1) 1 250 := by decide +kernel
theorem D40_250 : Dc J40 250 (.bipush 17) 2 252 := by decide +kernel
theorem D40_252 : Dc J40 252 (.invokevirtual 46) 3 255 := by decide +kernel
theorem D40_255 : Dj J40 255 (.if_icmp .ne 217) 217 258 472 := by decide +kernel
theorem D40_258 : Dc J40 258 (.aload_n 0) 1 259 := by decide +kernel
theorem D40_259 : Dc J40 259 (.bipush 18) 2 261 := by decide +kernel
theorem D40_261 : Dc J40 261 (.invokevirtual 46) 3 264 := by decide +kernel
theorem own_d190 {vN : Int32} (hq0 : vN < 1000) (hq1 : ¬ (vN < 32)) : 18 < vN := by
  have := rng32 vN
  have : (32 : Int32).toInt = 32 := by decide
  have := i_nlt hq1
  have : (1000 : Int32).toInt = 1000 := by decide
  have := i_lt hq0
  have : (18 : Int32).toInt = 18 := by decide
  exact o_lt (by omega)
theorem D40_264 : Dc J40 264 (.aload_n 1) 1 265 := by decide +kernel
theorem D40_265 : Dc J40 265 (.bipush 18) 2 267 := by decide +kernel
theorem D40_267 : Dc J40 267 (.invokevirtual 46) 3 270 := by decide +kernel
theorem D40_270 : Dj J40 270 (.if_icmp .ne 202) 202 273 472 := by decide +kernel
theorem D40_273 : Dc J40 273 (.aload_n 0) 1 274 := by decide +kernel
theorem D40_274 : Dc J40 274 (.bipush 19) 2 276 := by decide +kernel
theorem D40_276 : Dc J40 276 (.invokevirtual 46) 3 279 := by decide +kernel
theorem own_d191 {vN : Int32} (hq0 : vN < 1000) (hq1 : ¬ (vN < 32)) : 19 < vN := by
  have := rng32 vN
  have : (32 : Int32).toInt = 32 := by decide
  have := i_nlt hq1
  have : (1000 : Int32).toInt = 1000 := by decide
  have := i_lt hq0
  have : (19 : Int32).toInt = 19 := by decide
  exact o_lt (by omega)
theorem D40_279 : Dc J40 279 (.aload_n 1) 1 280 := by decide +kernel
theorem D40_280 : Dc J40 280 (.bipush 19) 2 282 := by decide +kernel
theorem D40_282 : Dc J40 282 (.invokevirtual 46) 3 285 := by decide +kernel
theorem D40_285 : Dj J40 285 (.if_icmp .ne 187) 187 288 472 := by decide +kernel
theorem D40_288 : Dc J40 288 (.aload_n 0) 1 289 := by decide +kernel
theorem D40_289 : Dc J40 289 (.bipush 20) 2 291 := by decide +kernel
theorem D40_291 : Dc J40 291 (.invokevirtual 46) 3 294 := by decide +kernel
theorem own_d192 {vN : Int32} (hq0 : vN < 1000) (hq1 : ¬ (vN < 32)) : 20 < vN := by
  have := rng32 vN
  have : (32 : Int32).toInt = 32 := by decide
  have := i_nlt hq1
  have : (1000 : Int32).toInt = 1000 := by decide
  have := i_lt hq0
  have : (20 : Int32).toInt = 20 := by decide
  exact o_lt (by omega)
theorem D40_294 : Dc J40 294 (.aload_n 1) 1 295 := by decide +kernel
theorem D40_295 : Dc J40 295 (.bipush 20) 2 297 := by decide +kernel
theorem D40_297 : Dc J40 297 (.invokevirtual 46) 3 300 := by decide +kernel
theorem D40_300 : Dj J40 300 (.if_icmp .ne 172) 172 303 472 := by decide +kernel
theorem D40_303 : Dc J40 303 (.aload_n 0) 1 304 := by decide +kernel
theorem D40_304 : Dc J40 304 (.bipush 21) 2 306 := by decide +kernel
theorem D40_306 : Dc J40 306 (.invokevirtual 46) 3 309 := by decide +kernel
theorem own_d193 {vN : Int32} (hq0 : vN < 1000) (hq1 : ¬ (vN < 32)) : 21 < vN := by
  have := rng32 vN
  have : (32 : Int32).toInt = 32 := by decide
  have := i_nlt hq1
  have : (1000 : Int32).toInt = 1000 := by decide
  have := i_lt hq0
  have : (21 : Int32).toInt = 21 := by decide
  exact o_lt (by omega)
theorem D40_309 : Dc J40 309 (.aload_n 1) 1 310 := by decide +kernel
theorem D40_310 : Dc J40 310 (.bipush 21) 2 312 := by decide +kernel
theorem D40_312 : Dc J40 312 (.invokevirtual 46) 3 315 := by decide +kernel
theorem D40_315 : Dj J40 315 (.if_icmp .ne 157) 157 318 472 := by decide +kernel
theorem D40_318 : Dc J40 318 (.aload_n 0) 1 319 := by decide +kernel
theorem D40_319 : Dc J40 319 (.bipush 22) 2 321 := by decide +kernel
theorem D40_321 : Dc J40 321 (.invokevirtual 46) 3 324 := by decide +kernel
theorem own_d194 {vN : Int32} (hq0 : vN < 1000) (hq1 : ¬ (vN < 32)) : 22 < vN := by
  have := rng32 vN
  have : (32 : Int32).toInt = 32 := by decide
  have := i_nlt hq1
  have : (1000 : Int32).toInt = 1000 := by decide
  have := i_lt hq0
  have : (22 : Int32).toInt = 22 := by decide
  exact o_lt (by omega)
theorem D40_324 : Dc J40 324 (.aload_n 1) 1 325 := by decide +kernel
theorem D40_325 : Dc J40 325 (.bipush 22) 2 327 := by decide +kernel
theorem D40_327 : Dc J40 327 (.invokevirtual 46) 3 330 := by decide +kernel
theorem D40_330 : Dj J40 330 (.if_icmp .ne 142) 142 333 472 := by decide +kernel
theorem D40_333 : Dc J40 333 (.aload_n 0) 1 334 := by decide +kernel
theorem D40_334 : Dc J40 334 (.bipush 23) 2 336 := by decide +kernel
theorem D40_336 : Dc J40 336 (.invokevirtual 46) 3 339 := by decide +kernel
theorem own_d195 {vN : Int32} (hq0 : vN < 1000) (hq1 : ¬ (vN < 32)) : 23 < vN := by
  have := rng32 vN
  have : (32 : Int32).toInt = 32 := by decide
  have := i_nlt hq1
  have : (1000 : Int32).toInt = 1000 := by decide
  have := i_lt hq0
  have : (23 : Int32).toInt = 23 := by decide
  exact o_lt (by omega)
theorem D40_339 : Dc J40 339 (.aload_n 1) 1 340 := by decide +kernel
theorem D40_340 : Dc J40 340 (.bipush 23) 2 342 := by decide +kernel
theorem D40_342 : Dc J40 342 (.invokevirtual 46) 3 345 := by decide +kernel
theorem D40_345 : Dj J40 345 (.if_icmp .ne 127) 127 348 472 := by decide +kernel
theorem D40_348 : Dc J40 348 (.aload_n 0) 1 349 := by decide +kernel
theorem D40_349 : Dc J40 349 (.bipush 24) 2 351 := by decide +kernel
theorem D40_351 : Dc J40 351 (.invokevirtual 46) 3 354 := by decide +kernel
theorem own_d196 {vN : Int32} (hq0 : vN < 1000) (hq1 : ¬ (vN < 32)) : 24 < vN := by
  have := rng32 vN
  have : (32 : Int32).toInt = 32 := by decide
  have := i_nlt hq1
  have : (1000 : Int32).toInt = 1000 := by decide
  have := i_lt hq0
  have : (24 : Int32).toInt = 24 := by decide
  exact o_lt (by omega)
theorem D40_354 : Dc J40 354 (.aload_n 1) 1 355 := by decide +kernel
theorem D40_355 : Dc J40 355 (.bipush 24) 2 357 := by decide +kernel
theorem D40_357 : Dc J40 357 (.invokevirtual 46) 3 360 := by decide +kernel
theorem D40_360 : Dj J40 360 (.if_icmp .ne 112) 112 363 472 := by decide +kernel
theorem D40_363 : Dc J40 363 (.aload_n 0) 1 364 := by decide +kernel
theorem D40_364 : Dc J40 364 (.bipush 25) 2 366 := by decide +kernel
theorem D40_366 : Dc J40 366 (.invokevirtual 46) 3 369 := by decide +kernel
theorem own_d197 {vN : Int32} (hq0 : vN < 1000) (hq1 : ¬ (vN < 32)) : 25 < vN := by
  have := rng32 vN
  have : (32 : Int32).toInt = 32 := by decide
  have := i_nlt hq1
  have : (1000 : Int32).toInt = 1000 := by decide
  have := i_lt hq0
  have : (25 : Int32).toInt = 25 := by decide
  exact o_lt (by omega)
theorem D40_369 : Dc J40 369 (.aload_n 1) 1 370 := by decide +kernel
theorem D40_370 : Dc J40 370 (.bipush 25) 2 372 := by decide +kernel
theorem D40_372 : Dc J40 372 (.invokevirtual 46) 3 375 := by decide +kernel
theorem D40_375 : Dj J40 375 (.if_icmp .ne 97) 97 378 472 := by decide +kernel
theorem D40_378 : Dc J40 378 (.aload_n 0) 1 379 := by decide +kernel
theorem D40_379 : Dc J40 379 (.bipush 26) 2 381 := by decide +kernel
theorem D40_381 : Dc J40 381 (.invokevirtual 46) 3 384 := by decide +kernel
theorem own_d198 {vN : Int32} (hq0 : vN < 1000) (hq1 : ¬ (vN < 32)) : 26 < vN := by
  have := rng32 vN
  have : (32 : Int32).toInt = 32 := by decide
  have := i_nlt hq1
  have : (1000 : Int32).toInt = 1000 := by decide
  have := i_lt hq0
  have : (26 : Int32).toInt = 26 := by decide
  exact o_lt (by omega)
theorem D40_384 : Dc J40 384 (.aload_n 1) 1 385 := by decide +kernel
theorem D40_385 : Dc J40 385 (.bipush 26) 2 387 := by decide +kernel
theorem D40_387 : Dc J40 387 (.invokevirtual 46) 3 390 := by decide +kernel
theorem D40_390 : Dj J40 390 (.if_icmp .ne 82) 82 393 472 := by decide +kernel
theorem D40_393 : Dc J40 393 (.aload_n 0) 1 394 := by decide +kernel
theorem D40_394 : Dc J40 394 (.bipush 27) 2 396 := by decide +kernel
theorem D40_396 : Dc J40 396 (.invokevirtual 46) 3 399 := by decide +kernel
theorem own_d199 {vN : Int32} (hq0 : vN < 1000) (hq1 : ¬ (vN < 32)) : 27 < vN := by
  have := rng32 vN
  have : (32 : Int32).toInt = 32 := by decide
  have := i_nlt hq1
  have : (1000 : Int32).toInt = 1000 := by decide
  have := i_lt hq0
  have : (27 : Int32).toInt = 27 := by decide
  exact o_lt (by omega)
theorem D40_399 : Dc J40 399 (.aload_n 1) 1 400 := by decide +kernel
theorem D40_400 : Dc J40 400 (.bipush 27) 2 402 := by decide +kernel
theorem D40_402 : Dc J40 402 (.invokevirtual 46) 3 405 := by decide +kernel
theorem D40_405 : Dj J40 405 (.if_icmp .ne 67) 67 408 472 := by decide +kernel
theorem D40_408 : Dc J40 408 (.aload_n 0) 1 409 := by decide +kernel
theorem D40_409 : Dc J40 409 (.bipush 28) 2 411 := by decide +kernel
theorem D40_411 : Dc J40 411 (.invokevirtual 46) 3 414 := by decide +kernel
theorem own_d200 {vN : Int32} (hq0 : vN < 1000) (hq1 : ¬ (vN < 32)) : 28 < vN := by
  have := rng32 vN
  have : (32 : Int32).toInt = 32 := by decide
  have := i_nlt hq1
  have : (1000 : Int32).toInt = 1000 := by decide
  have := i_lt hq0
  have : (28 : Int32).toInt = 28 := by decide
  exact o_lt (by omega)
theorem D40_414 : Dc J40 414 (.aload_n 1) 1 415 := by decide +kernel
theorem D40_415 : Dc J40 415 (.bipush 28) 2 417 := by decide +kernel
theorem D40_417 : Dc J40 417 (.invokevirtual 46) 3 420 := by decide +kernel
theorem D40_420 : Dj J40 420 (.if_icmp .ne 52) 52 423 472 := by decide +kernel
theorem D40_423 : Dc J40 423 (.aload_n 0) 1 424 := by decide +kernel
theorem D40_424 : Dc J40 424 (.bipush 29) 2 426 := by decide +kernel
theorem D40_426 : Dc J40 426 (.invokevirtual 46) 3 429 := by decide +kernel
theorem own_d201 {vN : Int32} (hq0 : vN < 1000) (hq1 : ¬ (vN < 32)) : 29 < vN := by
  have := rng32 vN
  have : (32 : Int32).toInt = 32 := by decide
  have := i_nlt hq1
  have : (1000 : Int32).toInt = 1000 := by decide
  have := i_lt hq0
  have : (29 : Int32).toInt = 29 := by decide
  exact o_lt (by omega)
theorem D40_429 : Dc J40 429 (.aload_n 1) 1 430 := by decide +kernel
theorem D40_430 : Dc J40 430 (.bipush 29) 2 432 := by decide +kernel
theorem D40_432 : Dc J40 432 (.invokevirtual 46) 3 435 := by decide +kernel
theorem D40_435 : Dj J40 435 (.if_icmp .ne 37) 37 438 472 := by decide +kernel
theorem D40_438 : Dc J40 438 (.aload_n 0) 1 439 := by decide +kernel
theorem D40_439 : Dc J40 439 (.bipush 30) 2 441 := by decide +kernel
theorem D40_441 : Dc J40 441 (.invokevirtual 46) 3 444 := by decide +kernel
theorem own_d202 {vN : Int32} (hq0 : vN < 1000) (hq1 : ¬ (vN < 32)) : 30 < vN := by
  have := rng32 vN
  have : (32 : Int32).toInt = 32 := by decide
  have := i_nlt hq1
  have : (1000 : Int32).toInt = 1000 := by decide
  have := i_lt hq0
  have : (30 : Int32).toInt = 30 := by decide
  exact o_lt (by omega)
theorem D40_444 : Dc J40 444 (.aload_n 1) 1 445 := by decide +kernel
theorem D40_445 : Dc J40 445 (.bipush 30) 2 447 := by decide +kernel
theorem D40_447 : Dc J40 447 (.invokevirtual 46) 3 450 := by decide +kernel
theorem D40_450 : Dj J40 450 (.if_icmp .ne 22) 22 453 472 := by decide +kernel
theorem D40_453 : Dc J40 453 (.aload_n 0) 1 454 := by decide +kernel
theorem D40_454 : Dc J40 454 (.bipush 31) 2 456 := by decide +kernel
theorem D40_456 : Dc J40 456 (.invokevirtual 46) 3 459 := by decide +kernel
theorem own_d203 {vN : Int32} (hq0 : vN < 1000) (hq1 : ¬ (vN < 32)) : 31 < vN := by
  have := rng32 vN
  have : (32 : Int32).toInt = 32 := by decide
  have := i_nlt hq1
  have : (1000 : Int32).toInt = 1000 := by decide
  have := i_lt hq0
  have : (31 : Int32).toInt = 31 := by decide
  exact o_lt (by omega)
theorem D40_459 : Dc J40 459 (.aload_n 1) 1 460 := by decide +kernel
theorem D40_460 : Dc J40 460 (.bipush 31) 2 462 := by decide +kernel
theorem D40_462 : Dc J40 462 (.invokevirtual 46) 3 465 := by decide +kernel
theorem D40_465 : Dj J40 465 (.if_icmp .ne 7) 7 468 472 := by decide +kernel
theorem D40_468 : Dc J40 468 (.iconst 1) 1 469 := by decide +kernel
theorem D40_469 : Dj J40 469 (.goto 4) 4 472 473 := by decide +kernel
theorem D40_473 : Dc J40 473 .ireturn 1 474 := by decide +kernel
theorem PN40 : plainFor Y40 = true := plainFor_of_name pn_SemaphoreBulkheadSnapshotToStringPinLaw
theorem R_pr {a1 a2 a3 a4 : Addr} {vN : Int32} {f1 : Nat → Int32} (hw : HW a0 Z) (G : Gl Z w_CS w_SF w_DO w_DT w_fO w_fT) (O : Obj Z h0 a1 litL [.ref a2, .int 0]) (A : Ary Z h0 a2 ATB vN.toNatClampNeg (bv f1)) (OZ : Obj Z h0 a3 litL [.ref a4, .int 0]) (AZ : Ary Z h0 a4 ATB 47 (bv (lvi [83, 101, 109, 97, 112, 104, 111, 114, 101, 66, 117, 108, 107, 104, 101, 97, 100, 83, 110, 97, 112, 115, 104, 111, 116, 91, 108, 105, 109, 105, 116, 61, 48, 44, 32, 97, 118, 97, 105, 108, 97, 98, 108, 101, 61, 48, 93]))) (x3 : vN < 1000) (x4 : ¬ (vN < 32)) (H : ∀ i, i < 32 → f1 i = lvi L32 i) : Mt false [] l Y40 C40 (rmk 4 0 0 54) #[.ref a1, .ref a3] Z a0 h0 n0 (Pv h0 (.int 1)) := by
  refine Mt.go PN40 (Or.inl rfl) ef_RR_2 fun k => ?_
  replace k := k |>.aloadN D40_0 rfl rfl |>.iconst D40_1 0
  replace k := (k.callV (w_204 hw) (V_Y30_30_String hw) O.exa (R_chr hw G O A (by decide) (own_d172 x3 x4) x3 (p1 := 0)) D40_2 0 rfl).pv
  replace k := k |>.top (y := 83) (lat_of (v := 0) (H 0 (by decide)) (by decide)) |>.aloadN D40_5 rfl rfl |>.iconst D40_6 0
  replace k := (k.callV (w_204 hw) (V_Y30_30_String hw) OZ.exa (R_chr hw G OZ AZ (by decide) (by decide) (by decide) (p1 := 0) (vN := 47)) D40_7 1 rfl).pv
  replace k := k |>.top (y := 83) (by decide) |>.icmpNo D40_10  |>.aloadN D40_13 rfl rfl |>.iconst D40_14 1
  replace k := (k.callV (w_204 hw) (V_Y30_30_String hw) O.exa (R_chr hw G O A (by decide) (own_d173 x3 x4) x3 (p1 := 1)) D40_15 0 rfl).pv
  replace k := k |>.top (y := 101) (lat_of (v := 0) (H 1 (by decide)) (by decide)) |>.aloadN D40_18 rfl rfl |>.iconst D40_19 1
  replace k := (k.callV (w_204 hw) (V_Y30_30_String hw) OZ.exa (R_chr hw G OZ AZ (by decide) (by decide) (by decide) (p1 := 1) (vN := 47)) D40_20 1 rfl).pv
  replace k := k |>.top (y := 101) (by decide) |>.icmpNo D40_23  |>.aloadN D40_26 rfl rfl |>.iconst D40_27 2
  replace k := (k.callV (w_204 hw) (V_Y30_30_String hw) O.exa (R_chr hw G O A (by decide) (own_d174 x3 x4) x3 (p1 := 2)) D40_28 0 rfl).pv
  replace k := k |>.top (y := 109) (lat_of (v := 0) (H 2 (by decide)) (by decide)) |>.aloadN D40_31 rfl rfl |>.iconst D40_32 2
  replace k := (k.callV (w_204 hw) (V_Y30_30_String hw) OZ.exa (R_chr hw G OZ AZ (by decide) (by decide) (by decide) (p1 := 2) (vN := 47)) D40_33 1 rfl).pv
  replace k := k |>.top (y := 109) (by decide) |>.icmpNo D40_36  |>.aloadN D40_39 rfl rfl |>.iconst D40_40 3
  replace k := (k.callV (w_204 hw) (V_Y30_30_String hw) O.exa (R_chr hw G O A (by decide) (own_d175 x3 x4) x3 (p1 := 3)) D40_41 0 rfl).pv
  replace k := k |>.top (y := 97) (lat_of (v := 0) (H 3 (by decide)) (by decide)) |>.aloadN D40_44 rfl rfl |>.iconst D40_45 3
  replace k := (k.callV (w_204 hw) (V_Y30_30_String hw) OZ.exa (R_chr hw G OZ AZ (by decide) (by decide) (by decide) (p1 := 3) (vN := 47)) D40_46 1 rfl).pv
  replace k := k |>.top (y := 97) (by decide) |>.icmpNo D40_49  |>.aloadN D40_52 rfl rfl |>.iconst D40_53 4
  replace k := (k.callV (w_204 hw) (V_Y30_30_String hw) O.exa (R_chr hw G O A (by decide) (own_d176 x3 x4) x3 (p1 := 4)) D40_54 0 rfl).pv
  replace k := k |>.top (y := 112) (lat_of (v := 0) (H 4 (by decide)) (by decide)) |>.aloadN D40_57 rfl rfl |>.iconst D40_58 4
  replace k := (k.callV (w_204 hw) (V_Y30_30_String hw) OZ.exa (R_chr hw G OZ AZ (by decide) (by decide) (by decide) (p1 := 4) (vN := 47)) D40_59 1 rfl).pv
  replace k := k |>.top (y := 112) (by decide) |>.icmpNo D40_62  |>.aloadN D40_65 rfl rfl |>.iconst D40_66 5
  replace k := (k.callV (w_204 hw) (V_Y30_30_String hw) O.exa (R_chr hw G O A (by decide) (own_d177 x3 x4) x3 (p1 := 5)) D40_67 0 rfl).pv
  replace k := k |>.top (y := 104) (lat_of (v := 0) (H 5 (by decide)) (by decide)) |>.aloadN D40_70 rfl rfl |>.iconst D40_71 5
  replace k := (k.callV (w_204 hw) (V_Y30_30_String hw) OZ.exa (R_chr hw G OZ AZ (by decide) (by decide) (by decide) (p1 := 5) (vN := 47)) D40_72 1 rfl).pv
  replace k := k |>.top (y := 104) (by decide) |>.icmpNo D40_75  |>.aloadN D40_78 rfl rfl |>.bipush D40_79 6
  replace k := (k.callV (w_204 hw) (V_Y30_30_String hw) O.exa (R_chr hw G O A (by decide) (own_d178 x3 x4) x3 (p1 := 6)) D40_81 0 rfl).pv
  replace k := k |>.top (y := 111) (lat_of (v := 0) (H 6 (by decide)) (by decide)) |>.aloadN D40_84 rfl rfl |>.bipush D40_85 6
  replace k := (k.callV (w_204 hw) (V_Y30_30_String hw) OZ.exa (R_chr hw G OZ AZ (by decide) (by decide) (by decide) (p1 := 6) (vN := 47)) D40_87 1 rfl).pv
  replace k := k |>.top (y := 111) (by decide) |>.icmpNo D40_90  |>.aloadN D40_93 rfl rfl |>.bipush D40_94 7
  replace k := (k.callV (w_204 hw) (V_Y30_30_String hw) O.exa (R_chr hw G O A (by decide) (own_d179 x3 x4) x3 (p1 := 7)) D40_96 0 rfl).pv
  replace k := k |>.top (y := 114) (lat_of (v := 0) (H 7 (by decide)) (by decide)) |>.aloadN D40_99 rfl rfl |>.bipush D40_100 7
  replace k := (k.callV (w_204 hw) (V_Y30_30_String hw) OZ.exa (R_chr hw G OZ AZ (by decide) (by decide) (by decide) (p1 := 7) (vN := 47)) D40_102 1 rfl).pv
  replace k := k |>.top (y := 114) (by decide) |>.icmpNo D40_105  |>.aloadN D40_108 rfl rfl |>.bipush D40_109 8
  replace k := (k.callV (w_204 hw) (V_Y30_30_String hw) O.exa (R_chr hw G O A (by decide) (own_d180 x3 x4) x3 (p1 := 8)) D40_111 0 rfl).pv
  replace k := k |>.top (y := 101) (lat_of (v := 0) (H 8 (by decide)) (by decide)) |>.aloadN D40_114 rfl rfl |>.bipush D40_115 8
  replace k := (k.callV (w_204 hw) (V_Y30_30_String hw) OZ.exa (R_chr hw G OZ AZ (by decide) (by decide) (by decide) (p1 := 8) (vN := 47)) D40_117 1 rfl).pv
  replace k := k |>.top (y := 101) (by decide) |>.icmpNo D40_120  |>.aloadN D40_123 rfl rfl |>.bipush D40_124 9
  replace k := (k.callV (w_204 hw) (V_Y30_30_String hw) O.exa (R_chr hw G O A (by decide) (own_d181 x3 x4) x3 (p1 := 9)) D40_126 0 rfl).pv
  replace k := k |>.top (y := 66) (lat_of (v := 0) (H 9 (by decide)) (by decide)) |>.aloadN D40_129 rfl rfl |>.bipush D40_130 9
  replace k := (k.callV (w_204 hw) (V_Y30_30_String hw) OZ.exa (R_chr hw G OZ AZ (by decide) (by decide) (by decide) (p1 := 9) (vN := 47)) D40_132 1 rfl).pv
  replace k := k |>.top (y := 66) (by decide) |>.icmpNo D40_135  |>.aloadN D40_138 rfl rfl |>.bipush D40_139 10
  replace k := (k.callV (w_204 hw) (V_Y30_30_String hw) O.exa (R_chr hw G O A (by decide) (own_d182 x3 x4) x3 (p1 := 10)) D40_141 0 rfl).pv
  replace k := k |>.top (y := 117) (lat_of (v := 0) (H 10 (by decide)) (by decide)) |>.aloadN D40_144 rfl rfl |>.bipush D40_145 10
  replace k := (k.callV (w_204 hw) (V_Y30_30_String hw) OZ.exa (R_chr hw G OZ AZ (by decide) (by decide) (by decide) (p1 := 10) (vN := 47)) D40_147 1 rfl).pv
  replace k := k |>.top (y := 117) (by decide) |>.icmpNo D40_150  |>.aloadN D40_153 rfl rfl |>.bipush D40_154 11
  replace k := (k.callV (w_204 hw) (V_Y30_30_String hw) O.exa (R_chr hw G O A (by decide) (own_d183 x3 x4) x3 (p1 := 11)) D40_156 0 rfl).pv
  replace k := k |>.top (y := 108) (lat_of (v := 0) (H 11 (by decide)) (by decide)) |>.aloadN D40_159 rfl rfl |>.bipush D40_160 11
  replace k := (k.callV (w_204 hw) (V_Y30_30_String hw) OZ.exa (R_chr hw G OZ AZ (by decide) (by decide) (by decide) (p1 := 11) (vN := 47)) D40_162 1 rfl).pv
  replace k := k |>.top (y := 108) (by decide) |>.icmpNo D40_165  |>.aloadN D40_168 rfl rfl |>.bipush D40_169 12
  replace k := (k.callV (w_204 hw) (V_Y30_30_String hw) O.exa (R_chr hw G O A (by decide) (own_d184 x3 x4) x3 (p1 := 12)) D40_171 0 rfl).pv
  replace k := k |>.top (y := 107) (lat_of (v := 0) (H 12 (by decide)) (by decide)) |>.aloadN D40_174 rfl rfl |>.bipush D40_175 12
  replace k := (k.callV (w_204 hw) (V_Y30_30_String hw) OZ.exa (R_chr hw G OZ AZ (by decide) (by decide) (by decide) (p1 := 12) (vN := 47)) D40_177 1 rfl).pv
  replace k := k |>.top (y := 107) (by decide) |>.icmpNo D40_180  |>.aloadN D40_183 rfl rfl |>.bipush D40_184 13
  replace k := (k.callV (w_204 hw) (V_Y30_30_String hw) O.exa (R_chr hw G O A (by decide) (own_d185 x3 x4) x3 (p1 := 13)) D40_186 0 rfl).pv
  replace k := k |>.top (y := 104) (lat_of (v := 0) (H 13 (by decide)) (by decide)) |>.aloadN D40_189 rfl rfl |>.bipush D40_190 13
  replace k := (k.callV (w_204 hw) (V_Y30_30_String hw) OZ.exa (R_chr hw G OZ AZ (by decide) (by decide) (by decide) (p1 := 13) (vN := 47)) D40_192 1 rfl).pv
  replace k := k |>.top (y := 104) (by decide) |>.icmpNo D40_195  |>.aloadN D40_198 rfl rfl |>.bipush D40_199 14
  replace k := (k.callV (w_204 hw) (V_Y30_30_String hw) O.exa (R_chr hw G O A (by decide) (own_d186 x3 x4) x3 (p1 := 14)) D40_201 0 rfl).pv
  replace k := k |>.top (y := 101) (lat_of (v := 0) (H 14 (by decide)) (by decide)) |>.aloadN D40_204 rfl rfl |>.bipush D40_205 14
  replace k := (k.callV (w_204 hw) (V_Y30_30_String hw) OZ.exa (R_chr hw G OZ AZ (by decide) (by decide) (by decide) (p1 := 14) (vN := 47)) D40_207 1 rfl).pv
  replace k := k |>.top (y := 101) (by decide) |>.icmpNo D40_210  |>.aloadN D40_213 rfl rfl |>.bipush D40_214 15
  replace k := (k.callV (w_204 hw) (V_Y30_30_String hw) O.exa (R_chr hw G O A (by decide) (own_d187 x3 x4) x3 (p1 := 15)) D40_216 0 rfl).pv
  replace k := k |>.top (y := 97) (lat_of (v := 0) (H 15 (by decide)) (by decide)) |>.aloadN D40_219 rfl rfl |>.bipush D40_220 15
  replace k := (k.callV (w_204 hw) (V_Y30_30_String hw) OZ.exa (R_chr hw G OZ AZ (by decide) (by decide) (by decide) (p1 := 15) (vN := 47)) D40_222 1 rfl).pv
  replace k := k |>.top (y := 97) (by decide) |>.icmpNo D40_225  |>.aloadN D40_228 rfl rfl |>.bipush D40_229 16
  replace k := (k.callV (w_204 hw) (V_Y30_30_String hw) O.exa (R_chr hw G O A (by decide) (own_d188 x3 x4) x3 (p1 := 16)) D40_231 0 rfl).pv
  replace k := k |>.top (y := 100) (lat_of (v := 0) (H 16 (by decide)) (by decide)) |>.aloadN D40_234 rfl rfl |>.bipush D40_235 16
  replace k := (k.callV (w_204 hw) (V_Y30_30_String hw) OZ.exa (R_chr hw G OZ AZ (by decide) (by decide) (by decide) (p1 := 16) (vN := 47)) D40_237 1 rfl).pv
  replace k := k |>.top (y := 100) (by decide) |>.icmpNo D40_240  |>.aloadN D40_243 rfl rfl |>.bipush D40_244 17
  replace k := (k.callV (w_204 hw) (V_Y30_30_String hw) O.exa (R_chr hw G O A (by decide) (own_d189 x3 x4) x3 (p1 := 17)) D40_246 0 rfl).pv
  replace k := k |>.top (y := 83) (lat_of (v := 0) (H 17 (by decide)) (by decide)) |>.aloadN D40_249 rfl rfl |>.bipush D40_250 17
  replace k := (k.callV (w_204 hw) (V_Y30_30_String hw) OZ.exa (R_chr hw G OZ AZ (by decide) (by decide) (by decide) (p1 := 17) (vN := 47)) D40_252 1 rfl).pv
  replace k := k |>.top (y := 83) (by decide) |>.icmpNo D40_255  |>.aloadN D40_258 rfl rfl |>.bipush D40_259 18
  replace k := (k.callV (w_204 hw) (V_Y30_30_String hw) O.exa (R_chr hw G O A (by decide) (own_d190 x3 x4) x3 (p1 := 18)) D40_261 0 rfl).pv
  replace k := k |>.top (y := 110) (lat_of (v := 0) (H 18 (by decide)) (by decide)) |>.aloadN D40_264 rfl rfl |>.bipush D40_265 18
  replace k := (k.callV (w_204 hw) (V_Y30_30_String hw) OZ.exa (R_chr hw G OZ AZ (by decide) (by decide) (by decide) (p1 := 18) (vN := 47)) D40_267 1 rfl).pv
  replace k := k |>.top (y := 110) (by decide) |>.icmpNo D40_270  |>.aloadN D40_273 rfl rfl |>.bipush D40_274 19
  replace k := (k.callV (w_204 hw) (V_Y30_30_String hw) O.exa (R_chr hw G O A (by decide) (own_d191 x3 x4) x3 (p1 := 19)) D40_276 0 rfl).pv
  replace k := k |>.top (y := 97) (lat_of (v := 0) (H 19 (by decide)) (by decide)) |>.aloadN D40_279 rfl rfl |>.bipush D40_280 19
  replace k := (k.callV (w_204 hw) (V_Y30_30_String hw) OZ.exa (R_chr hw G OZ AZ (by decide) (by decide) (by decide) (p1 := 19) (vN := 47)) D40_282 1 rfl).pv
  replace k := k |>.top (y := 97) (by decide) |>.icmpNo D40_285  |>.aloadN D40_288 rfl rfl |>.bipush D40_289 20
  replace k := (k.callV (w_204 hw) (V_Y30_30_String hw) O.exa (R_chr hw G O A (by decide) (own_d192 x3 x4) x3 (p1 := 20)) D40_291 0 rfl).pv
  replace k := k |>.top (y := 112) (lat_of (v := 0) (H 20 (by decide)) (by decide)) |>.aloadN D40_294 rfl rfl |>.bipush D40_295 20
  replace k := (k.callV (w_204 hw) (V_Y30_30_String hw) OZ.exa (R_chr hw G OZ AZ (by decide) (by decide) (by decide) (p1 := 20) (vN := 47)) D40_297 1 rfl).pv
  replace k := k |>.top (y := 112) (by decide) |>.icmpNo D40_300  |>.aloadN D40_303 rfl rfl |>.bipush D40_304 21
  replace k := (k.callV (w_204 hw) (V_Y30_30_String hw) O.exa (R_chr hw G O A (by decide) (own_d193 x3 x4) x3 (p1 := 21)) D40_306 0 rfl).pv
  replace k := k |>.top (y := 115) (lat_of (v := 0) (H 21 (by decide)) (by decide)) |>.aloadN D40_309 rfl rfl |>.bipush D40_310 21
  replace k := (k.callV (w_204 hw) (V_Y30_30_String hw) OZ.exa (R_chr hw G OZ AZ (by decide) (by decide) (by decide) (p1 := 21) (vN := 47)) D40_312 1 rfl).pv
  replace k := k |>.top (y := 115) (by decide) |>.icmpNo D40_315  |>.aloadN D40_318 rfl rfl |>.bipush D40_319 22
  replace k := (k.callV (w_204 hw) (V_Y30_30_String hw) O.exa (R_chr hw G O A (by decide) (own_d194 x3 x4) x3 (p1 := 22)) D40_321 0 rfl).pv
  replace k := k |>.top (y := 104) (lat_of (v := 0) (H 22 (by decide)) (by decide)) |>.aloadN D40_324 rfl rfl |>.bipush D40_325 22
  replace k := (k.callV (w_204 hw) (V_Y30_30_String hw) OZ.exa (R_chr hw G OZ AZ (by decide) (by decide) (by decide) (p1 := 22) (vN := 47)) D40_327 1 rfl).pv
  replace k := k |>.top (y := 104) (by decide) |>.icmpNo D40_330  |>.aloadN D40_333 rfl rfl |>.bipush D40_334 23
  replace k := (k.callV (w_204 hw) (V_Y30_30_String hw) O.exa (R_chr hw G O A (by decide) (own_d195 x3 x4) x3 (p1 := 23)) D40_336 0 rfl).pv
  replace k := k |>.top (y := 111) (lat_of (v := 0) (H 23 (by decide)) (by decide)) |>.aloadN D40_339 rfl rfl |>.bipush D40_340 23
  replace k := (k.callV (w_204 hw) (V_Y30_30_String hw) OZ.exa (R_chr hw G OZ AZ (by decide) (by decide) (by decide) (p1 := 23) (vN := 47)) D40_342 1 rfl).pv
  replace k := k |>.top (y := 111) (by decide) |>.icmpNo D40_345  |>.aloadN D40_348 rfl rfl |>.bipush D40_349 24
  replace k := (k.callV (w_204 hw) (V_Y30_30_String hw) O.exa (R_chr hw G O A (by decide) (own_d196 x3 x4) x3 (p1 := 24)) D40_351 0 rfl).pv
  replace k := k |>.top (y := 116) (lat_of (v := 0) (H 24 (by decide)) (by decide)) |>.aloadN D40_354 rfl rfl |>.bipush D40_355 24
  replace k := (k.callV (w_204 hw) (V_Y30_30_String hw) OZ.exa (R_chr hw G OZ AZ (by decide) (by decide) (by decide) (p1 := 24) (vN := 47)) D40_357 1 rfl).pv
  replace k := k |>.top (y := 116) (by decide) |>.icmpNo D40_360  |>.aloadN D40_363 rfl rfl |>.bipush D40_364 25
  replace k := (k.callV (w_204 hw) (V_Y30_30_String hw) O.exa (R_chr hw G O A (by decide) (own_d197 x3 x4) x3 (p1 := 25)) D40_366 0 rfl).pv
  replace k := k |>.top (y := 91) (lat_of (v := 0) (H 25 (by decide)) (by decide)) |>.aloadN D40_369 rfl rfl |>.bipush D40_370 25
  replace k := (k.callV (w_204 hw) (V_Y30_30_String hw) OZ.exa (R_chr hw G OZ AZ (by decide) (by decide) (by decide) (p1 := 25) (vN := 47)) D40_372 1 rfl).pv
  replace k := k |>.top (y := 91) (by decide) |>.icmpNo D40_375  |>.aloadN D40_378 rfl rfl |>.bipush D40_379 26
  replace k := (k.callV (w_204 hw) (V_Y30_30_String hw) O.exa (R_chr hw G O A (by decide) (own_d198 x3 x4) x3 (p1 := 26)) D40_381 0 rfl).pv
  replace k := k |>.top (y := 108) (lat_of (v := 0) (H 26 (by decide)) (by decide)) |>.aloadN D40_384 rfl rfl |>.bipush D40_385 26
  replace k := (k.callV (w_204 hw) (V_Y30_30_String hw) OZ.exa (R_chr hw G OZ AZ (by decide) (by decide) (by decide) (p1 := 26) (vN := 47)) D40_387 1 rfl).pv
  replace k := k |>.top (y := 108) (by decide) |>.icmpNo D40_390  |>.aloadN D40_393 rfl rfl |>.bipush D40_394 27
  replace k := (k.callV (w_204 hw) (V_Y30_30_String hw) O.exa (R_chr hw G O A (by decide) (own_d199 x3 x4) x3 (p1 := 27)) D40_396 0 rfl).pv
  replace k := k |>.top (y := 105) (lat_of (v := 0) (H 27 (by decide)) (by decide)) |>.aloadN D40_399 rfl rfl |>.bipush D40_400 27
  replace k := (k.callV (w_204 hw) (V_Y30_30_String hw) OZ.exa (R_chr hw G OZ AZ (by decide) (by decide) (by decide) (p1 := 27) (vN := 47)) D40_402 1 rfl).pv
  replace k := k |>.top (y := 105) (by decide) |>.icmpNo D40_405  |>.aloadN D40_408 rfl rfl |>.bipush D40_409 28
  replace k := (k.callV (w_204 hw) (V_Y30_30_String hw) O.exa (R_chr hw G O A (by decide) (own_d200 x3 x4) x3 (p1 := 28)) D40_411 0 rfl).pv
  replace k := k |>.top (y := 109) (lat_of (v := 0) (H 28 (by decide)) (by decide)) |>.aloadN D40_414 rfl rfl |>.bipush D40_415 28
  replace k := (k.callV (w_204 hw) (V_Y30_30_String hw) OZ.exa (R_chr hw G OZ AZ (by decide) (by decide) (by decide) (p1 := 28) (vN := 47)) D40_417 1 rfl).pv
  replace k := k |>.top (y := 109) (by decide) |>.icmpNo D40_420  |>.aloadN D40_423 rfl rfl |>.bipush D40_424 29
  replace k := (k.callV (w_204 hw) (V_Y30_30_String hw) O.exa (R_chr hw G O A (by decide) (own_d201 x3 x4) x3 (p1 := 29)) D40_426 0 rfl).pv
  replace k := k |>.top (y := 105) (lat_of (v := 0) (H 29 (by decide)) (by decide)) |>.aloadN D40_429 rfl rfl |>.bipush D40_430 29
  replace k := (k.callV (w_204 hw) (V_Y30_30_String hw) OZ.exa (R_chr hw G OZ AZ (by decide) (by decide) (by decide) (p1 := 29) (vN := 47)) D40_432 1 rfl).pv
  replace k := k |>.top (y := 105) (by decide) |>.icmpNo D40_435  |>.aloadN D40_438 rfl rfl |>.bipush D40_439 30
  replace k := (k.callV (w_204 hw) (V_Y30_30_String hw) O.exa (R_chr hw G O A (by decide) (own_d202 x3 x4) x3 (p1 := 30)) D40_441 0 rfl).pv
  replace k := k |>.top (y := 116) (lat_of (v := 0) (H 30 (by decide)) (by decide)) |>.aloadN D40_444 rfl rfl |>.bipush D40_445 30
  replace k := (k.callV (w_204 hw) (V_Y30_30_String hw) OZ.exa (R_chr hw G OZ AZ (by decide) (by decide) (by decide) (p1 := 30) (vN := 47)) D40_447 1 rfl).pv
  replace k := k |>.top (y := 116) (by decide) |>.icmpNo D40_450  |>.aloadN D40_453 rfl rfl |>.bipush D40_454 31
  replace k := (k.callV (w_204 hw) (V_Y30_30_String hw) O.exa (R_chr hw G O A (by decide) (own_d203 x3 x4) x3 (p1 := 31)) D40_456 0 rfl).pv
  replace k := k |>.top (y := 61) (lat_of (v := 0) (H 31 (by decide)) (by decide)) |>.aloadN D40_459 rfl rfl |>.bipush D40_460 31
  replace k := (k.callV (w_204 hw) (V_Y30_30_String hw) OZ.exa (R_chr hw G OZ AZ (by decide) (by decide) (by decide) (p1 := 31) (vN := 47)) D40_462 1 rfl).pv
  replace k := k |>.top (y := 61) (by decide) |>.icmpNo D40_465  |>.iconst D40_468 1 |>.goto D40_469
  exact k.retN (t := .boolean) D40_473 rfl (by simp) (z' := 1) (by decide) ⟨rfl, rfl⟩
abbrev Y41 : MethodName := ⟨"com/example/chatham/chatham/pattern/SemaphoreBulkheadSnapshotToStringPinLaw", "mid", "(Ljava/lang/String;Ljava/lang/String;I)Z"⟩
abbrev J41 := method_8_code
abbrev C41 : Cond := .code Y41 J41 3 (some .boolean)
theorem D41_0 : Dc J41 0 (.aload_n 0) 1 1 := by decide +kernel
theorem D41_1 : Dc J41 1 (.iload_n 2) 1 2 := by decide +kernel
theorem D41_2 : Dc J41 2 (.invokevirtual 46) 3 5 := by decide +kernel
theorem own_d204 {p1 vN v0 : Int32} (e0 : v0 = (p1 + 12)) (hq0 : ¬ (p1 < 0)) (hq1 : p1 < 1000) (hq2 : vN < 1000) (hq3 : ¬ (vN < v0)) : p1 < vN := by
  have := rng32 p1
  have : (0 : Int32).toInt = 0 := by decide
  have := i_nlt hq0
  have : (1000 : Int32).toInt = 1000 := by decide
  have := i_lt hq1
  have := rng32 vN
  have := i_lt hq2
  have : (12 : Int32).toInt = 12 := by decide
  have := e_iaddN e0 (by omega)
  have := i_nlt hq3
  exact o_lt (by omega)
theorem D41_5 : Dc J41 5 (.aload_n 1) 1 6 := by decide +kernel
theorem D41_6 : Dc J41 6 (.bipush 33) 2 8 := by decide +kernel
theorem D41_8 : Dc J41 8 (.invokevirtual 46) 3 11 := by decide +kernel
theorem D41_11 : Dj J41 11 (.if_icmp .ne 189) 189 14 200 := by decide +kernel
theorem D41_14 : Dc J41 14 (.aload_n 0) 1 15 := by decide +kernel
theorem D41_15 : Dc J41 15 (.iload_n 2) 1 16 := by decide +kernel
theorem D41_16 : Dc J41 16 (.iconst 1) 1 17 := by decide +kernel
theorem D41_17 : Dc J41 17 .iadd 1 18 := by decide +kernel
theorem D41_18 : Dc J41 18 (.invokevirtual 46) 3 21 := by decide +kernel
theorem own_d205 {p1 vN v0 v1 : Int32} (e0 : v0 = (p1 + 12)) (e1 : v1 = (p1 + 1)) (hq0 : ¬ (p1 < 0)) (hq1 : p1 < 1000) (hq2 : vN < 1000) (hq3 : ¬ (vN < v0)) : ¬ (v1 < 0) := by
  have := rng32 p1
  have : (0 : Int32).toInt = 0 := by decide
  have := i_nlt hq0
  have : (1000 : Int32).toInt = 1000 := by decide
  have := i_lt hq1
  have := rng32 vN
  have := i_lt hq2
  have : (12 : Int32).toInt = 12 := by decide
  have := e_iaddN e0 (by omega)
  have := i_nlt hq3
  have : (1 : Int32).toInt = 1 := by decide
  have := e_iaddN e1 (by omega)
  exact o_nlt (by omega)
theorem own_d206 {p1 vN v0 v1 : Int32} (e0 : v0 = (p1 + 12)) (e1 : v1 = (p1 + 1)) (hq0 : ¬ (p1 < 0)) (hq1 : p1 < 1000) (hq2 : vN < 1000) (hq3 : ¬ (vN < v0)) : v1 < vN := by
  have := rng32 p1
  have : (0 : Int32).toInt = 0 := by decide
  have := i_nlt hq0
  have : (1000 : Int32).toInt = 1000 := by decide
  have := i_lt hq1
  have := rng32 vN
  have := i_lt hq2
  have : (12 : Int32).toInt = 12 := by decide
  have := e_iaddN e0 (by omega)
  have := i_nlt hq3
  have : (1 : Int32).toInt = 1 := by decide
  have := e_iaddN e1 (by omega)
  exact o_lt (by omega)
theorem D41_21 : Dc J41 21 (.aload_n 1) 1 22 := by decide +kernel
theorem D41_22 : Dc J41 22 (.bipush 34) 2 24 := by decide +kernel
theorem D41_24 : Dc J41 24 (.invokevirtual 46) 3 27 := by decide +kernel
theorem D41_27 : Dj J41 27 (.if_icmp .ne 173) 173 30 200 := by decide +kernel
theorem D41_30 : Dc J41 30 (.aload_n 0) 1 31 := by decide +kernel
theorem D41_31 : Dc J41 31 (.iload_n 2) 1 32 := by decide +kernel
theorem D41_32 : Dc J41 32 (.iconst 2) 1 33 := by decide +kernel
theorem D41_33 : Dc J41 33 .iadd 1 34 := by decide +kernel
theorem D41_34 : Dc J41 34 (.invokevirtual 46) 3 37 := by decide +kernel
theorem own_d207 {p1 vN v0 v1 : Int32} (e0 : v0 = (p1 + 12)) (e1 : v1 = (p1 + 2)) (hq0 : ¬ (p1 < 0)) (hq1 : p1 < 1000) (hq2 : vN < 1000) (hq3 : ¬ (vN < v0)) : ¬ (v1 < 0) := by
  have := rng32 p1
  have : (0 : Int32).toInt = 0 := by decide
  have := i_nlt hq0
  have : (1000 : Int32).toInt = 1000 := by decide
  have := i_lt hq1
  have := rng32 vN
  have := i_lt hq2
  have : (12 : Int32).toInt = 12 := by decide
  have := e_iaddN e0 (by omega)
  have := i_nlt hq3
  have : (2 : Int32).toInt = 2 := by decide
  have := e_iaddN e1 (by omega)
  exact o_nlt (by omega)
theorem own_d208 {p1 vN v0 v1 : Int32} (e0 : v0 = (p1 + 12)) (e1 : v1 = (p1 + 2)) (hq0 : ¬ (p1 < 0)) (hq1 : p1 < 1000) (hq2 : vN < 1000) (hq3 : ¬ (vN < v0)) : v1 < vN := by
  have := rng32 p1
  have : (0 : Int32).toInt = 0 := by decide
  have := i_nlt hq0
  have : (1000 : Int32).toInt = 1000 := by decide
  have := i_lt hq1
  have := rng32 vN
  have := i_lt hq2
  have : (12 : Int32).toInt = 12 := by decide
  have := e_iaddN e0 (by omega)
  have := i_nlt hq3
  have : (2 : Int32).toInt = 2 := by decide
  have := e_iaddN e1 (by omega)
  exact o_lt (by omega)
theorem D41_37 : Dc J41 37 (.aload_n 1) 1 38 := by decide +kernel
theorem D41_38 : Dc J41 38 (.bipush 35) 2 40 := by decide +kernel
theorem D41_40 : Dc J41 40 (.invokevirtual 46) 3 43 := by decide +kernel
theorem D41_43 : Dj J41 43 (.if_icmp .ne 157) 157 46 200 := by decide +kernel
theorem D41_46 : Dc J41 46 (.aload_n 0) 1 47 := by decide +kernel
theorem D41_47 : Dc J41 47 (.iload_n 2) 1 48 := by decide +kernel
theorem D41_48 : Dc J41 48 (.iconst 3) 1 49 := by decide +kernel
theorem D41_49 : Dc J41 49 .iadd 1 50 := by decide +kernel
theorem D41_50 : Dc J41 50 (.invokevirtual 46) 3 53 := by decide +kernel
theorem own_d209 {p1 vN v0 v1 : Int32} (e0 : v0 = (p1 + 12)) (e1 : v1 = (p1 + 3)) (hq0 : ¬ (p1 < 0)) (hq1 : p1 < 1000) (hq2 : vN < 1000) (hq3 : ¬ (vN < v0)) : ¬ (v1 < 0) := by
  have := rng32 p1
  have : (0 : Int32).toInt = 0 := by decide
  have := i_nlt hq0
  have : (1000 : Int32).toInt = 1000 := by decide
  have := i_lt hq1
  have := rng32 vN
  have := i_lt hq2
  have : (12 : Int32).toInt = 12 := by decide
  have := e_iaddN e0 (by omega)
  have := i_nlt hq3
  have : (3 : Int32).toInt = 3 := by decide
  have := e_iaddN e1 (by omega)
  exact o_nlt (by omega)
theorem own_d210 {p1 vN v0 v1 : Int32} (e0 : v0 = (p1 + 12)) (e1 : v1 = (p1 + 3)) (hq0 : ¬ (p1 < 0)) (hq1 : p1 < 1000) (hq2 : vN < 1000) (hq3 : ¬ (vN < v0)) : v1 < vN := by
  have := rng32 p1
  have : (0 : Int32).toInt = 0 := by decide
  have := i_nlt hq0
  have : (1000 : Int32).toInt = 1000 := by decide
  have := i_lt hq1
  have := rng32 vN
  have := i_lt hq2
  have : (12 : Int32).toInt = 12 := by decide
  have := e_iaddN e0 (by omega)
  have := i_nlt hq3
  have : (3 : Int32).toInt = 3 := by decide
  have := e_iaddN e1 (by omega)
  exact o_lt (by omega)
theorem D41_53 : Dc J41 53 (.aload_n 1) 1 54 := by decide +kernel
theorem D41_54 : Dc J41 54 (.bipush 36) 2 56 := by decide +kernel
theorem D41_56 : Dc J41 56 (.invokevirtual 46) 3 59 := by decide +kernel
theorem D41_59 : Dj J41 59 (.if_icmp .ne 141) 141 62 200 := by decide +kernel
theorem D41_62 : Dc J41 62 (.aload_n 0) 1 63 := by decide +kernel
theorem D41_63 : Dc J41 63 (.iload_n 2) 1 64 := by decide +kernel
theorem D41_64 : Dc J41 64 (.iconst 4) 1 65 := by decide +kernel
theorem D41_65 : Dc J41 65 .iadd 1 66 := by decide +kernel
theorem D41_66 : Dc J41 66 (.invokevirtual 46) 3 69 := by decide +kernel
theorem own_d211 {p1 vN v0 v1 : Int32} (e0 : v0 = (p1 + 12)) (e1 : v1 = (p1 + 4)) (hq0 : ¬ (p1 < 0)) (hq1 : p1 < 1000) (hq2 : vN < 1000) (hq3 : ¬ (vN < v0)) : ¬ (v1 < 0) := by
  have := rng32 p1
  have : (0 : Int32).toInt = 0 := by decide
  have := i_nlt hq0
  have : (1000 : Int32).toInt = 1000 := by decide
  have := i_lt hq1
  have := rng32 vN
  have := i_lt hq2
  have : (12 : Int32).toInt = 12 := by decide
  have := e_iaddN e0 (by omega)
  have := i_nlt hq3
  have : (4 : Int32).toInt = 4 := by decide
  have := e_iaddN e1 (by omega)
  exact o_nlt (by omega)
theorem own_d212 {p1 vN v0 v1 : Int32} (e0 : v0 = (p1 + 12)) (e1 : v1 = (p1 + 4)) (hq0 : ¬ (p1 < 0)) (hq1 : p1 < 1000) (hq2 : vN < 1000) (hq3 : ¬ (vN < v0)) : v1 < vN := by
  have := rng32 p1
  have : (0 : Int32).toInt = 0 := by decide
  have := i_nlt hq0
  have : (1000 : Int32).toInt = 1000 := by decide
  have := i_lt hq1
  have := rng32 vN
  have := i_lt hq2
  have : (12 : Int32).toInt = 12 := by decide
  have := e_iaddN e0 (by omega)
  have := i_nlt hq3
  have : (4 : Int32).toInt = 4 := by decide
  have := e_iaddN e1 (by omega)
  exact o_lt (by omega)
theorem D41_69 : Dc J41 69 (.aload_n 1) 1 70 := by decide +kernel
theorem D41_70 : Dc J41 70 (.bipush 37) 2 72 := by decide +kernel
theorem D41_72 : Dc J41 72 (.invokevirtual 46) 3 75 := by decide +kernel
theorem D41_75 : Dj J41 75 (.if_icmp .ne 125) 125 78 200 := by decide +kernel
theorem D41_78 : Dc J41 78 (.aload_n 0) 1 79 := by decide +kernel
theorem D41_79 : Dc J41 79 (.iload_n 2) 1 80 := by decide +kernel
theorem D41_80 : Dc J41 80 (.iconst 5) 1 81 := by decide +kernel
theorem D41_81 : Dc J41 81 .iadd 1 82 := by decide +kernel
theorem D41_82 : Dc J41 82 (.invokevirtual 46) 3 85 := by decide +kernel
theorem own_d213 {p1 vN v0 v1 : Int32} (e0 : v0 = (p1 + 12)) (e1 : v1 = (p1 + 5)) (hq0 : ¬ (p1 < 0)) (hq1 : p1 < 1000) (hq2 : vN < 1000) (hq3 : ¬ (vN < v0)) : ¬ (v1 < 0) := by
  have := rng32 p1
  have : (0 : Int32).toInt = 0 := by decide
  have := i_nlt hq0
  have : (1000 : Int32).toInt = 1000 := by decide
  have := i_lt hq1
  have := rng32 vN
  have := i_lt hq2
  have : (12 : Int32).toInt = 12 := by decide
  have := e_iaddN e0 (by omega)
  have := i_nlt hq3
  have : (5 : Int32).toInt = 5 := by decide
  have := e_iaddN e1 (by omega)
  exact o_nlt (by omega)
theorem own_d214 {p1 vN v0 v1 : Int32} (e0 : v0 = (p1 + 12)) (e1 : v1 = (p1 + 5)) (hq0 : ¬ (p1 < 0)) (hq1 : p1 < 1000) (hq2 : vN < 1000) (hq3 : ¬ (vN < v0)) : v1 < vN := by
  have := rng32 p1
  have : (0 : Int32).toInt = 0 := by decide
  have := i_nlt hq0
  have : (1000 : Int32).toInt = 1000 := by decide
  have := i_lt hq1
  have := rng32 vN
  have := i_lt hq2
  have : (12 : Int32).toInt = 12 := by decide
  have := e_iaddN e0 (by omega)
  have := i_nlt hq3
  have : (5 : Int32).toInt = 5 := by decide
  have := e_iaddN e1 (by omega)
  exact o_lt (by omega)
theorem D41_85 : Dc J41 85 (.aload_n 1) 1 86 := by decide +kernel
theorem D41_86 : Dc J41 86 (.bipush 38) 2 88 := by decide +kernel
theorem D41_88 : Dc J41 88 (.invokevirtual 46) 3 91 := by decide +kernel
theorem D41_91 : Dj J41 91 (.if_icmp .ne 109) 109 94 200 := by decide +kernel
theorem D41_94 : Dc J41 94 (.aload_n 0) 1 95 := by decide +kernel
theorem D41_95 : Dc J41 95 (.iload_n 2) 1 96 := by decide +kernel
theorem D41_96 : Dc J41 96 (.bipush 6) 2 98 := by decide +kernel
theorem D41_98 : Dc J41 98 .iadd 1 99 := by decide +kernel
theorem D41_99 : Dc J41 99 (.invokevirtual 46) 3 102 := by decide +kernel
theorem own_d215 {p1 vN v0 v1 : Int32} (e0 : v0 = (p1 + 12)) (e1 : v1 = (p1 + 6)) (hq0 : ¬ (p1 < 0)) (hq1 : p1 < 1000) (hq2 : vN < 1000) (hq3 : ¬ (vN < v0)) : ¬ (v1 < 0) := by
  have := rng32 p1
  have : (0 : Int32).toInt = 0 := by decide
  have := i_nlt hq0
  have : (1000 : Int32).toInt = 1000 := by decide
  have := i_lt hq1
  have := rng32 vN
  have := i_lt hq2
  have : (12 : Int32).toInt = 12 := by decide
  have := e_iaddN e0 (by omega)
  have := i_nlt hq3
  have : (6 : Int32).toInt = 6 := by decide
  have := e_iaddN e1 (by omega)
  exact o_nlt (by omega)
theorem own_d216 {p1 vN v0 v1 : Int32} (e0 : v0 = (p1 + 12)) (e1 : v1 = (p1 + 6)) (hq0 : ¬ (p1 < 0)) (hq1 : p1 < 1000) (hq2 : vN < 1000) (hq3 : ¬ (vN < v0)) : v1 < vN := by
  have := rng32 p1
  have : (0 : Int32).toInt = 0 := by decide
  have := i_nlt hq0
  have : (1000 : Int32).toInt = 1000 := by decide
  have := i_lt hq1
  have := rng32 vN
  have := i_lt hq2
  have : (12 : Int32).toInt = 12 := by decide
  have := e_iaddN e0 (by omega)
  have := i_nlt hq3
  have : (6 : Int32).toInt = 6 := by decide
  have := e_iaddN e1 (by omega)
  exact o_lt (by omega)
theorem D41_102 : Dc J41 102 (.aload_n 1) 1 103 := by decide +kernel
theorem D41_103 : Dc J41 103 (.bipush 39) 2 105 := by decide +kernel
theorem D41_105 : Dc J41 105 (.invokevirtual 46) 3 108 := by decide +kernel
theorem D41_108 : Dj J41 108 (.if_icmp .ne 92) 92 111 200 := by decide +kernel
theorem D41_111 : Dc J41 111 (.aload_n 0) 1 112 := by decide +kernel
theorem D41_112 : Dc J41 112 (.iload_n 2) 1 113 := by decide +kernel
theorem D41_113 : Dc J41 113 (.bipush 7) 2 115 := by decide +kernel
theorem D41_115 : Dc J41 115 .iadd 1 116 := by decide +kernel
theorem D41_116 : Dc J41 116 (.invokevirtual 46) 3 119 := by decide +kernel
theorem own_d217 {p1 vN v0 v1 : Int32} (e0 : v0 = (p1 + 12)) (e1 : v1 = (p1 + 7)) (hq0 : ¬ (p1 < 0)) (hq1 : p1 < 1000) (hq2 : vN < 1000) (hq3 : ¬ (vN < v0)) : ¬ (v1 < 0) := by
  have := rng32 p1
  have : (0 : Int32).toInt = 0 := by decide
  have := i_nlt hq0
  have : (1000 : Int32).toInt = 1000 := by decide
  have := i_lt hq1
  have := rng32 vN
  have := i_lt hq2
  have : (12 : Int32).toInt = 12 := by decide
  have := e_iaddN e0 (by omega)
  have := i_nlt hq3
  have : (7 : Int32).toInt = 7 := by decide
  have := e_iaddN e1 (by omega)
  exact o_nlt (by omega)
theorem own_d218 {p1 vN v0 v1 : Int32} (e0 : v0 = (p1 + 12)) (e1 : v1 = (p1 + 7)) (hq0 : ¬ (p1 < 0)) (hq1 : p1 < 1000) (hq2 : vN < 1000) (hq3 : ¬ (vN < v0)) : v1 < vN := by
  have := rng32 p1
  have : (0 : Int32).toInt = 0 := by decide
  have := i_nlt hq0
  have : (1000 : Int32).toInt = 1000 := by decide
  have := i_lt hq1
  have := rng32 vN
  have := i_lt hq2
  have : (12 : Int32).toInt = 12 := by decide
  have := e_iaddN e0 (by omega)
  have := i_nlt hq3
  have : (7 : Int32).toInt = 7 := by decide
  have := e_iaddN e1 (by omega)
  exact o_lt (by omega)
theorem D41_119 : Dc J41 119 (.aload_n 1) 1 120 := by decide +kernel
theorem D41_120 : Dc J41 120 (.bipush 40) 2 122 := by decide +kernel
theorem D41_122 : Dc J41 122 (.invokevirtual 46) 3 125 := by decide +kernel
theorem D41_125 : Dj J41 125 (.if_icmp .ne 75) 75 128 200 := by decide +kernel
theorem D41_128 : Dc J41 128 (.aload_n 0) 1 129 := by decide +kernel
theorem D41_129 : Dc J41 129 (.iload_n 2) 1 130 := by decide +kernel
theorem D41_130 : Dc J41 130 (.bipush 8) 2 132 := by decide +kernel
theorem D41_132 : Dc J41 132 .iadd 1 133 := by decide +kernel
theorem D41_133 : Dc J41 133 (.invokevirtual 46) 3 136 := by decide +kernel
theorem own_d219 {p1 vN v0 v1 : Int32} (e0 : v0 = (p1 + 12)) (e1 : v1 = (p1 + 8)) (hq0 : ¬ (p1 < 0)) (hq1 : p1 < 1000) (hq2 : vN < 1000) (hq3 : ¬ (vN < v0)) : ¬ (v1 < 0) := by
  have := rng32 p1
  have : (0 : Int32).toInt = 0 := by decide
  have := i_nlt hq0
  have : (1000 : Int32).toInt = 1000 := by decide
  have := i_lt hq1
  have := rng32 vN
  have := i_lt hq2
  have : (12 : Int32).toInt = 12 := by decide
  have := e_iaddN e0 (by omega)
  have := i_nlt hq3
  have : (8 : Int32).toInt = 8 := by decide
  have := e_iaddN e1 (by omega)
  exact o_nlt (by omega)
theorem own_d220 {p1 vN v0 v1 : Int32} (e0 : v0 = (p1 + 12)) (e1 : v1 = (p1 + 8)) (hq0 : ¬ (p1 < 0)) (hq1 : p1 < 1000) (hq2 : vN < 1000) (hq3 : ¬ (vN < v0)) : v1 < vN := by
  have := rng32 p1
  have : (0 : Int32).toInt = 0 := by decide
  have := i_nlt hq0
  have : (1000 : Int32).toInt = 1000 := by decide
  have := i_lt hq1
  have := rng32 vN
  have := i_lt hq2
  have : (12 : Int32).toInt = 12 := by decide
  have := e_iaddN e0 (by omega)
  have := i_nlt hq3
  have : (8 : Int32).toInt = 8 := by decide
  have := e_iaddN e1 (by omega)
  exact o_lt (by omega)
theorem D41_136 : Dc J41 136 (.aload_n 1) 1 137 := by decide +kernel
theorem D41_137 : Dc J41 137 (.bipush 41) 2 139 := by decide +kernel
theorem D41_139 : Dc J41 139 (.invokevirtual 46) 3 142 := by decide +kernel
theorem D41_142 : Dj J41 142 (.if_icmp .ne 58) 58 145 200 := by decide +kernel
theorem D41_145 : Dc J41 145 (.aload_n 0) 1 146 := by decide +kernel
theorem D41_146 : Dc J41 146 (.iload_n 2) 1 147 := by decide +kernel
theorem D41_147 : Dc J41 147 (.bipush 9) 2 149 := by decide +kernel
theorem D41_149 : Dc J41 149 .iadd 1 150 := by decide +kernel
theorem D41_150 : Dc J41 150 (.invokevirtual 46) 3 153 := by decide +kernel
theorem own_d221 {p1 vN v0 v1 : Int32} (e0 : v0 = (p1 + 12)) (e1 : v1 = (p1 + 9)) (hq0 : ¬ (p1 < 0)) (hq1 : p1 < 1000) (hq2 : vN < 1000) (hq3 : ¬ (vN < v0)) : ¬ (v1 < 0) := by
  have := rng32 p1
  have : (0 : Int32).toInt = 0 := by decide
  have := i_nlt hq0
  have : (1000 : Int32).toInt = 1000 := by decide
  have := i_lt hq1
  have := rng32 vN
  have := i_lt hq2
  have : (12 : Int32).toInt = 12 := by decide
  have := e_iaddN e0 (by omega)
  have := i_nlt hq3
  have : (9 : Int32).toInt = 9 := by decide
  have := e_iaddN e1 (by omega)
  exact o_nlt (by omega)
theorem own_d222 {p1 vN v0 v1 : Int32} (e0 : v0 = (p1 + 12)) (e1 : v1 = (p1 + 9)) (hq0 : ¬ (p1 < 0)) (hq1 : p1 < 1000) (hq2 : vN < 1000) (hq3 : ¬ (vN < v0)) : v1 < vN := by
  have := rng32 p1
  have : (0 : Int32).toInt = 0 := by decide
  have := i_nlt hq0
  have : (1000 : Int32).toInt = 1000 := by decide
  have := i_lt hq1
  have := rng32 vN
  have := i_lt hq2
  have : (12 : Int32).toInt = 12 := by decide
  have := e_iaddN e0 (by omega)
  have := i_nlt hq3
  have : (9 : Int32).toInt = 9 := by decide
  have := e_iaddN e1 (by omega)
  exact o_lt (by omega)
theorem D41_153 : Dc J41 153 (.aload_n 1) 1 154 := by decide +kernel
theorem D41_154 : Dc J41 154 (.bipush 42) 2 156 := by decide +kernel
theorem D41_156 : Dc J41 156 (.invokevirtual 46) 3 159 := by decide +kernel
theorem D41_159 : Dj J41 159 (.if_icmp .ne 41) 41 162 200 := by decide +kernel
theorem D41_162 : Dc J41 162 (.aload_n 0) 1 163 := by decide +kernel
theorem D41_163 : Dc J41 163 (.iload_n 2) 1 164 := by decide +kernel
theorem D41_164 : Dc J41 164 (.bipush 10) 2 166 := by decide +kernel
theorem D41_166 : Dc J41 166 .iadd 1 167 := by decide +kernel
theorem D41_167 : Dc J41 167 (.invokevirtual 46) 3 170 := by decide +kernel
theorem own_d223 {p1 vN v0 v1 : Int32} (e0 : v0 = (p1 + 12)) (e1 : v1 = (p1 + 10)) (hq0 : ¬ (p1 < 0)) (hq1 : p1 < 1000) (hq2 : vN < 1000) (hq3 : ¬ (vN < v0)) : ¬ (v1 < 0) := by
  have := rng32 p1
  have : (0 : Int32).toInt = 0 := by decide
  have := i_nlt hq0
  have : (1000 : Int32).toInt = 1000 := by decide
  have := i_lt hq1
  have := rng32 vN
  have := i_lt hq2
  have : (12 : Int32).toInt = 12 := by decide
  have := e_iaddN e0 (by omega)
  have := i_nlt hq3
  have : (10 : Int32).toInt = 10 := by decide
  have := e_iaddN e1 (by omega)
  exact o_nlt (by omega)
theorem own_d224 {p1 vN v0 v1 : Int32} (e0 : v0 = (p1 + 12)) (e1 : v1 = (p1 + 10)) (hq0 : ¬ (p1 < 0)) (hq1 : p1 < 1000) (hq2 : vN < 1000) (hq3 : ¬ (vN < v0)) : v1 < vN := by
  have := rng32 p1
  have : (0 : Int32).toInt = 0 := by decide
  have := i_nlt hq0
  have : (1000 : Int32).toInt = 1000 := by decide
  have := i_lt hq1
  have := rng32 vN
  have := i_lt hq2
  have : (12 : Int32).toInt = 12 := by decide
  have := e_iaddN e0 (by omega)
  have := i_nlt hq3
  have : (10 : Int32).toInt = 10 := by decide
  have := e_iaddN e1 (by omega)
  exact o_lt (by omega)
theorem D41_170 : Dc J41 170 (.aload_n 1) 1 171 := by decide +kernel
theorem D41_171 : Dc J41 171 (.bipush 43) 2 173 := by decide +kernel
theorem D41_173 : Dc J41 173 (.invokevirtual 46) 3 176 := by decide +kernel
theorem D41_176 : Dj J41 176 (.if_icmp .ne 24) 24 179 200 := by decide +kernel
theorem D41_179 : Dc J41 179 (.aload_n 0) 1 180 := by decide +kernel
theorem D41_180 : Dc J41 180 (.iload_n 2) 1 181 := by decide +kernel
theorem D41_181 : Dc J41 181 (.bipush 11) 2 183 := by decide +kernel
theorem D41_183 : Dc J41 183 .iadd 1 184 := by decide +kernel
theorem D41_184 : Dc J41 184 (.invokevirtual 46) 3 187 := by decide +kernel
theorem own_d225 {p1 vN v0 v1 : Int32} (e0 : v0 = (p1 + 12)) (e1 : v1 = (p1 + 11)) (hq0 : ¬ (p1 < 0)) (hq1 : p1 < 1000) (hq2 : vN < 1000) (hq3 : ¬ (vN < v0)) : ¬ (v1 < 0) := by
  have := rng32 p1
  have : (0 : Int32).toInt = 0 := by decide
  have := i_nlt hq0
  have : (1000 : Int32).toInt = 1000 := by decide
  have := i_lt hq1
  have := rng32 vN
  have := i_lt hq2
  have : (12 : Int32).toInt = 12 := by decide
  have := e_iaddN e0 (by omega)
  have := i_nlt hq3
  have : (11 : Int32).toInt = 11 := by decide
  have := e_iaddN e1 (by omega)
  exact o_nlt (by omega)
theorem own_d226 {p1 vN v0 v1 : Int32} (e0 : v0 = (p1 + 12)) (e1 : v1 = (p1 + 11)) (hq0 : ¬ (p1 < 0)) (hq1 : p1 < 1000) (hq2 : vN < 1000) (hq3 : ¬ (vN < v0)) : v1 < vN := by
  have := rng32 p1
  have : (0 : Int32).toInt = 0 := by decide
  have := i_nlt hq0
  have : (1000 : Int32).toInt = 1000 := by decide
  have := i_lt hq1
  have := rng32 vN
  have := i_lt hq2
  have : (12 : Int32).toInt = 12 := by decide
  have := e_iaddN e0 (by omega)
  have := i_nlt hq3
  have : (11 : Int32).toInt = 11 := by decide
  have := e_iaddN e1 (by omega)
  exact o_lt (by omega)
theorem D41_187 : Dc J41 187 (.aload_n 1) 1 188 := by decide +kernel
theorem D41_188 : Dc J41 188 (.bipush 44) 2 190 := by decide +kernel
theorem D41_190 : Dc J41 190 (.invokevirtual 46) 3 193 := by decide +kernel
theorem D41_193 : Dj J41 193 (.if_icmp .ne 7) 7 196 200 := by decide +kernel
theorem D41_196 : Dc J41 196 (.iconst 1) 1 197 := by decide +kernel
theorem D41_197 : Dj J41 197 (.goto 4) 4 200 201 := by decide +kernel
theorem D41_201 : Dc J41 201 .ireturn 1 202 := by decide +kernel
theorem PN41 : plainFor Y41 = true := plainFor_of_name pn_SemaphoreBulkheadSnapshotToStringPinLaw
theorem ef_RRI_3 {x0 : Addr} {x1 : Addr} {x2 : Int32}  (m : MethodId) : entryFrame m #[(.ref x0), (.ref x1), (.int x2)] 3 = mkF m 0 #[.val (.ref x0), .val (.ref x1), .val (.int x2)] [] := by
  first | (simp [entryFrame, mkF, argsToLocals, Value.category]; done) | rfl
theorem R_mi {a1 a2 a3 a4 : Addr} {vN p1 : Int32} {f1 : Nat → Int32} (hw : HW a0 Z) (G : Gl Z w_CS w_SF w_DO w_DT w_fO w_fT) (O : Obj Z h0 a1 litL [.ref a2, .int 0]) (A : Ary Z h0 a2 ATB vN.toNatClampNeg (bv f1)) (OZ : Obj Z h0 a3 litL [.ref a4, .int 0]) (AZ : Ary Z h0 a4 ATB 47 (bv (lvi [83, 101, 109, 97, 112, 104, 111, 114, 101, 66, 117, 108, 107, 104, 101, 97, 100, 83, 110, 97, 112, 115, 104, 111, 116, 91, 108, 105, 109, 105, 116, 61, 48, 44, 32, 97, 118, 97, 105, 108, 97, 98, 108, 101, 61, 48, 93]))) (x1 : ¬ (p1 < 0)) (x2 : p1 < 1000) (x3 : vN < 1000) (x4 : ¬ (vN < (p1 + 12))) (M : ∀ j, j < 12 → f1 (p1.toNatClampNeg + j) = lvi L12 j) : Mt false [] l Y41 C41 (rmk 4 0 0 54) #[.ref a1, .ref a3, .int p1] Z a0 h0 n0 (Pv h0 (.int 1)) := by
  refine Mt.go PN41 (Or.inl rfl) ef_RRI_3 fun k => ?_
  replace k := k |>.aloadN D41_0 rfl rfl |>.iloadN D41_1 rfl
  replace k := (k.callV (w_204 hw) (V_Y30_30_String hw) O.exa (R_chr hw G O A x1 (own_d204 rfl x1 x2 x3 x4) x3) D41_2 0 rfl).pv
  replace k := k |>.top (y := 44) (lat_of (v := 0) (M 0 (by decide)) (by decide)) |>.aloadN D41_5 rfl rfl |>.bipush D41_6 33
  replace k := (k.callV (w_204 hw) (V_Y30_30_String hw) OZ.exa (R_chr hw G OZ AZ (by decide) (by decide) (by decide) (p1 := 33) (vN := 47)) D41_8 1 rfl).pv
  replace k := k |>.top (y := 44) (by decide) |>.icmpNo D41_11  |>.aloadN D41_14 rfl rfl |>.iloadN D41_15 rfl |>.iconst D41_16 1 |>.iadd D41_17 rfl
  replace k := (k.callV (w_204 hw) (V_Y30_30_String hw) O.exa (R_chr hw G O A (own_d205 rfl rfl x1 x2 x3 x4) (own_d206 rfl rfl x1 x2 x3 x4) x3) D41_18 0 rfl).pv
  replace k := k |>.top (y := 32) (mid_at (v := 0) (j := 1) M x1 x2 rfl rfl (by decide) (by decide)) |>.aloadN D41_21 rfl rfl |>.bipush D41_22 34
  replace k := (k.callV (w_204 hw) (V_Y30_30_String hw) OZ.exa (R_chr hw G OZ AZ (by decide) (by decide) (by decide) (p1 := 34) (vN := 47)) D41_24 1 rfl).pv
  replace k := k |>.top (y := 32) (by decide) |>.icmpNo D41_27  |>.aloadN D41_30 rfl rfl |>.iloadN D41_31 rfl |>.iconst D41_32 2 |>.iadd D41_33 rfl
  replace k := (k.callV (w_204 hw) (V_Y30_30_String hw) O.exa (R_chr hw G O A (own_d207 rfl rfl x1 x2 x3 x4) (own_d208 rfl rfl x1 x2 x3 x4) x3) D41_34 0 rfl).pv
  replace k := k |>.top (y := 97) (mid_at (v := 0) (j := 2) M x1 x2 rfl rfl (by decide) (by decide)) |>.aloadN D41_37 rfl rfl |>.bipush D41_38 35
  replace k := (k.callV (w_204 hw) (V_Y30_30_String hw) OZ.exa (R_chr hw G OZ AZ (by decide) (by decide) (by decide) (p1 := 35) (vN := 47)) D41_40 1 rfl).pv
  replace k := k |>.top (y := 97) (by decide) |>.icmpNo D41_43  |>.aloadN D41_46 rfl rfl |>.iloadN D41_47 rfl |>.iconst D41_48 3 |>.iadd D41_49 rfl
  replace k := (k.callV (w_204 hw) (V_Y30_30_String hw) O.exa (R_chr hw G O A (own_d209 rfl rfl x1 x2 x3 x4) (own_d210 rfl rfl x1 x2 x3 x4) x3) D41_50 0 rfl).pv
  replace k := k |>.top (y := 118) (mid_at (v := 0) (j := 3) M x1 x2 rfl rfl (by decide) (by decide)) |>.aloadN D41_53 rfl rfl |>.bipush D41_54 36
  replace k := (k.callV (w_204 hw) (V_Y30_30_String hw) OZ.exa (R_chr hw G OZ AZ (by decide) (by decide) (by decide) (p1 := 36) (vN := 47)) D41_56 1 rfl).pv
  replace k := k |>.top (y := 118) (by decide) |>.icmpNo D41_59  |>.aloadN D41_62 rfl rfl |>.iloadN D41_63 rfl |>.iconst D41_64 4 |>.iadd D41_65 rfl
  replace k := (k.callV (w_204 hw) (V_Y30_30_String hw) O.exa (R_chr hw G O A (own_d211 rfl rfl x1 x2 x3 x4) (own_d212 rfl rfl x1 x2 x3 x4) x3) D41_66 0 rfl).pv
  replace k := k |>.top (y := 97) (mid_at (v := 0) (j := 4) M x1 x2 rfl rfl (by decide) (by decide)) |>.aloadN D41_69 rfl rfl |>.bipush D41_70 37
  replace k := (k.callV (w_204 hw) (V_Y30_30_String hw) OZ.exa (R_chr hw G OZ AZ (by decide) (by decide) (by decide) (p1 := 37) (vN := 47)) D41_72 1 rfl).pv
  replace k := k |>.top (y := 97) (by decide) |>.icmpNo D41_75  |>.aloadN D41_78 rfl rfl |>.iloadN D41_79 rfl |>.iconst D41_80 5 |>.iadd D41_81 rfl
  replace k := (k.callV (w_204 hw) (V_Y30_30_String hw) O.exa (R_chr hw G O A (own_d213 rfl rfl x1 x2 x3 x4) (own_d214 rfl rfl x1 x2 x3 x4) x3) D41_82 0 rfl).pv
  replace k := k |>.top (y := 105) (mid_at (v := 0) (j := 5) M x1 x2 rfl rfl (by decide) (by decide)) |>.aloadN D41_85 rfl rfl |>.bipush D41_86 38
  replace k := (k.callV (w_204 hw) (V_Y30_30_String hw) OZ.exa (R_chr hw G OZ AZ (by decide) (by decide) (by decide) (p1 := 38) (vN := 47)) D41_88 1 rfl).pv
  replace k := k |>.top (y := 105) (by decide) |>.icmpNo D41_91  |>.aloadN D41_94 rfl rfl |>.iloadN D41_95 rfl |>.bipush D41_96 6 |>.iadd D41_98 rfl
  replace k := (k.callV (w_204 hw) (V_Y30_30_String hw) O.exa (R_chr hw G O A (own_d215 rfl rfl x1 x2 x3 x4) (own_d216 rfl rfl x1 x2 x3 x4) x3) D41_99 0 rfl).pv
  replace k := k |>.top (y := 108) (mid_at (v := 0) (j := 6) M x1 x2 rfl rfl (by decide) (by decide)) |>.aloadN D41_102 rfl rfl |>.bipush D41_103 39
  replace k := (k.callV (w_204 hw) (V_Y30_30_String hw) OZ.exa (R_chr hw G OZ AZ (by decide) (by decide) (by decide) (p1 := 39) (vN := 47)) D41_105 1 rfl).pv
  replace k := k |>.top (y := 108) (by decide) |>.icmpNo D41_108  |>.aloadN D41_111 rfl rfl |>.iloadN D41_112 rfl |>.bipush D41_113 7 |>.iadd D41_115 rfl
  replace k := (k.callV (w_204 hw) (V_Y30_30_String hw) O.exa (R_chr hw G O A (own_d217 rfl rfl x1 x2 x3 x4) (own_d218 rfl rfl x1 x2 x3 x4) x3) D41_116 0 rfl).pv
  replace k := k |>.top (y := 97) (mid_at (v := 0) (j := 7) M x1 x2 rfl rfl (by decide) (by decide)) |>.aloadN D41_119 rfl rfl |>.bipush D41_120 40
  replace k := (k.callV (w_204 hw) (V_Y30_30_String hw) OZ.exa (R_chr hw G OZ AZ (by decide) (by decide) (by decide) (p1 := 40) (vN := 47)) D41_122 1 rfl).pv
  replace k := k |>.top (y := 97) (by decide) |>.icmpNo D41_125  |>.aloadN D41_128 rfl rfl |>.iloadN D41_129 rfl |>.bipush D41_130 8 |>.iadd D41_132 rfl
  replace k := (k.callV (w_204 hw) (V_Y30_30_String hw) O.exa (R_chr hw G O A (own_d219 rfl rfl x1 x2 x3 x4) (own_d220 rfl rfl x1 x2 x3 x4) x3) D41_133 0 rfl).pv
  replace k := k |>.top (y := 98) (mid_at (v := 0) (j := 8) M x1 x2 rfl rfl (by decide) (by decide)) |>.aloadN D41_136 rfl rfl |>.bipush D41_137 41
  replace k := (k.callV (w_204 hw) (V_Y30_30_String hw) OZ.exa (R_chr hw G OZ AZ (by decide) (by decide) (by decide) (p1 := 41) (vN := 47)) D41_139 1 rfl).pv
  replace k := k |>.top (y := 98) (by decide) |>.icmpNo D41_142  |>.aloadN D41_145 rfl rfl |>.iloadN D41_146 rfl |>.bipush D41_147 9 |>.iadd D41_149 rfl
  replace k := (k.callV (w_204 hw) (V_Y30_30_String hw) O.exa (R_chr hw G O A (own_d221 rfl rfl x1 x2 x3 x4) (own_d222 rfl rfl x1 x2 x3 x4) x3) D41_150 0 rfl).pv
  replace k := k |>.top (y := 108) (mid_at (v := 0) (j := 9) M x1 x2 rfl rfl (by decide) (by decide)) |>.aloadN D41_153 rfl rfl |>.bipush D41_154 42
  replace k := (k.callV (w_204 hw) (V_Y30_30_String hw) OZ.exa (R_chr hw G OZ AZ (by decide) (by decide) (by decide) (p1 := 42) (vN := 47)) D41_156 1 rfl).pv
  replace k := k |>.top (y := 108) (by decide) |>.icmpNo D41_159  |>.aloadN D41_162 rfl rfl |>.iloadN D41_163 rfl |>.bipush D41_164 10 |>.iadd D41_166 rfl
  replace k := (k.callV (w_204 hw) (V_Y30_30_String hw) O.exa (R_chr hw G O A (own_d223 rfl rfl x1 x2 x3 x4) (own_d224 rfl rfl x1 x2 x3 x4) x3) D41_167 0 rfl).pv
  replace k := k |>.top (y := 101) (mid_at (v := 0) (j := 10) M x1 x2 rfl rfl (by decide) (by decide)) |>.aloadN D41_170 rfl rfl |>.bipush D41_171 43
  replace k := (k.callV (w_204 hw) (V_Y30_30_String hw) OZ.exa (R_chr hw G OZ AZ (by decide) (by decide) (by decide) (p1 := 43) (vN := 47)) D41_173 1 rfl).pv
  replace k := k |>.top (y := 101) (by decide) |>.icmpNo D41_176  |>.aloadN D41_179 rfl rfl |>.iloadN D41_180 rfl |>.bipush D41_181 11 |>.iadd D41_183 rfl
  replace k := (k.callV (w_204 hw) (V_Y30_30_String hw) O.exa (R_chr hw G O A (own_d225 rfl rfl x1 x2 x3 x4) (own_d226 rfl rfl x1 x2 x3 x4) x3) D41_184 0 rfl).pv
  replace k := k |>.top (y := 61) (mid_at (v := 0) (j := 11) M x1 x2 rfl rfl (by decide) (by decide)) |>.aloadN D41_187 rfl rfl |>.bipush D41_188 44
  replace k := (k.callV (w_204 hw) (V_Y30_30_String hw) OZ.exa (R_chr hw G OZ AZ (by decide) (by decide) (by decide) (p1 := 44) (vN := 47)) D41_190 1 rfl).pv
  replace k := k |>.top (y := 61) (by decide) |>.icmpNo D41_193  |>.iconst D41_196 1 |>.goto D41_197
  exact k.retN (t := .boolean) D41_201 rfl (by simp) (z' := 1) (by decide) ⟨rfl, rfl⟩
abbrev Y42 : MethodName := ⟨"java/lang/String", "equals", "(Ljava/lang/Object;)Z"⟩
abbrev J42 := jdk_42_method_66_code
abbrev C42 : Cond := .code Y42 J42 3 (some .boolean)
theorem D42_0 : Dc J42 0 (.aload_n 0) 1 1 := by decide +kernel
theorem D42_1 : Dc J42 1 (.aload_n 1) 1 2 := by decide +kernel
theorem D42_2 : Dj J42 2 (.if_acmp .ne 5) 5 5 7 := by decide +kernel
theorem D42_5 : Dc J42 5 (.iconst 1) 1 6 := by decide +kernel
theorem D42_6 : Dc J42 6 .ireturn 1 7 := by decide +kernel
theorem D42_7 : Dc J42 7 (.aload_n 1) 1 8 := by decide +kernel
theorem D42_8 : Dc J42 8 (.instanceof 10) 3 11 := by decide +kernel
abbrev w_184 (hw : HW a0 Z) := hw.at 184 rfl
theorem D42_11 : Dj J42 11 (.ifCond .eq 43) 43 14 54 := by decide +kernel
theorem D42_14 : Dc J42 14 (.aload_n 1) 1 15 := by decide +kernel
theorem D42_15 : Dc J42 15 (.checkcast 10) 3 18 := by decide +kernel
theorem D42_18 : Dc J42 18 (.astore_n 2) 1 19 := by decide +kernel
theorem D42_19 : Dc J42 19 (.getstatic 38) 3 22 := by decide +kernel
theorem D42_22 : Dj J42 22 (.ifCond .eq 14) 14 25 36 := by decide +kernel
theorem D42_25 : Dc J42 25 (.aload_n 0) 1 26 := by decide +kernel
theorem D42_26 : Dc J42 26 (.getfield 15) 3 29 := by decide +kernel
theorem D42_29 : Dc J42 29 (.aload_n 2) 1 30 := by decide +kernel
theorem D42_30 : Dc J42 30 (.getfield 15) 3 33 := by decide +kernel
theorem D42_33 : Dj J42 33 (.if_icmp .ne 21) 21 36 54 := by decide +kernel
theorem D42_36 : Dc J42 36 (.aload_n 0) 1 37 := by decide +kernel
theorem D42_37 : Dc J42 37 (.getfield 9) 3 40 := by decide +kernel
theorem D42_40 : Dc J42 40 (.aload_n 2) 1 41 := by decide +kernel
theorem D42_41 : Dc J42 41 (.getfield 9) 3 44 := by decide +kernel
theorem D42_44 : Dc J42 44 (.invokestatic 541) 3 47 := by decide +kernel
abbrev Y43 : MethodName := ⟨"java/lang/StringLatin1", "equals", "([B[B)Z"⟩
abbrev J43 := jdk_43_method_13_code
abbrev C43 : Cond := .code Y43 J43 3 (some .boolean)
theorem D43_0 : Dc J43 0 (.aload_n 0) 1 1 := by decide +kernel
theorem D43_1 : Dc J43 1 .arraylength 1 2 := by decide +kernel
theorem D43_2 : Dc J43 2 (.aload_n 1) 1 3 := by decide +kernel
theorem D43_3 : Dc J43 3 .arraylength 1 4 := by decide +kernel
theorem D43_4 : Dj J43 4 (.if_icmp .ne 30) 30 7 34 := by decide +kernel
theorem D43_7 : Dc J43 7 (.iconst 0) 1 8 := by decide +kernel
theorem D43_8 : Dc J43 8 (.istore_n 2) 1 9 := by decide +kernel
theorem D43_9 : Dc J43 9 (.iload_n 2) 1 10 := by decide +kernel
theorem D43_10 : Dc J43 10 (.aload_n 0) 1 11 := by decide +kernel
theorem D43_11 : Dc J43 11 .arraylength 1 12 := by decide +kernel
theorem D43_12 : Dj J43 12 (.if_icmp .ge 20) 20 15 32 := by decide +kernel
theorem D43_15 : Dc J43 15 (.aload_n 0) 1 16 := by decide +kernel
theorem D43_16 : Dc J43 16 (.iload_n 2) 1 17 := by decide +kernel
theorem D43_17 : Dc J43 17 .baload 1 18 := by decide +kernel
theorem big0 { x : Int32} {t : List Int32} : bv (lvi (x :: t)) 0 = .int x := rfl
theorem D43_18 : Dc J43 18 (.aload_n 1) 1 19 := by decide +kernel
theorem D43_19 : Dc J43 19 (.iload_n 2) 1 20 := by decide +kernel
theorem D43_20 : Dc J43 20 .baload 1 21 := by decide +kernel
theorem D43_21 : Dj J43 21 (.if_icmp .eq 5) 5 24 26 := by decide +kernel
theorem D43_26 : Dc J43 26 (.iinc 2 1) 3 29 := by decide +kernel
theorem D43_29 : Dj J43 29 (.goto (-20)) (-20) 32 9 := by decide +kernel
theorem big1 {x0 x : Int32} {t : List Int32} : bv (lvi (x0 :: x :: t)) 1 = .int x := rfl
theorem big2 {x0 x1 x : Int32} {t : List Int32} : bv (lvi (x0 :: x1 :: x :: t)) 2 = .int x := rfl
theorem big3 {x0 x1 x2 x : Int32} {t : List Int32} : bv (lvi (x0 :: x1 :: x2 :: x :: t)) 3 = .int x := rfl
theorem big4 {x0 x1 x2 x3 x : Int32} {t : List Int32} : bv (lvi (x0 :: x1 :: x2 :: x3 :: x :: t)) 4 = .int x := rfl
theorem big5 {x0 x1 x2 x3 x4 x : Int32} {t : List Int32} : bv (lvi (x0 :: x1 :: x2 :: x3 :: x4 :: x :: t)) 5 = .int x := rfl
theorem big6 {x0 x1 x2 x3 x4 x5 x : Int32} {t : List Int32} : bv (lvi (x0 :: x1 :: x2 :: x3 :: x4 :: x5 :: x :: t)) 6 = .int x := rfl
theorem big7 {x0 x1 x2 x3 x4 x5 x6 x : Int32} {t : List Int32} : bv (lvi (x0 :: x1 :: x2 :: x3 :: x4 :: x5 :: x6 :: x :: t)) 7 = .int x := rfl
theorem big8 {x0 x1 x2 x3 x4 x5 x6 x7 x : Int32} {t : List Int32} : bv (lvi (x0 :: x1 :: x2 :: x3 :: x4 :: x5 :: x6 :: x7 :: x :: t)) 8 = .int x := rfl
theorem big9 {x0 x1 x2 x3 x4 x5 x6 x7 x8 x : Int32} {t : List Int32} : bv (lvi (x0 :: x1 :: x2 :: x3 :: x4 :: x5 :: x6 :: x7 :: x8 :: x :: t)) 9 = .int x := rfl
theorem big10 {x0 x1 x2 x3 x4 x5 x6 x7 x8 x9 x : Int32} {t : List Int32} : bv (lvi (x0 :: x1 :: x2 :: x3 :: x4 :: x5 :: x6 :: x7 :: x8 :: x9 :: x :: t)) 10 = .int x := rfl
theorem big11 {x0 x1 x2 x3 x4 x5 x6 x7 x8 x9 x10 x : Int32} {t : List Int32} : bv (lvi (x0 :: x1 :: x2 :: x3 :: x4 :: x5 :: x6 :: x7 :: x8 :: x9 :: x10 :: x :: t)) 11 = .int x := rfl
theorem big12 {x0 x1 x2 x3 x4 x5 x6 x7 x8 x9 x10 x11 x : Int32} {t : List Int32} : bv (lvi (x0 :: x1 :: x2 :: x3 :: x4 :: x5 :: x6 :: x7 :: x8 :: x9 :: x10 :: x11 :: x :: t)) 12 = .int x := rfl
theorem big13 {x0 x1 x2 x3 x4 x5 x6 x7 x8 x9 x10 x11 x12 x : Int32} {t : List Int32} : bv (lvi (x0 :: x1 :: x2 :: x3 :: x4 :: x5 :: x6 :: x7 :: x8 :: x9 :: x10 :: x11 :: x12 :: x :: t)) 13 = .int x := rfl
theorem big14 {x0 x1 x2 x3 x4 x5 x6 x7 x8 x9 x10 x11 x12 x13 x : Int32} {t : List Int32} : bv (lvi (x0 :: x1 :: x2 :: x3 :: x4 :: x5 :: x6 :: x7 :: x8 :: x9 :: x10 :: x11 :: x12 :: x13 :: x :: t)) 14 = .int x := rfl
theorem big15 {x0 x1 x2 x3 x4 x5 x6 x7 x8 x9 x10 x11 x12 x13 x14 x : Int32} {t : List Int32} : bv (lvi (x0 :: x1 :: x2 :: x3 :: x4 :: x5 :: x6 :: x7 :: x8 :: x9 :: x10 :: x11 :: x12 :: x13 :: x14 :: x :: t)) 15 = .int x := rfl
theorem big16 {x0 x1 x2 x3 x4 x5 x6 x7 x8 x9 x10 x11 x12 x13 x14 x15 x : Int32} {t : List Int32} : bv (lvi (x0 :: x1 :: x2 :: x3 :: x4 :: x5 :: x6 :: x7 :: x8 :: x9 :: x10 :: x11 :: x12 :: x13 :: x14 :: x15 :: x :: t)) 16 = .int x := rfl
theorem big17 {x0 x1 x2 x3 x4 x5 x6 x7 x8 x9 x10 x11 x12 x13 x14 x15 x16 x : Int32} {t : List Int32} : bv (lvi (x0 :: x1 :: x2 :: x3 :: x4 :: x5 :: x6 :: x7 :: x8 :: x9 :: x10 :: x11 :: x12 :: x13 :: x14 :: x15 :: x16 :: x :: t)) 17 = .int x := rfl
theorem big18 {x0 x1 x2 x3 x4 x5 x6 x7 x8 x9 x10 x11 x12 x13 x14 x15 x16 x17 x : Int32} {t : List Int32} : bv (lvi (x0 :: x1 :: x2 :: x3 :: x4 :: x5 :: x6 :: x7 :: x8 :: x9 :: x10 :: x11 :: x12 :: x13 :: x14 :: x15 :: x16 :: x17 :: x :: t)) 18 = .int x := rfl
theorem big19 {x0 x1 x2 x3 x4 x5 x6 x7 x8 x9 x10 x11 x12 x13 x14 x15 x16 x17 x18 x : Int32} {t : List Int32} : bv (lvi (x0 :: x1 :: x2 :: x3 :: x4 :: x5 :: x6 :: x7 :: x8 :: x9 :: x10 :: x11 :: x12 :: x13 :: x14 :: x15 :: x16 :: x17 :: x18 :: x :: t)) 19 = .int x := rfl
theorem big20 {x0 x1 x2 x3 x4 x5 x6 x7 x8 x9 x10 x11 x12 x13 x14 x15 x16 x17 x18 x19 x : Int32} {t : List Int32} : bv (lvi (x0 :: x1 :: x2 :: x3 :: x4 :: x5 :: x6 :: x7 :: x8 :: x9 :: x10 :: x11 :: x12 :: x13 :: x14 :: x15 :: x16 :: x17 :: x18 :: x19 :: x :: t)) 20 = .int x := rfl
theorem big21 {x0 x1 x2 x3 x4 x5 x6 x7 x8 x9 x10 x11 x12 x13 x14 x15 x16 x17 x18 x19 x20 x : Int32} {t : List Int32} : bv (lvi (x0 :: x1 :: x2 :: x3 :: x4 :: x5 :: x6 :: x7 :: x8 :: x9 :: x10 :: x11 :: x12 :: x13 :: x14 :: x15 :: x16 :: x17 :: x18 :: x19 :: x20 :: x :: t)) 21 = .int x := rfl
theorem big22 {x0 x1 x2 x3 x4 x5 x6 x7 x8 x9 x10 x11 x12 x13 x14 x15 x16 x17 x18 x19 x20 x21 x : Int32} {t : List Int32} : bv (lvi (x0 :: x1 :: x2 :: x3 :: x4 :: x5 :: x6 :: x7 :: x8 :: x9 :: x10 :: x11 :: x12 :: x13 :: x14 :: x15 :: x16 :: x17 :: x18 :: x19 :: x20 :: x21 :: x :: t)) 22 = .int x := rfl
theorem big23 {x0 x1 x2 x3 x4 x5 x6 x7 x8 x9 x10 x11 x12 x13 x14 x15 x16 x17 x18 x19 x20 x21 x22 x : Int32} {t : List Int32} : bv (lvi (x0 :: x1 :: x2 :: x3 :: x4 :: x5 :: x6 :: x7 :: x8 :: x9 :: x10 :: x11 :: x12 :: x13 :: x14 :: x15 :: x16 :: x17 :: x18 :: x19 :: x20 :: x21 :: x22 :: x :: t)) 23 = .int x := rfl
theorem big24 {x0 x1 x2 x3 x4 x5 x6 x7 x8 x9 x10 x11 x12 x13 x14 x15 x16 x17 x18 x19 x20 x21 x22 x23 x : Int32} {t : List Int32} : bv (lvi (x0 :: x1 :: x2 :: x3 :: x4 :: x5 :: x6 :: x7 :: x8 :: x9 :: x10 :: x11 :: x12 :: x13 :: x14 :: x15 :: x16 :: x17 :: x18 :: x19 :: x20 :: x21 :: x22 :: x23 :: x :: t)) 24 = .int x := rfl
theorem big25 {x0 x1 x2 x3 x4 x5 x6 x7 x8 x9 x10 x11 x12 x13 x14 x15 x16 x17 x18 x19 x20 x21 x22 x23 x24 x : Int32} {t : List Int32} : bv (lvi (x0 :: x1 :: x2 :: x3 :: x4 :: x5 :: x6 :: x7 :: x8 :: x9 :: x10 :: x11 :: x12 :: x13 :: x14 :: x15 :: x16 :: x17 :: x18 :: x19 :: x20 :: x21 :: x22 :: x23 :: x24 :: x :: t)) 25 = .int x := rfl
theorem big26 {x0 x1 x2 x3 x4 x5 x6 x7 x8 x9 x10 x11 x12 x13 x14 x15 x16 x17 x18 x19 x20 x21 x22 x23 x24 x25 x : Int32} {t : List Int32} : bv (lvi (x0 :: x1 :: x2 :: x3 :: x4 :: x5 :: x6 :: x7 :: x8 :: x9 :: x10 :: x11 :: x12 :: x13 :: x14 :: x15 :: x16 :: x17 :: x18 :: x19 :: x20 :: x21 :: x22 :: x23 :: x24 :: x25 :: x :: t)) 26 = .int x := rfl
theorem big27 {x0 x1 x2 x3 x4 x5 x6 x7 x8 x9 x10 x11 x12 x13 x14 x15 x16 x17 x18 x19 x20 x21 x22 x23 x24 x25 x26 x : Int32} {t : List Int32} : bv (lvi (x0 :: x1 :: x2 :: x3 :: x4 :: x5 :: x6 :: x7 :: x8 :: x9 :: x10 :: x11 :: x12 :: x13 :: x14 :: x15 :: x16 :: x17 :: x18 :: x19 :: x20 :: x21 :: x22 :: x23 :: x24 :: x25 :: x26 :: x :: t)) 27 = .int x := rfl
theorem big28 {x0 x1 x2 x3 x4 x5 x6 x7 x8 x9 x10 x11 x12 x13 x14 x15 x16 x17 x18 x19 x20 x21 x22 x23 x24 x25 x26 x27 x : Int32} {t : List Int32} : bv (lvi (x0 :: x1 :: x2 :: x3 :: x4 :: x5 :: x6 :: x7 :: x8 :: x9 :: x10 :: x11 :: x12 :: x13 :: x14 :: x15 :: x16 :: x17 :: x18 :: x19 :: x20 :: x21 :: x22 :: x23 :: x24 :: x25 :: x26 :: x27 :: x :: t)) 28 = .int x := rfl
theorem big29 {x0 x1 x2 x3 x4 x5 x6 x7 x8 x9 x10 x11 x12 x13 x14 x15 x16 x17 x18 x19 x20 x21 x22 x23 x24 x25 x26 x27 x28 x : Int32} {t : List Int32} : bv (lvi (x0 :: x1 :: x2 :: x3 :: x4 :: x5 :: x6 :: x7 :: x8 :: x9 :: x10 :: x11 :: x12 :: x13 :: x14 :: x15 :: x16 :: x17 :: x18 :: x19 :: x20 :: x21 :: x22 :: x23 :: x24 :: x25 :: x26 :: x27 :: x28 :: x :: t)) 29 = .int x := rfl
theorem big30 {x0 x1 x2 x3 x4 x5 x6 x7 x8 x9 x10 x11 x12 x13 x14 x15 x16 x17 x18 x19 x20 x21 x22 x23 x24 x25 x26 x27 x28 x29 x : Int32} {t : List Int32} : bv (lvi (x0 :: x1 :: x2 :: x3 :: x4 :: x5 :: x6 :: x7 :: x8 :: x9 :: x10 :: x11 :: x12 :: x13 :: x14 :: x15 :: x16 :: x17 :: x18 :: x19 :: x20 :: x21 :: x22 :: x23 :: x24 :: x25 :: x26 :: x27 :: x28 :: x29 :: x :: t)) 30 = .int x := rfl
theorem big31 {x0 x1 x2 x3 x4 x5 x6 x7 x8 x9 x10 x11 x12 x13 x14 x15 x16 x17 x18 x19 x20 x21 x22 x23 x24 x25 x26 x27 x28 x29 x30 x : Int32} {t : List Int32} : bv (lvi (x0 :: x1 :: x2 :: x3 :: x4 :: x5 :: x6 :: x7 :: x8 :: x9 :: x10 :: x11 :: x12 :: x13 :: x14 :: x15 :: x16 :: x17 :: x18 :: x19 :: x20 :: x21 :: x22 :: x23 :: x24 :: x25 :: x26 :: x27 :: x28 :: x29 :: x30 :: x :: t)) 31 = .int x := rfl
theorem big32 {x0 x1 x2 x3 x4 x5 x6 x7 x8 x9 x10 x11 x12 x13 x14 x15 x16 x17 x18 x19 x20 x21 x22 x23 x24 x25 x26 x27 x28 x29 x30 x31 x : Int32} {t : List Int32} : bv (lvi (x0 :: x1 :: x2 :: x3 :: x4 :: x5 :: x6 :: x7 :: x8 :: x9 :: x10 :: x11 :: x12 :: x13 :: x14 :: x15 :: x16 :: x17 :: x18 :: x19 :: x20 :: x21 :: x22 :: x23 :: x24 :: x25 :: x26 :: x27 :: x28 :: x29 :: x30 :: x31 :: x :: t)) 32 = .int x := rfl
theorem big33 {x0 x1 x2 x3 x4 x5 x6 x7 x8 x9 x10 x11 x12 x13 x14 x15 x16 x17 x18 x19 x20 x21 x22 x23 x24 x25 x26 x27 x28 x29 x30 x31 x32 x : Int32} {t : List Int32} : bv (lvi (x0 :: x1 :: x2 :: x3 :: x4 :: x5 :: x6 :: x7 :: x8 :: x9 :: x10 :: x11 :: x12 :: x13 :: x14 :: x15 :: x16 :: x17 :: x18 :: x19 :: x20 :: x21 :: x22 :: x23 :: x24 :: x25 :: x26 :: x27 :: x28 :: x29 :: x30 :: x31 :: x32 :: x :: t)) 33 = .int x := rfl
theorem big34 {x0 x1 x2 x3 x4 x5 x6 x7 x8 x9 x10 x11 x12 x13 x14 x15 x16 x17 x18 x19 x20 x21 x22 x23 x24 x25 x26 x27 x28 x29 x30 x31 x32 x33 x : Int32} {t : List Int32} : bv (lvi (x0 :: x1 :: x2 :: x3 :: x4 :: x5 :: x6 :: x7 :: x8 :: x9 :: x10 :: x11 :: x12 :: x13 :: x14 :: x15 :: x16 :: x17 :: x18 :: x19 :: x20 :: x21 :: x22 :: x23 :: x24 :: x25 :: x26 :: x27 :: x28 :: x29 :: x30 :: x31 :: x32 :: x33 :: x :: t)) 34 = .int x := rfl
theorem big35 {x0 x1 x2 x3 x4 x5 x6 x7 x8 x9 x10 x11 x12 x13 x14 x15 x16 x17 x18 x19 x20 x21 x22 x23 x24 x25 x26 x27 x28 x29 x30 x31 x32 x33 x34 x : Int32} {t : List Int32} : bv (lvi (x0 :: x1 :: x2 :: x3 :: x4 :: x5 :: x6 :: x7 :: x8 :: x9 :: x10 :: x11 :: x12 :: x13 :: x14 :: x15 :: x16 :: x17 :: x18 :: x19 :: x20 :: x21 :: x22 :: x23 :: x24 :: x25 :: x26 :: x27 :: x28 :: x29 :: x30 :: x31 :: x32 :: x33 :: x34 :: x :: t)) 35 = .int x := rfl
theorem big36 {x0 x1 x2 x3 x4 x5 x6 x7 x8 x9 x10 x11 x12 x13 x14 x15 x16 x17 x18 x19 x20 x21 x22 x23 x24 x25 x26 x27 x28 x29 x30 x31 x32 x33 x34 x35 x : Int32} {t : List Int32} : bv (lvi (x0 :: x1 :: x2 :: x3 :: x4 :: x5 :: x6 :: x7 :: x8 :: x9 :: x10 :: x11 :: x12 :: x13 :: x14 :: x15 :: x16 :: x17 :: x18 :: x19 :: x20 :: x21 :: x22 :: x23 :: x24 :: x25 :: x26 :: x27 :: x28 :: x29 :: x30 :: x31 :: x32 :: x33 :: x34 :: x35 :: x :: t)) 36 = .int x := rfl
theorem big37 {x0 x1 x2 x3 x4 x5 x6 x7 x8 x9 x10 x11 x12 x13 x14 x15 x16 x17 x18 x19 x20 x21 x22 x23 x24 x25 x26 x27 x28 x29 x30 x31 x32 x33 x34 x35 x36 x : Int32} {t : List Int32} : bv (lvi (x0 :: x1 :: x2 :: x3 :: x4 :: x5 :: x6 :: x7 :: x8 :: x9 :: x10 :: x11 :: x12 :: x13 :: x14 :: x15 :: x16 :: x17 :: x18 :: x19 :: x20 :: x21 :: x22 :: x23 :: x24 :: x25 :: x26 :: x27 :: x28 :: x29 :: x30 :: x31 :: x32 :: x33 :: x34 :: x35 :: x36 :: x :: t)) 37 = .int x := rfl
theorem big38 {x0 x1 x2 x3 x4 x5 x6 x7 x8 x9 x10 x11 x12 x13 x14 x15 x16 x17 x18 x19 x20 x21 x22 x23 x24 x25 x26 x27 x28 x29 x30 x31 x32 x33 x34 x35 x36 x37 x : Int32} {t : List Int32} : bv (lvi (x0 :: x1 :: x2 :: x3 :: x4 :: x5 :: x6 :: x7 :: x8 :: x9 :: x10 :: x11 :: x12 :: x13 :: x14 :: x15 :: x16 :: x17 :: x18 :: x19 :: x20 :: x21 :: x22 :: x23 :: x24 :: x25 :: x26 :: x27 :: x28 :: x29 :: x30 :: x31 :: x32 :: x33 :: x34 :: x35 :: x36 :: x37 :: x :: t)) 38 = .int x := rfl
theorem big39 {x0 x1 x2 x3 x4 x5 x6 x7 x8 x9 x10 x11 x12 x13 x14 x15 x16 x17 x18 x19 x20 x21 x22 x23 x24 x25 x26 x27 x28 x29 x30 x31 x32 x33 x34 x35 x36 x37 x38 x : Int32} {t : List Int32} : bv (lvi (x0 :: x1 :: x2 :: x3 :: x4 :: x5 :: x6 :: x7 :: x8 :: x9 :: x10 :: x11 :: x12 :: x13 :: x14 :: x15 :: x16 :: x17 :: x18 :: x19 :: x20 :: x21 :: x22 :: x23 :: x24 :: x25 :: x26 :: x27 :: x28 :: x29 :: x30 :: x31 :: x32 :: x33 :: x34 :: x35 :: x36 :: x37 :: x38 :: x :: t)) 39 = .int x := rfl
theorem big40 {x0 x1 x2 x3 x4 x5 x6 x7 x8 x9 x10 x11 x12 x13 x14 x15 x16 x17 x18 x19 x20 x21 x22 x23 x24 x25 x26 x27 x28 x29 x30 x31 x32 x33 x34 x35 x36 x37 x38 x39 x : Int32} {t : List Int32} : bv (lvi (x0 :: x1 :: x2 :: x3 :: x4 :: x5 :: x6 :: x7 :: x8 :: x9 :: x10 :: x11 :: x12 :: x13 :: x14 :: x15 :: x16 :: x17 :: x18 :: x19 :: x20 :: x21 :: x22 :: x23 :: x24 :: x25 :: x26 :: x27 :: x28 :: x29 :: x30 :: x31 :: x32 :: x33 :: x34 :: x35 :: x36 :: x37 :: x38 :: x39 :: x :: t)) 40 = .int x := rfl
theorem big41 {x0 x1 x2 x3 x4 x5 x6 x7 x8 x9 x10 x11 x12 x13 x14 x15 x16 x17 x18 x19 x20 x21 x22 x23 x24 x25 x26 x27 x28 x29 x30 x31 x32 x33 x34 x35 x36 x37 x38 x39 x40 x : Int32} {t : List Int32} : bv (lvi (x0 :: x1 :: x2 :: x3 :: x4 :: x5 :: x6 :: x7 :: x8 :: x9 :: x10 :: x11 :: x12 :: x13 :: x14 :: x15 :: x16 :: x17 :: x18 :: x19 :: x20 :: x21 :: x22 :: x23 :: x24 :: x25 :: x26 :: x27 :: x28 :: x29 :: x30 :: x31 :: x32 :: x33 :: x34 :: x35 :: x36 :: x37 :: x38 :: x39 :: x40 :: x :: t)) 41 = .int x := rfl
theorem big42 {x0 x1 x2 x3 x4 x5 x6 x7 x8 x9 x10 x11 x12 x13 x14 x15 x16 x17 x18 x19 x20 x21 x22 x23 x24 x25 x26 x27 x28 x29 x30 x31 x32 x33 x34 x35 x36 x37 x38 x39 x40 x41 x : Int32} {t : List Int32} : bv (lvi (x0 :: x1 :: x2 :: x3 :: x4 :: x5 :: x6 :: x7 :: x8 :: x9 :: x10 :: x11 :: x12 :: x13 :: x14 :: x15 :: x16 :: x17 :: x18 :: x19 :: x20 :: x21 :: x22 :: x23 :: x24 :: x25 :: x26 :: x27 :: x28 :: x29 :: x30 :: x31 :: x32 :: x33 :: x34 :: x35 :: x36 :: x37 :: x38 :: x39 :: x40 :: x41 :: x :: t)) 42 = .int x := rfl
theorem big43 {x0 x1 x2 x3 x4 x5 x6 x7 x8 x9 x10 x11 x12 x13 x14 x15 x16 x17 x18 x19 x20 x21 x22 x23 x24 x25 x26 x27 x28 x29 x30 x31 x32 x33 x34 x35 x36 x37 x38 x39 x40 x41 x42 x : Int32} {t : List Int32} : bv (lvi (x0 :: x1 :: x2 :: x3 :: x4 :: x5 :: x6 :: x7 :: x8 :: x9 :: x10 :: x11 :: x12 :: x13 :: x14 :: x15 :: x16 :: x17 :: x18 :: x19 :: x20 :: x21 :: x22 :: x23 :: x24 :: x25 :: x26 :: x27 :: x28 :: x29 :: x30 :: x31 :: x32 :: x33 :: x34 :: x35 :: x36 :: x37 :: x38 :: x39 :: x40 :: x41 :: x42 :: x :: t)) 43 = .int x := rfl
theorem big44 {x0 x1 x2 x3 x4 x5 x6 x7 x8 x9 x10 x11 x12 x13 x14 x15 x16 x17 x18 x19 x20 x21 x22 x23 x24 x25 x26 x27 x28 x29 x30 x31 x32 x33 x34 x35 x36 x37 x38 x39 x40 x41 x42 x43 x : Int32} {t : List Int32} : bv (lvi (x0 :: x1 :: x2 :: x3 :: x4 :: x5 :: x6 :: x7 :: x8 :: x9 :: x10 :: x11 :: x12 :: x13 :: x14 :: x15 :: x16 :: x17 :: x18 :: x19 :: x20 :: x21 :: x22 :: x23 :: x24 :: x25 :: x26 :: x27 :: x28 :: x29 :: x30 :: x31 :: x32 :: x33 :: x34 :: x35 :: x36 :: x37 :: x38 :: x39 :: x40 :: x41 :: x42 :: x43 :: x :: t)) 44 = .int x := rfl
theorem big45 {x0 x1 x2 x3 x4 x5 x6 x7 x8 x9 x10 x11 x12 x13 x14 x15 x16 x17 x18 x19 x20 x21 x22 x23 x24 x25 x26 x27 x28 x29 x30 x31 x32 x33 x34 x35 x36 x37 x38 x39 x40 x41 x42 x43 x44 x : Int32} {t : List Int32} : bv (lvi (x0 :: x1 :: x2 :: x3 :: x4 :: x5 :: x6 :: x7 :: x8 :: x9 :: x10 :: x11 :: x12 :: x13 :: x14 :: x15 :: x16 :: x17 :: x18 :: x19 :: x20 :: x21 :: x22 :: x23 :: x24 :: x25 :: x26 :: x27 :: x28 :: x29 :: x30 :: x31 :: x32 :: x33 :: x34 :: x35 :: x36 :: x37 :: x38 :: x39 :: x40 :: x41 :: x42 :: x43 :: x44 :: x :: t)) 45 = .int x := rfl
theorem big46 {x0 x1 x2 x3 x4 x5 x6 x7 x8 x9 x10 x11 x12 x13 x14 x15 x16 x17 x18 x19 x20 x21 x22 x23 x24 x25 x26 x27 x28 x29 x30 x31 x32 x33 x34 x35 x36 x37 x38 x39 x40 x41 x42 x43 x44 x45 x : Int32} {t : List Int32} : bv (lvi (x0 :: x1 :: x2 :: x3 :: x4 :: x5 :: x6 :: x7 :: x8 :: x9 :: x10 :: x11 :: x12 :: x13 :: x14 :: x15 :: x16 :: x17 :: x18 :: x19 :: x20 :: x21 :: x22 :: x23 :: x24 :: x25 :: x26 :: x27 :: x28 :: x29 :: x30 :: x31 :: x32 :: x33 :: x34 :: x35 :: x36 :: x37 :: x38 :: x39 :: x40 :: x41 :: x42 :: x43 :: x44 :: x45 :: x :: t)) 46 = .int x := rfl
theorem D43_32 : Dc J43 32 (.iconst 1) 1 33 := by decide +kernel
theorem D43_33 : Dc J43 33 .ireturn 1 34 := by decide +kernel
theorem PN43 : plainFor Y43 = true := plainFor_of_name pn_StringLatin1
theorem R_43_1 {a1 a2 : Addr} (hw : HW a0 Z) (G : Gl Z w_CS w_SF w_DO w_DT w_fO w_fT) (pr1 : Ary Z h0 a1 ATB 47 (bv (lvi [83, 101, 109, 97, 112, 104, 111, 114, 101, 66, 117, 108, 107, 104, 101, 97, 100, 83, 110, 97, 112, 115, 104, 111, 116, 91, 108, 105, 109, 105, 116, 61, 48, 44, 32, 97, 118, 97, 105, 108, 97, 98, 108, 101, 61, 48, 93]))) (pr2 : Ary Z h0 a2 ("", .byte) 47 (bv (lvi [83, 101, 109, 97, 112, 104, 111, 114, 101, 66, 117, 108, 107, 104, 101, 97, 100, 83, 110, 97, 112, 115, 104, 111, 116, 91, 108, 105, 109, 105, 116, 61, 48, 44, 32, 97, 118, 97, 105, 108, 97, 98, 108, 101, 61, 48, 93]))) : Mt false [] l Y43 C43 (rmk 0 0 0 0) #[.ref a1, .ref a2] Z a0 h0 n0 (Pv h0 (.int 1)) := by
  refine Mt.go PN43 (Or.inl rfl) ef_RR_3 fun k => ?_
  replace k := k |>.aloadN D43_0 rfl rfl |>.alen pr1 D43_1 (z := 47) (by decide) |>.aloadN D43_2 rfl rfl |>.alen pr2 D43_3 (z := 47) (by decide) |>.icmpNo D43_4  |>.iconst D43_7 0 |>.istoreN D43_8 sto2 |>.iloadN D43_9 rfl |>.aloadN D43_10 rfl rfl |>.alen pr1 D43_11 (z := 47) (by decide) |>.icmpNo D43_12  |>.aloadN D43_15 rfl rfl
  replace k := k |>.iloadN D43_16 rfl |>.bald pr1 D43_17 (i := 0) (by decide) big0 |>.aloadN D43_18 rfl rfl |>.iloadN D43_19 rfl |>.bald pr2 D43_20 (i := 0) (by decide) big0 |>.icmpYes D43_21  |>.iinc D43_26 rfl (z := 1) (by decide) sto2 |>.goto D43_29 |>.iloadN D43_9 rfl |>.aloadN D43_10 rfl rfl |>.alen pr1 D43_11 (z := 47) (by decide) |>.icmpNo D43_12 
  replace k := k |>.aloadN D43_15 rfl rfl |>.iloadN D43_16 rfl |>.bald pr1 D43_17 (i := 1) (by decide) big1 |>.aloadN D43_18 rfl rfl |>.iloadN D43_19 rfl |>.bald pr2 D43_20 (i := 1) (by decide) big1 |>.icmpYes D43_21  |>.iinc D43_26 rfl (z := 2) (by decide) sto2 |>.goto D43_29 |>.iloadN D43_9 rfl |>.aloadN D43_10 rfl rfl |>.alen pr1 D43_11 (z := 47) (by decide)
  replace k := k |>.icmpNo D43_12  |>.aloadN D43_15 rfl rfl |>.iloadN D43_16 rfl |>.bald pr1 D43_17 (i := 2) (by decide) big2 |>.aloadN D43_18 rfl rfl |>.iloadN D43_19 rfl |>.bald pr2 D43_20 (i := 2) (by decide) big2 |>.icmpYes D43_21  |>.iinc D43_26 rfl (z := 3) (by decide) sto2 |>.goto D43_29 |>.iloadN D43_9 rfl |>.aloadN D43_10 rfl rfl
  replace k := k |>.alen pr1 D43_11 (z := 47) (by decide) |>.icmpNo D43_12  |>.aloadN D43_15 rfl rfl |>.iloadN D43_16 rfl |>.bald pr1 D43_17 (i := 3) (by decide) big3 |>.aloadN D43_18 rfl rfl |>.iloadN D43_19 rfl |>.bald pr2 D43_20 (i := 3) (by decide) big3 |>.icmpYes D43_21  |>.iinc D43_26 rfl (z := 4) (by decide) sto2 |>.goto D43_29 |>.iloadN D43_9 rfl
  replace k := k |>.aloadN D43_10 rfl rfl |>.alen pr1 D43_11 (z := 47) (by decide) |>.icmpNo D43_12  |>.aloadN D43_15 rfl rfl |>.iloadN D43_16 rfl |>.bald pr1 D43_17 (i := 4) (by decide) big4 |>.aloadN D43_18 rfl rfl |>.iloadN D43_19 rfl |>.bald pr2 D43_20 (i := 4) (by decide) big4 |>.icmpYes D43_21  |>.iinc D43_26 rfl (z := 5) (by decide) sto2 |>.goto D43_29
  replace k := k |>.iloadN D43_9 rfl |>.aloadN D43_10 rfl rfl |>.alen pr1 D43_11 (z := 47) (by decide) |>.icmpNo D43_12  |>.aloadN D43_15 rfl rfl |>.iloadN D43_16 rfl |>.bald pr1 D43_17 (i := 5) (by decide) big5 |>.aloadN D43_18 rfl rfl |>.iloadN D43_19 rfl |>.bald pr2 D43_20 (i := 5) (by decide) big5 |>.icmpYes D43_21  |>.iinc D43_26 rfl (z := 6) (by decide) sto2
  replace k := k |>.goto D43_29 |>.iloadN D43_9 rfl |>.aloadN D43_10 rfl rfl |>.alen pr1 D43_11 (z := 47) (by decide) |>.icmpNo D43_12  |>.aloadN D43_15 rfl rfl |>.iloadN D43_16 rfl |>.bald pr1 D43_17 (i := 6) (by decide) big6 |>.aloadN D43_18 rfl rfl |>.iloadN D43_19 rfl |>.bald pr2 D43_20 (i := 6) (by decide) big6 |>.icmpYes D43_21 
  replace k := k |>.iinc D43_26 rfl (z := 7) (by decide) sto2 |>.goto D43_29 |>.iloadN D43_9 rfl |>.aloadN D43_10 rfl rfl |>.alen pr1 D43_11 (z := 47) (by decide) |>.icmpNo D43_12  |>.aloadN D43_15 rfl rfl |>.iloadN D43_16 rfl |>.bald pr1 D43_17 (i := 7) (by decide) big7 |>.aloadN D43_18 rfl rfl |>.iloadN D43_19 rfl |>.bald pr2 D43_20 (i := 7) (by decide) big7
  replace k := k |>.icmpYes D43_21  |>.iinc D43_26 rfl (z := 8) (by decide) sto2 |>.goto D43_29 |>.iloadN D43_9 rfl |>.aloadN D43_10 rfl rfl |>.alen pr1 D43_11 (z := 47) (by decide) |>.icmpNo D43_12  |>.aloadN D43_15 rfl rfl |>.iloadN D43_16 rfl |>.bald pr1 D43_17 (i := 8) (by decide) big8 |>.aloadN D43_18 rfl rfl |>.iloadN D43_19 rfl
  replace k := k |>.bald pr2 D43_20 (i := 8) (by decide) big8 |>.icmpYes D43_21  |>.iinc D43_26 rfl (z := 9) (by decide) sto2 |>.goto D43_29 |>.iloadN D43_9 rfl |>.aloadN D43_10 rfl rfl |>.alen pr1 D43_11 (z := 47) (by decide) |>.icmpNo D43_12  |>.aloadN D43_15 rfl rfl |>.iloadN D43_16 rfl |>.bald pr1 D43_17 (i := 9) (by decide) big9 |>.aloadN D43_18 rfl rfl
  replace k := k |>.iloadN D43_19 rfl |>.bald pr2 D43_20 (i := 9) (by decide) big9 |>.icmpYes D43_21  |>.iinc D43_26 rfl (z := 10) (by decide) sto2 |>.goto D43_29 |>.iloadN D43_9 rfl |>.aloadN D43_10 rfl rfl |>.alen pr1 D43_11 (z := 47) (by decide) |>.icmpNo D43_12  |>.aloadN D43_15 rfl rfl |>.iloadN D43_16 rfl |>.bald pr1 D43_17 (i := 10) (by decide) big10
  replace k := k |>.aloadN D43_18 rfl rfl |>.iloadN D43_19 rfl |>.bald pr2 D43_20 (i := 10) (by decide) big10 |>.icmpYes D43_21  |>.iinc D43_26 rfl (z := 11) (by decide) sto2 |>.goto D43_29 |>.iloadN D43_9 rfl |>.aloadN D43_10 rfl rfl |>.alen pr1 D43_11 (z := 47) (by decide) |>.icmpNo D43_12  |>.aloadN D43_15 rfl rfl |>.iloadN D43_16 rfl
  replace k := k |>.bald pr1 D43_17 (i := 11) (by decide) big11 |>.aloadN D43_18 rfl rfl |>.iloadN D43_19 rfl |>.bald pr2 D43_20 (i := 11) (by decide) big11 |>.icmpYes D43_21  |>.iinc D43_26 rfl (z := 12) (by decide) sto2 |>.goto D43_29 |>.iloadN D43_9 rfl |>.aloadN D43_10 rfl rfl |>.alen pr1 D43_11 (z := 47) (by decide) |>.icmpNo D43_12  |>.aloadN D43_15 rfl rfl
  replace k := k |>.iloadN D43_16 rfl |>.bald pr1 D43_17 (i := 12) (by decide) big12 |>.aloadN D43_18 rfl rfl |>.iloadN D43_19 rfl |>.bald pr2 D43_20 (i := 12) (by decide) big12 |>.icmpYes D43_21  |>.iinc D43_26 rfl (z := 13) (by decide) sto2 |>.goto D43_29 |>.iloadN D43_9 rfl |>.aloadN D43_10 rfl rfl |>.alen pr1 D43_11 (z := 47) (by decide) |>.icmpNo D43_12 
  replace k := k |>.aloadN D43_15 rfl rfl |>.iloadN D43_16 rfl |>.bald pr1 D43_17 (i := 13) (by decide) big13 |>.aloadN D43_18 rfl rfl |>.iloadN D43_19 rfl |>.bald pr2 D43_20 (i := 13) (by decide) big13 |>.icmpYes D43_21  |>.iinc D43_26 rfl (z := 14) (by decide) sto2 |>.goto D43_29 |>.iloadN D43_9 rfl |>.aloadN D43_10 rfl rfl |>.alen pr1 D43_11 (z := 47) (by decide)
  replace k := k |>.icmpNo D43_12  |>.aloadN D43_15 rfl rfl |>.iloadN D43_16 rfl |>.bald pr1 D43_17 (i := 14) (by decide) big14 |>.aloadN D43_18 rfl rfl |>.iloadN D43_19 rfl |>.bald pr2 D43_20 (i := 14) (by decide) big14 |>.icmpYes D43_21  |>.iinc D43_26 rfl (z := 15) (by decide) sto2 |>.goto D43_29 |>.iloadN D43_9 rfl |>.aloadN D43_10 rfl rfl
  replace k := k |>.alen pr1 D43_11 (z := 47) (by decide) |>.icmpNo D43_12  |>.aloadN D43_15 rfl rfl |>.iloadN D43_16 rfl |>.bald pr1 D43_17 (i := 15) (by decide) big15 |>.aloadN D43_18 rfl rfl |>.iloadN D43_19 rfl |>.bald pr2 D43_20 (i := 15) (by decide) big15 |>.icmpYes D43_21  |>.iinc D43_26 rfl (z := 16) (by decide) sto2 |>.goto D43_29 |>.iloadN D43_9 rfl
  replace k := k |>.aloadN D43_10 rfl rfl |>.alen pr1 D43_11 (z := 47) (by decide) |>.icmpNo D43_12  |>.aloadN D43_15 rfl rfl |>.iloadN D43_16 rfl |>.bald pr1 D43_17 (i := 16) (by decide) big16 |>.aloadN D43_18 rfl rfl |>.iloadN D43_19 rfl |>.bald pr2 D43_20 (i := 16) (by decide) big16 |>.icmpYes D43_21  |>.iinc D43_26 rfl (z := 17) (by decide) sto2 |>.goto D43_29
  replace k := k |>.iloadN D43_9 rfl |>.aloadN D43_10 rfl rfl |>.alen pr1 D43_11 (z := 47) (by decide) |>.icmpNo D43_12  |>.aloadN D43_15 rfl rfl |>.iloadN D43_16 rfl |>.bald pr1 D43_17 (i := 17) (by decide) big17 |>.aloadN D43_18 rfl rfl |>.iloadN D43_19 rfl |>.bald pr2 D43_20 (i := 17) (by decide) big17 |>.icmpYes D43_21  |>.iinc D43_26 rfl (z := 18) (by decide) sto2
  replace k := k |>.goto D43_29 |>.iloadN D43_9 rfl |>.aloadN D43_10 rfl rfl |>.alen pr1 D43_11 (z := 47) (by decide) |>.icmpNo D43_12  |>.aloadN D43_15 rfl rfl |>.iloadN D43_16 rfl |>.bald pr1 D43_17 (i := 18) (by decide) big18 |>.aloadN D43_18 rfl rfl |>.iloadN D43_19 rfl |>.bald pr2 D43_20 (i := 18) (by decide) big18 |>.icmpYes D43_21 
  replace k := k |>.iinc D43_26 rfl (z := 19) (by decide) sto2 |>.goto D43_29 |>.iloadN D43_9 rfl |>.aloadN D43_10 rfl rfl |>.alen pr1 D43_11 (z := 47) (by decide) |>.icmpNo D43_12  |>.aloadN D43_15 rfl rfl |>.iloadN D43_16 rfl |>.bald pr1 D43_17 (i := 19) (by decide) big19 |>.aloadN D43_18 rfl rfl |>.iloadN D43_19 rfl |>.bald pr2 D43_20 (i := 19) (by decide) big19
  replace k := k |>.icmpYes D43_21  |>.iinc D43_26 rfl (z := 20) (by decide) sto2 |>.goto D43_29 |>.iloadN D43_9 rfl |>.aloadN D43_10 rfl rfl |>.alen pr1 D43_11 (z := 47) (by decide) |>.icmpNo D43_12  |>.aloadN D43_15 rfl rfl |>.iloadN D43_16 rfl |>.bald pr1 D43_17 (i := 20) (by decide) big20 |>.aloadN D43_18 rfl rfl |>.iloadN D43_19 rfl
  replace k := k |>.bald pr2 D43_20 (i := 20) (by decide) big20 |>.icmpYes D43_21  |>.iinc D43_26 rfl (z := 21) (by decide) sto2 |>.goto D43_29 |>.iloadN D43_9 rfl |>.aloadN D43_10 rfl rfl |>.alen pr1 D43_11 (z := 47) (by decide) |>.icmpNo D43_12  |>.aloadN D43_15 rfl rfl |>.iloadN D43_16 rfl |>.bald pr1 D43_17 (i := 21) (by decide) big21 |>.aloadN D43_18 rfl rfl
  replace k := k |>.iloadN D43_19 rfl |>.bald pr2 D43_20 (i := 21) (by decide) big21 |>.icmpYes D43_21  |>.iinc D43_26 rfl (z := 22) (by decide) sto2 |>.goto D43_29 |>.iloadN D43_9 rfl |>.aloadN D43_10 rfl rfl |>.alen pr1 D43_11 (z := 47) (by decide) |>.icmpNo D43_12  |>.aloadN D43_15 rfl rfl |>.iloadN D43_16 rfl |>.bald pr1 D43_17 (i := 22) (by decide) big22
  replace k := k |>.aloadN D43_18 rfl rfl |>.iloadN D43_19 rfl |>.bald pr2 D43_20 (i := 22) (by decide) big22 |>.icmpYes D43_21  |>.iinc D43_26 rfl (z := 23) (by decide) sto2 |>.goto D43_29 |>.iloadN D43_9 rfl |>.aloadN D43_10 rfl rfl |>.alen pr1 D43_11 (z := 47) (by decide) |>.icmpNo D43_12  |>.aloadN D43_15 rfl rfl |>.iloadN D43_16 rfl
  replace k := k |>.bald pr1 D43_17 (i := 23) (by decide) big23 |>.aloadN D43_18 rfl rfl |>.iloadN D43_19 rfl |>.bald pr2 D43_20 (i := 23) (by decide) big23 |>.icmpYes D43_21  |>.iinc D43_26 rfl (z := 24) (by decide) sto2 |>.goto D43_29 |>.iloadN D43_9 rfl |>.aloadN D43_10 rfl rfl |>.alen pr1 D43_11 (z := 47) (by decide) |>.icmpNo D43_12  |>.aloadN D43_15 rfl rfl
  replace k := k |>.iloadN D43_16 rfl |>.bald pr1 D43_17 (i := 24) (by decide) big24 |>.aloadN D43_18 rfl rfl |>.iloadN D43_19 rfl |>.bald pr2 D43_20 (i := 24) (by decide) big24 |>.icmpYes D43_21  |>.iinc D43_26 rfl (z := 25) (by decide) sto2 |>.goto D43_29 |>.iloadN D43_9 rfl |>.aloadN D43_10 rfl rfl |>.alen pr1 D43_11 (z := 47) (by decide) |>.icmpNo D43_12 
  replace k := k |>.aloadN D43_15 rfl rfl |>.iloadN D43_16 rfl |>.bald pr1 D43_17 (i := 25) (by decide) big25 |>.aloadN D43_18 rfl rfl |>.iloadN D43_19 rfl |>.bald pr2 D43_20 (i := 25) (by decide) big25 |>.icmpYes D43_21  |>.iinc D43_26 rfl (z := 26) (by decide) sto2 |>.goto D43_29 |>.iloadN D43_9 rfl |>.aloadN D43_10 rfl rfl |>.alen pr1 D43_11 (z := 47) (by decide)
  replace k := k |>.icmpNo D43_12  |>.aloadN D43_15 rfl rfl |>.iloadN D43_16 rfl |>.bald pr1 D43_17 (i := 26) (by decide) big26 |>.aloadN D43_18 rfl rfl |>.iloadN D43_19 rfl |>.bald pr2 D43_20 (i := 26) (by decide) big26 |>.icmpYes D43_21  |>.iinc D43_26 rfl (z := 27) (by decide) sto2 |>.goto D43_29 |>.iloadN D43_9 rfl |>.aloadN D43_10 rfl rfl
  replace k := k |>.alen pr1 D43_11 (z := 47) (by decide) |>.icmpNo D43_12  |>.aloadN D43_15 rfl rfl |>.iloadN D43_16 rfl |>.bald pr1 D43_17 (i := 27) (by decide) big27 |>.aloadN D43_18 rfl rfl |>.iloadN D43_19 rfl |>.bald pr2 D43_20 (i := 27) (by decide) big27 |>.icmpYes D43_21  |>.iinc D43_26 rfl (z := 28) (by decide) sto2 |>.goto D43_29 |>.iloadN D43_9 rfl
  replace k := k |>.aloadN D43_10 rfl rfl |>.alen pr1 D43_11 (z := 47) (by decide) |>.icmpNo D43_12  |>.aloadN D43_15 rfl rfl |>.iloadN D43_16 rfl |>.bald pr1 D43_17 (i := 28) (by decide) big28 |>.aloadN D43_18 rfl rfl |>.iloadN D43_19 rfl |>.bald pr2 D43_20 (i := 28) (by decide) big28 |>.icmpYes D43_21  |>.iinc D43_26 rfl (z := 29) (by decide) sto2 |>.goto D43_29
  replace k := k |>.iloadN D43_9 rfl |>.aloadN D43_10 rfl rfl |>.alen pr1 D43_11 (z := 47) (by decide) |>.icmpNo D43_12  |>.aloadN D43_15 rfl rfl |>.iloadN D43_16 rfl |>.bald pr1 D43_17 (i := 29) (by decide) big29 |>.aloadN D43_18 rfl rfl |>.iloadN D43_19 rfl |>.bald pr2 D43_20 (i := 29) (by decide) big29 |>.icmpYes D43_21  |>.iinc D43_26 rfl (z := 30) (by decide) sto2
  replace k := k |>.goto D43_29 |>.iloadN D43_9 rfl |>.aloadN D43_10 rfl rfl |>.alen pr1 D43_11 (z := 47) (by decide) |>.icmpNo D43_12  |>.aloadN D43_15 rfl rfl |>.iloadN D43_16 rfl |>.bald pr1 D43_17 (i := 30) (by decide) big30 |>.aloadN D43_18 rfl rfl |>.iloadN D43_19 rfl |>.bald pr2 D43_20 (i := 30) (by decide) big30 |>.icmpYes D43_21 
  replace k := k |>.iinc D43_26 rfl (z := 31) (by decide) sto2 |>.goto D43_29 |>.iloadN D43_9 rfl |>.aloadN D43_10 rfl rfl |>.alen pr1 D43_11 (z := 47) (by decide) |>.icmpNo D43_12  |>.aloadN D43_15 rfl rfl |>.iloadN D43_16 rfl |>.bald pr1 D43_17 (i := 31) (by decide) big31 |>.aloadN D43_18 rfl rfl |>.iloadN D43_19 rfl |>.bald pr2 D43_20 (i := 31) (by decide) big31
  replace k := k |>.icmpYes D43_21  |>.iinc D43_26 rfl (z := 32) (by decide) sto2 |>.goto D43_29 |>.iloadN D43_9 rfl |>.aloadN D43_10 rfl rfl |>.alen pr1 D43_11 (z := 47) (by decide) |>.icmpNo D43_12  |>.aloadN D43_15 rfl rfl |>.iloadN D43_16 rfl |>.bald pr1 D43_17 (i := 32) (by decide) big32 |>.aloadN D43_18 rfl rfl |>.iloadN D43_19 rfl
  replace k := k |>.bald pr2 D43_20 (i := 32) (by decide) big32 |>.icmpYes D43_21  |>.iinc D43_26 rfl (z := 33) (by decide) sto2 |>.goto D43_29 |>.iloadN D43_9 rfl |>.aloadN D43_10 rfl rfl |>.alen pr1 D43_11 (z := 47) (by decide) |>.icmpNo D43_12  |>.aloadN D43_15 rfl rfl |>.iloadN D43_16 rfl |>.bald pr1 D43_17 (i := 33) (by decide) big33 |>.aloadN D43_18 rfl rfl
  replace k := k |>.iloadN D43_19 rfl |>.bald pr2 D43_20 (i := 33) (by decide) big33 |>.icmpYes D43_21  |>.iinc D43_26 rfl (z := 34) (by decide) sto2 |>.goto D43_29 |>.iloadN D43_9 rfl |>.aloadN D43_10 rfl rfl |>.alen pr1 D43_11 (z := 47) (by decide) |>.icmpNo D43_12  |>.aloadN D43_15 rfl rfl |>.iloadN D43_16 rfl |>.bald pr1 D43_17 (i := 34) (by decide) big34
  replace k := k |>.aloadN D43_18 rfl rfl |>.iloadN D43_19 rfl |>.bald pr2 D43_20 (i := 34) (by decide) big34 |>.icmpYes D43_21  |>.iinc D43_26 rfl (z := 35) (by decide) sto2 |>.goto D43_29 |>.iloadN D43_9 rfl |>.aloadN D43_10 rfl rfl |>.alen pr1 D43_11 (z := 47) (by decide) |>.icmpNo D43_12  |>.aloadN D43_15 rfl rfl |>.iloadN D43_16 rfl
  replace k := k |>.bald pr1 D43_17 (i := 35) (by decide) big35 |>.aloadN D43_18 rfl rfl |>.iloadN D43_19 rfl |>.bald pr2 D43_20 (i := 35) (by decide) big35 |>.icmpYes D43_21  |>.iinc D43_26 rfl (z := 36) (by decide) sto2 |>.goto D43_29 |>.iloadN D43_9 rfl |>.aloadN D43_10 rfl rfl |>.alen pr1 D43_11 (z := 47) (by decide) |>.icmpNo D43_12  |>.aloadN D43_15 rfl rfl
  replace k := k |>.iloadN D43_16 rfl |>.bald pr1 D43_17 (i := 36) (by decide) big36 |>.aloadN D43_18 rfl rfl |>.iloadN D43_19 rfl |>.bald pr2 D43_20 (i := 36) (by decide) big36 |>.icmpYes D43_21  |>.iinc D43_26 rfl (z := 37) (by decide) sto2 |>.goto D43_29 |>.iloadN D43_9 rfl |>.aloadN D43_10 rfl rfl |>.alen pr1 D43_11 (z := 47) (by decide) |>.icmpNo D43_12 
  replace k := k |>.aloadN D43_15 rfl rfl |>.iloadN D43_16 rfl |>.bald pr1 D43_17 (i := 37) (by decide) big37 |>.aloadN D43_18 rfl rfl |>.iloadN D43_19 rfl |>.bald pr2 D43_20 (i := 37) (by decide) big37 |>.icmpYes D43_21  |>.iinc D43_26 rfl (z := 38) (by decide) sto2 |>.goto D43_29 |>.iloadN D43_9 rfl |>.aloadN D43_10 rfl rfl |>.alen pr1 D43_11 (z := 47) (by decide)
  replace k := k |>.icmpNo D43_12  |>.aloadN D43_15 rfl rfl |>.iloadN D43_16 rfl |>.bald pr1 D43_17 (i := 38) (by decide) big38 |>.aloadN D43_18 rfl rfl |>.iloadN D43_19 rfl |>.bald pr2 D43_20 (i := 38) (by decide) big38 |>.icmpYes D43_21  |>.iinc D43_26 rfl (z := 39) (by decide) sto2 |>.goto D43_29 |>.iloadN D43_9 rfl |>.aloadN D43_10 rfl rfl
  replace k := k |>.alen pr1 D43_11 (z := 47) (by decide) |>.icmpNo D43_12  |>.aloadN D43_15 rfl rfl |>.iloadN D43_16 rfl |>.bald pr1 D43_17 (i := 39) (by decide) big39 |>.aloadN D43_18 rfl rfl |>.iloadN D43_19 rfl |>.bald pr2 D43_20 (i := 39) (by decide) big39 |>.icmpYes D43_21  |>.iinc D43_26 rfl (z := 40) (by decide) sto2 |>.goto D43_29 |>.iloadN D43_9 rfl
  replace k := k |>.aloadN D43_10 rfl rfl |>.alen pr1 D43_11 (z := 47) (by decide) |>.icmpNo D43_12  |>.aloadN D43_15 rfl rfl |>.iloadN D43_16 rfl |>.bald pr1 D43_17 (i := 40) (by decide) big40 |>.aloadN D43_18 rfl rfl |>.iloadN D43_19 rfl |>.bald pr2 D43_20 (i := 40) (by decide) big40 |>.icmpYes D43_21  |>.iinc D43_26 rfl (z := 41) (by decide) sto2 |>.goto D43_29
  replace k := k |>.iloadN D43_9 rfl |>.aloadN D43_10 rfl rfl |>.alen pr1 D43_11 (z := 47) (by decide) |>.icmpNo D43_12  |>.aloadN D43_15 rfl rfl |>.iloadN D43_16 rfl |>.bald pr1 D43_17 (i := 41) (by decide) big41 |>.aloadN D43_18 rfl rfl |>.iloadN D43_19 rfl |>.bald pr2 D43_20 (i := 41) (by decide) big41 |>.icmpYes D43_21  |>.iinc D43_26 rfl (z := 42) (by decide) sto2
  replace k := k |>.goto D43_29 |>.iloadN D43_9 rfl |>.aloadN D43_10 rfl rfl |>.alen pr1 D43_11 (z := 47) (by decide) |>.icmpNo D43_12  |>.aloadN D43_15 rfl rfl |>.iloadN D43_16 rfl |>.bald pr1 D43_17 (i := 42) (by decide) big42 |>.aloadN D43_18 rfl rfl |>.iloadN D43_19 rfl |>.bald pr2 D43_20 (i := 42) (by decide) big42 |>.icmpYes D43_21 
  replace k := k |>.iinc D43_26 rfl (z := 43) (by decide) sto2 |>.goto D43_29 |>.iloadN D43_9 rfl |>.aloadN D43_10 rfl rfl |>.alen pr1 D43_11 (z := 47) (by decide) |>.icmpNo D43_12  |>.aloadN D43_15 rfl rfl |>.iloadN D43_16 rfl |>.bald pr1 D43_17 (i := 43) (by decide) big43 |>.aloadN D43_18 rfl rfl |>.iloadN D43_19 rfl |>.bald pr2 D43_20 (i := 43) (by decide) big43
  replace k := k |>.icmpYes D43_21  |>.iinc D43_26 rfl (z := 44) (by decide) sto2 |>.goto D43_29 |>.iloadN D43_9 rfl |>.aloadN D43_10 rfl rfl |>.alen pr1 D43_11 (z := 47) (by decide) |>.icmpNo D43_12  |>.aloadN D43_15 rfl rfl |>.iloadN D43_16 rfl |>.bald pr1 D43_17 (i := 44) (by decide) big44 |>.aloadN D43_18 rfl rfl |>.iloadN D43_19 rfl
  replace k := k |>.bald pr2 D43_20 (i := 44) (by decide) big44 |>.icmpYes D43_21  |>.iinc D43_26 rfl (z := 45) (by decide) sto2 |>.goto D43_29 |>.iloadN D43_9 rfl |>.aloadN D43_10 rfl rfl |>.alen pr1 D43_11 (z := 47) (by decide) |>.icmpNo D43_12  |>.aloadN D43_15 rfl rfl |>.iloadN D43_16 rfl |>.bald pr1 D43_17 (i := 45) (by decide) big45 |>.aloadN D43_18 rfl rfl
  replace k := k |>.iloadN D43_19 rfl |>.bald pr2 D43_20 (i := 45) (by decide) big45 |>.icmpYes D43_21  |>.iinc D43_26 rfl (z := 46) (by decide) sto2 |>.goto D43_29 |>.iloadN D43_9 rfl |>.aloadN D43_10 rfl rfl |>.alen pr1 D43_11 (z := 47) (by decide) |>.icmpNo D43_12  |>.aloadN D43_15 rfl rfl |>.iloadN D43_16 rfl |>.bald pr1 D43_17 (i := 46) (by decide) big46
  replace k := k |>.aloadN D43_18 rfl rfl |>.iloadN D43_19 rfl |>.bald pr2 D43_20 (i := 46) (by decide) big46 |>.icmpYes D43_21  |>.iinc D43_26 rfl (z := 47) (by decide) sto2 |>.goto D43_29 |>.iloadN D43_9 rfl |>.aloadN D43_10 rfl rfl |>.alen pr1 D43_11 (z := 47) (by decide) |>.icmpYes D43_12  |>.iconst D43_32 1
  exact k.retN (t := .boolean) D43_33 rfl (by simp) (z' := 1) (by decide) ⟨rfl, rfl⟩
abbrev w_185 (hw : HW a0 Z) := hw.at 185 rfl
abbrev w_188 (hw : HW a0 Z) := hw.at 188 rfl
theorem pd_ABAB_r_Z : parseMethodDescriptor "([B[B)Z" = some ⟨[(.array .byte), (.array .byte)], some .boolean⟩ := by decide +kernel
abbrev w_186 (hw : HW a0 Z) := hw.at 186 rfl
theorem S43 (hw : HW a0 Z) : SC Z a0 Y43 C43 3 (some .boolean) 2 := ⟨(w_186 hw), ⟨⟨_, Or.inl rfl⟩, (w_188 hw), (w_187 hw), by decide, _, _, pd_ABAB_r_Z, rfl⟩⟩
theorem D42_47 : Dj J42 47 (.ifCond .eq 7) 7 50 54 := by decide +kernel
theorem D42_50 : Dc J42 50 (.iconst 1) 1 51 := by decide +kernel
theorem D42_51 : Dj J42 51 (.goto 4) 4 54 55 := by decide +kernel
theorem D42_55 : Dc J42 55 .ireturn 1 56 := by decide +kernel
theorem PN42 : plainFor Y42 = true := plainFor_of_name pn_String
theorem R_eq {a1 a2 a3 a4 : Addr} (hw : HW a0 Z) (G : Gl Z w_CS w_SF w_DO w_DT w_fO w_fT) (O : Obj Z h0 a1 litL [.ref a2, .int 0]) (A : Ary Z h0 a2 ATB 47 (bv (lvi [83, 101, 109, 97, 112, 104, 111, 114, 101, 66, 117, 108, 107, 104, 101, 97, 100, 83, 110, 97, 112, 115, 104, 111, 116, 91, 108, 105, 109, 105, 116, 61, 48, 44, 32, 97, 118, 97, 105, 108, 97, 98, 108, 101, 61, 48, 93]))) (OZ : Obj Z h0 a3 litL [.ref a4, .int 0]) (AZ : Ary Z h0 a4 ("", .byte) 47 (bv (lvi [83, 101, 109, 97, 112, 104, 111, 114, 101, 66, 117, 108, 107, 104, 101, 97, 100, 83, 110, 97, 112, 115, 104, 111, 116, 91, 108, 105, 109, 105, 116, 61, 48, 44, 32, 97, 118, 97, 105, 108, 97, 98, 108, 101, 61, 48, 93]))) : Mt false [] l Y42 C42 (rmk 1 0 0 14) #[.ref a1, .ref a3] Z a0 h0 n0 (Pv h0 (.int 1)) := by
  refine Mt.go PN42 (Or.inl rfl) ef_RR_3 fun k => ?_
  replace k := k |>.aloadN D42_0 rfl rfl |>.aloadN D42_1 rfl rfl
  by_cases ha1 : a1 = a3
  · replace k := k |>.acmpNo D42_2 rfl rfl true (decide_eq_true (congrArg Value.ref ha1)) (by decide) |>.iconst D42_5 1
    exact k.retN (t := .boolean) D42_6 rfl (by simp) (z' := 1) (by decide) ⟨rfl, rfl⟩
  · replace k := k |>.acmpYes D42_2 rfl rfl false (decide_eq_false fun q => ha1 (Value.ref.inj q)) (by decide) |>.aloadN D42_7 rfl rfl |>.instY (w_184 hw) (Ins.self OZ.exa) D42_8 |>.ifNo D42_11  |>.aloadN D42_14 rfl rfl |>.castY (w_184 hw) (Ins.self OZ.exa) D42_15 |>.astoreN D42_18 rfl sto2 |>.getS (fl_65 hw) G.S_CS D42_19 |>.ifNo D42_22 ((if0 _ _).trans (feq G.h_CS).1) |>.aloadN D42_25 rfl rfl |>.getF (fl_66 hw) O 1 D42_26 rfl rfl |>.aloadN D42_29 rfl rfl
    replace k := k |>.getF (fl_66 hw) OZ 1 D42_30 rfl rfl |>.icmpNo D42_33  |>.aloadN D42_36 rfl rfl |>.getF (fl_59 hw) O 0 D42_37 rfl rfl |>.aloadN D42_40 rfl rfl |>.getF (fl_59 hw) OZ 0 D42_41 rfl rfl
    replace k := (k.callS (w_185 hw) (S43 hw) (R_43_1 hw G A AZ) D42_44 0 rfl).pv
    replace k := k |>.ifNo D42_47  |>.iconst D42_50 1 |>.goto D42_51
    exact k.retN (t := .boolean) D42_55 rfl (by simp) (z' := 1) (by decide) ⟨rfl, rfl⟩
abbrev Y44 : MethodName := x
abbrev C44 : Cond := .code x code maxLocals ret
theorem D44_0 : Dc code 0 (.new 7) 3 3 := ⟨at_0, rfl⟩
abbrev w_1 (hw : HW a0 Z) := hw.at 1 rfl
abbrev w_2 (hw : HW a0 Z) := hw.at 2 rfl
theorem nw_SemaphoreBulkheadSnapshot (hw : HW a0 Z) : NW Z a0 L_SemaphoreBulkheadSnapshot 2 := ⟨okL_SemaphoreBulkheadSnapshot hw, (w_1 hw), (w_2 hw)⟩
abbrev w_0 (hw : HW a0 Z) := hw.at 0 rfl
theorem D44_3 : Dc code 3 .dup 1 4 := ⟨at_3, rfl⟩
theorem D44_4 : Dc code 4 (.iconst 0) 1 5 := ⟨at_4, rfl⟩
theorem D44_5 : Dc code 5 (.iconst 0) 1 6 := ⟨at_5, rfl⟩
theorem D44_6 : Dc code 6 (.invokespecial 9) 3 9 := ⟨at_6, rfl⟩
abbrev Y45 : MethodName := ⟨"com/example/chatham/chatham/pattern/SemaphoreBulkheadSnapshot", "<init>", "(II)V"⟩
abbrev J45 := prog_39_method_1_code
abbrev C45 : Cond := .code Y45 J45 3 none
theorem D45_0 : Dc J45 0 (.aload_n 0) 1 1 := by decide +kernel
theorem D45_1 : Dc J45 1 (.invokespecial 1) 3 4 := by decide +kernel
abbrev w_6 (hw : HW a0 Z) := hw.at 6 rfl
theorem D45_4 : Dc J45 4 (.aload_n 0) 1 5 := by decide +kernel
theorem D45_5 : Dc J45 5 (.iload_n 1) 1 6 := by decide +kernel
theorem D45_6 : Dc J45 6 (.putfield 7) 3 9 := by decide +kernel
theorem pw_SemaphoreBulkheadSnapshot_i_SemaphoreBulkheadSnapshot_limit (hw : HW a0 Z) : PW Z a0 "com/example/chatham/chatham/pattern/SemaphoreBulkheadSnapshot" "<init>" L_SemaphoreBulkheadSnapshot "com/example/chatham/chatham/pattern/SemaphoreBulkheadSnapshot" "limit" "I" .int := ⟨okL_SemaphoreBulkheadSnapshot hw, Or.inr ⟨(w_10 hw), rfl, rfl⟩, ⟨_, (w_1 hw)⟩, by decide +kernel⟩
theorem D45_9 : Dc J45 9 (.aload_n 0) 1 10 := by decide +kernel
theorem D45_10 : Dc J45 10 (.iload_n 2) 1 11 := by decide +kernel
theorem D45_11 : Dc J45 11 (.putfield 13) 3 14 := by decide +kernel
theorem pw_SemaphoreBulkheadSnapshot_i_SemaphoreBulkheadSnapshot_available (hw : HW a0 Z) : PW Z a0 "com/example/chatham/chatham/pattern/SemaphoreBulkheadSnapshot" "<init>" L_SemaphoreBulkheadSnapshot "com/example/chatham/chatham/pattern/SemaphoreBulkheadSnapshot" "available" "I" .int := ⟨okL_SemaphoreBulkheadSnapshot hw, Or.inr ⟨(w_12 hw), rfl, rfl⟩, ⟨_, (w_1 hw)⟩, by decide +kernel⟩
theorem D45_14 : Dc J45 14 .return_ 1 15 := by decide +kernel
theorem PN45 : plainFor Y45 = true := plainFor_of_name pn_SemaphoreBulkheadSnapshot
theorem R_45_1 {a1 : Addr} (hw : HW a0 Z) (G : Gl Z w_CS w_SF w_DO w_DT w_fO w_fT) (pr1 : Obj Z h0 a1 L_SemaphoreBulkheadSnapshot [.int 0, .int 0]) (pr2 : n0 ≤ a1) : Mt false [] l Y45 C45 (rmk 1 0 0 12) #[.ref a1, .int 0, .int 0] Z a0 h0 n0 (K0 h0 [a1] fun h => Obj Z h a1 L_SemaphoreBulkheadSnapshot [.int 0, .int 0]) := by
  refine Mt.go PN45 (Or.inl rfl) ef_RII_3 fun k => ?_
  replace k := k |>.aloadN D45_0 rfl rfl |>.initO (w_6 hw) (w_7 hw) (w_8 hw) D45_1 0 |>.aloadN D45_4 rfl rfl |>.iloadN D45_5 rfl
  obtain ⟨h1, K1, O1, k⟩ := k.putF (fl_9 hw) (pw_SemaphoreBulkheadSnapshot_i_SemaphoreBulkheadSnapshot_limit hw) pr1 0 pr2 (Or.inl rfl) D45_6 rfl rfl rfl ls0
  replace k := k |>.aloadN D45_9 rfl rfl |>.iloadN D45_10 rfl
  obtain ⟨h2, K2, O2, k⟩ := k.putF (fl_11 hw) (pw_SemaphoreBulkheadSnapshot_i_SemaphoreBulkheadSnapshot_available hw) O1 1 pr2 (Or.inl rfl) D45_11 rfl rfl rfl ls1
  exact k.ret0 D45_14 rfl ⟨rfl, (K1.trans K2 (allS (Or.inl (List.mem_of_getElem? (i := 0) rfl)) all0)), O2⟩
abbrev w_3 (hw : HW a0 Z) := hw.at 3 rfl
abbrev w_5 (hw : HW a0 Z) := hw.at 5 rfl
abbrev w_4 (hw : HW a0 Z) := hw.at 4 rfl
theorem I45 (hw : HW a0 Z) : IC Z a0 Y45 C45 3 2 := ⟨(w_4 hw), rfl, ⟨⟨_, Or.inl rfl⟩, (w_5 hw), (w_2 hw), by decide, _, _, pd_II_r_V, rfl⟩⟩
theorem D44_9 : Dc code 9 (.astore_n 2) 1 10 := ⟨at_9, rfl⟩
theorem D44_10 : Dc code 10 (.new 7) 3 13 := ⟨at_10, rfl⟩
theorem D44_13 : Dc code 13 .dup 1 14 := ⟨at_13, rfl⟩
theorem D44_14 : Dc code 14 (.iload_n 0) 1 15 := ⟨at_14, rfl⟩
theorem D44_15 : Dc code 15 (.iload_n 1) 1 16 := ⟨at_15, rfl⟩
theorem D44_16 : Dc code 16 (.invokespecial 9) 3 19 := ⟨at_16, rfl⟩
theorem R_45_2 {a1 : Addr} {p2 p3 : Int32} (hw : HW a0 Z) (G : Gl Z w_CS w_SF w_DO w_DT w_fO w_fT) (pr1 : Obj Z h0 a1 L_SemaphoreBulkheadSnapshot [.int 0, .int 0]) (pr2 : n0 ≤ a1) : Mt false [] l Y45 C45 (rmk 1 0 0 12) #[.ref a1, .int p2, .int p3] Z a0 h0 n0 (K0 h0 [a1] fun h => Obj Z h a1 L_SemaphoreBulkheadSnapshot [.int p2, .int p3]) := by
  refine Mt.go PN45 (Or.inl rfl) ef_RII_3 fun k => ?_
  replace k := k |>.aloadN D45_0 rfl rfl |>.initO (w_6 hw) (w_7 hw) (w_8 hw) D45_1 0 |>.aloadN D45_4 rfl rfl |>.iloadN D45_5 rfl
  obtain ⟨h1, K1, O1, k⟩ := k.putF (fl_9 hw) (pw_SemaphoreBulkheadSnapshot_i_SemaphoreBulkheadSnapshot_limit hw) pr1 0 pr2 (Or.inl rfl) D45_6 rfl rfl rfl ls0
  replace k := k |>.aloadN D45_9 rfl rfl |>.iloadN D45_10 rfl
  obtain ⟨h2, K2, O2, k⟩ := k.putF (fl_11 hw) (pw_SemaphoreBulkheadSnapshot_i_SemaphoreBulkheadSnapshot_available hw) O1 1 pr2 (Or.inl rfl) D45_11 rfl rfl rfl ls1
  exact k.ret0 D45_14 rfl ⟨rfl, (K1.trans K2 (allS (Or.inl (List.mem_of_getElem? (i := 0) rfl)) all0)), O2⟩
theorem D44_19 : Dc code 19 (.astore_n 3) 1 20 := ⟨at_19, rfl⟩
theorem D44_20 : Dc code 20 (.aload_n 2) 1 21 := ⟨at_20, rfl⟩
theorem D44_21 : Dc code 21 (.invokevirtual 12) 3 24 := ⟨at_21, rfl⟩
abbrev w_17 (hw : HW a0 Z) := hw.at 17 rfl
abbrev w_16 (hw : HW a0 Z) := hw.at 16 rfl
abbrev w_15 (hw : HW a0 Z) := hw.at 15 rfl
abbrev w_14 (hw : HW a0 Z) := hw.at 14 rfl
theorem V_Y2_2_SemaphoreBulkheadSnapshot (hw : HW a0 Z) : VC Z a0 Y2 Y2 "com/example/chatham/chatham/pattern/SemaphoreBulkheadSnapshot" C2 1 (some (.object "java/lang/String")) 0 := ⟨(w_14 hw), fun s hZ => notFace_of_selects (args := #[]) (mvT hZ (w_16 hw)), (w_16 hw), (w_15 hw), by decide, rfl, ⟨⟨_, Or.inl rfl⟩, (w_17 hw), (w_2 hw), by decide, _, _, pd__r_Ljava_lang_String, rfl⟩⟩
abbrev w_13 (hw : HW a0 Z) := hw.at 13 rfl
theorem D44_24 : Dc code 24 (.astore 4) 2 26 := ⟨at_24, rfl⟩
theorem D44_26 : Dc code 26 (.aload 4) 2 28 := ⟨at_26, rfl⟩
theorem D44_28 : Dc code 28 (.ldc 16) 2 30 := ⟨at_28, rfl⟩
theorem lit_178 : (∀ c ∈ "SemaphoreBulkheadSnapshot[limit=0, available=0]".toList, c.toNat < 256) ∧ "SemaphoreBulkheadSnapshot[limit=0, available=0]".toList.map (fun c => Value.int (Jvm.Lit.byteI c.toNat.toUInt16)) = [(.int 83), (.int 101), (.int 109), (.int 97), (.int 112), (.int 104), (.int 111), (.int 114), (.int 101), (.int 66), (.int 117), (.int 108), (.int 107), (.int 104), (.int 101), (.int 97), (.int 100), (.int 83), (.int 110), (.int 97), (.int 112), (.int 115), (.int 104), (.int 111), (.int 116), (.int 91), (.int 108), (.int 105), (.int 109), (.int 105), (.int 116), (.int 61), (.int 48), (.int 44), (.int 32), (.int 97), (.int 118), (.int 97), (.int 105), (.int 108), (.int 97), (.int 98), (.int 108), (.int 101), (.int 61), (.int 48), (.int 93)] := by decide +kernel
theorem D44_30 : Dc code 30 (.invokevirtual 18) 3 33 := ⟨at_30, rfl⟩
abbrev w_183 (hw : HW a0 Z) := hw.at 183 rfl
theorem pd_Ljava_lang_Object_r_Z : parseMethodDescriptor "(Ljava/lang/Object;)Z" = some ⟨[(.object "java/lang/Object")], some .boolean⟩ := by decide +kernel
abbrev w_182 (hw : HW a0 Z) := hw.at 182 rfl
abbrev w_181 (hw : HW a0 Z) := hw.at 181 rfl
abbrev w_180 (hw : HW a0 Z) := hw.at 180 rfl
theorem V_Y42_42_String (hw : HW a0 Z) : VC Z a0 Y42 Y42 "java/lang/String" C42 3 (some .boolean) 1 := ⟨(w_180 hw), fun s hZ => notFace_of_selects (args := #[]) (mvT hZ (w_182 hw)), (w_182 hw), (w_181 hw), by decide, rfl, ⟨⟨_, Or.inl rfl⟩, (w_183 hw), (w_32 hw), by decide, _, _, pd_Ljava_lang_Object_r_Z, rfl⟩⟩
abbrev w_179 (hw : HW a0 Z) := hw.at 179 rfl
theorem D44_33 : Dj code 33 (.ifCond .ne 5) 5 36 38 := ⟨at_33, rfl, by decide, by decide⟩
theorem D44_38 : Dc code 38 (.aload_n 3) 1 39 := ⟨at_38, rfl⟩
theorem D44_39 : Dc code 39 (.invokevirtual 12) 3 42 := ⟨at_39, rfl⟩
theorem D44_42 : Dc code 42 (.astore 5) 2 44 := ⟨at_42, rfl⟩
theorem D44_44 : Dc code 44 (.iload_n 0) 1 45 := ⟨at_44, rfl⟩
theorem D44_45 : Dc code 45 (.invokestatic 24) 3 48 := ⟨at_45, rfl⟩
abbrev w_189 (hw : HW a0 Z) := hw.at 189 rfl
abbrev w_192 (hw : HW a0 Z) := hw.at 192 rfl
abbrev w_190 (hw : HW a0 Z) := hw.at 190 rfl
theorem S36 (hw : HW a0 Z) : SC Z a0 Y36 C36 3 (some .int) 1 := ⟨(w_190 hw), ⟨⟨_, Or.inl rfl⟩, (w_192 hw), (w_191 hw), by decide, _, _, pd_I_r_I, rfl⟩⟩
theorem D44_48 : Dc code 48 (.istore 6) 2 50 := ⟨at_48, rfl⟩
theorem D44_50 : Dc code 50 (.iload_n 1) 1 51 := ⟨at_50, rfl⟩
theorem D44_51 : Dc code 51 (.invokestatic 24) 3 54 := ⟨at_51, rfl⟩
theorem D44_54 : Dc code 54 (.istore 7) 2 56 := ⟨at_54, rfl⟩
theorem D44_56 : Dc code 56 (.bipush 32) 2 58 := ⟨at_56, rfl⟩
theorem D44_58 : Dc code 58 (.iload 6) 2 60 := ⟨at_58, rfl⟩
theorem D44_60 : Dc code 60 .iadd 1 61 := ⟨at_60, rfl⟩
theorem D44_61 : Dc code 61 (.bipush 12) 2 63 := ⟨at_61, rfl⟩
theorem D44_63 : Dc code 63 .iadd 1 64 := ⟨at_63, rfl⟩
theorem D44_64 : Dc code 64 (.iload 7) 2 66 := ⟨at_64, rfl⟩
theorem D44_66 : Dc code 66 .iadd 1 67 := ⟨at_66, rfl⟩
theorem D44_67 : Dc code 67 (.iconst 1) 1 68 := ⟨at_67, rfl⟩
theorem D44_68 : Dc code 68 .iadd 1 69 := ⟨at_68, rfl⟩
theorem D44_69 : Dc code 69 (.istore 8) 2 71 := ⟨at_69, rfl⟩
theorem D44_71 : Dc code 71 (.aload 5) 2 73 := ⟨at_71, rfl⟩
theorem D44_73 : Dc code 73 (.invokevirtual 30) 3 76 := ⟨at_73, rfl⟩
theorem own_d227 {p1 p2 v0 v1 v2 v3 v4 v5 : Int32} (e0 : v0 = (ssz p1)) (e1 : v1 = (32 + v0)) (e2 : v2 = (v1 + 12)) (e3 : v3 = (ssz p2)) (e4 : v4 = (v2 + v3)) (e5 : v5 = (v4 + 1)) : ¬ (v5 < 0) := by
  have : (32 : Int32).toInt = 32 := by decide
  have := rng32 p1
  have := e_ssz e0
  have := e_iaddN e1 (by omega)
  have : (12 : Int32).toInt = 12 := by decide
  have := e_iaddN e2 (by omega)
  have := rng32 p2
  have := e_ssz e3
  have := e_iaddN e4 (by omega)
  have : (1 : Int32).toInt = 1 := by decide
  have := e_iaddN e5 (by omega)
  have : (0 : Int32).toInt = 0 := by decide
  exact o_nlt (by omega)
theorem R_7_4 {a1 a2 : Addr} {p3 : Int32} {f4 : Nat → Int32} (hw : HW a0 Z) (G : Gl Z w_CS w_SF w_DO w_DT w_fO w_fT) (pr1 : Obj Z h0 a1 litL [.ref a2, .int 0]) (pr2 : Ary Z h0 a2 ATB p3.toNatClampNeg (bv f4)) (pr3 : ¬ (p3 < 0)) : Mt false [] l Y7 C7 (rmk 1 0 0 13) #[.ref a1] Z a0 h0 n0 (Pv h0 (.int (p3 >>> ((0 : Int32) &&& 31)))) := by
  refine Mt.go PN7 (Or.inl rfl) ef_R_1 fun k => ?_
  replace k := k |>.aloadN D7_0 rfl rfl |>.getF (fl_59 hw) pr1 0 D7_1 rfl rfl |>.alen pr2 D7_4 (lenS pr3) |>.aloadN D7_5 rfl rfl
  replace k := (k.callV (w_60 hw) (V_Y8_8_String hw) pr1.exa (R_8_1 hw G pr1) D7_6 1 rfl).pv
  replace k := k |>.ishr D7_9 rfl
  exact k.retI D7_10 rfl ⟨rfl, rfl⟩
abbrev w_200 (hw : HW a0 Z) := hw.at 200 rfl
theorem D44_76 : Dc code 76 (.iload 8) 2 78 := ⟨at_76, rfl⟩
theorem D44_78 : Dj code 78 (.if_icmp .eq 5) 5 81 83 := ⟨at_78, rfl, by decide, by decide⟩
theorem own_d228 {p1 p2 v0 v1 v2 v3 v4 v5 v6 : Int32} (e0 : v0 = (ssz p1)) (e1 : v1 = (32 + v0)) (e2 : v2 = (v1 + 12)) (e3 : v3 = (ssz p2)) (e4 : v4 = (v2 + v3)) (e5 : v5 = (v4 + 1)) (e6 : v6 = (v5 >>> ((0 : Int32) &&& 31))) : v6 = v5 := by
  have : (32 : Int32).toInt = 32 := by decide
  have := rng32 p1
  have := e_ssz e0
  have := e_iaddN e1 (by omega)
  have : (12 : Int32).toInt = 12 := by decide
  have := e_iaddN e2 (by omega)
  have := rng32 p2
  have := e_ssz e3
  have := e_iaddN e4 (by omega)
  have : (1 : Int32).toInt = 1 := by decide
  have := e_iaddN e5 (by omega)
  have : (0 : Int32).toInt = 0 := by decide
  have := e_ishr e6 0 1
  exact o_eq (by omega)
theorem D44_83 : Dc code 83 (.aload 5) 2 85 := ⟨at_83, rfl⟩
theorem D44_85 : Dc code 85 (.aload 4) 2 87 := ⟨at_85, rfl⟩
theorem D44_87 : Dc code 87 (.invokestatic 34) 3 90 := ⟨at_87, rfl⟩
theorem own_d229 {p1 p2 v0 v1 v2 v3 v4 v5 : Int32} (e0 : v0 = (ssz p1)) (e1 : v1 = (32 + v0)) (e2 : v2 = (v1 + 12)) (e3 : v3 = (ssz p2)) (e4 : v4 = (v2 + v3)) (e5 : v5 = (v4 + 1)) : v5 < 1000 := by
  have : (32 : Int32).toInt = 32 := by decide
  have := rng32 p1
  have := e_ssz e0
  have := e_iaddN e1 (by omega)
  have : (12 : Int32).toInt = 12 := by decide
  have := e_iaddN e2 (by omega)
  have := rng32 p2
  have := e_ssz e3
  have := e_iaddN e4 (by omega)
  have : (1 : Int32).toInt = 1 := by decide
  have := e_iaddN e5 (by omega)
  have : (1000 : Int32).toInt = 1000 := by decide
  exact o_lt (by omega)
theorem own_d230 {p1 p2 v0 v1 v2 v3 v4 v5 : Int32} (e0 : v0 = (ssz p1)) (e1 : v1 = (32 + v0)) (e2 : v2 = (v1 + 12)) (e3 : v3 = (ssz p2)) (e4 : v4 = (v2 + v3)) (e5 : v5 = (v4 + 1)) : ¬ (v5 < 32) := by
  have : (32 : Int32).toInt = 32 := by decide
  have := rng32 p1
  have := e_ssz e0
  have := e_iaddN e1 (by omega)
  have : (12 : Int32).toInt = 12 := by decide
  have := e_iaddN e2 (by omega)
  have := rng32 p2
  have := e_ssz e3
  have := e_iaddN e4 (by omega)
  have : (1 : Int32).toInt = 1 := by decide
  have := e_iaddN e5 (by omega)
  exact o_nlt (by omega)
abbrev w_201 (hw : HW a0 Z) := hw.at 201 rfl
abbrev w_203 (hw : HW a0 Z) := hw.at 203 rfl
theorem pd_Ljava_lang_StringLjava_lang_String_r_Z : parseMethodDescriptor "(Ljava/lang/String;Ljava/lang/String;)Z" = some ⟨[(.object "java/lang/String"), (.object "java/lang/String")], some .boolean⟩ := by decide +kernel
abbrev w_202 (hw : HW a0 Z) := hw.at 202 rfl
theorem S40 (hw : HW a0 Z) : SC Z a0 Y40 C40 2 (some .boolean) 2 := ⟨(w_202 hw), ⟨⟨_, Or.inl rfl⟩, (w_203 hw), (w_191 hw), by decide, _, _, pd_Ljava_lang_StringLjava_lang_String_r_Z, rfl⟩⟩
theorem D44_90 : Dc code 90 (.istore 9) 2 92 := ⟨at_90, rfl⟩
theorem sto9 {x0 x1 x2 x3 x4 x5 x6 x7 x8 x : Slot} {t : List Slot} {v : Value} (hx : okS x = true := by rfl) (hv : v.category = 1 := by rfl) : storeLocals (List.toArray (x0 :: x1 :: x2 :: x3 :: x4 :: x5 :: x6 :: x7 :: x8 :: x :: t)) 9 v = some (List.toArray (x0 :: x1 :: x2 :: x3 :: x4 :: x5 :: x6 :: x7 :: x8 :: .val v :: t)) := stoA (A := [x0, x1, x2, x3, x4, x5, x6, x7, x8]) hx hv
theorem D44_92 : Dc code 92 (.iload 9) 2 94 := ⟨at_92, rfl⟩
theorem D44_94 : Dj code 94 (.ifCond .eq 18) 18 97 112 := ⟨at_94, rfl, by decide, by decide⟩
theorem D44_97 : Dc code 97 (.aload 5) 2 99 := ⟨at_97, rfl⟩
theorem D44_99 : Dc code 99 (.bipush 32) 2 101 := ⟨at_99, rfl⟩
theorem D44_101 : Dc code 101 (.iload_n 0) 1 102 := ⟨at_101, rfl⟩
theorem D44_102 : Dc code 102 (.invokestatic 38) 3 105 := ⟨at_102, rfl⟩
theorem own_d231 {p1 p2 v0 v1 v2 v3 v4 v5 : Int32} (e0 : v0 = (ssz p1)) (e1 : v1 = (32 + v0)) (e2 : v2 = (v1 + 12)) (e3 : v3 = (ssz p2)) (e4 : v4 = (v2 + v3)) (e5 : v5 = (v4 + 1)) : ¬ (v5 < v1) := by
  have : (32 : Int32).toInt = 32 := by decide
  have := rng32 p1
  have := e_ssz e0
  have := e_iaddN e1 (by omega)
  have : (12 : Int32).toInt = 12 := by decide
  have := e_iaddN e2 (by omega)
  have := rng32 p2
  have := e_ssz e3
  have := e_iaddN e4 (by omega)
  have : (1 : Int32).toInt = 1 := by decide
  have := e_iaddN e5 (by omega)
  exact o_nlt (by omega)
abbrev w_225 (hw : HW a0 Z) := hw.at 225 rfl
abbrev w_227 (hw : HW a0 Z) := hw.at 227 rfl
theorem pd_Ljava_lang_StringII_r_Z : parseMethodDescriptor "(Ljava/lang/String;II)Z" = some ⟨[(.object "java/lang/String"), .int, .int], some .boolean⟩ := by decide +kernel
abbrev w_226 (hw : HW a0 Z) := hw.at 226 rfl
theorem S39 (hw : HW a0 Z) : SC Z a0 Y39 C39 9 (some .boolean) 3 := ⟨(w_226 hw), ⟨⟨_, Or.inl rfl⟩, (w_227 hw), (w_191 hw), by decide, _, _, pd_Ljava_lang_StringII_r_Z, rfl⟩⟩
theorem D44_105 : Dj code 105 (.ifCond .eq 7) 7 108 112 := ⟨at_105, rfl, by decide, by decide⟩
theorem D44_108 : Dc code 108 (.iconst 1) 1 109 := ⟨at_108, rfl⟩
theorem D44_109 : Dj code 109 (.goto 4) 4 112 113 := ⟨at_109, rfl, by decide, by decide⟩
theorem D44_113 : Dc code 113 (.istore 9) 2 115 := ⟨at_113, rfl⟩
theorem D44_115 : Dc code 115 (.iload 9) 2 117 := ⟨at_115, rfl⟩
theorem D44_117 : Dj code 117 (.ifCond .eq 22) 22 120 139 := ⟨at_117, rfl, by decide, by decide⟩
theorem D44_120 : Dc code 120 (.aload 5) 2 122 := ⟨at_120, rfl⟩
theorem D44_122 : Dc code 122 (.aload 4) 2 124 := ⟨at_122, rfl⟩
theorem D44_124 : Dc code 124 (.bipush 32) 2 126 := ⟨at_124, rfl⟩
theorem D44_126 : Dc code 126 (.iload 6) 2 128 := ⟨at_126, rfl⟩
theorem D44_128 : Dc code 128 .iadd 1 129 := ⟨at_128, rfl⟩
theorem D44_129 : Dc code 129 (.invokestatic 42) 3 132 := ⟨at_129, rfl⟩
theorem own_d232 {p1 v0 v1 : Int32} (e0 : v0 = (ssz p1)) (e1 : v1 = (32 + v0)) : ¬ (v1 < 0) := by
  have : (32 : Int32).toInt = 32 := by decide
  have := rng32 p1
  have := e_ssz e0
  have := e_iaddN e1 (by omega)
  have : (0 : Int32).toInt = 0 := by decide
  exact o_nlt (by omega)
theorem own_d233 {p1 v0 v1 : Int32} (e0 : v0 = (ssz p1)) (e1 : v1 = (32 + v0)) : v1 < 1000 := by
  have : (32 : Int32).toInt = 32 := by decide
  have := rng32 p1
  have := e_ssz e0
  have := e_iaddN e1 (by omega)
  have : (1000 : Int32).toInt = 1000 := by decide
  exact o_lt (by omega)
theorem own_d234 {p1 p2 v0 v1 v2 v3 v4 v5 : Int32} (e0 : v0 = (ssz p1)) (e1 : v1 = (32 + v0)) (e2 : v2 = (v1 + 12)) (e3 : v3 = (ssz p2)) (e4 : v4 = (v2 + v3)) (e5 : v5 = (v4 + 1)) : ¬ (v5 < v2) := by
  have : (32 : Int32).toInt = 32 := by decide
  have := rng32 p1
  have := e_ssz e0
  have := e_iaddN e1 (by omega)
  have : (12 : Int32).toInt = 12 := by decide
  have := e_iaddN e2 (by omega)
  have := rng32 p2
  have := e_ssz e3
  have := e_iaddN e4 (by omega)
  have : (1 : Int32).toInt = 1 := by decide
  have := e_iaddN e5 (by omega)
  exact o_nlt (by omega)
abbrev w_231 (hw : HW a0 Z) := hw.at 231 rfl
abbrev w_233 (hw : HW a0 Z) := hw.at 233 rfl
theorem pd_Ljava_lang_StringLjava_lang_StringI_r_Z : parseMethodDescriptor "(Ljava/lang/String;Ljava/lang/String;I)Z" = some ⟨[(.object "java/lang/String"), (.object "java/lang/String"), .int], some .boolean⟩ := by decide +kernel
abbrev w_232 (hw : HW a0 Z) := hw.at 232 rfl
theorem S41 (hw : HW a0 Z) : SC Z a0 Y41 C41 3 (some .boolean) 3 := ⟨(w_232 hw), ⟨⟨_, Or.inl rfl⟩, (w_233 hw), (w_191 hw), by decide, _, _, pd_Ljava_lang_StringLjava_lang_StringI_r_Z, rfl⟩⟩
theorem D44_132 : Dj code 132 (.ifCond .eq 7) 7 135 139 := ⟨at_132, rfl, by decide, by decide⟩
theorem D44_135 : Dc code 135 (.iconst 1) 1 136 := ⟨at_135, rfl⟩
theorem D44_136 : Dj code 136 (.goto 4) 4 139 140 := ⟨at_136, rfl, by decide, by decide⟩
theorem D44_140 : Dc code 140 (.istore 9) 2 142 := ⟨at_140, rfl⟩
theorem D44_142 : Dc code 142 (.iload 9) 2 144 := ⟨at_142, rfl⟩
theorem D44_144 : Dj code 144 (.ifCond .eq 24) 24 147 168 := ⟨at_144, rfl, by decide, by decide⟩
theorem D44_147 : Dc code 147 (.aload 5) 2 149 := ⟨at_147, rfl⟩
theorem D44_149 : Dc code 149 (.bipush 32) 2 151 := ⟨at_149, rfl⟩
theorem D44_151 : Dc code 151 (.iload 6) 2 153 := ⟨at_151, rfl⟩
theorem D44_153 : Dc code 153 .iadd 1 154 := ⟨at_153, rfl⟩
theorem D44_154 : Dc code 154 (.bipush 12) 2 156 := ⟨at_154, rfl⟩
theorem D44_156 : Dc code 156 .iadd 1 157 := ⟨at_156, rfl⟩
theorem D44_157 : Dc code 157 (.iload_n 1) 1 158 := ⟨at_157, rfl⟩
theorem D44_158 : Dc code 158 (.invokestatic 38) 3 161 := ⟨at_158, rfl⟩
theorem own_d235 {p1 v0 v1 v2 : Int32} (e0 : v0 = (ssz p1)) (e1 : v1 = (32 + v0)) (e2 : v2 = (v1 + 12)) : ¬ (v2 < 0) := by
  have : (32 : Int32).toInt = 32 := by decide
  have := rng32 p1
  have := e_ssz e0
  have := e_iaddN e1 (by omega)
  have : (12 : Int32).toInt = 12 := by decide
  have := e_iaddN e2 (by omega)
  have : (0 : Int32).toInt = 0 := by decide
  exact o_nlt (by omega)
theorem own_d236 {p1 v0 v1 v2 : Int32} (e0 : v0 = (ssz p1)) (e1 : v1 = (32 + v0)) (e2 : v2 = (v1 + 12)) : v2 < 1000 := by
  have : (32 : Int32).toInt = 32 := by decide
  have := rng32 p1
  have := e_ssz e0
  have := e_iaddN e1 (by omega)
  have : (12 : Int32).toInt = 12 := by decide
  have := e_iaddN e2 (by omega)
  have : (1000 : Int32).toInt = 1000 := by decide
  exact o_lt (by omega)
theorem own_d237 {p1 p2 v0 v1 v2 v3 v4 v5 : Int32} (e0 : v0 = (ssz p1)) (e1 : v1 = (32 + v0)) (e2 : v2 = (v1 + 12)) (e3 : v3 = (ssz p2)) (e4 : v4 = (v2 + v3)) (e5 : v5 = (v4 + 1)) : ¬ (v5 < v4) := by
  have : (32 : Int32).toInt = 32 := by decide
  have := rng32 p1
  have := e_ssz e0
  have := e_iaddN e1 (by omega)
  have : (12 : Int32).toInt = 12 := by decide
  have := e_iaddN e2 (by omega)
  have := rng32 p2
  have := e_ssz e3
  have := e_iaddN e4 (by omega)
  have : (1 : Int32).toInt = 1 := by decide
  have := e_iaddN e5 (by omega)
  exact o_nlt (by omega)
theorem D44_161 : Dj code 161 (.ifCond .eq 7) 7 164 168 := ⟨at_161, rfl, by decide, by decide⟩
theorem D44_164 : Dc code 164 (.iconst 1) 1 165 := ⟨at_164, rfl⟩
theorem D44_165 : Dj code 165 (.goto 4) 4 168 169 := ⟨at_165, rfl, by decide, by decide⟩
theorem D44_169 : Dc code 169 (.istore 9) 2 171 := ⟨at_169, rfl⟩
theorem D44_171 : Dc code 171 (.iload 9) 2 173 := ⟨at_171, rfl⟩
theorem D44_173 : Dj code 173 (.ifCond .eq 26) 26 176 199 := ⟨at_173, rfl, by decide, by decide⟩
theorem D44_176 : Dc code 176 (.aload 5) 2 178 := ⟨at_176, rfl⟩
theorem D44_178 : Dc code 178 (.iload 8) 2 180 := ⟨at_178, rfl⟩
theorem D44_180 : Dc code 180 (.iconst 1) 1 181 := ⟨at_180, rfl⟩
theorem D44_181 : Dc code 181 .isub 1 182 := ⟨at_181, rfl⟩
theorem D44_182 : Dc code 182 (.invokevirtual 46) 3 185 := ⟨at_182, rfl⟩
theorem own_d238 {p1 p2 v0 v1 v2 v3 v4 v5 v6 : Int32} (e0 : v0 = (ssz p1)) (e1 : v1 = (32 + v0)) (e2 : v2 = (v1 + 12)) (e3 : v3 = (ssz p2)) (e4 : v4 = (v2 + v3)) (e5 : v5 = (v4 + 1)) (e6 : v6 = (v5 - 1)) : ¬ (v6 < 0) := by
  have : (32 : Int32).toInt = 32 := by decide
  have := rng32 p1
  have := e_ssz e0
  have := e_iaddN e1 (by omega)
  have : (12 : Int32).toInt = 12 := by decide
  have := e_iaddN e2 (by omega)
  have := rng32 p2
  have := e_ssz e3
  have := e_iaddN e4 (by omega)
  have : (1 : Int32).toInt = 1 := by decide
  have := e_iaddN e5 (by omega)
  have := e_isubN e6 (by omega)
  have : (0 : Int32).toInt = 0 := by decide
  exact o_nlt (by omega)
theorem own_d239 {p1 p2 v0 v1 v2 v3 v4 v5 v6 : Int32} (e0 : v0 = (ssz p1)) (e1 : v1 = (32 + v0)) (e2 : v2 = (v1 + 12)) (e3 : v3 = (ssz p2)) (e4 : v4 = (v2 + v3)) (e5 : v5 = (v4 + 1)) (e6 : v6 = (v5 - 1)) : v6 < v5 := by
  have : (32 : Int32).toInt = 32 := by decide
  have := rng32 p1
  have := e_ssz e0
  have := e_iaddN e1 (by omega)
  have : (12 : Int32).toInt = 12 := by decide
  have := e_iaddN e2 (by omega)
  have := rng32 p2
  have := e_ssz e3
  have := e_iaddN e4 (by omega)
  have : (1 : Int32).toInt = 1 := by decide
  have := e_iaddN e5 (by omega)
  have := e_isubN e6 (by omega)
  exact o_lt (by omega)
theorem D44_185 : Dc code 185 (.aload 4) 2 187 := ⟨at_185, rfl⟩
theorem D44_187 : Dc code 187 (.bipush 46) 2 189 := ⟨at_187, rfl⟩
theorem D44_189 : Dc code 189 (.invokevirtual 46) 3 192 := ⟨at_189, rfl⟩
theorem D44_192 : Dj code 192 (.if_icmp .ne 7) 7 195 199 := ⟨at_192, rfl, by decide, by decide⟩
theorem D44_195 : Dc code 195 (.iconst 1) 1 196 := ⟨at_195, rfl⟩
theorem D44_196 : Dj code 196 (.goto 4) 4 199 200 := ⟨at_196, rfl, by decide, by decide⟩
theorem D44_200 : Dc code 200 (.istore 9) 2 202 := ⟨at_200, rfl⟩
theorem D44_202 : Dc code 202 (.iload 9) 2 204 := ⟨at_202, rfl⟩
theorem D44_204 : Dc code 204 .ireturn 1 205 := ⟨at_204, rfl⟩
theorem PN44 : plainFor Y44 = true := plainFor_of_name pn_SemaphoreBulkheadSnapshotToStringPinLaw
theorem ef_II_maxLocals {x0 : Int32} {x1 : Int32}  (m : MethodId) : entryFrame m #[(.int x0), (.int x1)] maxLocals = mkF m 0 #[.val (.int x0), .val (.int x1), .unset, .unset, .unset, .unset, .unset, .unset, .unset, .unset] [] := by
  first | (simp [entryFrame, mkF, argsToLocals, Value.category, maxLocals]; done) | rfl
theorem R_law {p1 p2 : Int32} (hw : HW a0 Z) (G : Gl Z w_CS w_SF w_DO w_DT w_fO w_fT) : Mt true consts_1 l Y44 C44 room_1 #[.int p1, .int p2] Z a0 h0 n0 (fun v _ => v = some (.int 1)) := by
  refine Mt.go PN44 (Or.inl rfl) ef_II_maxLocals fun k => ?_
  have nz := k.n0le
  have cv2 := k.chv
  have z1 := k.sz
  obtain ⟨b1, h1, g1, K1, O1, k⟩ := k.new (L := L_SemaphoreBulkheadSnapshot) (w_0 hw) (nw_SemaphoreBulkheadSnapshot hw) D44_0 (by decide) dvL_SemaphoreBulkheadSnapshot
  replace k := k |>.dup D44_3 rfl |>.iconst D44_4 0 |>.iconst D44_5 0
  have s_b1 := Nat.le_trans z1 g1
  have n_b1 := Nat.le_trans nz s_b1
  have sf4 := (Safe.new g1).keep K1 all0 cv2
  obtain ⟨h3, K3, f3_0, k⟩ := (k.callI (w_3 hw) (I45 hw) (R_45_1 hw G O1 n_b1) D44_6 1 rfl).k0 (allS n_b1 all0) (Or.inr (allS sf4 all0))
  replace k := k |>.astoreN D44_9 rfl sto2
  have cv7 := k.chv
  have z6 := k.sz
  obtain ⟨b6, h6, g6, K6, O6, k⟩ := k.new (L := L_SemaphoreBulkheadSnapshot) (w_0 hw) (nw_SemaphoreBulkheadSnapshot hw) D44_10 (by decide) dvL_SemaphoreBulkheadSnapshot
  replace k := k |>.dup D44_13 rfl |>.iloadN D44_14 rfl |>.iloadN D44_15 rfl
  have s_b6 := Nat.le_trans z6 g6
  have n_b6 := Nat.le_trans nz s_b6
  have sf9 := (Safe.new g6).keep K6 all0 cv7
  obtain ⟨h8, K8, f8_0, k⟩ := (k.callI (w_3 hw) (I45 hw) (R_45_2 hw G O6 n_b6) D44_16 1 rfl).k0 (allS n_b6 all0) (Or.inr (allS sf9 all0))
  replace k := k |>.astoreN D44_19 rfl sto3 |>.aloadN D44_20 rfl rfl
  have o11 := (f3_0.keep K6 nin0).keep K8 (ninS (nlt f3_0.lt g6) nin0)
  obtain ⟨_, vm12, h12, K12, R12, ⟨u12, w12, f12, rfl, O12, A12, SZ⟩, k⟩ := (k.callVW (w_13 hw) (V_Y2_2_SemaphoreBulkheadSnapshot hw) o11.exa (R_ts hw G o11 (p1 := 0) (p2 := 0)) D44_21 0 rfl).kv all0
  replace A12 : Ary Z h12 w12 ATB 47 (bv (lvi [83, 101, 109, 97, 112, 104, 111, 114, 101, 66, 117, 108, 107, 104, 101, 97, 100, 83, 110, 97, 112, 115, 104, 111, 116, 91, 108, 105, 109, 105, 116, 61, 48, 44, 32, 97, 118, 97, 105, 108, 97, 98, 108, 101, 61, 48, 93])) := Ary.norm (A12.len (by rw [ssz0]; decide)) (zero_norm SZ)
  replace k := k |>.astore D44_24 rfl sto4 |>.aload D44_26 rfl rfl
  obtain ⟨a13x, b13x, vm13, h13, K13, R13, O13, A13, N13, k⟩ := k.ldcS (w_178 hw) (strAt hw) (List.mem_of_getElem? (i := 3) rfl) lit_178 rfl D44_28
  replace A13 : Ary Z h13 b13x ("", .byte) 47 (bv (lvi [83, 101, 109, 97, 112, 104, 111, 114, 101, 66, 117, 108, 107, 104, 101, 97, 100, 83, 110, 97, 112, 115, 104, 111, 116, 91, 108, 105, 109, 105, 116, 61, 48, 44, 32, 97, 118, 97, 105, 108, 97, 98, 108, 101, 61, 48, 93])) := Ary.norm A13 (lv_bi rfl rfl)
  have o14 := O12.keep K13 nin0
  have o15 := A12.keep K13 nin0
  replace k := (k.callV (w_179 hw) (V_Y42_42_String hw) o14.exa (R_eq hw G o14 o15 O13 A13) D44_30 0 rfl).pv
  replace k := k |>.ifYes D44_33  |>.aloadN D44_38 rfl rfl
  have o16 := (f8_0.keep K12 nin0).keep K13 nin0
  obtain ⟨_, vm17, h17, K17, R17, ⟨u17, w17, f17, rfl, O17, A17, SN⟩, k⟩ := (k.callVW (w_13 hw) (V_Y2_2_SemaphoreBulkheadSnapshot hw) o16.exa (R_ts hw G o16) D44_39 0 rfl).kv all0
  replace k := k |>.astore D44_42 rfl sto5 |>.iloadN D44_44 rfl
  replace k := (k.callS (w_189 hw) (S36 hw) (R_dl hw G (p1 := p1)) D44_45 0 rfl).pv
  replace k := k |>.istore D44_48 sto6 |>.iloadN D44_50 rfl
  replace k := (k.callS (w_189 hw) (S36 hw) (R_dl hw G (p1 := p2)) D44_51 0 rfl).pv
  replace k := k |>.istore D44_54 sto7 |>.bipush D44_56 32 |>.iload D44_58 rfl |>.iadd D44_60 rfl |>.bipush D44_61 12 |>.iadd D44_63 rfl |>.iload D44_64 rfl |>.iadd D44_66 rfl |>.iconst D44_67 1 |>.iadd D44_68 rfl |>.istore D44_69 sto8 |>.aload D44_71 rfl rfl
  replace k := (k.callV (w_200 hw) (V_Y7_7_String hw) O17.exa (R_7_4 hw G O17 A17 (own_d227 rfl rfl rfl rfl rfl rfl )) D44_73 0 rfl).pv
  replace k := k |>.iload D44_76 rfl |>.icmpYes D44_78 (teq (own_d228 rfl rfl rfl rfl rfl rfl rfl )).1 |>.aload D44_83 rfl rfl |>.aload D44_85 rfl rfl
  have o19 := o14.keep K17 nin0
  have o20 := o15.keep K17 nin0
  replace k := (k.callS (w_201 hw) (S40 hw) (R_pr hw G O17 A17 o19 o20 (own_d229 rfl rfl rfl rfl rfl rfl ) (own_d230 rfl rfl rfl rfl rfl rfl ) SN.1) D44_87 0 rfl).pv
  replace k := k |>.istore D44_90 sto9 |>.iload D44_92 rfl |>.ifNo D44_94  |>.aload D44_97 rfl rfl |>.bipush D44_99 32 |>.iloadN D44_101 rfl
  replace k := (k.callS (w_225 hw) (S39 hw) (R_no hw G O17 A17 (by decide) (by decide) (own_d229 rfl rfl rfl rfl rfl rfl ) (own_d231 rfl rfl rfl rfl rfl rfl ) SN.2.1 (p2 := 32)) D44_102 0 rfl).pv
  replace k := k |>.ifNo D44_105  |>.iconst D44_108 1 |>.goto D44_109 |>.istore D44_113 sto9 |>.iload D44_115 rfl |>.ifNo D44_117  |>.aload D44_120 rfl rfl |>.aload D44_122 rfl rfl |>.bipush D44_124 32 |>.iload D44_126 rfl |>.iadd D44_128 rfl
  replace k := (k.callS (w_231 hw) (S41 hw) (R_mi hw G O17 A17 o19 o20 (own_d232 rfl rfl ) (own_d233 rfl rfl ) (own_d229 rfl rfl rfl rfl rfl rfl ) (own_d234 rfl rfl rfl rfl rfl rfl ) (SN.mid rfl)) D44_129 0 rfl).pv
  replace k := k |>.ifNo D44_132  |>.iconst D44_135 1 |>.goto D44_136 |>.istore D44_140 sto9 |>.iload D44_142 rfl |>.ifNo D44_144  |>.aload D44_147 rfl rfl |>.bipush D44_149 32 |>.iload D44_151 rfl |>.iadd D44_153 rfl |>.bipush D44_154 12 |>.iadd D44_156 rfl
  replace k := k |>.iloadN D44_157 rfl
  replace k := (k.callS (w_225 hw) (S39 hw) (R_no hw G O17 A17 (own_d235 rfl rfl rfl ) (own_d236 rfl rfl rfl ) (own_d229 rfl rfl rfl rfl rfl rfl ) (own_d237 rfl rfl rfl rfl rfl rfl ) (SN.n2 rfl rfl)) D44_158 0 rfl).pv
  replace k := k |>.ifNo D44_161  |>.iconst D44_164 1 |>.goto D44_165 |>.istore D44_169 sto9 |>.iload D44_171 rfl |>.ifNo D44_173  |>.aload D44_176 rfl rfl |>.iload D44_178 rfl |>.iconst D44_180 1 |>.isub D44_181 rfl
  replace k := (k.callV (w_204 hw) (V_Y30_30_String hw) O17.exa (R_chr hw G O17 A17 (own_d238 rfl rfl rfl rfl rfl rfl rfl ) (own_d239 rfl rfl rfl rfl rfl rfl rfl ) (own_d229 rfl rfl rfl rfl rfl rfl )) D44_182 0 rfl).pv
  replace k := k |>.top (y := 93) (SN.last rfl rfl rfl rfl rfl) |>.aload D44_185 rfl rfl |>.bipush D44_187 46
  replace k := (k.callV (w_204 hw) (V_Y30_30_String hw) o19.exa (R_chr hw G o19 o20 (by decide) (by decide) (by decide) (p1 := 46) (vN := 47)) D44_189 1 rfl).pv
  replace k := k |>.top (y := 93) (by decide) |>.icmpNo D44_192  |>.iconst D44_195 1 |>.goto D44_196 |>.istore D44_200 sto9 |>.iload D44_202 rfl
  exact k.retN (t := .boolean) D44_204 rfl (by simp) (z' := 1) (by decide) rfl
/-! Integer's DigitOnes, DigitTens: out of the named words -/
theorem lenOwn {args : Array Value} {s : State} {t : Term} {w : Addr} {cl : Cell} {z : Int32} (ev : t.eval args s none [] s = some (.ref w)) (ha : s.arrayAt? w = some cl) (hl : (Jvm.Term.length t).eval args s none [] s = some (.int z)) : cl.slots.size < 2 ^ 31 ∧ cl.slots.size.toInt32 = z := by
  simp [Term.eval, ev, ha] at hl
  exact hl
theorem tblOwn {a : Array Value} {s : State} {name : String} {F : Term} {g : Nat → Int32} (h1 : (Cond.initializedFor "java/lang/Integer" name "[B").before a s = true) (h2 : (Cond.exactly (.static "java/lang/Integer" name "[B") "[B").before a s = true) (h3 : (Cond.eq (.length (.static "java/lang/Integer" name "[B")) (.int 100)).before a s = true) (h4 : (Cond.all (.static "java/lang/Integer" name "[B") (.eq (.elem (.static "java/lang/Integer" name "[B") (.index 0)) F)).before a s = true) (harr : (Cond.arrayClass .byte).before a s = true)
    (hF : ∀ i, i < 100 → F.eval a s none [i] s = some (.int (g i))) (hg : ∀ i, i < 100 → fits .byte (.int (g i)) = true) : ∃ w, Sta s s.heap "java/lang/Integer" name "[B" (.ref w) ∧ Ary s s.heap w ("[B", .byte) 100 (bv g) := by
  obtain ⟨w, ev⟩ := exa_v (Cond.before_iff.mp h2)
  have S := Sta.start ev (Or.inl h1)
  have E := Exa.start ev (Cond.before_iff.mp h2)
  have evAll : ∀ idx, (Term.static "java/lang/Integer" name "[B").eval a s none idx s = some (.ref w) := fun idx => by
    have : (Term.static "java/lang/Integer" name "[B").eval a s none idx s = (Term.static "java/lang/Integer" name "[B").eval a s none [] s := by simp only [Term.eval]
    rw [this]; exact ev
  have hl := eqv_i (Term.int_eval 100) (Cond.before_iff.mp h3)
  obtain ⟨w', cl, ev', ha, hlen⟩ := Term.length_spec hl
  cases ev.symm.trans ev'
  have hsz := lenOwn ev ha hl
  have h100 : cl.slots.size = 100 := by
    have := congrArg Int32.toInt hsz.2
    rw [show cl.slots.size.toInt32 = Int32.ofNat cl.slots.size from rfl, Int32.toInt_ofNat_small hsz.1] at this
    have z : (100 : Int32).toInt = 100 := rfl
    omega
  obtain ⟨hc, hu, -, -⟩ := State.arrayAt?_spec ha
  obtain ⟨cB, kB, comp, hnB, hkB, hkind⟩ := Cond.arrayClass_spec harr
  obtain ⟨cell, k, e1, e2, e3, e4, e5⟩ := id E
  cases e1.symm.trans hc
  rw [show ("[" ++ FieldType.toString .byte) = "[B" by decide] at hnB
  cases e2.symm.trans hnB
  refine ⟨w, S, Or.inr E, cl, ⟨hc, ⟨(fun q h => by rw [h] at e4; cases e4), kB, hkB, comp, hkind⟩, hu⟩, OvT.of_prim rfl, h100, by decide, fun i hi => ?_, hg⟩
  have q := eqv_i (hF i hi) (Cond.all_elim (evAll []) ha (Cond.before_iff.mp h4) i (by omega))
  have hn : ¬ (i.toInt32 < 0) := Int32.ofNat_not_neg (show i < 2 ^ 31 by omega)
  rw [elem_f (j := i.toInt32) (evAll _) rfl ha hn] at q
  rw [show i.toInt32.toNatClampNeg = i by show i.toInt32.toInt.toNat = i; rw [Int32.toInt_ofNat_small (by omega)]; rfl] at q
  exact q
def dO (i : Nat) : Int32 := Int32.ofNat (48 + i % 10)
def dT (i : Nat) : Int32 := Int32.ofNat (48 + i / 10)
theorem dO_f (i : Nat) (h : i < 100) : fits .byte (.int (dO i)) = true := (show ∀ i, i < 100 → fits .byte (.int (dO i)) = true by decide +kernel) i h
theorem dT_f (i : Nat) (h : i < 100) : fits .byte (.int (dT i)) = true := (show ∀ i, i < 100 → fits .byte (.int (dT i)) = true by decide +kernel) i h
theorem dO_e {a : Array Value} {s : State} (i : Nat) (h : i < 100) : (Term.add (Term.int 48) (Term.rem (Term.index 0) (Term.int 10))).eval a s none [i] s = some (.int (dO i)) := by
  have q : 48 + Int32.ofNat i % 10 = dO i := (show ∀ i, i < 100 → 48 + Int32.ofNat i % 10 = dO i by decide +kernel) i h
  rw [← q]
  simp [Term.eval]
theorem dT_e {a : Array Value} {s : State} (i : Nat) (h : i < 100) : (Term.add (Term.int 48) (Term.div (Term.index 0) (Term.int 10))).eval a s none [i] s = some (.int (dT i)) := by
  have q : 48 + Int32.ofNat i / 10 = dT i := (show ∀ i, i < 100 → 48 + Int32.ofNat i / 10 = dT i by decide +kernel) i h
  rw [← q]
  simp [Term.eval]

theorem comes_1 {Post : Tables → Env → Array Value → State → Outcome → State → Prop} (hpost : ∀ tb e args s v u, (limb_1_1.after args s (.returned v) u = true ∧ limb_1_2.after args s (.returned v) u = true ∧ True) → ReturnedEndW s (.returned v) u (Jvm.fieldLocs frame_1_writes args s ++ Jvm.arrayLocs frame_1_arrays args s ++ Jvm.staticLocs frame_1_statics s) 48 4928 → Post tb e args s (.returned v) u) :
    ArmFor flags0 classFile x code maxLocals ret World_1 tables_1 room_1 Calls_1 rest_1 Pre_1 Post := by
  intro l hfl _ _ p e ha hc hk s m args below hf hA hF happ hP
  obtain ⟨hcalls, hrest, hpre⟩ := hP
  obtain ⟨-, -, -, hnamed, -, -, -, hat⟩ := (Spec.applies_iff hf).mp happ
  obtain ⟨hg, hn⟩ := and_e (Cond.before_iff.mp (show (Jvm.Cond.and given_1 narrow_1).before args s = true from hpre))
  obtain ⟨g0, gr0⟩ := and_e hg
  obtain ⟨ga0, gr1⟩ := and_e gr0
  have ga1 := gr1
  obtain ⟨w0, w1, rfl⟩ : ∃ w0 w1 : Value, args = #[w0, w1] := by
    have hs : args.size = 2 := by simpa [Cond.value, given_1] using g0
    obtain ⟨L⟩ := args
    match L, hs with
    | [w0, w1], _ => exact ⟨w0, w1, rfl⟩
  have hw : HW _ s := fun d (hd : d ∈ tables_1) => atoms_spec (ws := Jvm.Cond.code x code maxLocals ret :: tables_1) hat d (List.mem_cons_of_mem _ hd)
  obtain ⟨hsets, hown0⟩ := atoms_of _ (rest_1_c_eq ▸ (show rest_1_c.before _ s = true from hrest))
  have hr0 := Cond.before_iff.mp hown0
  obtain ⟨i0, ei0⟩ := is_v ga0
  obtain rfl : w0 = (.int i0) := Option.some.inj ei0
  obtain ⟨i1, ei1⟩ := is_v ga1
  obtain rfl : w1 = (.int i1) := Option.some.inj ei1
  obtain ⟨cs, ec⟩ := is_v (Cond.before_iff.mp (hsets _ (List.mem_of_getElem? (i := 1) rfl)))
  have S_CS := Sta.start ec (Or.inl (hsets _ (List.mem_of_getElem? (i := 0) rfl)))
  have w_cs := (hsets _ (List.mem_of_getElem? (i := 2) rfl))
  have h_CS : ¬ (cs = 0) := fun q => by
    have z := Cond.before_iff.mp w_cs
    subst q
    simp [Cond.value, ec, Term.int_eval] at z
  obtain ⟨sf, es, r_SF⟩ := isR_v (Cond.before_iff.mp (hsets _ (List.mem_of_getElem? (i := 8) rfl)))
  have S_SF := Sta.start es (Or.inl (hsets _ (List.mem_of_getElem? (i := 7) rfl)))
  have hchv : CHv s consts_1 s.vm s.heap := CHv.start (a0 := #[.int i0, .int i1]) (ewC hw) hcalls.1 (Cond.before_iff.mpr (Cond.before_iff.mp w_cs)) (w_33 hw) (w_39 hw)
  obtain ⟨wDO, S_DO, A_DO⟩ := tblOwn (hsets _ (List.mem_of_getElem? (i := 11) rfl)) (hsets _ (List.mem_of_getElem? (i := 12) rfl)) (hsets _ (List.mem_of_getElem? (i := 13) rfl)) (hsets _ (List.mem_of_getElem? (i := 14) rfl)) (w_33 hw) dO_e dO_f
  obtain ⟨wDT, S_DT, A_DT⟩ := tblOwn (hsets _ (List.mem_of_getElem? (i := 16) rfl)) (hsets _ (List.mem_of_getElem? (i := 17) rfl)) (hsets _ (List.mem_of_getElem? (i := 18) rfl)) (hsets _ (List.mem_of_getElem? (i := 19) rfl)) (w_33 hw) dT_e dT_f
  have G : Gl s cs sf wDO wDT dO dT := ⟨S_CS, S_SF, S_DO, S_DT, r_SF, h_CS, A_DO, A_DT, fun _ _ => rfl, fun _ _ => rfl⟩
  obtain ⟨n, o, h1, h2, h3, _, L, rfl, ⟨N, rfl⟩, hq⟩ := (R_law hw G) (Old.start s) (fun _ => ewC hw) tables_1 p e ha hc hk s m _ below hf ((Spec.applies_iff_loose hf).mp happ).1 ⟨rfl, State.Warmed39.refl s, rfl, fun _ => hchv⟩ trivial
  obtain ⟨-, -, hq⟩ := hq.resolve_left (fun q => nomatch q.1)
  refine ⟨n, _, h1, h2, h3, hpost _ _ _ _ _ _ ⟨Cond.after_iff.mpr rfl, Cond.after_iff.mpr (eq_i res_at (Term.int_eval (1)) rfl), trivial⟩ ⟨hq.1, hq.2.1, hq.2.2.1, (hq.2.2.2.sift fun y hy => Or.inr (N y hy)).mono (by decide) (by decide)⟩⟩
theorem main_1_1 : Claimed_1_1 := comes_1 fun _ _ _ _ _ _ h hF => ⟨h.1, hF⟩
theorem main_1_2 : Claimed_1_2 := comes_1 fun _ _ _ _ _ _ h hF => ⟨h.2.1, hF⟩
end Jvm.Pilot.@@N@@
namespace Jvm.Pilot.@@N@@
open Jvm Jvm.ClassFile Sem Op Lib Jvm.Free Jvm.Stand Jvm.Pilot.@@N@@.Jvm.D
/-! MADE BY PROGRAM (witnessworld.py) out of the Statement's table words and the real class files: 25 classes; the members and pool entries that the words name. The judged class is class 1, her method 1. -/
namespace start1
open Jvm.ClassFile
def u (s : String) : CpInfo := .utf8 (stringToUtf16 s)
/-- a pool by its gaps: so many unusable entries, then the entry; so many at the end -/
def gap : Nat → List CpInfo → List CpInfo
  | 0, r => r
  | n + 1, r => .unusable :: gap n r
def poolList (es : List (Nat × CpInfo)) (last : Nat) : List CpInfo := es.foldr (fun e r => gap e.1 (e.2 :: r)) (gap last [])
def pool (es : List (Nat × CpInfo)) (last : Nat) : Array CpInfo := ⟨poolList es last⟩
def fileOf (pool : Array CpInfo) (this : Nat) (attrs : Array Attribute := #[]) (ms : Array MethodInfo := #[]) (fl : Nat := 33) (sup : Nat := 0) (ifs : Array Nat := #[]) (fds : Array FieldInfo := #[]) : ClassFile where
  minorVersion := 0
  majorVersion := 65
  constantPool := pool
  accessFlags := fl
  thisClass := this
  superClass := sup
  interfaces := ifs
  fields := fds
  methods := ms
  attributes := attrs
def plain (name : String) (sup : Option ClassId) : Class where
  name := name
  kind := .ordinary
  loader := none
  accessFlags := 33
  super := sup
  interfaces := #[]
  cf := none
  fields := #[]
  methods := #[]
  instanceTypes := #[]
  staticTypes := #[]
  resolved := #[]
  callSites := []
  init := .initialized
  statics := none
  mirror := none

def pool0 : Array CpInfo := pool [(5, u "<init>"), (0, u "()V"), (1, .class_ 10), (1, u "java/lang/Object")] 113

def k0c0 : Code := { maxStack := 0, maxLocals := 1, code := object_method_1_code, exceptionTable := #[], attributes := #[] }
def k0m0 : Method := { name := "<init>", desc := "()V", sig := { parameters := [], returnType := none }, accessFlags := 1, code := some k0c0 }
/-- java/lang/Object -/
def k0 : Class := { plain "java/lang/Object" none with
  accessFlags := 33
  interfaces := #[]
  cf := some (fileOf pool0 8 #[] #[{ accessFlags := 1, nameIndex := 5, descriptorIndex := 6, attributes := #[] }] 33 0 #[] #[])
  fields := #[]
  methods := #[k0m0]
  instanceTypes := #[]
  staticTypes := #[]
  resolved := Array.replicate 124 none
  statics := none }

def pool1 : Array CpInfo := pool [(2, .class_ 4), (1, u "java/lang/Object"), (0, u "<init>"), (0, u "()V"), (0, .class_ 8), (0, u "com/example/chatham/chatham/pattern/SemaphoreBulkheadSnapshot"), (0, .methodref 7 10), (0, .nameAndType 5 11), (0, u "(II)V"), (0, .methodref 7 13), (0, .nameAndType 14 15), (0, u "toString"), (0, u "()Ljava/lang/String;"), (0, .string 17), (0, u "SemaphoreBulkheadSnapshot[limit=0, available=0]"), (0, .methodref 19 20), (0, .class_ 21), (0, .nameAndType 22 23), (0, u "java/lang/String"), (0, u "equals"), (0, u "(Ljava/lang/Object;)Z"), (0, .methodref 25 26), (0, .class_ 27), (0, .nameAndType 28 29), (0, u "com/example/chatham/chatham/pattern/SemaphoreBulkheadSnapshotToStringPinLaw"), (0, u "decLen"), (0, u "(I)I"), (0, .methodref 19 31), (0, .nameAndType 32 33), (0, u "length"), (0, u "()I"), (0, .methodref 25 35), (0, .nameAndType 36 37), (0, u "pre"), (0, u "(Ljava/lang/String;Ljava/lang/String;)Z"), (0, .methodref 25 39), (0, .nameAndType 40 41), (0, u "numOk"), (0, u "(Ljava/lang/String;II)Z"), (0, .methodref 25 43), (0, .nameAndType 44 45), (0, u "mid"), (0, u "(Ljava/lang/String;Ljava/lang/String;I)Z"), (0, .methodref 19 47), (0, .nameAndType 48 49), (0, u "charAt"), (0, u "(I)C"), (0, .long 10), (1, .long 100), (1, .long 1000), (1, .long 10000), (1, .long 100000), (1, .long 1000000), (1, .long 10000000), (1, .long 100000000), (1, .long 1000000000), (1, .methodref 69 70), (0, .class_ 71), (0, .nameAndType 72 73), (0, u "java/lang/Math"), (0, u "abs"), (0, u "(J)J"), (0, .methodref 25 75), (0, .nameAndType 76 77), (0, u "magLen"), (0, u "(J)I"), (0, .methodref 25 79), (0, .nameAndType 80 81), (0, u "dig"), (0, u "(Ljava/lang/String;IJJ)Z"), (2, u "law"), (0, u "(II)Z")] 3

def k1m0 : Method := { name := "<init>", desc := "()V", sig := { parameters := [], returnType := none }, accessFlags := 1, code := none }
def k1c1 : Code := { maxStack := 4, maxLocals := 10, code := code, exceptionTable := #[], attributes := #[] }
def k1m1 : Method := { name := "law", desc := "(II)Z", sig := { parameters := [.int, .int], returnType := some .boolean }, accessFlags := 9, code := some k1c1 }
def k1c2 : Code := { maxStack := 4, maxLocals := 2, code := method_3_code, exceptionTable := #[], attributes := #[] }
def k1m2 : Method := { name := "magLen", desc := "(J)I", sig := { parameters := [.long], returnType := some .int }, accessFlags := 10, code := some k1c2 }
def k1c3 : Code := { maxStack := 2, maxLocals := 3, code := method_4_code, exceptionTable := #[], attributes := #[] }
def k1m3 : Method := { name := "decLen", desc := "(I)I", sig := { parameters := [.int], returnType := some .int }, accessFlags := 10, code := some k1c3 }
def k1c4 : Code := { maxStack := 6, maxLocals := 6, code := method_5_code, exceptionTable := #[], attributes := #[] }
def k1m4 : Method := { name := "dig", desc := "(Ljava/lang/String;IJJ)Z", sig := { parameters := [(.object "java/lang/String"), .int, .long, .long], returnType := some .boolean }, accessFlags := 10, code := some k1c4 }
def k1c5 : Code := { maxStack := 6, maxLocals := 9, code := method_6_code, exceptionTable := #[], attributes := #[] }
def k1m5 : Method := { name := "numOk", desc := "(Ljava/lang/String;II)Z", sig := { parameters := [(.object "java/lang/String"), .int, .int], returnType := some .boolean }, accessFlags := 10, code := some k1c5 }
def k1c6 : Code := { maxStack := 3, maxLocals := 2, code := method_7_code, exceptionTable := #[], attributes := #[] }
def k1m6 : Method := { name := "pre", desc := "(Ljava/lang/String;Ljava/lang/String;)Z", sig := { parameters := [(.object "java/lang/String"), (.object "java/lang/String")], returnType := some .boolean }, accessFlags := 10, code := some k1c6 }
def k1c7 : Code := { maxStack := 3, maxLocals := 3, code := method_8_code, exceptionTable := #[], attributes := #[] }
def k1m7 : Method := { name := "mid", desc := "(Ljava/lang/String;Ljava/lang/String;I)Z", sig := { parameters := [(.object "java/lang/String"), (.object "java/lang/String"), .int], returnType := some .boolean }, accessFlags := 10, code := some k1c7 }
/-- com/example/chatham/chatham/pattern/SemaphoreBulkheadSnapshotToStringPinLaw -/
def k1 : Class := { plain "com/example/chatham/chatham/pattern/SemaphoreBulkheadSnapshotToStringPinLaw" (some 0) with
  accessFlags := 49
  interfaces := #[]
  cf := some (fileOf pool1 25 #[] #[{ accessFlags := 1, nameIndex := 5, descriptorIndex := 6, attributes := #[] }, { accessFlags := 9, nameIndex := 84, descriptorIndex := 85, attributes := #[] }, { accessFlags := 10, nameIndex := 76, descriptorIndex := 77, attributes := #[] }, { accessFlags := 10, nameIndex := 28, descriptorIndex := 29, attributes := #[] }, { accessFlags := 10, nameIndex := 80, descriptorIndex := 81, attributes := #[] }, { accessFlags := 10, nameIndex := 40, descriptorIndex := 41, attributes := #[] }, { accessFlags := 10, nameIndex := 36, descriptorIndex := 37, attributes := #[] }, { accessFlags := 10, nameIndex := 44, descriptorIndex := 45, attributes := #[] }] 49 2 #[] #[])
  fields := #[]
  methods := #[k1m0, k1m1, k1m2, k1m3, k1m4, k1m5, k1m6, k1m7]
  instanceTypes := #[]
  staticTypes := #[]
  resolved := Array.replicate 89 none
  statics := none }

def pool2 : Array CpInfo := pool [(1, .methodref 2 3), (0, .class_ 4), (0, .nameAndType 5 6), (0, u "java/lang/Object"), (0, u "<init>"), (0, u "()V"), (0, .fieldref 8 9), (0, .class_ 10), (0, .nameAndType 11 12), (0, u "com/example/chatham/chatham/pattern/SemaphoreBulkheadSnapshot"), (0, u "limit"), (0, u "I"), (0, .fieldref 8 14), (0, .nameAndType 15 12), (0, u "available"), (0, .class_ 17), (0, u "java/lang/StringBuilder"), (0, .methodref 16 3), (0, .string 20), (0, u "SemaphoreBulkheadSnapshot[limit="), (0, .methodref 16 22), (0, .nameAndType 23 24), (0, u "append"), (0, u "(Ljava/lang/String;)Ljava/lang/StringBuilder;"), (0, .methodref 16 26), (0, .nameAndType 23 27), (0, u "(I)Ljava/lang/StringBuilder;"), (0, .string 29), (0, u ", available="), (0, .string 31), (0, u "]"), (0, .methodref 16 33), (0, .nameAndType 34 35), (0, u "toString"), (0, u "()Ljava/lang/String;"), (0, u "(II)V")] 5

def k2c0 : Code := { maxStack := 2, maxLocals := 3, code := prog_39_method_1_code, exceptionTable := #[], attributes := #[] }
def k2m0 : Method := { name := "<init>", desc := "(II)V", sig := { parameters := [.int, .int], returnType := none }, accessFlags := 0, code := some k2c0 }
def k2c1 : Code := { maxStack := 2, maxLocals := 1, code := prog_39_method_4_code, exceptionTable := #[], attributes := #[] }
def k2m1 : Method := { name := "toString", desc := "()Ljava/lang/String;", sig := { parameters := [], returnType := some (.object "java/lang/String") }, accessFlags := 1, code := some k2c1 }
/-- com/example/chatham/chatham/pattern/SemaphoreBulkheadSnapshot -/
def k2 : Class := { plain "com/example/chatham/chatham/pattern/SemaphoreBulkheadSnapshot" (some 0) with
  accessFlags := 49
  interfaces := #[]
  cf := some (fileOf pool2 8 #[] #[{ accessFlags := 0, nameIndex := 5, descriptorIndex := 36, attributes := #[] }, { accessFlags := 1, nameIndex := 34, descriptorIndex := 35, attributes := #[] }] 49 2 #[] #[{ accessFlags := 18, nameIndex := 11, descriptorIndex := 12, attributes := #[] }, { accessFlags := 18, nameIndex := 15, descriptorIndex := 12, attributes := #[] }])
  fields := #[{ name := "limit", type := .int, accessFlags := 18, slot := 0, constantValue := 0 }, { name := "available", type := .int, accessFlags := 18, slot := 1, constantValue := 0 }]
  methods := #[k2m0, k2m1]
  instanceTypes := #[.int, .int]
  staticTypes := #[]
  resolved := Array.replicate 42 none
  statics := none }

def pool3 : Array CpInfo := pool [(1, .class_ 2), (0, u "java/lang/Appendable"), (0, .class_ 4), (0, u "java/lang/Object")] 9

/-- java/lang/Appendable -/
def k3 : Class := { plain "java/lang/Appendable" (some 0) with
  accessFlags := 1537
  interfaces := #[]
  cf := some (fileOf pool3 1 #[] #[] 1537 3 #[] #[])
  fields := #[]
  methods := #[]
  instanceTypes := #[]
  staticTypes := #[]
  resolved := Array.replicate 14 none
  statics := none }

def pool4 : Array CpInfo := pool [(2, .class_ 4), (1, u "java/lang/CharSequence"), (42, .class_ 48), (0, u "java/lang/CharSequence$1CodePointIterator"), (10, .class_ 60), (0, u "java/lang/CharSequence$1CharIterator"), (5, .class_ 67), (0, u "java/lang/Object")] 63

/-- java/lang/CharSequence -/
def k4 : Class := { plain "java/lang/CharSequence" (some 0) with
  accessFlags := 1537
  interfaces := #[]
  cf := some (fileOf pool4 2 #[.nestMembers #[47, 59]] #[] 1537 66 #[] #[])
  fields := #[]
  methods := #[]
  instanceTypes := #[]
  staticTypes := #[]
  resolved := Array.replicate 131 none
  statics := none }

def pool5 : Array CpInfo := pool [(1, .class_ 2), (0, u "java/lang/String"), (0, .methodref 4 5), (0, .class_ 6), (0, .nameAndType 7 8), (0, u "java/lang/Object"), (0, u "<init>"), (0, u "()V"), (1, .class_ 12), (1, u "java/lang/AbstractStringBuilder"), (0, u "EMPTYVALUE"), (0, u "[B"), (0, .fieldref 10 16), (0, .nameAndType 17 14), (0, u "value"), (0, .fieldref 1 19), (0, .nameAndType 20 21), (0, u "COMPACT_STRINGS"), (0, u "Z"), (0, .fieldref 10 23), (0, .nameAndType 24 25), (0, u "coder"), (0, u "B"), (6, .methodref 1 33), (0, .nameAndType 34 35), (0, u "length"), (0, u "()I"), (0, .class_ 37), (0, u "java/lang/Integer"), (1, .integer 2147483647), (0, .methodref 1 41), (0, .nameAndType 24 42), (0, u "()B"), (2, u "append"), (0, u "(Ljava/lang/String;)Ljava/lang/AbstractStringBuilder;"), (1, .class_ 49), (0, u "java/lang/CharSequence"), (19, u "(Ljava/lang/String;)V"), (5, u "maybeLatin1"), (3, .fieldref 10 80), (0, .nameAndType 81 82), (0, u "count"), (0, u "I"), (0, .methodref 10 84), (0, .nameAndType 85 86), (0, u "isLatin1"), (0, u "()Z"), (13, .methodref 10 101), (0, .nameAndType 102 103), (0, u "ensureCapacityInternal"), (0, u "(I)V"), (0, .methodref 10 105), (0, .nameAndType 106 107), (0, u "newCapacity"), (0, u "(I)I"), (0, .methodref 109 110), (0, .class_ 111), (0, .nameAndType 112 113), (0, u "java/util/Arrays"), (0, u "copyOf"), (0, u "([BI)[B"), (0, .methodref 115 116), (0, .class_ 117), (0, .nameAndType 118 119), (0, u "jdk/internal/util/ArraysSupport"), (0, u "newLength"), (0, u "(III)I"), (68, u "getChars"), (19, .methodref 10 209), (0, .nameAndType 210 211), (0, u "putStringAt"), (0, u "(ILjava/lang/String;)V"), (5, u "inflateIfNeededFor"), (2, .nameAndType 221 222), (0, u "getBytes"), (0, u "([BIB)V"), (22, .methodref 36 246), (0, .nameAndType 247 107), (0, u "stringSize"), (0, .methodref 36 249), (0, .nameAndType 188 250), (0, u "(II[B)I"), (146, .methodref 10 398), (0, .nameAndType 217 69), (0, .methodref 1 220), (3, u "()[B"), (40, .class_ 445), (0, u "java/lang/Appendable"), (65, u "(I)Ljava/lang/AbstractStringBuilder;"), (40, u "getValue")] 56

def k5m0 : Method := { name := "<init>", desc := "()V", sig := { parameters := [], returnType := none }, accessFlags := 0, code := none }
def k5c1 : Code := { maxStack := 2, maxLocals := 2, code := jdk_68_method_2_code, exceptionTable := #[], attributes := #[] }
def k5m1 : Method := { name := "<init>", desc := "(I)V", sig := { parameters := [.int], returnType := none }, accessFlags := 0, code := some k5c1 }
def k5c2 : Code := { maxStack := 1, maxLocals := 1, code := jdk_68_method_6_code, exceptionTable := #[], attributes := #[] }
def k5m2 : Method := { name := "length", desc := "()I", sig := { parameters := [], returnType := some .int }, accessFlags := 1, code := some k5c2 }
def k5c3 : Code := { maxStack := 4, maxLocals := 3, code := jdk_68_method_9_code, exceptionTable := #[], attributes := #[] }
def k5m3 : Method := { name := "ensureCapacityInternal", desc := "(I)V", sig := { parameters := [.int], returnType := none }, accessFlags := 2, code := some k5c3 }
def k5c4 : Code := { maxStack := 5, maxLocals := 6, code := jdk_68_method_10_code, exceptionTable := #[], attributes := #[] }
def k5m4 : Method := { name := "newCapacity", desc := "(I)I", sig := { parameters := [.int], returnType := some .int }, accessFlags := 2, code := some k5c4 }
def k5c5 : Code := { maxStack := 3, maxLocals := 3, code := jdk_68_method_22_code, exceptionTable := #[], attributes := #[] }
def k5m5 : Method := { name := "append", desc := "(Ljava/lang/String;)Ljava/lang/AbstractStringBuilder;", sig := { parameters := [(.object "java/lang/String")], returnType := some (.object "java/lang/AbstractStringBuilder") }, accessFlags := 1, code := some k5c5 }
def k5c6 : Code := { maxStack := 4, maxLocals := 4, code := jdk_68_method_32_code, exceptionTable := #[], attributes := #[] }
def k5m6 : Method := { name := "append", desc := "(I)Ljava/lang/AbstractStringBuilder;", sig := { parameters := [.int], returnType := some (.object "java/lang/AbstractStringBuilder") }, accessFlags := 1, code := some k5c6 }
def k5c7 : Code := { maxStack := 1, maxLocals := 1, code := jdk_68_method_64_code, exceptionTable := #[], attributes := #[] }
def k5m7 : Method := { name := "getValue", desc := "()[B", sig := { parameters := [], returnType := some (.array .byte) }, accessFlags := 16, code := some k5c7 }
def k5c8 : Code := { maxStack := 1, maxLocals := 1, code := jdk_68_method_68_code, exceptionTable := #[], attributes := #[] }
def k5m8 : Method := { name := "isLatin1", desc := "()Z", sig := { parameters := [], returnType := some .boolean }, accessFlags := 16, code := some k5c8 }
def k5c9 : Code := { maxStack := 2, maxLocals := 2, code := jdk_68_method_71_code, exceptionTable := #[], attributes := #[] }
def k5m9 : Method := { name := "inflateIfNeededFor", desc := "(Ljava/lang/String;)V", sig := { parameters := [(.object "java/lang/String")], returnType := none }, accessFlags := 2, code := some k5c9 }
def k5c10 : Code := { maxStack := 4, maxLocals := 3, code := jdk_68_method_73_code, exceptionTable := #[], attributes := #[] }
def k5m10 : Method := { name := "putStringAt", desc := "(ILjava/lang/String;)V", sig := { parameters := [.int, (.object "java/lang/String")], returnType := none }, accessFlags := 2, code := some k5c10 }
/-- java/lang/AbstractStringBuilder -/
def k5 : Class := { plain "java/lang/AbstractStringBuilder" (some 0) with
  accessFlags := 1056
  interfaces := #[3, 4]
  cf := some (fileOf pool5 10 #[] #[{ accessFlags := 0, nameIndex := 7, descriptorIndex := 8, attributes := #[] }, { accessFlags := 0, nameIndex := 7, descriptorIndex := 103, attributes := #[] }, { accessFlags := 1, nameIndex := 34, descriptorIndex := 35, attributes := #[] }, { accessFlags := 2, nameIndex := 102, descriptorIndex := 103, attributes := #[] }, { accessFlags := 2, nameIndex := 106, descriptorIndex := 107, attributes := #[] }, { accessFlags := 1, nameIndex := 45, descriptorIndex := 46, attributes := #[] }, { accessFlags := 1, nameIndex := 45, descriptorIndex := 511, attributes := #[] }, { accessFlags := 16, nameIndex := 552, descriptorIndex := 403, attributes := #[] }, { accessFlags := 16, nameIndex := 85, descriptorIndex := 86, attributes := #[] }, { accessFlags := 2, nameIndex := 217, descriptorIndex := 69, attributes := #[] }, { accessFlags := 2, nameIndex := 210, descriptorIndex := 211, attributes := #[] }] 1056 4 #[444, 48] #[{ accessFlags := 0, nameIndex := 17, descriptorIndex := 14, attributes := #[] }, { accessFlags := 0, nameIndex := 24, descriptorIndex := 25, attributes := #[] }, { accessFlags := 0, nameIndex := 75, descriptorIndex := 21, attributes := #[] }, { accessFlags := 0, nameIndex := 81, descriptorIndex := 82, attributes := #[] }, { accessFlags := 26, nameIndex := 13, descriptorIndex := 14, attributes := #[] }])
  fields := #[{ name := "value", type := (.array .byte), accessFlags := 0, slot := 0, constantValue := 0 }, { name := "coder", type := .byte, accessFlags := 0, slot := 1, constantValue := 0 }, { name := "maybeLatin1", type := .boolean, accessFlags := 0, slot := 2, constantValue := 0 }, { name := "count", type := .int, accessFlags := 0, slot := 3, constantValue := 0 }, { name := "EMPTYVALUE", type := (.array .byte), accessFlags := 26, slot := 0, constantValue := 0 }]
  methods := #[k5m0, k5m1, k5m2, k5m3, k5m4, k5m5, k5m6, k5m7, k5m8, k5m9, k5m10]
  instanceTypes := #[(.array .byte), .byte, .boolean, .int]
  staticTypes := #[(.array .byte)]
  resolved := Array.replicate 609 none
  statics := none }

def pool6 : Array CpInfo := pool [(1, .class_ 2), (0, u "java/io/Serializable"), (0, .class_ 4), (0, u "java/lang/Object")] 2

/-- java/io/Serializable -/
def k6 : Class := { plain "java/io/Serializable" (some 0) with
  accessFlags := 1537
  interfaces := #[]
  cf := some (fileOf pool6 1 #[] #[] 1537 3 #[] #[])
  fields := #[]
  methods := #[]
  instanceTypes := #[]
  staticTypes := #[]
  resolved := Array.replicate 7 none
  statics := none }

def pool7 : Array CpInfo := pool [(1, .class_ 2), (0, u "java/lang/Comparable"), (0, .class_ 4), (0, u "java/lang/Object")] 7

/-- java/lang/Comparable -/
def k7 : Class := { plain "java/lang/Comparable" (some 0) with
  accessFlags := 1537
  interfaces := #[]
  cf := some (fileOf pool7 1 #[] #[] 1537 3 #[] #[])
  fields := #[]
  methods := #[]
  instanceTypes := #[]
  staticTypes := #[]
  resolved := Array.replicate 12 none
  statics := none }

def pool8 : Array CpInfo := pool [(1, .methodref 2 3), (0, .class_ 4), (0, .nameAndType 5 6), (0, u "java/lang/AbstractStringBuilder"), (0, u "<init>"), (0, u "(I)V"), (11, .class_ 20), (1, u "java/lang/String"), (3, .class_ 26), (1, u "java/lang/StringBuilder"), (0, u "append"), (0, u "(Ljava/lang/String;)Ljava/lang/StringBuilder;"), (0, .methodref 2 30), (0, .nameAndType 27 31), (0, u "(Ljava/lang/String;)Ljava/lang/AbstractStringBuilder;"), (21, .methodref 2 54), (0, .nameAndType 27 55), (0, u "(I)Ljava/lang/AbstractStringBuilder;"), (81, .methodref 18 138), (0, .nameAndType 5 139), (0, u "(Ljava/lang/StringBuilder;)V"), (5, u "()V"), (10, u "()I"), (111, u "(I)Ljava/lang/StringBuilder;"), (74, .methodref 2 344), (0, .nameAndType 345 156), (0, u "length"), (3, .class_ 350), (0, u "java/lang/Appendable"), (0, .class_ 352), (0, u "java/io/Serializable"), (0, .class_ 354), (0, u "java/lang/Comparable"), (0, .class_ 356), (0, u "java/lang/CharSequence"), (0, u "serialVersionUID"), (0, u "J"), (40, u "toString"), (0, u "()Ljava/lang/String;")] 21

def k8c0 : Code := { maxStack := 2, maxLocals := 1, code := jdk_67_method_1_code, exceptionTable := #[], attributes := #[] }
def k8m0 : Method := { name := "<init>", desc := "()V", sig := { parameters := [], returnType := none }, accessFlags := 1, code := some k8c0 }
def k8c1 : Code := { maxStack := 2, maxLocals := 2, code := jdk_67_method_7_code, exceptionTable := #[], attributes := #[] }
def k8m1 : Method := { name := "append", desc := "(Ljava/lang/String;)Ljava/lang/StringBuilder;", sig := { parameters := [(.object "java/lang/String")], returnType := some (.object "java/lang/StringBuilder") }, accessFlags := 1, code := some k8c1 }
def k8c2 : Code := { maxStack := 2, maxLocals := 2, code := jdk_67_method_15_code, exceptionTable := #[], attributes := #[] }
def k8m2 : Method := { name := "append", desc := "(I)Ljava/lang/StringBuilder;", sig := { parameters := [.int], returnType := some (.object "java/lang/StringBuilder") }, accessFlags := 1, code := some k8c2 }
def k8c3 : Code := { maxStack := 3, maxLocals := 1, code := jdk_67_method_42_code, exceptionTable := #[], attributes := #[] }
def k8m3 : Method := { name := "toString", desc := "()Ljava/lang/String;", sig := { parameters := [], returnType := some (.object "java/lang/String") }, accessFlags := 1, code := some k8c3 }
def k8c4 : Code := { maxStack := 1, maxLocals := 1, code := jdk_67_method_93_code, exceptionTable := #[], attributes := #[] }
def k8m4 : Method := { name := "length", desc := "()I", sig := { parameters := [], returnType := some .int }, accessFlags := 4161, code := some k8c4 }
/-- java/lang/StringBuilder -/
def k8 : Class := { plain "java/lang/StringBuilder" (some 5) with
  accessFlags := 49
  interfaces := #[3, 6, 7, 4]
  cf := some (fileOf pool8 24 #[] #[{ accessFlags := 1, nameIndex := 5, descriptorIndex := 145, attributes := #[] }, { accessFlags := 1, nameIndex := 27, descriptorIndex := 28, attributes := #[] }, { accessFlags := 1, nameIndex := 27, descriptorIndex := 268, attributes := #[] }, { accessFlags := 1, nameIndex := 399, descriptorIndex := 400, attributes := #[] }, { accessFlags := 4161, nameIndex := 345, descriptorIndex := 156, attributes := #[] }] 49 2 #[349, 351, 353, 355] #[{ accessFlags := 24, nameIndex := 357, descriptorIndex := 358, attributes := #[] }])
  fields := #[{ name := "serialVersionUID", type := .long, accessFlags := 24, slot := 0, constantValue := 0 }]
  methods := #[k8m0, k8m1, k8m2, k8m3, k8m4]
  instanceTypes := #[(.array .byte), .byte, .boolean, .int]
  staticTypes := #[.long]
  resolved := Array.replicate 422 none
  statics := none }

def pool9 : Array CpInfo := pool [(1, .class_ 2), (0, u "java/lang/constant/Constable"), (0, .class_ 4), (0, u "java/lang/Object")] 6

/-- java/lang/constant/Constable -/
def k9 : Class := { plain "java/lang/constant/Constable" (some 0) with
  accessFlags := 1537
  interfaces := #[]
  cf := some (fileOf pool9 1 #[] #[] 1537 3 #[] #[])
  fields := #[]
  methods := #[]
  instanceTypes := #[]
  staticTypes := #[]
  resolved := Array.replicate 11 none
  statics := none }

def pool10 : Array CpInfo := pool [(1, .class_ 2), (0, u "java/lang/constant/ConstantDesc"), (0, .class_ 4), (0, u "java/lang/Object")] 32

/-- java/lang/constant/ConstantDesc -/
def k10 : Class := { plain "java/lang/constant/ConstantDesc" (some 0) with
  accessFlags := 1537
  interfaces := #[]
  cf := some (fileOf pool10 1 #[] #[] 1537 3 #[] #[])
  fields := #[]
  methods := #[]
  instanceTypes := #[]
  staticTypes := #[]
  resolved := Array.replicate 37 none
  statics := none }

def pool11 : Array CpInfo := pool [(1, .methodref 2 3), (0, .class_ 4), (0, .nameAndType 5 6), (0, u "java/lang/Object"), (0, u "<init>"), (0, u "()V"), (2, .fieldref 10 11), (0, .class_ 12), (0, .nameAndType 13 14), (0, u "java/lang/String"), (0, u "value"), (0, u "[B"), (0, .fieldref 10 16), (0, .nameAndType 17 18), (0, u "coder"), (0, u "B"), (2, u "hash"), (0, u "I"), (2, u "hashIsZero"), (0, u "Z"), (11, .fieldref 10 39), (0, .nameAndType 40 26), (0, u "COMPACT_STRINGS"), (13, .methodref 55 56), (0, .class_ 57), (0, .nameAndType 58 59), (0, u "java/util/Arrays"), (0, u "copyOfRange"), (0, u "([BII)[B"), (47, .class_ 109), (1, u "java/lang/StringLatin1"), (32, u "()Z"), (50, .class_ 195), (1, u "java/lang/System"), (16, .methodref 193 213), (0, .nameAndType 214 215), (0, u "arraycopy"), (0, u "(Ljava/lang/Object;ILjava/lang/Object;II)V"), (118, u "()I"), (0, .methodref 10 336), (0, .nameAndType 17 337), (0, u "()B"), (2, u "()[B"), (22, u "([BI)C"), (27, u "(II)V"), (35, u "(I)C"), (61, .methodref 10 490), (0, .nameAndType 5 491), (0, u "(Ljava/lang/AbstractStringBuilder;Ljava/lang/Void;)V"), (0, .methodref 10 493), (0, .nameAndType 494 142), (0, u "isLatin1"), (0, .methodref 107 496), (0, .nameAndType 497 363), (0, u "charAt"), (3, u "checkIndex"), (4, .nameAndType 507 334), (0, u "length"), (24, u "getBytes"), (8, .methodref 107 542), (0, .nameAndType 543 544), (0, u "equals"), (0, u "([B[B)Z"), (4, .methodref 550 506), (0, .class_ 551), (0, u "java/lang/AbstractStringBuilder"), (0, .methodref 550 553), (0, .nameAndType 554 340), (0, u "getValue"), (18, u "(Ljava/lang/Object;)Z"), (1, .class_ 576), (0, u "java/lang/CharSequence"), (22, u "CASE_INSENSITIVE_ORDER"), (0, u "Ljava/util/Comparator;"), (220, u "([BIB)V"), (225, .methodref 550 493), (5, .fieldref 1054 1055), (0, .class_ 1056), (0, .nameAndType 1057 1058), (0, u "jdk/internal/util/Preconditions"), (0, u "SIOOBE_FORMATTER"), (0, u "Ljava/util/function/BiFunction;"), (0, .methodref 1054 1060), (0, .nameAndType 501 1061), (0, u "(IILjava/util/function/BiFunction;)I"), (39, u "serialPersistentFields"), (0, u "[Ljava/io/ObjectStreamField;"), (0, .class_ 1104), (0, u "java/lang/String$CaseInsensitiveComparator"), (1, .class_ 1107), (0, u "java/io/Serializable"), (0, .class_ 1109), (0, u "java/lang/Comparable"), (0, .class_ 1111), (0, u "java/lang/constant/Constable"), (0, .class_ 1113), (0, u "java/lang/constant/ConstantDesc"), (2, u "serialVersionUID"), (0, u "J"), (3, u "REPL"), (0, u "C"), (2, u "LATIN1"), (1, u "UTF16"), (105, u "(Ljava/lang/StringBuilder;)V")] 217

def k11m0 : Method := { name := "<init>", desc := "()V", sig := { parameters := [], returnType := none }, accessFlags := 1, code := none }
def k11c1 : Code := { maxStack := 3, maxLocals := 2, code := jdk_42_method_53_code, exceptionTable := #[], attributes := #[] }
def k11m1 : Method := { name := "<init>", desc := "(Ljava/lang/StringBuilder;)V", sig := { parameters := [(.object "java/lang/StringBuilder")], returnType := none }, accessFlags := 1, code := some k11c1 }
def k11c2 : Code := { maxStack := 2, maxLocals := 1, code := jdk_42_method_54_code, exceptionTable := #[], attributes := #[] }
def k11m2 : Method := { name := "length", desc := "()I", sig := { parameters := [], returnType := some .int }, accessFlags := 1, code := some k11c2 }
def k11c3 : Code := { maxStack := 2, maxLocals := 2, code := jdk_42_method_56_code, exceptionTable := #[], attributes := #[] }
def k11m3 : Method := { name := "charAt", desc := "(I)C", sig := { parameters := [.int], returnType := some .char }, accessFlags := 1, code := some k11c3 }
def k11c4 : Code := { maxStack := 2, maxLocals := 3, code := jdk_42_method_66_code, exceptionTable := #[], attributes := #[] }
def k11m4 : Method := { name := "equals", desc := "(Ljava/lang/Object;)Z", sig := { parameters := [(.object "java/lang/Object")], returnType := some .boolean }, accessFlags := 1, code := some k11c4 }
def k11c5 : Code := { maxStack := 5, maxLocals := 4, code := jdk_42_method_147_code, exceptionTable := #[], attributes := #[] }
def k11m5 : Method := { name := "getBytes", desc := "([BIB)V", sig := { parameters := [(.array .byte), .int, .byte], returnType := none }, accessFlags := 0, code := some k11c5 }
def k11c6 : Code := { maxStack := 5, maxLocals := 5, code := jdk_42_method_150_code, exceptionTable := #[], attributes := #[] }
def k11m6 : Method := { name := "<init>", desc := "(Ljava/lang/AbstractStringBuilder;Ljava/lang/Void;)V", sig := { parameters := [(.object "java/lang/AbstractStringBuilder"), (.object "java/lang/Void")], returnType := none }, accessFlags := 0, code := some k11c6 }
def k11c7 : Code := { maxStack := 1, maxLocals := 1, code := jdk_42_method_152_code, exceptionTable := #[], attributes := #[] }
def k11m7 : Method := { name := "coder", desc := "()B", sig := { parameters := [], returnType := some .byte }, accessFlags := 0, code := some k11c7 }
def k11c8 : Code := { maxStack := 1, maxLocals := 1, code := jdk_42_method_154_code, exceptionTable := #[], attributes := #[] }
def k11m8 : Method := { name := "isLatin1", desc := "()Z", sig := { parameters := [], returnType := some .boolean }, accessFlags := 0, code := some k11c8 }
def k11c9 : Code := { maxStack := 3, maxLocals := 2, code := jdk_42_method_155_code, exceptionTable := #[], attributes := #[] }
def k11m9 : Method := { name := "checkIndex", desc := "(II)V", sig := { parameters := [.int, .int], returnType := none }, accessFlags := 8, code := some k11c9 }
/-- java/lang/String -/
def k11 : Class := { plain "java/lang/String" (some 0) with
  accessFlags := 49
  interfaces := #[6, 7, 4, 9, 10]
  cf := some (fileOf pool11 10 #[.nestMembers #[1103]] #[{ accessFlags := 1, nameIndex := 5, descriptorIndex := 6, attributes := #[] }, { accessFlags := 1, nameIndex := 5, descriptorIndex := 1233, attributes := #[] }, { accessFlags := 1, nameIndex := 507, descriptorIndex := 334, attributes := #[] }, { accessFlags := 1, nameIndex := 497, descriptorIndex := 427, attributes := #[] }, { accessFlags := 1, nameIndex := 543, descriptorIndex := 573, attributes := #[] }, { accessFlags := 0, nameIndex := 532, descriptorIndex := 821, attributes := #[] }, { accessFlags := 0, nameIndex := 5, descriptorIndex := 491, attributes := #[] }, { accessFlags := 0, nameIndex := 17, descriptorIndex := 337, attributes := #[] }, { accessFlags := 0, nameIndex := 494, descriptorIndex := 142, attributes := #[] }, { accessFlags := 8, nameIndex := 501, descriptorIndex := 391, attributes := #[] }] 49 2 #[1106, 1108, 575, 1110, 1112] #[{ accessFlags := 18, nameIndex := 13, descriptorIndex := 14, attributes := #[] }, { accessFlags := 18, nameIndex := 17, descriptorIndex := 18, attributes := #[] }, { accessFlags := 2, nameIndex := 21, descriptorIndex := 22, attributes := #[] }, { accessFlags := 2, nameIndex := 25, descriptorIndex := 26, attributes := #[] }, { accessFlags := 26, nameIndex := 1116, descriptorIndex := 1117, attributes := #[] }, { accessFlags := 24, nameIndex := 40, descriptorIndex := 26, attributes := #[] }, { accessFlags := 26, nameIndex := 1101, descriptorIndex := 1102, attributes := #[] }, { accessFlags := 26, nameIndex := 1121, descriptorIndex := 1122, attributes := #[] }, { accessFlags := 25, nameIndex := 599, descriptorIndex := 600, attributes := #[] }, { accessFlags := 24, nameIndex := 1125, descriptorIndex := 18, attributes := #[] }, { accessFlags := 24, nameIndex := 1127, descriptorIndex := 18, attributes := #[] }])
  fields := #[{ name := "value", type := (.array .byte), accessFlags := 18, slot := 0, constantValue := 0 }, { name := "coder", type := .byte, accessFlags := 18, slot := 1, constantValue := 0 }, { name := "hash", type := .int, accessFlags := 2, slot := 2, constantValue := 0 }, { name := "hashIsZero", type := .boolean, accessFlags := 2, slot := 3, constantValue := 0 }, { name := "serialVersionUID", type := .long, accessFlags := 26, slot := 0, constantValue := 0 }, { name := "COMPACT_STRINGS", type := .boolean, accessFlags := 24, slot := 1, constantValue := 0 }, { name := "serialPersistentFields", type := (.array (.object "java/io/ObjectStreamField")), accessFlags := 26, slot := 2, constantValue := 0 }, { name := "REPL", type := .char, accessFlags := 26, slot := 3, constantValue := 0 }, { name := "CASE_INSENSITIVE_ORDER", type := (.object "java/util/Comparator"), accessFlags := 25, slot := 4, constantValue := 0 }, { name := "LATIN1", type := .byte, accessFlags := 24, slot := 5, constantValue := 0 }, { name := "UTF16", type := .byte, accessFlags := 24, slot := 6, constantValue := 0 }]
  methods := #[k11m0, k11m1, k11m2, k11m3, k11m4, k11m5, k11m6, k11m7, k11m8, k11m9]
  instanceTypes := #[(.array .byte), .byte, .int, .boolean]
  staticTypes := #[.long, .boolean, (.array (.object "java/io/ObjectStreamField")), .char, (.object "java/util/Comparator"), .byte, .byte]
  resolved := Array.replicate 1451 none
  statics := some 0 }

def pool12 : Array CpInfo := pool [(9, u "<init>"), (6, .class_ 18), (1, u "java/lang/Object"), (0, u "()V"), (1, .class_ 23), (1, u "jdk/internal/util/ArraysSupport"), (0, u "LOG2_ARRAY_LONG_INDEX_SCALE"), (0, u "I"), (2, u "U"), (0, u "Ljdk/internal/misc/Unsafe;"), (8, u "BIG_ENDIAN"), (0, u "Z"), (8, u "LOG2_BYTE_BIT_SIZE"), (4, u "LOG2_ARRAY_INT_INDEX_SCALE"), (54, u "JLA"), (0, u "Ljdk/internal/access/JavaLangAccess;"), (11, u "LOG2_ARRAY_BOOLEAN_INDEX_SCALE"), (9, u "LOG2_ARRAY_BYTE_INDEX_SCALE"), (5, u "LOG2_ARRAY_CHAR_INDEX_SCALE"), (5, u "LOG2_ARRAY_SHORT_INDEX_SCALE"), (18, u "LOG2_ARRAY_FLOAT_INDEX_SCALE"), (24, u "LOG2_ARRAY_DOUBLE_INDEX_SCALE"), (6, .methodref 195 196), (0, .class_ 197), (0, .nameAndType 198 199), (0, u "java/lang/Math"), (0, u "max"), (0, u "(II)I"), (0, .integer 2147483639), (76, u "T_BOOLEAN"), (2, u "T_CHAR"), (1, u "T_FLOAT"), (1, u "T_DOUBLE"), (1, u "T_BYTE"), (1, u "T_SHORT"), (1, u "T_INT"), (1, u "T_LONG"), (1, u "SOFT_MAX_ARRAY_LENGTH"), (56, u "newLength"), (0, u "(III)I")] 25

def k12m0 : Method := { name := "<init>", desc := "()V", sig := { parameters := [], returnType := none }, accessFlags := 2, code := none }
def k12c1 : Code := { maxStack := 3, maxLocals := 4, code := jdk_48_method_27_code, exceptionTable := #[], attributes := #[] }
def k12m1 : Method := { name := "newLength", desc := "(III)I", sig := { parameters := [.int, .int, .int], returnType := some .int }, accessFlags := 9, code := some k12c1 }
/-- jdk/internal/util/ArraysSupport -/
def k12 : Class := { plain "jdk/internal/util/ArraysSupport" (some 0) with
  accessFlags := 33
  interfaces := #[]
  cf := some (fileOf pool12 21 #[] #[{ accessFlags := 2, nameIndex := 9, descriptorIndex := 19, attributes := #[] }, { accessFlags := 9, nameIndex := 351, descriptorIndex := 352, attributes := #[] }] 33 16 #[] #[{ accessFlags := 24, nameIndex := 28, descriptorIndex := 29, attributes := #[] }, { accessFlags := 26, nameIndex := 38, descriptorIndex := 39, attributes := #[] }, { accessFlags := 25, nameIndex := 121, descriptorIndex := 25, attributes := #[] }, { accessFlags := 25, nameIndex := 131, descriptorIndex := 25, attributes := #[] }, { accessFlags := 25, nameIndex := 137, descriptorIndex := 25, attributes := #[] }, { accessFlags := 25, nameIndex := 143, descriptorIndex := 25, attributes := #[] }, { accessFlags := 25, nameIndex := 53, descriptorIndex := 25, attributes := #[] }, { accessFlags := 25, nameIndex := 24, descriptorIndex := 25, attributes := #[] }, { accessFlags := 25, nameIndex := 162, descriptorIndex := 25, attributes := #[] }, { accessFlags := 25, nameIndex := 187, descriptorIndex := 25, attributes := #[] }, { accessFlags := 26, nameIndex := 48, descriptorIndex := 25, attributes := #[] }, { accessFlags := 25, nameIndex := 277, descriptorIndex := 25, attributes := #[] }, { accessFlags := 25, nameIndex := 280, descriptorIndex := 25, attributes := #[] }, { accessFlags := 25, nameIndex := 282, descriptorIndex := 25, attributes := #[] }, { accessFlags := 25, nameIndex := 284, descriptorIndex := 25, attributes := #[] }, { accessFlags := 25, nameIndex := 286, descriptorIndex := 25, attributes := #[] }, { accessFlags := 25, nameIndex := 288, descriptorIndex := 25, attributes := #[] }, { accessFlags := 25, nameIndex := 290, descriptorIndex := 25, attributes := #[] }, { accessFlags := 25, nameIndex := 292, descriptorIndex := 25, attributes := #[] }, { accessFlags := 26, nameIndex := 108, descriptorIndex := 109, attributes := #[] }, { accessFlags := 25, nameIndex := 294, descriptorIndex := 25, attributes := #[] }])
  fields := #[{ name := "U", type := (.object "jdk/internal/misc/Unsafe"), accessFlags := 24, slot := 0, constantValue := 0 }, { name := "BIG_ENDIAN", type := .boolean, accessFlags := 26, slot := 1, constantValue := 0 }, { name := "LOG2_ARRAY_BOOLEAN_INDEX_SCALE", type := .int, accessFlags := 25, slot := 2, constantValue := 0 }, { name := "LOG2_ARRAY_BYTE_INDEX_SCALE", type := .int, accessFlags := 25, slot := 3, constantValue := 0 }, { name := "LOG2_ARRAY_CHAR_INDEX_SCALE", type := .int, accessFlags := 25, slot := 4, constantValue := 0 }, { name := "LOG2_ARRAY_SHORT_INDEX_SCALE", type := .int, accessFlags := 25, slot := 5, constantValue := 0 }, { name := "LOG2_ARRAY_INT_INDEX_SCALE", type := .int, accessFlags := 25, slot := 6, constantValue := 0 }, { name := "LOG2_ARRAY_LONG_INDEX_SCALE", type := .int, accessFlags := 25, slot := 7, constantValue := 0 }, { name := "LOG2_ARRAY_FLOAT_INDEX_SCALE", type := .int, accessFlags := 25, slot := 8, constantValue := 0 }, { name := "LOG2_ARRAY_DOUBLE_INDEX_SCALE", type := .int, accessFlags := 25, slot := 9, constantValue := 0 }, { name := "LOG2_BYTE_BIT_SIZE", type := .int, accessFlags := 26, slot := 10, constantValue := 0 }, { name := "T_BOOLEAN", type := .int, accessFlags := 25, slot := 11, constantValue := 0 }, { name := "T_CHAR", type := .int, accessFlags := 25, slot := 12, constantValue := 0 }, { name := "T_FLOAT", type := .int, accessFlags := 25, slot := 13, constantValue := 0 }, { name := "T_DOUBLE", type := .int, accessFlags := 25, slot := 14, constantValue := 0 }, { name := "T_BYTE", type := .int, accessFlags := 25, slot := 15, constantValue := 0 }, { name := "T_SHORT", type := .int, accessFlags := 25, slot := 16, constantValue := 0 }, { name := "T_INT", type := .int, accessFlags := 25, slot := 17, constantValue := 0 }, { name := "T_LONG", type := .int, accessFlags := 25, slot := 18, constantValue := 0 }, { name := "JLA", type := (.object "jdk/internal/access/JavaLangAccess"), accessFlags := 26, slot := 19, constantValue := 0 }, { name := "SOFT_MAX_ARRAY_LENGTH", type := .int, accessFlags := 25, slot := 20, constantValue := 0 }]
  methods := #[k12m0, k12m1]
  instanceTypes := #[]
  staticTypes := #[(.object "jdk/internal/misc/Unsafe"), .boolean, .int, .int, .int, .int, .int, .int, .int, .int, .int, .int, .int, .int, .int, .int, .int, .int, .int, (.object "jdk/internal/access/JavaLangAccess"), .int]
  resolved := Array.replicate 378 none
  statics := none }

def pool13 : Array CpInfo := pool [(1, .class_ 2), (0, u "java/lang/Math"), (1, .class_ 6), (1, u "java/lang/Object"), (0, u "<init>"), (0, u "()V"), (89, .class_ 100), (1, u "java/lang/Math$RandomNumberGeneratorHolder"), (23, u "abs"), (0, u "(J)J"), (46, u "negativeZeroFloatBits"), (0, u "J"), (2, u "negativeZeroDoubleBits"), (21, u "max"), (2, u "min"), (43, u "$assertionsDisabled"), (0, u "Z"), (88, u "(II)I"), (2, u "twoToTheDoubleScaleDown"), (0, u "D"), (4, u "twoToTheDoubleScaleUp"), (9, u "E"), (3, u "PI"), (2, u "TAU"), (2, u "DEGREES_TO_RADIANS"), (0, u "RADIANS_TO_DEGREES")] 94

def k13m0 : Method := { name := "<init>", desc := "()V", sig := { parameters := [], returnType := none }, accessFlags := 2, code := none }
def k13c1 : Code := { maxStack := 4, maxLocals := 2, code := jdk_29_method_61_code, exceptionTable := #[], attributes := #[] }
def k13m1 : Method := { name := "abs", desc := "(J)J", sig := { parameters := [.long], returnType := some .long }, accessFlags := 9, code := some k13c1 }
def k13c2 : Code := { maxStack := 2, maxLocals := 2, code := jdk_29_method_65_code, exceptionTable := #[], attributes := #[] }
def k13m2 : Method := { name := "max", desc := "(II)I", sig := { parameters := [.int, .int], returnType := some .int }, accessFlags := 9, code := some k13c2 }
def k13c3 : Code := { maxStack := 2, maxLocals := 2, code := jdk_29_method_69_code, exceptionTable := #[], attributes := #[] }
def k13m3 : Method := { name := "min", desc := "(II)I", sig := { parameters := [.int, .int], returnType := some .int }, accessFlags := 9, code := some k13c3 }
/-- java/lang/Math -/
def k13 : Class := { plain "java/lang/Math" (some 0) with
  accessFlags := 49
  interfaces := #[]
  cf := some (fileOf pool13 1 #[.nestMembers #[98]] #[{ accessFlags := 2, nameIndex := 7, descriptorIndex := 8, attributes := #[] }, { accessFlags := 9, nameIndex := 124, descriptorIndex := 125, attributes := #[] }, { accessFlags := 9, nameIndex := 198, descriptorIndex := 335, attributes := #[] }, { accessFlags := 9, nameIndex := 201, descriptorIndex := 335, attributes := #[] }] 49 4 #[] #[{ accessFlags := 25, nameIndex := 354, descriptorIndex := 339, attributes := #[] }, { accessFlags := 25, nameIndex := 358, descriptorIndex := 339, attributes := #[] }, { accessFlags := 25, nameIndex := 361, descriptorIndex := 339, attributes := #[] }, { accessFlags := 26, nameIndex := 364, descriptorIndex := 339, attributes := #[] }, { accessFlags := 26, nameIndex := 365, descriptorIndex := 339, attributes := #[] }, { accessFlags := 26, nameIndex := 172, descriptorIndex := 173, attributes := #[] }, { accessFlags := 26, nameIndex := 176, descriptorIndex := 173, attributes := #[] }, { accessFlags := 8, nameIndex := 344, descriptorIndex := 339, attributes := #[] }, { accessFlags := 8, nameIndex := 338, descriptorIndex := 339, attributes := #[] }, { accessFlags := 4120, nameIndex := 245, descriptorIndex := 246, attributes := #[] }])
  fields := #[{ name := "E", type := .double, accessFlags := 25, slot := 0, constantValue := 0 }, { name := "PI", type := .double, accessFlags := 25, slot := 1, constantValue := 0 }, { name := "TAU", type := .double, accessFlags := 25, slot := 2, constantValue := 0 }, { name := "DEGREES_TO_RADIANS", type := .double, accessFlags := 26, slot := 3, constantValue := 0 }, { name := "RADIANS_TO_DEGREES", type := .double, accessFlags := 26, slot := 4, constantValue := 0 }, { name := "negativeZeroFloatBits", type := .long, accessFlags := 26, slot := 5, constantValue := 0 }, { name := "negativeZeroDoubleBits", type := .long, accessFlags := 26, slot := 6, constantValue := 0 }, { name := "twoToTheDoubleScaleUp", type := .double, accessFlags := 8, slot := 7, constantValue := 0 }, { name := "twoToTheDoubleScaleDown", type := .double, accessFlags := 8, slot := 8, constantValue := 0 }, { name := "$assertionsDisabled", type := .boolean, accessFlags := 4120, slot := 9, constantValue := 0 }]
  methods := #[k13m0, k13m1, k13m2, k13m3]
  instanceTypes := #[]
  staticTypes := #[.double, .double, .double, .double, .double, .long, .long, .double, .double, .boolean]
  resolved := Array.replicate 460 none
  statics := none }

def pool14 : Array CpInfo := pool [(2, .class_ 4), (1, u "java/lang/Object"), (0, u "<init>"), (0, u "()V"), (7, .class_ 16), (1, u "java/util/Arrays"), (57, .class_ 76), (1, u "java/util/Arrays$NaturalOrder"), (36, .class_ 115), (1, u "java/util/Arrays$LegacyMergeSort"), (1, u "Z"), (21, u "copyOfRange"), (10, .methodref 151 152), (0, .class_ 153), (0, .nameAndType 154 155), (0, u "java/lang/System"), (0, u "arraycopy"), (0, u "(Ljava/lang/Object;ILjava/lang/Object;II)V"), (146, u "copyOf"), (1, .methodref 305 306), (0, .class_ 307), (0, .nameAndType 308 309), (0, u "java/lang/Math"), (0, u "min"), (0, u "(II)I"), (29, .methodref 14 340), (0, .nameAndType 341 342), (0, u "copyOfRangeByte"), (0, u "([BII)[B"), (0, .methodref 14 344), (0, .nameAndType 345 346), (0, u "checkLength"), (0, u "(II)V"), (28, .class_ 376), (0, u "java/util/Arrays$ArrayList"), (68, u "$assertionsDisabled"), (269, u "MIN_ARRAY_SORT_GRAN"), (0, u "I"), (2, u "INSERTIONSORT_THRESHOLD"), (149, u "([BI)[B"), (105, .class_ 976), (0, u "java/util/Arrays$ArrayItr")] 52

def k14m0 : Method := { name := "<init>", desc := "()V", sig := { parameters := [], returnType := none }, accessFlags := 2, code := none }
def k14c1 : Code := { maxStack := 6, maxLocals := 3, code := jdk_65_method_121_code, exceptionTable := #[], attributes := #[] }
def k14m1 : Method := { name := "copyOf", desc := "([BI)[B", sig := { parameters := [(.array .byte), .int], returnType := some (.array .byte) }, accessFlags := 9, code := some k14c1 }
def k14c2 : Code := { maxStack := 4, maxLocals := 2, code := jdk_65_method_131_code, exceptionTable := #[], attributes := #[] }
def k14m2 : Method := { name := "checkLength", desc := "(II)V", sig := { parameters := [.int, .int], returnType := none }, accessFlags := 10, code := some k14c2 }
def k14c3 : Code := { maxStack := 3, maxLocals := 3, code := jdk_65_method_132_code, exceptionTable := #[], attributes := #[] }
def k14m3 : Method := { name := "copyOfRange", desc := "([BII)[B", sig := { parameters := [(.array .byte), .int, .int], returnType := some (.array .byte) }, accessFlags := 9, code := some k14c3 }
def k14c4 : Code := { maxStack := 6, maxLocals := 5, code := jdk_65_method_133_code, exceptionTable := #[], attributes := #[] }
def k14m4 : Method := { name := "copyOfRangeByte", desc := "([BII)[B", sig := { parameters := [(.array .byte), .int, .int], returnType := some (.array .byte) }, accessFlags := 10, code := some k14c4 }
/-- java/util/Arrays -/
def k14 : Class := { plain "java/util/Arrays" (some 0) with
  accessFlags := 49
  interfaces := #[]
  cf := some (fileOf pool14 14 #[.nestMembers #[975, 375, 113, 74]] #[{ accessFlags := 2, nameIndex := 5, descriptorIndex := 6, attributes := #[] }, { accessFlags := 9, nameIndex := 302, descriptorIndex := 869, attributes := #[] }, { accessFlags := 10, nameIndex := 345, descriptorIndex := 346, attributes := #[] }, { accessFlags := 9, nameIndex := 139, descriptorIndex := 342, attributes := #[] }, { accessFlags := 10, nameIndex := 341, descriptorIndex := 342, attributes := #[] }] 49 2 #[] #[{ accessFlags := 26, nameIndex := 715, descriptorIndex := 716, attributes := #[] }, { accessFlags := 26, nameIndex := 719, descriptorIndex := 716, attributes := #[] }, { accessFlags := 4120, nameIndex := 445, descriptorIndex := 117, attributes := #[] }])
  fields := #[{ name := "MIN_ARRAY_SORT_GRAN", type := .int, accessFlags := 26, slot := 0, constantValue := 0 }, { name := "INSERTIONSORT_THRESHOLD", type := .int, accessFlags := 26, slot := 1, constantValue := 0 }, { name := "$assertionsDisabled", type := .boolean, accessFlags := 4120, slot := 2, constantValue := 0 }]
  methods := #[k14m0, k14m1, k14m2, k14m3, k14m4]
  instanceTypes := #[]
  staticTypes := #[.int, .int, .boolean]
  resolved := Array.replicate 1029 none
  statics := none }

def pool15 : Array CpInfo := pool [(2, .class_ 4), (1, u "java/lang/Object"), (0, u "<init>"), (0, u "()V"), (1, .class_ 10), (1, u "java/lang/System"), (0, u "allowSecurityManager"), (0, u "I"), (16, u "cons"), (0, u "Ljava/io/Console;"), (77, .class_ 110), (1, u "java/lang/System$CallersHolder"), (43, u "initialErrStream"), (0, u "Ljava/io/PrintStream;"), (19, u "security"), (0, u "Ljava/lang/SecurityManager;"), (31, .class_ 209), (0, u "java/lang/System$1"), (7, u "props"), (0, u "Ljava/util/Properties;"), (2, u "lineSeparator"), (0, u "Ljava/lang/String;"), (96, .class_ 321), (1, u "java/lang/System$LoggerFinder"), (5, .class_ 328), (0, u "java/lang/System$Logger"), (67, u "err"), (2, u "out"), (91, u "notSupportedJnuEncoding"), (15, u "in"), (17, u "initialIn"), (0, u "Ljava/io/InputStream;"), (35, u "bootLayer"), (0, u "Ljava/lang/ModuleLayer;"), (99, .class_ 664), (0, u "java/lang/System$2"), (9, u "NEVER"), (2, u "MAYBE"), (49, u "arraycopy"), (0, u "(Ljava/lang/Object;ILjava/lang/Object;II)V"), (72, .class_ 802), (0, u "java/lang/System$Logger$Level")] 31

def k15m0 : Method := { name := "<init>", desc := "()V", sig := { parameters := [], returnType := none }, accessFlags := 2, code := none }
def k15m1 : Method := { name := "arraycopy", desc := "(Ljava/lang/Object;ILjava/lang/Object;II)V", sig := { parameters := [(.object "java/lang/Object"), .int, (.object "java/lang/Object"), .int, .int], returnType := none }, accessFlags := 265, code := none }
/-- java/lang/System -/
def k15 : Class := { plain "java/lang/System" (some 0) with
  accessFlags := 49
  interfaces := #[]
  cf := some (fileOf pool15 8 #[.nestMembers #[319, 327, 801, 108, 663, 208]] #[{ accessFlags := 2, nameIndex := 5, descriptorIndex := 6, attributes := #[] }, { accessFlags := 265, nameIndex := 727, descriptorIndex := 728, attributes := #[] }] 49 2 #[] #[{ accessFlags := 25, nameIndex := 507, descriptorIndex := 526, attributes := #[] }, { accessFlags := 25, nameIndex := 399, descriptorIndex := 155, attributes := #[] }, { accessFlags := 25, nameIndex := 396, descriptorIndex := 155, attributes := #[] }, { accessFlags := 10, nameIndex := 525, descriptorIndex := 526, attributes := #[] }, { accessFlags := 26, nameIndex := 674, descriptorIndex := 12, attributes := #[] }, { accessFlags := 26, nameIndex := 677, descriptorIndex := 12, attributes := #[] }, { accessFlags := 10, nameIndex := 11, descriptorIndex := 12, attributes := #[] }, { accessFlags := 74, nameIndex := 175, descriptorIndex := 176, attributes := #[] }, { accessFlags := 10, nameIndex := 491, descriptorIndex := 222, attributes := #[] }, { accessFlags := 74, nameIndex := 29, descriptorIndex := 30, attributes := #[] }, { accessFlags := 74, nameIndex := 154, descriptorIndex := 155, attributes := #[] }, { accessFlags := 10, nameIndex := 217, descriptorIndex := 218, attributes := #[] }, { accessFlags := 10, nameIndex := 221, descriptorIndex := 222, attributes := #[] }, { accessFlags := 8, nameIndex := 562, descriptorIndex := 563, attributes := #[] }])
  fields := #[{ name := "in", type := (.object "java/io/InputStream"), accessFlags := 25, slot := 0, constantValue := 0 }, { name := "out", type := (.object "java/io/PrintStream"), accessFlags := 25, slot := 1, constantValue := 0 }, { name := "err", type := (.object "java/io/PrintStream"), accessFlags := 25, slot := 2, constantValue := 0 }, { name := "initialIn", type := (.object "java/io/InputStream"), accessFlags := 10, slot := 3, constantValue := 0 }, { name := "NEVER", type := .int, accessFlags := 26, slot := 4, constantValue := 0 }, { name := "MAYBE", type := .int, accessFlags := 26, slot := 5, constantValue := 0 }, { name := "allowSecurityManager", type := .int, accessFlags := 10, slot := 6, constantValue := 0 }, { name := "security", type := (.object "java/lang/SecurityManager"), accessFlags := 74, slot := 7, constantValue := 0 }, { name := "notSupportedJnuEncoding", type := (.object "java/lang/String"), accessFlags := 10, slot := 8, constantValue := 0 }, { name := "cons", type := (.object "java/io/Console"), accessFlags := 74, slot := 9, constantValue := 0 }, { name := "initialErrStream", type := (.object "java/io/PrintStream"), accessFlags := 74, slot := 10, constantValue := 0 }, { name := "props", type := (.object "java/util/Properties"), accessFlags := 10, slot := 11, constantValue := 0 }, { name := "lineSeparator", type := (.object "java/lang/String"), accessFlags := 10, slot := 12, constantValue := 0 }, { name := "bootLayer", type := (.object "java/lang/ModuleLayer"), accessFlags := 8, slot := 13, constantValue := 0 }]
  methods := #[k15m0, k15m1]
  instanceTypes := #[]
  staticTypes := #[(.object "java/io/InputStream"), (.object "java/io/PrintStream"), (.object "java/io/PrintStream"), (.object "java/io/InputStream"), .int, .int, .int, (.object "java/lang/SecurityManager"), (.object "java/lang/String"), (.object "java/io/Console"), (.object "java/io/PrintStream"), (.object "java/util/Properties"), (.object "java/lang/String"), (.object "java/lang/ModuleLayer")]
  resolved := Array.replicate 834 none
  statics := none }

def pool16 : Array CpInfo := pool [(2, .class_ 4), (1, u "java/lang/Object"), (0, u "<init>"), (0, u "()V"), (1, .class_ 10), (1, u "java/lang/Number"), (2, .class_ 14), (0, u "java/io/Serializable"), (0, u "serialVersionUID"), (0, u "J")] 20

def k16m0 : Method := { name := "<init>", desc := "()V", sig := { parameters := [], returnType := none }, accessFlags := 1, code := none }
/-- java/lang/Number -/
def k16 : Class := { plain "java/lang/Number" (some 0) with
  accessFlags := 1057
  interfaces := #[6]
  cf := some (fileOf pool16 8 #[] #[{ accessFlags := 1, nameIndex := 5, descriptorIndex := 6, attributes := #[] }] 1057 2 #[13] #[{ accessFlags := 26, nameIndex := 15, descriptorIndex := 16, attributes := #[] }])
  fields := #[{ name := "serialVersionUID", type := .long, accessFlags := 26, slot := 0, constantValue := 0 }]
  methods := #[k16m0]
  instanceTypes := #[]
  staticTypes := #[.long]
  resolved := Array.replicate 37 none
  statics := none }

def pool17 : Array CpInfo := pool [(1, .class_ 2), (0, u "java/lang/Integer"), (16, u "digits"), (0, u "[C"), (33, u "(I)I"), (19, u "stringSize"), (2, u "getChars"), (0, u "(II[B)I"), (4, .fieldref 1 84), (0, .nameAndType 85 86), (0, u "DigitOnes"), (0, u "[B"), (0, .fieldref 1 88), (0, .nameAndType 89 86), (0, u "DigitTens"), (99, .class_ 190), (0, u "java/lang/Integer$IntegerCache"), (3, u "I"), (8, .class_ 204), (0, u "java/lang/Number"), (2, u "value"), (94, u "TYPE"), (0, u "Ljava/lang/Class;"), (0, .class_ 305), (0, u "java/lang/Comparable"), (0, .class_ 307), (0, u "java/lang/constant/Constable"), (0, .class_ 309), (0, u "java/lang/constant/ConstantDesc"), (0, u "MIN_VALUE"), (1, u "MAX_VALUE"), (3, u "SIZE"), (1, u "BYTES"), (1, u "serialVersionUID"), (0, u "J")] 131

def k17c0 : Code := { maxStack := 4, maxLocals := 7, code := jdk_33_method_12_code, exceptionTable := #[], attributes := #[] }
def k17m0 : Method := { name := "getChars", desc := "(II[B)I", sig := { parameters := [.int, .int, (.array .byte)], returnType := some .int }, accessFlags := 8, code := some k17c0 }
def k17c1 : Code := { maxStack := 2, maxLocals := 4, code := jdk_33_method_13_code, exceptionTable := #[], attributes := #[] }
def k17m1 : Method := { name := "stringSize", desc := "(I)I", sig := { parameters := [.int], returnType := some .int }, accessFlags := 8, code := some k17c1 }
/-- java/lang/Integer -/
def k17 : Class := { plain "java/lang/Integer" (some 16) with
  accessFlags := 49
  interfaces := #[7, 9, 10]
  cf := some (fileOf pool17 1 #[.nestMembers #[189]] #[{ accessFlags := 8, nameIndex := 77, descriptorIndex := 78, attributes := #[] }, { accessFlags := 8, nameIndex := 74, descriptorIndex := 54, attributes := #[] }] 49 203 #[304, 306, 308] #[{ accessFlags := 25, nameIndex := 310, descriptorIndex := 194, attributes := #[] }, { accessFlags := 25, nameIndex := 312, descriptorIndex := 194, attributes := #[] }, { accessFlags := 25, nameIndex := 302, descriptorIndex := 303, attributes := #[] }, { accessFlags := 24, nameIndex := 19, descriptorIndex := 20, attributes := #[] }, { accessFlags := 24, nameIndex := 89, descriptorIndex := 86, attributes := #[] }, { accessFlags := 24, nameIndex := 85, descriptorIndex := 86, attributes := #[] }, { accessFlags := 18, nameIndex := 207, descriptorIndex := 194, attributes := #[] }, { accessFlags := 25, nameIndex := 316, descriptorIndex := 194, attributes := #[] }, { accessFlags := 25, nameIndex := 318, descriptorIndex := 194, attributes := #[] }, { accessFlags := 26, nameIndex := 320, descriptorIndex := 321, attributes := #[] }])
  fields := #[{ name := "MIN_VALUE", type := .int, accessFlags := 25, slot := 0, constantValue := 0 }, { name := "MAX_VALUE", type := .int, accessFlags := 25, slot := 1, constantValue := 0 }, { name := "TYPE", type := (.object "java/lang/Class"), accessFlags := 25, slot := 2, constantValue := 0 }, { name := "digits", type := (.array .char), accessFlags := 24, slot := 3, constantValue := 0 }, { name := "DigitTens", type := (.array .byte), accessFlags := 24, slot := 4, constantValue := 0 }, { name := "DigitOnes", type := (.array .byte), accessFlags := 24, slot := 5, constantValue := 0 }, { name := "value", type := .int, accessFlags := 18, slot := 0, constantValue := 0 }, { name := "SIZE", type := .int, accessFlags := 25, slot := 6, constantValue := 0 }, { name := "BYTES", type := .int, accessFlags := 25, slot := 7, constantValue := 0 }, { name := "serialVersionUID", type := .long, accessFlags := 26, slot := 8, constantValue := 0 }]
  methods := #[k17m0, k17m1]
  instanceTypes := #[.int]
  staticTypes := #[.int, .int, (.object "java/lang/Class"), (.array .char), (.array .byte), (.array .byte), .int, .int, .long]
  resolved := Array.replicate 453 none
  statics := some 1 }

def pool18 : Array CpInfo := pool [(1, .class_ 2), (0, u "java/lang/String"), (1, .class_ 6), (1, u "java/lang/Object"), (0, u "<init>"), (0, u "()V"), (0, .methodref 1 10), (0, .nameAndType 11 12), (0, u "checkIndex"), (0, u "(II)V"), (1, .class_ 16), (1, u "java/lang/StringLatin1"), (36, u "([BI)C"), (67, u "$assertionsDisabled"), (0, u "Z"), (98, .class_ 223), (1, u "java/lang/StringLatin1$LinesSpliterator"), (28, u "charAt"), (28, u "equals"), (0, u "([B[B)Z"), (107, .class_ 391), (0, u "java/lang/StringLatin1$CharsSpliterator")] 3

def k18m0 : Method := { name := "<init>", desc := "()V", sig := { parameters := [], returnType := none }, accessFlags := 0, code := none }
def k18c1 : Code := { maxStack := 2, maxLocals := 2, code := jdk_43_method_2_code, exceptionTable := #[], attributes := #[] }
def k18m1 : Method := { name := "charAt", desc := "([BI)C", sig := { parameters := [(.array .byte), .int], returnType := some .char }, accessFlags := 9, code := some k18c1 }
def k18c2 : Code := { maxStack := 3, maxLocals := 3, code := jdk_43_method_13_code, exceptionTable := #[], attributes := #[] }
def k18m2 : Method := { name := "equals", desc := "([B[B)Z", sig := { parameters := [(.array .byte), (.array .byte)], returnType := some .boolean }, accessFlags := 9, code := some k18c2 }
/-- java/lang/StringLatin1 -/
def k18 : Class := { plain "java/lang/StringLatin1" (some 0) with
  accessFlags := 48
  interfaces := #[]
  cf := some (fileOf pool18 14 #[.nestMembers #[390, 221]] #[{ accessFlags := 0, nameIndex := 7, descriptorIndex := 8, attributes := #[] }, { accessFlags := 9, nameIndex := 252, descriptorIndex := 53, attributes := #[] }, { accessFlags := 9, nameIndex := 281, descriptorIndex := 282, attributes := #[] }] 48 4 #[] #[{ accessFlags := 4120, nameIndex := 121, descriptorIndex := 122, attributes := #[] }])
  fields := #[{ name := "$assertionsDisabled", type := .boolean, accessFlags := 4120, slot := 0, constantValue := 0 }]
  methods := #[k18m0, k18m1, k18m2]
  instanceTypes := #[]
  staticTypes := #[.boolean]
  resolved := Array.replicate 395 none
  statics := none }

def pool19 : Array CpInfo := pool [(2, .class_ 4), (1, u "java/lang/Object"), (0, u "<init>"), (0, u "()V"), (17, .class_ 26), (1, u "jdk/internal/util/Preconditions"), (6, u "checkIndex"), (21, .class_ 56), (0, u "jdk/internal/util/Preconditions$4"), (57, .class_ 115), (0, u "jdk/internal/util/Preconditions$1"), (7, u "SIOOBE_FORMATTER"), (0, u "Ljava/util/function/BiFunction;"), (0, .class_ 126), (0, u "jdk/internal/util/Preconditions$2"), (3, u "AIOOBE_FORMATTER"), (0, .class_ 132), (0, u "jdk/internal/util/Preconditions$3"), (3, u "IOOBE_FORMATTER"), (41, u "(IILjava/util/function/BiFunction;)I")] 15

def k19m0 : Method := { name := "<init>", desc := "()V", sig := { parameters := [], returnType := none }, accessFlags := 1, code := none }
def k19c1 : Code := { maxStack := 3, maxLocals := 3, code := jdk_41_method_11_code, exceptionTable := #[], attributes := #[] }
def k19m1 : Method := { name := "checkIndex", desc := "(IILjava/util/function/BiFunction;)I", sig := { parameters := [.int, .int, (.object "java/util/function/BiFunction")], returnType := some .int }, accessFlags := 9, code := some k19c1 }
/-- jdk/internal/util/Preconditions -/
def k19 : Class := { plain "jdk/internal/util/Preconditions" (some 0) with
  accessFlags := 33
  interfaces := #[]
  cf := some (fileOf pool19 24 #[.nestMembers #[55, 131, 125, 114]] #[{ accessFlags := 1, nameIndex := 5, descriptorIndex := 6, attributes := #[] }, { accessFlags := 9, nameIndex := 33, descriptorIndex := 178, attributes := #[] }] 33 2 #[] #[{ accessFlags := 25, nameIndex := 123, descriptorIndex := 124, attributes := #[] }, { accessFlags := 25, nameIndex := 130, descriptorIndex := 124, attributes := #[] }, { accessFlags := 25, nameIndex := 136, descriptorIndex := 124, attributes := #[] }])
  fields := #[{ name := "SIOOBE_FORMATTER", type := (.object "java/util/function/BiFunction"), accessFlags := 25, slot := 0, constantValue := 0 }, { name := "AIOOBE_FORMATTER", type := (.object "java/util/function/BiFunction"), accessFlags := 25, slot := 1, constantValue := 0 }, { name := "IOOBE_FORMATTER", type := (.object "java/util/function/BiFunction"), accessFlags := 25, slot := 2, constantValue := 0 }]
  methods := #[k19m0, k19m1]
  instanceTypes := #[]
  staticTypes := #[(.object "java/util/function/BiFunction"), (.object "java/util/function/BiFunction"), (.object "java/util/function/BiFunction")]
  resolved := Array.replicate 194 none
  statics := some 2 }

def pool20 : Array CpInfo := pool [(1, u "java/lang/Cloneable"), (0, .class_ 1), (0, u "java/lang/Object"), (0, .class_ 3)] 3

/-- java/lang/Cloneable -/
def k20 : Class := { plain "java/lang/Cloneable" (some 0) with
  accessFlags := 1537
  interfaces := #[]
  cf := some (fileOf pool20 2 #[] #[] 1537 4 #[] #[])
  fields := #[]
  methods := #[]
  instanceTypes := #[]
  staticTypes := #[]
  resolved := Array.replicate 8 none
  statics := none }

/-- the primitive byte -/
def k21 : Class := { plain "byte" none with kind := .primitive 'B', accessFlags := 0x411 }
/-- [B -/
def k22 : Class := { plain "[B" (some 0) with kind := .array 21 .byte, interfaces := #[20, 6], accessFlags := 1041 }

/-- the primitive int -/
def k23 : Class := { plain "int" none with kind := .primitive 'I', accessFlags := 0x411 }
/-- [I -/
def k24 : Class := { plain "[I" (some 0) with kind := .array 23 .int, interfaces := #[20, 6], accessFlags := 1041 }

def heap : Heap := #[{ cls := 11, slots := #[.long 0, .int 1, .null, .int 0, .null, .int 0, .int 0], vm := .statics 11 },
  { cls := 17, slots := #[.int 0, .int 0, .null, .null, .ref 4, .ref 3, .int 0, .int 0, .long 0], vm := .statics 17 },
  { cls := 19, slots := #[.null, .null, .null], vm := .statics 19 },
  { cls := 22, slots := #[.int 48, .int 49, .int 50, .int 51, .int 52, .int 53, .int 54, .int 55, .int 56, .int 57, .int 48, .int 49, .int 50, .int 51, .int 52, .int 53, .int 54, .int 55, .int 56, .int 57, .int 48, .int 49, .int 50, .int 51, .int 52, .int 53, .int 54, .int 55, .int 56, .int 57, .int 48, .int 49, .int 50, .int 51, .int 52, .int 53, .int 54, .int 55, .int 56, .int 57, .int 48, .int 49, .int 50, .int 51, .int 52, .int 53, .int 54, .int 55, .int 56, .int 57, .int 48, .int 49, .int 50, .int 51, .int 52, .int 53, .int 54, .int 55, .int 56, .int 57, .int 48, .int 49, .int 50, .int 51, .int 52, .int 53, .int 54, .int 55, .int 56, .int 57, .int 48, .int 49, .int 50, .int 51, .int 52, .int 53, .int 54, .int 55, .int 56, .int 57, .int 48, .int 49, .int 50, .int 51, .int 52, .int 53, .int 54, .int 55, .int 56, .int 57, .int 48, .int 49, .int 50, .int 51, .int 52, .int 53, .int 54, .int 55, .int 56, .int 57], vm := .none },
  { cls := 22, slots := #[.int 48, .int 48, .int 48, .int 48, .int 48, .int 48, .int 48, .int 48, .int 48, .int 48, .int 49, .int 49, .int 49, .int 49, .int 49, .int 49, .int 49, .int 49, .int 49, .int 49, .int 50, .int 50, .int 50, .int 50, .int 50, .int 50, .int 50, .int 50, .int 50, .int 50, .int 51, .int 51, .int 51, .int 51, .int 51, .int 51, .int 51, .int 51, .int 51, .int 51, .int 52, .int 52, .int 52, .int 52, .int 52, .int 52, .int 52, .int 52, .int 52, .int 52, .int 53, .int 53, .int 53, .int 53, .int 53, .int 53, .int 53, .int 53, .int 53, .int 53, .int 54, .int 54, .int 54, .int 54, .int 54, .int 54, .int 54, .int 54, .int 54, .int 54, .int 55, .int 55, .int 55, .int 55, .int 55, .int 55, .int 55, .int 55, .int 55, .int 55, .int 56, .int 56, .int 56, .int 56, .int 56, .int 56, .int 56, .int 56, .int 56, .int 56, .int 57, .int 57, .int 57, .int 57, .int 57, .int 57, .int 57, .int 57, .int 57, .int 57], vm := .none }]
def classes : Array Class := #[k0, k1, k2, k3, k4, k5, k6, k7, k8, k9, k10, k11, k12, k13, k14, k15, k16, k17, k18, k19, k20, k21, k22, k23, k24]
def interned : List (Array UInt16 × Addr) := []
def slotsUsed : Nat := 219
def theMethod : MethodId := ⟨1, 1⟩
def args0 : Array Value := #[.int 5, .int 7]
def aboutOver (below : List Frame) : State where
  vm := { classes := classes, interned := interned.toArray }
  heap := heap
  slotsUsed := slotsUsed
  threads := #[{ frames := .invoking theMethod args0 :: below }]
def below0 : List Frame := [.native { method := ⟨0, 0⟩, args := #[] }]
def about1 : State := aboutOver below0
def p0 : Program := .bare "" "" ""
def e0 : Env := launch0.env 0 0 0
theorem w_frames : about1.frames = Frame.invoking theMethod args0 :: below0 := rfl
set_option maxRecDepth 65536 in
theorem w_args : argsFit about1.vm theMethod args0 = true := by decide +kernel
set_option maxRecDepth 65536 in
theorem w_heap : heapFits about1 = true := by decide +kernel
set_option maxRecDepth 65536 in
theorem w_runnable : about1.curStatus? = some .runnable := by decide +kernel
set_option maxRecDepth 65536 in
theorem w_alone : about1.alone = true := by decide +kernel
set_option maxRecDepth 65536 in
theorem w_named : about1.methodNamed? x = some theMethod := by decide +kernel
set_option maxRecDepth 65536 in
theorem w_hears : about1.hears theMethod below0 = true := by decide +kernel
set_option maxRecDepth 65536 in
theorem w_ripe : about1.ripe theMethod args0 below0 = true := by decide +kernel
theorem w_running : about1.status = .running := rfl
set_option maxRecDepth 65536 in
theorem w_room : about1.hasRoom e0.platform room_1 = true :=
  launch0.hasRoom_least _ room_1 (by decide +kernel) (by decide +kernel) (by decide +kernel) (by decide +kernel) (by decide +kernel) (by decide +kernel)
theorem allAtoms_all (ts : List Jvm.Cond) (a : Array Jvm.Value) (st : Jvm.State) : (allAtoms ts).before a st = ts.all (fun c => c.before a st) := by
  induction ts with
  | nil => rfl
  | cons c t ih =>
    show (Jvm.Cond.and c (allAtoms t)).before a st = _
    rw [Jvm.Cond.before_and, ih, List.all_cons]
def words1 : List Jvm.Cond := Jvm.Cond.code x code maxLocals ret :: tables_1
/-- a 'code' word, met by the world's own term for the bytes: nothing is compared byte by byte -/
theorem code_word {y : MethodName} {bytes : ByteArray} {mx : Nat} {rt : Option FieldType} {a : Array Value} {s : State} {m : MethodId} {meth : Method} {c : Code} (h1 : s.methodNamed? y = some m) (h2 : s.vm.method? m = some meth) (h3 : meth.code = some c) (h4 : c.code = bytes)
    (h5 : (c.maxLocals == mx && c.exceptionTable.isEmpty && decide (c.maxStack ≤ mostOperands) && decide (meth.sig.returnType = rt) && !meth.locks && decide (parseMethodDescriptor y.desc = some meth.sig)) = true) : (Jvm.Cond.code y bytes mx rt).before a s = true := by
  simp only [Bool.and_eq_true, beq_iff_eq, Bool.not_eq_true', decide_eq_true_eq] at h5
  obtain ⟨⟨⟨⟨⟨g1, g2⟩, g3⟩, g4⟩, g5⟩, g6⟩ := h5
  simp [Cond.before, Cond.holds, Cond.value, h1, h2, h3, h4, g1, g2, g3, g4, g5, g6]
def isCode : Jvm.Cond → Bool
  | .code _ _ _ _ => true
  | _ => false
theorem all_split {L : List Jvm.Cond} {P : Jvm.Cond → Bool} (h1 : L.all (fun c => isCode c || P c) = true) (h2 : ∀ c ∈ L.filter isCode, P c = true) : L.all P = true := by
  refine List.all_eq_true.mpr fun c hc => ?_
  have h := List.all_eq_true.mp h1 c hc
  rcases Bool.eq_false_or_eq_true (isCode c) with hi | hi
  · exact h2 c (List.mem_filter.mpr ⟨hc, hi⟩)
  · simpa [hi] using h
set_option maxRecDepth 65536 in
theorem w_c0 : (Jvm.Cond.code x code maxLocals ret).before args0 about1 = true := code_word (m := ⟨1, 1⟩) (meth := k1m1) (c := k1c1) (by decide +kernel) rfl rfl rfl (by decide +kernel)
set_option maxRecDepth 65536 in
theorem w_c1 : (Jvm.Cond.code ({ cls := "com/example/chatham/chatham/pattern/SemaphoreBulkheadSnapshot", name := "<init>", desc := "(II)V" } : Jvm.MethodName) prog_39_method_1_code (3 : Nat) (Option.none : Option Jvm.ClassFile.FieldType)).before args0 about1 = true := code_word (m := ⟨2, 0⟩) (meth := k2m0) (c := k2c0) (by decide +kernel) rfl rfl rfl (by decide +kernel)
set_option maxRecDepth 65536 in
theorem w_c2 : (Jvm.Cond.code ({ cls := "java/lang/Object", name := "<init>", desc := "()V" } : Jvm.MethodName) object_method_1_code (1 : Nat) (Option.none : Option Jvm.ClassFile.FieldType)).before args0 about1 = true := code_word (m := ⟨0, 0⟩) (meth := k0m0) (c := k0c0) (by decide +kernel) rfl rfl rfl (by decide +kernel)
set_option maxRecDepth 65536 in
theorem w_c3 : (Jvm.Cond.code ({ cls := "com/example/chatham/chatham/pattern/SemaphoreBulkheadSnapshot", name := "toString", desc := "()Ljava/lang/String;" } : Jvm.MethodName) prog_39_method_4_code (1 : Nat) (Option.some (Jvm.ClassFile.FieldType.object "java/lang/String"))).before args0 about1 = true := code_word (m := ⟨2, 1⟩) (meth := k2m1) (c := k2c1) (by decide +kernel) rfl rfl rfl (by decide +kernel)
set_option maxRecDepth 65536 in
theorem w_c4 : (Jvm.Cond.code ({ cls := "java/lang/StringBuilder", name := "<init>", desc := "()V" } : Jvm.MethodName) jdk_67_method_1_code (1 : Nat) (Option.none : Option Jvm.ClassFile.FieldType)).before args0 about1 = true := code_word (m := ⟨8, 0⟩) (meth := k8m0) (c := k8c0) (by decide +kernel) rfl rfl rfl (by decide +kernel)
set_option maxRecDepth 65536 in
theorem w_c5 : (Jvm.Cond.code ({ cls := "java/lang/AbstractStringBuilder", name := "<init>", desc := "(I)V" } : Jvm.MethodName) jdk_68_method_2_code (2 : Nat) (Option.none : Option Jvm.ClassFile.FieldType)).before args0 about1 = true := code_word (m := ⟨5, 1⟩) (meth := k5m1) (c := k5c1) (by decide +kernel) rfl rfl rfl (by decide +kernel)
set_option maxRecDepth 65536 in
theorem w_c6 : (Jvm.Cond.code ({ cls := "java/lang/StringBuilder", name := "append", desc := "(Ljava/lang/String;)Ljava/lang/StringBuilder;" } : Jvm.MethodName) jdk_67_method_7_code (2 : Nat) (Option.some (Jvm.ClassFile.FieldType.object "java/lang/StringBuilder"))).before args0 about1 = true := code_word (m := ⟨8, 1⟩) (meth := k8m1) (c := k8c1) (by decide +kernel) rfl rfl rfl (by decide +kernel)
set_option maxRecDepth 65536 in
theorem w_c7 : (Jvm.Cond.code ({ cls := "java/lang/AbstractStringBuilder", name := "append", desc := "(Ljava/lang/String;)Ljava/lang/AbstractStringBuilder;" } : Jvm.MethodName) jdk_68_method_22_code (3 : Nat) (Option.some (Jvm.ClassFile.FieldType.object "java/lang/AbstractStringBuilder"))).before args0 about1 = true := code_word (m := ⟨5, 5⟩) (meth := k5m5) (c := k5c5) (by decide +kernel) rfl rfl rfl (by decide +kernel)
set_option maxRecDepth 65536 in
theorem w_c8 : (Jvm.Cond.code ({ cls := "java/lang/String", name := "length", desc := "()I" } : Jvm.MethodName) jdk_42_method_54_code (1 : Nat) (Option.some Jvm.ClassFile.FieldType.int)).before args0 about1 = true := code_word (m := ⟨11, 2⟩) (meth := k11m2) (c := k11c2) (by decide +kernel) rfl rfl rfl (by decide +kernel)
set_option maxRecDepth 65536 in
theorem w_c9 : (Jvm.Cond.code ({ cls := "java/lang/String", name := "coder", desc := "()B" } : Jvm.MethodName) jdk_42_method_152_code (1 : Nat) (Option.some Jvm.ClassFile.FieldType.byte)).before args0 about1 = true := code_word (m := ⟨11, 7⟩) (meth := k11m7) (c := k11c7) (by decide +kernel) rfl rfl rfl (by decide +kernel)
set_option maxRecDepth 65536 in
theorem w_c10 : (Jvm.Cond.code ({ cls := "java/lang/AbstractStringBuilder", name := "ensureCapacityInternal", desc := "(I)V" } : Jvm.MethodName) jdk_68_method_9_code (3 : Nat) (Option.none : Option Jvm.ClassFile.FieldType)).before args0 about1 = true := code_word (m := ⟨5, 3⟩) (meth := k5m3) (c := k5c3) (by decide +kernel) rfl rfl rfl (by decide +kernel)
set_option maxRecDepth 65536 in
theorem w_c11 : (Jvm.Cond.code ({ cls := "java/lang/AbstractStringBuilder", name := "newCapacity", desc := "(I)I" } : Jvm.MethodName) jdk_68_method_10_code (6 : Nat) (Option.some Jvm.ClassFile.FieldType.int)).before args0 about1 = true := code_word (m := ⟨5, 4⟩) (meth := k5m4) (c := k5c4) (by decide +kernel) rfl rfl rfl (by decide +kernel)
set_option maxRecDepth 65536 in
theorem w_c12 : (Jvm.Cond.code ({ cls := "jdk/internal/util/ArraysSupport", name := "newLength", desc := "(III)I" } : Jvm.MethodName) jdk_48_method_27_code (4 : Nat) (Option.some Jvm.ClassFile.FieldType.int)).before args0 about1 = true := code_word (m := ⟨12, 1⟩) (meth := k12m1) (c := k12c1) (by decide +kernel) rfl rfl rfl (by decide +kernel)
set_option maxRecDepth 65536 in
theorem w_c13 : (Jvm.Cond.code ({ cls := "java/lang/Math", name := "max", desc := "(II)I" } : Jvm.MethodName) jdk_29_method_65_code (2 : Nat) (Option.some Jvm.ClassFile.FieldType.int)).before args0 about1 = true := code_word (m := ⟨13, 2⟩) (meth := k13m2) (c := k13c2) (by decide +kernel) rfl rfl rfl (by decide +kernel)
set_option maxRecDepth 65536 in
theorem w_c14 : (Jvm.Cond.code ({ cls := "java/util/Arrays", name := "copyOf", desc := "([BI)[B" } : Jvm.MethodName) jdk_65_method_121_code (3 : Nat) (Option.some (Jvm.ClassFile.FieldType.array Jvm.ClassFile.FieldType.byte))).before args0 about1 = true := code_word (m := ⟨14, 1⟩) (meth := k14m1) (c := k14c1) (by decide +kernel) rfl rfl rfl (by decide +kernel)
set_option maxRecDepth 65536 in
theorem w_c15 : (Jvm.Cond.code ({ cls := "java/lang/Math", name := "min", desc := "(II)I" } : Jvm.MethodName) jdk_29_method_69_code (2 : Nat) (Option.some Jvm.ClassFile.FieldType.int)).before args0 about1 = true := code_word (m := ⟨13, 3⟩) (meth := k13m3) (c := k13c3) (by decide +kernel) rfl rfl rfl (by decide +kernel)
set_option maxRecDepth 65536 in
theorem w_c16 : (Jvm.Cond.code ({ cls := "java/lang/AbstractStringBuilder", name := "putStringAt", desc := "(ILjava/lang/String;)V" } : Jvm.MethodName) jdk_68_method_73_code (3 : Nat) (Option.none : Option Jvm.ClassFile.FieldType)).before args0 about1 = true := code_word (m := ⟨5, 10⟩) (meth := k5m10) (c := k5c10) (by decide +kernel) rfl rfl rfl (by decide +kernel)
set_option maxRecDepth 65536 in
theorem w_c17 : (Jvm.Cond.code ({ cls := "java/lang/AbstractStringBuilder", name := "inflateIfNeededFor", desc := "(Ljava/lang/String;)V" } : Jvm.MethodName) jdk_68_method_71_code (2 : Nat) (Option.none : Option Jvm.ClassFile.FieldType)).before args0 about1 = true := code_word (m := ⟨5, 9⟩) (meth := k5m9) (c := k5c9) (by decide +kernel) rfl rfl rfl (by decide +kernel)
set_option maxRecDepth 65536 in
theorem w_c18 : (Jvm.Cond.code ({ cls := "java/lang/String", name := "getBytes", desc := "([BIB)V" } : Jvm.MethodName) jdk_42_method_147_code (4 : Nat) (Option.none : Option Jvm.ClassFile.FieldType)).before args0 about1 = true := code_word (m := ⟨11, 5⟩) (meth := k11m5) (c := k11c5) (by decide +kernel) rfl rfl rfl (by decide +kernel)
set_option maxRecDepth 65536 in
theorem w_c19 : (Jvm.Cond.code ({ cls := "java/lang/StringBuilder", name := "append", desc := "(I)Ljava/lang/StringBuilder;" } : Jvm.MethodName) jdk_67_method_15_code (2 : Nat) (Option.some (Jvm.ClassFile.FieldType.object "java/lang/StringBuilder"))).before args0 about1 = true := code_word (m := ⟨8, 2⟩) (meth := k8m2) (c := k8c2) (by decide +kernel) rfl rfl rfl (by decide +kernel)
set_option maxRecDepth 65536 in
theorem w_c20 : (Jvm.Cond.code ({ cls := "java/lang/AbstractStringBuilder", name := "append", desc := "(I)Ljava/lang/AbstractStringBuilder;" } : Jvm.MethodName) jdk_68_method_32_code (4 : Nat) (Option.some (Jvm.ClassFile.FieldType.object "java/lang/AbstractStringBuilder"))).before args0 about1 = true := code_word (m := ⟨5, 6⟩) (meth := k5m6) (c := k5c6) (by decide +kernel) rfl rfl rfl (by decide +kernel)
set_option maxRecDepth 65536 in
theorem w_c21 : (Jvm.Cond.code ({ cls := "java/lang/Integer", name := "stringSize", desc := "(I)I" } : Jvm.MethodName) jdk_33_method_13_code (4 : Nat) (Option.some Jvm.ClassFile.FieldType.int)).before args0 about1 = true := code_word (m := ⟨17, 1⟩) (meth := k17m1) (c := k17c1) (by decide +kernel) rfl rfl rfl (by decide +kernel)
set_option maxRecDepth 65536 in
theorem w_c22 : (Jvm.Cond.code ({ cls := "java/lang/AbstractStringBuilder", name := "isLatin1", desc := "()Z" } : Jvm.MethodName) jdk_68_method_68_code (1 : Nat) (Option.some Jvm.ClassFile.FieldType.boolean)).before args0 about1 = true := code_word (m := ⟨5, 8⟩) (meth := k5m8) (c := k5c8) (by decide +kernel) rfl rfl rfl (by decide +kernel)
set_option maxRecDepth 65536 in
theorem w_c23 : (Jvm.Cond.code ({ cls := "java/lang/Integer", name := "getChars", desc := "(II[B)I" } : Jvm.MethodName) jdk_33_method_12_code (7 : Nat) (Option.some Jvm.ClassFile.FieldType.int)).before args0 about1 = true := code_word (m := ⟨17, 0⟩) (meth := k17m0) (c := k17c0) (by decide +kernel) rfl rfl rfl (by decide +kernel)
set_option maxRecDepth 65536 in
theorem w_c24 : (Jvm.Cond.code ({ cls := "java/lang/StringBuilder", name := "toString", desc := "()Ljava/lang/String;" } : Jvm.MethodName) jdk_67_method_42_code (1 : Nat) (Option.some (Jvm.ClassFile.FieldType.object "java/lang/String"))).before args0 about1 = true := code_word (m := ⟨8, 3⟩) (meth := k8m3) (c := k8c3) (by decide +kernel) rfl rfl rfl (by decide +kernel)
set_option maxRecDepth 65536 in
theorem w_c25 : (Jvm.Cond.code ({ cls := "java/lang/String", name := "<init>", desc := "(Ljava/lang/StringBuilder;)V" } : Jvm.MethodName) jdk_42_method_53_code (2 : Nat) (Option.none : Option Jvm.ClassFile.FieldType)).before args0 about1 = true := code_word (m := ⟨11, 1⟩) (meth := k11m1) (c := k11c1) (by decide +kernel) rfl rfl rfl (by decide +kernel)
set_option maxRecDepth 65536 in
theorem w_c26 : (Jvm.Cond.code ({ cls := "java/lang/String", name := "<init>", desc := "(Ljava/lang/AbstractStringBuilder;Ljava/lang/Void;)V" } : Jvm.MethodName) jdk_42_method_150_code (5 : Nat) (Option.none : Option Jvm.ClassFile.FieldType)).before args0 about1 = true := code_word (m := ⟨11, 6⟩) (meth := k11m6) (c := k11c6) (by decide +kernel) rfl rfl rfl (by decide +kernel)
set_option maxRecDepth 65536 in
theorem w_c27 : (Jvm.Cond.code ({ cls := "java/lang/AbstractStringBuilder", name := "getValue", desc := "()[B" } : Jvm.MethodName) jdk_68_method_64_code (1 : Nat) (Option.some (Jvm.ClassFile.FieldType.array Jvm.ClassFile.FieldType.byte))).before args0 about1 = true := code_word (m := ⟨5, 7⟩) (meth := k5m7) (c := k5c7) (by decide +kernel) rfl rfl rfl (by decide +kernel)
set_option maxRecDepth 65536 in
theorem w_c28 : (Jvm.Cond.code ({ cls := "java/lang/StringBuilder", name := "length", desc := "()I" } : Jvm.MethodName) jdk_67_method_93_code (1 : Nat) (Option.some Jvm.ClassFile.FieldType.int)).before args0 about1 = true := code_word (m := ⟨8, 4⟩) (meth := k8m4) (c := k8c4) (by decide +kernel) rfl rfl rfl (by decide +kernel)
set_option maxRecDepth 65536 in
theorem w_c29 : (Jvm.Cond.code ({ cls := "java/lang/AbstractStringBuilder", name := "length", desc := "()I" } : Jvm.MethodName) jdk_68_method_6_code (1 : Nat) (Option.some Jvm.ClassFile.FieldType.int)).before args0 about1 = true := code_word (m := ⟨5, 2⟩) (meth := k5m2) (c := k5c2) (by decide +kernel) rfl rfl rfl (by decide +kernel)
set_option maxRecDepth 65536 in
theorem w_c30 : (Jvm.Cond.code ({ cls := "java/util/Arrays", name := "copyOfRange", desc := "([BII)[B" } : Jvm.MethodName) jdk_65_method_132_code (3 : Nat) (Option.some (Jvm.ClassFile.FieldType.array Jvm.ClassFile.FieldType.byte))).before args0 about1 = true := code_word (m := ⟨14, 3⟩) (meth := k14m3) (c := k14c3) (by decide +kernel) rfl rfl rfl (by decide +kernel)
set_option maxRecDepth 65536 in
theorem w_c31 : (Jvm.Cond.code ({ cls := "java/util/Arrays", name := "copyOfRangeByte", desc := "([BII)[B" } : Jvm.MethodName) jdk_65_method_133_code (5 : Nat) (Option.some (Jvm.ClassFile.FieldType.array Jvm.ClassFile.FieldType.byte))).before args0 about1 = true := code_word (m := ⟨14, 4⟩) (meth := k14m4) (c := k14c4) (by decide +kernel) rfl rfl rfl (by decide +kernel)
set_option maxRecDepth 65536 in
theorem w_c32 : (Jvm.Cond.code ({ cls := "java/util/Arrays", name := "checkLength", desc := "(II)V" } : Jvm.MethodName) jdk_65_method_131_code (2 : Nat) (Option.none : Option Jvm.ClassFile.FieldType)).before args0 about1 = true := code_word (m := ⟨14, 2⟩) (meth := k14m2) (c := k14c2) (by decide +kernel) rfl rfl rfl (by decide +kernel)
set_option maxRecDepth 65536 in
theorem w_c33 : (Jvm.Cond.code ({ cls := "java/lang/String", name := "equals", desc := "(Ljava/lang/Object;)Z" } : Jvm.MethodName) jdk_42_method_66_code (3 : Nat) (Option.some Jvm.ClassFile.FieldType.boolean)).before args0 about1 = true := code_word (m := ⟨11, 4⟩) (meth := k11m4) (c := k11c4) (by decide +kernel) rfl rfl rfl (by decide +kernel)
set_option maxRecDepth 65536 in
theorem w_c34 : (Jvm.Cond.code ({ cls := "java/lang/StringLatin1", name := "equals", desc := "([B[B)Z" } : Jvm.MethodName) jdk_43_method_13_code (3 : Nat) (Option.some Jvm.ClassFile.FieldType.boolean)).before args0 about1 = true := code_word (m := ⟨18, 2⟩) (meth := k18m2) (c := k18c2) (by decide +kernel) rfl rfl rfl (by decide +kernel)
set_option maxRecDepth 65536 in
theorem w_c35 : (Jvm.Cond.code ({ cls := "com/example/chatham/chatham/pattern/SemaphoreBulkheadSnapshotToStringPinLaw", name := "decLen", desc := "(I)I" } : Jvm.MethodName) method_4_code (3 : Nat) (Option.some Jvm.ClassFile.FieldType.int)).before args0 about1 = true := code_word (m := ⟨1, 3⟩) (meth := k1m3) (c := k1c3) (by decide +kernel) rfl rfl rfl (by decide +kernel)
set_option maxRecDepth 65536 in
theorem w_c36 : (Jvm.Cond.code ({ cls := "java/lang/Math", name := "abs", desc := "(J)J" } : Jvm.MethodName) jdk_29_method_61_code (2 : Nat) (Option.some Jvm.ClassFile.FieldType.long)).before args0 about1 = true := code_word (m := ⟨13, 1⟩) (meth := k13m1) (c := k13c1) (by decide +kernel) rfl rfl rfl (by decide +kernel)
set_option maxRecDepth 65536 in
theorem w_c37 : (Jvm.Cond.code ({ cls := "com/example/chatham/chatham/pattern/SemaphoreBulkheadSnapshotToStringPinLaw", name := "magLen", desc := "(J)I" } : Jvm.MethodName) method_3_code (2 : Nat) (Option.some Jvm.ClassFile.FieldType.int)).before args0 about1 = true := code_word (m := ⟨1, 2⟩) (meth := k1m2) (c := k1c2) (by decide +kernel) rfl rfl rfl (by decide +kernel)
set_option maxRecDepth 65536 in
theorem w_c38 : (Jvm.Cond.code ({ cls := "com/example/chatham/chatham/pattern/SemaphoreBulkheadSnapshotToStringPinLaw", name := "pre", desc := "(Ljava/lang/String;Ljava/lang/String;)Z" } : Jvm.MethodName) method_7_code (2 : Nat) (Option.some Jvm.ClassFile.FieldType.boolean)).before args0 about1 = true := code_word (m := ⟨1, 6⟩) (meth := k1m6) (c := k1c6) (by decide +kernel) rfl rfl rfl (by decide +kernel)
set_option maxRecDepth 65536 in
theorem w_c39 : (Jvm.Cond.code ({ cls := "java/lang/String", name := "charAt", desc := "(I)C" } : Jvm.MethodName) jdk_42_method_56_code (2 : Nat) (Option.some Jvm.ClassFile.FieldType.char)).before args0 about1 = true := code_word (m := ⟨11, 3⟩) (meth := k11m3) (c := k11c3) (by decide +kernel) rfl rfl rfl (by decide +kernel)
set_option maxRecDepth 65536 in
theorem w_c40 : (Jvm.Cond.code ({ cls := "java/lang/String", name := "isLatin1", desc := "()Z" } : Jvm.MethodName) jdk_42_method_154_code (1 : Nat) (Option.some Jvm.ClassFile.FieldType.boolean)).before args0 about1 = true := code_word (m := ⟨11, 8⟩) (meth := k11m8) (c := k11c8) (by decide +kernel) rfl rfl rfl (by decide +kernel)
set_option maxRecDepth 65536 in
theorem w_c41 : (Jvm.Cond.code ({ cls := "java/lang/StringLatin1", name := "charAt", desc := "([BI)C" } : Jvm.MethodName) jdk_43_method_2_code (2 : Nat) (Option.some Jvm.ClassFile.FieldType.char)).before args0 about1 = true := code_word (m := ⟨18, 1⟩) (meth := k18m1) (c := k18c1) (by decide +kernel) rfl rfl rfl (by decide +kernel)
set_option maxRecDepth 65536 in
theorem w_c42 : (Jvm.Cond.code ({ cls := "java/lang/String", name := "checkIndex", desc := "(II)V" } : Jvm.MethodName) jdk_42_method_155_code (2 : Nat) (Option.none : Option Jvm.ClassFile.FieldType)).before args0 about1 = true := code_word (m := ⟨11, 9⟩) (meth := k11m9) (c := k11c9) (by decide +kernel) rfl rfl rfl (by decide +kernel)
set_option maxRecDepth 65536 in
theorem w_c43 : (Jvm.Cond.code ({ cls := "jdk/internal/util/Preconditions", name := "checkIndex", desc := "(IILjava/util/function/BiFunction;)I" } : Jvm.MethodName) jdk_41_method_11_code (3 : Nat) (Option.some Jvm.ClassFile.FieldType.int)).before args0 about1 = true := code_word (m := ⟨19, 1⟩) (meth := k19m1) (c := k19c1) (by decide +kernel) rfl rfl rfl (by decide +kernel)
set_option maxRecDepth 65536 in
theorem w_c44 : (Jvm.Cond.code ({ cls := "com/example/chatham/chatham/pattern/SemaphoreBulkheadSnapshotToStringPinLaw", name := "numOk", desc := "(Ljava/lang/String;II)Z" } : Jvm.MethodName) method_6_code (9 : Nat) (Option.some Jvm.ClassFile.FieldType.boolean)).before args0 about1 = true := code_word (m := ⟨1, 5⟩) (meth := k1m5) (c := k1c5) (by decide +kernel) rfl rfl rfl (by decide +kernel)
set_option maxRecDepth 65536 in
theorem w_c45 : (Jvm.Cond.code ({ cls := "com/example/chatham/chatham/pattern/SemaphoreBulkheadSnapshotToStringPinLaw", name := "dig", desc := "(Ljava/lang/String;IJJ)Z" } : Jvm.MethodName) method_5_code (6 : Nat) (Option.some Jvm.ClassFile.FieldType.boolean)).before args0 about1 = true := code_word (m := ⟨1, 4⟩) (meth := k1m4) (c := k1c4) (by decide +kernel) rfl rfl rfl (by decide +kernel)
set_option maxRecDepth 65536 in
theorem w_c46 : (Jvm.Cond.code ({ cls := "com/example/chatham/chatham/pattern/SemaphoreBulkheadSnapshotToStringPinLaw", name := "mid", desc := "(Ljava/lang/String;Ljava/lang/String;I)Z" } : Jvm.MethodName) method_8_code (3 : Nat) (Option.some Jvm.ClassFile.FieldType.boolean)).before args0 about1 = true := code_word (m := ⟨1, 7⟩) (meth := k1m7) (c := k1c7) (by decide +kernel) rfl rfl rfl (by decide +kernel)
def codes1 : List Jvm.Cond := [Jvm.Cond.code x code maxLocals ret, Jvm.Cond.code ({ cls := "com/example/chatham/chatham/pattern/SemaphoreBulkheadSnapshot", name := "<init>", desc := "(II)V" } : Jvm.MethodName) prog_39_method_1_code (3 : Nat) (Option.none : Option Jvm.ClassFile.FieldType), Jvm.Cond.code ({ cls := "java/lang/Object", name := "<init>", desc := "()V" } : Jvm.MethodName) object_method_1_code (1 : Nat) (Option.none : Option Jvm.ClassFile.FieldType), Jvm.Cond.code ({ cls := "com/example/chatham/chatham/pattern/SemaphoreBulkheadSnapshot", name := "toString", desc := "()Ljava/lang/String;" } : Jvm.MethodName) prog_39_method_4_code (1 : Nat) (Option.some (Jvm.ClassFile.FieldType.object "java/lang/String")), Jvm.Cond.code ({ cls := "java/lang/StringBuilder", name := "<init>", desc := "()V" } : Jvm.MethodName) jdk_67_method_1_code (1 : Nat) (Option.none : Option Jvm.ClassFile.FieldType), Jvm.Cond.code ({ cls := "java/lang/AbstractStringBuilder", name := "<init>", desc := "(I)V" } : Jvm.MethodName) jdk_68_method_2_code (2 : Nat) (Option.none : Option Jvm.ClassFile.FieldType), Jvm.Cond.code ({ cls := "java/lang/StringBuilder", name := "append", desc := "(Ljava/lang/String;)Ljava/lang/StringBuilder;" } : Jvm.MethodName) jdk_67_method_7_code (2 : Nat) (Option.some (Jvm.ClassFile.FieldType.object "java/lang/StringBuilder")), Jvm.Cond.code ({ cls := "java/lang/AbstractStringBuilder", name := "append", desc := "(Ljava/lang/String;)Ljava/lang/AbstractStringBuilder;" } : Jvm.MethodName) jdk_68_method_22_code (3 : Nat) (Option.some (Jvm.ClassFile.FieldType.object "java/lang/AbstractStringBuilder")), Jvm.Cond.code ({ cls := "java/lang/String", name := "length", desc := "()I" } : Jvm.MethodName) jdk_42_method_54_code (1 : Nat) (Option.some Jvm.ClassFile.FieldType.int), Jvm.Cond.code ({ cls := "java/lang/String", name := "coder", desc := "()B" } : Jvm.MethodName) jdk_42_method_152_code (1 : Nat) (Option.some Jvm.ClassFile.FieldType.byte), Jvm.Cond.code ({ cls := "java/lang/AbstractStringBuilder", name := "ensureCapacityInternal", desc := "(I)V" } : Jvm.MethodName) jdk_68_method_9_code (3 : Nat) (Option.none : Option Jvm.ClassFile.FieldType), Jvm.Cond.code ({ cls := "java/lang/AbstractStringBuilder", name := "newCapacity", desc := "(I)I" } : Jvm.MethodName) jdk_68_method_10_code (6 : Nat) (Option.some Jvm.ClassFile.FieldType.int), Jvm.Cond.code ({ cls := "jdk/internal/util/ArraysSupport", name := "newLength", desc := "(III)I" } : Jvm.MethodName) jdk_48_method_27_code (4 : Nat) (Option.some Jvm.ClassFile.FieldType.int), Jvm.Cond.code ({ cls := "java/lang/Math", name := "max", desc := "(II)I" } : Jvm.MethodName) jdk_29_method_65_code (2 : Nat) (Option.some Jvm.ClassFile.FieldType.int), Jvm.Cond.code ({ cls := "java/util/Arrays", name := "copyOf", desc := "([BI)[B" } : Jvm.MethodName) jdk_65_method_121_code (3 : Nat) (Option.some (Jvm.ClassFile.FieldType.array Jvm.ClassFile.FieldType.byte)), Jvm.Cond.code ({ cls := "java/lang/Math", name := "min", desc := "(II)I" } : Jvm.MethodName) jdk_29_method_69_code (2 : Nat) (Option.some Jvm.ClassFile.FieldType.int), Jvm.Cond.code ({ cls := "java/lang/AbstractStringBuilder", name := "putStringAt", desc := "(ILjava/lang/String;)V" } : Jvm.MethodName) jdk_68_method_73_code (3 : Nat) (Option.none : Option Jvm.ClassFile.FieldType), Jvm.Cond.code ({ cls := "java/lang/AbstractStringBuilder", name := "inflateIfNeededFor", desc := "(Ljava/lang/String;)V" } : Jvm.MethodName) jdk_68_method_71_code (2 : Nat) (Option.none : Option Jvm.ClassFile.FieldType), Jvm.Cond.code ({ cls := "java/lang/String", name := "getBytes", desc := "([BIB)V" } : Jvm.MethodName) jdk_42_method_147_code (4 : Nat) (Option.none : Option Jvm.ClassFile.FieldType), Jvm.Cond.code ({ cls := "java/lang/StringBuilder", name := "append", desc := "(I)Ljava/lang/StringBuilder;" } : Jvm.MethodName) jdk_67_method_15_code (2 : Nat) (Option.some (Jvm.ClassFile.FieldType.object "java/lang/StringBuilder")), Jvm.Cond.code ({ cls := "java/lang/AbstractStringBuilder", name := "append", desc := "(I)Ljava/lang/AbstractStringBuilder;" } : Jvm.MethodName) jdk_68_method_32_code (4 : Nat) (Option.some (Jvm.ClassFile.FieldType.object "java/lang/AbstractStringBuilder")), Jvm.Cond.code ({ cls := "java/lang/Integer", name := "stringSize", desc := "(I)I" } : Jvm.MethodName) jdk_33_method_13_code (4 : Nat) (Option.some Jvm.ClassFile.FieldType.int), Jvm.Cond.code ({ cls := "java/lang/AbstractStringBuilder", name := "isLatin1", desc := "()Z" } : Jvm.MethodName) jdk_68_method_68_code (1 : Nat) (Option.some Jvm.ClassFile.FieldType.boolean), Jvm.Cond.code ({ cls := "java/lang/Integer", name := "getChars", desc := "(II[B)I" } : Jvm.MethodName) jdk_33_method_12_code (7 : Nat) (Option.some Jvm.ClassFile.FieldType.int), Jvm.Cond.code ({ cls := "java/lang/StringBuilder", name := "toString", desc := "()Ljava/lang/String;" } : Jvm.MethodName) jdk_67_method_42_code (1 : Nat) (Option.some (Jvm.ClassFile.FieldType.object "java/lang/String")), Jvm.Cond.code ({ cls := "java/lang/String", name := "<init>", desc := "(Ljava/lang/StringBuilder;)V" } : Jvm.MethodName) jdk_42_method_53_code (2 : Nat) (Option.none : Option Jvm.ClassFile.FieldType), Jvm.Cond.code ({ cls := "java/lang/String", name := "<init>", desc := "(Ljava/lang/AbstractStringBuilder;Ljava/lang/Void;)V" } : Jvm.MethodName) jdk_42_method_150_code (5 : Nat) (Option.none : Option Jvm.ClassFile.FieldType), Jvm.Cond.code ({ cls := "java/lang/AbstractStringBuilder", name := "getValue", desc := "()[B" } : Jvm.MethodName) jdk_68_method_64_code (1 : Nat) (Option.some (Jvm.ClassFile.FieldType.array Jvm.ClassFile.FieldType.byte)), Jvm.Cond.code ({ cls := "java/lang/StringBuilder", name := "length", desc := "()I" } : Jvm.MethodName) jdk_67_method_93_code (1 : Nat) (Option.some Jvm.ClassFile.FieldType.int), Jvm.Cond.code ({ cls := "java/lang/AbstractStringBuilder", name := "length", desc := "()I" } : Jvm.MethodName) jdk_68_method_6_code (1 : Nat) (Option.some Jvm.ClassFile.FieldType.int), Jvm.Cond.code ({ cls := "java/util/Arrays", name := "copyOfRange", desc := "([BII)[B" } : Jvm.MethodName) jdk_65_method_132_code (3 : Nat) (Option.some (Jvm.ClassFile.FieldType.array Jvm.ClassFile.FieldType.byte)), Jvm.Cond.code ({ cls := "java/util/Arrays", name := "copyOfRangeByte", desc := "([BII)[B" } : Jvm.MethodName) jdk_65_method_133_code (5 : Nat) (Option.some (Jvm.ClassFile.FieldType.array Jvm.ClassFile.FieldType.byte)), Jvm.Cond.code ({ cls := "java/util/Arrays", name := "checkLength", desc := "(II)V" } : Jvm.MethodName) jdk_65_method_131_code (2 : Nat) (Option.none : Option Jvm.ClassFile.FieldType), Jvm.Cond.code ({ cls := "java/lang/String", name := "equals", desc := "(Ljava/lang/Object;)Z" } : Jvm.MethodName) jdk_42_method_66_code (3 : Nat) (Option.some Jvm.ClassFile.FieldType.boolean), Jvm.Cond.code ({ cls := "java/lang/StringLatin1", name := "equals", desc := "([B[B)Z" } : Jvm.MethodName) jdk_43_method_13_code (3 : Nat) (Option.some Jvm.ClassFile.FieldType.boolean), Jvm.Cond.code ({ cls := "com/example/chatham/chatham/pattern/SemaphoreBulkheadSnapshotToStringPinLaw", name := "decLen", desc := "(I)I" } : Jvm.MethodName) method_4_code (3 : Nat) (Option.some Jvm.ClassFile.FieldType.int), Jvm.Cond.code ({ cls := "java/lang/Math", name := "abs", desc := "(J)J" } : Jvm.MethodName) jdk_29_method_61_code (2 : Nat) (Option.some Jvm.ClassFile.FieldType.long), Jvm.Cond.code ({ cls := "com/example/chatham/chatham/pattern/SemaphoreBulkheadSnapshotToStringPinLaw", name := "magLen", desc := "(J)I" } : Jvm.MethodName) method_3_code (2 : Nat) (Option.some Jvm.ClassFile.FieldType.int), Jvm.Cond.code ({ cls := "com/example/chatham/chatham/pattern/SemaphoreBulkheadSnapshotToStringPinLaw", name := "pre", desc := "(Ljava/lang/String;Ljava/lang/String;)Z" } : Jvm.MethodName) method_7_code (2 : Nat) (Option.some Jvm.ClassFile.FieldType.boolean), Jvm.Cond.code ({ cls := "java/lang/String", name := "charAt", desc := "(I)C" } : Jvm.MethodName) jdk_42_method_56_code (2 : Nat) (Option.some Jvm.ClassFile.FieldType.char), Jvm.Cond.code ({ cls := "java/lang/String", name := "isLatin1", desc := "()Z" } : Jvm.MethodName) jdk_42_method_154_code (1 : Nat) (Option.some Jvm.ClassFile.FieldType.boolean), Jvm.Cond.code ({ cls := "java/lang/StringLatin1", name := "charAt", desc := "([BI)C" } : Jvm.MethodName) jdk_43_method_2_code (2 : Nat) (Option.some Jvm.ClassFile.FieldType.char), Jvm.Cond.code ({ cls := "java/lang/String", name := "checkIndex", desc := "(II)V" } : Jvm.MethodName) jdk_42_method_155_code (2 : Nat) (Option.none : Option Jvm.ClassFile.FieldType), Jvm.Cond.code ({ cls := "jdk/internal/util/Preconditions", name := "checkIndex", desc := "(IILjava/util/function/BiFunction;)I" } : Jvm.MethodName) jdk_41_method_11_code (3 : Nat) (Option.some Jvm.ClassFile.FieldType.int), Jvm.Cond.code ({ cls := "com/example/chatham/chatham/pattern/SemaphoreBulkheadSnapshotToStringPinLaw", name := "numOk", desc := "(Ljava/lang/String;II)Z" } : Jvm.MethodName) method_6_code (9 : Nat) (Option.some Jvm.ClassFile.FieldType.boolean), Jvm.Cond.code ({ cls := "com/example/chatham/chatham/pattern/SemaphoreBulkheadSnapshotToStringPinLaw", name := "dig", desc := "(Ljava/lang/String;IJJ)Z" } : Jvm.MethodName) method_5_code (6 : Nat) (Option.some Jvm.ClassFile.FieldType.boolean), Jvm.Cond.code ({ cls := "com/example/chatham/chatham/pattern/SemaphoreBulkheadSnapshotToStringPinLaw", name := "mid", desc := "(Ljava/lang/String;Ljava/lang/String;I)Z" } : Jvm.MethodName) method_8_code (3 : Nat) (Option.some Jvm.ClassFile.FieldType.boolean)]
set_option maxRecDepth 65536 in
theorem codes_eq : words1.filter isCode = codes1 := rfl
theorem w_codes : ∀ c ∈ words1.filter isCode, c.before args0 about1 = true := by
  rw [codes_eq]
  intro c hc
  simp only [codes1, List.mem_cons, List.not_mem_nil, or_false] at hc
  rcases hc with rfl | rfl | rfl | rfl | rfl | rfl | rfl | rfl | rfl | rfl | rfl | rfl | rfl | rfl | rfl | rfl | rfl | rfl | rfl | rfl | rfl | rfl | rfl | rfl | rfl | rfl | rfl | rfl | rfl | rfl | rfl | rfl | rfl | rfl | rfl | rfl | rfl | rfl | rfl | rfl | rfl | rfl | rfl | rfl | rfl | rfl | rfl
  · exact w_c0
  · exact w_c1
  · exact w_c2
  · exact w_c3
  · exact w_c4
  · exact w_c5
  · exact w_c6
  · exact w_c7
  · exact w_c8
  · exact w_c9
  · exact w_c10
  · exact w_c11
  · exact w_c12
  · exact w_c13
  · exact w_c14
  · exact w_c15
  · exact w_c16
  · exact w_c17
  · exact w_c18
  · exact w_c19
  · exact w_c20
  · exact w_c21
  · exact w_c22
  · exact w_c23
  · exact w_c24
  · exact w_c25
  · exact w_c26
  · exact w_c27
  · exact w_c28
  · exact w_c29
  · exact w_c30
  · exact w_c31
  · exact w_c32
  · exact w_c33
  · exact w_c34
  · exact w_c35
  · exact w_c36
  · exact w_c37
  · exact w_c38
  · exact w_c39
  · exact w_c40
  · exact w_c41
  · exact w_c42
  · exact w_c43
  · exact w_c44
  · exact w_c45
  · exact w_c46
set_option maxRecDepth 65536 in
theorem w_t1 : (words1.take 24).all (fun c => isCode c || c.before args0 about1) = true := by decide +kernel
set_option maxRecDepth 65536 in
theorem w_t2 : ((words1.drop 24).take 24).all (fun c => isCode c || c.before args0 about1) = true := by decide +kernel
set_option maxRecDepth 65536 in
theorem w_t3 : (((words1.drop 24).drop 24).take 24).all (fun c => isCode c || c.before args0 about1) = true := by decide +kernel
set_option maxRecDepth 65536 in
theorem w_t4 : ((((words1.drop 24).drop 24).drop 24).take 24).all (fun c => isCode c || c.before args0 about1) = true := by decide +kernel
set_option maxRecDepth 65536 in
theorem w_t5 : (((((words1.drop 24).drop 24).drop 24).drop 24).take 24).all (fun c => isCode c || c.before args0 about1) = true := by decide +kernel
set_option maxRecDepth 65536 in
theorem w_t6 : ((((((words1.drop 24).drop 24).drop 24).drop 24).drop 24).take 24).all (fun c => isCode c || c.before args0 about1) = true := by decide +kernel
set_option maxRecDepth 65536 in
theorem w_t7 : (((((((words1.drop 24).drop 24).drop 24).drop 24).drop 24).drop 24).take 24).all (fun c => isCode c || c.before args0 about1) = true := by decide +kernel
set_option maxRecDepth 65536 in
theorem w_t8 : ((((((((words1.drop 24).drop 24).drop 24).drop 24).drop 24).drop 24).drop 24).take 24).all (fun c => isCode c || c.before args0 about1) = true := by decide +kernel
set_option maxRecDepth 65536 in
theorem w_t9 : (((((((((words1.drop 24).drop 24).drop 24).drop 24).drop 24).drop 24).drop 24).drop 24).take 24).all (fun c => isCode c || c.before args0 about1) = true := by decide +kernel
set_option maxRecDepth 65536 in
theorem w_t10 : ((((((((((words1.drop 24).drop 24).drop 24).drop 24).drop 24).drop 24).drop 24).drop 24).drop 24).take 24).all (fun c => isCode c || c.before args0 about1) = true := by decide +kernel
set_option maxRecDepth 65536 in
theorem w_t11 : ((((((((((words1.drop 24).drop 24).drop 24).drop 24).drop 24).drop 24).drop 24).drop 24).drop 24).drop 24).all (fun c => isCode c || c.before args0 about1) = true := by decide +kernel
theorem w_tables : (allAtoms (Jvm.Cond.code x code maxLocals ret :: tables_1)).before args0 about1 = true := by
  rw [allAtoms_all]
  show words1.all (fun c => c.before args0 about1) = true
  refine all_split ?_ w_codes
  rw [← List.take_append_drop 24 words1, List.all_append, w_t1, ← List.take_append_drop 24 (words1.drop 24), List.all_append, w_t2, ← List.take_append_drop 24 ((words1.drop 24).drop 24), List.all_append, w_t3, ← List.take_append_drop 24 (((words1.drop 24).drop 24).drop 24), List.all_append, w_t4, ← List.take_append_drop 24 ((((words1.drop 24).drop 24).drop 24).drop 24), List.all_append, w_t5, ← List.take_append_drop 24 (((((words1.drop 24).drop 24).drop 24).drop 24).drop 24), List.all_append, w_t6, ← List.take_append_drop 24 ((((((words1.drop 24).drop 24).drop 24).drop 24).drop 24).drop 24), List.all_append, w_t7, ← List.take_append_drop 24 (((((((words1.drop 24).drop 24).drop 24).drop 24).drop 24).drop 24).drop 24), List.all_append, w_t8, ← List.take_append_drop 24 ((((((((words1.drop 24).drop 24).drop 24).drop 24).drop 24).drop 24).drop 24).drop 24), List.all_append, w_t9, ← List.take_append_drop 24 (((((((((words1.drop 24).drop 24).drop 24).drop 24).drop 24).drop 24).drop 24).drop 24).drop 24), List.all_append, w_t10, w_t11]
  rfl
set_option maxRecDepth 65536 in
theorem w_rest : rest_1_c.before args0 about1 = true := by decide +kernel
set_option maxRecDepth 65536 in
theorem w_case : (Jvm.Cond.and given_1 narrow_1).before args0 about1 = true := by decide +kernel
set_option maxRecDepth 65536 in
theorem w_consts : constsHeld consts_1 about1 := Jvm.Lit.constsHeldB_iff.mp (by decide +kernel)
theorem w_applies : (headSpec (Jvm.Cond.code x code maxLocals ret :: tables_1) room_1).applies x e0.platform about1 = true :=
  (Spec.applies_iff w_frames).mpr ⟨w_running, w_runnable, w_alone, w_named, w_hears, w_ripe, w_room, w_tables⟩
theorem atStart : AtStart classFile x code maxLocals ret World_1 tables_1 room_1 Calls_1 rest_1 Pre_1 launch0 p0 e0 about1 theMethod args0 below0 :=
  ⟨lists_1, trivial, launch0.admits_env _ _ _, launch0.least_env, fairChoices_fair.cas, fairChoices_fair.clock, w_frames, w_args, w_heap, w_applies, ⟨w_consts, trivial⟩, w_rest, w_case⟩
end start1
theorem witness_1 : WitnessClaimed_1 := ⟨start1.p0, start1.e0, start1.about1, start1.theMethod, start1.args0, start1.below0, start1.atStart⟩
end Jvm.Pilot.@@N@@
