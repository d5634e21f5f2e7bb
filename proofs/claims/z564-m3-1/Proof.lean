import JvmDerived
import JvmDerived.Pilot.@@N@@Statement
import JvmDerived.Pilot.@@N@@Code
set_option linter.unusedVariables false
set_option linter.unusedSimpArgs false
namespace Jvm.RoadKit
open Sem ClassFile Op Lib Jvm.Stand Jvm.Free Jvm.LawKit
section New
variable {p : Program} {l : Launch} {e : Env} {R : Room} {s : State} {m : MethodId} {args : Array Value} {below : List Frame} {meth : Method} {c : Code} {T : State} {locs : List Loc} {cells slots : Nat}
theorem retI (X : Stand p l e R s m args below meth c T locs cells slots) (hx : p.tables.exec = Jvm.exec) {pc : Nat} {Ls : Array Slot} {z : Int32} {rest : List Value} (hret : meth.sig.returnType = some .int) (hd : decode c.code pc = .ok (.ireturn, 1)) {fs : List Frame}
    (hl : ∀ (f : JFrame) (acts : List Action), f.method = m → f.locked = none → f.entered = [] → (doReturn e (T.setTop f) acts (some (.int z))).1 = T.setFrames fs) : Steps p.tables e below (T.setTop (mkF m pc Ls (.int z :: rest))) (T.setFrames fs) := by
  have hm' : T.vm.method? m = some meth := X.method'
  have hn : narrow .int (.int z) = .int z := rfl
  show Steps p.tables e below (T.setTop { method := m, pc := pc, locals := Ls, stack := _ :: rest, locked := none }) _
  jvm_step X.here [X.here.top, hx, hd, hm', hret, hn]
  first | (intro acts; rw [hl _ acts rfl rfl rfl]) | rw [hl _ _ rfl rfl rfl]
  exact Steps.refl _
end New
theorem ext_refl {h : Heap} : Ext h h := ⟨Nat.le_refl _, fun _ _ q => q⟩
theorem ext_trans {h h' h'' : Heap} (E : Ext h h') (E' : Ext h' h'') : Ext h h'' := ⟨Nat.le_trans E.1 E'.1, fun a c q => E'.2 a c (E.2 a c q)⟩
theorem ext_keep {h h' h'' : Heap} {ws : List Addr} (E : Ext h h') (K : Keep h' h'' ws) (q : ∀ x ∈ ws, h.size ≤ x) : Ext h h'' := ⟨Nat.le_trans E.1 K.1, fun a c r => K.2.1 a c (E.2 a c r) fun z => absurd (Array.getElem?_eq_some_iff.mp r).1 (Nat.not_lt.mpr (q a z))⟩
theorem ext_wr {h h' h'' : Heap} {a : Addr} {sl : Nat} {v : Value} (E : Ext h h') (W : Wr h' h'' a sl v) (q : h.size ≤ a) : Ext h h'' := ext_keep E (Keep.of_wr W) (allS q all0)
theorem old_le {Z : State} {n0 : Nat} {h : Heap} (O : Old Z n0 h) : n0 ≤ h.size := O.1 ▸ O.2.1
end Jvm.RoadKit
namespace Jvm.Own.Fw
open Sem ClassFile Op Lib Jvm.Stand Jvm.Free Jvm.LawKit Jvm.RoadKit
variable {p : Program} {l : Launch} {e : Env} {R : Room} {s : State} {m : MethodId} {args : Array Value} {below : List Frame} {meth : Method} {c : Code} {T S : State} {G : JFrame} {locs : List Loc} {cells slots : Nat} {pc pc' : Nat} {Ls : Array Slot} {St : List Value}
theorem iloadN {i : Fin 4} {v : Int32} (k : Goes p e below S G T (mkF m pc Ls St)) (X : Stand p l e R s m args below meth c T locs cells slots) (hx : p.tables.exec = Jvm.exec) (hd : decode c.code pc = .ok (.iload_n i, 1)) (hl : Ls[i.val]? = some (.val (.int v))) (hp : pc + 1 = pc') : Goes p e below S G T (mkF m pc' Ls (.int v :: St)) := by
  subst hp; exact fun t q => k t (XS.iloadN X.here hx rfl hd hl q)
theorem iload {i : Nat} {v : Int32} (k : Goes p e below S G T (mkF m pc Ls St)) (X : Stand p l e R s m args below meth c T locs cells slots) (hx : p.tables.exec = Jvm.exec) (hd : decode c.code pc = .ok (.iload i, 2)) (hl : Ls[i]? = some (.val (.int v))) (hp : pc + 2 = pc') : Goes p e below S G T (mkF m pc' Ls (.int v :: St)) := by
  subst hp; exact fun t q => k t (XS.iload X.here hx rfl hd hl q)
theorem lloadN {i : Fin 4} {v : Int64} (k : Goes p e below S G T (mkF m pc Ls St)) (X : Stand p l e R s m args below meth c T locs cells slots) (hx : p.tables.exec = Jvm.exec) (hd : decode c.code pc = .ok (.lload_n i, 1)) (hl : Ls[i.val]? = some (.val (.long v))) (hp : pc + 1 = pc') : Goes p e below S G T (mkF m pc' Ls (.long v :: St)) := by
  subst hp; exact fun t q => k t (XS.lloadN X.here hx rfl hd hl q)
theorem lload {i : Nat} {v : Int64} (k : Goes p e below S G T (mkF m pc Ls St)) (X : Stand p l e R s m args below meth c T locs cells slots) (hx : p.tables.exec = Jvm.exec) (hd : decode c.code pc = .ok (.lload i, 2)) (hl : Ls[i]? = some (.val (.long v))) (hp : pc + 2 = pc') : Goes p e below S G T (mkF m pc' Ls (.long v :: St)) := by
  subst hp; exact fun t q => k t (XS.lload X.here hx rfl hd hl q)
theorem aloadN {i : Fin 4} {v : Value} (k : Goes p e below S G T (mkF m pc Ls St)) (X : Stand p l e R s m args below meth c T locs cells slots) (hx : p.tables.exec = Jvm.exec) (hd : decode c.code pc = .ok (.aload_n i, 1)) (hl : Ls[i.val]? = some (.val v)) (hv : v.isRef = true) (hp : pc + 1 = pc') : Goes p e below S G T (mkF m pc' Ls (v :: St)) := by
  subst hp; exact fun t q => k t (XS.aloadN X.here hx rfl hd hl hv q)
theorem aload {i : Nat} {v : Value} (k : Goes p e below S G T (mkF m pc Ls St)) (X : Stand p l e R s m args below meth c T locs cells slots) (hx : p.tables.exec = Jvm.exec) (hd : decode c.code pc = .ok (.aload i, 2)) (hl : Ls[i]? = some (.val v)) (hv : v.isRef = true) (hp : pc + 2 = pc') : Goes p e below S G T (mkF m pc' Ls (v :: St)) := by
  subst hp; exact fun t q => k t (XS.aload X.here hx rfl hd hl hv q)
theorem istoreN {i : Fin 4} {v : Int32} {Ls' : Array Slot} (k : Goes p e below S G T (mkF m pc Ls (.int v :: St))) (X : Stand p l e R s m args below meth c T locs cells slots) (hx : p.tables.exec = Jvm.exec) (hd : decode c.code pc = .ok (.istore_n i, 1)) (hl : storeLocals Ls i.val (.int v) = some Ls') (hp : pc + 1 = pc') : Goes p e below S G T (mkF m pc' Ls' St) := by
  subst hp; exact fun t q => k t (XS.istoreN X.here hx rfl hd rfl hl q)
theorem istore {i : Nat} {v : Int32} {Ls' : Array Slot} (k : Goes p e below S G T (mkF m pc Ls (.int v :: St))) (X : Stand p l e R s m args below meth c T locs cells slots) (hx : p.tables.exec = Jvm.exec) (hd : decode c.code pc = .ok (.istore i, 2)) (hl : storeLocals Ls i (.int v) = some Ls') (hp : pc + 2 = pc') : Goes p e below S G T (mkF m pc' Ls' St) := by
  subst hp; exact fun t q => k t (XS.istore X.here hx rfl hd rfl hl q)
theorem lstoreN {i : Fin 4} {v : Int64} {Ls' : Array Slot} (k : Goes p e below S G T (mkF m pc Ls (.long v :: St))) (X : Stand p l e R s m args below meth c T locs cells slots) (hx : p.tables.exec = Jvm.exec) (hd : decode c.code pc = .ok (.lstore_n i, 1)) (hl : storeLocals Ls i.val (.long v) = some Ls') (hp : pc + 1 = pc') : Goes p e below S G T (mkF m pc' Ls' St) := by
  subst hp; exact fun t q => k t (XS.lstoreN X.here hx rfl hd rfl hl q)
theorem lstore {i : Nat} {v : Int64} {Ls' : Array Slot} (k : Goes p e below S G T (mkF m pc Ls (.long v :: St))) (X : Stand p l e R s m args below meth c T locs cells slots) (hx : p.tables.exec = Jvm.exec) (hd : decode c.code pc = .ok (.lstore i, 2)) (hl : storeLocals Ls i (.long v) = some Ls') (hp : pc + 2 = pc') : Goes p e below S G T (mkF m pc' Ls' St) := by
  subst hp; exact fun t q => k t (XS.lstore X.here hx rfl hd rfl hl q)
theorem astoreN {i : Fin 4} {v : Value} {Ls' : Array Slot} (k : Goes p e below S G T (mkF m pc Ls (v :: St))) (X : Stand p l e R s m args below meth c T locs cells slots) (hx : p.tables.exec = Jvm.exec) (hd : decode c.code pc = .ok (.astore_n i, 1)) (hv : v.isRef = true) (hl : storeLocals Ls i.val v = some Ls') (hp : pc + 1 = pc') : Goes p e below S G T (mkF m pc' Ls' St) := by
  subst hp; exact fun t q => k t (XS.astoreN X.here hx rfl hd rfl hv hl q)
theorem astore {i : Nat} {v : Value} {Ls' : Array Slot} (k : Goes p e below S G T (mkF m pc Ls (v :: St))) (X : Stand p l e R s m args below meth c T locs cells slots) (hx : p.tables.exec = Jvm.exec) (hd : decode c.code pc = .ok (.astore i, 2)) (hv : v.isRef = true) (hl : storeLocals Ls i v = some Ls') (hp : pc + 2 = pc') : Goes p e below S G T (mkF m pc' Ls' St) := by
  subst hp; exact fun t q => k t (XS.astore X.here hx rfl hd rfl hv hl q)
theorem iconst {i : Int} {z : Int32} (k : Goes p e below S G T (mkF m pc Ls St)) (X : Stand p l e R s m args below meth c T locs cells slots) (hx : p.tables.exec = Jvm.exec) (hd : decode c.code pc = .ok (.iconst i, 1)) (hz : Int32.ofInt i = z) (hp : pc + 1 = pc') : Goes p e below S G T (mkF m pc' Ls (.int z :: St)) := by
  subst hp; exact fun t q => k t (XS.iconst X.here hx rfl hd (hz ▸ q))
theorem bipush {i : Int} {z : Int32} (k : Goes p e below S G T (mkF m pc Ls St)) (X : Stand p l e R s m args below meth c T locs cells slots) (hx : p.tables.exec = Jvm.exec) (hd : decode c.code pc = .ok (.bipush i, 2)) (hz : (Int8.ofInt i).toInt32 = z) (hp : pc + 2 = pc') : Goes p e below S G T (mkF m pc' Ls (.int z :: St)) := by
  subst hp; exact fun t q => k t (XS.bipush X.here hx rfl hd (hz ▸ q))
theorem sipush {i : Int} {z : Int32} (k : Goes p e below S G T (mkF m pc Ls St)) (X : Stand p l e R s m args below meth c T locs cells slots) (hx : p.tables.exec = Jvm.exec) (hd : decode c.code pc = .ok (.sipush i, 3)) (hz : (Int16.ofInt i).toInt32 = z) (hp : pc + 3 = pc') : Goes p e below S G T (mkF m pc' Ls (.int z :: St)) := by
  subst hp; exact fun t q => k t (XS.sipush X.here hx rfl hd (hz ▸ q))
theorem lconst {i : Fin 2} {z : Int64} (k : Goes p e below S G T (mkF m pc Ls St)) (X : Stand p l e R s m args below meth c T locs cells slots) (hx : p.tables.exec = Jvm.exec) (hd : decode c.code pc = .ok (.lconst i, 1)) (hz : Int64.ofNat i = z) (hp : pc + 1 = pc') : Goes p e below S G T (mkF m pc' Ls (.long z :: St)) := by
  subst hp; exact fun t q => k t (XS.lconst X.here hx rfl hd (hz ▸ q))
theorem aconstNull  (k : Goes p e below S G T (mkF m pc Ls St)) (X : Stand p l e R s m args below meth c T locs cells slots) (hx : p.tables.exec = Jvm.exec) (hd : decode c.code pc = .ok (.aconst_null, 1)) (hp : pc + 1 = pc') : Goes p e below S G T (mkF m pc' Ls (.null :: St)) := by
  subst hp; exact fun t q => k t (XS.aconstNull X.here hx rfl hd q)
theorem iadd {x y z : Int32} (k : Goes p e below S G T (mkF m pc Ls (.int y :: .int x :: St))) (X : Stand p l e R s m args below meth c T locs cells slots) (hx : p.tables.exec = Jvm.exec) (hd : decode c.code pc = .ok (.iadd, 1)) (hz : x + y = z) (hp : pc + 1 = pc') : Goes p e below S G T (mkF m pc' Ls (.int z :: St)) := by
  subst hp; exact fun t q => k t (XS.iadd X.here hx rfl hd rfl (hz ▸ q))
theorem ladd {x y z : Int64} (k : Goes p e below S G T (mkF m pc Ls (.long y :: .long x :: St))) (X : Stand p l e R s m args below meth c T locs cells slots) (hx : p.tables.exec = Jvm.exec) (hd : decode c.code pc = .ok (.ladd, 1)) (hz : x + y = z) (hp : pc + 1 = pc') : Goes p e below S G T (mkF m pc' Ls (.long z :: St)) := by
  subst hp; exact fun t q => k t (XS.ladd X.here hx rfl hd rfl (hz ▸ q))
theorem isub {x y z : Int32} (k : Goes p e below S G T (mkF m pc Ls (.int y :: .int x :: St))) (X : Stand p l e R s m args below meth c T locs cells slots) (hx : p.tables.exec = Jvm.exec) (hd : decode c.code pc = .ok (.isub, 1)) (hz : x - y = z) (hp : pc + 1 = pc') : Goes p e below S G T (mkF m pc' Ls (.int z :: St)) := by
  subst hp; exact fun t q => k t (XS.isub X.here hx rfl hd rfl (hz ▸ q))
theorem lsub {x y z : Int64} (k : Goes p e below S G T (mkF m pc Ls (.long y :: .long x :: St))) (X : Stand p l e R s m args below meth c T locs cells slots) (hx : p.tables.exec = Jvm.exec) (hd : decode c.code pc = .ok (.lsub, 1)) (hz : x - y = z) (hp : pc + 1 = pc') : Goes p e below S G T (mkF m pc' Ls (.long z :: St)) := by
  subst hp; exact fun t q => k t (XS.lsub X.here hx rfl hd rfl (hz ▸ q))
theorem imul {x y z : Int32} (k : Goes p e below S G T (mkF m pc Ls (.int y :: .int x :: St))) (X : Stand p l e R s m args below meth c T locs cells slots) (hx : p.tables.exec = Jvm.exec) (hd : decode c.code pc = .ok (.imul, 1)) (hz : x * y = z) (hp : pc + 1 = pc') : Goes p e below S G T (mkF m pc' Ls (.int z :: St)) := by
  subst hp; exact fun t q => k t (XS.imul X.here hx rfl hd rfl (hz ▸ q))
theorem lmul {x y z : Int64} (k : Goes p e below S G T (mkF m pc Ls (.long y :: .long x :: St))) (X : Stand p l e R s m args below meth c T locs cells slots) (hx : p.tables.exec = Jvm.exec) (hd : decode c.code pc = .ok (.lmul, 1)) (hz : x * y = z) (hp : pc + 1 = pc') : Goes p e below S G T (mkF m pc' Ls (.long z :: St)) := by
  subst hp; exact fun t q => k t (XS.lmul X.here hx rfl hd rfl (hz ▸ q))
theorem iand {x y z : Int32} (k : Goes p e below S G T (mkF m pc Ls (.int y :: .int x :: St))) (X : Stand p l e R s m args below meth c T locs cells slots) (hx : p.tables.exec = Jvm.exec) (hd : decode c.code pc = .ok (.iand, 1)) (hz : x &&& y = z) (hp : pc + 1 = pc') : Goes p e below S G T (mkF m pc' Ls (.int z :: St)) := by
  subst hp; exact fun t q => k t (XS.iand X.here hx rfl hd rfl (hz ▸ q))
theorem land {x y z : Int64} (k : Goes p e below S G T (mkF m pc Ls (.long y :: .long x :: St))) (X : Stand p l e R s m args below meth c T locs cells slots) (hx : p.tables.exec = Jvm.exec) (hd : decode c.code pc = .ok (.land, 1)) (hz : x &&& y = z) (hp : pc + 1 = pc') : Goes p e below S G T (mkF m pc' Ls (.long z :: St)) := by
  subst hp; exact fun t q => k t (XS.land X.here hx rfl hd rfl (hz ▸ q))
theorem ior {x y z : Int32} (k : Goes p e below S G T (mkF m pc Ls (.int y :: .int x :: St))) (X : Stand p l e R s m args below meth c T locs cells slots) (hx : p.tables.exec = Jvm.exec) (hd : decode c.code pc = .ok (.ior, 1)) (hz : x ||| y = z) (hp : pc + 1 = pc') : Goes p e below S G T (mkF m pc' Ls (.int z :: St)) := by
  subst hp; exact fun t q => k t (XS.ior X.here hx rfl hd rfl (hz ▸ q))
theorem lor {x y z : Int64} (k : Goes p e below S G T (mkF m pc Ls (.long y :: .long x :: St))) (X : Stand p l e R s m args below meth c T locs cells slots) (hx : p.tables.exec = Jvm.exec) (hd : decode c.code pc = .ok (.lor, 1)) (hz : x ||| y = z) (hp : pc + 1 = pc') : Goes p e below S G T (mkF m pc' Ls (.long z :: St)) := by
  subst hp; exact fun t q => k t (XS.lor X.here hx rfl hd rfl (hz ▸ q))
theorem ixor {x y z : Int32} (k : Goes p e below S G T (mkF m pc Ls (.int y :: .int x :: St))) (X : Stand p l e R s m args below meth c T locs cells slots) (hx : p.tables.exec = Jvm.exec) (hd : decode c.code pc = .ok (.ixor, 1)) (hz : x ^^^ y = z) (hp : pc + 1 = pc') : Goes p e below S G T (mkF m pc' Ls (.int z :: St)) := by
  subst hp; exact fun t q => k t (XS.ixor X.here hx rfl hd rfl (hz ▸ q))
theorem lxor {x y z : Int64} (k : Goes p e below S G T (mkF m pc Ls (.long y :: .long x :: St))) (X : Stand p l e R s m args below meth c T locs cells slots) (hx : p.tables.exec = Jvm.exec) (hd : decode c.code pc = .ok (.lxor, 1)) (hz : x ^^^ y = z) (hp : pc + 1 = pc') : Goes p e below S G T (mkF m pc' Ls (.long z :: St)) := by
  subst hp; exact fun t q => k t (XS.lxor X.here hx rfl hd rfl (hz ▸ q))
theorem ineg {x : Int32} {z : Int32} (k : Goes p e below S G T (mkF m pc Ls (.int x :: St))) (X : Stand p l e R s m args below meth c T locs cells slots) (hx : p.tables.exec = Jvm.exec) (hd : decode c.code pc = .ok (.ineg, 1)) (hz : -x = z) (hp : pc + 1 = pc') : Goes p e below S G T (mkF m pc' Ls (.int z :: St)) := by
  subst hp; exact fun t q => k t (XS.ineg X.here hx rfl hd rfl (hz ▸ q))
theorem lneg {x : Int64} {z : Int64} (k : Goes p e below S G T (mkF m pc Ls (.long x :: St))) (X : Stand p l e R s m args below meth c T locs cells slots) (hx : p.tables.exec = Jvm.exec) (hd : decode c.code pc = .ok (.lneg, 1)) (hz : -x = z) (hp : pc + 1 = pc') : Goes p e below S G T (mkF m pc' Ls (.long z :: St)) := by
  subst hp; exact fun t q => k t (XS.lneg X.here hx rfl hd rfl (hz ▸ q))
theorem i2l {x : Int32} {z : Int64} (k : Goes p e below S G T (mkF m pc Ls (.int x :: St))) (X : Stand p l e R s m args below meth c T locs cells slots) (hx : p.tables.exec = Jvm.exec) (hd : decode c.code pc = .ok (.i2l, 1)) (hz : x.toInt64 = z) (hp : pc + 1 = pc') : Goes p e below S G T (mkF m pc' Ls (.long z :: St)) := by
  subst hp; exact fun t q => k t (XS.i2l X.here hx rfl hd rfl (hz ▸ q))
theorem l2i {x : Int64} {z : Int32} (k : Goes p e below S G T (mkF m pc Ls (.long x :: St))) (X : Stand p l e R s m args below meth c T locs cells slots) (hx : p.tables.exec = Jvm.exec) (hd : decode c.code pc = .ok (.l2i, 1)) (hz : x.toInt32 = z) (hp : pc + 1 = pc') : Goes p e below S G T (mkF m pc' Ls (.int z :: St)) := by
  subst hp; exact fun t q => k t (XS.l2i X.here hx rfl hd rfl (hz ▸ q))
theorem i2b {x : Int32} {z : Int32} (k : Goes p e below S G T (mkF m pc Ls (.int x :: St))) (X : Stand p l e R s m args below meth c T locs cells slots) (hx : p.tables.exec = Jvm.exec) (hd : decode c.code pc = .ok (.i2b, 1)) (hz : x.toInt8.toInt32 = z) (hp : pc + 1 = pc') : Goes p e below S G T (mkF m pc' Ls (.int z :: St)) := by
  subst hp; exact fun t q => k t (XS.i2b X.here hx rfl hd rfl (hz ▸ q))
theorem i2s {x : Int32} {z : Int32} (k : Goes p e below S G T (mkF m pc Ls (.int x :: St))) (X : Stand p l e R s m args below meth c T locs cells slots) (hx : p.tables.exec = Jvm.exec) (hd : decode c.code pc = .ok (.i2s, 1)) (hz : x.toInt16.toInt32 = z) (hp : pc + 1 = pc') : Goes p e below S G T (mkF m pc' Ls (.int z :: St)) := by
  subst hp; exact fun t q => k t (XS.i2s X.here hx rfl hd rfl (hz ▸ q))
theorem i2c {x : Int32} {z : Int32} (k : Goes p e below S G T (mkF m pc Ls (.int x :: St))) (X : Stand p l e R s m args below meth c T locs cells slots) (hx : p.tables.exec = Jvm.exec) (hd : decode c.code pc = .ok (.i2c, 1)) (hz : x.toUInt32.toUInt16.toUInt32.toInt32 = z) (hp : pc + 1 = pc') : Goes p e below S G T (mkF m pc' Ls (.int z :: St)) := by
  subst hp; exact fun t q => k t (XS.i2c X.here hx rfl hd rfl (hz ▸ q))
theorem ishl {x y z : Int32} (k : Goes p e below S G T (mkF m pc Ls (.int y :: .int x :: St))) (X : Stand p l e R s m args below meth c T locs cells slots) (hx : p.tables.exec = Jvm.exec) (hd : decode c.code pc = .ok (.ishl, 1)) (hz : x <<< (y &&& 31) = z) (hp : pc + 1 = pc') : Goes p e below S G T (mkF m pc' Ls (.int z :: St)) := by
  subst hp; exact fun t q => k t (XS.ishl X.here hx rfl hd rfl (hz ▸ q))
theorem ishr {x y z : Int32} (k : Goes p e below S G T (mkF m pc Ls (.int y :: .int x :: St))) (X : Stand p l e R s m args below meth c T locs cells slots) (hx : p.tables.exec = Jvm.exec) (hd : decode c.code pc = .ok (.ishr, 1)) (hz : x >>> (y &&& 31) = z) (hp : pc + 1 = pc') : Goes p e below S G T (mkF m pc' Ls (.int z :: St)) := by
  subst hp; exact fun t q => k t (XS.ishr X.here hx rfl hd rfl (hz ▸ q))
theorem iushr {x y z : Int32} (k : Goes p e below S G T (mkF m pc Ls (.int y :: .int x :: St))) (X : Stand p l e R s m args below meth c T locs cells slots) (hx : p.tables.exec = Jvm.exec) (hd : decode c.code pc = .ok (.iushr, 1)) (hz : (x.toUInt32 >>> (y &&& 31).toUInt32).toInt32 = z) (hp : pc + 1 = pc') : Goes p e below S G T (mkF m pc' Ls (.int z :: St)) := by
  subst hp; exact fun t q => k t (XS.iushr X.here hx rfl hd rfl (hz ▸ q))
theorem lshl {x z : Int64} {y : Int32} (k : Goes p e below S G T (mkF m pc Ls (.int y :: .long x :: St))) (X : Stand p l e R s m args below meth c T locs cells slots) (hx : p.tables.exec = Jvm.exec) (hd : decode c.code pc = .ok (.lshl, 1)) (hz : x <<< (y &&& 0x3f).toInt64 = z) (hp : pc + 1 = pc') : Goes p e below S G T (mkF m pc' Ls (.long z :: St)) := by
  subst hp; exact fun t q => k t (XS.lshl X.here hx rfl hd rfl (hz ▸ q))
theorem lshr {x z : Int64} {y : Int32} (k : Goes p e below S G T (mkF m pc Ls (.int y :: .long x :: St))) (X : Stand p l e R s m args below meth c T locs cells slots) (hx : p.tables.exec = Jvm.exec) (hd : decode c.code pc = .ok (.lshr, 1)) (hz : x >>> (y &&& 0x3f).toInt64 = z) (hp : pc + 1 = pc') : Goes p e below S G T (mkF m pc' Ls (.long z :: St)) := by
  subst hp; exact fun t q => k t (XS.lshr X.here hx rfl hd rfl (hz ▸ q))
theorem lushr {x z : Int64} {y : Int32} (k : Goes p e below S G T (mkF m pc Ls (.int y :: .long x :: St))) (X : Stand p l e R s m args below meth c T locs cells slots) (hx : p.tables.exec = Jvm.exec) (hd : decode c.code pc = .ok (.lushr, 1)) (hz : (x.toUInt64 >>> (y &&& 0x3f).toInt64.toUInt64).toInt64 = z) (hp : pc + 1 = pc') : Goes p e below S G T (mkF m pc' Ls (.long z :: St)) := by
  subst hp; exact fun t q => k t (XS.lushr X.here hx rfl hd rfl (hz ▸ q))
theorem idiv {x y z : Int32} (k : Goes p e below S G T (mkF m pc Ls (.int y :: .int x :: St))) (X : Stand p l e R s m args below meth c T locs cells slots) (hx : p.tables.exec = Jvm.exec) (hd : decode c.code pc = .ok (.idiv, 1)) (hy : y ≠ 0) (hz : x / y = z) (hp : pc + 1 = pc') : Goes p e below S G T (mkF m pc' Ls (.int z :: St)) := by
  subst hp; exact fun t q => k t (XS.idiv X.here hx rfl hd rfl hy (hz ▸ q))
theorem ldiv {x y z : Int64} (k : Goes p e below S G T (mkF m pc Ls (.long y :: .long x :: St))) (X : Stand p l e R s m args below meth c T locs cells slots) (hx : p.tables.exec = Jvm.exec) (hd : decode c.code pc = .ok (.ldiv, 1)) (hy : y ≠ 0) (hz : x / y = z) (hp : pc + 1 = pc') : Goes p e below S G T (mkF m pc' Ls (.long z :: St)) := by
  subst hp; exact fun t q => k t (XS.ldiv X.here hx rfl hd rfl hy (hz ▸ q))
theorem irem {x y z : Int32} (k : Goes p e below S G T (mkF m pc Ls (.int y :: .int x :: St))) (X : Stand p l e R s m args below meth c T locs cells slots) (hx : p.tables.exec = Jvm.exec) (hd : decode c.code pc = .ok (.irem, 1)) (hy : y ≠ 0) (hz : x % y = z) (hp : pc + 1 = pc') : Goes p e below S G T (mkF m pc' Ls (.int z :: St)) := by
  subst hp; exact fun t q => k t (iremM X hx rfl hd rfl hy (hz ▸ q))
theorem lrem {x y z : Int64} (k : Goes p e below S G T (mkF m pc Ls (.long y :: .long x :: St))) (X : Stand p l e R s m args below meth c T locs cells slots) (hx : p.tables.exec = Jvm.exec) (hd : decode c.code pc = .ok (.lrem, 1)) (hy : y ≠ 0) (hz : x % y = z) (hp : pc + 1 = pc') : Goes p e below S G T (mkF m pc' Ls (.long z :: St)) := by
  subst hp; exact fun t q => k t (XS.lrem X.here hx rfl hd rfl hy (by rw [lrem_mod]; exact hz ▸ q))
theorem lcmp {x y : Int64} (k : Goes p e below S G T (mkF m pc Ls (.long y :: .long x :: St))) (X : Stand p l e R s m args below meth c T locs cells slots) (hx : p.tables.exec = Jvm.exec) (hd : decode c.code pc = .ok (.lcmp, 1)) (hp : pc + 1 = pc') : Goes p e below S G T (mkF m pc' Ls (.int (lcmpW x y) :: St)) := by
  subst hp; exact fun t q => k t (XS.lcmp X.here hx rfl hd rfl q)
theorem iinc {i : Nat} {cst : Int} {x z : Int32} {Ls' : Array Slot} (k : Goes p e below S G T (mkF m pc Ls St)) (X : Stand p l e R s m args below meth c T locs cells slots) (hx : p.tables.exec = Jvm.exec) (hd : decode c.code pc = .ok (.iinc i cst, 3)) (hl : Ls[i]? = some (.val (.int x))) (hz : x + Int32.ofInt cst = z) (hl' : storeLocals Ls i (.int z) = some Ls') (hp : pc + 3 = pc') : Goes p e below S G T (mkF m pc' Ls' St) := by
  subst hp; exact fun t q => k t (XS.iinc X.here hx rfl hd hl (hz ▸ hl') q)
theorem dup {v : Value} (k : Goes p e below S G T (mkF m pc Ls (v :: St))) (X : Stand p l e R s m args below meth c T locs cells slots) (hx : p.tables.exec = Jvm.exec) (hd : decode c.code pc = .ok (.dup, 1)) (hc : v.category = 1) (hp : pc + 1 = pc') : Goes p e below S G T (mkF m pc' Ls (v :: v :: St)) := by
  subst hp; exact fun t q => k t (XS.dup X.here hx rfl hd rfl hc q)
theorem dupX1 {v w : Value} (k : Goes p e below S G T (mkF m pc Ls (v :: w :: St))) (X : Stand p l e R s m args below meth c T locs cells slots) (hx : p.tables.exec = Jvm.exec) (hd : decode c.code pc = .ok (.dup_x1, 1)) (hc : v.category = 1) (hc' : w.category = 1) (hp : pc + 1 = pc') : Goes p e below S G T (mkF m pc' Ls (v :: w :: v :: St)) := by
  subst hp; exact fun t q => k t (XS.dupX1 X.here hx rfl hd rfl hc hc' q)
theorem pop {v : Value} (k : Goes p e below S G T (mkF m pc Ls (v :: St))) (X : Stand p l e R s m args below meth c T locs cells slots) (hx : p.tables.exec = Jvm.exec) (hd : decode c.code pc = .ok (.pop, 1)) (hc : v.category = 1) (hp : pc + 1 = pc') : Goes p e below S G T (mkF m pc' Ls St) := by
  subst hp; exact fun t q => k t (XS.pop X.here hx rfl hd rfl hc q)
theorem goto {o : Int} (k : Goes p e below S G T (mkF m pc Ls St)) (X : Stand p l e R s m args below meth c T locs cells slots) (hx : p.tables.exec = Jvm.exec) (hd : decode c.code pc = .ok (.goto o, 3)) (ho : 0 ≤ (pc : Int) + o) (hp : ((pc : Int) + o).toNat = pc') : Goes p e below S G T (mkF m pc' Ls St) := fun t q => k t (XS.goto X.here hx rfl rfl hd ho hp q)
theorem ifYes {o : Int} {cd : ClassFile.Cond} {x : Int32} (k : Goes p e below S G T (mkF m pc Ls (.int x :: St))) (X : Stand p l e R s m args below meth c T locs cells slots) (hx : p.tables.exec = Jvm.exec) (hd : decode c.code pc = .ok (.ifCond cd o, 3)) (hc : ifCond.holds cd x = true) (ho : 0 ≤ (pc : Int) + o) (hp : ((pc : Int) + o).toNat = pc') : Goes p e below S G T (mkF m pc' Ls St) := fun t q => k t (XS.ifYes X.here hx rfl rfl hd rfl hc ho hp q)
theorem ifNo {o : Int} {cd : ClassFile.Cond} {x : Int32} (k : Goes p e below S G T (mkF m pc Ls (.int x :: St))) (X : Stand p l e R s m args below meth c T locs cells slots) (hx : p.tables.exec = Jvm.exec) (hd : decode c.code pc = .ok (.ifCond cd o, 3)) (hc : ifCond.holds cd x = false) (hp : pc + 3 = pc') : Goes p e below S G T (mkF m pc' Ls St) := fun t q => k t (XS.ifNo X.here hx rfl hd rfl hc (by subst hp; exact q))
theorem icmpYes {o : Int} {cd : ClassFile.Cond} {x y : Int32} (k : Goes p e below S G T (mkF m pc Ls (.int y :: .int x :: St))) (X : Stand p l e R s m args below meth c T locs cells slots) (hx : p.tables.exec = Jvm.exec) (hd : decode c.code pc = .ok (.if_icmp cd o, 3)) (hc : if_icmp.holds cd x y = true) (ho : 0 ≤ (pc : Int) + o) (hp : ((pc : Int) + o).toNat = pc') : Goes p e below S G T (mkF m pc' Ls St) := fun t q => k t (XS.icmpYes X.here hx rfl rfl hd rfl hc ho hp q)
theorem icmpNo {o : Int} {cd : ClassFile.Cond} {x y : Int32} (k : Goes p e below S G T (mkF m pc Ls (.int y :: .int x :: St))) (X : Stand p l e R s m args below meth c T locs cells slots) (hx : p.tables.exec = Jvm.exec) (hd : decode c.code pc = .ok (.if_icmp cd o, 3)) (hc : if_icmp.holds cd x y = false) (hp : pc + 3 = pc') : Goes p e below S G T (mkF m pc' Ls St) := fun t q => k t (XS.icmpNo X.here hx rfl hd rfl hc (by subst hp; exact q))
theorem ifnullYes {o : Int} (k : Goes p e below S G T (mkF m pc Ls (.null :: St))) (X : Stand p l e R s m args below meth c T locs cells slots) (hx : p.tables.exec = Jvm.exec) (hd : decode c.code pc = .ok (.ifnull o, 3)) (ho : 0 ≤ (pc : Int) + o) (hp : ((pc : Int) + o).toNat = pc') : Goes p e below S G T (mkF m pc' Ls St) := fun t q => k t (XS.ifnullYes X.here hx rfl rfl hd rfl ho hp q)
theorem ifnullNo {o : Int} {b : Addr} (k : Goes p e below S G T (mkF m pc Ls (.ref b :: St))) (X : Stand p l e R s m args below meth c T locs cells slots) (hx : p.tables.exec = Jvm.exec) (hd : decode c.code pc = .ok (.ifnull o, 3)) (hp : pc + 3 = pc') : Goes p e below S G T (mkF m pc' Ls St) := fun t q => k t (XS.ifnullNo X.here hx rfl hd rfl (by subst hp; exact q))
theorem ifnonnullYes {o : Int} {b : Addr} (k : Goes p e below S G T (mkF m pc Ls (.ref b :: St))) (X : Stand p l e R s m args below meth c T locs cells slots) (hx : p.tables.exec = Jvm.exec) (hd : decode c.code pc = .ok (.ifnonnull o, 3)) (ho : 0 ≤ (pc : Int) + o) (hp : ((pc : Int) + o).toNat = pc') : Goes p e below S G T (mkF m pc' Ls St) := fun t q => k t (XS.ifnonnullYes X.here hx rfl rfl hd rfl ho hp q)
theorem ifnonnullNo {o : Int} (k : Goes p e below S G T (mkF m pc Ls (.null :: St))) (X : Stand p l e R s m args below meth c T locs cells slots) (hx : p.tables.exec = Jvm.exec) (hd : decode c.code pc = .ok (.ifnonnull o, 3)) (hp : pc + 3 = pc') : Goes p e below S G T (mkF m pc' Ls St) := fun t q => k t (XS.ifnonnullNo X.here hx rfl hd rfl (by subst hp; exact q))
theorem acmp {cd : ACond} {x y : Value} {o : Int} (k : Goes p e below S G T (mkF m pc Ls (y :: x :: St))) (X : Stand p l e R s m args below meth c T locs cells slots) (hx : p.tables.exec = Jvm.exec) (hd : decode c.code pc = .ok (.if_acmp cd o, 3)) (h1 : x.isRef = true) (h2 : y.isRef = true) (same : Bool) (hq : decide (x = y) = same) (ho : 0 ≤ (pc : Int) + o) (hp : pc' = if acV cd same = true then ((pc : Int) + o).toNat else pc + 3) : Goes p e below S G T (mkF m pc' Ls St) := fun t q => k t (Jvm.RoadKit.acmp (g := mkF m pc Ls (y :: x :: St)) X hx rfl h1 h2 rfl hd rfl hq ho hp q)
theorem tsw {dflt low high : Int} {offs : Array Int} {len : Nat} {o : Int} {i : Int32} (k : Goes p e below S G T (mkF m pc Ls (.int i :: St))) (X : Stand p l e R s m args below meth c T locs cells slots) (hx : p.tables.exec = Jvm.exec) (hd : decode c.code pc = .ok (.tableswitch dflt low high offs, len)) (hin : ¬ (i.toInt < low ∨ i.toInt > high)) (hoff : offs[(i.toInt - low).toNat]? = some o) (ho : 0 ≤ (pc : Int) + o) (hp : ((pc : Int) + o).toNat = pc') : Goes p e below S G T (mkF m pc' Ls St) := fun t q => k t (XS.tswIn X.here hx rfl rfl hd rfl hin hoff ho hp q)
end Jvm.Own.Fw
namespace Jvm.Pilot.@@N@@
open Jvm Jvm.ClassFile Sem Op Lib Jvm.Free Jvm.Stand Jvm.LawKit Jvm.RoadKit Jvm.Own Bundle Jvm.Pilot.@@N@@.Jvm.D
theorem own_fld {args : Array Value} {s : State} {t : Term} {C n d : String} {x : Addr} {k : Int32} (ev : t.eval args s none [] s = some (.ref x)) (h : (Jvm.Cond.eq (.field t C n d) (.int k)).value args s none s [] = some true) : Fld s s.heap x C n d (.int k) := by
  obtain ⟨u, w, e1, e2, K1, K2⟩ := cmp_v (Or.inl h)
  obtain rfl : w = .int k := (Option.some.inj e2).symm
  obtain ⟨z, rfl⟩ := K2
  have hz : z = k := by simpa [Cond.value, e1, e2] using h
  subst hz
  rw [fld_at ev] at e1
  exact Fld.start e1
theorem own_len {args : Array Value} {s : State} {t : Term} {w : Addr} {cl : Cell} {z : Int32} (ev : t.eval args s none [] s = some (.ref w)) (ha : s.arrayAt? w = some cl) (hl : (Jvm.Term.length t).eval args s none [] s = some (.int z)) : cl.slots.size < 2 ^ 31 ∧ cl.slots.size.toInt32 = z := by
  simp [Term.eval, ev, ha] at hl
  exact hl
def LongCache (Z : State) : Prop := ∃ (w : Addr) (cl : Cell), Sta Z Z.heap "java/lang/Long$LongCache" "cache" "[Ljava/lang/Long;" (.ref w) ∧ Bxs Z w cl "java/lang/Long" "J" 256 (fun j => (.long (j - 128).toInt64))
theorem own_LongCache {s : State} {args : Array Value} (h1 : (Jvm.Cond.initializedFor "java/lang/Long$LongCache" "cache" "[Ljava/lang/Long;").before args s = true ∨ ((Jvm.Cond.initialized "java/lang/Long$LongCache").before args s = true ∧ (Jvm.Cond.laysStatic "java/lang/Long$LongCache" "cache" "[Ljava/lang/Long;").before args s = true))
    (h2 : (Jvm.Cond.arrayOf (Jvm.Term.static "java/lang/Long$LongCache" "cache" "[Ljava/lang/Long;") (.object "java/lang/Long")).before args s = true)
    (h3 : (Jvm.Cond.eq (Jvm.Term.length (Jvm.Term.static "java/lang/Long$LongCache" "cache" "[Ljava/lang/Long;")) (Jvm.Term.int (256 : Int32))).before args s = true)
    (h4 : (Jvm.Cond.all (Jvm.Term.static "java/lang/Long$LongCache" "cache" "[Ljava/lang/Long;") (Jvm.Cond.and (Jvm.Cond.exactly (Jvm.Term.elem (Jvm.Term.static "java/lang/Long$LongCache" "cache" "[Ljava/lang/Long;") (Jvm.Term.index (0 : Nat))) "java/lang/Long") (Jvm.Cond.eq (Jvm.Term.field (Jvm.Term.elem (Jvm.Term.static "java/lang/Long$LongCache" "cache" "[Ljava/lang/Long;") (Jvm.Term.index (0 : Nat))) "java/lang/Long" "value" "J") (Jvm.Term.op1 Jvm.Unary.i2l (Jvm.Term.sub (Jvm.Term.index (0 : Nat)) (Jvm.Term.int (128 : Int32))))))).before args s = true) : LongCache s := by
  obtain ⟨w, ev⟩ := arr_v (Cond.before_iff.mp h2)
  obtain ⟨cl, A⟩ := Arr.start ev (Cond.before_iff.mp h2)
  have S := Sta.start ev h1
  have hl := eqv_i (Term.int_eval 256) (Cond.before_iff.mp h3)
  have hsz := own_len ev (A.fin (Vm.Alike.refl _)) hl
  refine ⟨w, cl, S, Bxs.start (t := (Jvm.Term.static "java/lang/Long$LongCache" "cache" "[Ljava/lang/Long;")) (F := (Jvm.Term.op1 Jvm.Unary.i2l (Jvm.Term.sub (Jvm.Term.index (0 : Nat)) (Jvm.Term.int (128 : Int32))))) (fun idx => ev) A hsz.1 hsz.2 (by decide) (Cond.before_iff.mp h4) (fun X j nn h => eqv_l (i2l_at ?_) h)⟩
  simp [Term.eval, (back32 nn).1]
def IntegerCache (Z : State) : Prop := ∃ (w : Addr) (cl : Cell), Sta Z Z.heap "java/lang/Integer$IntegerCache" "cache" "[Ljava/lang/Integer;" (.ref w) ∧ Bxs Z w cl "java/lang/Integer" "I" 256 (fun j => (.int (j - 128)))
theorem own_IntegerCache {s : State} {args : Array Value} (h1 : (Jvm.Cond.initializedFor "java/lang/Integer$IntegerCache" "cache" "[Ljava/lang/Integer;").before args s = true ∨ ((Jvm.Cond.initialized "java/lang/Integer$IntegerCache").before args s = true ∧ (Jvm.Cond.laysStatic "java/lang/Integer$IntegerCache" "cache" "[Ljava/lang/Integer;").before args s = true))
    (h2 : (Jvm.Cond.arrayOf (Jvm.Term.static "java/lang/Integer$IntegerCache" "cache" "[Ljava/lang/Integer;") (.object "java/lang/Integer")).before args s = true)
    (h3 : (Jvm.Cond.eq (Jvm.Term.length (Jvm.Term.static "java/lang/Integer$IntegerCache" "cache" "[Ljava/lang/Integer;")) (Jvm.Term.int (256 : Int32))).before args s = true)
    (h4 : (Jvm.Cond.all (Jvm.Term.static "java/lang/Integer$IntegerCache" "cache" "[Ljava/lang/Integer;") (Jvm.Cond.and (Jvm.Cond.exactly (Jvm.Term.elem (Jvm.Term.static "java/lang/Integer$IntegerCache" "cache" "[Ljava/lang/Integer;") (Jvm.Term.index (0 : Nat))) "java/lang/Integer") (Jvm.Cond.eq (Jvm.Term.field (Jvm.Term.elem (Jvm.Term.static "java/lang/Integer$IntegerCache" "cache" "[Ljava/lang/Integer;") (Jvm.Term.index (0 : Nat))) "java/lang/Integer" "value" "I") (Jvm.Term.sub (Jvm.Term.index (0 : Nat)) (Jvm.Term.int (128 : Int32)))))).before args s = true) : IntegerCache s := by
  obtain ⟨w, ev⟩ := arr_v (Cond.before_iff.mp h2)
  obtain ⟨cl, A⟩ := Arr.start ev (Cond.before_iff.mp h2)
  have S := Sta.start ev h1
  have hl := eqv_i (Term.int_eval 256) (Cond.before_iff.mp h3)
  have hsz := own_len ev (A.fin (Vm.Alike.refl _)) hl
  refine ⟨w, cl, S, Bxs.start (t := (Jvm.Term.static "java/lang/Integer$IntegerCache" "cache" "[Ljava/lang/Integer;")) (F := (Jvm.Term.sub (Jvm.Term.index (0 : Nat)) (Jvm.Term.int (128 : Int32)))) (fun idx => ev) A hsz.1 hsz.2 (by decide) (Cond.before_iff.mp h4) (fun X j nn h => eqv_i ?_ h)⟩
  simp [Term.eval, (back32 nn).1]
theorem own_in {q : Int64} (h1 : ¬ q < (-2147483648 : Int64)) (h2 : ¬ (2147483647 : Int64) < q) : q = (q.toInt32).toInt64 := by
  rw [Int64.lt_iff_toInt_lt] at h1 h2
  have e1 : (-2147483648 : Int64).toInt = -2147483648 := by decide
  have e2 : (2147483647 : Int64).toInt = 2147483647 := by decide
  apply Int64.toInt_inj.mp
  have c1 := c_l2i q
  have c2 := c_i2l q.toInt32
  have r1 := rng32 q.toInt32
  omega
theorem own_lo {q : Int64} (h1 : q < (-2147483648 : Int64)) : ¬ q = (q.toInt32).toInt64 := fun h => by
  rw [Int64.lt_iff_toInt_lt] at h1
  have e1 : (-2147483648 : Int64).toInt = -2147483648 := by decide
  have c2 := c_i2l q.toInt32
  have r1 := rng32 q.toInt32
  rw [← h] at c2
  omega
theorem own_hi {q : Int64} (h1 : (2147483647 : Int64) < q) : ¬ q = (q.toInt32).toInt64 := fun h => by
  rw [Int64.lt_iff_toInt_lt] at h1
  have e1 : (2147483647 : Int64).toInt = 2147483647 := by decide
  have c2 := c_i2l q.toInt32
  have r1 := rng32 q.toInt32
  rw [← h] at c2
  omega
theorem d_jdk_18_method_1_0 : decode jdk_18_method_1_code 0 = .ok (.aload_n 0, 1) := by decide +kernel
theorem d_jdk_18_method_1_1 : decode jdk_18_method_1_code 1 = .ok (.invokespecial 1, 3) := by decide +kernel
theorem d_jdk_18_method_1_4 : decode jdk_18_method_1_code 4 = .ok (.return_, 1) := by decide +kernel
theorem pn_Number : plainName "java/lang/Number" = true := by first | (simp [plainName, overriddenIn]; done) | decide +kernel
theorem ef_R_1 (m : MethodId) (x0 : Addr) : entryFrame m #[(.ref x0)] 1 = mkF m 0 #[.val (.ref x0)] [] := by first | (simp [entryFrame, mkF, argsToLocals, Value.category]; done) | rfl
def Q_ni (Z : State) (a1 : Addr) (h0 : Heap) (n0 : Nat) (v : Option Value) (h : Heap) (L : List Loc) : Prop := v = none ∧ Fr n0 L ∧ h = h0
set_option maxRecDepth 65536 in
set_option maxHeartbeats 40000000 in
theorem rm_ni (l : Launch) (Z : State) (a0 : Array Value) (hw : ∀ d ∈ tables_1, d.before a0 Z = true) (ws : List Jvm.Cond) (a1 : Addr) (h0 : Heap) (n0 : Nat) (O0 : Old Z n0 h0) :
    MetFree l (⟨"java/lang/Number", "<init>", "()V"⟩ : MethodName) (head1 (Jvm.Cond.code (⟨"java/lang/Number", "<init>", "()V"⟩ : MethodName) jdk_18_method_1_code 1 none :: ws) ({ frames := 1, cells := 0, slots := 0, locals := 12 } : Room)) (fun a U => a = #[(.ref a1)] ∧ Z.Warmed39 U.vm ∧ U.heap = h0) (fun _ _ _ _ _ => True) (fun _ U o U' => ∃ v L, o = .returned v ∧ Q_ni Z a1 h0 n0 v U'.heap L ∧ FrameEnd U o U' L ({ frames := 1, cells := 0, slots := 0, locals := 12 } : Room).cells ({ frames := 1, cells := 0, slots := 0, locals := 12 } : Room).slots) := by
  refine MetFree.of_bodySF (plainFor_of_name pn_Number) hisR ?_
  intro p e s m args below meth c s₁ Bd hml0 hP hK
  obtain ⟨rfl, hZ, hh⟩ := hP
  have hx := Bd.exec
  have hby := Bd.bytes
  have hml : c.maxLocals = 1 := hml0
  have hown : s.vm.findClass "java/lang/Number" = some m.cls := findClass_of_methodNamed Bd.named
  have hnm := (name_of_methodNamed Bd.named Bd.method).1
  have X0 : Stand p l e ({ frames := 1, cells := 0, slots := 0, locals := 12 } : Room) s m #[(.ref a1)] below meth c s₁ [] 0 0 := Stand.of_body Bd
  have e0 : s₁.heap = h0 := by rw [← hh, Bd.state]; rfl
  have N0 := Fr.nil n0
  obtain ⟨G0, hG0⟩ : ∃ z, z = (mkF m 0 #[.val (.ref a1)] []) := ⟨_, rfl⟩
  have pre0 : ∀ t, Steps p.tables e below (s₁.setTop G0) t → Steps p.tables e below (s₁.setTop (entryFrame m #[(.ref a1)] 1)) t := fun t k => castTop (ef_R_1 m a1) (hG0 ▸ k)
  have k : Goes p e below s₁ G0 s₁ (mkF m 0 #[.val (.ref a1)] []) := fun t q => hG0 ▸ q
  replace k := Fw.aloadN k X0 hx (hb hby d_jdk_18_method_1_0) rfl rfl (pc' := 1) rfl
  obtain ⟨T2, X2, e2, st2⟩ := initO X0 hx hZ hown (hw _ (List.mem_of_getElem? (i := 41) rfl)) (hw _ (List.mem_of_getElem? (i := 42) rfl)) (hw _ (List.mem_of_getElem? (i := 43) rfl)) e0 (g := (mkF m 1 #[.val (.ref a1)] [(.ref a1)])) rfl (by rw [hml]; rfl) rfl (hb hby d_jdk_18_method_1_1) (by decide) (W := 0) (by show 2 * 0 + _ ≤ _; exact Nat.le_of_eq rfl) (by decide)
  replace k : Goes p e below s₁ G0 T2 (mkF m 4 #[.val (.ref a1)] []) := fun t q => k t (st2 _ q)
  obtain ⟨fs, hr, hrun, hended, hW, hsame⟩ := X2.leave (v := none) (fun _ => rfl)
  refine ⟨_, _, pre0 _ (k _ ?_), hrun, hended, _, _, rfl, ?_, ⟨_, rfl⟩, hW, hsame.mono (by decide) (by decide)⟩
  · exact X2.returnOut hx Bd.returns (hb hby d_jdk_18_method_1_4) hr
  · show Q_ni Z a1 h0 n0 _ T2.heap _
    rw [e2]
    exact ⟨rfl, N0, rfl⟩
theorem d_jdk_35_method_26_0 : decode jdk_35_method_26_code 0 = .ok (.aload_n 0, 1) := by decide +kernel
theorem d_jdk_35_method_26_1 : decode jdk_35_method_26_code 1 = .ok (.invokespecial 270, 3) := by decide +kernel
theorem pd__r_V : parseMethodDescriptor "()V" = some ⟨[], none⟩ := by decide +kernel
theorem d_jdk_35_method_26_4 : decode jdk_35_method_26_code 4 = .ok (.aload_n 0, 1) := by decide +kernel
theorem d_jdk_35_method_26_5 : decode jdk_35_method_26_code 5 = .ok (.lload_n 1, 1) := by decide +kernel
theorem d_jdk_35_method_26_6 : decode jdk_35_method_26_code 6 = .ok (.putfield 273, 3) := by decide +kernel
theorem d_jdk_35_method_26_9 : decode jdk_35_method_26_code 9 = .ok (.return_, 1) := by decide +kernel
theorem pn_Long : plainName "java/lang/Long" = true := by first | (simp [plainName, overriddenIn]; done) | decide +kernel
theorem ef_RJ_3 (m : MethodId) (x0 : Addr) (x1 : Int64) : entryFrame m #[(.ref x0), (.long x1)] 3 = mkF m 0 #[.val (.ref x0), .val (.long x1), .second] [] := by first | (simp [entryFrame, mkF, argsToLocals, Value.category]; done) | rfl
def Q_li (Z : State) (a1 : Addr) (q2 : Int64) (h0 : Heap) (n0 : Nat) (v : Option Value) (h : Heap) (L : List Loc) : Prop := v = none ∧ Fr n0 L ∧ Keep h0 h [a1] ∧ Exa Z h a1 "java/lang/Long" ∧ Fld Z h a1 "java/lang/Long" "value" "J" (.long q2)
set_option maxRecDepth 65536 in
set_option maxHeartbeats 40000000 in
theorem rm_li (l : Launch) (Z : State) (a0 : Array Value) (hw : ∀ d ∈ tables_1, d.before a0 Z = true) (ws : List Jvm.Cond) (a1 : Addr) (q2 : Int64) (h0 : Heap) (n0 : Nat) (O0 : Old Z n0 h0) (E1 : Exa Z h0 a1 "java/lang/Long") (F1 : Fld Z h0 a1 "java/lang/Long" "value" "J" (.long 0)) (g1 : n0 ≤ a1) :
    MetFree l (⟨"java/lang/Long", "<init>", "(J)V"⟩ : MethodName) (head1 (Jvm.Cond.code (⟨"java/lang/Long", "<init>", "(J)V"⟩ : MethodName) jdk_35_method_26_code 3 none :: ws) ({ frames := 2, cells := 0, slots := 0, locals := 24 } : Room)) (fun a U => a = #[(.ref a1), (.long q2)] ∧ Z.Warmed39 U.vm ∧ U.heap = h0) (fun _ _ _ _ _ => True) (fun _ U o U' => ∃ v L, o = .returned v ∧ Q_li Z a1 q2 h0 n0 v U'.heap L ∧ FrameEnd U o U' L ({ frames := 2, cells := 0, slots := 0, locals := 24 } : Room).cells ({ frames := 2, cells := 0, slots := 0, locals := 24 } : Room).slots) := by
  refine MetFree.of_bodySF (plainFor_of_name pn_Long) hisR ?_
  intro p e s m args below meth c s₁ Bd hml0 hP hK
  obtain ⟨rfl, hZ, hh⟩ := hP
  have hx := Bd.exec
  have hby := Bd.bytes
  have hml : c.maxLocals = 3 := hml0
  have hown : s.vm.findClass "java/lang/Long" = some m.cls := findClass_of_methodNamed Bd.named
  have hnm := (name_of_methodNamed Bd.named Bd.method).1
  have X0 : Stand p l e ({ frames := 2, cells := 0, slots := 0, locals := 24 } : Room) s m #[(.ref a1), (.long q2)] below meth c s₁ [] 0 0 := Stand.of_body Bd
  have e0 : s₁.heap = h0 := by rw [← hh, Bd.state]; rfl
  have N0 := Fr.nil n0
  obtain ⟨G0, hG0⟩ : ∃ z, z = (mkF m 0 #[.val (.ref a1), .val (.long q2), .second] []) := ⟨_, rfl⟩
  have pre0 : ∀ t, Steps p.tables e below (s₁.setTop G0) t → Steps p.tables e below (s₁.setTop (entryFrame m #[(.ref a1), (.long q2)] 3)) t := fun t k => castTop (ef_RJ_3 m a1 q2) (hG0 ▸ k)
  have k : Goes p e below s₁ G0 s₁ (mkF m 0 #[.val (.ref a1), .val (.long q2), .second] []) := fun t q => hG0 ▸ q
  replace k := Fw.aloadN k X0 hx (hb hby d_jdk_35_method_26_0) rfl rfl (pc' := 1) rfl
  obtain ⟨_, _, ⟨T1, L1, k1, n1⟩, -, X1, ⟨Lc1, hQ1, l1, y1, z1⟩, st1⟩ := X0.specialBack hx (y := (⟨"java/lang/Number", "<init>", "()V"⟩ : MethodName)) rfl hown (mvT hZ (hw _ (List.mem_of_getElem? (i := 35) rfl))) (mvT hZ (hw _ (List.mem_of_getElem? (i := 36) rfl))) (mvT hZ (hw _ (List.mem_of_getElem? (i := 40) rfl))) (by decide) (backOf (W := 0) (rm_ni l Z a0 hw [] a1 h0 n0 O0) hZ (hw _ (List.mem_of_getElem? (i := 40) rfl)) (hw _ (List.mem_of_getElem? (i := 39) rfl)) (by decide) (by decide)) (g := (mkF m 1 #[.val (.ref a1), .val (.long q2), .second] [(.ref a1)])) rfl (by rw [hml]; rfl) (Steps.refl _) (a := a1) (argsL := []) (rest := []) (lenOf pd__r_V rfl) rfl (by show 2 * 0 + _ ≤ _; exact Nat.le_of_eq rfl) (hb hby d_jdk_35_method_26_1) (fun _ _ => ⟨rfl, e0, (by decide : 0 + 0 ≤ _), (by decide : 0 + 0 ≤ _)⟩)
  dsimp only [Pt.U, Pt.locs, Pt.cells, Pt.slots] at X1 l1 y1 z1 st1 hQ1
  subst l1 y1 z1
  obtain ⟨rfl, N1q, e1⟩ := hQ1
  have N1 := Fr.app N0 N1q
  replace k : Goes p e below s₁ G0 T1 (mkF m 4 #[.val (.ref a1), .val (.long q2), .second] []) := fun t q => k t (st1.trans q)
  replace k := Fw.aloadN k X1 hx (hb hby d_jdk_35_method_26_4) rfl rfl (pc' := 5) rfl
  replace k := Fw.lloadN k X1 hx (hb hby d_jdk_35_method_26_5) rfl (pc' := 6) rfl
  obtain ⟨T2, h2, X2, e2, W2, st2⟩ := putF X1 hx hZ hown (host := "") (Or.inl (hw _ (List.mem_of_getElem? (i := 44) rfl))) Via.refl e1 F1 E1 (Or.inr ⟨(hw _ (List.mem_of_getElem? (i := 45) rfl)), rfl, hnm⟩) (hw _ (List.mem_of_getElem? (i := 30) rfl)) (ty := .long) (by decide) rfl rfl (g := (mkF m 6 #[.val (.ref a1), .val (.long q2), .second] [(.long q2), (.ref a1)])) rfl rfl (hb hby d_jdk_35_method_26_6)
  have N2 := Fr.snoc X2 N1 g1
  have Fw2 := F1.same W2
  replace k : Goes p e below s₁ G0 T2 (mkF m 9 #[.val (.ref a1), .val (.long q2), .second] []) := fun t q => k t (st2 _ q)
  obtain ⟨fs, hr, hrun, hended, hW, hsame⟩ := X2.leave (v := none) (fun _ => rfl)
  refine ⟨_, _, pre0 _ (k _ ?_), hrun, hended, _, _, rfl, ?_, ⟨_, rfl⟩, hW, hsame.mono (by decide) (by decide)⟩
  · exact X2.returnOut hx Bd.returns (hb hby d_jdk_35_method_26_9) hr
  · show Q_li Z a1 q2 h0 n0 _ T2.heap _
    rw [e2]
    exact ⟨rfl, N2, ((Keep.refl h0 [a1]).wr W2 (Or.inl (List.mem_of_getElem? (i := 0) rfl))), (E1.wr W2), Fw2⟩
theorem own_cidx (q : Int64) (h1 : ¬ q < (-128 : Int64)) (h2 : ¬ (127 : Int64) < q) : ¬ (q.toInt32 + (128 : Int32) < 0 ∨ 256 ≤ (q.toInt32 + (128 : Int32)).toNatClampNeg) ∧ (q.toInt32 + (128 : Int32) - 128).toInt64 = q := by
  rw [Int64.lt_iff_toInt_lt] at h1 h2
  have e1 : (-128 : Int64).toInt = -128 := by decide
  have e2 : (127 : Int64).toInt = 127 := by decide
  have e3 : (128 : Int32).toInt = 128 := by decide
  have c1 := c_l2i q
  have c2 := c_iadd q.toInt32 128
  have c3 := c_isub (q.toInt32 + 128) 128
  have r1 := rng32 q.toInt32
  have r2 := rng32 (q.toInt32 + 128)
  have r3 := rng32 (q.toInt32 + 128 - 128)
  have z0 : (0 : Int32).toInt = 0 := by decide
  refine ⟨?_, ?_⟩
  · rw [Int32.lt_iff_toInt_lt]
    have hcl : (q.toInt32 + 128).toNatClampNeg = (q.toInt32 + 128).toInt.toNat := rfl
    omega
  · apply Int64.toInt_inj.mp
    rw [c_i2l]
    omega
theorem d_jdk_35_method_24_0 : decode jdk_35_method_24_code 0 = .ok (.sipush 128, 3) := by decide +kernel
theorem d_jdk_35_method_24_3 : decode jdk_35_method_24_code 3 = .ok (.istore_n 2, 1) := by decide +kernel
theorem d_jdk_35_method_24_4 : decode jdk_35_method_24_code 4 = .ok (.lload_n 0, 1) := by decide +kernel
theorem d_jdk_35_method_24_5 : decode jdk_35_method_24_code 5 = .ok (.ldc2_w 230, 3) := by decide +kernel
theorem d_jdk_35_method_24_8 : decode jdk_35_method_24_code 8 = .ok (.lcmp, 1) := by decide +kernel
theorem d_jdk_35_method_24_9 : decode jdk_35_method_24_code 9 = .ok (.ifCond .lt 22, 3) := by decide +kernel
theorem d_jdk_35_method_24_31 : decode jdk_35_method_24_code 31 = .ok (.new 1, 3) := by decide +kernel
theorem d_jdk_35_method_24_34 : decode jdk_35_method_24_code 34 = .ok (.dup, 1) := by decide +kernel
theorem d_jdk_35_method_24_35 : decode jdk_35_method_24_code 35 = .ok (.lload_n 0, 1) := by decide +kernel
theorem d_jdk_35_method_24_36 : decode jdk_35_method_24_code 36 = .ok (.invokespecial 240, 3) := by decide +kernel
theorem pd_J_r_V : parseMethodDescriptor "(J)V" = some ⟨[.long], none⟩ := by decide +kernel
theorem d_jdk_35_method_24_39 : decode jdk_35_method_24_code 39 = .ok (.areturn, 1) := by decide +kernel
theorem d_jdk_35_method_24_12 : decode jdk_35_method_24_code 12 = .ok (.lload_n 0, 1) := by decide +kernel
theorem d_jdk_35_method_24_13 : decode jdk_35_method_24_code 13 = .ok (.ldc2_w 232, 3) := by decide +kernel
theorem d_jdk_35_method_24_16 : decode jdk_35_method_24_code 16 = .ok (.lcmp, 1) := by decide +kernel
theorem d_jdk_35_method_24_17 : decode jdk_35_method_24_code 17 = .ok (.ifCond .gt 14, 3) := by decide +kernel
theorem d_jdk_35_method_24_20 : decode jdk_35_method_24_code 20 = .ok (.getstatic 234, 3) := by decide +kernel
theorem d_jdk_35_method_24_23 : decode jdk_35_method_24_code 23 = .ok (.lload_n 0, 1) := by decide +kernel
theorem d_jdk_35_method_24_24 : decode jdk_35_method_24_code 24 = .ok (.l2i, 1) := by decide +kernel
theorem d_jdk_35_method_24_25 : decode jdk_35_method_24_code 25 = .ok (.sipush 128, 3) := by decide +kernel
theorem d_jdk_35_method_24_28 : decode jdk_35_method_24_code 28 = .ok (.iadd, 1) := by decide +kernel
theorem d_jdk_35_method_24_29 : decode jdk_35_method_24_code 29 = .ok (.aaload, 1) := by decide +kernel
theorem d_jdk_35_method_24_30 : decode jdk_35_method_24_code 30 = .ok (.areturn, 1) := by decide +kernel
theorem ef_J_3 (m : MethodId) (x0 : Int64) : entryFrame m #[(.long x0)] 3 = mkF m 0 #[.val (.long x0), .second, .unset] [] := by first | (simp [entryFrame, mkF, argsToLocals, Value.category]; done) | rfl
def Q_vo (Z : State) (q1 : Int64) (h0 : Heap) (n0 : Nat) (v : Option Value) (h : Heap) (L : List Loc) : Prop := ∃ b, v = some (.ref b) ∧ Fr n0 L ∧ Ext h0 h ∧ Exa Z h b "java/lang/Long" ∧ Fld Z h b "java/lang/Long" "value" "J" (.long q1)
set_option maxRecDepth 65536 in
set_option maxHeartbeats 40000000 in
theorem rm_vo (l : Launch) (Z : State) (a0 : Array Value) (hw : ∀ d ∈ tables_1, d.before a0 Z = true) (ws : List Jvm.Cond) (q1 : Int64) (h0 : Heap) (n0 : Nat) (O0 : Old Z n0 h0) (HL : LongCache Z) :
    MetFree l (⟨"java/lang/Long", "valueOf", "(J)Ljava/lang/Long;"⟩ : MethodName) (head1 (Jvm.Cond.code (⟨"java/lang/Long", "valueOf", "(J)Ljava/lang/Long;"⟩ : MethodName) jdk_35_method_24_code 3 (some (.object "java/lang/Long")) :: ws) ({ frames := 3, cells := 1, slots := 1, locals := 39 } : Room)) (fun a U => a = #[(.long q1)] ∧ Z.Warmed39 U.vm ∧ U.heap = h0) (fun _ _ _ _ _ => True) (fun _ U o U' => ∃ v L, o = .returned v ∧ Q_vo Z q1 h0 n0 v U'.heap L ∧ FrameEnd U o U' L ({ frames := 3, cells := 1, slots := 1, locals := 39 } : Room).cells ({ frames := 3, cells := 1, slots := 1, locals := 39 } : Room).slots) := by
  refine MetFree.of_bodySF (plainFor_of_name pn_Long) hisR ?_
  intro p e s m args below meth c s₁ Bd hml0 hP hK
  obtain ⟨rfl, hZ, hh⟩ := hP
  have hx := Bd.exec
  have hby := Bd.bytes
  have hml : c.maxLocals = 3 := hml0
  have hown : s.vm.findClass "java/lang/Long" = some m.cls := findClass_of_methodNamed Bd.named
  have hnm := (name_of_methodNamed Bd.named Bd.method).1
  have X0 : Stand p l e ({ frames := 3, cells := 1, slots := 1, locals := 39 } : Room) s m #[(.long q1)] below meth c s₁ [] 0 0 := Stand.of_body Bd
  have e0 : s₁.heap = h0 := by rw [← hh, Bd.state]; rfl
  have N0 := Fr.nil n0
  obtain ⟨G0, hG0⟩ : ∃ z, z = (mkF m 0 #[.val (.long q1), .second, .unset] []) := ⟨_, rfl⟩
  have pre0 : ∀ t, Steps p.tables e below (s₁.setTop G0) t → Steps p.tables e below (s₁.setTop (entryFrame m #[(.long q1)] 3)) t := fun t k => castTop (ef_J_3 m q1) (hG0 ▸ k)
  have k : Goes p e below s₁ G0 s₁ (mkF m 0 #[.val (.long q1), .second, .unset] []) := fun t q => hG0 ▸ q
  obtain ⟨wC, clC, SC, AC, LC, -, HC⟩ := HL
  replace k := Fw.sipush k X0 hx (hb hby d_jdk_35_method_24_0) (z := (128 : Int32)) (by decide) (pc' := 3) rfl
  replace k := Fw.istoreN k X0 hx (hb hby d_jdk_35_method_24_3)  (Ls' := #[.val (.long q1), .second, .val (.int 128)]) rfl (pc' := 4) rfl
  replace k := Fw.lloadN k X0 hx (hb hby d_jdk_35_method_24_4) rfl (pc' := 5) rfl
  replace k : Goes p e below s₁ G0 s₁ (mkF m 8 #[.val (.long q1), .second, .val (.int 128)] [(.long (-128)), (.long q1)]) := fun t q => k t (X0.ldc2Long hx hown (mvT hZ (hw _ (List.mem_of_getElem? (i := 28) rfl))) (g := (mkF m 5 #[.val (.long q1), .second, .val (.int 128)] [(.long q1)])) rfl (hb hby d_jdk_35_method_24_5) _ q)
  replace k := Fw.lcmp k X0 hx (hb hby d_jdk_35_method_24_8) (pc' := 9) rfl
  by_cases hc9_1 : q1 < (-128 : Int64)
  · replace k := Fw.ifYes k X0 hx (hb hby d_jdk_35_method_24_9) ((if0 _ _).trans (tlt ((lw_lt _ _).mpr hc9_1)).1) (by decide) (pc' := 31) rfl
    obtain ⟨T2, h2, X2, e2, E2, A2, D2, -, st2⟩ := newO X0 hx hZ hown (hw _ (List.mem_of_getElem? (i := 29) rfl)) (hw _ (List.mem_of_getElem? (i := 30) rfl)) (hw _ (List.mem_of_getElem? (i := 26) rfl)) e0 (g := (mkF m 31 #[.val (.long q1), .second, .val (.int 128)] [])) rfl (hb hby d_jdk_35_method_24_31) (by decide) (by decide)
    obtain ⟨b2, g2⟩ : ∃ z, z = h0.size := ⟨_, rfl⟩
    rw [← g2] at A2 D2 st2
    have gn_b2 : n0 ≤ b2 := Nat.le_trans (old_le O0) (Nat.le_of_eq g2.symm)
    have gz_b2 : h0.size ≤ b2 := Nat.le_trans ext_refl.1 (Nat.le_of_eq g2.symm)
    have F2_value : Fld Z h2 b2 "java/lang/Long" "value" "J" (.long 0) := D2 (Or.inr (hw _ (List.mem_of_getElem? (i := 45) rfl))) (ty := .long) (by decide)
    replace k : Goes p e below s₁ G0 T2 (mkF m 34 #[.val (.long q1), .second, .val (.int 128)] [(.ref b2)]) := fun t q => k t (st2 _ q)
    replace k := Fw.dup k X2 hx (hb hby d_jdk_35_method_24_34) rfl (pc' := 35) rfl
    replace k := Fw.lloadN k X2 hx (hb hby d_jdk_35_method_24_35) rfl (pc' := 36) rfl
    have fc4 := (O0.ext E2)
    obtain ⟨_, _, ⟨T3, L3, k3, n3⟩, -, X3, ⟨Lc3, hQ3, l3, y3, z3⟩, st3⟩ := X2.specialBack hx (y := (⟨"java/lang/Long", "<init>", "(J)V"⟩ : MethodName)) rfl hown (mvT hZ (hw _ (List.mem_of_getElem? (i := 31) rfl))) (mvT hZ (hw _ (List.mem_of_getElem? (i := 32) rfl))) (mvT hZ (hw _ (List.mem_of_getElem? (i := 34) rfl))) (by decide) (backOf (W := 1) (rm_li l Z a0 hw [] b2 q1 h2 n0 fc4 A2 F2_value gn_b2) hZ (hw _ (List.mem_of_getElem? (i := 34) rfl)) (hw _ (List.mem_of_getElem? (i := 26) rfl)) (by decide) (by decide)) (g := (mkF m 36 #[.val (.long q1), .second, .val (.int 128)] [(.long q1), (.ref b2), (.ref b2)])) rfl (by rw [hml]; rfl) (Steps.refl _) (a := b2) (argsL := [(.long q1)]) (rest := [(.ref b2)]) (lenOf pd_J_r_V rfl) rfl (by show 2 * 0 + _ ≤ _; exact Nat.le_of_eq rfl) (hb hby d_jdk_35_method_24_36) (fun _ _ => ⟨rfl, e2, (by decide : 1 + 0 ≤ _), (by decide : 1 + 0 ≤ _)⟩)
    dsimp only [Pt.U, Pt.locs, Pt.cells, Pt.slots] at X3 l3 y3 z3 st3 hQ3
    subst l3 y3 z3
    obtain ⟨rfl, N3q, K3, qa3, qb3⟩ := hQ3
    have N3 := Fr.app N0 N3q
    replace k : Goes p e below s₁ G0 T3 (mkF m 39 #[.val (.long q1), .second, .val (.int 128)] [(.ref b2)]) := fun t q => k t (st3.trans q)
    obtain ⟨fs, hr, hrun, hended, hW, hsame⟩ := X3.leave (v := some (.ref b2)) (fun h => by rw [Bd.returns] at h; cases h)
    refine ⟨_, _, pre0 _ (k _ ?_), hrun, hended, _, _, rfl, ?_, ⟨_, rfl⟩, hW, hsame.mono (by decide) (by decide)⟩
    · show Steps p.tables e below (T3.setTop (mkF m 39 #[.val (.long q1), .second, .val (.int 128)] [(.ref b2)])) _
      jvm_step X3.here [X3.here.top, hx, (hb hby d_jdk_35_method_24_39), X3.method', Bd.returns, Value.isRef, FieldType.isReference]
      first | (intro acts; rw [hr _ acts rfl rfl rfl]) | rw [hr _ _ rfl rfl rfl]
      exact Steps.refl _
    · show Q_vo Z q1 h0 n0 _ T3.heap _
      exact ⟨b2, rfl, N3, (ext_keep (ext_trans ext_refl E2) K3 (allS gz_b2 all0)), qa3, qb3⟩
  · replace k := Fw.ifNo k X0 hx (hb hby d_jdk_35_method_24_9) ((if0 _ _).trans (flt (fun q => hc9_1 ((lw_lt _ _).mp q))).1) (pc' := 12) rfl
    replace k := Fw.lloadN k X0 hx (hb hby d_jdk_35_method_24_12) rfl (pc' := 13) rfl
    replace k : Goes p e below s₁ G0 s₁ (mkF m 16 #[.val (.long q1), .second, .val (.int 128)] [(.long 127), (.long q1)]) := fun t q => k t (X0.ldc2Long hx hown (mvT hZ (hw _ (List.mem_of_getElem? (i := 59) rfl))) (g := (mkF m 13 #[.val (.long q1), .second, .val (.int 128)] [(.long q1)])) rfl (hb hby d_jdk_35_method_24_13) _ q)
    replace k := Fw.lcmp k X0 hx (hb hby d_jdk_35_method_24_16) (pc' := 17) rfl
    by_cases hc17_5 : (127 : Int64) < q1
    · replace k := Fw.ifYes k X0 hx (hb hby d_jdk_35_method_24_17) ((if0 _ _).trans (tlt ((lw_gt _ _).mpr hc17_5)).2.2.1) (by decide) (pc' := 31) rfl
      obtain ⟨T6, h6, X6, e6, E6, A6, D6, -, st6⟩ := newO X0 hx hZ hown (hw _ (List.mem_of_getElem? (i := 29) rfl)) (hw _ (List.mem_of_getElem? (i := 30) rfl)) (hw _ (List.mem_of_getElem? (i := 26) rfl)) e0 (g := (mkF m 31 #[.val (.long q1), .second, .val (.int 128)] [])) rfl (hb hby d_jdk_35_method_24_31) (by decide) (by decide)
      obtain ⟨b6, g6⟩ : ∃ z, z = h0.size := ⟨_, rfl⟩
      rw [← g6] at A6 D6 st6
      have gn_b6 : n0 ≤ b6 := Nat.le_trans (old_le O0) (Nat.le_of_eq g6.symm)
      have gz_b6 : h0.size ≤ b6 := Nat.le_trans ext_refl.1 (Nat.le_of_eq g6.symm)
      have F6_value : Fld Z h6 b6 "java/lang/Long" "value" "J" (.long 0) := D6 (Or.inr (hw _ (List.mem_of_getElem? (i := 45) rfl))) (ty := .long) (by decide)
      replace k : Goes p e below s₁ G0 T6 (mkF m 34 #[.val (.long q1), .second, .val (.int 128)] [(.ref b6)]) := fun t q => k t (st6 _ q)
      replace k := Fw.dup k X6 hx (hb hby d_jdk_35_method_24_34) rfl (pc' := 35) rfl
      replace k := Fw.lloadN k X6 hx (hb hby d_jdk_35_method_24_35) rfl (pc' := 36) rfl
      have fc8 := (O0.ext E6)
      obtain ⟨_, _, ⟨T7, L7, k7, n7⟩, -, X7, ⟨Lc7, hQ7, l7, y7, z7⟩, st7⟩ := X6.specialBack hx (y := (⟨"java/lang/Long", "<init>", "(J)V"⟩ : MethodName)) rfl hown (mvT hZ (hw _ (List.mem_of_getElem? (i := 31) rfl))) (mvT hZ (hw _ (List.mem_of_getElem? (i := 32) rfl))) (mvT hZ (hw _ (List.mem_of_getElem? (i := 34) rfl))) (by decide) (backOf (W := 1) (rm_li l Z a0 hw [] b6 q1 h6 n0 fc8 A6 F6_value gn_b6) hZ (hw _ (List.mem_of_getElem? (i := 34) rfl)) (hw _ (List.mem_of_getElem? (i := 26) rfl)) (by decide) (by decide)) (g := (mkF m 36 #[.val (.long q1), .second, .val (.int 128)] [(.long q1), (.ref b6), (.ref b6)])) rfl (by rw [hml]; rfl) (Steps.refl _) (a := b6) (argsL := [(.long q1)]) (rest := [(.ref b6)]) (lenOf pd_J_r_V rfl) rfl (by show 2 * 0 + _ ≤ _; exact Nat.le_of_eq rfl) (hb hby d_jdk_35_method_24_36) (fun _ _ => ⟨rfl, e6, (by decide : 1 + 0 ≤ _), (by decide : 1 + 0 ≤ _)⟩)
      dsimp only [Pt.U, Pt.locs, Pt.cells, Pt.slots] at X7 l7 y7 z7 st7 hQ7
      subst l7 y7 z7
      obtain ⟨rfl, N7q, K7, qa7, qb7⟩ := hQ7
      have N7 := Fr.app N0 N7q
      replace k : Goes p e below s₁ G0 T7 (mkF m 39 #[.val (.long q1), .second, .val (.int 128)] [(.ref b6)]) := fun t q => k t (st7.trans q)
      obtain ⟨fs, hr, hrun, hended, hW, hsame⟩ := X7.leave (v := some (.ref b6)) (fun h => by rw [Bd.returns] at h; cases h)
      refine ⟨_, _, pre0 _ (k _ ?_), hrun, hended, _, _, rfl, ?_, ⟨_, rfl⟩, hW, hsame.mono (by decide) (by decide)⟩
      · show Steps p.tables e below (T7.setTop (mkF m 39 #[.val (.long q1), .second, .val (.int 128)] [(.ref b6)])) _
        jvm_step X7.here [X7.here.top, hx, (hb hby d_jdk_35_method_24_39), X7.method', Bd.returns, Value.isRef, FieldType.isReference]
        first | (intro acts; rw [hr _ acts rfl rfl rfl]) | rw [hr _ _ rfl rfl rfl]
        exact Steps.refl _
      · show Q_vo Z q1 h0 n0 _ T7.heap _
        exact ⟨b6, rfl, N7, (ext_keep (ext_trans ext_refl E6) K7 (allS gz_b6 all0)), qa7, qb7⟩
    · replace k := Fw.ifNo k X0 hx (hb hby d_jdk_35_method_24_17) ((if0 _ _).trans (flt (fun q => hc17_5 ((lw_gt _ _).mp q))).2.2.1) (pc' := 20) rfl
      obtain ⟨T9, X9, e9, st9⟩ := getS2 X0 hx hZ hown (host := "") (Or.inl (hw _ (List.mem_of_getElem? (i := 79) rfl))) Via.refl e0 (SC.ext O0.2) (g := (mkF m 20 #[.val (.long q1), .second, .val (.int 128)] [])) rfl (hb hby d_jdk_35_method_24_20)
      replace k : Goes p e below s₁ G0 T9 (mkF m 23 #[.val (.long q1), .second, .val (.int 128)] [(.ref wC)]) := fun t q => k t (st9 _ q)
      replace k := Fw.lloadN k X9 hx (hb hby d_jdk_35_method_24_23) rfl (pc' := 24) rfl
      replace k := Fw.l2i k X9 hx (hb hby d_jdk_35_method_24_24) rfl (pc' := 25) rfl
      replace k := Fw.sipush k X9 hx (hb hby d_jdk_35_method_24_25) (z := (128 : Int32)) (by decide) (pc' := 28) rfl
      replace k := Fw.iadd k X9 hx (hb hby d_jdk_35_method_24_28) rfl (pc' := 29) rfl
      obtain ⟨hin29, hval29⟩ := own_cidx q1 hc9_1 hc17_5
      rw [show (256 : Nat) = clC.slots.size from LC.symm] at hin29
      obtain ⟨b29, hb29, E29, F29⟩ := HC _ hin29
      dsimp only at F29
      rw [hval29] at F29
      have A29 := AC.ext O0.2
      replace k : Goes p e below s₁ G0 T9 (mkF m 30 #[.val (.long q1), .second, .val (.int 128)] [(.ref b29)]) := fun t q => k t (X9.aaload hx (j := ((q1.toInt32) + (128 : Int32))) (v := (.ref b29)) (by rw [e9]; exact A29.1) (State.isArrayOf_alike hZ.alike A29.2.1) rfl A29.2.2 hin29 hb29 (g := (mkF m 29 #[.val (.long q1), .second, .val (.int 128)] [(.int ((q1.toInt32) + (128 : Int32))), (.ref wC)])) rfl rfl (hb hby d_jdk_35_method_24_29) _ q)
      obtain ⟨fs, hr, hrun, hended, hW, hsame⟩ := X9.leave (v := some (.ref b29)) (fun h => by rw [Bd.returns] at h; cases h)
      refine ⟨_, _, pre0 _ (k _ ?_), hrun, hended, _, _, rfl, ?_, ⟨_, rfl⟩, hW, hsame.mono (by decide) (by decide)⟩
      · show Steps p.tables e below (T9.setTop (mkF m 30 #[.val (.long q1), .second, .val (.int 128)] [(.ref b29)])) _
        jvm_step X9.here [X9.here.top, hx, (hb hby d_jdk_35_method_24_30), X9.method', Bd.returns, Value.isRef, FieldType.isReference]
        first | (intro acts; rw [hr _ acts rfl rfl rfl]) | rw [hr _ _ rfl rfl rfl]
        exact Steps.refl _
      · show Q_vo Z q1 h0 n0 _ T9.heap _
        rw [e9]
        exact ⟨b29, rfl, N0, ext_refl, (E29.ext O0.2), (F29.ext O0.2)⟩
theorem d_jdk_35_method_31_0 : decode jdk_35_method_31_code 0 = .ok (.aload_n 0, 1) := by decide +kernel
theorem d_jdk_35_method_31_1 : decode jdk_35_method_31_code 1 = .ok (.getfield 273, 3) := by decide +kernel
theorem d_jdk_35_method_31_4 : decode jdk_35_method_31_code 4 = .ok (.lreturn, 1) := by decide +kernel
def Q_lv (Z : State) (a1 : Addr) (q1 : Int64) (h0 : Heap) (n0 : Nat) (v : Option Value) (h : Heap) (L : List Loc) : Prop := v = some (.long q1) ∧ Fr n0 L ∧ h = h0
set_option maxRecDepth 65536 in
set_option maxHeartbeats 40000000 in
theorem rm_lv (l : Launch) (Z : State) (a0 : Array Value) (hw : ∀ d ∈ tables_1, d.before a0 Z = true) (ws : List Jvm.Cond) (a1 : Addr) (q1 : Int64) (h0 : Heap) (n0 : Nat) (O0 : Old Z n0 h0) (F1 : Fld Z h0 a1 "java/lang/Long" "value" "J" (.long q1)) :
    MetFree l (⟨"java/lang/Long", "longValue", "()J"⟩ : MethodName) (head1 (Jvm.Cond.code (⟨"java/lang/Long", "longValue", "()J"⟩ : MethodName) jdk_35_method_31_code 1 (some .long) :: ws) ({ frames := 0, cells := 0, slots := 0, locals := 0 } : Room)) (fun a U => a = #[(.ref a1)] ∧ Z.Warmed39 U.vm ∧ U.heap = h0) (fun _ _ _ _ _ => True) (fun _ U o U' => ∃ v L, o = .returned v ∧ Q_lv Z a1 q1 h0 n0 v U'.heap L ∧ FrameEnd U o U' L ({ frames := 0, cells := 0, slots := 0, locals := 0 } : Room).cells ({ frames := 0, cells := 0, slots := 0, locals := 0 } : Room).slots) := by
  refine MetFree.of_bodySF (plainFor_of_name pn_Long) hisR ?_
  intro p e s m args below meth c s₁ Bd hml0 hP hK
  obtain ⟨rfl, hZ, hh⟩ := hP
  have hx := Bd.exec
  have hby := Bd.bytes
  have hml : c.maxLocals = 1 := hml0
  have hown : s.vm.findClass "java/lang/Long" = some m.cls := findClass_of_methodNamed Bd.named
  have hnm := (name_of_methodNamed Bd.named Bd.method).1
  have X0 : Stand p l e ({ frames := 0, cells := 0, slots := 0, locals := 0 } : Room) s m #[(.ref a1)] below meth c s₁ [] 0 0 := Stand.of_body Bd
  have e0 : s₁.heap = h0 := by rw [← hh, Bd.state]; rfl
  have N0 := Fr.nil n0
  obtain ⟨G0, hG0⟩ : ∃ z, z = (mkF m 0 #[.val (.ref a1)] []) := ⟨_, rfl⟩
  have pre0 : ∀ t, Steps p.tables e below (s₁.setTop G0) t → Steps p.tables e below (s₁.setTop (entryFrame m #[(.ref a1)] 1)) t := fun t k => castTop (ef_R_1 m a1) (hG0 ▸ k)
  have k : Goes p e below s₁ G0 s₁ (mkF m 0 #[.val (.ref a1)] []) := fun t q => hG0 ▸ q
  replace k := Fw.aloadN k X0 hx (hb hby d_jdk_35_method_31_0) rfl rfl (pc' := 1) rfl
  obtain ⟨T1, X1, e1, st1⟩ := getF X0 hx hZ hown (host := "") (Or.inl (hw _ (List.mem_of_getElem? (i := 44) rfl))) Via.refl e0 F1 (g := (mkF m 1 #[.val (.ref a1)] [(.ref a1)])) rfl rfl (hb hby d_jdk_35_method_31_1)
  replace k : Goes p e below s₁ G0 T1 (mkF m 4 #[.val (.ref a1)] [(.long q1)]) := fun t q => k t (st1 _ q)
  obtain ⟨fs, hr, hrun, hended, hW, hsame⟩ := X1.leave (v := some (.long q1)) (fun h => by rw [Bd.returns] at h; cases h)
  refine ⟨_, _, pre0 _ (k _ ?_), hrun, hended, _, _, rfl, ?_, ⟨_, rfl⟩, hW, hsame.mono (by decide) (by decide)⟩
  · show Steps p.tables e below (T1.setTop (mkF m 4 #[.val (.ref a1)] [(.long q1)])) _
    jvm_step X1.here [X1.here.top, hx, (hb hby d_jdk_35_method_31_4), X1.method', Bd.returns, narrow]
    first | (intro acts; rw [hr _ acts rfl rfl rfl]) | rw [hr _ _ rfl rfl rfl]
    exact Steps.refl _
  · show Q_lv Z a1 q1 h0 n0 _ T1.heap _
    rw [e1]
    exact ⟨rfl, N0, rfl⟩
theorem d_jdk_33_method_23_0 : decode jdk_33_method_23_code 0 = .ok (.aload_n 0, 1) := by decide +kernel
theorem d_jdk_33_method_23_1 : decode jdk_33_method_23_code 1 = .ok (.invokespecial 202, 3) := by decide +kernel
theorem d_jdk_33_method_23_4 : decode jdk_33_method_23_code 4 = .ok (.aload_n 0, 1) := by decide +kernel
theorem d_jdk_33_method_23_5 : decode jdk_33_method_23_code 5 = .ok (.iload_n 1, 1) := by decide +kernel
theorem d_jdk_33_method_23_6 : decode jdk_33_method_23_code 6 = .ok (.putfield 205, 3) := by decide +kernel
theorem d_jdk_33_method_23_9 : decode jdk_33_method_23_code 9 = .ok (.return_, 1) := by decide +kernel
theorem pn_Integer : plainName "java/lang/Integer" = true := by first | (simp [plainName, overriddenIn]; done) | decide +kernel
theorem ef_RI_2 (m : MethodId) (x0 : Addr) (x1 : Int32) : entryFrame m #[(.ref x0), (.int x1)] 2 = mkF m 0 #[.val (.ref x0), .val (.int x1)] [] := by first | (simp [entryFrame, mkF, argsToLocals, Value.category]; done) | rfl
def Q_ii (Z : State) (a1 : Addr) (p2 : Int32) (h0 : Heap) (n0 : Nat) (v : Option Value) (h : Heap) (L : List Loc) : Prop := v = none ∧ Fr n0 L ∧ Keep h0 h [a1] ∧ Exa Z h a1 "java/lang/Integer" ∧ Fld Z h a1 "java/lang/Integer" "value" "I" (.int p2)
set_option maxRecDepth 65536 in
set_option maxHeartbeats 40000000 in
theorem rm_ii (l : Launch) (Z : State) (a0 : Array Value) (hw : ∀ d ∈ tables_1, d.before a0 Z = true) (ws : List Jvm.Cond) (a1 : Addr) (p2 : Int32) (h0 : Heap) (n0 : Nat) (O0 : Old Z n0 h0) (E1 : Exa Z h0 a1 "java/lang/Integer") (F1 : Fld Z h0 a1 "java/lang/Integer" "value" "I" (.int 0)) (g1 : n0 ≤ a1) :
    MetFree l (⟨"java/lang/Integer", "<init>", "(I)V"⟩ : MethodName) (head1 (Jvm.Cond.code (⟨"java/lang/Integer", "<init>", "(I)V"⟩ : MethodName) jdk_33_method_23_code 2 none :: ws) ({ frames := 2, cells := 0, slots := 0, locals := 24 } : Room)) (fun a U => a = #[(.ref a1), (.int p2)] ∧ Z.Warmed39 U.vm ∧ U.heap = h0) (fun _ _ _ _ _ => True) (fun _ U o U' => ∃ v L, o = .returned v ∧ Q_ii Z a1 p2 h0 n0 v U'.heap L ∧ FrameEnd U o U' L ({ frames := 2, cells := 0, slots := 0, locals := 24 } : Room).cells ({ frames := 2, cells := 0, slots := 0, locals := 24 } : Room).slots) := by
  refine MetFree.of_bodySF (plainFor_of_name pn_Integer) hisR ?_
  intro p e s m args below meth c s₁ Bd hml0 hP hK
  obtain ⟨rfl, hZ, hh⟩ := hP
  have hx := Bd.exec
  have hby := Bd.bytes
  have hml : c.maxLocals = 2 := hml0
  have hown : s.vm.findClass "java/lang/Integer" = some m.cls := findClass_of_methodNamed Bd.named
  have hnm := (name_of_methodNamed Bd.named Bd.method).1
  have X0 : Stand p l e ({ frames := 2, cells := 0, slots := 0, locals := 24 } : Room) s m #[(.ref a1), (.int p2)] below meth c s₁ [] 0 0 := Stand.of_body Bd
  have e0 : s₁.heap = h0 := by rw [← hh, Bd.state]; rfl
  have N0 := Fr.nil n0
  obtain ⟨G0, hG0⟩ : ∃ z, z = (mkF m 0 #[.val (.ref a1), .val (.int p2)] []) := ⟨_, rfl⟩
  have pre0 : ∀ t, Steps p.tables e below (s₁.setTop G0) t → Steps p.tables e below (s₁.setTop (entryFrame m #[(.ref a1), (.int p2)] 2)) t := fun t k => castTop (ef_RI_2 m a1 p2) (hG0 ▸ k)
  have k : Goes p e below s₁ G0 s₁ (mkF m 0 #[.val (.ref a1), .val (.int p2)] []) := fun t q => hG0 ▸ q
  replace k := Fw.aloadN k X0 hx (hb hby d_jdk_33_method_23_0) rfl rfl (pc' := 1) rfl
  obtain ⟨_, _, ⟨T1, L1, k1, n1⟩, -, X1, ⟨Lc1, hQ1, l1, y1, z1⟩, st1⟩ := X0.specialBack hx (y := (⟨"java/lang/Number", "<init>", "()V"⟩ : MethodName)) rfl hown (mvT hZ (hw _ (List.mem_of_getElem? (i := 68) rfl))) (mvT hZ (hw _ (List.mem_of_getElem? (i := 36) rfl))) (mvT hZ (hw _ (List.mem_of_getElem? (i := 40) rfl))) (by decide) (backOf (W := 0) (rm_ni l Z a0 hw [] a1 h0 n0 O0) hZ (hw _ (List.mem_of_getElem? (i := 40) rfl)) (hw _ (List.mem_of_getElem? (i := 39) rfl)) (by decide) (by decide)) (g := (mkF m 1 #[.val (.ref a1), .val (.int p2)] [(.ref a1)])) rfl (by rw [hml]; rfl) (Steps.refl _) (a := a1) (argsL := []) (rest := []) (lenOf pd__r_V rfl) rfl (by show 2 * 0 + _ ≤ _; exact Nat.le_of_eq rfl) (hb hby d_jdk_33_method_23_1) (fun _ _ => ⟨rfl, e0, (by decide : 0 + 0 ≤ _), (by decide : 0 + 0 ≤ _)⟩)
  dsimp only [Pt.U, Pt.locs, Pt.cells, Pt.slots] at X1 l1 y1 z1 st1 hQ1
  subst l1 y1 z1
  obtain ⟨rfl, N1q, e1⟩ := hQ1
  have N1 := Fr.app N0 N1q
  replace k : Goes p e below s₁ G0 T1 (mkF m 4 #[.val (.ref a1), .val (.int p2)] []) := fun t q => k t (st1.trans q)
  replace k := Fw.aloadN k X1 hx (hb hby d_jdk_33_method_23_4) rfl rfl (pc' := 5) rfl
  replace k := Fw.iloadN k X1 hx (hb hby d_jdk_33_method_23_5) rfl (pc' := 6) rfl
  obtain ⟨T2, h2, X2, e2, W2, st2⟩ := putF X1 hx hZ hown (host := "") (Or.inl (hw _ (List.mem_of_getElem? (i := 70) rfl))) Via.refl e1 F1 E1 (Or.inr ⟨(hw _ (List.mem_of_getElem? (i := 71) rfl)), rfl, hnm⟩) (hw _ (List.mem_of_getElem? (i := 63) rfl)) (ty := .int) (by decide) rfl rfl (g := (mkF m 6 #[.val (.ref a1), .val (.int p2)] [(.int p2), (.ref a1)])) rfl rfl (hb hby d_jdk_33_method_23_6)
  have N2 := Fr.snoc X2 N1 g1
  have Fw2 := F1.same W2
  replace k : Goes p e below s₁ G0 T2 (mkF m 9 #[.val (.ref a1), .val (.int p2)] []) := fun t q => k t (st2 _ q)
  obtain ⟨fs, hr, hrun, hended, hW, hsame⟩ := X2.leave (v := none) (fun _ => rfl)
  refine ⟨_, _, pre0 _ (k _ ?_), hrun, hended, _, _, rfl, ?_, ⟨_, rfl⟩, hW, hsame.mono (by decide) (by decide)⟩
  · exact X2.returnOut hx Bd.returns (hb hby d_jdk_33_method_23_9) hr
  · show Q_ii Z a1 p2 h0 n0 _ T2.heap _
    rw [e2]
    exact ⟨rfl, N2, ((Keep.refl h0 [a1]).wr W2 (Or.inl (List.mem_of_getElem? (i := 0) rfl))), (E1.wr W2), Fw2⟩
theorem own_cidxI (q : Int32) (h1 : ¬ q < (-128 : Int32)) (h2 : ¬ (127 : Int32) < q) : ¬ (q + (128 : Int32) < 0 ∨ 256 ≤ (q + (128 : Int32)).toNatClampNeg) ∧ q + (128 : Int32) - 128 = q := by
  rw [Int32.lt_iff_toInt_lt] at h1 h2
  have e1 : (-128 : Int32).toInt = -128 := by decide
  have e2 : (127 : Int32).toInt = 127 := by decide
  have e3 : (128 : Int32).toInt = 128 := by decide
  have c2 := c_iadd q 128
  have c3 := c_isub (q + 128) 128
  have r1 := rng32 q
  have r2 := rng32 (q + 128)
  have r3 := rng32 (q + 128 - 128)
  have z0 : (0 : Int32).toInt = 0 := by decide
  refine ⟨?_, ?_⟩
  · rw [Int32.lt_iff_toInt_lt]
    have hcl : (q + 128).toNatClampNeg = (q + 128).toInt.toNat := rfl
    omega
  · apply Int32.toInt_inj.mp
    omega
theorem d_jdk_33_method_22_0 : decode jdk_33_method_22_code 0 = .ok (.iload_n 0, 1) := by decide +kernel
theorem d_jdk_33_method_22_1 : decode jdk_33_method_22_code 1 = .ok (.bipush (-128), 2) := by decide +kernel
theorem d_jdk_33_method_22_3 : decode jdk_33_method_22_code 3 = .ok (.if_icmp .lt 20, 3) := by decide +kernel
theorem d_jdk_33_method_22_23 : decode jdk_33_method_22_code 23 = .ok (.new 1, 3) := by decide +kernel
theorem d_jdk_33_method_22_26 : decode jdk_33_method_22_code 26 = .ok (.dup, 1) := by decide +kernel
theorem d_jdk_33_method_22_27 : decode jdk_33_method_22_code 27 = .ok (.iload_n 0, 1) := by decide +kernel
theorem d_jdk_33_method_22_28 : decode jdk_33_method_22_code 28 = .ok (.invokespecial 199, 3) := by decide +kernel
theorem pd_I_r_V : parseMethodDescriptor "(I)V" = some ⟨[.int], none⟩ := by decide +kernel
theorem d_jdk_33_method_22_31 : decode jdk_33_method_22_code 31 = .ok (.areturn, 1) := by decide +kernel
theorem d_jdk_33_method_22_6 : decode jdk_33_method_22_code 6 = .ok (.iload_n 0, 1) := by decide +kernel
theorem d_jdk_33_method_22_7 : decode jdk_33_method_22_code 7 = .ok (.getstatic 191, 3) := by decide +kernel
theorem d_jdk_33_method_22_10 : decode jdk_33_method_22_code 10 = .ok (.if_icmp .gt 13, 3) := by decide +kernel
theorem d_jdk_33_method_22_13 : decode jdk_33_method_22_code 13 = .ok (.getstatic 195, 3) := by decide +kernel
theorem d_jdk_33_method_22_16 : decode jdk_33_method_22_code 16 = .ok (.iload_n 0, 1) := by decide +kernel
theorem d_jdk_33_method_22_17 : decode jdk_33_method_22_code 17 = .ok (.sipush 128, 3) := by decide +kernel
theorem d_jdk_33_method_22_20 : decode jdk_33_method_22_code 20 = .ok (.iadd, 1) := by decide +kernel
theorem d_jdk_33_method_22_21 : decode jdk_33_method_22_code 21 = .ok (.aaload, 1) := by decide +kernel
theorem d_jdk_33_method_22_22 : decode jdk_33_method_22_code 22 = .ok (.areturn, 1) := by decide +kernel
theorem ef_I_1 (m : MethodId) (x0 : Int32) : entryFrame m #[(.int x0)] 1 = mkF m 0 #[.val (.int x0)] [] := by first | (simp [entryFrame, mkF, argsToLocals, Value.category]; done) | rfl
def Q_ivo (Z : State) (p1 : Int32) (h0 : Heap) (n0 : Nat) (v : Option Value) (h : Heap) (L : List Loc) : Prop := ∃ b, v = some (.ref b) ∧ Fr n0 L ∧ Ext h0 h ∧ Exa Z h b "java/lang/Integer" ∧ Fld Z h b "java/lang/Integer" "value" "I" (.int p1)
set_option maxRecDepth 65536 in
set_option maxHeartbeats 40000000 in
theorem rm_ivo (l : Launch) (Z : State) (a0 : Array Value) (hw : ∀ d ∈ tables_1, d.before a0 Z = true) (ws : List Jvm.Cond) (p1 : Int32) (h0 : Heap) (n0 : Nat) (O0 : Old Z n0 h0) (HI : IntegerCache Z) (HH : Sta Z Z.heap "java/lang/Integer$IntegerCache" "high" "I" (.int 127)) :
    MetFree l (⟨"java/lang/Integer", "valueOf", "(I)Ljava/lang/Integer;"⟩ : MethodName) (head1 (Jvm.Cond.code (⟨"java/lang/Integer", "valueOf", "(I)Ljava/lang/Integer;"⟩ : MethodName) jdk_33_method_22_code 1 (some (.object "java/lang/Integer")) :: ws) ({ frames := 3, cells := 1, slots := 1, locals := 38 } : Room)) (fun a U => a = #[(.int p1)] ∧ Z.Warmed39 U.vm ∧ U.heap = h0) (fun _ _ _ _ _ => True) (fun _ U o U' => ∃ v L, o = .returned v ∧ Q_ivo Z p1 h0 n0 v U'.heap L ∧ FrameEnd U o U' L ({ frames := 3, cells := 1, slots := 1, locals := 38 } : Room).cells ({ frames := 3, cells := 1, slots := 1, locals := 38 } : Room).slots) := by
  refine MetFree.of_bodySF (plainFor_of_name pn_Integer) hisR ?_
  intro p e s m args below meth c s₁ Bd hml0 hP hK
  obtain ⟨rfl, hZ, hh⟩ := hP
  have hx := Bd.exec
  have hby := Bd.bytes
  have hml : c.maxLocals = 1 := hml0
  have hown : s.vm.findClass "java/lang/Integer" = some m.cls := findClass_of_methodNamed Bd.named
  have hnm := (name_of_methodNamed Bd.named Bd.method).1
  have X0 : Stand p l e ({ frames := 3, cells := 1, slots := 1, locals := 38 } : Room) s m #[(.int p1)] below meth c s₁ [] 0 0 := Stand.of_body Bd
  have e0 : s₁.heap = h0 := by rw [← hh, Bd.state]; rfl
  have N0 := Fr.nil n0
  obtain ⟨G0, hG0⟩ : ∃ z, z = (mkF m 0 #[.val (.int p1)] []) := ⟨_, rfl⟩
  have pre0 : ∀ t, Steps p.tables e below (s₁.setTop G0) t → Steps p.tables e below (s₁.setTop (entryFrame m #[(.int p1)] 1)) t := fun t k => castTop (ef_I_1 m p1) (hG0 ▸ k)
  have k : Goes p e below s₁ G0 s₁ (mkF m 0 #[.val (.int p1)] []) := fun t q => hG0 ▸ q
  obtain ⟨wC, clC, SC, AC, LC, -, HC⟩ := HI
  replace k := Fw.iloadN k X0 hx (hb hby d_jdk_33_method_22_0) rfl (pc' := 1) rfl
  replace k := Fw.bipush k X0 hx (hb hby d_jdk_33_method_22_1) (z := (-128 : Int32)) (by decide) (pc' := 3) rfl
  by_cases hc3_1 : p1 < (-128 : Int32)
  · replace k := Fw.icmpYes k X0 hx (hb hby d_jdk_33_method_22_3) (tlt hc3_1).1 (by decide) (pc' := 23) rfl
    obtain ⟨T2, h2, X2, e2, E2, A2, D2, -, st2⟩ := newO X0 hx hZ hown (hw _ (List.mem_of_getElem? (i := 62) rfl)) (hw _ (List.mem_of_getElem? (i := 63) rfl)) (hw _ (List.mem_of_getElem? (i := 7) rfl)) e0 (g := (mkF m 23 #[.val (.int p1)] [])) rfl (hb hby d_jdk_33_method_22_23) (by decide) (by decide)
    obtain ⟨b2, g2⟩ : ∃ z, z = h0.size := ⟨_, rfl⟩
    rw [← g2] at A2 D2 st2
    have gn_b2 : n0 ≤ b2 := Nat.le_trans (old_le O0) (Nat.le_of_eq g2.symm)
    have gz_b2 : h0.size ≤ b2 := Nat.le_trans ext_refl.1 (Nat.le_of_eq g2.symm)
    have F2_value : Fld Z h2 b2 "java/lang/Integer" "value" "I" (.int 0) := D2 (Or.inr (hw _ (List.mem_of_getElem? (i := 71) rfl))) (ty := .int) (by decide)
    replace k : Goes p e below s₁ G0 T2 (mkF m 26 #[.val (.int p1)] [(.ref b2)]) := fun t q => k t (st2 _ q)
    replace k := Fw.dup k X2 hx (hb hby d_jdk_33_method_22_26) rfl (pc' := 27) rfl
    replace k := Fw.iloadN k X2 hx (hb hby d_jdk_33_method_22_27) rfl (pc' := 28) rfl
    have fc4 := (O0.ext E2)
    obtain ⟨_, _, ⟨T3, L3, k3, n3⟩, -, X3, ⟨Lc3, hQ3, l3, y3, z3⟩, st3⟩ := X2.specialBack hx (y := (⟨"java/lang/Integer", "<init>", "(I)V"⟩ : MethodName)) rfl hown (mvT hZ (hw _ (List.mem_of_getElem? (i := 64) rfl))) (mvT hZ (hw _ (List.mem_of_getElem? (i := 65) rfl))) (mvT hZ (hw _ (List.mem_of_getElem? (i := 67) rfl))) (by decide) (backOf (W := 1) (rm_ii l Z a0 hw [] b2 p1 h2 n0 fc4 A2 F2_value gn_b2) hZ (hw _ (List.mem_of_getElem? (i := 67) rfl)) (hw _ (List.mem_of_getElem? (i := 7) rfl)) (by decide) (by decide)) (g := (mkF m 28 #[.val (.int p1)] [(.int p1), (.ref b2), (.ref b2)])) rfl (by rw [hml]; rfl) (Steps.refl _) (a := b2) (argsL := [(.int p1)]) (rest := [(.ref b2)]) (lenOf pd_I_r_V rfl) rfl (by show 2 * 0 + _ ≤ _; exact Nat.le_of_eq rfl) (hb hby d_jdk_33_method_22_28) (fun _ _ => ⟨rfl, e2, (by decide : 1 + 0 ≤ _), (by decide : 1 + 0 ≤ _)⟩)
    dsimp only [Pt.U, Pt.locs, Pt.cells, Pt.slots] at X3 l3 y3 z3 st3 hQ3
    subst l3 y3 z3
    obtain ⟨rfl, N3q, K3, qa3, qb3⟩ := hQ3
    have N3 := Fr.app N0 N3q
    replace k : Goes p e below s₁ G0 T3 (mkF m 31 #[.val (.int p1)] [(.ref b2)]) := fun t q => k t (st3.trans q)
    obtain ⟨fs, hr, hrun, hended, hW, hsame⟩ := X3.leave (v := some (.ref b2)) (fun h => by rw [Bd.returns] at h; cases h)
    refine ⟨_, _, pre0 _ (k _ ?_), hrun, hended, _, _, rfl, ?_, ⟨_, rfl⟩, hW, hsame.mono (by decide) (by decide)⟩
    · show Steps p.tables e below (T3.setTop (mkF m 31 #[.val (.int p1)] [(.ref b2)])) _
      jvm_step X3.here [X3.here.top, hx, (hb hby d_jdk_33_method_22_31), X3.method', Bd.returns, Value.isRef, FieldType.isReference]
      first | (intro acts; rw [hr _ acts rfl rfl rfl]) | rw [hr _ _ rfl rfl rfl]
      exact Steps.refl _
    · show Q_ivo Z p1 h0 n0 _ T3.heap _
      exact ⟨b2, rfl, N3, (ext_keep (ext_trans ext_refl E2) K3 (allS gz_b2 all0)), qa3, qb3⟩
  · replace k := Fw.icmpNo k X0 hx (hb hby d_jdk_33_method_22_3) (flt hc3_1).1 (pc' := 6) rfl
    replace k := Fw.iloadN k X0 hx (hb hby d_jdk_33_method_22_6) rfl (pc' := 7) rfl
    obtain ⟨T5, X5, e5, st5⟩ := getS2 X0 hx hZ hown (host := "") (Or.inl (hw _ (List.mem_of_getElem? (i := 9) rfl))) Via.refl e0 (HH.ext O0.2) (g := (mkF m 7 #[.val (.int p1)] [(.int p1)])) rfl (hb hby d_jdk_33_method_22_7)
    replace k : Goes p e below s₁ G0 T5 (mkF m 10 #[.val (.int p1)] [(.int 127), (.int p1)]) := fun t q => k t (st5 _ q)
    by_cases hc10_6 : (127 : Int32) < p1
    · replace k := Fw.icmpYes k X5 hx (hb hby d_jdk_33_method_22_10) (tlt hc10_6).2.2.1 (by decide) (pc' := 23) rfl
      obtain ⟨T7, h7, X7, e7, E7, A7, D7, -, st7⟩ := newO X5 hx hZ hown (hw _ (List.mem_of_getElem? (i := 62) rfl)) (hw _ (List.mem_of_getElem? (i := 63) rfl)) (hw _ (List.mem_of_getElem? (i := 7) rfl)) e5 (g := (mkF m 23 #[.val (.int p1)] [])) rfl (hb hby d_jdk_33_method_22_23) (by decide) (by decide)
      obtain ⟨b7, g7⟩ : ∃ z, z = h0.size := ⟨_, rfl⟩
      rw [← g7] at A7 D7 st7
      have gn_b7 : n0 ≤ b7 := Nat.le_trans (old_le O0) (Nat.le_of_eq g7.symm)
      have gz_b7 : h0.size ≤ b7 := Nat.le_trans ext_refl.1 (Nat.le_of_eq g7.symm)
      have F7_value : Fld Z h7 b7 "java/lang/Integer" "value" "I" (.int 0) := D7 (Or.inr (hw _ (List.mem_of_getElem? (i := 71) rfl))) (ty := .int) (by decide)
      replace k : Goes p e below s₁ G0 T7 (mkF m 26 #[.val (.int p1)] [(.ref b7)]) := fun t q => k t (st7 _ q)
      replace k := Fw.dup k X7 hx (hb hby d_jdk_33_method_22_26) rfl (pc' := 27) rfl
      replace k := Fw.iloadN k X7 hx (hb hby d_jdk_33_method_22_27) rfl (pc' := 28) rfl
      have fc9 := (O0.ext E7)
      obtain ⟨_, _, ⟨T8, L8, k8, n8⟩, -, X8, ⟨Lc8, hQ8, l8, y8, z8⟩, st8⟩ := X7.specialBack hx (y := (⟨"java/lang/Integer", "<init>", "(I)V"⟩ : MethodName)) rfl hown (mvT hZ (hw _ (List.mem_of_getElem? (i := 64) rfl))) (mvT hZ (hw _ (List.mem_of_getElem? (i := 65) rfl))) (mvT hZ (hw _ (List.mem_of_getElem? (i := 67) rfl))) (by decide) (backOf (W := 1) (rm_ii l Z a0 hw [] b7 p1 h7 n0 fc9 A7 F7_value gn_b7) hZ (hw _ (List.mem_of_getElem? (i := 67) rfl)) (hw _ (List.mem_of_getElem? (i := 7) rfl)) (by decide) (by decide)) (g := (mkF m 28 #[.val (.int p1)] [(.int p1), (.ref b7), (.ref b7)])) rfl (by rw [hml]; rfl) (Steps.refl _) (a := b7) (argsL := [(.int p1)]) (rest := [(.ref b7)]) (lenOf pd_I_r_V rfl) rfl (by show 2 * 0 + _ ≤ _; exact Nat.le_of_eq rfl) (hb hby d_jdk_33_method_22_28) (fun _ _ => ⟨rfl, e7, (by decide : 1 + 0 ≤ _), (by decide : 1 + 0 ≤ _)⟩)
      dsimp only [Pt.U, Pt.locs, Pt.cells, Pt.slots] at X8 l8 y8 z8 st8 hQ8
      subst l8 y8 z8
      obtain ⟨rfl, N8q, K8, qa8, qb8⟩ := hQ8
      have N8 := Fr.app N0 N8q
      replace k : Goes p e below s₁ G0 T8 (mkF m 31 #[.val (.int p1)] [(.ref b7)]) := fun t q => k t (st8.trans q)
      obtain ⟨fs, hr, hrun, hended, hW, hsame⟩ := X8.leave (v := some (.ref b7)) (fun h => by rw [Bd.returns] at h; cases h)
      refine ⟨_, _, pre0 _ (k _ ?_), hrun, hended, _, _, rfl, ?_, ⟨_, rfl⟩, hW, hsame.mono (by decide) (by decide)⟩
      · show Steps p.tables e below (T8.setTop (mkF m 31 #[.val (.int p1)] [(.ref b7)])) _
        jvm_step X8.here [X8.here.top, hx, (hb hby d_jdk_33_method_22_31), X8.method', Bd.returns, Value.isRef, FieldType.isReference]
        first | (intro acts; rw [hr _ acts rfl rfl rfl]) | rw [hr _ _ rfl rfl rfl]
        exact Steps.refl _
      · show Q_ivo Z p1 h0 n0 _ T8.heap _
        exact ⟨b7, rfl, N8, (ext_keep (ext_trans ext_refl E7) K8 (allS gz_b7 all0)), qa8, qb8⟩
    · replace k := Fw.icmpNo k X5 hx (hb hby d_jdk_33_method_22_10) (flt hc10_6).2.2.1 (pc' := 13) rfl
      obtain ⟨T10, X10, e10, st10⟩ := getS2 X5 hx hZ hown (host := "") (Or.inl (hw _ (List.mem_of_getElem? (i := 11) rfl))) Via.refl e5 (SC.ext O0.2) (g := (mkF m 13 #[.val (.int p1)] [])) rfl (hb hby d_jdk_33_method_22_13)
      replace k : Goes p e below s₁ G0 T10 (mkF m 16 #[.val (.int p1)] [(.ref wC)]) := fun t q => k t (st10 _ q)
      replace k := Fw.iloadN k X10 hx (hb hby d_jdk_33_method_22_16) rfl (pc' := 17) rfl
      replace k := Fw.sipush k X10 hx (hb hby d_jdk_33_method_22_17) (z := (128 : Int32)) (by decide) (pc' := 20) rfl
      replace k := Fw.iadd k X10 hx (hb hby d_jdk_33_method_22_20) rfl (pc' := 21) rfl
      obtain ⟨hin21, hval21⟩ := own_cidxI p1 hc3_1 hc10_6
      rw [show (256 : Nat) = clC.slots.size from LC.symm] at hin21
      obtain ⟨b21, hb21, E21, F21⟩ := HC _ hin21
      dsimp only at F21
      rw [hval21] at F21
      have A21 := AC.ext O0.2
      replace k : Goes p e below s₁ G0 T10 (mkF m 22 #[.val (.int p1)] [(.ref b21)]) := fun t q => k t (X10.aaload hx (j := (p1 + (128 : Int32))) (v := (.ref b21)) (by rw [e10]; exact A21.1) (State.isArrayOf_alike hZ.alike A21.2.1) rfl A21.2.2 hin21 hb21 (g := (mkF m 21 #[.val (.int p1)] [(.int (p1 + (128 : Int32))), (.ref wC)])) rfl rfl (hb hby d_jdk_33_method_22_21) _ q)
      obtain ⟨fs, hr, hrun, hended, hW, hsame⟩ := X10.leave (v := some (.ref b21)) (fun h => by rw [Bd.returns] at h; cases h)
      refine ⟨_, _, pre0 _ (k _ ?_), hrun, hended, _, _, rfl, ?_, ⟨_, rfl⟩, hW, hsame.mono (by decide) (by decide)⟩
      · show Steps p.tables e below (T10.setTop (mkF m 22 #[.val (.int p1)] [(.ref b21)])) _
        jvm_step X10.here [X10.here.top, hx, (hb hby d_jdk_33_method_22_22), X10.method', Bd.returns, Value.isRef, FieldType.isReference]
        first | (intro acts; rw [hr _ acts rfl rfl rfl]) | rw [hr _ _ rfl rfl rfl]
        exact Steps.refl _
      · show Q_ivo Z p1 h0 n0 _ T10.heap _
        rw [e10]
        exact ⟨b21, rfl, N0, ext_refl, (E21.ext O0.2), (F21.ext O0.2)⟩
theorem d_prog_30_method_11_0 : decode prog_30_method_11_code 0 = .ok (.iconst 0, 1) := by decide +kernel
theorem d_prog_30_method_11_1 : decode prog_30_method_11_code 1 = .ok (.ireturn, 1) := by decide +kernel
theorem pn_ScalarType : plainName "com/example/wirecall/wirecall/xml/ScalarType" = true := by first | (simp [plainName, overriddenIn]; done) | decide +kernel
def Q_ie0 (Z : State) (a1 : Addr) (h0 : Heap) (n0 : Nat) (v : Option Value) (h : Heap) (L : List Loc) : Prop := v = some (.int 0) ∧ Fr n0 L ∧ h = h0
set_option maxRecDepth 65536 in
set_option maxHeartbeats 40000000 in
theorem rm_ie0 (l : Launch) (Z : State) (a0 : Array Value) (hw : ∀ d ∈ tables_1, d.before a0 Z = true) (ws : List Jvm.Cond) (a1 : Addr) (h0 : Heap) (n0 : Nat) (O0 : Old Z n0 h0) :
    MetFree l (⟨"com/example/wirecall/wirecall/xml/ScalarType", "isExtension", "()Z"⟩ : MethodName) (head1 (Jvm.Cond.code (⟨"com/example/wirecall/wirecall/xml/ScalarType", "isExtension", "()Z"⟩ : MethodName) prog_30_method_11_code 1 (some .boolean) :: ws) ({ frames := 0, cells := 0, slots := 0, locals := 0 } : Room)) (fun a U => a = #[(.ref a1)] ∧ Z.Warmed39 U.vm ∧ U.heap = h0) (fun _ _ _ _ _ => True) (fun _ U o U' => ∃ v L, o = .returned v ∧ Q_ie0 Z a1 h0 n0 v U'.heap L ∧ FrameEnd U o U' L ({ frames := 0, cells := 0, slots := 0, locals := 0 } : Room).cells ({ frames := 0, cells := 0, slots := 0, locals := 0 } : Room).slots) := by
  refine MetFree.of_bodySF (plainFor_of_name pn_ScalarType) hisR ?_
  intro p e s m args below meth c s₁ Bd hml0 hP hK
  obtain ⟨rfl, hZ, hh⟩ := hP
  have hx := Bd.exec
  have hby := Bd.bytes
  have hml : c.maxLocals = 1 := hml0
  have hown : s.vm.findClass "com/example/wirecall/wirecall/xml/ScalarType" = some m.cls := findClass_of_methodNamed Bd.named
  have hnm := (name_of_methodNamed Bd.named Bd.method).1
  have X0 : Stand p l e ({ frames := 0, cells := 0, slots := 0, locals := 0 } : Room) s m #[(.ref a1)] below meth c s₁ [] 0 0 := Stand.of_body Bd
  have e0 : s₁.heap = h0 := by rw [← hh, Bd.state]; rfl
  have N0 := Fr.nil n0
  obtain ⟨G0, hG0⟩ : ∃ z, z = (mkF m 0 #[.val (.ref a1)] []) := ⟨_, rfl⟩
  have pre0 : ∀ t, Steps p.tables e below (s₁.setTop G0) t → Steps p.tables e below (s₁.setTop (entryFrame m #[(.ref a1)] 1)) t := fun t k => castTop (ef_R_1 m a1) (hG0 ▸ k)
  have k : Goes p e below s₁ G0 s₁ (mkF m 0 #[.val (.ref a1)] []) := fun t q => hG0 ▸ q
  replace k := Fw.iconst k X0 hx (hb hby d_prog_30_method_11_0) (z := (0 : Int32)) (by decide) (pc' := 1) rfl
  obtain ⟨fs, hr, hrun, hended, hW, hsame⟩ := X0.leave (v := some (.int 0)) (fun h => by rw [Bd.returns] at h; cases h)
  refine ⟨_, _, pre0 _ (k _ ?_), hrun, hended, _, _, rfl, ?_, ⟨_, rfl⟩, hW, hsame.mono (by decide) (by decide)⟩
  · exact retN X0 hx (t := .boolean) Bd.returns (by simp) (hb hby d_prog_30_method_11_1) hr
  · show Q_ie0 Z a1 h0 n0 _ s₁.heap _
    rw [e0]
    exact ⟨rfl, N0, rfl⟩
theorem d_prog_38_method_4_0 : decode prog_38_method_4_code 0 = .ok (.iconst 1, 1) := by decide +kernel
theorem d_prog_38_method_4_1 : decode prog_38_method_4_code 1 = .ok (.ireturn, 1) := by decide +kernel
theorem pn_ScalarType_8 : plainName "com/example/wirecall/wirecall/xml/ScalarType$8" = true := by first | (simp [plainName, overriddenIn]; done) | decide +kernel
def Q_ie1 (Z : State) (a1 : Addr) (h0 : Heap) (n0 : Nat) (v : Option Value) (h : Heap) (L : List Loc) : Prop := v = some (.int 1) ∧ Fr n0 L ∧ h = h0
set_option maxRecDepth 65536 in
set_option maxHeartbeats 40000000 in
theorem rm_ie1 (l : Launch) (Z : State) (a0 : Array Value) (hw : ∀ d ∈ tables_1, d.before a0 Z = true) (ws : List Jvm.Cond) (a1 : Addr) (h0 : Heap) (n0 : Nat) (O0 : Old Z n0 h0) :
    MetFree l (⟨"com/example/wirecall/wirecall/xml/ScalarType$8", "isExtension", "()Z"⟩ : MethodName) (head1 (Jvm.Cond.code (⟨"com/example/wirecall/wirecall/xml/ScalarType$8", "isExtension", "()Z"⟩ : MethodName) prog_38_method_4_code 1 (some .boolean) :: ws) ({ frames := 0, cells := 0, slots := 0, locals := 0 } : Room)) (fun a U => a = #[(.ref a1)] ∧ Z.Warmed39 U.vm ∧ U.heap = h0) (fun _ _ _ _ _ => True) (fun _ U o U' => ∃ v L, o = .returned v ∧ Q_ie1 Z a1 h0 n0 v U'.heap L ∧ FrameEnd U o U' L ({ frames := 0, cells := 0, slots := 0, locals := 0 } : Room).cells ({ frames := 0, cells := 0, slots := 0, locals := 0 } : Room).slots) := by
  refine MetFree.of_bodySF (plainFor_of_name pn_ScalarType_8) hisR ?_
  intro p e s m args below meth c s₁ Bd hml0 hP hK
  obtain ⟨rfl, hZ, hh⟩ := hP
  have hx := Bd.exec
  have hby := Bd.bytes
  have hml : c.maxLocals = 1 := hml0
  have hown : s.vm.findClass "com/example/wirecall/wirecall/xml/ScalarType$8" = some m.cls := findClass_of_methodNamed Bd.named
  have hnm := (name_of_methodNamed Bd.named Bd.method).1
  have X0 : Stand p l e ({ frames := 0, cells := 0, slots := 0, locals := 0 } : Room) s m #[(.ref a1)] below meth c s₁ [] 0 0 := Stand.of_body Bd
  have e0 : s₁.heap = h0 := by rw [← hh, Bd.state]; rfl
  have N0 := Fr.nil n0
  obtain ⟨G0, hG0⟩ : ∃ z, z = (mkF m 0 #[.val (.ref a1)] []) := ⟨_, rfl⟩
  have pre0 : ∀ t, Steps p.tables e below (s₁.setTop G0) t → Steps p.tables e below (s₁.setTop (entryFrame m #[(.ref a1)] 1)) t := fun t k => castTop (ef_R_1 m a1) (hG0 ▸ k)
  have k : Goes p e below s₁ G0 s₁ (mkF m 0 #[.val (.ref a1)] []) := fun t q => hG0 ▸ q
  replace k := Fw.iconst k X0 hx (hb hby d_prog_38_method_4_0) (z := (1 : Int32)) (by decide) (pc' := 1) rfl
  obtain ⟨fs, hr, hrun, hended, hW, hsame⟩ := X0.leave (v := some (.int 1)) (fun h => by rw [Bd.returns] at h; cases h)
  refine ⟨_, _, pre0 _ (k _ ?_), hrun, hended, _, _, rfl, ?_, ⟨_, rfl⟩, hW, hsame.mono (by decide) (by decide)⟩
  · exact retN X0 hx (t := .boolean) Bd.returns (by simp) (hb hby d_prog_38_method_4_1) hr
  · show Q_ie1 Z a1 h0 n0 _ s₁.heap _
    rw [e0]
    exact ⟨rfl, N0, rfl⟩
theorem d_prog_30_method_12_0 : decode prog_30_method_12_code 0 = .ok (.aload_n 0, 1) := by decide +kernel
theorem d_prog_30_method_12_1 : decode prog_30_method_12_code 1 = .ok (.invokevirtual 83, 3) := by decide +kernel
theorem pd__r_Z : parseMethodDescriptor "()Z" = some ⟨[], some .boolean⟩ := by decide +kernel
theorem d_prog_30_method_12_4 : decode prog_30_method_12_code 4 = .ok (.ifCond .eq 7, 3) := by decide +kernel
theorem d_prog_30_method_12_11 : decode prog_30_method_12_code 11 = .ok (.aload_n 0, 1) := by decide +kernel
theorem d_prog_30_method_12_12 : decode prog_30_method_12_code 12 = .ok (.areturn, 1) := by decide +kernel
theorem ef_RR_2 (m : MethodId) (x0 : Addr) (x1 : Addr) : entryFrame m #[(.ref x0), (.ref x1)] 2 = mkF m 0 #[.val (.ref x0), .val (.ref x1)] [] := by first | (simp [entryFrame, mkF, argsToLocals, Value.category]; done) | rfl
def Q_we_INT (Z : State) (a1 : Addr) (a2 : Addr) (h0 : Heap) (n0 : Nat) (v : Option Value) (h : Heap) (L : List Loc) : Prop := v = some (.ref a1) ∧ Fr n0 L ∧ h = h0
set_option maxRecDepth 65536 in
set_option maxHeartbeats 40000000 in
theorem rm_we_INT (l : Launch) (Z : State) (a0 : Array Value) (hw : ∀ d ∈ tables_1, d.before a0 Z = true) (ws : List Jvm.Cond) (a1 : Addr) (a2 : Addr) (h0 : Heap) (n0 : Nat) (O0 : Old Z n0 h0) (E1 : Exa Z h0 a1 "com/example/wirecall/wirecall/xml/ScalarType$1") :
    MetFree l (⟨"com/example/wirecall/wirecall/xml/ScalarType", "withoutExtensions", "(Ljava/lang/Object;)Lcom/example/wirecall/wirecall/xml/ScalarType;"⟩ : MethodName) (head1 (Jvm.Cond.code (⟨"com/example/wirecall/wirecall/xml/ScalarType", "withoutExtensions", "(Ljava/lang/Object;)Lcom/example/wirecall/wirecall/xml/ScalarType;"⟩ : MethodName) prog_30_method_12_code 2 (some (.object "com/example/wirecall/wirecall/xml/ScalarType")) :: ws) ({ frames := 1, cells := 0, slots := 0, locals := 12 } : Room)) (fun a U => a = #[(.ref a1), (.ref a2)] ∧ Z.Warmed39 U.vm ∧ U.heap = h0) (fun _ _ _ _ _ => True) (fun _ U o U' => ∃ v L, o = .returned v ∧ Q_we_INT Z a1 a2 h0 n0 v U'.heap L ∧ FrameEnd U o U' L ({ frames := 1, cells := 0, slots := 0, locals := 12 } : Room).cells ({ frames := 1, cells := 0, slots := 0, locals := 12 } : Room).slots) := by
  refine MetFree.of_bodySF (plainFor_of_name pn_ScalarType) hisR ?_
  intro p e s m args below meth c s₁ Bd hml0 hP hK
  obtain ⟨rfl, hZ, hh⟩ := hP
  have hx := Bd.exec
  have hby := Bd.bytes
  have hml : c.maxLocals = 2 := hml0
  have hown : s.vm.findClass "com/example/wirecall/wirecall/xml/ScalarType" = some m.cls := findClass_of_methodNamed Bd.named
  have hnm := (name_of_methodNamed Bd.named Bd.method).1
  have X0 : Stand p l e ({ frames := 1, cells := 0, slots := 0, locals := 12 } : Room) s m #[(.ref a1), (.ref a2)] below meth c s₁ [] 0 0 := Stand.of_body Bd
  have e0 : s₁.heap = h0 := by rw [← hh, Bd.state]; rfl
  have N0 := Fr.nil n0
  obtain ⟨G0, hG0⟩ : ∃ z, z = (mkF m 0 #[.val (.ref a1), .val (.ref a2)] []) := ⟨_, rfl⟩
  have pre0 : ∀ t, Steps p.tables e below (s₁.setTop G0) t → Steps p.tables e below (s₁.setTop (entryFrame m #[(.ref a1), (.ref a2)] 2)) t := fun t k => castTop (ef_RR_2 m a1 a2) (hG0 ▸ k)
  have k : Goes p e below s₁ G0 s₁ (mkF m 0 #[.val (.ref a1), .val (.ref a2)] []) := fun t q => hG0 ▸ q
  replace k := Fw.aloadN k X0 hx (hb hby d_prog_30_method_12_0) rfl rfl (pc' := 1) rfl
  obtain ⟨cq1, kq1, q1a, q1b, q1c⟩ := isOf hZ e0 E1
  obtain ⟨_, _, ⟨T1, L1, k1, n1⟩, -, X1, ⟨Lc1, hQ1, l1, y1, z1⟩, st1⟩ := X0.virtualBack hx (y := (⟨"com/example/wirecall/wirecall/xml/ScalarType", "isExtension", "()Z"⟩ : MethodName)) (z := (⟨"com/example/wirecall/wirecall/xml/ScalarType", "isExtension", "()Z"⟩ : MethodName)) hown (mvT hZ (hw _ (List.mem_of_getElem? (i := 19) rfl))) (mvT hZ (hw _ (List.mem_of_getElem? (i := 20) rfl))) (notFace_of_selects (args := #[]) (mvT hZ (hw _ (List.mem_of_getElem? (i := 22) rfl)))) (mvT hZ (hw _ (List.mem_of_getElem? (i := 22) rfl))) (mvT hZ (hw _ (List.mem_of_getElem? (i := 21) rfl))) (by decide) (backOf (W := 0) (rm_ie0 l Z a0 hw [] a1 h0 n0 O0) hZ (hw _ (List.mem_of_getElem? (i := 23) rfl)) (hw _ (List.mem_of_getElem? (i := 1) rfl)) (by decide) (by decide)) q1a q1c (g := (mkF m 1 #[.val (.ref a1), .val (.ref a2)] [(.ref a1)])) rfl (by rw [hml]; rfl) (Steps.refl _) (argsL := []) (rest := []) (lenOf pd__r_Z rfl) rfl (by show 2 * 0 + _ ≤ _; exact Nat.le_of_eq rfl) (hb hby d_prog_30_method_12_1) (fun _ _ => ⟨rfl, e0, (by decide : 0 + 0 ≤ _), (by decide : 0 + 0 ≤ _)⟩)
  dsimp only [Pt.U, Pt.locs, Pt.cells, Pt.slots] at X1 l1 y1 z1 st1 hQ1
  subst l1 y1 z1
  obtain ⟨rfl, N1q, e1⟩ := hQ1
  have N1 := Fr.app N0 N1q
  replace k : Goes p e below s₁ G0 T1 (mkF m 4 #[.val (.ref a1), .val (.ref a2)] [(.int 0)]) := fun t q => k t (st1.trans q)
  replace k := Fw.ifYes k X1 hx (hb hby d_prog_30_method_12_4) ((if0 _ _).trans (teq (show (0 : Int32) = (0 : Int32) from by decide)).1) (by decide) (pc' := 11) rfl
  replace k := Fw.aloadN k X1 hx (hb hby d_prog_30_method_12_11) rfl rfl (pc' := 12) rfl
  obtain ⟨fs, hr, hrun, hended, hW, hsame⟩ := X1.leave (v := some (.ref a1)) (fun h => by rw [Bd.returns] at h; cases h)
  refine ⟨_, _, pre0 _ (k _ ?_), hrun, hended, _, _, rfl, ?_, ⟨_, rfl⟩, hW, hsame.mono (by decide) (by decide)⟩
  · show Steps p.tables e below (T1.setTop (mkF m 12 #[.val (.ref a1), .val (.ref a2)] [(.ref a1)])) _
    jvm_step X1.here [X1.here.top, hx, (hb hby d_prog_30_method_12_12), X1.method', Bd.returns, Value.isRef, FieldType.isReference]
    first | (intro acts; rw [hr _ acts rfl rfl rfl]) | rw [hr _ _ rfl rfl rfl]
    exact Steps.refl _
  · show Q_we_INT Z a1 a2 h0 n0 _ T1.heap _
    rw [e1]
    exact ⟨rfl, N1, rfl⟩
theorem d_prog_30_method_12_7 : decode prog_30_method_12_code 7 = .ok (.aconst_null, 1) := by decide +kernel
theorem d_prog_30_method_12_8 : decode prog_30_method_12_code 8 = .ok (.goto 4, 3) := by decide +kernel
theorem ef_RN_2 (m : MethodId) (x0 : Addr) : entryFrame m #[(.ref x0), .null] 2 = mkF m 0 #[.val (.ref x0), .val .null] [] := by first | (simp [entryFrame, mkF, argsToLocals, Value.category]; done) | rfl
def Q_we_NIL (Z : State) (a1 : Addr) (h0 : Heap) (n0 : Nat) (v : Option Value) (h : Heap) (L : List Loc) : Prop := v = some .null ∧ Fr n0 L ∧ h = h0
set_option maxRecDepth 65536 in
set_option maxHeartbeats 40000000 in
theorem rm_we_NIL (l : Launch) (Z : State) (a0 : Array Value) (hw : ∀ d ∈ tables_1, d.before a0 Z = true) (ws : List Jvm.Cond) (a1 : Addr) (h0 : Heap) (n0 : Nat) (O0 : Old Z n0 h0) (E1 : Exa Z h0 a1 "com/example/wirecall/wirecall/xml/ScalarType$8") :
    MetFree l (⟨"com/example/wirecall/wirecall/xml/ScalarType", "withoutExtensions", "(Ljava/lang/Object;)Lcom/example/wirecall/wirecall/xml/ScalarType;"⟩ : MethodName) (head1 (Jvm.Cond.code (⟨"com/example/wirecall/wirecall/xml/ScalarType", "withoutExtensions", "(Ljava/lang/Object;)Lcom/example/wirecall/wirecall/xml/ScalarType;"⟩ : MethodName) prog_30_method_12_code 2 (some (.object "com/example/wirecall/wirecall/xml/ScalarType")) :: ws) ({ frames := 1, cells := 0, slots := 0, locals := 12 } : Room)) (fun a U => a = #[(.ref a1), .null] ∧ Z.Warmed39 U.vm ∧ U.heap = h0) (fun _ _ _ _ _ => True) (fun _ U o U' => ∃ v L, o = .returned v ∧ Q_we_NIL Z a1 h0 n0 v U'.heap L ∧ FrameEnd U o U' L ({ frames := 1, cells := 0, slots := 0, locals := 12 } : Room).cells ({ frames := 1, cells := 0, slots := 0, locals := 12 } : Room).slots) := by
  refine MetFree.of_bodySF (plainFor_of_name pn_ScalarType) hisR ?_
  intro p e s m args below meth c s₁ Bd hml0 hP hK
  obtain ⟨rfl, hZ, hh⟩ := hP
  have hx := Bd.exec
  have hby := Bd.bytes
  have hml : c.maxLocals = 2 := hml0
  have hown : s.vm.findClass "com/example/wirecall/wirecall/xml/ScalarType" = some m.cls := findClass_of_methodNamed Bd.named
  have hnm := (name_of_methodNamed Bd.named Bd.method).1
  have X0 : Stand p l e ({ frames := 1, cells := 0, slots := 0, locals := 12 } : Room) s m #[(.ref a1), .null] below meth c s₁ [] 0 0 := Stand.of_body Bd
  have e0 : s₁.heap = h0 := by rw [← hh, Bd.state]; rfl
  have N0 := Fr.nil n0
  obtain ⟨G0, hG0⟩ : ∃ z, z = (mkF m 0 #[.val (.ref a1), .val .null] []) := ⟨_, rfl⟩
  have pre0 : ∀ t, Steps p.tables e below (s₁.setTop G0) t → Steps p.tables e below (s₁.setTop (entryFrame m #[(.ref a1), .null] 2)) t := fun t k => castTop (ef_RN_2 m a1) (hG0 ▸ k)
  have k : Goes p e below s₁ G0 s₁ (mkF m 0 #[.val (.ref a1), .val .null] []) := fun t q => hG0 ▸ q
  replace k := Fw.aloadN k X0 hx (hb hby d_prog_30_method_12_0) rfl rfl (pc' := 1) rfl
  obtain ⟨cq1, kq1, q1a, q1b, q1c⟩ := isOf hZ e0 E1
  obtain ⟨_, _, ⟨T1, L1, k1, n1⟩, -, X1, ⟨Lc1, hQ1, l1, y1, z1⟩, st1⟩ := X0.virtualBack hx (y := (⟨"com/example/wirecall/wirecall/xml/ScalarType", "isExtension", "()Z"⟩ : MethodName)) (z := (⟨"com/example/wirecall/wirecall/xml/ScalarType$8", "isExtension", "()Z"⟩ : MethodName)) hown (mvT hZ (hw _ (List.mem_of_getElem? (i := 19) rfl))) (mvT hZ (hw _ (List.mem_of_getElem? (i := 20) rfl))) (notFace_of_selects (args := #[]) (mvT hZ (hw _ (List.mem_of_getElem? (i := 22) rfl)))) (mvT hZ (hw _ (List.mem_of_getElem? (i := 73) rfl))) (mvT hZ (hw _ (List.mem_of_getElem? (i := 74) rfl))) (by decide) (backOf (W := 0) (rm_ie1 l Z a0 hw [] a1 h0 n0 O0) hZ (hw _ (List.mem_of_getElem? (i := 76) rfl)) (hw _ (List.mem_of_getElem? (i := 75) rfl)) (by decide) (by decide)) q1a q1c (g := (mkF m 1 #[.val (.ref a1), .val .null] [(.ref a1)])) rfl (by rw [hml]; rfl) (Steps.refl _) (argsL := []) (rest := []) (lenOf pd__r_Z rfl) rfl (by show 2 * 0 + _ ≤ _; exact Nat.le_of_eq rfl) (hb hby d_prog_30_method_12_1) (fun _ _ => ⟨rfl, e0, (by decide : 0 + 0 ≤ _), (by decide : 0 + 0 ≤ _)⟩)
  dsimp only [Pt.U, Pt.locs, Pt.cells, Pt.slots] at X1 l1 y1 z1 st1 hQ1
  subst l1 y1 z1
  obtain ⟨rfl, N1q, e1⟩ := hQ1
  have N1 := Fr.app N0 N1q
  replace k : Goes p e below s₁ G0 T1 (mkF m 4 #[.val (.ref a1), .val .null] [(.int 1)]) := fun t q => k t (st1.trans q)
  replace k := Fw.ifNo k X1 hx (hb hby d_prog_30_method_12_4) ((if0 _ _).trans (feq (show ¬ ((1 : Int32) = (0 : Int32)) from by decide)).1) (pc' := 7) rfl
  replace k := Fw.aconstNull k X1 hx (hb hby d_prog_30_method_12_7) (pc' := 8) rfl
  replace k := Fw.goto k X1 hx (hb hby d_prog_30_method_12_8) (by decide) (pc' := 12) rfl
  obtain ⟨fs, hr, hrun, hended, hW, hsame⟩ := X1.leave (v := some .null) (fun h => by rw [Bd.returns] at h; cases h)
  refine ⟨_, _, pre0 _ (k _ ?_), hrun, hended, _, _, rfl, ?_, ⟨_, rfl⟩, hW, hsame.mono (by decide) (by decide)⟩
  · show Steps p.tables e below (T1.setTop (mkF m 12 #[.val (.ref a1), .val .null] [.null])) _
    jvm_step X1.here [X1.here.top, hx, (hb hby d_prog_30_method_12_12), X1.method', Bd.returns, Value.isRef, FieldType.isReference]
    first | (intro acts; rw [hr _ acts rfl rfl rfl]) | rw [hr _ _ rfl rfl rfl]
    exact Steps.refl _
  · show Q_we_NIL Z a1 h0 n0 _ T1.heap _
    rw [e1]
    exact ⟨rfl, N1, rfl⟩
def Q_we_BOOLEAN (Z : State) (a1 : Addr) (a2 : Addr) (h0 : Heap) (n0 : Nat) (v : Option Value) (h : Heap) (L : List Loc) : Prop := v = some (.ref a1) ∧ Fr n0 L ∧ h = h0
set_option maxRecDepth 65536 in
set_option maxHeartbeats 40000000 in
theorem rm_we_BOOLEAN (l : Launch) (Z : State) (a0 : Array Value) (hw : ∀ d ∈ tables_1, d.before a0 Z = true) (ws : List Jvm.Cond) (a1 : Addr) (a2 : Addr) (h0 : Heap) (n0 : Nat) (O0 : Old Z n0 h0) (E1 : Exa Z h0 a1 "com/example/wirecall/wirecall/xml/ScalarType$3") :
    MetFree l (⟨"com/example/wirecall/wirecall/xml/ScalarType", "withoutExtensions", "(Ljava/lang/Object;)Lcom/example/wirecall/wirecall/xml/ScalarType;"⟩ : MethodName) (head1 (Jvm.Cond.code (⟨"com/example/wirecall/wirecall/xml/ScalarType", "withoutExtensions", "(Ljava/lang/Object;)Lcom/example/wirecall/wirecall/xml/ScalarType;"⟩ : MethodName) prog_30_method_12_code 2 (some (.object "com/example/wirecall/wirecall/xml/ScalarType")) :: ws) ({ frames := 1, cells := 0, slots := 0, locals := 12 } : Room)) (fun a U => a = #[(.ref a1), (.ref a2)] ∧ Z.Warmed39 U.vm ∧ U.heap = h0) (fun _ _ _ _ _ => True) (fun _ U o U' => ∃ v L, o = .returned v ∧ Q_we_BOOLEAN Z a1 a2 h0 n0 v U'.heap L ∧ FrameEnd U o U' L ({ frames := 1, cells := 0, slots := 0, locals := 12 } : Room).cells ({ frames := 1, cells := 0, slots := 0, locals := 12 } : Room).slots) := by
  refine MetFree.of_bodySF (plainFor_of_name pn_ScalarType) hisR ?_
  intro p e s m args below meth c s₁ Bd hml0 hP hK
  obtain ⟨rfl, hZ, hh⟩ := hP
  have hx := Bd.exec
  have hby := Bd.bytes
  have hml : c.maxLocals = 2 := hml0
  have hown : s.vm.findClass "com/example/wirecall/wirecall/xml/ScalarType" = some m.cls := findClass_of_methodNamed Bd.named
  have hnm := (name_of_methodNamed Bd.named Bd.method).1
  have X0 : Stand p l e ({ frames := 1, cells := 0, slots := 0, locals := 12 } : Room) s m #[(.ref a1), (.ref a2)] below meth c s₁ [] 0 0 := Stand.of_body Bd
  have e0 : s₁.heap = h0 := by rw [← hh, Bd.state]; rfl
  have N0 := Fr.nil n0
  obtain ⟨G0, hG0⟩ : ∃ z, z = (mkF m 0 #[.val (.ref a1), .val (.ref a2)] []) := ⟨_, rfl⟩
  have pre0 : ∀ t, Steps p.tables e below (s₁.setTop G0) t → Steps p.tables e below (s₁.setTop (entryFrame m #[(.ref a1), (.ref a2)] 2)) t := fun t k => castTop (ef_RR_2 m a1 a2) (hG0 ▸ k)
  have k : Goes p e below s₁ G0 s₁ (mkF m 0 #[.val (.ref a1), .val (.ref a2)] []) := fun t q => hG0 ▸ q
  replace k := Fw.aloadN k X0 hx (hb hby d_prog_30_method_12_0) rfl rfl (pc' := 1) rfl
  obtain ⟨cq1, kq1, q1a, q1b, q1c⟩ := isOf hZ e0 E1
  obtain ⟨_, _, ⟨T1, L1, k1, n1⟩, -, X1, ⟨Lc1, hQ1, l1, y1, z1⟩, st1⟩ := X0.virtualBack hx (y := (⟨"com/example/wirecall/wirecall/xml/ScalarType", "isExtension", "()Z"⟩ : MethodName)) (z := (⟨"com/example/wirecall/wirecall/xml/ScalarType", "isExtension", "()Z"⟩ : MethodName)) hown (mvT hZ (hw _ (List.mem_of_getElem? (i := 19) rfl))) (mvT hZ (hw _ (List.mem_of_getElem? (i := 20) rfl))) (notFace_of_selects (args := #[]) (mvT hZ (hw _ (List.mem_of_getElem? (i := 22) rfl)))) (mvT hZ (hw _ (List.mem_of_getElem? (i := 61) rfl))) (mvT hZ (hw _ (List.mem_of_getElem? (i := 21) rfl))) (by decide) (backOf (W := 0) (rm_ie0 l Z a0 hw [] a1 h0 n0 O0) hZ (hw _ (List.mem_of_getElem? (i := 23) rfl)) (hw _ (List.mem_of_getElem? (i := 1) rfl)) (by decide) (by decide)) q1a q1c (g := (mkF m 1 #[.val (.ref a1), .val (.ref a2)] [(.ref a1)])) rfl (by rw [hml]; rfl) (Steps.refl _) (argsL := []) (rest := []) (lenOf pd__r_Z rfl) rfl (by show 2 * 0 + _ ≤ _; exact Nat.le_of_eq rfl) (hb hby d_prog_30_method_12_1) (fun _ _ => ⟨rfl, e0, (by decide : 0 + 0 ≤ _), (by decide : 0 + 0 ≤ _)⟩)
  dsimp only [Pt.U, Pt.locs, Pt.cells, Pt.slots] at X1 l1 y1 z1 st1 hQ1
  subst l1 y1 z1
  obtain ⟨rfl, N1q, e1⟩ := hQ1
  have N1 := Fr.app N0 N1q
  replace k : Goes p e below s₁ G0 T1 (mkF m 4 #[.val (.ref a1), .val (.ref a2)] [(.int 0)]) := fun t q => k t (st1.trans q)
  replace k := Fw.ifYes k X1 hx (hb hby d_prog_30_method_12_4) ((if0 _ _).trans (teq (show (0 : Int32) = (0 : Int32) from by decide)).1) (by decide) (pc' := 11) rfl
  replace k := Fw.aloadN k X1 hx (hb hby d_prog_30_method_12_11) rfl rfl (pc' := 12) rfl
  obtain ⟨fs, hr, hrun, hended, hW, hsame⟩ := X1.leave (v := some (.ref a1)) (fun h => by rw [Bd.returns] at h; cases h)
  refine ⟨_, _, pre0 _ (k _ ?_), hrun, hended, _, _, rfl, ?_, ⟨_, rfl⟩, hW, hsame.mono (by decide) (by decide)⟩
  · show Steps p.tables e below (T1.setTop (mkF m 12 #[.val (.ref a1), .val (.ref a2)] [(.ref a1)])) _
    jvm_step X1.here [X1.here.top, hx, (hb hby d_prog_30_method_12_12), X1.method', Bd.returns, Value.isRef, FieldType.isReference]
    first | (intro acts; rw [hr _ acts rfl rfl rfl]) | rw [hr _ _ rfl rfl rfl]
    exact Steps.refl _
  · show Q_we_BOOLEAN Z a1 a2 h0 n0 _ T1.heap _
    rw [e1]
    exact ⟨rfl, N1, rfl⟩
def Q_we_STRING (Z : State) (a1 : Addr) (a2 : Addr) (h0 : Heap) (n0 : Nat) (v : Option Value) (h : Heap) (L : List Loc) : Prop := v = some (.ref a1) ∧ Fr n0 L ∧ h = h0
set_option maxRecDepth 65536 in
set_option maxHeartbeats 40000000 in
theorem rm_we_STRING (l : Launch) (Z : State) (a0 : Array Value) (hw : ∀ d ∈ tables_1, d.before a0 Z = true) (ws : List Jvm.Cond) (a1 : Addr) (a2 : Addr) (h0 : Heap) (n0 : Nat) (O0 : Old Z n0 h0) (E1 : Exa Z h0 a1 "com/example/wirecall/wirecall/xml/ScalarType$4") :
    MetFree l (⟨"com/example/wirecall/wirecall/xml/ScalarType", "withoutExtensions", "(Ljava/lang/Object;)Lcom/example/wirecall/wirecall/xml/ScalarType;"⟩ : MethodName) (head1 (Jvm.Cond.code (⟨"com/example/wirecall/wirecall/xml/ScalarType", "withoutExtensions", "(Ljava/lang/Object;)Lcom/example/wirecall/wirecall/xml/ScalarType;"⟩ : MethodName) prog_30_method_12_code 2 (some (.object "com/example/wirecall/wirecall/xml/ScalarType")) :: ws) ({ frames := 1, cells := 0, slots := 0, locals := 12 } : Room)) (fun a U => a = #[(.ref a1), (.ref a2)] ∧ Z.Warmed39 U.vm ∧ U.heap = h0) (fun _ _ _ _ _ => True) (fun _ U o U' => ∃ v L, o = .returned v ∧ Q_we_STRING Z a1 a2 h0 n0 v U'.heap L ∧ FrameEnd U o U' L ({ frames := 1, cells := 0, slots := 0, locals := 12 } : Room).cells ({ frames := 1, cells := 0, slots := 0, locals := 12 } : Room).slots) := by
  refine MetFree.of_bodySF (plainFor_of_name pn_ScalarType) hisR ?_
  intro p e s m args below meth c s₁ Bd hml0 hP hK
  obtain ⟨rfl, hZ, hh⟩ := hP
  have hx := Bd.exec
  have hby := Bd.bytes
  have hml : c.maxLocals = 2 := hml0
  have hown : s.vm.findClass "com/example/wirecall/wirecall/xml/ScalarType" = some m.cls := findClass_of_methodNamed Bd.named
  have hnm := (name_of_methodNamed Bd.named Bd.method).1
  have X0 : Stand p l e ({ frames := 1, cells := 0, slots := 0, locals := 12 } : Room) s m #[(.ref a1), (.ref a2)] below meth c s₁ [] 0 0 := Stand.of_body Bd
  have e0 : s₁.heap = h0 := by rw [← hh, Bd.state]; rfl
  have N0 := Fr.nil n0
  obtain ⟨G0, hG0⟩ : ∃ z, z = (mkF m 0 #[.val (.ref a1), .val (.ref a2)] []) := ⟨_, rfl⟩
  have pre0 : ∀ t, Steps p.tables e below (s₁.setTop G0) t → Steps p.tables e below (s₁.setTop (entryFrame m #[(.ref a1), (.ref a2)] 2)) t := fun t k => castTop (ef_RR_2 m a1 a2) (hG0 ▸ k)
  have k : Goes p e below s₁ G0 s₁ (mkF m 0 #[.val (.ref a1), .val (.ref a2)] []) := fun t q => hG0 ▸ q
  replace k := Fw.aloadN k X0 hx (hb hby d_prog_30_method_12_0) rfl rfl (pc' := 1) rfl
  obtain ⟨cq1, kq1, q1a, q1b, q1c⟩ := isOf hZ e0 E1
  obtain ⟨_, _, ⟨T1, L1, k1, n1⟩, -, X1, ⟨Lc1, hQ1, l1, y1, z1⟩, st1⟩ := X0.virtualBack hx (y := (⟨"com/example/wirecall/wirecall/xml/ScalarType", "isExtension", "()Z"⟩ : MethodName)) (z := (⟨"com/example/wirecall/wirecall/xml/ScalarType", "isExtension", "()Z"⟩ : MethodName)) hown (mvT hZ (hw _ (List.mem_of_getElem? (i := 19) rfl))) (mvT hZ (hw _ (List.mem_of_getElem? (i := 20) rfl))) (notFace_of_selects (args := #[]) (mvT hZ (hw _ (List.mem_of_getElem? (i := 22) rfl)))) (mvT hZ (hw _ (List.mem_of_getElem? (i := 82) rfl))) (mvT hZ (hw _ (List.mem_of_getElem? (i := 21) rfl))) (by decide) (backOf (W := 0) (rm_ie0 l Z a0 hw [] a1 h0 n0 O0) hZ (hw _ (List.mem_of_getElem? (i := 23) rfl)) (hw _ (List.mem_of_getElem? (i := 1) rfl)) (by decide) (by decide)) q1a q1c (g := (mkF m 1 #[.val (.ref a1), .val (.ref a2)] [(.ref a1)])) rfl (by rw [hml]; rfl) (Steps.refl _) (argsL := []) (rest := []) (lenOf pd__r_Z rfl) rfl (by show 2 * 0 + _ ≤ _; exact Nat.le_of_eq rfl) (hb hby d_prog_30_method_12_1) (fun _ _ => ⟨rfl, e0, (by decide : 0 + 0 ≤ _), (by decide : 0 + 0 ≤ _)⟩)
  dsimp only [Pt.U, Pt.locs, Pt.cells, Pt.slots] at X1 l1 y1 z1 st1 hQ1
  subst l1 y1 z1
  obtain ⟨rfl, N1q, e1⟩ := hQ1
  have N1 := Fr.app N0 N1q
  replace k : Goes p e below s₁ G0 T1 (mkF m 4 #[.val (.ref a1), .val (.ref a2)] [(.int 0)]) := fun t q => k t (st1.trans q)
  replace k := Fw.ifYes k X1 hx (hb hby d_prog_30_method_12_4) ((if0 _ _).trans (teq (show (0 : Int32) = (0 : Int32) from by decide)).1) (by decide) (pc' := 11) rfl
  replace k := Fw.aloadN k X1 hx (hb hby d_prog_30_method_12_11) rfl rfl (pc' := 12) rfl
  obtain ⟨fs, hr, hrun, hended, hW, hsame⟩ := X1.leave (v := some (.ref a1)) (fun h => by rw [Bd.returns] at h; cases h)
  refine ⟨_, _, pre0 _ (k _ ?_), hrun, hended, _, _, rfl, ?_, ⟨_, rfl⟩, hW, hsame.mono (by decide) (by decide)⟩
  · show Steps p.tables e below (T1.setTop (mkF m 12 #[.val (.ref a1), .val (.ref a2)] [(.ref a1)])) _
    jvm_step X1.here [X1.here.top, hx, (hb hby d_prog_30_method_12_12), X1.method', Bd.returns, Value.isRef, FieldType.isReference]
    first | (intro acts; rw [hr _ acts rfl rfl rfl]) | rw [hr _ _ rfl rfl rfl]
    exact Steps.refl _
  · show Q_we_STRING Z a1 a2 h0 n0 _ T1.heap _
    rw [e1]
    exact ⟨rfl, N1, rfl⟩
def Q_we_DATE_TIME (Z : State) (a1 : Addr) (a2 : Addr) (h0 : Heap) (n0 : Nat) (v : Option Value) (h : Heap) (L : List Loc) : Prop := v = some (.ref a1) ∧ Fr n0 L ∧ h = h0
set_option maxRecDepth 65536 in
set_option maxHeartbeats 40000000 in
theorem rm_we_DATE_TIME (l : Launch) (Z : State) (a0 : Array Value) (hw : ∀ d ∈ tables_1, d.before a0 Z = true) (ws : List Jvm.Cond) (a1 : Addr) (a2 : Addr) (h0 : Heap) (n0 : Nat) (O0 : Old Z n0 h0) (E1 : Exa Z h0 a1 "com/example/wirecall/wirecall/xml/ScalarType$6") :
    MetFree l (⟨"com/example/wirecall/wirecall/xml/ScalarType", "withoutExtensions", "(Ljava/lang/Object;)Lcom/example/wirecall/wirecall/xml/ScalarType;"⟩ : MethodName) (head1 (Jvm.Cond.code (⟨"com/example/wirecall/wirecall/xml/ScalarType", "withoutExtensions", "(Ljava/lang/Object;)Lcom/example/wirecall/wirecall/xml/ScalarType;"⟩ : MethodName) prog_30_method_12_code 2 (some (.object "com/example/wirecall/wirecall/xml/ScalarType")) :: ws) ({ frames := 1, cells := 0, slots := 0, locals := 12 } : Room)) (fun a U => a = #[(.ref a1), (.ref a2)] ∧ Z.Warmed39 U.vm ∧ U.heap = h0) (fun _ _ _ _ _ => True) (fun _ U o U' => ∃ v L, o = .returned v ∧ Q_we_DATE_TIME Z a1 a2 h0 n0 v U'.heap L ∧ FrameEnd U o U' L ({ frames := 1, cells := 0, slots := 0, locals := 12 } : Room).cells ({ frames := 1, cells := 0, slots := 0, locals := 12 } : Room).slots) := by
  refine MetFree.of_bodySF (plainFor_of_name pn_ScalarType) hisR ?_
  intro p e s m args below meth c s₁ Bd hml0 hP hK
  obtain ⟨rfl, hZ, hh⟩ := hP
  have hx := Bd.exec
  have hby := Bd.bytes
  have hml : c.maxLocals = 2 := hml0
  have hown : s.vm.findClass "com/example/wirecall/wirecall/xml/ScalarType" = some m.cls := findClass_of_methodNamed Bd.named
  have hnm := (name_of_methodNamed Bd.named Bd.method).1
  have X0 : Stand p l e ({ frames := 1, cells := 0, slots := 0, locals := 12 } : Room) s m #[(.ref a1), (.ref a2)] below meth c s₁ [] 0 0 := Stand.of_body Bd
  have e0 : s₁.heap = h0 := by rw [← hh, Bd.state]; rfl
  have N0 := Fr.nil n0
  obtain ⟨G0, hG0⟩ : ∃ z, z = (mkF m 0 #[.val (.ref a1), .val (.ref a2)] []) := ⟨_, rfl⟩
  have pre0 : ∀ t, Steps p.tables e below (s₁.setTop G0) t → Steps p.tables e below (s₁.setTop (entryFrame m #[(.ref a1), (.ref a2)] 2)) t := fun t k => castTop (ef_RR_2 m a1 a2) (hG0 ▸ k)
  have k : Goes p e below s₁ G0 s₁ (mkF m 0 #[.val (.ref a1), .val (.ref a2)] []) := fun t q => hG0 ▸ q
  replace k := Fw.aloadN k X0 hx (hb hby d_prog_30_method_12_0) rfl rfl (pc' := 1) rfl
  obtain ⟨cq1, kq1, q1a, q1b, q1c⟩ := isOf hZ e0 E1
  obtain ⟨_, _, ⟨T1, L1, k1, n1⟩, -, X1, ⟨Lc1, hQ1, l1, y1, z1⟩, st1⟩ := X0.virtualBack hx (y := (⟨"com/example/wirecall/wirecall/xml/ScalarType", "isExtension", "()Z"⟩ : MethodName)) (z := (⟨"com/example/wirecall/wirecall/xml/ScalarType", "isExtension", "()Z"⟩ : MethodName)) hown (mvT hZ (hw _ (List.mem_of_getElem? (i := 19) rfl))) (mvT hZ (hw _ (List.mem_of_getElem? (i := 20) rfl))) (notFace_of_selects (args := #[]) (mvT hZ (hw _ (List.mem_of_getElem? (i := 22) rfl)))) (mvT hZ (hw _ (List.mem_of_getElem? (i := 87) rfl))) (mvT hZ (hw _ (List.mem_of_getElem? (i := 21) rfl))) (by decide) (backOf (W := 0) (rm_ie0 l Z a0 hw [] a1 h0 n0 O0) hZ (hw _ (List.mem_of_getElem? (i := 23) rfl)) (hw _ (List.mem_of_getElem? (i := 1) rfl)) (by decide) (by decide)) q1a q1c (g := (mkF m 1 #[.val (.ref a1), .val (.ref a2)] [(.ref a1)])) rfl (by rw [hml]; rfl) (Steps.refl _) (argsL := []) (rest := []) (lenOf pd__r_Z rfl) rfl (by show 2 * 0 + _ ≤ _; exact Nat.le_of_eq rfl) (hb hby d_prog_30_method_12_1) (fun _ _ => ⟨rfl, e0, (by decide : 0 + 0 ≤ _), (by decide : 0 + 0 ≤ _)⟩)
  dsimp only [Pt.U, Pt.locs, Pt.cells, Pt.slots] at X1 l1 y1 z1 st1 hQ1
  subst l1 y1 z1
  obtain ⟨rfl, N1q, e1⟩ := hQ1
  have N1 := Fr.app N0 N1q
  replace k : Goes p e below s₁ G0 T1 (mkF m 4 #[.val (.ref a1), .val (.ref a2)] [(.int 0)]) := fun t q => k t (st1.trans q)
  replace k := Fw.ifYes k X1 hx (hb hby d_prog_30_method_12_4) ((if0 _ _).trans (teq (show (0 : Int32) = (0 : Int32) from by decide)).1) (by decide) (pc' := 11) rfl
  replace k := Fw.aloadN k X1 hx (hb hby d_prog_30_method_12_11) rfl rfl (pc' := 12) rfl
  obtain ⟨fs, hr, hrun, hended, hW, hsame⟩ := X1.leave (v := some (.ref a1)) (fun h => by rw [Bd.returns] at h; cases h)
  refine ⟨_, _, pre0 _ (k _ ?_), hrun, hended, _, _, rfl, ?_, ⟨_, rfl⟩, hW, hsame.mono (by decide) (by decide)⟩
  · show Steps p.tables e below (T1.setTop (mkF m 12 #[.val (.ref a1), .val (.ref a2)] [(.ref a1)])) _
    jvm_step X1.here [X1.here.top, hx, (hb hby d_prog_30_method_12_12), X1.method', Bd.returns, Value.isRef, FieldType.isReference]
    first | (intro acts; rw [hr _ acts rfl rfl rfl]) | rw [hr _ _ rfl rfl rfl]
    exact Steps.refl _
  · show Q_we_DATE_TIME Z a1 a2 h0 n0 _ T1.heap _
    rw [e1]
    exact ⟨rfl, N1, rfl⟩
def Q_we_DOUBLE (Z : State) (a1 : Addr) (a2 : Addr) (h0 : Heap) (n0 : Nat) (v : Option Value) (h : Heap) (L : List Loc) : Prop := v = some (.ref a1) ∧ Fr n0 L ∧ h = h0
set_option maxRecDepth 65536 in
set_option maxHeartbeats 40000000 in
theorem rm_we_DOUBLE (l : Launch) (Z : State) (a0 : Array Value) (hw : ∀ d ∈ tables_1, d.before a0 Z = true) (ws : List Jvm.Cond) (a1 : Addr) (a2 : Addr) (h0 : Heap) (n0 : Nat) (O0 : Old Z n0 h0) (E1 : Exa Z h0 a1 "com/example/wirecall/wirecall/xml/ScalarType$5") :
    MetFree l (⟨"com/example/wirecall/wirecall/xml/ScalarType", "withoutExtensions", "(Ljava/lang/Object;)Lcom/example/wirecall/wirecall/xml/ScalarType;"⟩ : MethodName) (head1 (Jvm.Cond.code (⟨"com/example/wirecall/wirecall/xml/ScalarType", "withoutExtensions", "(Ljava/lang/Object;)Lcom/example/wirecall/wirecall/xml/ScalarType;"⟩ : MethodName) prog_30_method_12_code 2 (some (.object "com/example/wirecall/wirecall/xml/ScalarType")) :: ws) ({ frames := 1, cells := 0, slots := 0, locals := 12 } : Room)) (fun a U => a = #[(.ref a1), (.ref a2)] ∧ Z.Warmed39 U.vm ∧ U.heap = h0) (fun _ _ _ _ _ => True) (fun _ U o U' => ∃ v L, o = .returned v ∧ Q_we_DOUBLE Z a1 a2 h0 n0 v U'.heap L ∧ FrameEnd U o U' L ({ frames := 1, cells := 0, slots := 0, locals := 12 } : Room).cells ({ frames := 1, cells := 0, slots := 0, locals := 12 } : Room).slots) := by
  refine MetFree.of_bodySF (plainFor_of_name pn_ScalarType) hisR ?_
  intro p e s m args below meth c s₁ Bd hml0 hP hK
  obtain ⟨rfl, hZ, hh⟩ := hP
  have hx := Bd.exec
  have hby := Bd.bytes
  have hml : c.maxLocals = 2 := hml0
  have hown : s.vm.findClass "com/example/wirecall/wirecall/xml/ScalarType" = some m.cls := findClass_of_methodNamed Bd.named
  have hnm := (name_of_methodNamed Bd.named Bd.method).1
  have X0 : Stand p l e ({ frames := 1, cells := 0, slots := 0, locals := 12 } : Room) s m #[(.ref a1), (.ref a2)] below meth c s₁ [] 0 0 := Stand.of_body Bd
  have e0 : s₁.heap = h0 := by rw [← hh, Bd.state]; rfl
  have N0 := Fr.nil n0
  obtain ⟨G0, hG0⟩ : ∃ z, z = (mkF m 0 #[.val (.ref a1), .val (.ref a2)] []) := ⟨_, rfl⟩
  have pre0 : ∀ t, Steps p.tables e below (s₁.setTop G0) t → Steps p.tables e below (s₁.setTop (entryFrame m #[(.ref a1), (.ref a2)] 2)) t := fun t k => castTop (ef_RR_2 m a1 a2) (hG0 ▸ k)
  have k : Goes p e below s₁ G0 s₁ (mkF m 0 #[.val (.ref a1), .val (.ref a2)] []) := fun t q => hG0 ▸ q
  replace k := Fw.aloadN k X0 hx (hb hby d_prog_30_method_12_0) rfl rfl (pc' := 1) rfl
  obtain ⟨cq1, kq1, q1a, q1b, q1c⟩ := isOf hZ e0 E1
  obtain ⟨_, _, ⟨T1, L1, k1, n1⟩, -, X1, ⟨Lc1, hQ1, l1, y1, z1⟩, st1⟩ := X0.virtualBack hx (y := (⟨"com/example/wirecall/wirecall/xml/ScalarType", "isExtension", "()Z"⟩ : MethodName)) (z := (⟨"com/example/wirecall/wirecall/xml/ScalarType", "isExtension", "()Z"⟩ : MethodName)) hown (mvT hZ (hw _ (List.mem_of_getElem? (i := 19) rfl))) (mvT hZ (hw _ (List.mem_of_getElem? (i := 20) rfl))) (notFace_of_selects (args := #[]) (mvT hZ (hw _ (List.mem_of_getElem? (i := 22) rfl)))) (mvT hZ (hw _ (List.mem_of_getElem? (i := 93) rfl))) (mvT hZ (hw _ (List.mem_of_getElem? (i := 21) rfl))) (by decide) (backOf (W := 0) (rm_ie0 l Z a0 hw [] a1 h0 n0 O0) hZ (hw _ (List.mem_of_getElem? (i := 23) rfl)) (hw _ (List.mem_of_getElem? (i := 1) rfl)) (by decide) (by decide)) q1a q1c (g := (mkF m 1 #[.val (.ref a1), .val (.ref a2)] [(.ref a1)])) rfl (by rw [hml]; rfl) (Steps.refl _) (argsL := []) (rest := []) (lenOf pd__r_Z rfl) rfl (by show 2 * 0 + _ ≤ _; exact Nat.le_of_eq rfl) (hb hby d_prog_30_method_12_1) (fun _ _ => ⟨rfl, e0, (by decide : 0 + 0 ≤ _), (by decide : 0 + 0 ≤ _)⟩)
  dsimp only [Pt.U, Pt.locs, Pt.cells, Pt.slots] at X1 l1 y1 z1 st1 hQ1
  subst l1 y1 z1
  obtain ⟨rfl, N1q, e1⟩ := hQ1
  have N1 := Fr.app N0 N1q
  replace k : Goes p e below s₁ G0 T1 (mkF m 4 #[.val (.ref a1), .val (.ref a2)] [(.int 0)]) := fun t q => k t (st1.trans q)
  replace k := Fw.ifYes k X1 hx (hb hby d_prog_30_method_12_4) ((if0 _ _).trans (teq (show (0 : Int32) = (0 : Int32) from by decide)).1) (by decide) (pc' := 11) rfl
  replace k := Fw.aloadN k X1 hx (hb hby d_prog_30_method_12_11) rfl rfl (pc' := 12) rfl
  obtain ⟨fs, hr, hrun, hended, hW, hsame⟩ := X1.leave (v := some (.ref a1)) (fun h => by rw [Bd.returns] at h; cases h)
  refine ⟨_, _, pre0 _ (k _ ?_), hrun, hended, _, _, rfl, ?_, ⟨_, rfl⟩, hW, hsame.mono (by decide) (by decide)⟩
  · show Steps p.tables e below (T1.setTop (mkF m 12 #[.val (.ref a1), .val (.ref a2)] [(.ref a1)])) _
    jvm_step X1.here [X1.here.top, hx, (hb hby d_prog_30_method_12_12), X1.method', Bd.returns, Value.isRef, FieldType.isReference]
    first | (intro acts; rw [hr _ acts rfl rfl rfl]) | rw [hr _ _ rfl rfl rfl]
    exact Steps.refl _
  · show Q_we_DOUBLE Z a1 a2 h0 n0 _ T1.heap _
    rw [e1]
    exact ⟨rfl, N1, rfl⟩
def Q_we_BASE64 (Z : State) (a1 : Addr) (a2 : Addr) (h0 : Heap) (n0 : Nat) (v : Option Value) (h : Heap) (L : List Loc) : Prop := v = some (.ref a1) ∧ Fr n0 L ∧ h = h0
set_option maxRecDepth 65536 in
set_option maxHeartbeats 40000000 in
theorem rm_we_BASE64 (l : Launch) (Z : State) (a0 : Array Value) (hw : ∀ d ∈ tables_1, d.before a0 Z = true) (ws : List Jvm.Cond) (a1 : Addr) (a2 : Addr) (h0 : Heap) (n0 : Nat) (O0 : Old Z n0 h0) (E1 : Exa Z h0 a1 "com/example/wirecall/wirecall/xml/ScalarType$7") :
    MetFree l (⟨"com/example/wirecall/wirecall/xml/ScalarType", "withoutExtensions", "(Ljava/lang/Object;)Lcom/example/wirecall/wirecall/xml/ScalarType;"⟩ : MethodName) (head1 (Jvm.Cond.code (⟨"com/example/wirecall/wirecall/xml/ScalarType", "withoutExtensions", "(Ljava/lang/Object;)Lcom/example/wirecall/wirecall/xml/ScalarType;"⟩ : MethodName) prog_30_method_12_code 2 (some (.object "com/example/wirecall/wirecall/xml/ScalarType")) :: ws) ({ frames := 1, cells := 0, slots := 0, locals := 12 } : Room)) (fun a U => a = #[(.ref a1), (.ref a2)] ∧ Z.Warmed39 U.vm ∧ U.heap = h0) (fun _ _ _ _ _ => True) (fun _ U o U' => ∃ v L, o = .returned v ∧ Q_we_BASE64 Z a1 a2 h0 n0 v U'.heap L ∧ FrameEnd U o U' L ({ frames := 1, cells := 0, slots := 0, locals := 12 } : Room).cells ({ frames := 1, cells := 0, slots := 0, locals := 12 } : Room).slots) := by
  refine MetFree.of_bodySF (plainFor_of_name pn_ScalarType) hisR ?_
  intro p e s m args below meth c s₁ Bd hml0 hP hK
  obtain ⟨rfl, hZ, hh⟩ := hP
  have hx := Bd.exec
  have hby := Bd.bytes
  have hml : c.maxLocals = 2 := hml0
  have hown : s.vm.findClass "com/example/wirecall/wirecall/xml/ScalarType" = some m.cls := findClass_of_methodNamed Bd.named
  have hnm := (name_of_methodNamed Bd.named Bd.method).1
  have X0 : Stand p l e ({ frames := 1, cells := 0, slots := 0, locals := 12 } : Room) s m #[(.ref a1), (.ref a2)] below meth c s₁ [] 0 0 := Stand.of_body Bd
  have e0 : s₁.heap = h0 := by rw [← hh, Bd.state]; rfl
  have N0 := Fr.nil n0
  obtain ⟨G0, hG0⟩ : ∃ z, z = (mkF m 0 #[.val (.ref a1), .val (.ref a2)] []) := ⟨_, rfl⟩
  have pre0 : ∀ t, Steps p.tables e below (s₁.setTop G0) t → Steps p.tables e below (s₁.setTop (entryFrame m #[(.ref a1), (.ref a2)] 2)) t := fun t k => castTop (ef_RR_2 m a1 a2) (hG0 ▸ k)
  have k : Goes p e below s₁ G0 s₁ (mkF m 0 #[.val (.ref a1), .val (.ref a2)] []) := fun t q => hG0 ▸ q
  replace k := Fw.aloadN k X0 hx (hb hby d_prog_30_method_12_0) rfl rfl (pc' := 1) rfl
  obtain ⟨cq1, kq1, q1a, q1b, q1c⟩ := isOf hZ e0 E1
  obtain ⟨_, _, ⟨T1, L1, k1, n1⟩, -, X1, ⟨Lc1, hQ1, l1, y1, z1⟩, st1⟩ := X0.virtualBack hx (y := (⟨"com/example/wirecall/wirecall/xml/ScalarType", "isExtension", "()Z"⟩ : MethodName)) (z := (⟨"com/example/wirecall/wirecall/xml/ScalarType", "isExtension", "()Z"⟩ : MethodName)) hown (mvT hZ (hw _ (List.mem_of_getElem? (i := 19) rfl))) (mvT hZ (hw _ (List.mem_of_getElem? (i := 20) rfl))) (notFace_of_selects (args := #[]) (mvT hZ (hw _ (List.mem_of_getElem? (i := 22) rfl)))) (mvT hZ (hw _ (List.mem_of_getElem? (i := 97) rfl))) (mvT hZ (hw _ (List.mem_of_getElem? (i := 21) rfl))) (by decide) (backOf (W := 0) (rm_ie0 l Z a0 hw [] a1 h0 n0 O0) hZ (hw _ (List.mem_of_getElem? (i := 23) rfl)) (hw _ (List.mem_of_getElem? (i := 1) rfl)) (by decide) (by decide)) q1a q1c (g := (mkF m 1 #[.val (.ref a1), .val (.ref a2)] [(.ref a1)])) rfl (by rw [hml]; rfl) (Steps.refl _) (argsL := []) (rest := []) (lenOf pd__r_Z rfl) rfl (by show 2 * 0 + _ ≤ _; exact Nat.le_of_eq rfl) (hb hby d_prog_30_method_12_1) (fun _ _ => ⟨rfl, e0, (by decide : 0 + 0 ≤ _), (by decide : 0 + 0 ≤ _)⟩)
  dsimp only [Pt.U, Pt.locs, Pt.cells, Pt.slots] at X1 l1 y1 z1 st1 hQ1
  subst l1 y1 z1
  obtain ⟨rfl, N1q, e1⟩ := hQ1
  have N1 := Fr.app N0 N1q
  replace k : Goes p e below s₁ G0 T1 (mkF m 4 #[.val (.ref a1), .val (.ref a2)] [(.int 0)]) := fun t q => k t (st1.trans q)
  replace k := Fw.ifYes k X1 hx (hb hby d_prog_30_method_12_4) ((if0 _ _).trans (teq (show (0 : Int32) = (0 : Int32) from by decide)).1) (by decide) (pc' := 11) rfl
  replace k := Fw.aloadN k X1 hx (hb hby d_prog_30_method_12_11) rfl rfl (pc' := 12) rfl
  obtain ⟨fs, hr, hrun, hended, hW, hsame⟩ := X1.leave (v := some (.ref a1)) (fun h => by rw [Bd.returns] at h; cases h)
  refine ⟨_, _, pre0 _ (k _ ?_), hrun, hended, _, _, rfl, ?_, ⟨_, rfl⟩, hW, hsame.mono (by decide) (by decide)⟩
  · show Steps p.tables e below (T1.setTop (mkF m 12 #[.val (.ref a1), .val (.ref a2)] [(.ref a1)])) _
    jvm_step X1.here [X1.here.top, hx, (hb hby d_prog_30_method_12_12), X1.method', Bd.returns, Value.isRef, FieldType.isReference]
    first | (intro acts; rw [hr _ acts rfl rfl rfl]) | rw [hr _ _ rfl rfl rfl]
    exact Steps.refl _
  · show Q_we_BASE64 Z a1 a2 h0 n0 _ T1.heap _
    rw [e1]
    exact ⟨rfl, N1, rfl⟩
theorem d_prog_32_method_4_0 : decode prog_32_method_4_code 0 = .ok (.aload_n 1, 1) := by decide +kernel
theorem d_prog_32_method_4_1 : decode prog_32_method_4_code 1 = .ok (.checkcast 12, 3) := by decide +kernel
theorem d_prog_32_method_4_4 : decode prog_32_method_4_code 4 = .ok (.invokevirtual 17, 3) := by decide +kernel
theorem pd__r_J : parseMethodDescriptor "()J" = some ⟨[], some .long⟩ := by decide +kernel
theorem d_prog_32_method_4_7 : decode prog_32_method_4_code 7 = .ok (.lstore_n 2, 1) := by decide +kernel
theorem d_prog_32_method_4_8 : decode prog_32_method_4_code 8 = .ok (.lload_n 2, 1) := by decide +kernel
theorem d_prog_32_method_4_9 : decode prog_32_method_4_code 9 = .ok (.lload_n 2, 1) := by decide +kernel
theorem d_prog_32_method_4_10 : decode prog_32_method_4_code 10 = .ok (.l2i, 1) := by decide +kernel
theorem d_prog_32_method_4_11 : decode prog_32_method_4_code 11 = .ok (.i2l, 1) := by decide +kernel
theorem d_prog_32_method_4_12 : decode prog_32_method_4_code 12 = .ok (.lcmp, 1) := by decide +kernel
theorem d_prog_32_method_4_13 : decode prog_32_method_4_code 13 = .ok (.ifCond .ne 9, 3) := by decide +kernel
theorem d_prog_32_method_4_22 : decode prog_32_method_4_code 22 = .ok (.aconst_null, 1) := by decide +kernel
theorem d_prog_32_method_4_23 : decode prog_32_method_4_code 23 = .ok (.areturn, 1) := by decide +kernel
theorem pn_ScalarType_2 : plainName "com/example/wirecall/wirecall/xml/ScalarType$2" = true := by first | (simp [plainName, overriddenIn]; done) | decide +kernel
theorem ef_RR_4 (m : MethodId) (x0 : Addr) (x1 : Addr) : entryFrame m #[(.ref x0), (.ref x1)] 4 = mkF m 0 #[.val (.ref x0), .val (.ref x1), .unset, .unset] [] := by first | (simp [entryFrame, mkF, argsToLocals, Value.category]; done) | rfl
def Q_w20 (Z : State) (a1 : Addr) (a2 : Addr) (q2 : Int64) (wI : Addr) (h0 : Heap) (n0 : Nat) (v : Option Value) (h : Heap) (L : List Loc) : Prop := v = some .null ∧ Fr n0 L ∧ h = h0
set_option maxRecDepth 65536 in
set_option maxHeartbeats 40000000 in
theorem rm_w20 (l : Launch) (Z : State) (a0 : Array Value) (hw : ∀ d ∈ tables_1, d.before a0 Z = true) (ws : List Jvm.Cond) (a1 : Addr) (a2 : Addr) (q2 : Int64) (wI : Addr) (h0 : Heap) (n0 : Nat) (O0 : Old Z n0 h0) (E2 : Exa Z h0 a2 "java/lang/Long") (F2 : Fld Z h0 a2 "java/lang/Long" "value" "J" (.long q2)) (SI : Sta Z Z.heap "com/example/wirecall/wirecall/xml/ScalarType" "INT" "Lcom/example/wirecall/wirecall/xml/ScalarType;" (.ref wI)) (hq : ¬ q2 = ((q2.toInt32).toInt64)) :
    MetFree l (⟨"com/example/wirecall/wirecall/xml/ScalarType$2", "withoutExtensions", "(Ljava/lang/Object;)Lcom/example/wirecall/wirecall/xml/ScalarType;"⟩ : MethodName) (head1 (Jvm.Cond.code (⟨"com/example/wirecall/wirecall/xml/ScalarType$2", "withoutExtensions", "(Ljava/lang/Object;)Lcom/example/wirecall/wirecall/xml/ScalarType;"⟩ : MethodName) prog_32_method_4_code 4 (some (.object "com/example/wirecall/wirecall/xml/ScalarType")) :: ws) ({ frames := 1, cells := 0, slots := 0, locals := 12 } : Room)) (fun a U => a = #[(.ref a1), (.ref a2)] ∧ Z.Warmed39 U.vm ∧ U.heap = h0) (fun _ _ _ _ _ => True) (fun _ U o U' => ∃ v L, o = .returned v ∧ Q_w20 Z a1 a2 q2 wI h0 n0 v U'.heap L ∧ FrameEnd U o U' L ({ frames := 1, cells := 0, slots := 0, locals := 12 } : Room).cells ({ frames := 1, cells := 0, slots := 0, locals := 12 } : Room).slots) := by
  refine MetFree.of_bodySF (plainFor_of_name pn_ScalarType_2) hisR ?_
  intro p e s m args below meth c s₁ Bd hml0 hP hK
  obtain ⟨rfl, hZ, hh⟩ := hP
  have hx := Bd.exec
  have hby := Bd.bytes
  have hml : c.maxLocals = 4 := hml0
  have hown : s.vm.findClass "com/example/wirecall/wirecall/xml/ScalarType$2" = some m.cls := findClass_of_methodNamed Bd.named
  have hnm := (name_of_methodNamed Bd.named Bd.method).1
  have X0 : Stand p l e ({ frames := 1, cells := 0, slots := 0, locals := 12 } : Room) s m #[(.ref a1), (.ref a2)] below meth c s₁ [] 0 0 := Stand.of_body Bd
  have e0 : s₁.heap = h0 := by rw [← hh, Bd.state]; rfl
  have N0 := Fr.nil n0
  obtain ⟨G0, hG0⟩ : ∃ z, z = (mkF m 0 #[.val (.ref a1), .val (.ref a2), .unset, .unset] []) := ⟨_, rfl⟩
  have pre0 : ∀ t, Steps p.tables e below (s₁.setTop G0) t → Steps p.tables e below (s₁.setTop (entryFrame m #[(.ref a1), (.ref a2)] 4)) t := fun t k => castTop (ef_RR_4 m a1 a2) (hG0 ▸ k)
  have k : Goes p e below s₁ G0 s₁ (mkF m 0 #[.val (.ref a1), .val (.ref a2), .unset, .unset] []) := fun t q => hG0 ▸ q
  replace k := Fw.aloadN k X0 hx (hb hby d_prog_32_method_4_0) rfl rfl (pc' := 1) rfl
  obtain ⟨T1, X1, e1, st1⟩ := castY X0 hx hZ hown (hw _ (List.mem_of_getElem? (i := 51) rfl)) e0 (Ins.self E2) (g := (mkF m 1 #[.val (.ref a1), .val (.ref a2), .unset, .unset] [(.ref a2)])) rfl rfl (hb hby d_prog_32_method_4_1)
  replace k : Goes p e below s₁ G0 T1 (mkF m 4 #[.val (.ref a1), .val (.ref a2), .unset, .unset] [(.ref a2)]) := fun t q => k t (st1 _ q)
  obtain ⟨cq2, kq2, q2a, q2b, q2c⟩ := isOf hZ e1 E2
  obtain ⟨_, _, ⟨T2, L2, k2, n2⟩, -, X2, ⟨Lc2, hQ2, l2, y2, z2⟩, st2⟩ := X1.virtualBack hx (y := (⟨"java/lang/Long", "longValue", "()J"⟩ : MethodName)) (z := (⟨"java/lang/Long", "longValue", "()J"⟩ : MethodName)) hown (mvT hZ (hw _ (List.mem_of_getElem? (i := 52) rfl))) (mvT hZ (hw _ (List.mem_of_getElem? (i := 53) rfl))) (notFace_of_selects (args := #[]) (mvT hZ (hw _ (List.mem_of_getElem? (i := 55) rfl)))) (mvT hZ (hw _ (List.mem_of_getElem? (i := 55) rfl))) (mvT hZ (hw _ (List.mem_of_getElem? (i := 54) rfl))) (by decide) (backOf (W := 0) (rm_lv l Z a0 hw [] a2 q2 h0 n0 O0 F2) hZ (hw _ (List.mem_of_getElem? (i := 56) rfl)) (hw _ (List.mem_of_getElem? (i := 26) rfl)) (by decide) (by decide)) q2a q2c (g := (mkF m 4 #[.val (.ref a1), .val (.ref a2), .unset, .unset] [(.ref a2)])) rfl (by rw [hml]; rfl) (Steps.refl _) (argsL := []) (rest := []) (lenOf pd__r_J rfl) rfl (by show 2 * 0 + _ ≤ _; exact Nat.le_of_eq rfl) (hb hby d_prog_32_method_4_4) (fun _ _ => ⟨rfl, e1, (by decide : 0 + 0 ≤ _), (by decide : 0 + 0 ≤ _)⟩)
  dsimp only [Pt.U, Pt.locs, Pt.cells, Pt.slots] at X2 l2 y2 z2 st2 hQ2
  subst l2 y2 z2
  obtain ⟨rfl, N2q, e2⟩ := hQ2
  have N2 := Fr.app N0 N2q
  replace k : Goes p e below s₁ G0 T2 (mkF m 7 #[.val (.ref a1), .val (.ref a2), .unset, .unset] [(.long q2)]) := fun t q => k t (st2.trans q)
  replace k := Fw.lstoreN k X2 hx (hb hby d_prog_32_method_4_7)  (Ls' := #[.val (.ref a1), .val (.ref a2), .val (.long q2), .second]) rfl (pc' := 8) rfl
  replace k := Fw.lloadN k X2 hx (hb hby d_prog_32_method_4_8) rfl (pc' := 9) rfl
  replace k := Fw.lloadN k X2 hx (hb hby d_prog_32_method_4_9) rfl (pc' := 10) rfl
  replace k := Fw.l2i k X2 hx (hb hby d_prog_32_method_4_10) rfl (pc' := 11) rfl
  replace k := Fw.i2l k X2 hx (hb hby d_prog_32_method_4_11) rfl (pc' := 12) rfl
  replace k := Fw.lcmp k X2 hx (hb hby d_prog_32_method_4_12) (pc' := 13) rfl
  replace k := Fw.ifYes k X2 hx (hb hby d_prog_32_method_4_13) ((if0 _ _).trans (feq (fun q => (show ¬ (q2 = ((q2.toInt32).toInt64)) from hq) ((lw_eq _ _).mp q))).2) (by decide) (pc' := 22) rfl
  replace k := Fw.aconstNull k X2 hx (hb hby d_prog_32_method_4_22) (pc' := 23) rfl
  obtain ⟨fs, hr, hrun, hended, hW, hsame⟩ := X2.leave (v := some .null) (fun h => by rw [Bd.returns] at h; cases h)
  refine ⟨_, _, pre0 _ (k _ ?_), hrun, hended, _, _, rfl, ?_, ⟨_, rfl⟩, hW, hsame.mono (by decide) (by decide)⟩
  · show Steps p.tables e below (T2.setTop (mkF m 23 #[.val (.ref a1), .val (.ref a2), .val (.long q2), .second] [.null])) _
    jvm_step X2.here [X2.here.top, hx, (hb hby d_prog_32_method_4_23), X2.method', Bd.returns, Value.isRef, FieldType.isReference]
    first | (intro acts; rw [hr _ acts rfl rfl rfl]) | rw [hr _ _ rfl rfl rfl]
    exact Steps.refl _
  · show Q_w20 Z a1 a2 q2 wI h0 n0 _ T2.heap _
    rw [e2]
    exact ⟨rfl, N2, rfl⟩
theorem d_prog_32_method_4_16 : decode prog_32_method_4_code 16 = .ok (.getstatic 21, 3) := by decide +kernel
theorem d_prog_32_method_4_19 : decode prog_32_method_4_code 19 = .ok (.goto 4, 3) := by decide +kernel
def Q_w21 (Z : State) (a1 : Addr) (a2 : Addr) (q2 : Int64) (wI : Addr) (h0 : Heap) (n0 : Nat) (v : Option Value) (h : Heap) (L : List Loc) : Prop := v = some (.ref wI) ∧ Fr n0 L ∧ h = h0
set_option maxRecDepth 65536 in
set_option maxHeartbeats 40000000 in
theorem rm_w21 (l : Launch) (Z : State) (a0 : Array Value) (hw : ∀ d ∈ tables_1, d.before a0 Z = true) (ws : List Jvm.Cond) (a1 : Addr) (a2 : Addr) (q2 : Int64) (wI : Addr) (h0 : Heap) (n0 : Nat) (O0 : Old Z n0 h0) (E2 : Exa Z h0 a2 "java/lang/Long") (F2 : Fld Z h0 a2 "java/lang/Long" "value" "J" (.long q2)) (SI : Sta Z Z.heap "com/example/wirecall/wirecall/xml/ScalarType" "INT" "Lcom/example/wirecall/wirecall/xml/ScalarType;" (.ref wI)) (hq : q2 = ((q2.toInt32).toInt64)) :
    MetFree l (⟨"com/example/wirecall/wirecall/xml/ScalarType$2", "withoutExtensions", "(Ljava/lang/Object;)Lcom/example/wirecall/wirecall/xml/ScalarType;"⟩ : MethodName) (head1 (Jvm.Cond.code (⟨"com/example/wirecall/wirecall/xml/ScalarType$2", "withoutExtensions", "(Ljava/lang/Object;)Lcom/example/wirecall/wirecall/xml/ScalarType;"⟩ : MethodName) prog_32_method_4_code 4 (some (.object "com/example/wirecall/wirecall/xml/ScalarType")) :: ws) ({ frames := 1, cells := 0, slots := 0, locals := 12 } : Room)) (fun a U => a = #[(.ref a1), (.ref a2)] ∧ Z.Warmed39 U.vm ∧ U.heap = h0) (fun _ _ _ _ _ => True) (fun _ U o U' => ∃ v L, o = .returned v ∧ Q_w21 Z a1 a2 q2 wI h0 n0 v U'.heap L ∧ FrameEnd U o U' L ({ frames := 1, cells := 0, slots := 0, locals := 12 } : Room).cells ({ frames := 1, cells := 0, slots := 0, locals := 12 } : Room).slots) := by
  refine MetFree.of_bodySF (plainFor_of_name pn_ScalarType_2) hisR ?_
  intro p e s m args below meth c s₁ Bd hml0 hP hK
  obtain ⟨rfl, hZ, hh⟩ := hP
  have hx := Bd.exec
  have hby := Bd.bytes
  have hml : c.maxLocals = 4 := hml0
  have hown : s.vm.findClass "com/example/wirecall/wirecall/xml/ScalarType$2" = some m.cls := findClass_of_methodNamed Bd.named
  have hnm := (name_of_methodNamed Bd.named Bd.method).1
  have X0 : Stand p l e ({ frames := 1, cells := 0, slots := 0, locals := 12 } : Room) s m #[(.ref a1), (.ref a2)] below meth c s₁ [] 0 0 := Stand.of_body Bd
  have e0 : s₁.heap = h0 := by rw [← hh, Bd.state]; rfl
  have N0 := Fr.nil n0
  obtain ⟨G0, hG0⟩ : ∃ z, z = (mkF m 0 #[.val (.ref a1), .val (.ref a2), .unset, .unset] []) := ⟨_, rfl⟩
  have pre0 : ∀ t, Steps p.tables e below (s₁.setTop G0) t → Steps p.tables e below (s₁.setTop (entryFrame m #[(.ref a1), (.ref a2)] 4)) t := fun t k => castTop (ef_RR_4 m a1 a2) (hG0 ▸ k)
  have k : Goes p e below s₁ G0 s₁ (mkF m 0 #[.val (.ref a1), .val (.ref a2), .unset, .unset] []) := fun t q => hG0 ▸ q
  replace k := Fw.aloadN k X0 hx (hb hby d_prog_32_method_4_0) rfl rfl (pc' := 1) rfl
  obtain ⟨T1, X1, e1, st1⟩ := castY X0 hx hZ hown (hw _ (List.mem_of_getElem? (i := 51) rfl)) e0 (Ins.self E2) (g := (mkF m 1 #[.val (.ref a1), .val (.ref a2), .unset, .unset] [(.ref a2)])) rfl rfl (hb hby d_prog_32_method_4_1)
  replace k : Goes p e below s₁ G0 T1 (mkF m 4 #[.val (.ref a1), .val (.ref a2), .unset, .unset] [(.ref a2)]) := fun t q => k t (st1 _ q)
  obtain ⟨cq2, kq2, q2a, q2b, q2c⟩ := isOf hZ e1 E2
  obtain ⟨_, _, ⟨T2, L2, k2, n2⟩, -, X2, ⟨Lc2, hQ2, l2, y2, z2⟩, st2⟩ := X1.virtualBack hx (y := (⟨"java/lang/Long", "longValue", "()J"⟩ : MethodName)) (z := (⟨"java/lang/Long", "longValue", "()J"⟩ : MethodName)) hown (mvT hZ (hw _ (List.mem_of_getElem? (i := 52) rfl))) (mvT hZ (hw _ (List.mem_of_getElem? (i := 53) rfl))) (notFace_of_selects (args := #[]) (mvT hZ (hw _ (List.mem_of_getElem? (i := 55) rfl)))) (mvT hZ (hw _ (List.mem_of_getElem? (i := 55) rfl))) (mvT hZ (hw _ (List.mem_of_getElem? (i := 54) rfl))) (by decide) (backOf (W := 0) (rm_lv l Z a0 hw [] a2 q2 h0 n0 O0 F2) hZ (hw _ (List.mem_of_getElem? (i := 56) rfl)) (hw _ (List.mem_of_getElem? (i := 26) rfl)) (by decide) (by decide)) q2a q2c (g := (mkF m 4 #[.val (.ref a1), .val (.ref a2), .unset, .unset] [(.ref a2)])) rfl (by rw [hml]; rfl) (Steps.refl _) (argsL := []) (rest := []) (lenOf pd__r_J rfl) rfl (by show 2 * 0 + _ ≤ _; exact Nat.le_of_eq rfl) (hb hby d_prog_32_method_4_4) (fun _ _ => ⟨rfl, e1, (by decide : 0 + 0 ≤ _), (by decide : 0 + 0 ≤ _)⟩)
  dsimp only [Pt.U, Pt.locs, Pt.cells, Pt.slots] at X2 l2 y2 z2 st2 hQ2
  subst l2 y2 z2
  obtain ⟨rfl, N2q, e2⟩ := hQ2
  have N2 := Fr.app N0 N2q
  replace k : Goes p e below s₁ G0 T2 (mkF m 7 #[.val (.ref a1), .val (.ref a2), .unset, .unset] [(.long q2)]) := fun t q => k t (st2.trans q)
  replace k := Fw.lstoreN k X2 hx (hb hby d_prog_32_method_4_7)  (Ls' := #[.val (.ref a1), .val (.ref a2), .val (.long q2), .second]) rfl (pc' := 8) rfl
  replace k := Fw.lloadN k X2 hx (hb hby d_prog_32_method_4_8) rfl (pc' := 9) rfl
  replace k := Fw.lloadN k X2 hx (hb hby d_prog_32_method_4_9) rfl (pc' := 10) rfl
  replace k := Fw.l2i k X2 hx (hb hby d_prog_32_method_4_10) rfl (pc' := 11) rfl
  replace k := Fw.i2l k X2 hx (hb hby d_prog_32_method_4_11) rfl (pc' := 12) rfl
  replace k := Fw.lcmp k X2 hx (hb hby d_prog_32_method_4_12) (pc' := 13) rfl
  replace k := Fw.ifNo k X2 hx (hb hby d_prog_32_method_4_13) ((if0 _ _).trans (teq ((lw_eq _ _).mpr (show q2 = ((q2.toInt32).toInt64) from hq))).2) (pc' := 16) rfl
  obtain ⟨T3, X3, e3, st3⟩ := getS2 X2 hx hZ hown (host := "") (Or.inl (hw _ (List.mem_of_getElem? (i := 88) rfl))) (Via.of (hw _ (List.mem_of_getElem? (i := 89) rfl))) e2 (SI.ext O0.2) (g := (mkF m 16 #[.val (.ref a1), .val (.ref a2), .val (.long q2), .second] [])) rfl (hb hby d_prog_32_method_4_16)
  replace k : Goes p e below s₁ G0 T3 (mkF m 19 #[.val (.ref a1), .val (.ref a2), .val (.long q2), .second] [(.ref wI)]) := fun t q => k t (st3 _ q)
  replace k := Fw.goto k X3 hx (hb hby d_prog_32_method_4_19) (by decide) (pc' := 23) rfl
  obtain ⟨fs, hr, hrun, hended, hW, hsame⟩ := X3.leave (v := some (.ref wI)) (fun h => by rw [Bd.returns] at h; cases h)
  refine ⟨_, _, pre0 _ (k _ ?_), hrun, hended, _, _, rfl, ?_, ⟨_, rfl⟩, hW, hsame.mono (by decide) (by decide)⟩
  · show Steps p.tables e below (T3.setTop (mkF m 23 #[.val (.ref a1), .val (.ref a2), .val (.long q2), .second] [(.ref wI)])) _
    jvm_step X3.here [X3.here.top, hx, (hb hby d_prog_32_method_4_23), X3.method', Bd.returns, Value.isRef, FieldType.isReference]
    first | (intro acts; rw [hr _ acts rfl rfl rfl]) | rw [hr _ _ rfl rfl rfl]
    exact Steps.refl _
  · show Q_w21 Z a1 a2 q2 wI h0 n0 _ T3.heap _
    rw [e3]
    exact ⟨rfl, N2, rfl⟩
theorem pd_I_r_Ljava_lang_Integer : parseMethodDescriptor "(I)Ljava/lang/Integer;" = some ⟨[.int], some (.object "java/lang/Integer")⟩ := by decide +kernel
theorem pd_Ljava_lang_Object_r_Lcom_example_wirecall_wirecall_xml_ScalarType : parseMethodDescriptor "(Ljava/lang/Object;)Lcom/example/wirecall/wirecall/xml/ScalarType;" = some ⟨[(.object "java/lang/Object")], some (.object "com/example/wirecall/wirecall/xml/ScalarType")⟩ := by decide +kernel
theorem pd_J_r_Ljava_lang_Long : parseMethodDescriptor "(J)Ljava/lang/Long;" = some ⟨[.long], some (.object "java/lang/Long")⟩ := by decide +kernel
theorem pn_ScalarTypeWithoutExtensionsPinLaw : plainName "com/example/wirecall/wirecall/xml/ScalarTypeWithoutExtensionsPinLaw" = true := by first | (simp [plainName, overriddenIn]; done) | decide +kernel
theorem ef_IJ_maxLocals (m : MethodId) (x0 : Int32) (x1 : Int64) : entryFrame m #[(.int x0), (.long x1)] maxLocals = mkF m 0 #[.val (.int x0), .val (.long x1), .second, .unset, .unset, .unset, .unset] [] := by first | (simp [entryFrame, mkF, argsToLocals, Value.category, maxLocals]; done) | rfl
def Q_law (Z : State) (p1 : Int32) (q2 : Int64) (w_INT : Addr) (w_NIL : Addr) (w_I8 : Addr) (w_BOOLEAN : Addr) (w_STRING : Addr) (w_DATE_TIME : Addr) (w_DOUBLE : Addr) (w_BASE64 : Addr) (h0 : Heap) (n0 : Nat) (v : Option Value) (h : Heap) (L : List Loc) : Prop := v = some (.int 1) ∧ Fr n0 L ∧ True
set_option maxRecDepth 65536 in
set_option maxHeartbeats 40000000 in
theorem rm_law (l : Launch) (Z : State) (a0 : Array Value) (hw : ∀ d ∈ tables_1, d.before a0 Z = true) (ws : List Jvm.Cond) (p1 : Int32) (q2 : Int64) (w_INT : Addr) (w_NIL : Addr) (w_I8 : Addr) (w_BOOLEAN : Addr) (w_STRING : Addr) (w_DATE_TIME : Addr) (w_DOUBLE : Addr) (w_BASE64 : Addr) (h0 : Heap) (n0 : Nat) (O0 : Old Z n0 h0) (HL : LongCache Z) (HI : IntegerCache Z) (HH : Sta Z Z.heap "java/lang/Integer$IntegerCache" "high" "I" (.int 127)) (S_INT : Sta Z Z.heap "com/example/wirecall/wirecall/xml/ScalarType" "INT" "Lcom/example/wirecall/wirecall/xml/ScalarType;" (.ref w_INT)) (E_INT : Exa Z Z.heap w_INT "com/example/wirecall/wirecall/xml/ScalarType$1") (S_NIL : Sta Z Z.heap "com/example/wirecall/wirecall/xml/ScalarType" "NIL" "Lcom/example/wirecall/wirecall/xml/ScalarType;" (.ref w_NIL)) (E_NIL : Exa Z Z.heap w_NIL "com/example/wirecall/wirecall/xml/ScalarType$8") (S_I8 : Sta Z Z.heap "com/example/wirecall/wirecall/xml/ScalarType" "I8" "Lcom/example/wirecall/wirecall/xml/ScalarType;" (.ref w_I8)) (E_I8 : Exa Z Z.heap w_I8 "com/example/wirecall/wirecall/xml/ScalarType$2") (S_BOOLEAN : Sta Z Z.heap "com/example/wirecall/wirecall/xml/ScalarType" "BOOLEAN" "Lcom/example/wirecall/wirecall/xml/ScalarType;" (.ref w_BOOLEAN)) (E_BOOLEAN : Exa Z Z.heap w_BOOLEAN "com/example/wirecall/wirecall/xml/ScalarType$3") (S_STRING : Sta Z Z.heap "com/example/wirecall/wirecall/xml/ScalarType" "STRING" "Lcom/example/wirecall/wirecall/xml/ScalarType;" (.ref w_STRING)) (E_STRING : Exa Z Z.heap w_STRING "com/example/wirecall/wirecall/xml/ScalarType$4") (S_DATE_TIME : Sta Z Z.heap "com/example/wirecall/wirecall/xml/ScalarType" "DATE_TIME" "Lcom/example/wirecall/wirecall/xml/ScalarType;" (.ref w_DATE_TIME)) (E_DATE_TIME : Exa Z Z.heap w_DATE_TIME "com/example/wirecall/wirecall/xml/ScalarType$6") (S_DOUBLE : Sta Z Z.heap "com/example/wirecall/wirecall/xml/ScalarType" "DOUBLE" "Lcom/example/wirecall/wirecall/xml/ScalarType;" (.ref w_DOUBLE)) (E_DOUBLE : Exa Z Z.heap w_DOUBLE "com/example/wirecall/wirecall/xml/ScalarType$5") (S_BASE64 : Sta Z Z.heap "com/example/wirecall/wirecall/xml/ScalarType" "BASE64" "Lcom/example/wirecall/wirecall/xml/ScalarType;" (.ref w_BASE64)) (E_BASE64 : Exa Z Z.heap w_BASE64 "com/example/wirecall/wirecall/xml/ScalarType$7") :
    MetFree l x (head1 (Jvm.Cond.code x code maxLocals ret :: ws) room_1) (fun a U => a = #[(.int p1), (.long q2)] ∧ Z.Warmed39 U.vm ∧ U.heap = h0) (fun _ _ _ _ _ => True) (fun _ U o U' => ∃ v L, o = .returned v ∧ Q_law Z p1 q2 w_INT w_NIL w_I8 w_BOOLEAN w_STRING w_DATE_TIME w_DOUBLE w_BASE64 h0 n0 v U'.heap L ∧ FrameEnd U o U' L room_1.cells room_1.slots) := by
  refine MetFree.of_bodySF (plainFor_of_name pn_ScalarTypeWithoutExtensionsPinLaw) hisR ?_
  intro p e s m args below meth c s₁ Bd hml0 hP hK
  obtain ⟨rfl, hZ, hh⟩ := hP
  have hx := Bd.exec
  have hby := Bd.bytes
  have hml : c.maxLocals = 7 := hml0
  have hown : s.vm.findClass "com/example/wirecall/wirecall/xml/ScalarTypeWithoutExtensionsPinLaw" = some m.cls := findClass_of_methodNamed Bd.named
  have hnm := (name_of_methodNamed Bd.named Bd.method).1
  have X0 : Stand p l e room_1 s m #[(.int p1), (.long q2)] below meth c s₁ [] 0 0 := Stand.of_body Bd
  have e0 : s₁.heap = h0 := by rw [← hh, Bd.state]; rfl
  have N0 := Fr.nil n0
  obtain ⟨G0, hG0⟩ : ∃ z, z = (mkF m 0 #[.val (.int p1), .val (.long q2), .second, .unset, .unset, .unset, .unset] []) := ⟨_, rfl⟩
  have pre0 : ∀ t, Steps p.tables e below (s₁.setTop G0) t → Steps p.tables e below (s₁.setTop (entryFrame m #[(.int p1), (.long q2)] maxLocals)) t := fun t k => castTop (ef_IJ_maxLocals m p1 q2) (hG0 ▸ k)
  have k : Goes p e below s₁ G0 s₁ (mkF m 0 #[.val (.int p1), .val (.long q2), .second, .unset, .unset, .unset, .unset] []) := fun t q => hG0 ▸ q
  replace k := Fw.iloadN k X0 hx (hb hby at_0) rfl (pc' := 1) rfl
  replace k := Fw.bipush k X0 hx (hb hby at_1) (z := (7 : Int32)) (by decide) (pc' := 3) rfl
  replace k := Fw.iand k X0 hx (hb hby at_3) rfl (pc' := 4) rfl
  replace k := Fw.istoreN k X0 hx (hb hby at_4)  (Ls' := #[.val (.int p1), .val (.long q2), .second, .val (.int (p1 &&& (7 : Int32))), .unset, .unset, .unset]) rfl (pc' := 5) rfl
  replace k := Fw.iloadN k X0 hx (hb hby at_5) rfl (pc' := 6) rfl
  by_cases hc6_1 : (p1 &&& (7 : Int32)) = (0 : Int32)
  · replace k := Fw.ifNo k X0 hx (hb hby at_6) ((if0 _ _).trans (teq hc6_1).2) (pc' := 9) rfl
    obtain ⟨T2, X2, e2, st2⟩ := getS2 X0 hx hZ hown (host := "") (Or.inl (hw _ (List.mem_of_getElem? (i := 0) rfl))) Via.refl e0 (S_INT.ext O0.2) (g := (mkF m 9 #[.val (.int p1), .val (.long q2), .second, .val (.int (p1 &&& (7 : Int32))), .unset, .unset, .unset] [])) rfl (hb hby at_9)
    replace k : Goes p e below s₁ G0 T2 (mkF m 12 #[.val (.int p1), .val (.long q2), .second, .val (.int (p1 &&& (7 : Int32))), .unset, .unset, .unset] [(.ref w_INT)]) := fun t q => k t (st2 _ q)
    replace k := Fw.astore k X2 hx (hb hby at_12)  rfl (Ls' := #[.val (.int p1), .val (.long q2), .second, .val (.int (p1 &&& (7 : Int32))), .val (.ref w_INT), .unset, .unset]) rfl (pc' := 14) rfl
    replace k := Fw.goto k X2 hx (hb hby at_14) (by decide) (pc' := 101) rfl
    replace k := Fw.aload k X2 hx (hb hby at_101) rfl rfl (pc' := 103) rfl
    obtain ⟨T3, X3, e3, st3⟩ := getS2 X2 hx hZ hown (host := "") (Or.inl (hw _ (List.mem_of_getElem? (i := 3) rfl))) Via.refl e2 (S_NIL.ext O0.2) (g := (mkF m 103 #[.val (.int p1), .val (.long q2), .second, .val (.int (p1 &&& (7 : Int32))), .val (.ref w_INT), .unset, .unset] [(.ref w_INT)])) rfl (hb hby at_103)
    replace k : Goes p e below s₁ G0 T3 (mkF m 106 #[.val (.int p1), .val (.long q2), .second, .val (.int (p1 &&& (7 : Int32))), .val (.ref w_INT), .unset, .unset] [(.ref w_NIL), (.ref w_INT)]) := fun t q => k t (st3 _ q)
    replace k := Fw.acmp k X3 hx (hb hby at_106) rfl rfl false (decide_eq_false fun q => (show ¬ (w_INT = w_NIL) from ne_exa E_INT E_NIL (by decide)) (Value.ref.inj q)) (by decide) (pc' := 115) (by decide)
    replace k := Fw.aload k X3 hx (hb hby at_115) rfl rfl (pc' := 117) rfl
    obtain ⟨T4, X4, e4, st4⟩ := getS2 X3 hx hZ hown (host := "") (Or.inl (hw _ (List.mem_of_getElem? (i := 0) rfl))) Via.refl e3 (S_INT.ext O0.2) (g := (mkF m 117 #[.val (.int p1), .val (.long q2), .second, .val (.int (p1 &&& (7 : Int32))), .val (.ref w_INT), .unset, .unset] [(.ref w_INT)])) rfl (hb hby at_117)
    replace k : Goes p e below s₁ G0 T4 (mkF m 120 #[.val (.int p1), .val (.long q2), .second, .val (.int (p1 &&& (7 : Int32))), .val (.ref w_INT), .unset, .unset] [(.ref w_INT), (.ref w_INT)]) := fun t q => k t (st4 _ q)
    replace k := Fw.acmp k X4 hx (hb hby at_120) rfl rfl true (decide_eq_true rfl) (by decide) (pc' := 123) (by decide)
    replace k := Fw.lloadN k X4 hx (hb hby at_123) rfl (pc' := 124) rfl
    replace k := Fw.l2i k X4 hx (hb hby at_124) rfl (pc' := 125) rfl
    obtain ⟨_, _, ⟨T5, L5, k5, n5⟩, -, X5, ⟨Lc5, hQ5, l5, y5, z5⟩, st5⟩ := Jvm.LawKit.callS X4 hx (y := (⟨"java/lang/Integer", "valueOf", "(I)Ljava/lang/Integer;"⟩ : MethodName)) hown (mvT hZ (hw _ (List.mem_of_getElem? (i := 5) rfl))) (mvT hZ (hw _ (List.mem_of_getElem? (i := 6) rfl))) (mvT hZ (hw _ (List.mem_of_getElem? (i := 7) rfl))) (mvT hZ (hw _ (List.mem_of_getElem? (i := 8) rfl))) (by decide) (backOf (W := 0) (rm_ivo l Z a0 hw [] (q2.toInt32) h0 n0 O0 HI HH) hZ (hw _ (List.mem_of_getElem? (i := 8) rfl)) (hw _ (List.mem_of_getElem? (i := 7) rfl)) (by decide) (by decide)) (g := (mkF m 125 #[.val (.int p1), .val (.long q2), .second, .val (.int (p1 &&& (7 : Int32))), .val (.ref w_INT), .unset, .unset] [(.int (q2.toInt32))])) rfl (by rw [hml]; rfl) (argsL := [(.int (q2.toInt32))]) (rest := []) (lenOf pd_I_r_Ljava_lang_Integer rfl) rfl (by show 2 * 0 + _ ≤ _; exact Nat.le_of_eq rfl) (hb hby at_125) (fun _ _ => ⟨rfl, e4, (by decide : 0 + 1 ≤ _), (by decide : 0 + 1 ≤ _)⟩)
    dsimp only [Pt.U, Pt.locs, Pt.cells, Pt.slots] at X5 l5 y5 z5 st5 hQ5
    subst l5 y5 z5
    obtain ⟨bv5, rfl, N5q, E5, qa5, qb5⟩ := hQ5
    have N5 := Fr.app N0 N5q
    replace k : Goes p e below s₁ G0 T5 (mkF m 128 #[.val (.int p1), .val (.long q2), .second, .val (.int (p1 &&& (7 : Int32))), .val (.ref w_INT), .unset, .unset] [(.ref bv5)]) := fun t q => k t (st5 _ q)
    replace k := Fw.astore k X5 hx (hb hby at_128)  rfl (Ls' := #[.val (.int p1), .val (.long q2), .second, .val (.int (p1 &&& (7 : Int32))), .val (.ref w_INT), .val (.ref bv5), .unset]) rfl (pc' := 130) rfl
    replace k := Fw.goto k X5 hx (hb hby at_130) (by decide) (pc' := 139) rfl
    replace k := Fw.aload k X5 hx (hb hby at_139) rfl rfl (pc' := 141) rfl
    have fc6 := (O0.ext E5)
    obtain ⟨T7, X7, e7, st7⟩ := getS2 X5 hx hZ hown (host := "") (Or.inl (hw _ (List.mem_of_getElem? (i := 3) rfl))) Via.refl rfl (S_NIL.ext fc6.2) (g := (mkF m 141 #[.val (.int p1), .val (.long q2), .second, .val (.int (p1 &&& (7 : Int32))), .val (.ref w_INT), .val (.ref bv5), .unset] [(.ref w_INT)])) rfl (hb hby at_141)
    replace k : Goes p e below s₁ G0 T7 (mkF m 144 #[.val (.int p1), .val (.long q2), .second, .val (.int (p1 &&& (7 : Int32))), .val (.ref w_INT), .val (.ref bv5), .unset] [(.ref w_NIL), (.ref w_INT)]) := fun t q => k t (st7 _ q)
    replace k := Fw.acmp k X7 hx (hb hby at_144) rfl rfl false (decide_eq_false fun q => (show ¬ (w_INT = w_NIL) from ne_exa E_INT E_NIL (by decide)) (Value.ref.inj q)) (by decide) (pc' := 153) (by decide)
    replace k := Fw.aload k X7 hx (hb hby at_153) rfl rfl (pc' := 155) rfl
    obtain ⟨T8, X8, e8, st8⟩ := getS2 X7 hx hZ hown (host := "") (Or.inl (hw _ (List.mem_of_getElem? (i := 12) rfl))) Via.refl e7 (S_I8.ext fc6.2) (g := (mkF m 155 #[.val (.int p1), .val (.long q2), .second, .val (.int (p1 &&& (7 : Int32))), .val (.ref w_INT), .val (.ref bv5), .unset] [(.ref w_INT)])) rfl (hb hby at_155)
    replace k : Goes p e below s₁ G0 T8 (mkF m 158 #[.val (.int p1), .val (.long q2), .second, .val (.int (p1 &&& (7 : Int32))), .val (.ref w_INT), .val (.ref bv5), .unset] [(.ref w_I8), (.ref w_INT)]) := fun t q => k t (st8 _ q)
    replace k := Fw.acmp k X8 hx (hb hby at_158) rfl rfl false (decide_eq_false fun q => (show ¬ (w_INT = w_I8) from ne_exa E_INT E_I8 (by decide)) (Value.ref.inj q)) (by decide) (pc' := 191) (by decide)
    replace k := Fw.aload k X8 hx (hb hby at_191) rfl rfl (pc' := 193) rfl
    replace k := Fw.astore k X8 hx (hb hby at_193)  rfl (Ls' := #[.val (.int p1), .val (.long q2), .second, .val (.int (p1 &&& (7 : Int32))), .val (.ref w_INT), .val (.ref bv5), .val (.ref w_INT)]) rfl (pc' := 195) rfl
    replace k := Fw.aload k X8 hx (hb hby at_195) rfl rfl (pc' := 197) rfl
    replace k := Fw.aload k X8 hx (hb hby at_197) rfl rfl (pc' := 199) rfl
    obtain ⟨cq9, kq9, q9a, q9b, q9c⟩ := isOf hZ e8 (E_INT.ext fc6.2)
    obtain ⟨_, _, ⟨T9, L9, k9, n9⟩, -, X9, ⟨Lc9, hQ9, l9, y9, z9⟩, st9⟩ := X8.virtualBack hx (y := (⟨"com/example/wirecall/wirecall/xml/ScalarType", "withoutExtensions", "(Ljava/lang/Object;)Lcom/example/wirecall/wirecall/xml/ScalarType;"⟩ : MethodName)) (z := (⟨"com/example/wirecall/wirecall/xml/ScalarType", "withoutExtensions", "(Ljava/lang/Object;)Lcom/example/wirecall/wirecall/xml/ScalarType;"⟩ : MethodName)) hown (mvT hZ (hw _ (List.mem_of_getElem? (i := 14) rfl))) (mvT hZ (hw _ (List.mem_of_getElem? (i := 15) rfl))) (notFace_of_selects (args := #[]) (mvT hZ (hw _ (List.mem_of_getElem? (i := 17) rfl)))) (mvT hZ (hw _ (List.mem_of_getElem? (i := 17) rfl))) (mvT hZ (hw _ (List.mem_of_getElem? (i := 16) rfl))) (by decide) (backOf (W := 0) (rm_we_INT l Z a0 hw [] w_INT bv5 T5.heap n0 fc6 (E_INT.ext fc6.2)) hZ (hw _ (List.mem_of_getElem? (i := 18) rfl)) (hw _ (List.mem_of_getElem? (i := 1) rfl)) (by decide) (by decide)) q9a q9c (g := (mkF m 199 #[.val (.int p1), .val (.long q2), .second, .val (.int (p1 &&& (7 : Int32))), .val (.ref w_INT), .val (.ref bv5), .val (.ref w_INT)] [(.ref bv5), (.ref w_INT)])) rfl (by rw [hml]; rfl) (Steps.refl _) (argsL := [(.ref bv5)]) (rest := []) (lenOf pd_Ljava_lang_Object_r_Lcom_example_wirecall_wirecall_xml_ScalarType rfl) rfl (by show 2 * 0 + _ ≤ _; exact Nat.le_of_eq rfl) (hb hby at_199) (fun _ _ => ⟨rfl, e8, (by decide : 1 + 0 ≤ _), (by decide : 1 + 0 ≤ _)⟩)
    dsimp only [Pt.U, Pt.locs, Pt.cells, Pt.slots] at X9 l9 y9 z9 st9 hQ9
    subst l9 y9 z9
    obtain ⟨rfl, N9q, e9⟩ := hQ9
    have N9 := Fr.app N5 N9q
    replace k : Goes p e below s₁ G0 T9 (mkF m 202 #[.val (.int p1), .val (.long q2), .second, .val (.int (p1 &&& (7 : Int32))), .val (.ref w_INT), .val (.ref bv5), .val (.ref w_INT)] [(.ref w_INT)]) := fun t q => k t (st9.trans q)
    replace k := Fw.aload k X9 hx (hb hby at_202) rfl rfl (pc' := 204) rfl
    replace k := Fw.acmp k X9 hx (hb hby at_204) rfl rfl true (decide_eq_true rfl) (by decide) (pc' := 207) (by decide)
    replace k := Fw.iconst k X9 hx (hb hby at_207) (z := (1 : Int32)) (by decide) (pc' := 208) rfl
    replace k := Fw.goto k X9 hx (hb hby at_208) (by decide) (pc' := 212) rfl
    obtain ⟨fs, hr, hrun, hended, hW, hsame⟩ := X9.leave (v := some (.int 1)) (fun h => by rw [Bd.returns] at h; cases h)
    refine ⟨_, _, pre0 _ (k _ ?_), hrun, hended, _, _, rfl, ?_, ⟨_, rfl⟩, hW, hsame.mono (by decide) (by decide)⟩
    · exact retN X9 hx (t := .boolean) Bd.returns (by simp) (hb hby at_212) hr
    · show Q_law Z p1 q2 w_INT w_NIL w_I8 w_BOOLEAN w_STRING w_DATE_TIME w_DOUBLE w_BASE64 h0 n0 _ T9.heap _
      rw [e9]
      exact ⟨rfl, N9, trivial⟩
  · replace k := Fw.ifYes k X0 hx (hb hby at_6) ((if0 _ _).trans (feq hc6_1).2) (by decide) (pc' := 17) rfl
    replace k := Fw.iloadN k X0 hx (hb hby at_17) rfl (pc' := 18) rfl
    replace k := Fw.iconst k X0 hx (hb hby at_18) (z := (1 : Int32)) (by decide) (pc' := 19) rfl
    by_cases hc19_10 : (p1 &&& (7 : Int32)) = (1 : Int32)
    · replace k := Fw.icmpNo k X0 hx (hb hby at_19) (teq hc19_10).2 (pc' := 22) rfl
      obtain ⟨T11, X11, e11, st11⟩ := getS2 X0 hx hZ hown (host := "") (Or.inl (hw _ (List.mem_of_getElem? (i := 12) rfl))) Via.refl e0 (S_I8.ext O0.2) (g := (mkF m 22 #[.val (.int p1), .val (.long q2), .second, .val (.int (p1 &&& (7 : Int32))), .unset, .unset, .unset] [])) rfl (hb hby at_22)
      replace k : Goes p e below s₁ G0 T11 (mkF m 25 #[.val (.int p1), .val (.long q2), .second, .val (.int (p1 &&& (7 : Int32))), .unset, .unset, .unset] [(.ref w_I8)]) := fun t q => k t (st11 _ q)
      replace k := Fw.astore k X11 hx (hb hby at_25)  rfl (Ls' := #[.val (.int p1), .val (.long q2), .second, .val (.int (p1 &&& (7 : Int32))), .val (.ref w_I8), .unset, .unset]) rfl (pc' := 27) rfl
      replace k := Fw.goto k X11 hx (hb hby at_27) (by decide) (pc' := 101) rfl
      replace k := Fw.aload k X11 hx (hb hby at_101) rfl rfl (pc' := 103) rfl
      obtain ⟨T12, X12, e12, st12⟩ := getS2 X11 hx hZ hown (host := "") (Or.inl (hw _ (List.mem_of_getElem? (i := 3) rfl))) Via.refl e11 (S_NIL.ext O0.2) (g := (mkF m 103 #[.val (.int p1), .val (.long q2), .second, .val (.int (p1 &&& (7 : Int32))), .val (.ref w_I8), .unset, .unset] [(.ref w_I8)])) rfl (hb hby at_103)
      replace k : Goes p e below s₁ G0 T12 (mkF m 106 #[.val (.int p1), .val (.long q2), .second, .val (.int (p1 &&& (7 : Int32))), .val (.ref w_I8), .unset, .unset] [(.ref w_NIL), (.ref w_I8)]) := fun t q => k t (st12 _ q)
      replace k := Fw.acmp k X12 hx (hb hby at_106) rfl rfl false (decide_eq_false fun q => (show ¬ (w_I8 = w_NIL) from ne_exa E_I8 E_NIL (by decide)) (Value.ref.inj q)) (by decide) (pc' := 115) (by decide)
      replace k := Fw.aload k X12 hx (hb hby at_115) rfl rfl (pc' := 117) rfl
      obtain ⟨T13, X13, e13, st13⟩ := getS2 X12 hx hZ hown (host := "") (Or.inl (hw _ (List.mem_of_getElem? (i := 0) rfl))) Via.refl e12 (S_INT.ext O0.2) (g := (mkF m 117 #[.val (.int p1), .val (.long q2), .second, .val (.int (p1 &&& (7 : Int32))), .val (.ref w_I8), .unset, .unset] [(.ref w_I8)])) rfl (hb hby at_117)
      replace k : Goes p e below s₁ G0 T13 (mkF m 120 #[.val (.int p1), .val (.long q2), .second, .val (.int (p1 &&& (7 : Int32))), .val (.ref w_I8), .unset, .unset] [(.ref w_INT), (.ref w_I8)]) := fun t q => k t (st13 _ q)
      replace k := Fw.acmp k X13 hx (hb hby at_120) rfl rfl false (decide_eq_false fun q => (show ¬ (w_I8 = w_INT) from ne_exa E_I8 E_INT (by decide)) (Value.ref.inj q)) (by decide) (pc' := 133) (by decide)
      replace k := Fw.lloadN k X13 hx (hb hby at_133) rfl (pc' := 134) rfl
      obtain ⟨_, _, ⟨T14, L14, k14, n14⟩, -, X14, ⟨Lc14, hQ14, l14, y14, z14⟩, st14⟩ := Jvm.LawKit.callS X13 hx (y := (⟨"java/lang/Long", "valueOf", "(J)Ljava/lang/Long;"⟩ : MethodName)) hown (mvT hZ (hw _ (List.mem_of_getElem? (i := 24) rfl))) (mvT hZ (hw _ (List.mem_of_getElem? (i := 25) rfl))) (mvT hZ (hw _ (List.mem_of_getElem? (i := 26) rfl))) (mvT hZ (hw _ (List.mem_of_getElem? (i := 27) rfl))) (by decide) (backOf (W := 0) (rm_vo l Z a0 hw [] q2 h0 n0 O0 HL) hZ (hw _ (List.mem_of_getElem? (i := 27) rfl)) (hw _ (List.mem_of_getElem? (i := 26) rfl)) (by decide) (by decide)) (g := (mkF m 134 #[.val (.int p1), .val (.long q2), .second, .val (.int (p1 &&& (7 : Int32))), .val (.ref w_I8), .unset, .unset] [(.long q2)])) rfl (by rw [hml]; rfl) (argsL := [(.long q2)]) (rest := []) (lenOf pd_J_r_Ljava_lang_Long rfl) rfl (by show 2 * 0 + _ ≤ _; exact Nat.le_of_eq rfl) (hb hby at_134) (fun _ _ => ⟨rfl, e13, (by decide : 0 + 1 ≤ _), (by decide : 0 + 1 ≤ _)⟩)
      dsimp only [Pt.U, Pt.locs, Pt.cells, Pt.slots] at X14 l14 y14 z14 st14 hQ14
      subst l14 y14 z14
      obtain ⟨bv14, rfl, N14q, E14, qa14, qb14⟩ := hQ14
      have N14 := Fr.app N0 N14q
      replace k : Goes p e below s₁ G0 T14 (mkF m 137 #[.val (.int p1), .val (.long q2), .second, .val (.int (p1 &&& (7 : Int32))), .val (.ref w_I8), .unset, .unset] [(.ref bv14)]) := fun t q => k t (st14 _ q)
      replace k := Fw.astore k X14 hx (hb hby at_137)  rfl (Ls' := #[.val (.int p1), .val (.long q2), .second, .val (.int (p1 &&& (7 : Int32))), .val (.ref w_I8), .val (.ref bv14), .unset]) rfl (pc' := 139) rfl
      replace k := Fw.aload k X14 hx (hb hby at_139) rfl rfl (pc' := 141) rfl
      have fc15 := (O0.ext E14)
      obtain ⟨T16, X16, e16, st16⟩ := getS2 X14 hx hZ hown (host := "") (Or.inl (hw _ (List.mem_of_getElem? (i := 3) rfl))) Via.refl rfl (S_NIL.ext fc15.2) (g := (mkF m 141 #[.val (.int p1), .val (.long q2), .second, .val (.int (p1 &&& (7 : Int32))), .val (.ref w_I8), .val (.ref bv14), .unset] [(.ref w_I8)])) rfl (hb hby at_141)
      replace k : Goes p e below s₁ G0 T16 (mkF m 144 #[.val (.int p1), .val (.long q2), .second, .val (.int (p1 &&& (7 : Int32))), .val (.ref w_I8), .val (.ref bv14), .unset] [(.ref w_NIL), (.ref w_I8)]) := fun t q => k t (st16 _ q)
      replace k := Fw.acmp k X16 hx (hb hby at_144) rfl rfl false (decide_eq_false fun q => (show ¬ (w_I8 = w_NIL) from ne_exa E_I8 E_NIL (by decide)) (Value.ref.inj q)) (by decide) (pc' := 153) (by decide)
      replace k := Fw.aload k X16 hx (hb hby at_153) rfl rfl (pc' := 155) rfl
      obtain ⟨T17, X17, e17, st17⟩ := getS2 X16 hx hZ hown (host := "") (Or.inl (hw _ (List.mem_of_getElem? (i := 12) rfl))) Via.refl e16 (S_I8.ext fc15.2) (g := (mkF m 155 #[.val (.int p1), .val (.long q2), .second, .val (.int (p1 &&& (7 : Int32))), .val (.ref w_I8), .val (.ref bv14), .unset] [(.ref w_I8)])) rfl (hb hby at_155)
      replace k : Goes p e below s₁ G0 T17 (mkF m 158 #[.val (.int p1), .val (.long q2), .second, .val (.int (p1 &&& (7 : Int32))), .val (.ref w_I8), .val (.ref bv14), .unset] [(.ref w_I8), (.ref w_I8)]) := fun t q => k t (st17 _ q)
      replace k := Fw.acmp k X17 hx (hb hby at_158) rfl rfl true (decide_eq_true rfl) (by decide) (pc' := 161) (by decide)
      replace k := Fw.lloadN k X17 hx (hb hby at_161) rfl (pc' := 162) rfl
      replace k : Goes p e below s₁ G0 T17 (mkF m 165 #[.val (.int p1), .val (.long q2), .second, .val (.int (p1 &&& (7 : Int32))), .val (.ref w_I8), .val (.ref bv14), .unset] [(.long (-2147483648)), (.long q2)]) := fun t q => k t (X17.ldc2Long hx hown (mvT hZ (hw _ (List.mem_of_getElem? (i := 46) rfl))) (g := (mkF m 162 #[.val (.int p1), .val (.long q2), .second, .val (.int (p1 &&& (7 : Int32))), .val (.ref w_I8), .val (.ref bv14), .unset] [(.long q2)])) rfl (hb hby at_162) _ q)
      replace k := Fw.lcmp k X17 hx (hb hby at_165) (pc' := 166) rfl
      by_cases hc166_18 : q2 < (-2147483648 : Int64)
      · replace k := Fw.ifYes k X17 hx (hb hby at_166) ((if0 _ _).trans (tlt ((lw_lt _ _).mpr hc166_18)).1) (by decide) (pc' := 185) rfl
        replace k := Fw.aconstNull k X17 hx (hb hby at_185) (pc' := 186) rfl
        replace k := Fw.astore k X17 hx (hb hby at_186)  rfl (Ls' := #[.val (.int p1), .val (.long q2), .second, .val (.int (p1 &&& (7 : Int32))), .val (.ref w_I8), .val (.ref bv14), .val .null]) rfl (pc' := 188) rfl
        replace k := Fw.goto k X17 hx (hb hby at_188) (by decide) (pc' := 195) rfl
        replace k := Fw.aload k X17 hx (hb hby at_195) rfl rfl (pc' := 197) rfl
        replace k := Fw.aload k X17 hx (hb hby at_197) rfl rfl (pc' := 199) rfl
        obtain ⟨cq19, kq19, q19a, q19b, q19c⟩ := isOf hZ e17 (E_I8.ext fc15.2)
        obtain ⟨_, _, ⟨T19, L19, k19, n19⟩, -, X19, ⟨Lc19, hQ19, l19, y19, z19⟩, st19⟩ := X17.virtualBack hx (y := (⟨"com/example/wirecall/wirecall/xml/ScalarType", "withoutExtensions", "(Ljava/lang/Object;)Lcom/example/wirecall/wirecall/xml/ScalarType;"⟩ : MethodName)) (z := (⟨"com/example/wirecall/wirecall/xml/ScalarType$2", "withoutExtensions", "(Ljava/lang/Object;)Lcom/example/wirecall/wirecall/xml/ScalarType;"⟩ : MethodName)) hown (mvT hZ (hw _ (List.mem_of_getElem? (i := 14) rfl))) (mvT hZ (hw _ (List.mem_of_getElem? (i := 15) rfl))) (notFace_of_selects (args := #[]) (mvT hZ (hw _ (List.mem_of_getElem? (i := 17) rfl)))) (mvT hZ (hw _ (List.mem_of_getElem? (i := 47) rfl))) (mvT hZ (hw _ (List.mem_of_getElem? (i := 48) rfl))) (by decide) (backOf (W := 0) (rm_w20 l Z a0 hw [] w_I8 bv14 q2 w_INT T14.heap n0 fc15 qa14 qb14 S_INT (own_lo hc166_18)) hZ (hw _ (List.mem_of_getElem? (i := 50) rfl)) (hw _ (List.mem_of_getElem? (i := 49) rfl)) (by decide) (by decide)) q19a q19c (g := (mkF m 199 #[.val (.int p1), .val (.long q2), .second, .val (.int (p1 &&& (7 : Int32))), .val (.ref w_I8), .val (.ref bv14), .val .null] [(.ref bv14), (.ref w_I8)])) rfl (by rw [hml]; rfl) (Steps.refl _) (argsL := [(.ref bv14)]) (rest := []) (lenOf pd_Ljava_lang_Object_r_Lcom_example_wirecall_wirecall_xml_ScalarType rfl) rfl (by show 2 * 0 + _ ≤ _; exact Nat.le_of_eq rfl) (hb hby at_199) (fun _ _ => ⟨rfl, e17, (by decide : 1 + 0 ≤ _), (by decide : 1 + 0 ≤ _)⟩)
        dsimp only [Pt.U, Pt.locs, Pt.cells, Pt.slots] at X19 l19 y19 z19 st19 hQ19
        subst l19 y19 z19
        obtain ⟨rfl, N19q, e19⟩ := hQ19
        have N19 := Fr.app N14 N19q
        replace k : Goes p e below s₁ G0 T19 (mkF m 202 #[.val (.int p1), .val (.long q2), .second, .val (.int (p1 &&& (7 : Int32))), .val (.ref w_I8), .val (.ref bv14), .val .null] [.null]) := fun t q => k t (st19.trans q)
        replace k := Fw.aload k X19 hx (hb hby at_202) rfl rfl (pc' := 204) rfl
        replace k := Fw.acmp k X19 hx (hb hby at_204) rfl rfl true (decide_eq_true rfl) (by decide) (pc' := 207) (by decide)
        replace k := Fw.iconst k X19 hx (hb hby at_207) (z := (1 : Int32)) (by decide) (pc' := 208) rfl
        replace k := Fw.goto k X19 hx (hb hby at_208) (by decide) (pc' := 212) rfl
        obtain ⟨fs, hr, hrun, hended, hW, hsame⟩ := X19.leave (v := some (.int 1)) (fun h => by rw [Bd.returns] at h; cases h)
        refine ⟨_, _, pre0 _ (k _ ?_), hrun, hended, _, _, rfl, ?_, ⟨_, rfl⟩, hW, hsame.mono (by decide) (by decide)⟩
        · exact retN X19 hx (t := .boolean) Bd.returns (by simp) (hb hby at_212) hr
        · show Q_law Z p1 q2 w_INT w_NIL w_I8 w_BOOLEAN w_STRING w_DATE_TIME w_DOUBLE w_BASE64 h0 n0 _ T19.heap _
          rw [e19]
          exact ⟨rfl, N19, trivial⟩
      · replace k := Fw.ifNo k X17 hx (hb hby at_166) ((if0 _ _).trans (flt (fun q => hc166_18 ((lw_lt _ _).mp q))).1) (pc' := 169) rfl
        replace k := Fw.lloadN k X17 hx (hb hby at_169) rfl (pc' := 170) rfl
        replace k : Goes p e below s₁ G0 T17 (mkF m 173 #[.val (.int p1), .val (.long q2), .second, .val (.int (p1 &&& (7 : Int32))), .val (.ref w_I8), .val (.ref bv14), .unset] [(.long 2147483647), (.long q2)]) := fun t q => k t (X17.ldc2Long hx hown (mvT hZ (hw _ (List.mem_of_getElem? (i := 83) rfl))) (g := (mkF m 170 #[.val (.int p1), .val (.long q2), .second, .val (.int (p1 &&& (7 : Int32))), .val (.ref w_I8), .val (.ref bv14), .unset] [(.long q2)])) rfl (hb hby at_170) _ q)
        replace k := Fw.lcmp k X17 hx (hb hby at_173) (pc' := 174) rfl
        by_cases hc174_20 : (2147483647 : Int64) < q2
        · replace k := Fw.ifYes k X17 hx (hb hby at_174) ((if0 _ _).trans (tlt ((lw_gt _ _).mpr hc174_20)).2.2.1) (by decide) (pc' := 185) rfl
          replace k := Fw.aconstNull k X17 hx (hb hby at_185) (pc' := 186) rfl
          replace k := Fw.astore k X17 hx (hb hby at_186)  rfl (Ls' := #[.val (.int p1), .val (.long q2), .second, .val (.int (p1 &&& (7 : Int32))), .val (.ref w_I8), .val (.ref bv14), .val .null]) rfl (pc' := 188) rfl
          replace k := Fw.goto k X17 hx (hb hby at_188) (by decide) (pc' := 195) rfl
          replace k := Fw.aload k X17 hx (hb hby at_195) rfl rfl (pc' := 197) rfl
          replace k := Fw.aload k X17 hx (hb hby at_197) rfl rfl (pc' := 199) rfl
          obtain ⟨cq21, kq21, q21a, q21b, q21c⟩ := isOf hZ e17 (E_I8.ext fc15.2)
          obtain ⟨_, _, ⟨T21, L21, k21, n21⟩, -, X21, ⟨Lc21, hQ21, l21, y21, z21⟩, st21⟩ := X17.virtualBack hx (y := (⟨"com/example/wirecall/wirecall/xml/ScalarType", "withoutExtensions", "(Ljava/lang/Object;)Lcom/example/wirecall/wirecall/xml/ScalarType;"⟩ : MethodName)) (z := (⟨"com/example/wirecall/wirecall/xml/ScalarType$2", "withoutExtensions", "(Ljava/lang/Object;)Lcom/example/wirecall/wirecall/xml/ScalarType;"⟩ : MethodName)) hown (mvT hZ (hw _ (List.mem_of_getElem? (i := 14) rfl))) (mvT hZ (hw _ (List.mem_of_getElem? (i := 15) rfl))) (notFace_of_selects (args := #[]) (mvT hZ (hw _ (List.mem_of_getElem? (i := 17) rfl)))) (mvT hZ (hw _ (List.mem_of_getElem? (i := 47) rfl))) (mvT hZ (hw _ (List.mem_of_getElem? (i := 48) rfl))) (by decide) (backOf (W := 0) (rm_w20 l Z a0 hw [] w_I8 bv14 q2 w_INT T14.heap n0 fc15 qa14 qb14 S_INT (own_hi hc174_20)) hZ (hw _ (List.mem_of_getElem? (i := 50) rfl)) (hw _ (List.mem_of_getElem? (i := 49) rfl)) (by decide) (by decide)) q21a q21c (g := (mkF m 199 #[.val (.int p1), .val (.long q2), .second, .val (.int (p1 &&& (7 : Int32))), .val (.ref w_I8), .val (.ref bv14), .val .null] [(.ref bv14), (.ref w_I8)])) rfl (by rw [hml]; rfl) (Steps.refl _) (argsL := [(.ref bv14)]) (rest := []) (lenOf pd_Ljava_lang_Object_r_Lcom_example_wirecall_wirecall_xml_ScalarType rfl) rfl (by show 2 * 0 + _ ≤ _; exact Nat.le_of_eq rfl) (hb hby at_199) (fun _ _ => ⟨rfl, e17, (by decide : 1 + 0 ≤ _), (by decide : 1 + 0 ≤ _)⟩)
          dsimp only [Pt.U, Pt.locs, Pt.cells, Pt.slots] at X21 l21 y21 z21 st21 hQ21
          subst l21 y21 z21
          obtain ⟨rfl, N21q, e21⟩ := hQ21
          have N21 := Fr.app N14 N21q
          replace k : Goes p e below s₁ G0 T21 (mkF m 202 #[.val (.int p1), .val (.long q2), .second, .val (.int (p1 &&& (7 : Int32))), .val (.ref w_I8), .val (.ref bv14), .val .null] [.null]) := fun t q => k t (st21.trans q)
          replace k := Fw.aload k X21 hx (hb hby at_202) rfl rfl (pc' := 204) rfl
          replace k := Fw.acmp k X21 hx (hb hby at_204) rfl rfl true (decide_eq_true rfl) (by decide) (pc' := 207) (by decide)
          replace k := Fw.iconst k X21 hx (hb hby at_207) (z := (1 : Int32)) (by decide) (pc' := 208) rfl
          replace k := Fw.goto k X21 hx (hb hby at_208) (by decide) (pc' := 212) rfl
          obtain ⟨fs, hr, hrun, hended, hW, hsame⟩ := X21.leave (v := some (.int 1)) (fun h => by rw [Bd.returns] at h; cases h)
          refine ⟨_, _, pre0 _ (k _ ?_), hrun, hended, _, _, rfl, ?_, ⟨_, rfl⟩, hW, hsame.mono (by decide) (by decide)⟩
          · exact retN X21 hx (t := .boolean) Bd.returns (by simp) (hb hby at_212) hr
          · show Q_law Z p1 q2 w_INT w_NIL w_I8 w_BOOLEAN w_STRING w_DATE_TIME w_DOUBLE w_BASE64 h0 n0 _ T21.heap _
            rw [e21]
            exact ⟨rfl, N21, trivial⟩
        · replace k := Fw.ifNo k X17 hx (hb hby at_174) ((if0 _ _).trans (flt (fun q => hc174_20 ((lw_gt _ _).mp q))).2.2.1) (pc' := 177) rfl
          obtain ⟨T22, X22, e22, st22⟩ := getS2 X17 hx hZ hown (host := "") (Or.inl (hw _ (List.mem_of_getElem? (i := 0) rfl))) Via.refl e17 (S_INT.ext fc15.2) (g := (mkF m 177 #[.val (.int p1), .val (.long q2), .second, .val (.int (p1 &&& (7 : Int32))), .val (.ref w_I8), .val (.ref bv14), .unset] [])) rfl (hb hby at_177)
          replace k : Goes p e below s₁ G0 T22 (mkF m 180 #[.val (.int p1), .val (.long q2), .second, .val (.int (p1 &&& (7 : Int32))), .val (.ref w_I8), .val (.ref bv14), .unset] [(.ref w_INT)]) := fun t q => k t (st22 _ q)
          replace k := Fw.astore k X22 hx (hb hby at_180)  rfl (Ls' := #[.val (.int p1), .val (.long q2), .second, .val (.int (p1 &&& (7 : Int32))), .val (.ref w_I8), .val (.ref bv14), .val (.ref w_INT)]) rfl (pc' := 182) rfl
          replace k := Fw.goto k X22 hx (hb hby at_182) (by decide) (pc' := 195) rfl
          replace k := Fw.aload k X22 hx (hb hby at_195) rfl rfl (pc' := 197) rfl
          replace k := Fw.aload k X22 hx (hb hby at_197) rfl rfl (pc' := 199) rfl
          obtain ⟨cq23, kq23, q23a, q23b, q23c⟩ := isOf hZ e22 (E_I8.ext fc15.2)
          obtain ⟨_, _, ⟨T23, L23, k23, n23⟩, -, X23, ⟨Lc23, hQ23, l23, y23, z23⟩, st23⟩ := X22.virtualBack hx (y := (⟨"com/example/wirecall/wirecall/xml/ScalarType", "withoutExtensions", "(Ljava/lang/Object;)Lcom/example/wirecall/wirecall/xml/ScalarType;"⟩ : MethodName)) (z := (⟨"com/example/wirecall/wirecall/xml/ScalarType$2", "withoutExtensions", "(Ljava/lang/Object;)Lcom/example/wirecall/wirecall/xml/ScalarType;"⟩ : MethodName)) hown (mvT hZ (hw _ (List.mem_of_getElem? (i := 14) rfl))) (mvT hZ (hw _ (List.mem_of_getElem? (i := 15) rfl))) (notFace_of_selects (args := #[]) (mvT hZ (hw _ (List.mem_of_getElem? (i := 17) rfl)))) (mvT hZ (hw _ (List.mem_of_getElem? (i := 47) rfl))) (mvT hZ (hw _ (List.mem_of_getElem? (i := 48) rfl))) (by decide) (backOf (W := 0) (rm_w21 l Z a0 hw [] w_I8 bv14 q2 w_INT T14.heap n0 fc15 qa14 qb14 S_INT (own_in hc166_18 hc174_20)) hZ (hw _ (List.mem_of_getElem? (i := 50) rfl)) (hw _ (List.mem_of_getElem? (i := 49) rfl)) (by decide) (by decide)) q23a q23c (g := (mkF m 199 #[.val (.int p1), .val (.long q2), .second, .val (.int (p1 &&& (7 : Int32))), .val (.ref w_I8), .val (.ref bv14), .val (.ref w_INT)] [(.ref bv14), (.ref w_I8)])) rfl (by rw [hml]; rfl) (Steps.refl _) (argsL := [(.ref bv14)]) (rest := []) (lenOf pd_Ljava_lang_Object_r_Lcom_example_wirecall_wirecall_xml_ScalarType rfl) rfl (by show 2 * 0 + _ ≤ _; exact Nat.le_of_eq rfl) (hb hby at_199) (fun _ _ => ⟨rfl, e22, (by decide : 1 + 0 ≤ _), (by decide : 1 + 0 ≤ _)⟩)
          dsimp only [Pt.U, Pt.locs, Pt.cells, Pt.slots] at X23 l23 y23 z23 st23 hQ23
          subst l23 y23 z23
          obtain ⟨rfl, N23q, e23⟩ := hQ23
          have N23 := Fr.app N14 N23q
          replace k : Goes p e below s₁ G0 T23 (mkF m 202 #[.val (.int p1), .val (.long q2), .second, .val (.int (p1 &&& (7 : Int32))), .val (.ref w_I8), .val (.ref bv14), .val (.ref w_INT)] [(.ref w_INT)]) := fun t q => k t (st23.trans q)
          replace k := Fw.aload k X23 hx (hb hby at_202) rfl rfl (pc' := 204) rfl
          replace k := Fw.acmp k X23 hx (hb hby at_204) rfl rfl true (decide_eq_true rfl) (by decide) (pc' := 207) (by decide)
          replace k := Fw.iconst k X23 hx (hb hby at_207) (z := (1 : Int32)) (by decide) (pc' := 208) rfl
          replace k := Fw.goto k X23 hx (hb hby at_208) (by decide) (pc' := 212) rfl
          obtain ⟨fs, hr, hrun, hended, hW, hsame⟩ := X23.leave (v := some (.int 1)) (fun h => by rw [Bd.returns] at h; cases h)
          refine ⟨_, _, pre0 _ (k _ ?_), hrun, hended, _, _, rfl, ?_, ⟨_, rfl⟩, hW, hsame.mono (by decide) (by decide)⟩
          · exact retN X23 hx (t := .boolean) Bd.returns (by simp) (hb hby at_212) hr
          · show Q_law Z p1 q2 w_INT w_NIL w_I8 w_BOOLEAN w_STRING w_DATE_TIME w_DOUBLE w_BASE64 h0 n0 _ T23.heap _
            rw [e23]
            exact ⟨rfl, N23, trivial⟩
    · replace k := Fw.icmpYes k X0 hx (hb hby at_19) (feq hc19_10).2 (by decide) (pc' := 30) rfl
      replace k := Fw.iloadN k X0 hx (hb hby at_30) rfl (pc' := 31) rfl
      replace k := Fw.iconst k X0 hx (hb hby at_31) (z := (2 : Int32)) (by decide) (pc' := 32) rfl
      by_cases hc32_24 : (p1 &&& (7 : Int32)) = (2 : Int32)
      · replace k := Fw.icmpNo k X0 hx (hb hby at_32) (teq hc32_24).2 (pc' := 35) rfl
        obtain ⟨T25, X25, e25, st25⟩ := getS2 X0 hx hZ hown (host := "") (Or.inl (hw _ (List.mem_of_getElem? (i := 57) rfl))) Via.refl e0 (S_BOOLEAN.ext O0.2) (g := (mkF m 35 #[.val (.int p1), .val (.long q2), .second, .val (.int (p1 &&& (7 : Int32))), .unset, .unset, .unset] [])) rfl (hb hby at_35)
        replace k : Goes p e below s₁ G0 T25 (mkF m 38 #[.val (.int p1), .val (.long q2), .second, .val (.int (p1 &&& (7 : Int32))), .unset, .unset, .unset] [(.ref w_BOOLEAN)]) := fun t q => k t (st25 _ q)
        replace k := Fw.astore k X25 hx (hb hby at_38)  rfl (Ls' := #[.val (.int p1), .val (.long q2), .second, .val (.int (p1 &&& (7 : Int32))), .val (.ref w_BOOLEAN), .unset, .unset]) rfl (pc' := 40) rfl
        replace k := Fw.goto k X25 hx (hb hby at_40) (by decide) (pc' := 101) rfl
        replace k := Fw.aload k X25 hx (hb hby at_101) rfl rfl (pc' := 103) rfl
        obtain ⟨T26, X26, e26, st26⟩ := getS2 X25 hx hZ hown (host := "") (Or.inl (hw _ (List.mem_of_getElem? (i := 3) rfl))) Via.refl e25 (S_NIL.ext O0.2) (g := (mkF m 103 #[.val (.int p1), .val (.long q2), .second, .val (.int (p1 &&& (7 : Int32))), .val (.ref w_BOOLEAN), .unset, .unset] [(.ref w_BOOLEAN)])) rfl (hb hby at_103)
        replace k : Goes p e below s₁ G0 T26 (mkF m 106 #[.val (.int p1), .val (.long q2), .second, .val (.int (p1 &&& (7 : Int32))), .val (.ref w_BOOLEAN), .unset, .unset] [(.ref w_NIL), (.ref w_BOOLEAN)]) := fun t q => k t (st26 _ q)
        replace k := Fw.acmp k X26 hx (hb hby at_106) rfl rfl false (decide_eq_false fun q => (show ¬ (w_BOOLEAN = w_NIL) from ne_exa E_BOOLEAN E_NIL (by decide)) (Value.ref.inj q)) (by decide) (pc' := 115) (by decide)
        replace k := Fw.aload k X26 hx (hb hby at_115) rfl rfl (pc' := 117) rfl
        obtain ⟨T27, X27, e27, st27⟩ := getS2 X26 hx hZ hown (host := "") (Or.inl (hw _ (List.mem_of_getElem? (i := 0) rfl))) Via.refl e26 (S_INT.ext O0.2) (g := (mkF m 117 #[.val (.int p1), .val (.long q2), .second, .val (.int (p1 &&& (7 : Int32))), .val (.ref w_BOOLEAN), .unset, .unset] [(.ref w_BOOLEAN)])) rfl (hb hby at_117)
        replace k : Goes p e below s₁ G0 T27 (mkF m 120 #[.val (.int p1), .val (.long q2), .second, .val (.int (p1 &&& (7 : Int32))), .val (.ref w_BOOLEAN), .unset, .unset] [(.ref w_INT), (.ref w_BOOLEAN)]) := fun t q => k t (st27 _ q)
        replace k := Fw.acmp k X27 hx (hb hby at_120) rfl rfl false (decide_eq_false fun q => (show ¬ (w_BOOLEAN = w_INT) from ne_exa E_BOOLEAN E_INT (by decide)) (Value.ref.inj q)) (by decide) (pc' := 133) (by decide)
        replace k := Fw.lloadN k X27 hx (hb hby at_133) rfl (pc' := 134) rfl
        obtain ⟨_, _, ⟨T28, L28, k28, n28⟩, -, X28, ⟨Lc28, hQ28, l28, y28, z28⟩, st28⟩ := Jvm.LawKit.callS X27 hx (y := (⟨"java/lang/Long", "valueOf", "(J)Ljava/lang/Long;"⟩ : MethodName)) hown (mvT hZ (hw _ (List.mem_of_getElem? (i := 24) rfl))) (mvT hZ (hw _ (List.mem_of_getElem? (i := 25) rfl))) (mvT hZ (hw _ (List.mem_of_getElem? (i := 26) rfl))) (mvT hZ (hw _ (List.mem_of_getElem? (i := 27) rfl))) (by decide) (backOf (W := 0) (rm_vo l Z a0 hw [] q2 h0 n0 O0 HL) hZ (hw _ (List.mem_of_getElem? (i := 27) rfl)) (hw _ (List.mem_of_getElem? (i := 26) rfl)) (by decide) (by decide)) (g := (mkF m 134 #[.val (.int p1), .val (.long q2), .second, .val (.int (p1 &&& (7 : Int32))), .val (.ref w_BOOLEAN), .unset, .unset] [(.long q2)])) rfl (by rw [hml]; rfl) (argsL := [(.long q2)]) (rest := []) (lenOf pd_J_r_Ljava_lang_Long rfl) rfl (by show 2 * 0 + _ ≤ _; exact Nat.le_of_eq rfl) (hb hby at_134) (fun _ _ => ⟨rfl, e27, (by decide : 0 + 1 ≤ _), (by decide : 0 + 1 ≤ _)⟩)
        dsimp only [Pt.U, Pt.locs, Pt.cells, Pt.slots] at X28 l28 y28 z28 st28 hQ28
        subst l28 y28 z28
        obtain ⟨bv28, rfl, N28q, E28, qa28, qb28⟩ := hQ28
        have N28 := Fr.app N0 N28q
        replace k : Goes p e below s₁ G0 T28 (mkF m 137 #[.val (.int p1), .val (.long q2), .second, .val (.int (p1 &&& (7 : Int32))), .val (.ref w_BOOLEAN), .unset, .unset] [(.ref bv28)]) := fun t q => k t (st28 _ q)
        replace k := Fw.astore k X28 hx (hb hby at_137)  rfl (Ls' := #[.val (.int p1), .val (.long q2), .second, .val (.int (p1 &&& (7 : Int32))), .val (.ref w_BOOLEAN), .val (.ref bv28), .unset]) rfl (pc' := 139) rfl
        replace k := Fw.aload k X28 hx (hb hby at_139) rfl rfl (pc' := 141) rfl
        have fc29 := (O0.ext E28)
        obtain ⟨T30, X30, e30, st30⟩ := getS2 X28 hx hZ hown (host := "") (Or.inl (hw _ (List.mem_of_getElem? (i := 3) rfl))) Via.refl rfl (S_NIL.ext fc29.2) (g := (mkF m 141 #[.val (.int p1), .val (.long q2), .second, .val (.int (p1 &&& (7 : Int32))), .val (.ref w_BOOLEAN), .val (.ref bv28), .unset] [(.ref w_BOOLEAN)])) rfl (hb hby at_141)
        replace k : Goes p e below s₁ G0 T30 (mkF m 144 #[.val (.int p1), .val (.long q2), .second, .val (.int (p1 &&& (7 : Int32))), .val (.ref w_BOOLEAN), .val (.ref bv28), .unset] [(.ref w_NIL), (.ref w_BOOLEAN)]) := fun t q => k t (st30 _ q)
        replace k := Fw.acmp k X30 hx (hb hby at_144) rfl rfl false (decide_eq_false fun q => (show ¬ (w_BOOLEAN = w_NIL) from ne_exa E_BOOLEAN E_NIL (by decide)) (Value.ref.inj q)) (by decide) (pc' := 153) (by decide)
        replace k := Fw.aload k X30 hx (hb hby at_153) rfl rfl (pc' := 155) rfl
        obtain ⟨T31, X31, e31, st31⟩ := getS2 X30 hx hZ hown (host := "") (Or.inl (hw _ (List.mem_of_getElem? (i := 12) rfl))) Via.refl e30 (S_I8.ext fc29.2) (g := (mkF m 155 #[.val (.int p1), .val (.long q2), .second, .val (.int (p1 &&& (7 : Int32))), .val (.ref w_BOOLEAN), .val (.ref bv28), .unset] [(.ref w_BOOLEAN)])) rfl (hb hby at_155)
        replace k : Goes p e below s₁ G0 T31 (mkF m 158 #[.val (.int p1), .val (.long q2), .second, .val (.int (p1 &&& (7 : Int32))), .val (.ref w_BOOLEAN), .val (.ref bv28), .unset] [(.ref w_I8), (.ref w_BOOLEAN)]) := fun t q => k t (st31 _ q)
        replace k := Fw.acmp k X31 hx (hb hby at_158) rfl rfl false (decide_eq_false fun q => (show ¬ (w_BOOLEAN = w_I8) from ne_exa E_BOOLEAN E_I8 (by decide)) (Value.ref.inj q)) (by decide) (pc' := 191) (by decide)
        replace k := Fw.aload k X31 hx (hb hby at_191) rfl rfl (pc' := 193) rfl
        replace k := Fw.astore k X31 hx (hb hby at_193)  rfl (Ls' := #[.val (.int p1), .val (.long q2), .second, .val (.int (p1 &&& (7 : Int32))), .val (.ref w_BOOLEAN), .val (.ref bv28), .val (.ref w_BOOLEAN)]) rfl (pc' := 195) rfl
        replace k := Fw.aload k X31 hx (hb hby at_195) rfl rfl (pc' := 197) rfl
        replace k := Fw.aload k X31 hx (hb hby at_197) rfl rfl (pc' := 199) rfl
        obtain ⟨cq32, kq32, q32a, q32b, q32c⟩ := isOf hZ e31 (E_BOOLEAN.ext fc29.2)
        obtain ⟨_, _, ⟨T32, L32, k32, n32⟩, -, X32, ⟨Lc32, hQ32, l32, y32, z32⟩, st32⟩ := X31.virtualBack hx (y := (⟨"com/example/wirecall/wirecall/xml/ScalarType", "withoutExtensions", "(Ljava/lang/Object;)Lcom/example/wirecall/wirecall/xml/ScalarType;"⟩ : MethodName)) (z := (⟨"com/example/wirecall/wirecall/xml/ScalarType", "withoutExtensions", "(Ljava/lang/Object;)Lcom/example/wirecall/wirecall/xml/ScalarType;"⟩ : MethodName)) hown (mvT hZ (hw _ (List.mem_of_getElem? (i := 14) rfl))) (mvT hZ (hw _ (List.mem_of_getElem? (i := 15) rfl))) (notFace_of_selects (args := #[]) (mvT hZ (hw _ (List.mem_of_getElem? (i := 17) rfl)))) (mvT hZ (hw _ (List.mem_of_getElem? (i := 60) rfl))) (mvT hZ (hw _ (List.mem_of_getElem? (i := 16) rfl))) (by decide) (backOf (W := 0) (rm_we_BOOLEAN l Z a0 hw [] w_BOOLEAN bv28 T28.heap n0 fc29 (E_BOOLEAN.ext fc29.2)) hZ (hw _ (List.mem_of_getElem? (i := 18) rfl)) (hw _ (List.mem_of_getElem? (i := 1) rfl)) (by decide) (by decide)) q32a q32c (g := (mkF m 199 #[.val (.int p1), .val (.long q2), .second, .val (.int (p1 &&& (7 : Int32))), .val (.ref w_BOOLEAN), .val (.ref bv28), .val (.ref w_BOOLEAN)] [(.ref bv28), (.ref w_BOOLEAN)])) rfl (by rw [hml]; rfl) (Steps.refl _) (argsL := [(.ref bv28)]) (rest := []) (lenOf pd_Ljava_lang_Object_r_Lcom_example_wirecall_wirecall_xml_ScalarType rfl) rfl (by show 2 * 0 + _ ≤ _; exact Nat.le_of_eq rfl) (hb hby at_199) (fun _ _ => ⟨rfl, e31, (by decide : 1 + 0 ≤ _), (by decide : 1 + 0 ≤ _)⟩)
        dsimp only [Pt.U, Pt.locs, Pt.cells, Pt.slots] at X32 l32 y32 z32 st32 hQ32
        subst l32 y32 z32
        obtain ⟨rfl, N32q, e32⟩ := hQ32
        have N32 := Fr.app N28 N32q
        replace k : Goes p e below s₁ G0 T32 (mkF m 202 #[.val (.int p1), .val (.long q2), .second, .val (.int (p1 &&& (7 : Int32))), .val (.ref w_BOOLEAN), .val (.ref bv28), .val (.ref w_BOOLEAN)] [(.ref w_BOOLEAN)]) := fun t q => k t (st32.trans q)
        replace k := Fw.aload k X32 hx (hb hby at_202) rfl rfl (pc' := 204) rfl
        replace k := Fw.acmp k X32 hx (hb hby at_204) rfl rfl true (decide_eq_true rfl) (by decide) (pc' := 207) (by decide)
        replace k := Fw.iconst k X32 hx (hb hby at_207) (z := (1 : Int32)) (by decide) (pc' := 208) rfl
        replace k := Fw.goto k X32 hx (hb hby at_208) (by decide) (pc' := 212) rfl
        obtain ⟨fs, hr, hrun, hended, hW, hsame⟩ := X32.leave (v := some (.int 1)) (fun h => by rw [Bd.returns] at h; cases h)
        refine ⟨_, _, pre0 _ (k _ ?_), hrun, hended, _, _, rfl, ?_, ⟨_, rfl⟩, hW, hsame.mono (by decide) (by decide)⟩
        · exact retN X32 hx (t := .boolean) Bd.returns (by simp) (hb hby at_212) hr
        · show Q_law Z p1 q2 w_INT w_NIL w_I8 w_BOOLEAN w_STRING w_DATE_TIME w_DOUBLE w_BASE64 h0 n0 _ T32.heap _
          rw [e32]
          exact ⟨rfl, N32, trivial⟩
      · replace k := Fw.icmpYes k X0 hx (hb hby at_32) (feq hc32_24).2 (by decide) (pc' := 43) rfl
        replace k := Fw.iloadN k X0 hx (hb hby at_43) rfl (pc' := 44) rfl
        replace k := Fw.iconst k X0 hx (hb hby at_44) (z := (3 : Int32)) (by decide) (pc' := 45) rfl
        by_cases hc45_33 : (p1 &&& (7 : Int32)) = (3 : Int32)
        · replace k := Fw.icmpNo k X0 hx (hb hby at_45) (teq hc45_33).2 (pc' := 48) rfl
          obtain ⟨T34, X34, e34, st34⟩ := getS2 X0 hx hZ hown (host := "") (Or.inl (hw _ (List.mem_of_getElem? (i := 77) rfl))) Via.refl e0 (S_STRING.ext O0.2) (g := (mkF m 48 #[.val (.int p1), .val (.long q2), .second, .val (.int (p1 &&& (7 : Int32))), .unset, .unset, .unset] [])) rfl (hb hby at_48)
          replace k : Goes p e below s₁ G0 T34 (mkF m 51 #[.val (.int p1), .val (.long q2), .second, .val (.int (p1 &&& (7 : Int32))), .unset, .unset, .unset] [(.ref w_STRING)]) := fun t q => k t (st34 _ q)
          replace k := Fw.astore k X34 hx (hb hby at_51)  rfl (Ls' := #[.val (.int p1), .val (.long q2), .second, .val (.int (p1 &&& (7 : Int32))), .val (.ref w_STRING), .unset, .unset]) rfl (pc' := 53) rfl
          replace k := Fw.goto k X34 hx (hb hby at_53) (by decide) (pc' := 101) rfl
          replace k := Fw.aload k X34 hx (hb hby at_101) rfl rfl (pc' := 103) rfl
          obtain ⟨T35, X35, e35, st35⟩ := getS2 X34 hx hZ hown (host := "") (Or.inl (hw _ (List.mem_of_getElem? (i := 3) rfl))) Via.refl e34 (S_NIL.ext O0.2) (g := (mkF m 103 #[.val (.int p1), .val (.long q2), .second, .val (.int (p1 &&& (7 : Int32))), .val (.ref w_STRING), .unset, .unset] [(.ref w_STRING)])) rfl (hb hby at_103)
          replace k : Goes p e below s₁ G0 T35 (mkF m 106 #[.val (.int p1), .val (.long q2), .second, .val (.int (p1 &&& (7 : Int32))), .val (.ref w_STRING), .unset, .unset] [(.ref w_NIL), (.ref w_STRING)]) := fun t q => k t (st35 _ q)
          replace k := Fw.acmp k X35 hx (hb hby at_106) rfl rfl false (decide_eq_false fun q => (show ¬ (w_STRING = w_NIL) from ne_exa E_STRING E_NIL (by decide)) (Value.ref.inj q)) (by decide) (pc' := 115) (by decide)
          replace k := Fw.aload k X35 hx (hb hby at_115) rfl rfl (pc' := 117) rfl
          obtain ⟨T36, X36, e36, st36⟩ := getS2 X35 hx hZ hown (host := "") (Or.inl (hw _ (List.mem_of_getElem? (i := 0) rfl))) Via.refl e35 (S_INT.ext O0.2) (g := (mkF m 117 #[.val (.int p1), .val (.long q2), .second, .val (.int (p1 &&& (7 : Int32))), .val (.ref w_STRING), .unset, .unset] [(.ref w_STRING)])) rfl (hb hby at_117)
          replace k : Goes p e below s₁ G0 T36 (mkF m 120 #[.val (.int p1), .val (.long q2), .second, .val (.int (p1 &&& (7 : Int32))), .val (.ref w_STRING), .unset, .unset] [(.ref w_INT), (.ref w_STRING)]) := fun t q => k t (st36 _ q)
          replace k := Fw.acmp k X36 hx (hb hby at_120) rfl rfl false (decide_eq_false fun q => (show ¬ (w_STRING = w_INT) from ne_exa E_STRING E_INT (by decide)) (Value.ref.inj q)) (by decide) (pc' := 133) (by decide)
          replace k := Fw.lloadN k X36 hx (hb hby at_133) rfl (pc' := 134) rfl
          obtain ⟨_, _, ⟨T37, L37, k37, n37⟩, -, X37, ⟨Lc37, hQ37, l37, y37, z37⟩, st37⟩ := Jvm.LawKit.callS X36 hx (y := (⟨"java/lang/Long", "valueOf", "(J)Ljava/lang/Long;"⟩ : MethodName)) hown (mvT hZ (hw _ (List.mem_of_getElem? (i := 24) rfl))) (mvT hZ (hw _ (List.mem_of_getElem? (i := 25) rfl))) (mvT hZ (hw _ (List.mem_of_getElem? (i := 26) rfl))) (mvT hZ (hw _ (List.mem_of_getElem? (i := 27) rfl))) (by decide) (backOf (W := 0) (rm_vo l Z a0 hw [] q2 h0 n0 O0 HL) hZ (hw _ (List.mem_of_getElem? (i := 27) rfl)) (hw _ (List.mem_of_getElem? (i := 26) rfl)) (by decide) (by decide)) (g := (mkF m 134 #[.val (.int p1), .val (.long q2), .second, .val (.int (p1 &&& (7 : Int32))), .val (.ref w_STRING), .unset, .unset] [(.long q2)])) rfl (by rw [hml]; rfl) (argsL := [(.long q2)]) (rest := []) (lenOf pd_J_r_Ljava_lang_Long rfl) rfl (by show 2 * 0 + _ ≤ _; exact Nat.le_of_eq rfl) (hb hby at_134) (fun _ _ => ⟨rfl, e36, (by decide : 0 + 1 ≤ _), (by decide : 0 + 1 ≤ _)⟩)
          dsimp only [Pt.U, Pt.locs, Pt.cells, Pt.slots] at X37 l37 y37 z37 st37 hQ37
          subst l37 y37 z37
          obtain ⟨bv37, rfl, N37q, E37, qa37, qb37⟩ := hQ37
          have N37 := Fr.app N0 N37q
          replace k : Goes p e below s₁ G0 T37 (mkF m 137 #[.val (.int p1), .val (.long q2), .second, .val (.int (p1 &&& (7 : Int32))), .val (.ref w_STRING), .unset, .unset] [(.ref bv37)]) := fun t q => k t (st37 _ q)
          replace k := Fw.astore k X37 hx (hb hby at_137)  rfl (Ls' := #[.val (.int p1), .val (.long q2), .second, .val (.int (p1 &&& (7 : Int32))), .val (.ref w_STRING), .val (.ref bv37), .unset]) rfl (pc' := 139) rfl
          replace k := Fw.aload k X37 hx (hb hby at_139) rfl rfl (pc' := 141) rfl
          have fc38 := (O0.ext E37)
          obtain ⟨T39, X39, e39, st39⟩ := getS2 X37 hx hZ hown (host := "") (Or.inl (hw _ (List.mem_of_getElem? (i := 3) rfl))) Via.refl rfl (S_NIL.ext fc38.2) (g := (mkF m 141 #[.val (.int p1), .val (.long q2), .second, .val (.int (p1 &&& (7 : Int32))), .val (.ref w_STRING), .val (.ref bv37), .unset] [(.ref w_STRING)])) rfl (hb hby at_141)
          replace k : Goes p e below s₁ G0 T39 (mkF m 144 #[.val (.int p1), .val (.long q2), .second, .val (.int (p1 &&& (7 : Int32))), .val (.ref w_STRING), .val (.ref bv37), .unset] [(.ref w_NIL), (.ref w_STRING)]) := fun t q => k t (st39 _ q)
          replace k := Fw.acmp k X39 hx (hb hby at_144) rfl rfl false (decide_eq_false fun q => (show ¬ (w_STRING = w_NIL) from ne_exa E_STRING E_NIL (by decide)) (Value.ref.inj q)) (by decide) (pc' := 153) (by decide)
          replace k := Fw.aload k X39 hx (hb hby at_153) rfl rfl (pc' := 155) rfl
          obtain ⟨T40, X40, e40, st40⟩ := getS2 X39 hx hZ hown (host := "") (Or.inl (hw _ (List.mem_of_getElem? (i := 12) rfl))) Via.refl e39 (S_I8.ext fc38.2) (g := (mkF m 155 #[.val (.int p1), .val (.long q2), .second, .val (.int (p1 &&& (7 : Int32))), .val (.ref w_STRING), .val (.ref bv37), .unset] [(.ref w_STRING)])) rfl (hb hby at_155)
          replace k : Goes p e below s₁ G0 T40 (mkF m 158 #[.val (.int p1), .val (.long q2), .second, .val (.int (p1 &&& (7 : Int32))), .val (.ref w_STRING), .val (.ref bv37), .unset] [(.ref w_I8), (.ref w_STRING)]) := fun t q => k t (st40 _ q)
          replace k := Fw.acmp k X40 hx (hb hby at_158) rfl rfl false (decide_eq_false fun q => (show ¬ (w_STRING = w_I8) from ne_exa E_STRING E_I8 (by decide)) (Value.ref.inj q)) (by decide) (pc' := 191) (by decide)
          replace k := Fw.aload k X40 hx (hb hby at_191) rfl rfl (pc' := 193) rfl
          replace k := Fw.astore k X40 hx (hb hby at_193)  rfl (Ls' := #[.val (.int p1), .val (.long q2), .second, .val (.int (p1 &&& (7 : Int32))), .val (.ref w_STRING), .val (.ref bv37), .val (.ref w_STRING)]) rfl (pc' := 195) rfl
          replace k := Fw.aload k X40 hx (hb hby at_195) rfl rfl (pc' := 197) rfl
          replace k := Fw.aload k X40 hx (hb hby at_197) rfl rfl (pc' := 199) rfl
          obtain ⟨cq41, kq41, q41a, q41b, q41c⟩ := isOf hZ e40 (E_STRING.ext fc38.2)
          obtain ⟨_, _, ⟨T41, L41, k41, n41⟩, -, X41, ⟨Lc41, hQ41, l41, y41, z41⟩, st41⟩ := X40.virtualBack hx (y := (⟨"com/example/wirecall/wirecall/xml/ScalarType", "withoutExtensions", "(Ljava/lang/Object;)Lcom/example/wirecall/wirecall/xml/ScalarType;"⟩ : MethodName)) (z := (⟨"com/example/wirecall/wirecall/xml/ScalarType", "withoutExtensions", "(Ljava/lang/Object;)Lcom/example/wirecall/wirecall/xml/ScalarType;"⟩ : MethodName)) hown (mvT hZ (hw _ (List.mem_of_getElem? (i := 14) rfl))) (mvT hZ (hw _ (List.mem_of_getElem? (i := 15) rfl))) (notFace_of_selects (args := #[]) (mvT hZ (hw _ (List.mem_of_getElem? (i := 17) rfl)))) (mvT hZ (hw _ (List.mem_of_getElem? (i := 81) rfl))) (mvT hZ (hw _ (List.mem_of_getElem? (i := 16) rfl))) (by decide) (backOf (W := 0) (rm_we_STRING l Z a0 hw [] w_STRING bv37 T37.heap n0 fc38 (E_STRING.ext fc38.2)) hZ (hw _ (List.mem_of_getElem? (i := 18) rfl)) (hw _ (List.mem_of_getElem? (i := 1) rfl)) (by decide) (by decide)) q41a q41c (g := (mkF m 199 #[.val (.int p1), .val (.long q2), .second, .val (.int (p1 &&& (7 : Int32))), .val (.ref w_STRING), .val (.ref bv37), .val (.ref w_STRING)] [(.ref bv37), (.ref w_STRING)])) rfl (by rw [hml]; rfl) (Steps.refl _) (argsL := [(.ref bv37)]) (rest := []) (lenOf pd_Ljava_lang_Object_r_Lcom_example_wirecall_wirecall_xml_ScalarType rfl) rfl (by show 2 * 0 + _ ≤ _; exact Nat.le_of_eq rfl) (hb hby at_199) (fun _ _ => ⟨rfl, e40, (by decide : 1 + 0 ≤ _), (by decide : 1 + 0 ≤ _)⟩)
          dsimp only [Pt.U, Pt.locs, Pt.cells, Pt.slots] at X41 l41 y41 z41 st41 hQ41
          subst l41 y41 z41
          obtain ⟨rfl, N41q, e41⟩ := hQ41
          have N41 := Fr.app N37 N41q
          replace k : Goes p e below s₁ G0 T41 (mkF m 202 #[.val (.int p1), .val (.long q2), .second, .val (.int (p1 &&& (7 : Int32))), .val (.ref w_STRING), .val (.ref bv37), .val (.ref w_STRING)] [(.ref w_STRING)]) := fun t q => k t (st41.trans q)
          replace k := Fw.aload k X41 hx (hb hby at_202) rfl rfl (pc' := 204) rfl
          replace k := Fw.acmp k X41 hx (hb hby at_204) rfl rfl true (decide_eq_true rfl) (by decide) (pc' := 207) (by decide)
          replace k := Fw.iconst k X41 hx (hb hby at_207) (z := (1 : Int32)) (by decide) (pc' := 208) rfl
          replace k := Fw.goto k X41 hx (hb hby at_208) (by decide) (pc' := 212) rfl
          obtain ⟨fs, hr, hrun, hended, hW, hsame⟩ := X41.leave (v := some (.int 1)) (fun h => by rw [Bd.returns] at h; cases h)
          refine ⟨_, _, pre0 _ (k _ ?_), hrun, hended, _, _, rfl, ?_, ⟨_, rfl⟩, hW, hsame.mono (by decide) (by decide)⟩
          · exact retN X41 hx (t := .boolean) Bd.returns (by simp) (hb hby at_212) hr
          · show Q_law Z p1 q2 w_INT w_NIL w_I8 w_BOOLEAN w_STRING w_DATE_TIME w_DOUBLE w_BASE64 h0 n0 _ T41.heap _
            rw [e41]
            exact ⟨rfl, N41, trivial⟩
        · replace k := Fw.icmpYes k X0 hx (hb hby at_45) (feq hc45_33).2 (by decide) (pc' := 56) rfl
          replace k := Fw.iloadN k X0 hx (hb hby at_56) rfl (pc' := 57) rfl
          replace k := Fw.iconst k X0 hx (hb hby at_57) (z := (4 : Int32)) (by decide) (pc' := 58) rfl
          by_cases hc58_42 : (p1 &&& (7 : Int32)) = (4 : Int32)
          · replace k := Fw.icmpNo k X0 hx (hb hby at_58) (teq hc58_42).2 (pc' := 61) rfl
            obtain ⟨T43, X43, e43, st43⟩ := getS2 X0 hx hZ hown (host := "") (Or.inl (hw _ (List.mem_of_getElem? (i := 90) rfl))) Via.refl e0 (S_DOUBLE.ext O0.2) (g := (mkF m 61 #[.val (.int p1), .val (.long q2), .second, .val (.int (p1 &&& (7 : Int32))), .unset, .unset, .unset] [])) rfl (hb hby at_61)
            replace k : Goes p e below s₁ G0 T43 (mkF m 64 #[.val (.int p1), .val (.long q2), .second, .val (.int (p1 &&& (7 : Int32))), .unset, .unset, .unset] [(.ref w_DOUBLE)]) := fun t q => k t (st43 _ q)
            replace k := Fw.astore k X43 hx (hb hby at_64)  rfl (Ls' := #[.val (.int p1), .val (.long q2), .second, .val (.int (p1 &&& (7 : Int32))), .val (.ref w_DOUBLE), .unset, .unset]) rfl (pc' := 66) rfl
            replace k := Fw.goto k X43 hx (hb hby at_66) (by decide) (pc' := 101) rfl
            replace k := Fw.aload k X43 hx (hb hby at_101) rfl rfl (pc' := 103) rfl
            obtain ⟨T44, X44, e44, st44⟩ := getS2 X43 hx hZ hown (host := "") (Or.inl (hw _ (List.mem_of_getElem? (i := 3) rfl))) Via.refl e43 (S_NIL.ext O0.2) (g := (mkF m 103 #[.val (.int p1), .val (.long q2), .second, .val (.int (p1 &&& (7 : Int32))), .val (.ref w_DOUBLE), .unset, .unset] [(.ref w_DOUBLE)])) rfl (hb hby at_103)
            replace k : Goes p e below s₁ G0 T44 (mkF m 106 #[.val (.int p1), .val (.long q2), .second, .val (.int (p1 &&& (7 : Int32))), .val (.ref w_DOUBLE), .unset, .unset] [(.ref w_NIL), (.ref w_DOUBLE)]) := fun t q => k t (st44 _ q)
            replace k := Fw.acmp k X44 hx (hb hby at_106) rfl rfl false (decide_eq_false fun q => (show ¬ (w_DOUBLE = w_NIL) from ne_exa E_DOUBLE E_NIL (by decide)) (Value.ref.inj q)) (by decide) (pc' := 115) (by decide)
            replace k := Fw.aload k X44 hx (hb hby at_115) rfl rfl (pc' := 117) rfl
            obtain ⟨T45, X45, e45, st45⟩ := getS2 X44 hx hZ hown (host := "") (Or.inl (hw _ (List.mem_of_getElem? (i := 0) rfl))) Via.refl e44 (S_INT.ext O0.2) (g := (mkF m 117 #[.val (.int p1), .val (.long q2), .second, .val (.int (p1 &&& (7 : Int32))), .val (.ref w_DOUBLE), .unset, .unset] [(.ref w_DOUBLE)])) rfl (hb hby at_117)
            replace k : Goes p e below s₁ G0 T45 (mkF m 120 #[.val (.int p1), .val (.long q2), .second, .val (.int (p1 &&& (7 : Int32))), .val (.ref w_DOUBLE), .unset, .unset] [(.ref w_INT), (.ref w_DOUBLE)]) := fun t q => k t (st45 _ q)
            replace k := Fw.acmp k X45 hx (hb hby at_120) rfl rfl false (decide_eq_false fun q => (show ¬ (w_DOUBLE = w_INT) from ne_exa E_DOUBLE E_INT (by decide)) (Value.ref.inj q)) (by decide) (pc' := 133) (by decide)
            replace k := Fw.lloadN k X45 hx (hb hby at_133) rfl (pc' := 134) rfl
            obtain ⟨_, _, ⟨T46, L46, k46, n46⟩, -, X46, ⟨Lc46, hQ46, l46, y46, z46⟩, st46⟩ := Jvm.LawKit.callS X45 hx (y := (⟨"java/lang/Long", "valueOf", "(J)Ljava/lang/Long;"⟩ : MethodName)) hown (mvT hZ (hw _ (List.mem_of_getElem? (i := 24) rfl))) (mvT hZ (hw _ (List.mem_of_getElem? (i := 25) rfl))) (mvT hZ (hw _ (List.mem_of_getElem? (i := 26) rfl))) (mvT hZ (hw _ (List.mem_of_getElem? (i := 27) rfl))) (by decide) (backOf (W := 0) (rm_vo l Z a0 hw [] q2 h0 n0 O0 HL) hZ (hw _ (List.mem_of_getElem? (i := 27) rfl)) (hw _ (List.mem_of_getElem? (i := 26) rfl)) (by decide) (by decide)) (g := (mkF m 134 #[.val (.int p1), .val (.long q2), .second, .val (.int (p1 &&& (7 : Int32))), .val (.ref w_DOUBLE), .unset, .unset] [(.long q2)])) rfl (by rw [hml]; rfl) (argsL := [(.long q2)]) (rest := []) (lenOf pd_J_r_Ljava_lang_Long rfl) rfl (by show 2 * 0 + _ ≤ _; exact Nat.le_of_eq rfl) (hb hby at_134) (fun _ _ => ⟨rfl, e45, (by decide : 0 + 1 ≤ _), (by decide : 0 + 1 ≤ _)⟩)
            dsimp only [Pt.U, Pt.locs, Pt.cells, Pt.slots] at X46 l46 y46 z46 st46 hQ46
            subst l46 y46 z46
            obtain ⟨bv46, rfl, N46q, E46, qa46, qb46⟩ := hQ46
            have N46 := Fr.app N0 N46q
            replace k : Goes p e below s₁ G0 T46 (mkF m 137 #[.val (.int p1), .val (.long q2), .second, .val (.int (p1 &&& (7 : Int32))), .val (.ref w_DOUBLE), .unset, .unset] [(.ref bv46)]) := fun t q => k t (st46 _ q)
            replace k := Fw.astore k X46 hx (hb hby at_137)  rfl (Ls' := #[.val (.int p1), .val (.long q2), .second, .val (.int (p1 &&& (7 : Int32))), .val (.ref w_DOUBLE), .val (.ref bv46), .unset]) rfl (pc' := 139) rfl
            replace k := Fw.aload k X46 hx (hb hby at_139) rfl rfl (pc' := 141) rfl
            have fc47 := (O0.ext E46)
            obtain ⟨T48, X48, e48, st48⟩ := getS2 X46 hx hZ hown (host := "") (Or.inl (hw _ (List.mem_of_getElem? (i := 3) rfl))) Via.refl rfl (S_NIL.ext fc47.2) (g := (mkF m 141 #[.val (.int p1), .val (.long q2), .second, .val (.int (p1 &&& (7 : Int32))), .val (.ref w_DOUBLE), .val (.ref bv46), .unset] [(.ref w_DOUBLE)])) rfl (hb hby at_141)
            replace k : Goes p e below s₁ G0 T48 (mkF m 144 #[.val (.int p1), .val (.long q2), .second, .val (.int (p1 &&& (7 : Int32))), .val (.ref w_DOUBLE), .val (.ref bv46), .unset] [(.ref w_NIL), (.ref w_DOUBLE)]) := fun t q => k t (st48 _ q)
            replace k := Fw.acmp k X48 hx (hb hby at_144) rfl rfl false (decide_eq_false fun q => (show ¬ (w_DOUBLE = w_NIL) from ne_exa E_DOUBLE E_NIL (by decide)) (Value.ref.inj q)) (by decide) (pc' := 153) (by decide)
            replace k := Fw.aload k X48 hx (hb hby at_153) rfl rfl (pc' := 155) rfl
            obtain ⟨T49, X49, e49, st49⟩ := getS2 X48 hx hZ hown (host := "") (Or.inl (hw _ (List.mem_of_getElem? (i := 12) rfl))) Via.refl e48 (S_I8.ext fc47.2) (g := (mkF m 155 #[.val (.int p1), .val (.long q2), .second, .val (.int (p1 &&& (7 : Int32))), .val (.ref w_DOUBLE), .val (.ref bv46), .unset] [(.ref w_DOUBLE)])) rfl (hb hby at_155)
            replace k : Goes p e below s₁ G0 T49 (mkF m 158 #[.val (.int p1), .val (.long q2), .second, .val (.int (p1 &&& (7 : Int32))), .val (.ref w_DOUBLE), .val (.ref bv46), .unset] [(.ref w_I8), (.ref w_DOUBLE)]) := fun t q => k t (st49 _ q)
            replace k := Fw.acmp k X49 hx (hb hby at_158) rfl rfl false (decide_eq_false fun q => (show ¬ (w_DOUBLE = w_I8) from ne_exa E_DOUBLE E_I8 (by decide)) (Value.ref.inj q)) (by decide) (pc' := 191) (by decide)
            replace k := Fw.aload k X49 hx (hb hby at_191) rfl rfl (pc' := 193) rfl
            replace k := Fw.astore k X49 hx (hb hby at_193)  rfl (Ls' := #[.val (.int p1), .val (.long q2), .second, .val (.int (p1 &&& (7 : Int32))), .val (.ref w_DOUBLE), .val (.ref bv46), .val (.ref w_DOUBLE)]) rfl (pc' := 195) rfl
            replace k := Fw.aload k X49 hx (hb hby at_195) rfl rfl (pc' := 197) rfl
            replace k := Fw.aload k X49 hx (hb hby at_197) rfl rfl (pc' := 199) rfl
            obtain ⟨cq50, kq50, q50a, q50b, q50c⟩ := isOf hZ e49 (E_DOUBLE.ext fc47.2)
            obtain ⟨_, _, ⟨T50, L50, k50, n50⟩, -, X50, ⟨Lc50, hQ50, l50, y50, z50⟩, st50⟩ := X49.virtualBack hx (y := (⟨"com/example/wirecall/wirecall/xml/ScalarType", "withoutExtensions", "(Ljava/lang/Object;)Lcom/example/wirecall/wirecall/xml/ScalarType;"⟩ : MethodName)) (z := (⟨"com/example/wirecall/wirecall/xml/ScalarType", "withoutExtensions", "(Ljava/lang/Object;)Lcom/example/wirecall/wirecall/xml/ScalarType;"⟩ : MethodName)) hown (mvT hZ (hw _ (List.mem_of_getElem? (i := 14) rfl))) (mvT hZ (hw _ (List.mem_of_getElem? (i := 15) rfl))) (notFace_of_selects (args := #[]) (mvT hZ (hw _ (List.mem_of_getElem? (i := 17) rfl)))) (mvT hZ (hw _ (List.mem_of_getElem? (i := 92) rfl))) (mvT hZ (hw _ (List.mem_of_getElem? (i := 16) rfl))) (by decide) (backOf (W := 0) (rm_we_DOUBLE l Z a0 hw [] w_DOUBLE bv46 T46.heap n0 fc47 (E_DOUBLE.ext fc47.2)) hZ (hw _ (List.mem_of_getElem? (i := 18) rfl)) (hw _ (List.mem_of_getElem? (i := 1) rfl)) (by decide) (by decide)) q50a q50c (g := (mkF m 199 #[.val (.int p1), .val (.long q2), .second, .val (.int (p1 &&& (7 : Int32))), .val (.ref w_DOUBLE), .val (.ref bv46), .val (.ref w_DOUBLE)] [(.ref bv46), (.ref w_DOUBLE)])) rfl (by rw [hml]; rfl) (Steps.refl _) (argsL := [(.ref bv46)]) (rest := []) (lenOf pd_Ljava_lang_Object_r_Lcom_example_wirecall_wirecall_xml_ScalarType rfl) rfl (by show 2 * 0 + _ ≤ _; exact Nat.le_of_eq rfl) (hb hby at_199) (fun _ _ => ⟨rfl, e49, (by decide : 1 + 0 ≤ _), (by decide : 1 + 0 ≤ _)⟩)
            dsimp only [Pt.U, Pt.locs, Pt.cells, Pt.slots] at X50 l50 y50 z50 st50 hQ50
            subst l50 y50 z50
            obtain ⟨rfl, N50q, e50⟩ := hQ50
            have N50 := Fr.app N46 N50q
            replace k : Goes p e below s₁ G0 T50 (mkF m 202 #[.val (.int p1), .val (.long q2), .second, .val (.int (p1 &&& (7 : Int32))), .val (.ref w_DOUBLE), .val (.ref bv46), .val (.ref w_DOUBLE)] [(.ref w_DOUBLE)]) := fun t q => k t (st50.trans q)
            replace k := Fw.aload k X50 hx (hb hby at_202) rfl rfl (pc' := 204) rfl
            replace k := Fw.acmp k X50 hx (hb hby at_204) rfl rfl true (decide_eq_true rfl) (by decide) (pc' := 207) (by decide)
            replace k := Fw.iconst k X50 hx (hb hby at_207) (z := (1 : Int32)) (by decide) (pc' := 208) rfl
            replace k := Fw.goto k X50 hx (hb hby at_208) (by decide) (pc' := 212) rfl
            obtain ⟨fs, hr, hrun, hended, hW, hsame⟩ := X50.leave (v := some (.int 1)) (fun h => by rw [Bd.returns] at h; cases h)
            refine ⟨_, _, pre0 _ (k _ ?_), hrun, hended, _, _, rfl, ?_, ⟨_, rfl⟩, hW, hsame.mono (by decide) (by decide)⟩
            · exact retN X50 hx (t := .boolean) Bd.returns (by simp) (hb hby at_212) hr
            · show Q_law Z p1 q2 w_INT w_NIL w_I8 w_BOOLEAN w_STRING w_DATE_TIME w_DOUBLE w_BASE64 h0 n0 _ T50.heap _
              rw [e50]
              exact ⟨rfl, N50, trivial⟩
          · replace k := Fw.icmpYes k X0 hx (hb hby at_58) (feq hc58_42).2 (by decide) (pc' := 69) rfl
            replace k := Fw.iloadN k X0 hx (hb hby at_69) rfl (pc' := 70) rfl
            replace k := Fw.iconst k X0 hx (hb hby at_70) (z := (5 : Int32)) (by decide) (pc' := 71) rfl
            by_cases hc71_51 : (p1 &&& (7 : Int32)) = (5 : Int32)
            · replace k := Fw.icmpNo k X0 hx (hb hby at_71) (teq hc71_51).2 (pc' := 74) rfl
              obtain ⟨T52, X52, e52, st52⟩ := getS2 X0 hx hZ hown (host := "") (Or.inl (hw _ (List.mem_of_getElem? (i := 84) rfl))) Via.refl e0 (S_DATE_TIME.ext O0.2) (g := (mkF m 74 #[.val (.int p1), .val (.long q2), .second, .val (.int (p1 &&& (7 : Int32))), .unset, .unset, .unset] [])) rfl (hb hby at_74)
              replace k : Goes p e below s₁ G0 T52 (mkF m 77 #[.val (.int p1), .val (.long q2), .second, .val (.int (p1 &&& (7 : Int32))), .unset, .unset, .unset] [(.ref w_DATE_TIME)]) := fun t q => k t (st52 _ q)
              replace k := Fw.astore k X52 hx (hb hby at_77)  rfl (Ls' := #[.val (.int p1), .val (.long q2), .second, .val (.int (p1 &&& (7 : Int32))), .val (.ref w_DATE_TIME), .unset, .unset]) rfl (pc' := 79) rfl
              replace k := Fw.goto k X52 hx (hb hby at_79) (by decide) (pc' := 101) rfl
              replace k := Fw.aload k X52 hx (hb hby at_101) rfl rfl (pc' := 103) rfl
              obtain ⟨T53, X53, e53, st53⟩ := getS2 X52 hx hZ hown (host := "") (Or.inl (hw _ (List.mem_of_getElem? (i := 3) rfl))) Via.refl e52 (S_NIL.ext O0.2) (g := (mkF m 103 #[.val (.int p1), .val (.long q2), .second, .val (.int (p1 &&& (7 : Int32))), .val (.ref w_DATE_TIME), .unset, .unset] [(.ref w_DATE_TIME)])) rfl (hb hby at_103)
              replace k : Goes p e below s₁ G0 T53 (mkF m 106 #[.val (.int p1), .val (.long q2), .second, .val (.int (p1 &&& (7 : Int32))), .val (.ref w_DATE_TIME), .unset, .unset] [(.ref w_NIL), (.ref w_DATE_TIME)]) := fun t q => k t (st53 _ q)
              replace k := Fw.acmp k X53 hx (hb hby at_106) rfl rfl false (decide_eq_false fun q => (show ¬ (w_DATE_TIME = w_NIL) from ne_exa E_DATE_TIME E_NIL (by decide)) (Value.ref.inj q)) (by decide) (pc' := 115) (by decide)
              replace k := Fw.aload k X53 hx (hb hby at_115) rfl rfl (pc' := 117) rfl
              obtain ⟨T54, X54, e54, st54⟩ := getS2 X53 hx hZ hown (host := "") (Or.inl (hw _ (List.mem_of_getElem? (i := 0) rfl))) Via.refl e53 (S_INT.ext O0.2) (g := (mkF m 117 #[.val (.int p1), .val (.long q2), .second, .val (.int (p1 &&& (7 : Int32))), .val (.ref w_DATE_TIME), .unset, .unset] [(.ref w_DATE_TIME)])) rfl (hb hby at_117)
              replace k : Goes p e below s₁ G0 T54 (mkF m 120 #[.val (.int p1), .val (.long q2), .second, .val (.int (p1 &&& (7 : Int32))), .val (.ref w_DATE_TIME), .unset, .unset] [(.ref w_INT), (.ref w_DATE_TIME)]) := fun t q => k t (st54 _ q)
              replace k := Fw.acmp k X54 hx (hb hby at_120) rfl rfl false (decide_eq_false fun q => (show ¬ (w_DATE_TIME = w_INT) from ne_exa E_DATE_TIME E_INT (by decide)) (Value.ref.inj q)) (by decide) (pc' := 133) (by decide)
              replace k := Fw.lloadN k X54 hx (hb hby at_133) rfl (pc' := 134) rfl
              obtain ⟨_, _, ⟨T55, L55, k55, n55⟩, -, X55, ⟨Lc55, hQ55, l55, y55, z55⟩, st55⟩ := Jvm.LawKit.callS X54 hx (y := (⟨"java/lang/Long", "valueOf", "(J)Ljava/lang/Long;"⟩ : MethodName)) hown (mvT hZ (hw _ (List.mem_of_getElem? (i := 24) rfl))) (mvT hZ (hw _ (List.mem_of_getElem? (i := 25) rfl))) (mvT hZ (hw _ (List.mem_of_getElem? (i := 26) rfl))) (mvT hZ (hw _ (List.mem_of_getElem? (i := 27) rfl))) (by decide) (backOf (W := 0) (rm_vo l Z a0 hw [] q2 h0 n0 O0 HL) hZ (hw _ (List.mem_of_getElem? (i := 27) rfl)) (hw _ (List.mem_of_getElem? (i := 26) rfl)) (by decide) (by decide)) (g := (mkF m 134 #[.val (.int p1), .val (.long q2), .second, .val (.int (p1 &&& (7 : Int32))), .val (.ref w_DATE_TIME), .unset, .unset] [(.long q2)])) rfl (by rw [hml]; rfl) (argsL := [(.long q2)]) (rest := []) (lenOf pd_J_r_Ljava_lang_Long rfl) rfl (by show 2 * 0 + _ ≤ _; exact Nat.le_of_eq rfl) (hb hby at_134) (fun _ _ => ⟨rfl, e54, (by decide : 0 + 1 ≤ _), (by decide : 0 + 1 ≤ _)⟩)
              dsimp only [Pt.U, Pt.locs, Pt.cells, Pt.slots] at X55 l55 y55 z55 st55 hQ55
              subst l55 y55 z55
              obtain ⟨bv55, rfl, N55q, E55, qa55, qb55⟩ := hQ55
              have N55 := Fr.app N0 N55q
              replace k : Goes p e below s₁ G0 T55 (mkF m 137 #[.val (.int p1), .val (.long q2), .second, .val (.int (p1 &&& (7 : Int32))), .val (.ref w_DATE_TIME), .unset, .unset] [(.ref bv55)]) := fun t q => k t (st55 _ q)
              replace k := Fw.astore k X55 hx (hb hby at_137)  rfl (Ls' := #[.val (.int p1), .val (.long q2), .second, .val (.int (p1 &&& (7 : Int32))), .val (.ref w_DATE_TIME), .val (.ref bv55), .unset]) rfl (pc' := 139) rfl
              replace k := Fw.aload k X55 hx (hb hby at_139) rfl rfl (pc' := 141) rfl
              have fc56 := (O0.ext E55)
              obtain ⟨T57, X57, e57, st57⟩ := getS2 X55 hx hZ hown (host := "") (Or.inl (hw _ (List.mem_of_getElem? (i := 3) rfl))) Via.refl rfl (S_NIL.ext fc56.2) (g := (mkF m 141 #[.val (.int p1), .val (.long q2), .second, .val (.int (p1 &&& (7 : Int32))), .val (.ref w_DATE_TIME), .val (.ref bv55), .unset] [(.ref w_DATE_TIME)])) rfl (hb hby at_141)
              replace k : Goes p e below s₁ G0 T57 (mkF m 144 #[.val (.int p1), .val (.long q2), .second, .val (.int (p1 &&& (7 : Int32))), .val (.ref w_DATE_TIME), .val (.ref bv55), .unset] [(.ref w_NIL), (.ref w_DATE_TIME)]) := fun t q => k t (st57 _ q)
              replace k := Fw.acmp k X57 hx (hb hby at_144) rfl rfl false (decide_eq_false fun q => (show ¬ (w_DATE_TIME = w_NIL) from ne_exa E_DATE_TIME E_NIL (by decide)) (Value.ref.inj q)) (by decide) (pc' := 153) (by decide)
              replace k := Fw.aload k X57 hx (hb hby at_153) rfl rfl (pc' := 155) rfl
              obtain ⟨T58, X58, e58, st58⟩ := getS2 X57 hx hZ hown (host := "") (Or.inl (hw _ (List.mem_of_getElem? (i := 12) rfl))) Via.refl e57 (S_I8.ext fc56.2) (g := (mkF m 155 #[.val (.int p1), .val (.long q2), .second, .val (.int (p1 &&& (7 : Int32))), .val (.ref w_DATE_TIME), .val (.ref bv55), .unset] [(.ref w_DATE_TIME)])) rfl (hb hby at_155)
              replace k : Goes p e below s₁ G0 T58 (mkF m 158 #[.val (.int p1), .val (.long q2), .second, .val (.int (p1 &&& (7 : Int32))), .val (.ref w_DATE_TIME), .val (.ref bv55), .unset] [(.ref w_I8), (.ref w_DATE_TIME)]) := fun t q => k t (st58 _ q)
              replace k := Fw.acmp k X58 hx (hb hby at_158) rfl rfl false (decide_eq_false fun q => (show ¬ (w_DATE_TIME = w_I8) from ne_exa E_DATE_TIME E_I8 (by decide)) (Value.ref.inj q)) (by decide) (pc' := 191) (by decide)
              replace k := Fw.aload k X58 hx (hb hby at_191) rfl rfl (pc' := 193) rfl
              replace k := Fw.astore k X58 hx (hb hby at_193)  rfl (Ls' := #[.val (.int p1), .val (.long q2), .second, .val (.int (p1 &&& (7 : Int32))), .val (.ref w_DATE_TIME), .val (.ref bv55), .val (.ref w_DATE_TIME)]) rfl (pc' := 195) rfl
              replace k := Fw.aload k X58 hx (hb hby at_195) rfl rfl (pc' := 197) rfl
              replace k := Fw.aload k X58 hx (hb hby at_197) rfl rfl (pc' := 199) rfl
              obtain ⟨cq59, kq59, q59a, q59b, q59c⟩ := isOf hZ e58 (E_DATE_TIME.ext fc56.2)
              obtain ⟨_, _, ⟨T59, L59, k59, n59⟩, -, X59, ⟨Lc59, hQ59, l59, y59, z59⟩, st59⟩ := X58.virtualBack hx (y := (⟨"com/example/wirecall/wirecall/xml/ScalarType", "withoutExtensions", "(Ljava/lang/Object;)Lcom/example/wirecall/wirecall/xml/ScalarType;"⟩ : MethodName)) (z := (⟨"com/example/wirecall/wirecall/xml/ScalarType", "withoutExtensions", "(Ljava/lang/Object;)Lcom/example/wirecall/wirecall/xml/ScalarType;"⟩ : MethodName)) hown (mvT hZ (hw _ (List.mem_of_getElem? (i := 14) rfl))) (mvT hZ (hw _ (List.mem_of_getElem? (i := 15) rfl))) (notFace_of_selects (args := #[]) (mvT hZ (hw _ (List.mem_of_getElem? (i := 17) rfl)))) (mvT hZ (hw _ (List.mem_of_getElem? (i := 86) rfl))) (mvT hZ (hw _ (List.mem_of_getElem? (i := 16) rfl))) (by decide) (backOf (W := 0) (rm_we_DATE_TIME l Z a0 hw [] w_DATE_TIME bv55 T55.heap n0 fc56 (E_DATE_TIME.ext fc56.2)) hZ (hw _ (List.mem_of_getElem? (i := 18) rfl)) (hw _ (List.mem_of_getElem? (i := 1) rfl)) (by decide) (by decide)) q59a q59c (g := (mkF m 199 #[.val (.int p1), .val (.long q2), .second, .val (.int (p1 &&& (7 : Int32))), .val (.ref w_DATE_TIME), .val (.ref bv55), .val (.ref w_DATE_TIME)] [(.ref bv55), (.ref w_DATE_TIME)])) rfl (by rw [hml]; rfl) (Steps.refl _) (argsL := [(.ref bv55)]) (rest := []) (lenOf pd_Ljava_lang_Object_r_Lcom_example_wirecall_wirecall_xml_ScalarType rfl) rfl (by show 2 * 0 + _ ≤ _; exact Nat.le_of_eq rfl) (hb hby at_199) (fun _ _ => ⟨rfl, e58, (by decide : 1 + 0 ≤ _), (by decide : 1 + 0 ≤ _)⟩)
              dsimp only [Pt.U, Pt.locs, Pt.cells, Pt.slots] at X59 l59 y59 z59 st59 hQ59
              subst l59 y59 z59
              obtain ⟨rfl, N59q, e59⟩ := hQ59
              have N59 := Fr.app N55 N59q
              replace k : Goes p e below s₁ G0 T59 (mkF m 202 #[.val (.int p1), .val (.long q2), .second, .val (.int (p1 &&& (7 : Int32))), .val (.ref w_DATE_TIME), .val (.ref bv55), .val (.ref w_DATE_TIME)] [(.ref w_DATE_TIME)]) := fun t q => k t (st59.trans q)
              replace k := Fw.aload k X59 hx (hb hby at_202) rfl rfl (pc' := 204) rfl
              replace k := Fw.acmp k X59 hx (hb hby at_204) rfl rfl true (decide_eq_true rfl) (by decide) (pc' := 207) (by decide)
              replace k := Fw.iconst k X59 hx (hb hby at_207) (z := (1 : Int32)) (by decide) (pc' := 208) rfl
              replace k := Fw.goto k X59 hx (hb hby at_208) (by decide) (pc' := 212) rfl
              obtain ⟨fs, hr, hrun, hended, hW, hsame⟩ := X59.leave (v := some (.int 1)) (fun h => by rw [Bd.returns] at h; cases h)
              refine ⟨_, _, pre0 _ (k _ ?_), hrun, hended, _, _, rfl, ?_, ⟨_, rfl⟩, hW, hsame.mono (by decide) (by decide)⟩
              · exact retN X59 hx (t := .boolean) Bd.returns (by simp) (hb hby at_212) hr
              · show Q_law Z p1 q2 w_INT w_NIL w_I8 w_BOOLEAN w_STRING w_DATE_TIME w_DOUBLE w_BASE64 h0 n0 _ T59.heap _
                rw [e59]
                exact ⟨rfl, N59, trivial⟩
            · replace k := Fw.icmpYes k X0 hx (hb hby at_71) (feq hc71_51).2 (by decide) (pc' := 82) rfl
              replace k := Fw.iloadN k X0 hx (hb hby at_82) rfl (pc' := 83) rfl
              replace k := Fw.bipush k X0 hx (hb hby at_83) (z := (6 : Int32)) (by decide) (pc' := 85) rfl
              by_cases hc85_60 : (p1 &&& (7 : Int32)) = (6 : Int32)
              · replace k := Fw.icmpNo k X0 hx (hb hby at_85) (teq hc85_60).2 (pc' := 88) rfl
                obtain ⟨T61, X61, e61, st61⟩ := getS2 X0 hx hZ hown (host := "") (Or.inl (hw _ (List.mem_of_getElem? (i := 94) rfl))) Via.refl e0 (S_BASE64.ext O0.2) (g := (mkF m 88 #[.val (.int p1), .val (.long q2), .second, .val (.int (p1 &&& (7 : Int32))), .unset, .unset, .unset] [])) rfl (hb hby at_88)
                replace k : Goes p e below s₁ G0 T61 (mkF m 91 #[.val (.int p1), .val (.long q2), .second, .val (.int (p1 &&& (7 : Int32))), .unset, .unset, .unset] [(.ref w_BASE64)]) := fun t q => k t (st61 _ q)
                replace k := Fw.astore k X61 hx (hb hby at_91)  rfl (Ls' := #[.val (.int p1), .val (.long q2), .second, .val (.int (p1 &&& (7 : Int32))), .val (.ref w_BASE64), .unset, .unset]) rfl (pc' := 93) rfl
                replace k := Fw.goto k X61 hx (hb hby at_93) (by decide) (pc' := 101) rfl
                replace k := Fw.aload k X61 hx (hb hby at_101) rfl rfl (pc' := 103) rfl
                obtain ⟨T62, X62, e62, st62⟩ := getS2 X61 hx hZ hown (host := "") (Or.inl (hw _ (List.mem_of_getElem? (i := 3) rfl))) Via.refl e61 (S_NIL.ext O0.2) (g := (mkF m 103 #[.val (.int p1), .val (.long q2), .second, .val (.int (p1 &&& (7 : Int32))), .val (.ref w_BASE64), .unset, .unset] [(.ref w_BASE64)])) rfl (hb hby at_103)
                replace k : Goes p e below s₁ G0 T62 (mkF m 106 #[.val (.int p1), .val (.long q2), .second, .val (.int (p1 &&& (7 : Int32))), .val (.ref w_BASE64), .unset, .unset] [(.ref w_NIL), (.ref w_BASE64)]) := fun t q => k t (st62 _ q)
                replace k := Fw.acmp k X62 hx (hb hby at_106) rfl rfl false (decide_eq_false fun q => (show ¬ (w_BASE64 = w_NIL) from ne_exa E_BASE64 E_NIL (by decide)) (Value.ref.inj q)) (by decide) (pc' := 115) (by decide)
                replace k := Fw.aload k X62 hx (hb hby at_115) rfl rfl (pc' := 117) rfl
                obtain ⟨T63, X63, e63, st63⟩ := getS2 X62 hx hZ hown (host := "") (Or.inl (hw _ (List.mem_of_getElem? (i := 0) rfl))) Via.refl e62 (S_INT.ext O0.2) (g := (mkF m 117 #[.val (.int p1), .val (.long q2), .second, .val (.int (p1 &&& (7 : Int32))), .val (.ref w_BASE64), .unset, .unset] [(.ref w_BASE64)])) rfl (hb hby at_117)
                replace k : Goes p e below s₁ G0 T63 (mkF m 120 #[.val (.int p1), .val (.long q2), .second, .val (.int (p1 &&& (7 : Int32))), .val (.ref w_BASE64), .unset, .unset] [(.ref w_INT), (.ref w_BASE64)]) := fun t q => k t (st63 _ q)
                replace k := Fw.acmp k X63 hx (hb hby at_120) rfl rfl false (decide_eq_false fun q => (show ¬ (w_BASE64 = w_INT) from ne_exa E_BASE64 E_INT (by decide)) (Value.ref.inj q)) (by decide) (pc' := 133) (by decide)
                replace k := Fw.lloadN k X63 hx (hb hby at_133) rfl (pc' := 134) rfl
                obtain ⟨_, _, ⟨T64, L64, k64, n64⟩, -, X64, ⟨Lc64, hQ64, l64, y64, z64⟩, st64⟩ := Jvm.LawKit.callS X63 hx (y := (⟨"java/lang/Long", "valueOf", "(J)Ljava/lang/Long;"⟩ : MethodName)) hown (mvT hZ (hw _ (List.mem_of_getElem? (i := 24) rfl))) (mvT hZ (hw _ (List.mem_of_getElem? (i := 25) rfl))) (mvT hZ (hw _ (List.mem_of_getElem? (i := 26) rfl))) (mvT hZ (hw _ (List.mem_of_getElem? (i := 27) rfl))) (by decide) (backOf (W := 0) (rm_vo l Z a0 hw [] q2 h0 n0 O0 HL) hZ (hw _ (List.mem_of_getElem? (i := 27) rfl)) (hw _ (List.mem_of_getElem? (i := 26) rfl)) (by decide) (by decide)) (g := (mkF m 134 #[.val (.int p1), .val (.long q2), .second, .val (.int (p1 &&& (7 : Int32))), .val (.ref w_BASE64), .unset, .unset] [(.long q2)])) rfl (by rw [hml]; rfl) (argsL := [(.long q2)]) (rest := []) (lenOf pd_J_r_Ljava_lang_Long rfl) rfl (by show 2 * 0 + _ ≤ _; exact Nat.le_of_eq rfl) (hb hby at_134) (fun _ _ => ⟨rfl, e63, (by decide : 0 + 1 ≤ _), (by decide : 0 + 1 ≤ _)⟩)
                dsimp only [Pt.U, Pt.locs, Pt.cells, Pt.slots] at X64 l64 y64 z64 st64 hQ64
                subst l64 y64 z64
                obtain ⟨bv64, rfl, N64q, E64, qa64, qb64⟩ := hQ64
                have N64 := Fr.app N0 N64q
                replace k : Goes p e below s₁ G0 T64 (mkF m 137 #[.val (.int p1), .val (.long q2), .second, .val (.int (p1 &&& (7 : Int32))), .val (.ref w_BASE64), .unset, .unset] [(.ref bv64)]) := fun t q => k t (st64 _ q)
                replace k := Fw.astore k X64 hx (hb hby at_137)  rfl (Ls' := #[.val (.int p1), .val (.long q2), .second, .val (.int (p1 &&& (7 : Int32))), .val (.ref w_BASE64), .val (.ref bv64), .unset]) rfl (pc' := 139) rfl
                replace k := Fw.aload k X64 hx (hb hby at_139) rfl rfl (pc' := 141) rfl
                have fc65 := (O0.ext E64)
                obtain ⟨T66, X66, e66, st66⟩ := getS2 X64 hx hZ hown (host := "") (Or.inl (hw _ (List.mem_of_getElem? (i := 3) rfl))) Via.refl rfl (S_NIL.ext fc65.2) (g := (mkF m 141 #[.val (.int p1), .val (.long q2), .second, .val (.int (p1 &&& (7 : Int32))), .val (.ref w_BASE64), .val (.ref bv64), .unset] [(.ref w_BASE64)])) rfl (hb hby at_141)
                replace k : Goes p e below s₁ G0 T66 (mkF m 144 #[.val (.int p1), .val (.long q2), .second, .val (.int (p1 &&& (7 : Int32))), .val (.ref w_BASE64), .val (.ref bv64), .unset] [(.ref w_NIL), (.ref w_BASE64)]) := fun t q => k t (st66 _ q)
                replace k := Fw.acmp k X66 hx (hb hby at_144) rfl rfl false (decide_eq_false fun q => (show ¬ (w_BASE64 = w_NIL) from ne_exa E_BASE64 E_NIL (by decide)) (Value.ref.inj q)) (by decide) (pc' := 153) (by decide)
                replace k := Fw.aload k X66 hx (hb hby at_153) rfl rfl (pc' := 155) rfl
                obtain ⟨T67, X67, e67, st67⟩ := getS2 X66 hx hZ hown (host := "") (Or.inl (hw _ (List.mem_of_getElem? (i := 12) rfl))) Via.refl e66 (S_I8.ext fc65.2) (g := (mkF m 155 #[.val (.int p1), .val (.long q2), .second, .val (.int (p1 &&& (7 : Int32))), .val (.ref w_BASE64), .val (.ref bv64), .unset] [(.ref w_BASE64)])) rfl (hb hby at_155)
                replace k : Goes p e below s₁ G0 T67 (mkF m 158 #[.val (.int p1), .val (.long q2), .second, .val (.int (p1 &&& (7 : Int32))), .val (.ref w_BASE64), .val (.ref bv64), .unset] [(.ref w_I8), (.ref w_BASE64)]) := fun t q => k t (st67 _ q)
                replace k := Fw.acmp k X67 hx (hb hby at_158) rfl rfl false (decide_eq_false fun q => (show ¬ (w_BASE64 = w_I8) from ne_exa E_BASE64 E_I8 (by decide)) (Value.ref.inj q)) (by decide) (pc' := 191) (by decide)
                replace k := Fw.aload k X67 hx (hb hby at_191) rfl rfl (pc' := 193) rfl
                replace k := Fw.astore k X67 hx (hb hby at_193)  rfl (Ls' := #[.val (.int p1), .val (.long q2), .second, .val (.int (p1 &&& (7 : Int32))), .val (.ref w_BASE64), .val (.ref bv64), .val (.ref w_BASE64)]) rfl (pc' := 195) rfl
                replace k := Fw.aload k X67 hx (hb hby at_195) rfl rfl (pc' := 197) rfl
                replace k := Fw.aload k X67 hx (hb hby at_197) rfl rfl (pc' := 199) rfl
                obtain ⟨cq68, kq68, q68a, q68b, q68c⟩ := isOf hZ e67 (E_BASE64.ext fc65.2)
                obtain ⟨_, _, ⟨T68, L68, k68, n68⟩, -, X68, ⟨Lc68, hQ68, l68, y68, z68⟩, st68⟩ := X67.virtualBack hx (y := (⟨"com/example/wirecall/wirecall/xml/ScalarType", "withoutExtensions", "(Ljava/lang/Object;)Lcom/example/wirecall/wirecall/xml/ScalarType;"⟩ : MethodName)) (z := (⟨"com/example/wirecall/wirecall/xml/ScalarType", "withoutExtensions", "(Ljava/lang/Object;)Lcom/example/wirecall/wirecall/xml/ScalarType;"⟩ : MethodName)) hown (mvT hZ (hw _ (List.mem_of_getElem? (i := 14) rfl))) (mvT hZ (hw _ (List.mem_of_getElem? (i := 15) rfl))) (notFace_of_selects (args := #[]) (mvT hZ (hw _ (List.mem_of_getElem? (i := 17) rfl)))) (mvT hZ (hw _ (List.mem_of_getElem? (i := 96) rfl))) (mvT hZ (hw _ (List.mem_of_getElem? (i := 16) rfl))) (by decide) (backOf (W := 0) (rm_we_BASE64 l Z a0 hw [] w_BASE64 bv64 T64.heap n0 fc65 (E_BASE64.ext fc65.2)) hZ (hw _ (List.mem_of_getElem? (i := 18) rfl)) (hw _ (List.mem_of_getElem? (i := 1) rfl)) (by decide) (by decide)) q68a q68c (g := (mkF m 199 #[.val (.int p1), .val (.long q2), .second, .val (.int (p1 &&& (7 : Int32))), .val (.ref w_BASE64), .val (.ref bv64), .val (.ref w_BASE64)] [(.ref bv64), (.ref w_BASE64)])) rfl (by rw [hml]; rfl) (Steps.refl _) (argsL := [(.ref bv64)]) (rest := []) (lenOf pd_Ljava_lang_Object_r_Lcom_example_wirecall_wirecall_xml_ScalarType rfl) rfl (by show 2 * 0 + _ ≤ _; exact Nat.le_of_eq rfl) (hb hby at_199) (fun _ _ => ⟨rfl, e67, (by decide : 1 + 0 ≤ _), (by decide : 1 + 0 ≤ _)⟩)
                dsimp only [Pt.U, Pt.locs, Pt.cells, Pt.slots] at X68 l68 y68 z68 st68 hQ68
                subst l68 y68 z68
                obtain ⟨rfl, N68q, e68⟩ := hQ68
                have N68 := Fr.app N64 N68q
                replace k : Goes p e below s₁ G0 T68 (mkF m 202 #[.val (.int p1), .val (.long q2), .second, .val (.int (p1 &&& (7 : Int32))), .val (.ref w_BASE64), .val (.ref bv64), .val (.ref w_BASE64)] [(.ref w_BASE64)]) := fun t q => k t (st68.trans q)
                replace k := Fw.aload k X68 hx (hb hby at_202) rfl rfl (pc' := 204) rfl
                replace k := Fw.acmp k X68 hx (hb hby at_204) rfl rfl true (decide_eq_true rfl) (by decide) (pc' := 207) (by decide)
                replace k := Fw.iconst k X68 hx (hb hby at_207) (z := (1 : Int32)) (by decide) (pc' := 208) rfl
                replace k := Fw.goto k X68 hx (hb hby at_208) (by decide) (pc' := 212) rfl
                obtain ⟨fs, hr, hrun, hended, hW, hsame⟩ := X68.leave (v := some (.int 1)) (fun h => by rw [Bd.returns] at h; cases h)
                refine ⟨_, _, pre0 _ (k _ ?_), hrun, hended, _, _, rfl, ?_, ⟨_, rfl⟩, hW, hsame.mono (by decide) (by decide)⟩
                · exact retN X68 hx (t := .boolean) Bd.returns (by simp) (hb hby at_212) hr
                · show Q_law Z p1 q2 w_INT w_NIL w_I8 w_BOOLEAN w_STRING w_DATE_TIME w_DOUBLE w_BASE64 h0 n0 _ T68.heap _
                  rw [e68]
                  exact ⟨rfl, N68, trivial⟩
              · replace k := Fw.icmpYes k X0 hx (hb hby at_85) (feq hc85_60).2 (by decide) (pc' := 96) rfl
                obtain ⟨T69, X69, e69, st69⟩ := getS2 X0 hx hZ hown (host := "") (Or.inl (hw _ (List.mem_of_getElem? (i := 3) rfl))) Via.refl e0 (S_NIL.ext O0.2) (g := (mkF m 96 #[.val (.int p1), .val (.long q2), .second, .val (.int (p1 &&& (7 : Int32))), .unset, .unset, .unset] [])) rfl (hb hby at_96)
                replace k : Goes p e below s₁ G0 T69 (mkF m 99 #[.val (.int p1), .val (.long q2), .second, .val (.int (p1 &&& (7 : Int32))), .unset, .unset, .unset] [(.ref w_NIL)]) := fun t q => k t (st69 _ q)
                replace k := Fw.astore k X69 hx (hb hby at_99)  rfl (Ls' := #[.val (.int p1), .val (.long q2), .second, .val (.int (p1 &&& (7 : Int32))), .val (.ref w_NIL), .unset, .unset]) rfl (pc' := 101) rfl
                replace k := Fw.aload k X69 hx (hb hby at_101) rfl rfl (pc' := 103) rfl
                obtain ⟨T70, X70, e70, st70⟩ := getS2 X69 hx hZ hown (host := "") (Or.inl (hw _ (List.mem_of_getElem? (i := 3) rfl))) Via.refl e69 (S_NIL.ext O0.2) (g := (mkF m 103 #[.val (.int p1), .val (.long q2), .second, .val (.int (p1 &&& (7 : Int32))), .val (.ref w_NIL), .unset, .unset] [(.ref w_NIL)])) rfl (hb hby at_103)
                replace k : Goes p e below s₁ G0 T70 (mkF m 106 #[.val (.int p1), .val (.long q2), .second, .val (.int (p1 &&& (7 : Int32))), .val (.ref w_NIL), .unset, .unset] [(.ref w_NIL), (.ref w_NIL)]) := fun t q => k t (st70 _ q)
                replace k := Fw.acmp k X70 hx (hb hby at_106) rfl rfl true (decide_eq_true rfl) (by decide) (pc' := 109) (by decide)
                replace k := Fw.aconstNull k X70 hx (hb hby at_109) (pc' := 110) rfl
                replace k := Fw.astore k X70 hx (hb hby at_110)  rfl (Ls' := #[.val (.int p1), .val (.long q2), .second, .val (.int (p1 &&& (7 : Int32))), .val (.ref w_NIL), .val .null, .unset]) rfl (pc' := 112) rfl
                replace k := Fw.goto k X70 hx (hb hby at_112) (by decide) (pc' := 139) rfl
                replace k := Fw.aload k X70 hx (hb hby at_139) rfl rfl (pc' := 141) rfl
                obtain ⟨T71, X71, e71, st71⟩ := getS2 X70 hx hZ hown (host := "") (Or.inl (hw _ (List.mem_of_getElem? (i := 3) rfl))) Via.refl e70 (S_NIL.ext O0.2) (g := (mkF m 141 #[.val (.int p1), .val (.long q2), .second, .val (.int (p1 &&& (7 : Int32))), .val (.ref w_NIL), .val .null, .unset] [(.ref w_NIL)])) rfl (hb hby at_141)
                replace k : Goes p e below s₁ G0 T71 (mkF m 144 #[.val (.int p1), .val (.long q2), .second, .val (.int (p1 &&& (7 : Int32))), .val (.ref w_NIL), .val .null, .unset] [(.ref w_NIL), (.ref w_NIL)]) := fun t q => k t (st71 _ q)
                replace k := Fw.acmp k X71 hx (hb hby at_144) rfl rfl true (decide_eq_true rfl) (by decide) (pc' := 147) (by decide)
                replace k := Fw.aconstNull k X71 hx (hb hby at_147) (pc' := 148) rfl
                replace k := Fw.astore k X71 hx (hb hby at_148)  rfl (Ls' := #[.val (.int p1), .val (.long q2), .second, .val (.int (p1 &&& (7 : Int32))), .val (.ref w_NIL), .val .null, .val .null]) rfl (pc' := 150) rfl
                replace k := Fw.goto k X71 hx (hb hby at_150) (by decide) (pc' := 195) rfl
                replace k := Fw.aload k X71 hx (hb hby at_195) rfl rfl (pc' := 197) rfl
                replace k := Fw.aload k X71 hx (hb hby at_197) rfl rfl (pc' := 199) rfl
                obtain ⟨cq72, kq72, q72a, q72b, q72c⟩ := isOf hZ e71 (E_NIL.ext O0.2)
                obtain ⟨_, _, ⟨T72, L72, k72, n72⟩, -, X72, ⟨Lc72, hQ72, l72, y72, z72⟩, st72⟩ := X71.virtualBack hx (y := (⟨"com/example/wirecall/wirecall/xml/ScalarType", "withoutExtensions", "(Ljava/lang/Object;)Lcom/example/wirecall/wirecall/xml/ScalarType;"⟩ : MethodName)) (z := (⟨"com/example/wirecall/wirecall/xml/ScalarType", "withoutExtensions", "(Ljava/lang/Object;)Lcom/example/wirecall/wirecall/xml/ScalarType;"⟩ : MethodName)) hown (mvT hZ (hw _ (List.mem_of_getElem? (i := 14) rfl))) (mvT hZ (hw _ (List.mem_of_getElem? (i := 15) rfl))) (notFace_of_selects (args := #[]) (mvT hZ (hw _ (List.mem_of_getElem? (i := 17) rfl)))) (mvT hZ (hw _ (List.mem_of_getElem? (i := 72) rfl))) (mvT hZ (hw _ (List.mem_of_getElem? (i := 16) rfl))) (by decide) (backOf (W := 0) (rm_we_NIL l Z a0 hw [] w_NIL h0 n0 O0 (E_NIL.ext O0.2)) hZ (hw _ (List.mem_of_getElem? (i := 18) rfl)) (hw _ (List.mem_of_getElem? (i := 1) rfl)) (by decide) (by decide)) q72a q72c (g := (mkF m 199 #[.val (.int p1), .val (.long q2), .second, .val (.int (p1 &&& (7 : Int32))), .val (.ref w_NIL), .val .null, .val .null] [.null, (.ref w_NIL)])) rfl (by rw [hml]; rfl) (Steps.refl _) (argsL := [.null]) (rest := []) (lenOf pd_Ljava_lang_Object_r_Lcom_example_wirecall_wirecall_xml_ScalarType rfl) rfl (by show 2 * 0 + _ ≤ _; exact Nat.le_of_eq rfl) (hb hby at_199) (fun _ _ => ⟨rfl, e71, (by decide : 0 + 0 ≤ _), (by decide : 0 + 0 ≤ _)⟩)
                dsimp only [Pt.U, Pt.locs, Pt.cells, Pt.slots] at X72 l72 y72 z72 st72 hQ72
                subst l72 y72 z72
                obtain ⟨rfl, N72q, e72⟩ := hQ72
                have N72 := Fr.app N0 N72q
                replace k : Goes p e below s₁ G0 T72 (mkF m 202 #[.val (.int p1), .val (.long q2), .second, .val (.int (p1 &&& (7 : Int32))), .val (.ref w_NIL), .val .null, .val .null] [.null]) := fun t q => k t (st72.trans q)
                replace k := Fw.aload k X72 hx (hb hby at_202) rfl rfl (pc' := 204) rfl
                replace k := Fw.acmp k X72 hx (hb hby at_204) rfl rfl true (decide_eq_true rfl) (by decide) (pc' := 207) (by decide)
                replace k := Fw.iconst k X72 hx (hb hby at_207) (z := (1 : Int32)) (by decide) (pc' := 208) rfl
                replace k := Fw.goto k X72 hx (hb hby at_208) (by decide) (pc' := 212) rfl
                obtain ⟨fs, hr, hrun, hended, hW, hsame⟩ := X72.leave (v := some (.int 1)) (fun h => by rw [Bd.returns] at h; cases h)
                refine ⟨_, _, pre0 _ (k _ ?_), hrun, hended, _, _, rfl, ?_, ⟨_, rfl⟩, hW, hsame.mono (by decide) (by decide)⟩
                · exact retN X72 hx (t := .boolean) Bd.returns (by simp) (hb hby at_212) hr
                · show Q_law Z p1 q2 w_INT w_NIL w_I8 w_BOOLEAN w_STRING w_DATE_TIME w_DOUBLE w_BASE64 h0 n0 _ T72.heap _
                  rw [e72]
                  exact ⟨rfl, N72, trivial⟩
set_option maxRecDepth 65536 in
set_option maxHeartbeats 40000000 in
theorem comes_1 {Post : Tables → Env → Array Value → State → Outcome → State → Prop} (hpost : ∀ tb e args s v u, (limb_1_1.after args s (.returned v) u = true ∧ limb_1_2.after args s (.returned v) u = true ∧ True) → FrameEnd s (.returned v) u (Jvm.fieldLocs frame_1_writes args s ++ Jvm.arrayLocs frame_1_arrays args s ++ Jvm.staticLocs frame_1_statics s) 16 128 → Post tb e args s (.returned v) u) :
    ArmFor flags0 classFile x code maxLocals ret World_1 tables_1 room_1 Calls_1 rest_1 Pre_1 Post := by
  intro l hfl _ _ p e ha hc hk s m args below hf hA hF happ hP
  obtain ⟨hcalls, hrest, hpre⟩ := hP
  obtain ⟨-, -, -, hnamed, -, -, -, hat⟩ := (Spec.applies_iff hf).mp happ
  obtain ⟨hg, hn⟩ := and_e (Cond.before_iff.mp (show (Jvm.Cond.and given_1 narrow_1).before args s = true from hpre))
  obtain ⟨g0, gr0⟩ := and_e hg
  obtain ⟨ga0, gr1⟩ := and_e gr0
  have ga1 := gr1
  obtain ⟨w0, w1, rfl⟩ : ∃ w0 w1 : Value, args = #[w0, w1] := by
    have hs : args.size = 2 := by simpa [Cond.value, given_1] using g0
    obtain ⟨L⟩ := args
    match L, hs with
    | [w0, w1], _ => exact ⟨w0, w1, rfl⟩
  have hw := fun d (hd : d ∈ tables_1) => atoms_spec (ws := Jvm.Cond.code x code maxLocals ret :: tables_1) hat d (List.mem_cons_of_mem _ hd)
  have hfit : Fit s := fun {y c} hc i hi => by
    obtain ⟨ha, rfl⟩ := Array.getElem?_eq_some_iff.mp hc
    have q := List.all_eq_true.mp ((Array.all_eq_true_iff_forall_mem.mp hF) _ (Array.getElem_mem ha)) i (List.mem_range.mpr hi)
    simpa [Array.getElem?_eq_getElem hi] using q
  obtain ⟨hsets, hown0⟩ := atoms_of _ (rest_1_c_eq ▸ (show rest_1_c.before _ s = true from hrest))
  have hr0 := Cond.before_iff.mp hown0
  obtain ⟨i0, ei0⟩ := is_v ga0
  obtain rfl : w0 = (.int i0) := Option.some.inj ei0
  obtain ⟨i1, ei1⟩ := isL_v ga1
  obtain rfl : w1 = (.long i1) := Option.some.inj ei1
  obtain ⟨nq0, hn⟩ := and_e hn
  obtain ⟨nq1, hn⟩ := and_e hn
  obtain ⟨nq2, hn⟩ := and_e hn
  obtain ⟨nq3, hn⟩ := and_e hn
  obtain ⟨nq4, hn⟩ := and_e hn
  obtain ⟨nq5, hn⟩ := and_e hn
  obtain ⟨nq6, hn⟩ := and_e hn
  have nq7 := hn
  obtain ⟨a_INT, ev_INT⟩ := exa_v nq0
  have E_INT := Exa.start ev_INT nq0
  have S_INT := Sta.start ev_INT (Or.inr ⟨(hw _ (List.mem_of_getElem? (i := 1) rfl)), (hw _ (List.mem_of_getElem? (i := 2) rfl))⟩)
  obtain ⟨a_NIL, ev_NIL⟩ := exa_v nq1
  have E_NIL := Exa.start ev_NIL nq1
  have S_NIL := Sta.start ev_NIL (Or.inr ⟨(hw _ (List.mem_of_getElem? (i := 1) rfl)), (hw _ (List.mem_of_getElem? (i := 4) rfl))⟩)
  obtain ⟨a_I8, ev_I8⟩ := exa_v nq2
  have E_I8 := Exa.start ev_I8 nq2
  have S_I8 := Sta.start ev_I8 (Or.inr ⟨(hw _ (List.mem_of_getElem? (i := 1) rfl)), (hw _ (List.mem_of_getElem? (i := 13) rfl))⟩)
  obtain ⟨a_BOOLEAN, ev_BOOLEAN⟩ := exa_v nq3
  have E_BOOLEAN := Exa.start ev_BOOLEAN nq3
  have S_BOOLEAN := Sta.start ev_BOOLEAN (Or.inr ⟨(hw _ (List.mem_of_getElem? (i := 1) rfl)), (hw _ (List.mem_of_getElem? (i := 58) rfl))⟩)
  obtain ⟨a_STRING, ev_STRING⟩ := exa_v nq4
  have E_STRING := Exa.start ev_STRING nq4
  have S_STRING := Sta.start ev_STRING (Or.inr ⟨(hw _ (List.mem_of_getElem? (i := 1) rfl)), (hw _ (List.mem_of_getElem? (i := 78) rfl))⟩)
  obtain ⟨a_DATE_TIME, ev_DATE_TIME⟩ := exa_v nq5
  have E_DATE_TIME := Exa.start ev_DATE_TIME nq5
  have S_DATE_TIME := Sta.start ev_DATE_TIME (Or.inr ⟨(hw _ (List.mem_of_getElem? (i := 1) rfl)), (hw _ (List.mem_of_getElem? (i := 85) rfl))⟩)
  obtain ⟨a_DOUBLE, ev_DOUBLE⟩ := exa_v nq6
  have E_DOUBLE := Exa.start ev_DOUBLE nq6
  have S_DOUBLE := Sta.start ev_DOUBLE (Or.inr ⟨(hw _ (List.mem_of_getElem? (i := 1) rfl)), (hw _ (List.mem_of_getElem? (i := 91) rfl))⟩)
  obtain ⟨a_BASE64, ev_BASE64⟩ := exa_v nq7
  have E_BASE64 := Exa.start ev_BASE64 nq7
  have S_BASE64 := Sta.start ev_BASE64 (Or.inr ⟨(hw _ (List.mem_of_getElem? (i := 1) rfl)), (hw _ (List.mem_of_getElem? (i := 95) rfl))⟩)
  have HL := own_LongCache (Or.inl (hsets _ (List.mem_of_getElem? (i := 9) rfl))) (hsets _ (List.mem_of_getElem? (i := 10) rfl)) (hsets _ (List.mem_of_getElem? (i := 12) rfl)) (hsets _ (List.mem_of_getElem? (i := 13) rfl))
  have HI := own_IntegerCache (Or.inr ⟨(hw _ (List.mem_of_getElem? (i := 10) rfl)), (hsets _ (List.mem_of_getElem? (i := 2) rfl))⟩) (hsets _ (List.mem_of_getElem? (i := 4) rfl)) (hsets _ (List.mem_of_getElem? (i := 6) rfl)) (hsets _ (List.mem_of_getElem? (i := 7) rfl))
  have HH := Sta.start (eqv_i (Term.int_eval 127) (Cond.before_iff.mp (hsets _ (List.mem_of_getElem? (i := 3) rfl)))) (Or.inl (hsets _ (List.mem_of_getElem? (i := 1) rfl)))
  obtain ⟨n, o, h1, h2, h3, _, L, rfl, ⟨rfl, N, -⟩, hq⟩ := rm_law l s _ hw tables_1 i0 i1 a_INT a_NIL a_I8 a_BOOLEAN a_STRING a_DATE_TIME a_DOUBLE a_BASE64 s.heap s.heap.size (Old.start s) HL HI HH S_INT E_INT S_NIL E_NIL S_I8 E_I8 S_BOOLEAN E_BOOLEAN S_STRING E_STRING S_DATE_TIME E_DATE_TIME S_DOUBLE E_DOUBLE S_BASE64 E_BASE64 p e ha hc hk s m _ below hf ((Spec.applies_iff_loose hf).mp happ).1 ⟨rfl, State.Warmed39.refl s, rfl⟩ trivial
  refine ⟨n, _, h1, h2, h3, hpost _ _ _ _ _ _ ⟨Cond.after_iff.mpr rfl, Cond.after_iff.mpr (eq_i res_at (Term.int_eval (1)) rfl), trivial⟩ ⟨hq.1, hq.2.1, (hq.2.2.sift fun y hy => Or.inr (N y hy)).mono (by decide) (by decide)⟩⟩
theorem main_1_1 : Claimed_1_1 := comes_1 fun _ _ _ _ _ _ h hF => ⟨h.1, hF⟩
theorem main_1_2 : Claimed_1_2 := comes_1 fun _ _ _ _ _ _ h hF => ⟨h.2.1, hF⟩
end Jvm.Pilot.@@N@@
namespace Jvm.Pilot.@@N@@
open Jvm Jvm.ClassFile Sem Op Lib Jvm.Free Jvm.Stand Jvm.Pilot.@@N@@.Jvm.D
/-! MADE BY PROGRAM (witnessworld.py) out of the Statement's table words and the real class files: 28 classes; the members and pool entries that the words name. The judged class is class 1, her method 1. -/
namespace start1
open Jvm.ClassFile
def u (s : String) : CpInfo := .utf8 (stringToUtf16 s)
/-- a pool by its gaps: so many unusable entries, then the entry; so many at the end -/
def gap : Nat → List CpInfo → List CpInfo
  | 0, r => r
  | n + 1, r => .unusable :: gap n r
def poolList (es : List (Nat × CpInfo)) (last : Nat) : List CpInfo := es.foldr (fun e r => gap e.1 (e.2 :: r)) (gap last [])
def pool (es : List (Nat × CpInfo)) (last : Nat) : Array CpInfo := ⟨poolList es last⟩
def fileOf (pool : Array CpInfo) (this : Nat) (attrs : Array Attribute := #[]) (ms : Array MethodInfo := #[]) (fl : Nat := 33) (sup : Nat := 0) (ifs : Array Nat := #[]) (fds : Array FieldInfo := #[]) : ClassFile where
  minorVersion := 0
  majorVersion := 65
  constantPool := pool
  accessFlags := fl
  thisClass := this
  superClass := sup
  interfaces := ifs
  fields := fds
  methods := ms
  attributes := attrs
def plain (name : String) (sup : Option ClassId) : Class where
  name := name
  kind := .ordinary
  loader := none
  accessFlags := 33
  super := sup
  interfaces := #[]
  cf := none
  fields := #[]
  methods := #[]
  instanceTypes := #[]
  staticTypes := #[]
  resolved := #[]
  callSites := []
  init := .initialized
  statics := none
  mirror := none

def pool0 : Array CpInfo := pool [(5, u "<init>"), (0, u "()V"), (1, .class_ 10), (1, u "java/lang/Object")] 113

def k0c0 : Code := { maxStack := 0, maxLocals := 1, code := object_method_1_code, exceptionTable := #[], attributes := #[] }
def k0m0 : Method := { name := "<init>", desc := "()V", sig := { parameters := [], returnType := none }, accessFlags := 1, code := some k0c0 }
/-- java/lang/Object -/
def k0 : Class := { plain "java/lang/Object" none with
  accessFlags := 33
  interfaces := #[]
  cf := some (fileOf pool0 8 #[] #[{ accessFlags := 1, nameIndex := 5, descriptorIndex := 6, attributes := #[] }] 33 0 #[] #[])
  fields := #[]
  methods := #[k0m0]
  instanceTypes := #[]
  staticTypes := #[]
  resolved := Array.replicate 124 none
  statics := none }

def pool1 : Array CpInfo := pool [(2, .class_ 4), (1, u "java/lang/Object"), (0, u "<init>"), (0, u "()V"), (0, .fieldref 8 9), (0, .class_ 10), (0, .nameAndType 11 12), (0, u "com/example/wirecall/wirecall/xml/ScalarType"), (0, u "INT"), (0, u "Lcom/example/wirecall/wirecall/xml/ScalarType;"), (0, .fieldref 8 14), (0, .nameAndType 15 12), (0, u "I8"), (0, .fieldref 8 17), (0, .nameAndType 18 12), (0, u "BOOLEAN"), (0, .fieldref 8 20), (0, .nameAndType 21 12), (0, u "STRING"), (0, .fieldref 8 23), (0, .nameAndType 24 12), (0, u "DOUBLE"), (0, .fieldref 8 26), (0, .nameAndType 27 12), (0, u "DATE_TIME"), (0, .fieldref 8 29), (0, .nameAndType 30 12), (0, u "BASE64"), (0, .fieldref 8 32), (0, .nameAndType 33 12), (0, u "NIL"), (0, .methodref 35 36), (0, .class_ 37), (0, .nameAndType 38 39), (0, u "java/lang/Integer"), (0, u "valueOf"), (0, u "(I)Ljava/lang/Integer;"), (0, .methodref 41 42), (0, .class_ 43), (0, .nameAndType 38 44), (0, u "java/lang/Long"), (0, u "(J)Ljava/lang/Long;"), (0, .long 18446744071562067968), (1, .long 2147483647), (1, .methodref 8 50), (0, .nameAndType 51 52), (0, u "withoutExtensions"), (0, u "(Ljava/lang/Object;)Lcom/example/wirecall/wirecall/xml/ScalarType;"), (0, .class_ 54), (0, u "com/example/wirecall/wirecall/xml/ScalarTypeWithoutExtensionsPinLaw"), (2, u "law"), (0, u "(IJ)Z")] 3

def k1m0 : Method := { name := "<init>", desc := "()V", sig := { parameters := [], returnType := none }, accessFlags := 1, code := none }
def k1c1 : Code := { maxStack := 4, maxLocals := 7, code := code, exceptionTable := #[], attributes := #[] }
def k1m1 : Method := { name := "law", desc := "(IJ)Z", sig := { parameters := [.int, .long], returnType := some .boolean }, accessFlags := 9, code := some k1c1 }
/-- com/example/wirecall/wirecall/xml/ScalarTypeWithoutExtensionsPinLaw -/
def k1 : Class := { plain "com/example/wirecall/wirecall/xml/ScalarTypeWithoutExtensionsPinLaw" (some 0) with
  accessFlags := 49
  interfaces := #[]
  cf := some (fileOf pool1 53 #[] #[{ accessFlags := 1, nameIndex := 5, descriptorIndex := 6, attributes := #[] }, { accessFlags := 9, nameIndex := 57, descriptorIndex := 58, attributes := #[] }] 49 2 #[] #[])
  fields := #[]
  methods := #[k1m0, k1m1]
  instanceTypes := #[]
  staticTypes := #[]
  resolved := Array.replicate 62 none
  statics := none }

def pool2 : Array CpInfo := pool [(1, .class_ 2), (0, u "java/lang/constant/Constable"), (0, .class_ 4), (0, u "java/lang/Object")] 6

/-- java/lang/constant/Constable -/
def k2 : Class := { plain "java/lang/constant/Constable" (some 0) with
  accessFlags := 1537
  interfaces := #[]
  cf := some (fileOf pool2 1 #[] #[] 1537 3 #[] #[])
  fields := #[]
  methods := #[]
  instanceTypes := #[]
  staticTypes := #[]
  resolved := Array.replicate 11 none
  statics := none }

def pool3 : Array CpInfo := pool [(1, .class_ 2), (0, u "java/lang/Comparable"), (0, .class_ 4), (0, u "java/lang/Object")] 7

/-- java/lang/Comparable -/
def k3 : Class := { plain "java/lang/Comparable" (some 0) with
  accessFlags := 1537
  interfaces := #[]
  cf := some (fileOf pool3 1 #[] #[] 1537 3 #[] #[])
  fields := #[]
  methods := #[]
  instanceTypes := #[]
  staticTypes := #[]
  resolved := Array.replicate 12 none
  statics := none }

def pool4 : Array CpInfo := pool [(1, .class_ 2), (0, u "java/io/Serializable"), (0, .class_ 4), (0, u "java/lang/Object")] 2

/-- java/io/Serializable -/
def k4 : Class := { plain "java/io/Serializable" (some 0) with
  accessFlags := 1537
  interfaces := #[]
  cf := some (fileOf pool4 1 #[] #[] 1537 3 #[] #[])
  fields := #[]
  methods := #[]
  instanceTypes := #[]
  staticTypes := #[]
  resolved := Array.replicate 7 none
  statics := none }

def pool5 : Array CpInfo := pool [(2, .class_ 4), (1, u "java/lang/Enum"), (0, u "name"), (0, u "Ljava/lang/String;"), (2, u "ordinal"), (0, u "I"), (1, .class_ 14), (1, u "java/lang/Object"), (4, u "hash"), (86, .class_ 108), (1, u "java/lang/Enum$EnumDesc"), (2, .class_ 112), (0, u "java/lang/constant/Constable"), (0, .class_ 114), (0, u "java/lang/Comparable"), (0, .class_ 116), (0, u "java/io/Serializable")] 87

/-- java/lang/Enum -/
def k5 : Class := { plain "java/lang/Enum" (some 0) with
  accessFlags := 1057
  interfaces := #[2, 3, 4]
  cf := some (fileOf pool5 2 #[.nestMembers #[106]] #[] 1057 12 #[111, 113, 115] #[{ accessFlags := 18, nameIndex := 5, descriptorIndex := 6, attributes := #[] }, { accessFlags := 18, nameIndex := 9, descriptorIndex := 10, attributes := #[] }, { accessFlags := 2, nameIndex := 19, descriptorIndex := 10, attributes := #[] }])
  fields := #[{ name := "name", type := (.object "java/lang/String"), accessFlags := 18, slot := 0, constantValue := 0 }, { name := "ordinal", type := .int, accessFlags := 18, slot := 1, constantValue := 0 }, { name := "hash", type := .int, accessFlags := 2, slot := 2, constantValue := 0 }]
  methods := #[]
  instanceTypes := #[(.object "java/lang/String"), .int, .int]
  staticTypes := #[]
  resolved := Array.replicate 204 none
  statics := none }

def pool6 : Array CpInfo := pool [(1, .class_ 2), (0, u "com/example/wirecall/wirecall/xml/ScalarType"), (2, u "INT"), (0, u "Lcom/example/wirecall/wirecall/xml/ScalarType;"), (2, u "I8"), (2, u "BOOLEAN"), (2, u "STRING"), (2, u "DOUBLE"), (2, u "DATE_TIME"), (2, u "BASE64"), (2, u "NIL"), (2, u "$VALUES"), (0, u "[Lcom/example/wirecall/wirecall/xml/ScalarType;"), (6, .class_ 40), (1, u "java/lang/Enum"), (8, u "element"), (0, u "Ljava/lang/String;"), (2, u "javaType"), (0, u "Ljava/lang/Class;"), (2, u "form"), (2, u "BY_ELEMENT"), (0, u "Ljava/util/Map;"), (8, u "ALL"), (12, .methodref 1 84), (0, .nameAndType 85 86), (0, u "isExtension"), (0, u "()Z"), (124, .class_ 212), (0, u "com/example/wirecall/wirecall/xml/ScalarType$1"), (10, .class_ 224), (0, u "com/example/wirecall/wirecall/xml/ScalarType$2"), (8, .class_ 234), (0, u "com/example/wirecall/wirecall/xml/ScalarType$3"), (8, .class_ 244), (0, u "com/example/wirecall/wirecall/xml/ScalarType$4"), (6, .class_ 252), (0, u "com/example/wirecall/wirecall/xml/ScalarType$5"), (6, .class_ 260), (0, u "com/example/wirecall/wirecall/xml/ScalarType$6"), (8, .class_ 270), (0, u "com/example/wirecall/wirecall/xml/ScalarType$7"), (8, .class_ 280), (0, u "com/example/wirecall/wirecall/xml/ScalarType$8"), (19, u "DOUBLE_FORM"), (0, u "Ljava/util/regex/Pattern;"), (20, u "DATE_TIME_FORMAT"), (0, u "Ljava/time/format/DateTimeFormatter;"), (4, u "DATE_TIME_FORM"), (1, u "MAX_DOUBLE_DIGITS"), (0, u "I"), (1, u "MAX_UNIQUE_DIGITS"), (11, u "(Ljava/lang/Object;)Lcom/example/wirecall/wirecall/xml/ScalarType;"), (8, u "withoutExtensions")] 33

def k6c0 : Code := { maxStack := 1, maxLocals := 1, code := prog_30_method_11_code, exceptionTable := #[], attributes := #[] }
def k6m0 : Method := { name := "isExtension", desc := "()Z", sig := { parameters := [], returnType := some .boolean }, accessFlags := 0, code := some k6c0 }
def k6c1 : Code := { maxStack := 1, maxLocals := 2, code := prog_30_method_12_code, exceptionTable := #[], attributes := #[] }
def k6m1 : Method := { name := "withoutExtensions", desc := "(Ljava/lang/Object;)Lcom/example/wirecall/wirecall/xml/ScalarType;", sig := { parameters := [(.object "java/lang/Object")], returnType := some (.object "com/example/wirecall/wirecall/xml/ScalarType") }, accessFlags := 0, code := some k6c1 }
/-- com/example/wirecall/wirecall/xml/ScalarType -/
def k6 : Class := { plain "com/example/wirecall/wirecall/xml/ScalarType" (some 5) with
  accessFlags := 17440
  interfaces := #[]
  cf := some (fileOf pool6 1 #[.nestMembers #[279, 269, 259, 251, 243, 233, 223, 211]] #[{ accessFlags := 0, nameIndex := 85, descriptorIndex := 86, attributes := #[] }, { accessFlags := 0, nameIndex := 354, descriptorIndex := 345, attributes := #[] }] 17440 38 #[] #[{ accessFlags := 16409, nameIndex := 5, descriptorIndex := 6, attributes := #[] }, { accessFlags := 16409, nameIndex := 9, descriptorIndex := 6, attributes := #[] }, { accessFlags := 16409, nameIndex := 12, descriptorIndex := 6, attributes := #[] }, { accessFlags := 16409, nameIndex := 15, descriptorIndex := 6, attributes := #[] }, { accessFlags := 16409, nameIndex := 18, descriptorIndex := 6, attributes := #[] }, { accessFlags := 16409, nameIndex := 21, descriptorIndex := 6, attributes := #[] }, { accessFlags := 16409, nameIndex := 24, descriptorIndex := 6, attributes := #[] }, { accessFlags := 16409, nameIndex := 27, descriptorIndex := 6, attributes := #[] }, { accessFlags := 26, nameIndex := 300, descriptorIndex := 301, attributes := #[] }, { accessFlags := 26, nameIndex := 328, descriptorIndex := 50, attributes := #[] }, { accessFlags := 26, nameIndex := 322, descriptorIndex := 323, attributes := #[] }, { accessFlags := 26, nameIndex := 330, descriptorIndex := 331, attributes := #[] }, { accessFlags := 26, nameIndex := 333, descriptorIndex := 331, attributes := #[] }, { accessFlags := 26, nameIndex := 70, descriptorIndex := 31, attributes := #[] }, { accessFlags := 26, nameIndex := 60, descriptorIndex := 61, attributes := #[] }, { accessFlags := 18, nameIndex := 49, descriptorIndex := 50, attributes := #[] }, { accessFlags := 18, nameIndex := 53, descriptorIndex := 54, attributes := #[] }, { accessFlags := 18, nameIndex := 57, descriptorIndex := 50, attributes := #[] }, { accessFlags := 4122, nameIndex := 30, descriptorIndex := 31, attributes := #[] }])
  fields := #[{ name := "INT", type := (.object "com/example/wirecall/wirecall/xml/ScalarType"), accessFlags := 16409, slot := 0, constantValue := 0 }, { name := "I8", type := (.object "com/example/wirecall/wirecall/xml/ScalarType"), accessFlags := 16409, slot := 1, constantValue := 0 }, { name := "BOOLEAN", type := (.object "com/example/wirecall/wirecall/xml/ScalarType"), accessFlags := 16409, slot := 2, constantValue := 0 }, { name := "STRING", type := (.object "com/example/wirecall/wirecall/xml/ScalarType"), accessFlags := 16409, slot := 3, constantValue := 0 }, { name := "DOUBLE", type := (.object "com/example/wirecall/wirecall/xml/ScalarType"), accessFlags := 16409, slot := 4, constantValue := 0 }, { name := "DATE_TIME", type := (.object "com/example/wirecall/wirecall/xml/ScalarType"), accessFlags := 16409, slot := 5, constantValue := 0 }, { name := "BASE64", type := (.object "com/example/wirecall/wirecall/xml/ScalarType"), accessFlags := 16409, slot := 6, constantValue := 0 }, { name := "NIL", type := (.object "com/example/wirecall/wirecall/xml/ScalarType"), accessFlags := 16409, slot := 7, constantValue := 0 }, { name := "DOUBLE_FORM", type := (.object "java/util/regex/Pattern"), accessFlags := 26, slot := 8, constantValue := 0 }, { name := "DATE_TIME_FORM", type := (.object "java/lang/String"), accessFlags := 26, slot := 9, constantValue := 0 }, { name := "DATE_TIME_FORMAT", type := (.object "java/time/format/DateTimeFormatter"), accessFlags := 26, slot := 10, constantValue := 0 }, { name := "MAX_DOUBLE_DIGITS", type := .int, accessFlags := 26, slot := 11, constantValue := 0 }, { name := "MAX_UNIQUE_DIGITS", type := .int, accessFlags := 26, slot := 12, constantValue := 0 }, { name := "ALL", type := (.array (.object "com/example/wirecall/wirecall/xml/ScalarType")), accessFlags := 26, slot := 13, constantValue := 0 }, { name := "BY_ELEMENT", type := (.object "java/util/Map"), accessFlags := 26, slot := 14, constantValue := 0 }, { name := "element", type := (.object "java/lang/String"), accessFlags := 18, slot := 3, constantValue := 0 }, { name := "javaType", type := (.object "java/lang/Class"), accessFlags := 18, slot := 4, constantValue := 0 }, { name := "form", type := (.object "java/lang/String"), accessFlags := 18, slot := 5, constantValue := 0 }, { name := "$VALUES", type := (.array (.object "com/example/wirecall/wirecall/xml/ScalarType")), accessFlags := 4122, slot := 15, constantValue := 0 }]
  methods := #[k6m0, k6m1]
  instanceTypes := #[(.object "java/lang/String"), .int, .int, (.object "java/lang/String"), (.object "java/lang/Class"), (.object "java/lang/String")]
  staticTypes := #[(.object "com/example/wirecall/wirecall/xml/ScalarType"), (.object "com/example/wirecall/wirecall/xml/ScalarType"), (.object "com/example/wirecall/wirecall/xml/ScalarType"), (.object "com/example/wirecall/wirecall/xml/ScalarType"), (.object "com/example/wirecall/wirecall/xml/ScalarType"), (.object "com/example/wirecall/wirecall/xml/ScalarType"), (.object "com/example/wirecall/wirecall/xml/ScalarType"), (.object "com/example/wirecall/wirecall/xml/ScalarType"), (.object "java/util/regex/Pattern"), (.object "java/lang/String"), (.object "java/time/format/DateTimeFormatter"), .int, .int, (.array (.object "com/example/wirecall/wirecall/xml/ScalarType")), (.object "java/util/Map"), (.array (.object "com/example/wirecall/wirecall/xml/ScalarType"))]
  resolved := Array.replicate 388 none
  statics := some 0 }

def pool7 : Array CpInfo := pool [(1, .methodref 2 3), (0, .class_ 4), (0, .nameAndType 5 6), (0, u "java/lang/Object"), (0, u "<init>"), (0, u "()V"), (1, .class_ 10), (1, u "java/lang/Number"), (2, .class_ 14), (0, u "java/io/Serializable"), (0, u "serialVersionUID"), (0, u "J")] 20

def k7c0 : Code := { maxStack := 1, maxLocals := 1, code := jdk_18_method_1_code, exceptionTable := #[], attributes := #[] }
def k7m0 : Method := { name := "<init>", desc := "()V", sig := { parameters := [], returnType := none }, accessFlags := 1, code := some k7c0 }
/-- java/lang/Number -/
def k7 : Class := { plain "java/lang/Number" (some 0) with
  accessFlags := 1057
  interfaces := #[4]
  cf := some (fileOf pool7 8 #[] #[{ accessFlags := 1, nameIndex := 5, descriptorIndex := 6, attributes := #[] }] 1057 2 #[13] #[{ accessFlags := 26, nameIndex := 15, descriptorIndex := 16, attributes := #[] }])
  fields := #[{ name := "serialVersionUID", type := .long, accessFlags := 26, slot := 0, constantValue := 0 }]
  methods := #[k7m0]
  instanceTypes := #[]
  staticTypes := #[.long]
  resolved := Array.replicate 37 none
  statics := none }

def pool8 : Array CpInfo := pool [(1, .class_ 2), (0, u "java/lang/constant/ConstantDesc"), (0, .class_ 4), (0, u "java/lang/Object")] 32

/-- java/lang/constant/ConstantDesc -/
def k8 : Class := { plain "java/lang/constant/ConstantDesc" (some 0) with
  accessFlags := 1537
  interfaces := #[]
  cf := some (fileOf pool8 1 #[] #[] 1537 3 #[] #[])
  fields := #[]
  methods := #[]
  instanceTypes := #[]
  staticTypes := #[]
  resolved := Array.replicate 37 none
  statics := none }

def pool9 : Array CpInfo := pool [(1, .class_ 2), (0, u "java/lang/Integer"), (16, u "digits"), (0, u "[C"), (46, u "<init>"), (17, u "DigitOnes"), (0, u "[B"), (2, u "DigitTens"), (10, .nameAndType 67 101), (0, u "()V"), (85, u "valueOf"), (0, u "(I)Ljava/lang/Integer;"), (0, .class_ 190), (0, u "java/lang/Integer$IntegerCache"), (0, .fieldref 189 192), (0, .nameAndType 193 194), (0, u "high"), (0, u "I"), (0, .fieldref 189 196), (0, .nameAndType 197 198), (0, u "cache"), (0, u "[Ljava/lang/Integer;"), (0, .methodref 1 200), (0, .nameAndType 67 201), (0, u "(I)V"), (0, .methodref 203 100), (0, .class_ 204), (0, u "java/lang/Number"), (0, .fieldref 1 206), (0, .nameAndType 207 194), (0, u "value"), (94, u "TYPE"), (0, u "Ljava/lang/Class;"), (0, .class_ 305), (0, u "java/lang/Comparable"), (0, .class_ 307), (0, u "java/lang/constant/Constable"), (0, .class_ 309), (0, u "java/lang/constant/ConstantDesc"), (0, u "MIN_VALUE"), (1, u "MAX_VALUE"), (3, u "SIZE"), (1, u "BYTES"), (1, u "serialVersionUID"), (0, u "J")] 131

def k9c0 : Code := { maxStack := 3, maxLocals := 1, code := jdk_33_method_22_code, exceptionTable := #[], attributes := #[] }
def k9m0 : Method := { name := "valueOf", desc := "(I)Ljava/lang/Integer;", sig := { parameters := [.int], returnType := some (.object "java/lang/Integer") }, accessFlags := 9, code := some k9c0 }
def k9c1 : Code := { maxStack := 2, maxLocals := 2, code := jdk_33_method_23_code, exceptionTable := #[], attributes := #[] }
def k9m1 : Method := { name := "<init>", desc := "(I)V", sig := { parameters := [.int], returnType := none }, accessFlags := 1, code := some k9c1 }
/-- java/lang/Integer -/
def k9 : Class := { plain "java/lang/Integer" (some 7) with
  accessFlags := 49
  interfaces := #[3, 2, 8]
  cf := some (fileOf pool9 1 #[.nestMembers #[189]] #[{ accessFlags := 9, nameIndex := 187, descriptorIndex := 188, attributes := #[] }, { accessFlags := 1, nameIndex := 67, descriptorIndex := 201, attributes := #[] }] 49 203 #[304, 306, 308] #[{ accessFlags := 25, nameIndex := 310, descriptorIndex := 194, attributes := #[] }, { accessFlags := 25, nameIndex := 312, descriptorIndex := 194, attributes := #[] }, { accessFlags := 25, nameIndex := 302, descriptorIndex := 303, attributes := #[] }, { accessFlags := 24, nameIndex := 19, descriptorIndex := 20, attributes := #[] }, { accessFlags := 24, nameIndex := 89, descriptorIndex := 86, attributes := #[] }, { accessFlags := 24, nameIndex := 85, descriptorIndex := 86, attributes := #[] }, { accessFlags := 18, nameIndex := 207, descriptorIndex := 194, attributes := #[] }, { accessFlags := 25, nameIndex := 316, descriptorIndex := 194, attributes := #[] }, { accessFlags := 25, nameIndex := 318, descriptorIndex := 194, attributes := #[] }, { accessFlags := 26, nameIndex := 320, descriptorIndex := 321, attributes := #[] }])
  fields := #[{ name := "MIN_VALUE", type := .int, accessFlags := 25, slot := 0, constantValue := 0 }, { name := "MAX_VALUE", type := .int, accessFlags := 25, slot := 1, constantValue := 0 }, { name := "TYPE", type := (.object "java/lang/Class"), accessFlags := 25, slot := 2, constantValue := 0 }, { name := "digits", type := (.array .char), accessFlags := 24, slot := 3, constantValue := 0 }, { name := "DigitTens", type := (.array .byte), accessFlags := 24, slot := 4, constantValue := 0 }, { name := "DigitOnes", type := (.array .byte), accessFlags := 24, slot := 5, constantValue := 0 }, { name := "value", type := .int, accessFlags := 18, slot := 0, constantValue := 0 }, { name := "SIZE", type := .int, accessFlags := 25, slot := 6, constantValue := 0 }, { name := "BYTES", type := .int, accessFlags := 25, slot := 7, constantValue := 0 }, { name := "serialVersionUID", type := .long, accessFlags := 26, slot := 8, constantValue := 0 }]
  methods := #[k9m0, k9m1]
  instanceTypes := #[.int]
  staticTypes := #[.int, .int, (.object "java/lang/Class"), (.array .char), (.array .byte), (.array .byte), .int, .int, .long]
  resolved := Array.replicate 453 none
  statics := none }

def pool10 : Array CpInfo := pool [(2, .class_ 4), (1, u "java/lang/Object"), (0, u "<init>"), (0, u "()V"), (0, .class_ 8), (0, u "java/lang/Integer"), (7, .class_ 18), (1, u "java/lang/Integer$IntegerCache"), (0, u "$assertionsDisabled"), (0, u "Z"), (26, u "high"), (0, u "I"), (8, u "archivedCache"), (0, u "[Ljava/lang/Integer;"), (12, u "cache"), (0, u "low")] 27

def k10m0 : Method := { name := "<init>", desc := "()V", sig := { parameters := [], returnType := none }, accessFlags := 2, code := none }
/-- java/lang/Integer$IntegerCache -/
def k10 : Class := { plain "java/lang/Integer$IntegerCache" (some 0) with
  accessFlags := 48
  interfaces := #[]
  cf := some (fileOf pool10 16 #[.nestHost 7] #[{ accessFlags := 2, nameIndex := 5, descriptorIndex := 6, attributes := #[] }] 48 2 #[] #[{ accessFlags := 24, nameIndex := 72, descriptorIndex := 48, attributes := #[] }, { accessFlags := 24, nameIndex := 47, descriptorIndex := 48, attributes := #[] }, { accessFlags := 24, nameIndex := 71, descriptorIndex := 58, attributes := #[] }, { accessFlags := 8, nameIndex := 57, descriptorIndex := 58, attributes := #[] }, { accessFlags := 4120, nameIndex := 19, descriptorIndex := 20, attributes := #[] }])
  fields := #[{ name := "low", type := .int, accessFlags := 24, slot := 0, constantValue := 0 }, { name := "high", type := .int, accessFlags := 24, slot := 1, constantValue := 0 }, { name := "cache", type := (.array (.object "java/lang/Integer")), accessFlags := 24, slot := 2, constantValue := 0 }, { name := "archivedCache", type := (.array (.object "java/lang/Integer")), accessFlags := 8, slot := 3, constantValue := 0 }, { name := "$assertionsDisabled", type := .boolean, accessFlags := 4120, slot := 4, constantValue := 0 }]
  methods := #[k10m0]
  instanceTypes := #[]
  staticTypes := #[.int, .int, (.array (.object "java/lang/Integer")), (.array (.object "java/lang/Integer")), .boolean]
  resolved := Array.replicate 100 none
  statics := some 1 }

def pool11 : Array CpInfo := pool [(2, .class_ 4), (1, u "com/example/wirecall/wirecall/xml/ScalarType"), (12, .class_ 18), (0, u "com/example/wirecall/wirecall/xml/ScalarType$1")] 10

/-- com/example/wirecall/wirecall/xml/ScalarType$1 -/
def k11 : Class := { plain "com/example/wirecall/wirecall/xml/ScalarType$1" (some 6) with
  accessFlags := 16432
  interfaces := #[]
  cf := some (fileOf pool11 17 #[.nestHost 2] #[] 16432 2 #[] #[])
  fields := #[]
  methods := #[]
  instanceTypes := #[(.object "java/lang/String"), .int, .int, (.object "java/lang/String"), (.object "java/lang/Class"), (.object "java/lang/String")]
  staticTypes := #[]
  resolved := Array.replicate 29 none
  statics := none }

def pool12 : Array CpInfo := pool [(1, .class_ 2), (0, u "java/lang/Long"), (55, .nameAndType 59 60), (0, u "<init>"), (0, u "()V"), (24, u "valueOf"), (143, u "(J)Ljava/lang/Long;"), (0, .long 18446744073709551488), (1, .long 127), (1, .fieldref 235 236), (0, .class_ 237), (0, .nameAndType 238 239), (0, u "java/lang/Long$LongCache"), (0, u "cache"), (0, u "[Ljava/lang/Long;"), (0, .methodref 1 241), (0, .nameAndType 59 242), (0, u "(J)V"), (27, .methodref 271 58), (0, .class_ 272), (0, u "java/lang/Number"), (0, .fieldref 1 274), (0, .nameAndType 275 276), (0, u "value"), (0, u "J"), (5, u "longValue"), (0, u "()J"), (77, u "TYPE"), (0, u "Ljava/lang/Class;"), (0, .class_ 364), (0, u "java/lang/Comparable"), (0, .class_ 366), (0, u "java/lang/constant/Constable"), (0, .class_ 368), (0, u "java/lang/constant/ConstantDesc"), (0, u "MIN_VALUE"), (1, u "MAX_VALUE"), (4, u "SIZE"), (0, u "I"), (1, u "BYTES"), (1, u "serialVersionUID")] 142

def k12c0 : Code := { maxStack := 4, maxLocals := 3, code := jdk_35_method_24_code, exceptionTable := #[], attributes := #[] }
def k12m0 : Method := { name := "valueOf", desc := "(J)Ljava/lang/Long;", sig := { parameters := [.long], returnType := some (.object "java/lang/Long") }, accessFlags := 9, code := some k12c0 }
def k12c1 : Code := { maxStack := 3, maxLocals := 3, code := jdk_35_method_26_code, exceptionTable := #[], attributes := #[] }
def k12m1 : Method := { name := "<init>", desc := "(J)V", sig := { parameters := [.long], returnType := none }, accessFlags := 1, code := some k12c1 }
def k12c2 : Code := { maxStack := 2, maxLocals := 1, code := jdk_35_method_31_code, exceptionTable := #[], attributes := #[] }
def k12m2 : Method := { name := "longValue", desc := "()J", sig := { parameters := [], returnType := some .long }, accessFlags := 1, code := some k12c2 }
/-- java/lang/Long -/
def k12 : Class := { plain "java/lang/Long" (some 7) with
  accessFlags := 49
  interfaces := #[3, 2, 8]
  cf := some (fileOf pool12 1 #[.nestMembers #[235]] #[{ accessFlags := 9, nameIndex := 85, descriptorIndex := 229, attributes := #[] }, { accessFlags := 1, nameIndex := 59, descriptorIndex := 242, attributes := #[] }, { accessFlags := 1, nameIndex := 282, descriptorIndex := 283, attributes := #[] }] 49 271 #[363, 365, 367] #[{ accessFlags := 25, nameIndex := 369, descriptorIndex := 276, attributes := #[] }, { accessFlags := 25, nameIndex := 371, descriptorIndex := 276, attributes := #[] }, { accessFlags := 25, nameIndex := 361, descriptorIndex := 362, attributes := #[] }, { accessFlags := 18, nameIndex := 275, descriptorIndex := 276, attributes := #[] }, { accessFlags := 25, nameIndex := 376, descriptorIndex := 377, attributes := #[] }, { accessFlags := 25, nameIndex := 379, descriptorIndex := 377, attributes := #[] }, { accessFlags := 26, nameIndex := 381, descriptorIndex := 276, attributes := #[] }])
  fields := #[{ name := "MIN_VALUE", type := .long, accessFlags := 25, slot := 0, constantValue := 0 }, { name := "MAX_VALUE", type := .long, accessFlags := 25, slot := 1, constantValue := 0 }, { name := "TYPE", type := (.object "java/lang/Class"), accessFlags := 25, slot := 2, constantValue := 0 }, { name := "value", type := .long, accessFlags := 18, slot := 0, constantValue := 0 }, { name := "SIZE", type := .int, accessFlags := 25, slot := 3, constantValue := 0 }, { name := "BYTES", type := .int, accessFlags := 25, slot := 4, constantValue := 0 }, { name := "serialVersionUID", type := .long, accessFlags := 26, slot := 5, constantValue := 0 }]
  methods := #[k12m0, k12m1, k12m2]
  instanceTypes := #[.long]
  staticTypes := #[.long, .long, (.object "java/lang/Class"), .int, .int, .long]
  resolved := Array.replicate 524 none
  statics := none }

def pool13 : Array CpInfo := pool [(2, .class_ 4), (1, u "com/example/wirecall/wirecall/xml/ScalarType"), (7, .class_ 14), (1, u "java/lang/Long"), (2, .methodref 12 18), (0, .nameAndType 19 20), (0, u "longValue"), (0, u "()J"), (0, .fieldref 22 23), (0, .class_ 24), (0, .nameAndType 25 26), (0, u "com/example/wirecall/wirecall/xml/ScalarType$2"), (0, u "INT"), (0, u "Lcom/example/wirecall/wirecall/xml/ScalarType;"), (7, u "withoutExtensions"), (0, u "(Ljava/lang/Object;)Lcom/example/wirecall/wirecall/xml/ScalarType;")] 6

def k13c0 : Code := { maxStack := 4, maxLocals := 4, code := prog_32_method_4_code, exceptionTable := #[], attributes := #[] }
def k13m0 : Method := { name := "withoutExtensions", desc := "(Ljava/lang/Object;)Lcom/example/wirecall/wirecall/xml/ScalarType;", sig := { parameters := [(.object "java/lang/Object")], returnType := some (.object "com/example/wirecall/wirecall/xml/ScalarType") }, accessFlags := 0, code := some k13c0 }
/-- com/example/wirecall/wirecall/xml/ScalarType$2 -/
def k13 : Class := { plain "com/example/wirecall/wirecall/xml/ScalarType$2" (some 6) with
  accessFlags := 16432
  interfaces := #[]
  cf := some (fileOf pool13 22 #[.nestHost 2] #[{ accessFlags := 0, nameIndex := 34, descriptorIndex := 35, attributes := #[] }] 16432 2 #[] #[])
  fields := #[]
  methods := #[k13m0]
  instanceTypes := #[(.object "java/lang/String"), .int, .int, (.object "java/lang/String"), (.object "java/lang/Class"), (.object "java/lang/String")]
  staticTypes := #[]
  resolved := Array.replicate 42 none
  statics := none }

def pool14 : Array CpInfo := pool [(2, .class_ 4), (1, u "com/example/wirecall/wirecall/xml/ScalarType"), (35, .class_ 41), (0, u "com/example/wirecall/wirecall/xml/ScalarType$3")] 27

/-- com/example/wirecall/wirecall/xml/ScalarType$3 -/
def k14 : Class := { plain "com/example/wirecall/wirecall/xml/ScalarType$3" (some 6) with
  accessFlags := 16432
  interfaces := #[]
  cf := some (fileOf pool14 40 #[.nestHost 2] #[] 16432 2 #[] #[])
  fields := #[]
  methods := #[]
  instanceTypes := #[(.object "java/lang/String"), .int, .int, (.object "java/lang/String"), (.object "java/lang/Class"), (.object "java/lang/String")]
  staticTypes := #[]
  resolved := Array.replicate 69 none
  statics := none }

def pool15 : Array CpInfo := pool [(2, .class_ 4), (1, u "com/example/wirecall/wirecall/xml/ScalarType"), (7, u "()Z"), (11, .class_ 25), (0, u "com/example/wirecall/wirecall/xml/ScalarType$8"), (8, u "isExtension")] 19

def k15c0 : Code := { maxStack := 1, maxLocals := 1, code := prog_38_method_4_code, exceptionTable := #[], attributes := #[] }
def k15m0 : Method := { name := "isExtension", desc := "()Z", sig := { parameters := [], returnType := some .boolean }, accessFlags := 0, code := some k15c0 }
/-- com/example/wirecall/wirecall/xml/ScalarType$8 -/
def k15 : Class := { plain "com/example/wirecall/wirecall/xml/ScalarType$8" (some 6) with
  accessFlags := 16432
  interfaces := #[]
  cf := some (fileOf pool15 24 #[.nestHost 2] #[{ accessFlags := 0, nameIndex := 34, descriptorIndex := 12, attributes := #[] }] 16432 2 #[] #[])
  fields := #[]
  methods := #[k15m0]
  instanceTypes := #[(.object "java/lang/String"), .int, .int, (.object "java/lang/String"), (.object "java/lang/Class"), (.object "java/lang/String")]
  staticTypes := #[]
  resolved := Array.replicate 54 none
  statics := none }

def pool16 : Array CpInfo := pool [(2, .class_ 4), (1, u "java/lang/Object"), (0, u "<init>"), (0, u "()V"), (0, .class_ 8), (0, u "java/lang/Long"), (7, .class_ 18), (1, u "java/lang/Long$LongCache"), (0, u "$assertionsDisabled"), (0, u "Z"), (8, u "archivedCache"), (0, u "[Ljava/lang/Long;"), (7, u "cache")] 24

def k16m0 : Method := { name := "<init>", desc := "()V", sig := { parameters := [], returnType := none }, accessFlags := 2, code := none }
/-- java/lang/Long$LongCache -/
def k16 : Class := { plain "java/lang/Long$LongCache" (some 0) with
  accessFlags := 48
  interfaces := #[]
  cf := some (fileOf pool16 16 #[.nestHost 7] #[{ accessFlags := 2, nameIndex := 5, descriptorIndex := 6, attributes := #[] }] 48 2 #[] #[{ accessFlags := 24, nameIndex := 38, descriptorIndex := 30, attributes := #[] }, { accessFlags := 8, nameIndex := 29, descriptorIndex := 30, attributes := #[] }, { accessFlags := 4120, nameIndex := 19, descriptorIndex := 20, attributes := #[] }])
  fields := #[{ name := "cache", type := (.array (.object "java/lang/Long")), accessFlags := 24, slot := 0, constantValue := 0 }, { name := "archivedCache", type := (.array (.object "java/lang/Long")), accessFlags := 8, slot := 1, constantValue := 0 }, { name := "$assertionsDisabled", type := .boolean, accessFlags := 4120, slot := 2, constantValue := 0 }]
  methods := #[k16m0]
  instanceTypes := #[]
  staticTypes := #[(.array (.object "java/lang/Long")), (.array (.object "java/lang/Long")), .boolean]
  resolved := Array.replicate 63 none
  statics := some 2 }

def pool17 : Array CpInfo := pool [(2, .class_ 4), (1, u "com/example/wirecall/wirecall/xml/ScalarType"), (2, .class_ 8), (0, u "com/example/wirecall/wirecall/xml/ScalarType$4")] 10

/-- com/example/wirecall/wirecall/xml/ScalarType$4 -/
def k17 : Class := { plain "com/example/wirecall/wirecall/xml/ScalarType$4" (some 6) with
  accessFlags := 16432
  interfaces := #[]
  cf := some (fileOf pool17 7 #[.nestHost 2] #[] 16432 2 #[] #[])
  fields := #[]
  methods := #[]
  instanceTypes := #[(.object "java/lang/String"), .int, .int, (.object "java/lang/String"), (.object "java/lang/Class"), (.object "java/lang/String")]
  staticTypes := #[]
  resolved := Array.replicate 19 none
  statics := none }

def pool18 : Array CpInfo := pool [(2, .class_ 4), (1, u "com/example/wirecall/wirecall/xml/ScalarType"), (48, .class_ 54), (0, u "com/example/wirecall/wirecall/xml/ScalarType$6")] 30

/-- com/example/wirecall/wirecall/xml/ScalarType$6 -/
def k18 : Class := { plain "com/example/wirecall/wirecall/xml/ScalarType$6" (some 6) with
  accessFlags := 16432
  interfaces := #[]
  cf := some (fileOf pool18 53 #[.nestHost 2] #[] 16432 2 #[] #[])
  fields := #[]
  methods := #[]
  instanceTypes := #[(.object "java/lang/String"), .int, .int, (.object "java/lang/String"), (.object "java/lang/Class"), (.object "java/lang/String")]
  staticTypes := #[]
  resolved := Array.replicate 85 none
  statics := none }

def pool19 : Array CpInfo := pool [(2, .class_ 4), (1, u "com/example/wirecall/wirecall/xml/ScalarType"), (50, .class_ 56), (0, u "com/example/wirecall/wirecall/xml/ScalarType$5")] 29

/-- com/example/wirecall/wirecall/xml/ScalarType$5 -/
def k19 : Class := { plain "com/example/wirecall/wirecall/xml/ScalarType$5" (some 6) with
  accessFlags := 16432
  interfaces := #[]
  cf := some (fileOf pool19 55 #[.nestHost 2] #[] 16432 2 #[] #[])
  fields := #[]
  methods := #[]
  instanceTypes := #[(.object "java/lang/String"), .int, .int, (.object "java/lang/String"), (.object "java/lang/Class"), (.object "java/lang/String")]
  staticTypes := #[]
  resolved := Array.replicate 86 none
  statics := none }

def pool20 : Array CpInfo := pool [(2, .class_ 4), (1, u "com/example/wirecall/wirecall/xml/ScalarType"), (59, .class_ 65), (0, u "com/example/wirecall/wirecall/xml/ScalarType$7")] 15

/-- com/example/wirecall/wirecall/xml/ScalarType$7 -/
def k20 : Class := { plain "com/example/wirecall/wirecall/xml/ScalarType$7" (some 6) with
  accessFlags := 16432
  interfaces := #[]
  cf := some (fileOf pool20 64 #[.nestHost 2] #[] 16432 2 #[] #[])
  fields := #[]
  methods := #[]
  instanceTypes := #[(.object "java/lang/String"), .int, .int, (.object "java/lang/String"), (.object "java/lang/Class"), (.object "java/lang/String")]
  staticTypes := #[]
  resolved := Array.replicate 81 none
  statics := none }

def pool21 : Array CpInfo := pool [(1, u "java/lang/Cloneable"), (0, .class_ 1), (0, u "java/lang/Object"), (0, .class_ 3)] 3

/-- java/lang/Cloneable -/
def k21 : Class := { plain "java/lang/Cloneable" (some 0) with
  accessFlags := 1537
  interfaces := #[]
  cf := some (fileOf pool21 2 #[] #[] 1537 4 #[] #[])
  fields := #[]
  methods := #[]
  instanceTypes := #[]
  staticTypes := #[]
  resolved := Array.replicate 8 none
  statics := none }

/-- the primitive byte -/
def k22 : Class := { plain "byte" none with kind := .primitive 'B', accessFlags := 0x411 }
/-- [B -/
def k23 : Class := { plain "[B" (some 0) with kind := .array 22 .byte, interfaces := #[21, 4], accessFlags := 1041 }

/-- the primitive int -/
def k24 : Class := { plain "int" none with kind := .primitive 'I', accessFlags := 0x411 }
/-- [I -/
def k25 : Class := { plain "[I" (some 0) with kind := .array 24 .int, interfaces := #[21, 4], accessFlags := 1041 }

/-- [Ljava/lang/Integer; -/
def k26 : Class := { plain "[Ljava/lang/Integer;" (some 0) with kind := .array 9 (.object "java/lang/Integer"), interfaces := #[21, 4], accessFlags := 1041 }

/-- [Ljava/lang/Long; -/
def k27 : Class := { plain "[Ljava/lang/Long;" (some 0) with kind := .array 12 (.object "java/lang/Long"), interfaces := #[21, 4], accessFlags := 1041 }

def heap : Heap := #[{ cls := 6, slots := #[.ref 5, .ref 6, .ref 7, .ref 8, .ref 9, .ref 10, .ref 11, .ref 12, .null, .null, .null, .int 0, .int 0, .null, .null, .null], vm := .statics 6 },
  { cls := 10, slots := #[.int 0, .int 127, .ref 4, .null, .int 0], vm := .statics 10 },
  { cls := 16, slots := #[.ref 3, .null, .int 0], vm := .statics 16 },
  { cls := 27, slots := #[.ref 13, .ref 14, .ref 15, .ref 16, .ref 17, .ref 18, .ref 19, .ref 20, .ref 21, .ref 22, .ref 23, .ref 24, .ref 25, .ref 26, .ref 27, .ref 28, .ref 29, .ref 30, .ref 31, .ref 32, .ref 33, .ref 34, .ref 35, .ref 36, .ref 37, .ref 38, .ref 39, .ref 40, .ref 41, .ref 42, .ref 43, .ref 44, .ref 45, .ref 46, .ref 47, .ref 48, .ref 49, .ref 50, .ref 51, .ref 52, .ref 53, .ref 54, .ref 55, .ref 56, .ref 57, .ref 58, .ref 59, .ref 60, .ref 61, .ref 62, .ref 63, .ref 64, .ref 65, .ref 66, .ref 67, .ref 68, .ref 69, .ref 70, .ref 71, .ref 72, .ref 73, .ref 74, .ref 75, .ref 76, .ref 77, .ref 78, .ref 79, .ref 80, .ref 81, .ref 82, .ref 83, .ref 84, .ref 85, .ref 86, .ref 87, .ref 88, .ref 89, .ref 90, .ref 91, .ref 92, .ref 93, .ref 94, .ref 95, .ref 96, .ref 97, .ref 98, .ref 99, .ref 100, .ref 101, .ref 102, .ref 103, .ref 104, .ref 105, .ref 106, .ref 107, .ref 108, .ref 109, .ref 110, .ref 111, .ref 112, .ref 113, .ref 114, .ref 115, .ref 116, .ref 117, .ref 118, .ref 119, .ref 120, .ref 121, .ref 122, .ref 123, .ref 124, .ref 125, .ref 126, .ref 127, .ref 128, .ref 129, .ref 130, .ref 131, .ref 132, .ref 133, .ref 134, .ref 135, .ref 136, .ref 137, .ref 138, .ref 139, .ref 140, .ref 141, .ref 142, .ref 143, .ref 144, .ref 145, .ref 146, .ref 147, .ref 148, .ref 149, .ref 150, .ref 151, .ref 152, .ref 153, .ref 154, .ref 155, .ref 156, .ref 157, .ref 158, .ref 159, .ref 160, .ref 161, .ref 162, .ref 163, .ref 164, .ref 165, .ref 166, .ref 167, .ref 168, .ref 169, .ref 170, .ref 171, .ref 172, .ref 173, .ref 174, .ref 175, .ref 176, .ref 177, .ref 178, .ref 179, .ref 180, .ref 181, .ref 182, .ref 183, .ref 184, .ref 185, .ref 186, .ref 187, .ref 188, .ref 189, .ref 190, .ref 191, .ref 192, .ref 193, .ref 194, .ref 195, .ref 196, .ref 197, .ref 198, .ref 199, .ref 200, .ref 201, .ref 202, .ref 203, .ref 204, .ref 205, .ref 206, .ref 207, .ref 208, .ref 209, .ref 210, .ref 211, .ref 212, .ref 213, .ref 214, .ref 215, .ref 216, .ref 217, .ref 218, .ref 219, .ref 220, .ref 221, .ref 222, .ref 223, .ref 224, .ref 225, .ref 226, .ref 227, .ref 228, .ref 229, .ref 230, .ref 231, .ref 232, .ref 233, .ref 234, .ref 235, .ref 236, .ref 237, .ref 238, .ref 239, .ref 240, .ref 241, .ref 242, .ref 243, .ref 244, .ref 245, .ref 246, .ref 247, .ref 248, .ref 249, .ref 250, .ref 251, .ref 252, .ref 253, .ref 254, .ref 255, .ref 256, .ref 257, .ref 258, .ref 259, .ref 260, .ref 261, .ref 262, .ref 263, .ref 264, .ref 265, .ref 266, .ref 267, .ref 268], vm := .none },
  { cls := 26, slots := #[.ref 269, .ref 270, .ref 271, .ref 272, .ref 273, .ref 274, .ref 275, .ref 276, .ref 277, .ref 278, .ref 279, .ref 280, .ref 281, .ref 282, .ref 283, .ref 284, .ref 285, .ref 286, .ref 287, .ref 288, .ref 289, .ref 290, .ref 291, .ref 292, .ref 293, .ref 294, .ref 295, .ref 296, .ref 297, .ref 298, .ref 299, .ref 300, .ref 301, .ref 302, .ref 303, .ref 304, .ref 305, .ref 306, .ref 307, .ref 308, .ref 309, .ref 310, .ref 311, .ref 312, .ref 313, .ref 314, .ref 315, .ref 316, .ref 317, .ref 318, .ref 319, .ref 320, .ref 321, .ref 322, .ref 323, .ref 324, .ref 325, .ref 326, .ref 327, .ref 328, .ref 329, .ref 330, .ref 331, .ref 332, .ref 333, .ref 334, .ref 335, .ref 336, .ref 337, .ref 338, .ref 339, .ref 340, .ref 341, .ref 342, .ref 343, .ref 344, .ref 345, .ref 346, .ref 347, .ref 348, .ref 349, .ref 350, .ref 351, .ref 352, .ref 353, .ref 354, .ref 355, .ref 356, .ref 357, .ref 358, .ref 359, .ref 360, .ref 361, .ref 362, .ref 363, .ref 364, .ref 365, .ref 366, .ref 367, .ref 368, .ref 369, .ref 370, .ref 371, .ref 372, .ref 373, .ref 374, .ref 375, .ref 376, .ref 377, .ref 378, .ref 379, .ref 380, .ref 381, .ref 382, .ref 383, .ref 384, .ref 385, .ref 386, .ref 387, .ref 388, .ref 389, .ref 390, .ref 391, .ref 392, .ref 393, .ref 394, .ref 395, .ref 396, .ref 397, .ref 398, .ref 399, .ref 400, .ref 401, .ref 402, .ref 403, .ref 404, .ref 405, .ref 406, .ref 407, .ref 408, .ref 409, .ref 410, .ref 411, .ref 412, .ref 413, .ref 414, .ref 415, .ref 416, .ref 417, .ref 418, .ref 419, .ref 420, .ref 421, .ref 422, .ref 423, .ref 424, .ref 425, .ref 426, .ref 427, .ref 428, .ref 429, .ref 430, .ref 431, .ref 432, .ref 433, .ref 434, .ref 435, .ref 436, .ref 437, .ref 438, .ref 439, .ref 440, .ref 441, .ref 442, .ref 443, .ref 444, .ref 445, .ref 446, .ref 447, .ref 448, .ref 449, .ref 450, .ref 451, .ref 452, .ref 453, .ref 454, .ref 455, .ref 456, .ref 457, .ref 458, .ref 459, .ref 460, .ref 461, .ref 462, .ref 463, .ref 464, .ref 465, .ref 466, .ref 467, .ref 468, .ref 469, .ref 470, .ref 471, .ref 472, .ref 473, .ref 474, .ref 475, .ref 476, .ref 477, .ref 478, .ref 479, .ref 480, .ref 481, .ref 482, .ref 483, .ref 484, .ref 485, .ref 486, .ref 487, .ref 488, .ref 489, .ref 490, .ref 491, .ref 492, .ref 493, .ref 494, .ref 495, .ref 496, .ref 497, .ref 498, .ref 499, .ref 500, .ref 501, .ref 502, .ref 503, .ref 504, .ref 505, .ref 506, .ref 507, .ref 508, .ref 509, .ref 510, .ref 511, .ref 512, .ref 513, .ref 514, .ref 515, .ref 516, .ref 517, .ref 518, .ref 519, .ref 520, .ref 521, .ref 522, .ref 523, .ref 524], vm := .none },
  { cls := 11, slots := #[.null, .int 0, .int 0, .null, .null, .null], vm := .none },
  { cls := 13, slots := #[.null, .int 1, .int 0, .null, .null, .null], vm := .none },
  { cls := 14, slots := #[.null, .int 2, .int 0, .null, .null, .null], vm := .none },
  { cls := 17, slots := #[.null, .int 3, .int 0, .null, .null, .null], vm := .none },
  { cls := 19, slots := #[.null, .int 4, .int 0, .null, .null, .null], vm := .none },
  { cls := 18, slots := #[.null, .int 5, .int 0, .null, .null, .null], vm := .none },
  { cls := 20, slots := #[.null, .int 6, .int 0, .null, .null, .null], vm := .none },
  { cls := 15, slots := #[.null, .int 7, .int 0, .null, .null, .null], vm := .none },
  { cls := 12, slots := #[.long (-128)], vm := .none },
  { cls := 12, slots := #[.long (-127)], vm := .none },
  { cls := 12, slots := #[.long (-126)], vm := .none },
  { cls := 12, slots := #[.long (-125)], vm := .none },
  { cls := 12, slots := #[.long (-124)], vm := .none },
  { cls := 12, slots := #[.long (-123)], vm := .none },
  { cls := 12, slots := #[.long (-122)], vm := .none },
  { cls := 12, slots := #[.long (-121)], vm := .none },
  { cls := 12, slots := #[.long (-120)], vm := .none },
  { cls := 12, slots := #[.long (-119)], vm := .none },
  { cls := 12, slots := #[.long (-118)], vm := .none },
  { cls := 12, slots := #[.long (-117)], vm := .none },
  { cls := 12, slots := #[.long (-116)], vm := .none },
  { cls := 12, slots := #[.long (-115)], vm := .none },
  { cls := 12, slots := #[.long (-114)], vm := .none },
  { cls := 12, slots := #[.long (-113)], vm := .none },
  { cls := 12, slots := #[.long (-112)], vm := .none },
  { cls := 12, slots := #[.long (-111)], vm := .none },
  { cls := 12, slots := #[.long (-110)], vm := .none },
  { cls := 12, slots := #[.long (-109)], vm := .none },
  { cls := 12, slots := #[.long (-108)], vm := .none },
  { cls := 12, slots := #[.long (-107)], vm := .none },
  { cls := 12, slots := #[.long (-106)], vm := .none },
  { cls := 12, slots := #[.long (-105)], vm := .none },
  { cls := 12, slots := #[.long (-104)], vm := .none },
  { cls := 12, slots := #[.long (-103)], vm := .none },
  { cls := 12, slots := #[.long (-102)], vm := .none },
  { cls := 12, slots := #[.long (-101)], vm := .none },
  { cls := 12, slots := #[.long (-100)], vm := .none },
  { cls := 12, slots := #[.long (-99)], vm := .none },
  { cls := 12, slots := #[.long (-98)], vm := .none },
  { cls := 12, slots := #[.long (-97)], vm := .none },
  { cls := 12, slots := #[.long (-96)], vm := .none },
  { cls := 12, slots := #[.long (-95)], vm := .none },
  { cls := 12, slots := #[.long (-94)], vm := .none },
  { cls := 12, slots := #[.long (-93)], vm := .none },
  { cls := 12, slots := #[.long (-92)], vm := .none },
  { cls := 12, slots := #[.long (-91)], vm := .none },
  { cls := 12, slots := #[.long (-90)], vm := .none },
  { cls := 12, slots := #[.long (-89)], vm := .none },
  { cls := 12, slots := #[.long (-88)], vm := .none },
  { cls := 12, slots := #[.long (-87)], vm := .none },
  { cls := 12, slots := #[.long (-86)], vm := .none },
  { cls := 12, slots := #[.long (-85)], vm := .none },
  { cls := 12, slots := #[.long (-84)], vm := .none },
  { cls := 12, slots := #[.long (-83)], vm := .none },
  { cls := 12, slots := #[.long (-82)], vm := .none },
  { cls := 12, slots := #[.long (-81)], vm := .none },
  { cls := 12, slots := #[.long (-80)], vm := .none },
  { cls := 12, slots := #[.long (-79)], vm := .none },
  { cls := 12, slots := #[.long (-78)], vm := .none },
  { cls := 12, slots := #[.long (-77)], vm := .none },
  { cls := 12, slots := #[.long (-76)], vm := .none },
  { cls := 12, slots := #[.long (-75)], vm := .none },
  { cls := 12, slots := #[.long (-74)], vm := .none },
  { cls := 12, slots := #[.long (-73)], vm := .none },
  { cls := 12, slots := #[.long (-72)], vm := .none },
  { cls := 12, slots := #[.long (-71)], vm := .none },
  { cls := 12, slots := #[.long (-70)], vm := .none },
  { cls := 12, slots := #[.long (-69)], vm := .none },
  { cls := 12, slots := #[.long (-68)], vm := .none },
  { cls := 12, slots := #[.long (-67)], vm := .none },
  { cls := 12, slots := #[.long (-66)], vm := .none },
  { cls := 12, slots := #[.long (-65)], vm := .none },
  { cls := 12, slots := #[.long (-64)], vm := .none },
  { cls := 12, slots := #[.long (-63)], vm := .none },
  { cls := 12, slots := #[.long (-62)], vm := .none },
  { cls := 12, slots := #[.long (-61)], vm := .none },
  { cls := 12, slots := #[.long (-60)], vm := .none },
  { cls := 12, slots := #[.long (-59)], vm := .none },
  { cls := 12, slots := #[.long (-58)], vm := .none },
  { cls := 12, slots := #[.long (-57)], vm := .none },
  { cls := 12, slots := #[.long (-56)], vm := .none },
  { cls := 12, slots := #[.long (-55)], vm := .none },
  { cls := 12, slots := #[.long (-54)], vm := .none },
  { cls := 12, slots := #[.long (-53)], vm := .none },
  { cls := 12, slots := #[.long (-52)], vm := .none },
  { cls := 12, slots := #[.long (-51)], vm := .none },
  { cls := 12, slots := #[.long (-50)], vm := .none },
  { cls := 12, slots := #[.long (-49)], vm := .none },
  { cls := 12, slots := #[.long (-48)], vm := .none },
  { cls := 12, slots := #[.long (-47)], vm := .none },
  { cls := 12, slots := #[.long (-46)], vm := .none },
  { cls := 12, slots := #[.long (-45)], vm := .none },
  { cls := 12, slots := #[.long (-44)], vm := .none },
  { cls := 12, slots := #[.long (-43)], vm := .none },
  { cls := 12, slots := #[.long (-42)], vm := .none },
  { cls := 12, slots := #[.long (-41)], vm := .none },
  { cls := 12, slots := #[.long (-40)], vm := .none },
  { cls := 12, slots := #[.long (-39)], vm := .none },
  { cls := 12, slots := #[.long (-38)], vm := .none },
  { cls := 12, slots := #[.long (-37)], vm := .none },
  { cls := 12, slots := #[.long (-36)], vm := .none },
  { cls := 12, slots := #[.long (-35)], vm := .none },
  { cls := 12, slots := #[.long (-34)], vm := .none },
  { cls := 12, slots := #[.long (-33)], vm := .none },
  { cls := 12, slots := #[.long (-32)], vm := .none },
  { cls := 12, slots := #[.long (-31)], vm := .none },
  { cls := 12, slots := #[.long (-30)], vm := .none },
  { cls := 12, slots := #[.long (-29)], vm := .none },
  { cls := 12, slots := #[.long (-28)], vm := .none },
  { cls := 12, slots := #[.long (-27)], vm := .none },
  { cls := 12, slots := #[.long (-26)], vm := .none },
  { cls := 12, slots := #[.long (-25)], vm := .none },
  { cls := 12, slots := #[.long (-24)], vm := .none },
  { cls := 12, slots := #[.long (-23)], vm := .none },
  { cls := 12, slots := #[.long (-22)], vm := .none },
  { cls := 12, slots := #[.long (-21)], vm := .none },
  { cls := 12, slots := #[.long (-20)], vm := .none },
  { cls := 12, slots := #[.long (-19)], vm := .none },
  { cls := 12, slots := #[.long (-18)], vm := .none },
  { cls := 12, slots := #[.long (-17)], vm := .none },
  { cls := 12, slots := #[.long (-16)], vm := .none },
  { cls := 12, slots := #[.long (-15)], vm := .none },
  { cls := 12, slots := #[.long (-14)], vm := .none },
  { cls := 12, slots := #[.long (-13)], vm := .none },
  { cls := 12, slots := #[.long (-12)], vm := .none },
  { cls := 12, slots := #[.long (-11)], vm := .none },
  { cls := 12, slots := #[.long (-10)], vm := .none },
  { cls := 12, slots := #[.long (-9)], vm := .none },
  { cls := 12, slots := #[.long (-8)], vm := .none },
  { cls := 12, slots := #[.long (-7)], vm := .none },
  { cls := 12, slots := #[.long (-6)], vm := .none },
  { cls := 12, slots := #[.long (-5)], vm := .none },
  { cls := 12, slots := #[.long (-4)], vm := .none },
  { cls := 12, slots := #[.long (-3)], vm := .none },
  { cls := 12, slots := #[.long (-2)], vm := .none },
  { cls := 12, slots := #[.long (-1)], vm := .none },
  { cls := 12, slots := #[.long 0], vm := .none },
  { cls := 12, slots := #[.long 1], vm := .none },
  { cls := 12, slots := #[.long 2], vm := .none },
  { cls := 12, slots := #[.long 3], vm := .none },
  { cls := 12, slots := #[.long 4], vm := .none },
  { cls := 12, slots := #[.long 5], vm := .none },
  { cls := 12, slots := #[.long 6], vm := .none },
  { cls := 12, slots := #[.long 7], vm := .none },
  { cls := 12, slots := #[.long 8], vm := .none },
  { cls := 12, slots := #[.long 9], vm := .none },
  { cls := 12, slots := #[.long 10], vm := .none },
  { cls := 12, slots := #[.long 11], vm := .none },
  { cls := 12, slots := #[.long 12], vm := .none },
  { cls := 12, slots := #[.long 13], vm := .none },
  { cls := 12, slots := #[.long 14], vm := .none },
  { cls := 12, slots := #[.long 15], vm := .none },
  { cls := 12, slots := #[.long 16], vm := .none },
  { cls := 12, slots := #[.long 17], vm := .none },
  { cls := 12, slots := #[.long 18], vm := .none },
  { cls := 12, slots := #[.long 19], vm := .none },
  { cls := 12, slots := #[.long 20], vm := .none },
  { cls := 12, slots := #[.long 21], vm := .none },
  { cls := 12, slots := #[.long 22], vm := .none },
  { cls := 12, slots := #[.long 23], vm := .none },
  { cls := 12, slots := #[.long 24], vm := .none },
  { cls := 12, slots := #[.long 25], vm := .none },
  { cls := 12, slots := #[.long 26], vm := .none },
  { cls := 12, slots := #[.long 27], vm := .none },
  { cls := 12, slots := #[.long 28], vm := .none },
  { cls := 12, slots := #[.long 29], vm := .none },
  { cls := 12, slots := #[.long 30], vm := .none },
  { cls := 12, slots := #[.long 31], vm := .none },
  { cls := 12, slots := #[.long 32], vm := .none },
  { cls := 12, slots := #[.long 33], vm := .none },
  { cls := 12, slots := #[.long 34], vm := .none },
  { cls := 12, slots := #[.long 35], vm := .none },
  { cls := 12, slots := #[.long 36], vm := .none },
  { cls := 12, slots := #[.long 37], vm := .none },
  { cls := 12, slots := #[.long 38], vm := .none },
  { cls := 12, slots := #[.long 39], vm := .none },
  { cls := 12, slots := #[.long 40], vm := .none },
  { cls := 12, slots := #[.long 41], vm := .none },
  { cls := 12, slots := #[.long 42], vm := .none },
  { cls := 12, slots := #[.long 43], vm := .none },
  { cls := 12, slots := #[.long 44], vm := .none },
  { cls := 12, slots := #[.long 45], vm := .none },
  { cls := 12, slots := #[.long 46], vm := .none },
  { cls := 12, slots := #[.long 47], vm := .none },
  { cls := 12, slots := #[.long 48], vm := .none },
  { cls := 12, slots := #[.long 49], vm := .none },
  { cls := 12, slots := #[.long 50], vm := .none },
  { cls := 12, slots := #[.long 51], vm := .none },
  { cls := 12, slots := #[.long 52], vm := .none },
  { cls := 12, slots := #[.long 53], vm := .none },
  { cls := 12, slots := #[.long 54], vm := .none },
  { cls := 12, slots := #[.long 55], vm := .none },
  { cls := 12, slots := #[.long 56], vm := .none },
  { cls := 12, slots := #[.long 57], vm := .none },
  { cls := 12, slots := #[.long 58], vm := .none },
  { cls := 12, slots := #[.long 59], vm := .none },
  { cls := 12, slots := #[.long 60], vm := .none },
  { cls := 12, slots := #[.long 61], vm := .none },
  { cls := 12, slots := #[.long 62], vm := .none },
  { cls := 12, slots := #[.long 63], vm := .none },
  { cls := 12, slots := #[.long 64], vm := .none },
  { cls := 12, slots := #[.long 65], vm := .none },
  { cls := 12, slots := #[.long 66], vm := .none },
  { cls := 12, slots := #[.long 67], vm := .none },
  { cls := 12, slots := #[.long 68], vm := .none },
  { cls := 12, slots := #[.long 69], vm := .none },
  { cls := 12, slots := #[.long 70], vm := .none },
  { cls := 12, slots := #[.long 71], vm := .none },
  { cls := 12, slots := #[.long 72], vm := .none },
  { cls := 12, slots := #[.long 73], vm := .none },
  { cls := 12, slots := #[.long 74], vm := .none },
  { cls := 12, slots := #[.long 75], vm := .none },
  { cls := 12, slots := #[.long 76], vm := .none },
  { cls := 12, slots := #[.long 77], vm := .none },
  { cls := 12, slots := #[.long 78], vm := .none },
  { cls := 12, slots := #[.long 79], vm := .none },
  { cls := 12, slots := #[.long 80], vm := .none },
  { cls := 12, slots := #[.long 81], vm := .none },
  { cls := 12, slots := #[.long 82], vm := .none },
  { cls := 12, slots := #[.long 83], vm := .none },
  { cls := 12, slots := #[.long 84], vm := .none },
  { cls := 12, slots := #[.long 85], vm := .none },
  { cls := 12, slots := #[.long 86], vm := .none },
  { cls := 12, slots := #[.long 87], vm := .none },
  { cls := 12, slots := #[.long 88], vm := .none },
  { cls := 12, slots := #[.long 89], vm := .none },
  { cls := 12, slots := #[.long 90], vm := .none },
  { cls := 12, slots := #[.long 91], vm := .none },
  { cls := 12, slots := #[.long 92], vm := .none },
  { cls := 12, slots := #[.long 93], vm := .none },
  { cls := 12, slots := #[.long 94], vm := .none },
  { cls := 12, slots := #[.long 95], vm := .none },
  { cls := 12, slots := #[.long 96], vm := .none },
  { cls := 12, slots := #[.long 97], vm := .none },
  { cls := 12, slots := #[.long 98], vm := .none },
  { cls := 12, slots := #[.long 99], vm := .none },
  { cls := 12, slots := #[.long 100], vm := .none },
  { cls := 12, slots := #[.long 101], vm := .none },
  { cls := 12, slots := #[.long 102], vm := .none },
  { cls := 12, slots := #[.long 103], vm := .none },
  { cls := 12, slots := #[.long 104], vm := .none },
  { cls := 12, slots := #[.long 105], vm := .none },
  { cls := 12, slots := #[.long 106], vm := .none },
  { cls := 12, slots := #[.long 107], vm := .none },
  { cls := 12, slots := #[.long 108], vm := .none },
  { cls := 12, slots := #[.long 109], vm := .none },
  { cls := 12, slots := #[.long 110], vm := .none },
  { cls := 12, slots := #[.long 111], vm := .none },
  { cls := 12, slots := #[.long 112], vm := .none },
  { cls := 12, slots := #[.long 113], vm := .none },
  { cls := 12, slots := #[.long 114], vm := .none },
  { cls := 12, slots := #[.long 115], vm := .none },
  { cls := 12, slots := #[.long 116], vm := .none },
  { cls := 12, slots := #[.long 117], vm := .none },
  { cls := 12, slots := #[.long 118], vm := .none },
  { cls := 12, slots := #[.long 119], vm := .none },
  { cls := 12, slots := #[.long 120], vm := .none },
  { cls := 12, slots := #[.long 121], vm := .none },
  { cls := 12, slots := #[.long 122], vm := .none },
  { cls := 12, slots := #[.long 123], vm := .none },
  { cls := 12, slots := #[.long 124], vm := .none },
  { cls := 12, slots := #[.long 125], vm := .none },
  { cls := 12, slots := #[.long 126], vm := .none },
  { cls := 12, slots := #[.long 127], vm := .none },
  { cls := 9, slots := #[.int (-128)], vm := .none },
  { cls := 9, slots := #[.int (-127)], vm := .none },
  { cls := 9, slots := #[.int (-126)], vm := .none },
  { cls := 9, slots := #[.int (-125)], vm := .none },
  { cls := 9, slots := #[.int (-124)], vm := .none },
  { cls := 9, slots := #[.int (-123)], vm := .none },
  { cls := 9, slots := #[.int (-122)], vm := .none },
  { cls := 9, slots := #[.int (-121)], vm := .none },
  { cls := 9, slots := #[.int (-120)], vm := .none },
  { cls := 9, slots := #[.int (-119)], vm := .none },
  { cls := 9, slots := #[.int (-118)], vm := .none },
  { cls := 9, slots := #[.int (-117)], vm := .none },
  { cls := 9, slots := #[.int (-116)], vm := .none },
  { cls := 9, slots := #[.int (-115)], vm := .none },
  { cls := 9, slots := #[.int (-114)], vm := .none },
  { cls := 9, slots := #[.int (-113)], vm := .none },
  { cls := 9, slots := #[.int (-112)], vm := .none },
  { cls := 9, slots := #[.int (-111)], vm := .none },
  { cls := 9, slots := #[.int (-110)], vm := .none },
  { cls := 9, slots := #[.int (-109)], vm := .none },
  { cls := 9, slots := #[.int (-108)], vm := .none },
  { cls := 9, slots := #[.int (-107)], vm := .none },
  { cls := 9, slots := #[.int (-106)], vm := .none },
  { cls := 9, slots := #[.int (-105)], vm := .none },
  { cls := 9, slots := #[.int (-104)], vm := .none },
  { cls := 9, slots := #[.int (-103)], vm := .none },
  { cls := 9, slots := #[.int (-102)], vm := .none },
  { cls := 9, slots := #[.int (-101)], vm := .none },
  { cls := 9, slots := #[.int (-100)], vm := .none },
  { cls := 9, slots := #[.int (-99)], vm := .none },
  { cls := 9, slots := #[.int (-98)], vm := .none },
  { cls := 9, slots := #[.int (-97)], vm := .none },
  { cls := 9, slots := #[.int (-96)], vm := .none },
  { cls := 9, slots := #[.int (-95)], vm := .none },
  { cls := 9, slots := #[.int (-94)], vm := .none },
  { cls := 9, slots := #[.int (-93)], vm := .none },
  { cls := 9, slots := #[.int (-92)], vm := .none },
  { cls := 9, slots := #[.int (-91)], vm := .none },
  { cls := 9, slots := #[.int (-90)], vm := .none },
  { cls := 9, slots := #[.int (-89)], vm := .none },
  { cls := 9, slots := #[.int (-88)], vm := .none },
  { cls := 9, slots := #[.int (-87)], vm := .none },
  { cls := 9, slots := #[.int (-86)], vm := .none },
  { cls := 9, slots := #[.int (-85)], vm := .none },
  { cls := 9, slots := #[.int (-84)], vm := .none },
  { cls := 9, slots := #[.int (-83)], vm := .none },
  { cls := 9, slots := #[.int (-82)], vm := .none },
  { cls := 9, slots := #[.int (-81)], vm := .none },
  { cls := 9, slots := #[.int (-80)], vm := .none },
  { cls := 9, slots := #[.int (-79)], vm := .none },
  { cls := 9, slots := #[.int (-78)], vm := .none },
  { cls := 9, slots := #[.int (-77)], vm := .none },
  { cls := 9, slots := #[.int (-76)], vm := .none },
  { cls := 9, slots := #[.int (-75)], vm := .none },
  { cls := 9, slots := #[.int (-74)], vm := .none },
  { cls := 9, slots := #[.int (-73)], vm := .none },
  { cls := 9, slots := #[.int (-72)], vm := .none },
  { cls := 9, slots := #[.int (-71)], vm := .none },
  { cls := 9, slots := #[.int (-70)], vm := .none },
  { cls := 9, slots := #[.int (-69)], vm := .none },
  { cls := 9, slots := #[.int (-68)], vm := .none },
  { cls := 9, slots := #[.int (-67)], vm := .none },
  { cls := 9, slots := #[.int (-66)], vm := .none },
  { cls := 9, slots := #[.int (-65)], vm := .none },
  { cls := 9, slots := #[.int (-64)], vm := .none },
  { cls := 9, slots := #[.int (-63)], vm := .none },
  { cls := 9, slots := #[.int (-62)], vm := .none },
  { cls := 9, slots := #[.int (-61)], vm := .none },
  { cls := 9, slots := #[.int (-60)], vm := .none },
  { cls := 9, slots := #[.int (-59)], vm := .none },
  { cls := 9, slots := #[.int (-58)], vm := .none },
  { cls := 9, slots := #[.int (-57)], vm := .none },
  { cls := 9, slots := #[.int (-56)], vm := .none },
  { cls := 9, slots := #[.int (-55)], vm := .none },
  { cls := 9, slots := #[.int (-54)], vm := .none },
  { cls := 9, slots := #[.int (-53)], vm := .none },
  { cls := 9, slots := #[.int (-52)], vm := .none },
  { cls := 9, slots := #[.int (-51)], vm := .none },
  { cls := 9, slots := #[.int (-50)], vm := .none },
  { cls := 9, slots := #[.int (-49)], vm := .none },
  { cls := 9, slots := #[.int (-48)], vm := .none },
  { cls := 9, slots := #[.int (-47)], vm := .none },
  { cls := 9, slots := #[.int (-46)], vm := .none },
  { cls := 9, slots := #[.int (-45)], vm := .none },
  { cls := 9, slots := #[.int (-44)], vm := .none },
  { cls := 9, slots := #[.int (-43)], vm := .none },
  { cls := 9, slots := #[.int (-42)], vm := .none },
  { cls := 9, slots := #[.int (-41)], vm := .none },
  { cls := 9, slots := #[.int (-40)], vm := .none },
  { cls := 9, slots := #[.int (-39)], vm := .none },
  { cls := 9, slots := #[.int (-38)], vm := .none },
  { cls := 9, slots := #[.int (-37)], vm := .none },
  { cls := 9, slots := #[.int (-36)], vm := .none },
  { cls := 9, slots := #[.int (-35)], vm := .none },
  { cls := 9, slots := #[.int (-34)], vm := .none },
  { cls := 9, slots := #[.int (-33)], vm := .none },
  { cls := 9, slots := #[.int (-32)], vm := .none },
  { cls := 9, slots := #[.int (-31)], vm := .none },
  { cls := 9, slots := #[.int (-30)], vm := .none },
  { cls := 9, slots := #[.int (-29)], vm := .none },
  { cls := 9, slots := #[.int (-28)], vm := .none },
  { cls := 9, slots := #[.int (-27)], vm := .none },
  { cls := 9, slots := #[.int (-26)], vm := .none },
  { cls := 9, slots := #[.int (-25)], vm := .none },
  { cls := 9, slots := #[.int (-24)], vm := .none },
  { cls := 9, slots := #[.int (-23)], vm := .none },
  { cls := 9, slots := #[.int (-22)], vm := .none },
  { cls := 9, slots := #[.int (-21)], vm := .none },
  { cls := 9, slots := #[.int (-20)], vm := .none },
  { cls := 9, slots := #[.int (-19)], vm := .none },
  { cls := 9, slots := #[.int (-18)], vm := .none },
  { cls := 9, slots := #[.int (-17)], vm := .none },
  { cls := 9, slots := #[.int (-16)], vm := .none },
  { cls := 9, slots := #[.int (-15)], vm := .none },
  { cls := 9, slots := #[.int (-14)], vm := .none },
  { cls := 9, slots := #[.int (-13)], vm := .none },
  { cls := 9, slots := #[.int (-12)], vm := .none },
  { cls := 9, slots := #[.int (-11)], vm := .none },
  { cls := 9, slots := #[.int (-10)], vm := .none },
  { cls := 9, slots := #[.int (-9)], vm := .none },
  { cls := 9, slots := #[.int (-8)], vm := .none },
  { cls := 9, slots := #[.int (-7)], vm := .none },
  { cls := 9, slots := #[.int (-6)], vm := .none },
  { cls := 9, slots := #[.int (-5)], vm := .none },
  { cls := 9, slots := #[.int (-4)], vm := .none },
  { cls := 9, slots := #[.int (-3)], vm := .none },
  { cls := 9, slots := #[.int (-2)], vm := .none },
  { cls := 9, slots := #[.int (-1)], vm := .none },
  { cls := 9, slots := #[.int 0], vm := .none },
  { cls := 9, slots := #[.int 1], vm := .none },
  { cls := 9, slots := #[.int 2], vm := .none },
  { cls := 9, slots := #[.int 3], vm := .none },
  { cls := 9, slots := #[.int 4], vm := .none },
  { cls := 9, slots := #[.int 5], vm := .none },
  { cls := 9, slots := #[.int 6], vm := .none },
  { cls := 9, slots := #[.int 7], vm := .none },
  { cls := 9, slots := #[.int 8], vm := .none },
  { cls := 9, slots := #[.int 9], vm := .none },
  { cls := 9, slots := #[.int 10], vm := .none },
  { cls := 9, slots := #[.int 11], vm := .none },
  { cls := 9, slots := #[.int 12], vm := .none },
  { cls := 9, slots := #[.int 13], vm := .none },
  { cls := 9, slots := #[.int 14], vm := .none },
  { cls := 9, slots := #[.int 15], vm := .none },
  { cls := 9, slots := #[.int 16], vm := .none },
  { cls := 9, slots := #[.int 17], vm := .none },
  { cls := 9, slots := #[.int 18], vm := .none },
  { cls := 9, slots := #[.int 19], vm := .none },
  { cls := 9, slots := #[.int 20], vm := .none },
  { cls := 9, slots := #[.int 21], vm := .none },
  { cls := 9, slots := #[.int 22], vm := .none },
  { cls := 9, slots := #[.int 23], vm := .none },
  { cls := 9, slots := #[.int 24], vm := .none },
  { cls := 9, slots := #[.int 25], vm := .none },
  { cls := 9, slots := #[.int 26], vm := .none },
  { cls := 9, slots := #[.int 27], vm := .none },
  { cls := 9, slots := #[.int 28], vm := .none },
  { cls := 9, slots := #[.int 29], vm := .none },
  { cls := 9, slots := #[.int 30], vm := .none },
  { cls := 9, slots := #[.int 31], vm := .none },
  { cls := 9, slots := #[.int 32], vm := .none },
  { cls := 9, slots := #[.int 33], vm := .none },
  { cls := 9, slots := #[.int 34], vm := .none },
  { cls := 9, slots := #[.int 35], vm := .none },
  { cls := 9, slots := #[.int 36], vm := .none },
  { cls := 9, slots := #[.int 37], vm := .none },
  { cls := 9, slots := #[.int 38], vm := .none },
  { cls := 9, slots := #[.int 39], vm := .none },
  { cls := 9, slots := #[.int 40], vm := .none },
  { cls := 9, slots := #[.int 41], vm := .none },
  { cls := 9, slots := #[.int 42], vm := .none },
  { cls := 9, slots := #[.int 43], vm := .none },
  { cls := 9, slots := #[.int 44], vm := .none },
  { cls := 9, slots := #[.int 45], vm := .none },
  { cls := 9, slots := #[.int 46], vm := .none },
  { cls := 9, slots := #[.int 47], vm := .none },
  { cls := 9, slots := #[.int 48], vm := .none },
  { cls := 9, slots := #[.int 49], vm := .none },
  { cls := 9, slots := #[.int 50], vm := .none },
  { cls := 9, slots := #[.int 51], vm := .none },
  { cls := 9, slots := #[.int 52], vm := .none },
  { cls := 9, slots := #[.int 53], vm := .none },
  { cls := 9, slots := #[.int 54], vm := .none },
  { cls := 9, slots := #[.int 55], vm := .none },
  { cls := 9, slots := #[.int 56], vm := .none },
  { cls := 9, slots := #[.int 57], vm := .none },
  { cls := 9, slots := #[.int 58], vm := .none },
  { cls := 9, slots := #[.int 59], vm := .none },
  { cls := 9, slots := #[.int 60], vm := .none },
  { cls := 9, slots := #[.int 61], vm := .none },
  { cls := 9, slots := #[.int 62], vm := .none },
  { cls := 9, slots := #[.int 63], vm := .none },
  { cls := 9, slots := #[.int 64], vm := .none },
  { cls := 9, slots := #[.int 65], vm := .none },
  { cls := 9, slots := #[.int 66], vm := .none },
  { cls := 9, slots := #[.int 67], vm := .none },
  { cls := 9, slots := #[.int 68], vm := .none },
  { cls := 9, slots := #[.int 69], vm := .none },
  { cls := 9, slots := #[.int 70], vm := .none },
  { cls := 9, slots := #[.int 71], vm := .none },
  { cls := 9, slots := #[.int 72], vm := .none },
  { cls := 9, slots := #[.int 73], vm := .none },
  { cls := 9, slots := #[.int 74], vm := .none },
  { cls := 9, slots := #[.int 75], vm := .none },
  { cls := 9, slots := #[.int 76], vm := .none },
  { cls := 9, slots := #[.int 77], vm := .none },
  { cls := 9, slots := #[.int 78], vm := .none },
  { cls := 9, slots := #[.int 79], vm := .none },
  { cls := 9, slots := #[.int 80], vm := .none },
  { cls := 9, slots := #[.int 81], vm := .none },
  { cls := 9, slots := #[.int 82], vm := .none },
  { cls := 9, slots := #[.int 83], vm := .none },
  { cls := 9, slots := #[.int 84], vm := .none },
  { cls := 9, slots := #[.int 85], vm := .none },
  { cls := 9, slots := #[.int 86], vm := .none },
  { cls := 9, slots := #[.int 87], vm := .none },
  { cls := 9, slots := #[.int 88], vm := .none },
  { cls := 9, slots := #[.int 89], vm := .none },
  { cls := 9, slots := #[.int 90], vm := .none },
  { cls := 9, slots := #[.int 91], vm := .none },
  { cls := 9, slots := #[.int 92], vm := .none },
  { cls := 9, slots := #[.int 93], vm := .none },
  { cls := 9, slots := #[.int 94], vm := .none },
  { cls := 9, slots := #[.int 95], vm := .none },
  { cls := 9, slots := #[.int 96], vm := .none },
  { cls := 9, slots := #[.int 97], vm := .none },
  { cls := 9, slots := #[.int 98], vm := .none },
  { cls := 9, slots := #[.int 99], vm := .none },
  { cls := 9, slots := #[.int 100], vm := .none },
  { cls := 9, slots := #[.int 101], vm := .none },
  { cls := 9, slots := #[.int 102], vm := .none },
  { cls := 9, slots := #[.int 103], vm := .none },
  { cls := 9, slots := #[.int 104], vm := .none },
  { cls := 9, slots := #[.int 105], vm := .none },
  { cls := 9, slots := #[.int 106], vm := .none },
  { cls := 9, slots := #[.int 107], vm := .none },
  { cls := 9, slots := #[.int 108], vm := .none },
  { cls := 9, slots := #[.int 109], vm := .none },
  { cls := 9, slots := #[.int 110], vm := .none },
  { cls := 9, slots := #[.int 111], vm := .none },
  { cls := 9, slots := #[.int 112], vm := .none },
  { cls := 9, slots := #[.int 113], vm := .none },
  { cls := 9, slots := #[.int 114], vm := .none },
  { cls := 9, slots := #[.int 115], vm := .none },
  { cls := 9, slots := #[.int 116], vm := .none },
  { cls := 9, slots := #[.int 117], vm := .none },
  { cls := 9, slots := #[.int 118], vm := .none },
  { cls := 9, slots := #[.int 119], vm := .none },
  { cls := 9, slots := #[.int 120], vm := .none },
  { cls := 9, slots := #[.int 121], vm := .none },
  { cls := 9, slots := #[.int 122], vm := .none },
  { cls := 9, slots := #[.int 123], vm := .none },
  { cls := 9, slots := #[.int 124], vm := .none },
  { cls := 9, slots := #[.int 125], vm := .none },
  { cls := 9, slots := #[.int 126], vm := .none },
  { cls := 9, slots := #[.int 127], vm := .none }]
def classes : Array Class := #[k0, k1, k2, k3, k4, k5, k6, k7, k8, k9, k10, k11, k12, k13, k14, k15, k16, k17, k18, k19, k20, k21, k22, k23, k24, k25, k26, k27]
def interned : List (Array UInt16 × Addr) := []
def slotsUsed : Nat := 1096
def theMethod : MethodId := ⟨1, 1⟩
def args0 : Array Value := #[.int 1, .long 5]
def aboutOver (below : List Frame) : State where
  vm := { classes := classes, interned := interned.toArray }
  heap := heap
  slotsUsed := slotsUsed
  threads := #[{ frames := .invoking theMethod args0 :: below }]
def below0 : List Frame := [.native { method := ⟨0, 0⟩, args := #[] }]
def about1 : State := aboutOver below0
def p0 : Program := .bare "" "" ""
def e0 : Env := launch0.env 0 0 0
theorem w_frames : about1.frames = Frame.invoking theMethod args0 :: below0 := rfl
set_option maxRecDepth 65536 in
theorem w_args : argsFit about1.vm theMethod args0 = true := by decide +kernel
set_option maxRecDepth 65536 in
theorem w_heap : heapFits about1 = true := by decide +kernel
set_option maxRecDepth 65536 in
theorem w_runnable : about1.curStatus? = some .runnable := by decide +kernel
set_option maxRecDepth 65536 in
theorem w_alone : about1.alone = true := by decide +kernel
set_option maxRecDepth 65536 in
theorem w_named : about1.methodNamed? x = some theMethod := by decide +kernel
set_option maxRecDepth 65536 in
theorem w_hears : about1.hears theMethod below0 = true := by decide +kernel
set_option maxRecDepth 65536 in
theorem w_ripe : about1.ripe theMethod args0 below0 = true := by decide +kernel
theorem w_running : about1.status = .running := rfl
set_option maxRecDepth 65536 in
theorem w_room : about1.hasRoom e0.platform room_1 = true :=
  launch0.hasRoom_least _ room_1 (by decide +kernel) (by decide +kernel) (by decide +kernel) (by decide +kernel) (by decide +kernel) (by decide +kernel)
theorem allAtoms_all (ts : List Jvm.Cond) (a : Array Jvm.Value) (st : Jvm.State) : (allAtoms ts).before a st = ts.all (fun c => c.before a st) := by
  induction ts with
  | nil => rfl
  | cons c t ih =>
    show (Jvm.Cond.and c (allAtoms t)).before a st = _
    rw [Jvm.Cond.before_and, ih, List.all_cons]
def words1 : List Jvm.Cond := Jvm.Cond.code x code maxLocals ret :: tables_1
/-- a 'code' word, met by the world's own term for the bytes: nothing is compared byte by byte -/
theorem code_word {y : MethodName} {bytes : ByteArray} {mx : Nat} {rt : Option FieldType} {a : Array Value} {s : State} {m : MethodId} {meth : Method} {c : Code} (h1 : s.methodNamed? y = some m) (h2 : s.vm.method? m = some meth) (h3 : meth.code = some c) (h4 : c.code = bytes)
    (h5 : (c.maxLocals == mx && c.exceptionTable.isEmpty && decide (c.maxStack ≤ mostOperands) && decide (meth.sig.returnType = rt) && !meth.locks && decide (parseMethodDescriptor y.desc = some meth.sig)) = true) : (Jvm.Cond.code y bytes mx rt).before a s = true := by
  simp only [Bool.and_eq_true, beq_iff_eq, Bool.not_eq_true', decide_eq_true_eq] at h5
  obtain ⟨⟨⟨⟨⟨g1, g2⟩, g3⟩, g4⟩, g5⟩, g6⟩ := h5
  simp [Cond.before, Cond.holds, Cond.value, h1, h2, h3, h4, g1, g2, g3, g4, g5, g6]
def isCode : Jvm.Cond → Bool
  | .code _ _ _ _ => true
  | _ => false
theorem all_split {L : List Jvm.Cond} {P : Jvm.Cond → Bool} (h1 : L.all (fun c => isCode c || P c) = true) (h2 : ∀ c ∈ L.filter isCode, P c = true) : L.all P = true := by
  refine List.all_eq_true.mpr fun c hc => ?_
  have h := List.all_eq_true.mp h1 c hc
  rcases Bool.eq_false_or_eq_true (isCode c) with hi | hi
  · exact h2 c (List.mem_filter.mpr ⟨hc, hi⟩)
  · simpa [hi] using h
set_option maxRecDepth 65536 in
theorem w_c0 : (Jvm.Cond.code x code maxLocals ret).before args0 about1 = true := code_word (m := ⟨1, 1⟩) (meth := k1m1) (c := k1c1) (by decide +kernel) rfl rfl rfl (by decide +kernel)
set_option maxRecDepth 65536 in
theorem w_c1 : (Jvm.Cond.code ({ cls := "java/lang/Integer", name := "valueOf", desc := "(I)Ljava/lang/Integer;" } : Jvm.MethodName) jdk_33_method_22_code (1 : Nat) (Option.some (Jvm.ClassFile.FieldType.object "java/lang/Integer"))).before args0 about1 = true := code_word (m := ⟨9, 0⟩) (meth := k9m0) (c := k9c0) (by decide +kernel) rfl rfl rfl (by decide +kernel)
set_option maxRecDepth 65536 in
theorem w_c2 : (Jvm.Cond.code ({ cls := "com/example/wirecall/wirecall/xml/ScalarType", name := "withoutExtensions", desc := "(Ljava/lang/Object;)Lcom/example/wirecall/wirecall/xml/ScalarType;" } : Jvm.MethodName) prog_30_method_12_code (2 : Nat) (Option.some (Jvm.ClassFile.FieldType.object "com/example/wirecall/wirecall/xml/ScalarType"))).before args0 about1 = true := code_word (m := ⟨6, 1⟩) (meth := k6m1) (c := k6c1) (by decide +kernel) rfl rfl rfl (by decide +kernel)
set_option maxRecDepth 65536 in
theorem w_c3 : (Jvm.Cond.code ({ cls := "com/example/wirecall/wirecall/xml/ScalarType", name := "isExtension", desc := "()Z" } : Jvm.MethodName) prog_30_method_11_code (1 : Nat) (Option.some Jvm.ClassFile.FieldType.boolean)).before args0 about1 = true := code_word (m := ⟨6, 0⟩) (meth := k6m0) (c := k6c0) (by decide +kernel) rfl rfl rfl (by decide +kernel)
set_option maxRecDepth 65536 in
theorem w_c4 : (Jvm.Cond.code ({ cls := "java/lang/Long", name := "valueOf", desc := "(J)Ljava/lang/Long;" } : Jvm.MethodName) jdk_35_method_24_code (3 : Nat) (Option.some (Jvm.ClassFile.FieldType.object "java/lang/Long"))).before args0 about1 = true := code_word (m := ⟨12, 0⟩) (meth := k12m0) (c := k12c0) (by decide +kernel) rfl rfl rfl (by decide +kernel)
set_option maxRecDepth 65536 in
theorem w_c5 : (Jvm.Cond.code ({ cls := "java/lang/Long", name := "<init>", desc := "(J)V" } : Jvm.MethodName) jdk_35_method_26_code (3 : Nat) (Option.none : Option Jvm.ClassFile.FieldType)).before args0 about1 = true := code_word (m := ⟨12, 1⟩) (meth := k12m1) (c := k12c1) (by decide +kernel) rfl rfl rfl (by decide +kernel)
set_option maxRecDepth 65536 in
theorem w_c6 : (Jvm.Cond.code ({ cls := "java/lang/Number", name := "<init>", desc := "()V" } : Jvm.MethodName) jdk_18_method_1_code (1 : Nat) (Option.none : Option Jvm.ClassFile.FieldType)).before args0 about1 = true := code_word (m := ⟨7, 0⟩) (meth := k7m0) (c := k7c0) (by decide +kernel) rfl rfl rfl (by decide +kernel)
set_option maxRecDepth 65536 in
theorem w_c7 : (Jvm.Cond.code ({ cls := "java/lang/Object", name := "<init>", desc := "()V" } : Jvm.MethodName) object_method_1_code (1 : Nat) (Option.none : Option Jvm.ClassFile.FieldType)).before args0 about1 = true := code_word (m := ⟨0, 0⟩) (meth := k0m0) (c := k0c0) (by decide +kernel) rfl rfl rfl (by decide +kernel)
set_option maxRecDepth 65536 in
theorem w_c8 : (Jvm.Cond.code ({ cls := "com/example/wirecall/wirecall/xml/ScalarType$2", name := "withoutExtensions", desc := "(Ljava/lang/Object;)Lcom/example/wirecall/wirecall/xml/ScalarType;" } : Jvm.MethodName) prog_32_method_4_code (4 : Nat) (Option.some (Jvm.ClassFile.FieldType.object "com/example/wirecall/wirecall/xml/ScalarType"))).before args0 about1 = true := code_word (m := ⟨13, 0⟩) (meth := k13m0) (c := k13c0) (by decide +kernel) rfl rfl rfl (by decide +kernel)
set_option maxRecDepth 65536 in
theorem w_c9 : (Jvm.Cond.code ({ cls := "java/lang/Long", name := "longValue", desc := "()J" } : Jvm.MethodName) jdk_35_method_31_code (1 : Nat) (Option.some Jvm.ClassFile.FieldType.long)).before args0 about1 = true := code_word (m := ⟨12, 2⟩) (meth := k12m2) (c := k12c2) (by decide +kernel) rfl rfl rfl (by decide +kernel)
set_option maxRecDepth 65536 in
theorem w_c10 : (Jvm.Cond.code ({ cls := "java/lang/Integer", name := "<init>", desc := "(I)V" } : Jvm.MethodName) jdk_33_method_23_code (2 : Nat) (Option.none : Option Jvm.ClassFile.FieldType)).before args0 about1 = true := code_word (m := ⟨9, 1⟩) (meth := k9m1) (c := k9c1) (by decide +kernel) rfl rfl rfl (by decide +kernel)
set_option maxRecDepth 65536 in
theorem w_c11 : (Jvm.Cond.code ({ cls := "com/example/wirecall/wirecall/xml/ScalarType$8", name := "isExtension", desc := "()Z" } : Jvm.MethodName) prog_38_method_4_code (1 : Nat) (Option.some Jvm.ClassFile.FieldType.boolean)).before args0 about1 = true := code_word (m := ⟨15, 0⟩) (meth := k15m0) (c := k15c0) (by decide +kernel) rfl rfl rfl (by decide +kernel)
def codes1 : List Jvm.Cond := [Jvm.Cond.code x code maxLocals ret, Jvm.Cond.code ({ cls := "java/lang/Integer", name := "valueOf", desc := "(I)Ljava/lang/Integer;" } : Jvm.MethodName) jdk_33_method_22_code (1 : Nat) (Option.some (Jvm.ClassFile.FieldType.object "java/lang/Integer")), Jvm.Cond.code ({ cls := "com/example/wirecall/wirecall/xml/ScalarType", name := "withoutExtensions", desc := "(Ljava/lang/Object;)Lcom/example/wirecall/wirecall/xml/ScalarType;" } : Jvm.MethodName) prog_30_method_12_code (2 : Nat) (Option.some (Jvm.ClassFile.FieldType.object "com/example/wirecall/wirecall/xml/ScalarType")), Jvm.Cond.code ({ cls := "com/example/wirecall/wirecall/xml/ScalarType", name := "isExtension", desc := "()Z" } : Jvm.MethodName) prog_30_method_11_code (1 : Nat) (Option.some Jvm.ClassFile.FieldType.boolean), Jvm.Cond.code ({ cls := "java/lang/Long", name := "valueOf", desc := "(J)Ljava/lang/Long;" } : Jvm.MethodName) jdk_35_method_24_code (3 : Nat) (Option.some (Jvm.ClassFile.FieldType.object "java/lang/Long")), Jvm.Cond.code ({ cls := "java/lang/Long", name := "<init>", desc := "(J)V" } : Jvm.MethodName) jdk_35_method_26_code (3 : Nat) (Option.none : Option Jvm.ClassFile.FieldType), Jvm.Cond.code ({ cls := "java/lang/Number", name := "<init>", desc := "()V" } : Jvm.MethodName) jdk_18_method_1_code (1 : Nat) (Option.none : Option Jvm.ClassFile.FieldType), Jvm.Cond.code ({ cls := "java/lang/Object", name := "<init>", desc := "()V" } : Jvm.MethodName) object_method_1_code (1 : Nat) (Option.none : Option Jvm.ClassFile.FieldType), Jvm.Cond.code ({ cls := "com/example/wirecall/wirecall/xml/ScalarType$2", name := "withoutExtensions", desc := "(Ljava/lang/Object;)Lcom/example/wirecall/wirecall/xml/ScalarType;" } : Jvm.MethodName) prog_32_method_4_code (4 : Nat) (Option.some (Jvm.ClassFile.FieldType.object "com/example/wirecall/wirecall/xml/ScalarType")), Jvm.Cond.code ({ cls := "java/lang/Long", name := "longValue", desc := "()J" } : Jvm.MethodName) jdk_35_method_31_code (1 : Nat) (Option.some Jvm.ClassFile.FieldType.long), Jvm.Cond.code ({ cls := "java/lang/Integer", name := "<init>", desc := "(I)V" } : Jvm.MethodName) jdk_33_method_23_code (2 : Nat) (Option.none : Option Jvm.ClassFile.FieldType), Jvm.Cond.code ({ cls := "com/example/wirecall/wirecall/xml/ScalarType$8", name := "isExtension", desc := "()Z" } : Jvm.MethodName) prog_38_method_4_code (1 : Nat) (Option.some Jvm.ClassFile.FieldType.boolean)]
set_option maxRecDepth 65536 in
theorem codes_eq : words1.filter isCode = codes1 := rfl
theorem w_codes : ∀ c ∈ words1.filter isCode, c.before args0 about1 = true := by
  rw [codes_eq]
  intro c hc
  simp only [codes1, List.mem_cons, List.not_mem_nil, or_false] at hc
  rcases hc with rfl | rfl | rfl | rfl | rfl | rfl | rfl | rfl | rfl | rfl | rfl | rfl
  · exact w_c0
  · exact w_c1
  · exact w_c2
  · exact w_c3
  · exact w_c4
  · exact w_c5
  · exact w_c6
  · exact w_c7
  · exact w_c8
  · exact w_c9
  · exact w_c10
  · exact w_c11
set_option maxRecDepth 65536 in
theorem w_t1 : (words1.take 24).all (fun c => isCode c || c.before args0 about1) = true := by decide +kernel
set_option maxRecDepth 65536 in
theorem w_t2 : ((words1.drop 24).take 24).all (fun c => isCode c || c.before args0 about1) = true := by decide +kernel
set_option maxRecDepth 65536 in
theorem w_t3 : (((words1.drop 24).drop 24).take 24).all (fun c => isCode c || c.before args0 about1) = true := by decide +kernel
set_option maxRecDepth 65536 in
theorem w_t4 : ((((words1.drop 24).drop 24).drop 24).take 24).all (fun c => isCode c || c.before args0 about1) = true := by decide +kernel
set_option maxRecDepth 65536 in
theorem w_t5 : ((((words1.drop 24).drop 24).drop 24).drop 24).all (fun c => isCode c || c.before args0 about1) = true := by decide +kernel
theorem w_tables : (allAtoms (Jvm.Cond.code x code maxLocals ret :: tables_1)).before args0 about1 = true := by
  rw [allAtoms_all]
  show words1.all (fun c => c.before args0 about1) = true
  refine all_split ?_ w_codes
  rw [← List.take_append_drop 24 words1, List.all_append, w_t1, ← List.take_append_drop 24 (words1.drop 24), List.all_append, w_t2, ← List.take_append_drop 24 ((words1.drop 24).drop 24), List.all_append, w_t3, ← List.take_append_drop 24 (((words1.drop 24).drop 24).drop 24), List.all_append, w_t4, w_t5]
  rfl
set_option maxRecDepth 65536 in
theorem w_rest : rest_1_c.before args0 about1 = true := by decide +kernel
set_option maxRecDepth 65536 in
theorem w_case : (Jvm.Cond.and given_1 narrow_1).before args0 about1 = true := by decide +kernel
theorem w_applies : (headSpec (Jvm.Cond.code x code maxLocals ret :: tables_1) room_1).applies x e0.platform about1 = true :=
  (Spec.applies_iff w_frames).mpr ⟨w_running, w_runnable, w_alone, w_named, w_hears, w_ripe, w_room, w_tables⟩
theorem atStart : AtStart classFile x code maxLocals ret World_1 tables_1 room_1 Calls_1 rest_1 Pre_1 launch0 p0 e0 about1 theMethod args0 below0 :=
  ⟨lists_1, trivial, launch0.admits_env _ _ _, launch0.least_env, fairChoices_fair.cas, fairChoices_fair.clock, w_frames, w_args, w_heap, w_applies, trivial, w_rest, w_case⟩
end start1
theorem witness_1 : WitnessClaimed_1 := ⟨start1.p0, start1.e0, start1.about1, start1.theMethod, start1.args0, start1.below0, start1.atStart⟩
end Jvm.Pilot.@@N@@
