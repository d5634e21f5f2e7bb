import JvmDerived
import JvmDerived.Pilot.@@N@@Statement
import JvmDerived.Pilot.@@N@@Code
set_option linter.unusedVariables false
set_option linter.unusedSimpArgs false
namespace Jvm.RoadKit
open Sem ClassFile Op Lib Jvm.Stand Jvm.Free Jvm.LawKit
section New
variable {p : Program} {l : Launch} {e : Env} {R : Room} {s : State} {m : MethodId} {args : Array Value} {below : List Frame} {meth : Method} {c : Code} {T : State} {locs : List Loc} {cells slots : Nat}
theorem retI (X : Stand p l e R s m args below meth c T locs cells slots) (hx : p.tables.exec = Jvm.exec) {pc : Nat} {Ls : Array Slot} {z : Int32} {rest : List Value} (hret : meth.sig.returnType = some .int) (hd : decode c.code pc = .ok (.ireturn, 1)) {fs : List Frame}
    (hl : ∀ (f : JFrame) (acts : List Action), f.method = m → f.locked = none → f.entered = [] → (doReturn e (T.setTop f) acts (some (.int z))).1 = T.setFrames fs) : Steps p.tables e below (T.setTop (mkF m pc Ls (.int z :: rest))) (T.setFrames fs) := by
  have hm' : T.vm.method? m = some meth := X.method'
  have hn : narrow .int (.int z) = .int z := rfl
  show Steps p.tables e below (T.setTop { method := m, pc := pc, locals := Ls, stack := _ :: rest, locked := none }) _
  jvm_step X.here [X.here.top, hx, hd, hm', hret, hn]
  first | (intro acts; rw [hl _ acts rfl rfl rfl]) | rw [hl _ _ rfl rfl rfl]
  exact Steps.refl _
end New
theorem ext_refl {h : Heap} : Ext h h := ⟨Nat.le_refl _, fun _ _ q => q⟩
theorem ext_trans {h h' h'' : Heap} (E : Ext h h') (E' : Ext h' h'') : Ext h h'' := ⟨Nat.le_trans E.1 E'.1, fun a c q => E'.2 a c (E.2 a c q)⟩
theorem ext_keep {h h' h'' : Heap} {ws : List Addr} (E : Ext h h') (K : Keep h' h'' ws) (q : ∀ x ∈ ws, h.size ≤ x) : Ext h h'' := ⟨Nat.le_trans E.1 K.1, fun a c r => K.2.1 a c (E.2 a c r) fun z => absurd (Array.getElem?_eq_some_iff.mp r).1 (Nat.not_lt.mpr (q a z))⟩
theorem ext_wr {h h' h'' : Heap} {a : Addr} {sl : Nat} {v : Value} (E : Ext h h') (W : Wr h' h'' a sl v) (q : h.size ≤ a) : Ext h h'' := ext_keep E (Keep.of_wr W) (allS q all0)
theorem old_le {Z : State} {n0 : Nat} {h : Heap} (O : Old Z n0 h) : n0 ≤ h.size := O.1 ▸ O.2.1
end Jvm.RoadKit
namespace Jvm.Own.Fw
open Sem ClassFile Op Lib Jvm.Stand Jvm.Free Jvm.LawKit Jvm.RoadKit
variable {p : Program} {l : Launch} {e : Env} {R : Room} {s : State} {m : MethodId} {args : Array Value} {below : List Frame} {meth : Method} {c : Code} {T S : State} {G : JFrame} {locs : List Loc} {cells slots : Nat} {pc pc' : Nat} {Ls : Array Slot} {St : List Value}
theorem iloadN {i : Fin 4} {v : Int32} (k : Goes p e below S G T (mkF m pc Ls St)) (X : Stand p l e R s m args below meth c T locs cells slots) (hx : p.tables.exec = Jvm.exec) (hd : decode c.code pc = .ok (.iload_n i, 1)) (hl : Ls[i.val]? = some (.val (.int v))) (hp : pc + 1 = pc') : Goes p e below S G T (mkF m pc' Ls (.int v :: St)) := by
  subst hp; exact fun t q => k t (XS.iloadN X.here hx rfl hd hl q)
theorem iload {i : Nat} {v : Int32} (k : Goes p e below S G T (mkF m pc Ls St)) (X : Stand p l e R s m args below meth c T locs cells slots) (hx : p.tables.exec = Jvm.exec) (hd : decode c.code pc = .ok (.iload i, 2)) (hl : Ls[i]? = some (.val (.int v))) (hp : pc + 2 = pc') : Goes p e below S G T (mkF m pc' Ls (.int v :: St)) := by
  subst hp; exact fun t q => k t (XS.iload X.here hx rfl hd hl q)
theorem lloadN {i : Fin 4} {v : Int64} (k : Goes p e below S G T (mkF m pc Ls St)) (X : Stand p l e R s m args below meth c T locs cells slots) (hx : p.tables.exec = Jvm.exec) (hd : decode c.code pc = .ok (.lload_n i, 1)) (hl : Ls[i.val]? = some (.val (.long v))) (hp : pc + 1 = pc') : Goes p e below S G T (mkF m pc' Ls (.long v :: St)) := by
  subst hp; exact fun t q => k t (XS.lloadN X.here hx rfl hd hl q)
theorem lload {i : Nat} {v : Int64} (k : Goes p e below S G T (mkF m pc Ls St)) (X : Stand p l e R s m args below meth c T locs cells slots) (hx : p.tables.exec = Jvm.exec) (hd : decode c.code pc = .ok (.lload i, 2)) (hl : Ls[i]? = some (.val (.long v))) (hp : pc + 2 = pc') : Goes p e below S G T (mkF m pc' Ls (.long v :: St)) := by
  subst hp; exact fun t q => k t (XS.lload X.here hx rfl hd hl q)
theorem aloadN {i : Fin 4} {v : Value} (k : Goes p e below S G T (mkF m pc Ls St)) (X : Stand p l e R s m args below meth c T locs cells slots) (hx : p.tables.exec = Jvm.exec) (hd : decode c.code pc = .ok (.aload_n i, 1)) (hl : Ls[i.val]? = some (.val v)) (hv : v.isRef = true) (hp : pc + 1 = pc') : Goes p e below S G T (mkF m pc' Ls (v :: St)) := by
  subst hp; exact fun t q => k t (XS.aloadN X.here hx rfl hd hl hv q)
theorem aload {i : Nat} {v : Value} (k : Goes p e below S G T (mkF m pc Ls St)) (X : Stand p l e R s m args below meth c T locs cells slots) (hx : p.tables.exec = Jvm.exec) (hd : decode c.code pc = .ok (.aload i, 2)) (hl : Ls[i]? = some (.val v)) (hv : v.isRef = true) (hp : pc + 2 = pc') : Goes p e below S G T (mkF m pc' Ls (v :: St)) := by
  subst hp; exact fun t q => k t (XS.aload X.here hx rfl hd hl hv q)
theorem istoreN {i : Fin 4} {v : Int32} {Ls' : Array Slot} (k : Goes p e below S G T (mkF m pc Ls (.int v :: St))) (X : Stand p l e R s m args below meth c T locs cells slots) (hx : p.tables.exec = Jvm.exec) (hd : decode c.code pc = .ok (.istore_n i, 1)) (hl : storeLocals Ls i.val (.int v) = some Ls') (hp : pc + 1 = pc') : Goes p e below S G T (mkF m pc' Ls' St) := by
  subst hp; exact fun t q => k t (XS.istoreN X.here hx rfl hd rfl hl q)
theorem istore {i : Nat} {v : Int32} {Ls' : Array Slot} (k : Goes p e below S G T (mkF m pc Ls (.int v :: St))) (X : Stand p l e R s m args below meth c T locs cells slots) (hx : p.tables.exec = Jvm.exec) (hd : decode c.code pc = .ok (.istore i, 2)) (hl : storeLocals Ls i (.int v) = some Ls') (hp : pc + 2 = pc') : Goes p e below S G T (mkF m pc' Ls' St) := by
  subst hp; exact fun t q => k t (XS.istore X.here hx rfl hd rfl hl q)
theorem lstoreN {i : Fin 4} {v : Int64} {Ls' : Array Slot} (k : Goes p e below S G T (mkF m pc Ls (.long v :: St))) (X : Stand p l e R s m args below meth c T locs cells slots) (hx : p.tables.exec = Jvm.exec) (hd : decode c.code pc = .ok (.lstore_n i, 1)) (hl : storeLocals Ls i.val (.long v) = some Ls') (hp : pc + 1 = pc') : Goes p e below S G T (mkF m pc' Ls' St) := by
  subst hp; exact fun t q => k t (XS.lstoreN X.here hx rfl hd rfl hl q)
theorem lstore {i : Nat} {v : Int64} {Ls' : Array Slot} (k : Goes p e below S G T (mkF m pc Ls (.long v :: St))) (X : Stand p l e R s m args below meth c T locs cells slots) (hx : p.tables.exec = Jvm.exec) (hd : decode c.code pc = .ok (.lstore i, 2)) (hl : storeLocals Ls i (.long v) = some Ls') (hp : pc + 2 = pc') : Goes p e below S G T (mkF m pc' Ls' St) := by
  subst hp; exact fun t q => k t (XS.lstore X.here hx rfl hd rfl hl q)
theorem astoreN {i : Fin 4} {v : Value} {Ls' : Array Slot} (k : Goes p e below S G T (mkF m pc Ls (v :: St))) (X : Stand p l e R s m args below meth c T locs cells slots) (hx : p.tables.exec = Jvm.exec) (hd : decode c.code pc = .ok (.astore_n i, 1)) (hv : v.isRef = true) (hl : storeLocals Ls i.val v = some Ls') (hp : pc + 1 = pc') : Goes p e below S G T (mkF m pc' Ls' St) := by
  subst hp; exact fun t q => k t (XS.astoreN X.here hx rfl hd rfl hv hl q)
theorem astore {i : Nat} {v : Value} {Ls' : Array Slot} (k : Goes p e below S G T (mkF m pc Ls (v :: St))) (X : Stand p l e R s m args below meth c T locs cells slots) (hx : p.tables.exec = Jvm.exec) (hd : decode c.code pc = .ok (.astore i, 2)) (hv : v.isRef = true) (hl : storeLocals Ls i v = some Ls') (hp : pc + 2 = pc') : Goes p e below S G T (mkF m pc' Ls' St) := by
  subst hp; exact fun t q => k t (XS.astore X.here hx rfl hd rfl hv hl q)
theorem iconst {i : Int} {z : Int32} (k : Goes p e below S G T (mkF m pc Ls St)) (X : Stand p l e R s m args below meth c T locs cells slots) (hx : p.tables.exec = Jvm.exec) (hd : decode c.code pc = .ok (.iconst i, 1)) (hz : Int32.ofInt i = z) (hp : pc + 1 = pc') : Goes p e below S G T (mkF m pc' Ls (.int z :: St)) := by
  subst hp; exact fun t q => k t (XS.iconst X.here hx rfl hd (hz ▸ q))
theorem bipush {i : Int} {z : Int32} (k : Goes p e below S G T (mkF m pc Ls St)) (X : Stand p l e R s m args below meth c T locs cells slots) (hx : p.tables.exec = Jvm.exec) (hd : decode c.code pc = .ok (.bipush i, 2)) (hz : (Int8.ofInt i).toInt32 = z) (hp : pc + 2 = pc') : Goes p e below S G T (mkF m pc' Ls (.int z :: St)) := by
  subst hp; exact fun t q => k t (XS.bipush X.here hx rfl hd (hz ▸ q))
theorem sipush {i : Int} {z : Int32} (k : Goes p e below S G T (mkF m pc Ls St)) (X : Stand p l e R s m args below meth c T locs cells slots) (hx : p.tables.exec = Jvm.exec) (hd : decode c.code pc = .ok (.sipush i, 3)) (hz : (Int16.ofInt i).toInt32 = z) (hp : pc + 3 = pc') : Goes p e below S G T (mkF m pc' Ls (.int z :: St)) := by
  subst hp; exact fun t q => k t (XS.sipush X.here hx rfl hd (hz ▸ q))
theorem lconst {i : Fin 2} {z : Int64} (k : Goes p e below S G T (mkF m pc Ls St)) (X : Stand p l e R s m args below meth c T locs cells slots) (hx : p.tables.exec = Jvm.exec) (hd : decode c.code pc = .ok (.lconst i, 1)) (hz : Int64.ofNat i = z) (hp : pc + 1 = pc') : Goes p e below S G T (mkF m pc' Ls (.long z :: St)) := by
  subst hp; exact fun t q => k t (XS.lconst X.here hx rfl hd (hz ▸ q))
theorem aconstNull  (k : Goes p e below S G T (mkF m pc Ls St)) (X : Stand p l e R s m args below meth c T locs cells slots) (hx : p.tables.exec = Jvm.exec) (hd : decode c.code pc = .ok (.aconst_null, 1)) (hp : pc + 1 = pc') : Goes p e below S G T (mkF m pc' Ls (.null :: St)) := by
  subst hp; exact fun t q => k t (XS.aconstNull X.here hx rfl hd q)
theorem iadd {x y z : Int32} (k : Goes p e below S G T (mkF m pc Ls (.int y :: .int x :: St))) (X : Stand p l e R s m args below meth c T locs cells slots) (hx : p.tables.exec = Jvm.exec) (hd : decode c.code pc = .ok (.iadd, 1)) (hz : x + y = z) (hp : pc + 1 = pc') : Goes p e below S G T (mkF m pc' Ls (.int z :: St)) := by
  subst hp; exact fun t q => k t (XS.iadd X.here hx rfl hd rfl (hz ▸ q))
theorem ladd {x y z : Int64} (k : Goes p e below S G T (mkF m pc Ls (.long y :: .long x :: St))) (X : Stand p l e R s m args below meth c T locs cells slots) (hx : p.tables.exec = Jvm.exec) (hd : decode c.code pc = .ok (.ladd, 1)) (hz : x + y = z) (hp : pc + 1 = pc') : Goes p e below S G T (mkF m pc' Ls (.long z :: St)) := by
  subst hp; exact fun t q => k t (XS.ladd X.here hx rfl hd rfl (hz ▸ q))
theorem isub {x y z : Int32} (k : Goes p e below S G T (mkF m pc Ls (.int y :: .int x :: St))) (X : Stand p l e R s m args below meth c T locs cells slots) (hx : p.tables.exec = Jvm.exec) (hd : decode c.code pc = .ok (.isub, 1)) (hz : x - y = z) (hp : pc + 1 = pc') : Goes p e below S G T (mkF m pc' Ls (.int z :: St)) := by
  subst hp; exact fun t q => k t (XS.isub X.here hx rfl hd rfl (hz ▸ q))
theorem lsub {x y z : Int64} (k : Goes p e below S G T (mkF m pc Ls (.long y :: .long x :: St))) (X : Stand p l e R s m args below meth c T locs cells slots) (hx : p.tables.exec = Jvm.exec) (hd : decode c.code pc = .ok (.lsub, 1)) (hz : x - y = z) (hp : pc + 1 = pc') : Goes p e below S G T (mkF m pc' Ls (.long z :: St)) := by
  subst hp; exact fun t q => k t (XS.lsub X.here hx rfl hd rfl (hz ▸ q))
theorem imul {x y z : Int32} (k : Goes p e below S G T (mkF m pc Ls (.int y :: .int x :: St))) (X : Stand p l e R s m args below meth c T locs cells slots) (hx : p.tables.exec = Jvm.exec) (hd : decode c.code pc = .ok (.imul, 1)) (hz : x * y = z) (hp : pc + 1 = pc') : Goes p e below S G T (mkF m pc' Ls (.int z :: St)) := by
  subst hp; exact fun t q => k t (XS.imul X.here hx rfl hd rfl (hz ▸ q))
theorem lmul {x y z : Int64} (k : Goes p e below S G T (mkF m pc Ls (.long y :: .long x :: St))) (X : Stand p l e R s m args below meth c T locs cells slots) (hx : p.tables.exec = Jvm.exec) (hd : decode c.code pc = .ok (.lmul, 1)) (hz : x * y = z) (hp : pc + 1 = pc') : Goes p e below S G T (mkF m pc' Ls (.long z :: St)) := by
  subst hp; exact fun t q => k t (XS.lmul X.here hx rfl hd rfl (hz ▸ q))
theorem iand {x y z : Int32} (k : Goes p e below S G T (mkF m pc Ls (.int y :: .int x :: St))) (X : Stand p l e R s m args below meth c T locs cells slots) (hx : p.tables.exec = Jvm.exec) (hd : decode c.code pc = .ok (.iand, 1)) (hz : x &&& y = z) (hp : pc + 1 = pc') : Goes p e below S G T (mkF m pc' Ls (.int z :: St)) := by
  subst hp; exact fun t q => k t (XS.iand X.here hx rfl hd rfl (hz ▸ q))
theorem land {x y z : Int64} (k : Goes p e below S G T (mkF m pc Ls (.long y :: .long x :: St))) (X : Stand p l e R s m args below meth c T locs cells slots) (hx : p.tables.exec = Jvm.exec) (hd : decode c.code pc = .ok (.land, 1)) (hz : x &&& y = z) (hp : pc + 1 = pc') : Goes p e below S G T (mkF m pc' Ls (.long z :: St)) := by
  subst hp; exact fun t q => k t (XS.land X.here hx rfl hd rfl (hz ▸ q))
theorem ior {x y z : Int32} (k : Goes p e below S G T (mkF m pc Ls (.int y :: .int x :: St))) (X : Stand p l e R s m args below meth c T locs cells slots) (hx : p.tables.exec = Jvm.exec) (hd : decode c.code pc = .ok (.ior, 1)) (hz : x ||| y = z) (hp : pc + 1 = pc') : Goes p e below S G T (mkF m pc' Ls (.int z :: St)) := by
  subst hp; exact fun t q => k t (XS.ior X.here hx rfl hd rfl (hz ▸ q))
theorem lor {x y z : Int64} (k : Goes p e below S G T (mkF m pc Ls (.long y :: .long x :: St))) (X : Stand p l e R s m args below meth c T locs cells slots) (hx : p.tables.exec = Jvm.exec) (hd : decode c.code pc = .ok (.lor, 1)) (hz : x ||| y = z) (hp : pc + 1 = pc') : Goes p e below S G T (mkF m pc' Ls (.long z :: St)) := by
  subst hp; exact fun t q => k t (XS.lor X.here hx rfl hd rfl (hz ▸ q))
theorem ixor {x y z : Int32} (k : Goes p e below S G T (mkF m pc Ls (.int y :: .int x :: St))) (X : Stand p l e R s m args below meth c T locs cells slots) (hx : p.tables.exec = Jvm.exec) (hd : decode c.code pc = .ok (.ixor, 1)) (hz : x ^^^ y = z) (hp : pc + 1 = pc') : Goes p e below S G T (mkF m pc' Ls (.int z :: St)) := by
  subst hp; exact fun t q => k t (XS.ixor X.here hx rfl hd rfl (hz ▸ q))
theorem lxor {x y z : Int64} (k : Goes p e below S G T (mkF m pc Ls (.long y :: .long x :: St))) (X : Stand p l e R s m args below meth c T locs cells slots) (hx : p.tables.exec = Jvm.exec) (hd : decode c.code pc = .ok (.lxor, 1)) (hz : x ^^^ y = z) (hp : pc + 1 = pc') : Goes p e below S G T (mkF m pc' Ls (.long z :: St)) := by
  subst hp; exact fun t q => k t (XS.lxor X.here hx rfl hd rfl (hz ▸ q))
theorem ineg {x : Int32} {z : Int32} (k : Goes p e below S G T (mkF m pc Ls (.int x :: St))) (X : Stand p l e R s m args below meth c T locs cells slots) (hx : p.tables.exec = Jvm.exec) (hd : decode c.code pc = .ok (.ineg, 1)) (hz : -x = z) (hp : pc + 1 = pc') : Goes p e below S G T (mkF m pc' Ls (.int z :: St)) := by
  subst hp; exact fun t q => k t (XS.ineg X.here hx rfl hd rfl (hz ▸ q))
theorem lneg {x : Int64} {z : Int64} (k : Goes p e below S G T (mkF m pc Ls (.long x :: St))) (X : Stand p l e R s m args below meth c T locs cells slots) (hx : p.tables.exec = Jvm.exec) (hd : decode c.code pc = .ok (.lneg, 1)) (hz : -x = z) (hp : pc + 1 = pc') : Goes p e below S G T (mkF m pc' Ls (.long z :: St)) := by
  subst hp; exact fun t q => k t (XS.lneg X.here hx rfl hd rfl (hz ▸ q))
theorem i2l {x : Int32} {z : Int64} (k : Goes p e below S G T (mkF m pc Ls (.int x :: St))) (X : Stand p l e R s m args below meth c T locs cells slots) (hx : p.tables.exec = Jvm.exec) (hd : decode c.code pc = .ok (.i2l, 1)) (hz : x.toInt64 = z) (hp : pc + 1 = pc') : Goes p e below S G T (mkF m pc' Ls (.long z :: St)) := by
  subst hp; exact fun t q => k t (XS.i2l X.here hx rfl hd rfl (hz ▸ q))
theorem l2i {x : Int64} {z : Int32} (k : Goes p e below S G T (mkF m pc Ls (.long x :: St))) (X : Stand p l e R s m args below meth c T locs cells slots) (hx : p.tables.exec = Jvm.exec) (hd : decode c.code pc = .ok (.l2i, 1)) (hz : x.toInt32 = z) (hp : pc + 1 = pc') : Goes p e below S G T (mkF m pc' Ls (.int z :: St)) := by
  subst hp; exact fun t q => k t (XS.l2i X.here hx rfl hd rfl (hz ▸ q))
theorem i2b {x : Int32} {z : Int32} (k : Goes p e below S G T (mkF m pc Ls (.int x :: St))) (X : Stand p l e R s m args below meth c T locs cells slots) (hx : p.tables.exec = Jvm.exec) (hd : decode c.code pc = .ok (.i2b, 1)) (hz : x.toInt8.toInt32 = z) (hp : pc + 1 = pc') : Goes p e below S G T (mkF m pc' Ls (.int z :: St)) := by
  subst hp; exact fun t q => k t (XS.i2b X.here hx rfl hd rfl (hz ▸ q))
theorem i2s {x : Int32} {z : Int32} (k : Goes p e below S G T (mkF m pc Ls (.int x :: St))) (X : Stand p l e R s m args below meth c T locs cells slots) (hx : p.tables.exec = Jvm.exec) (hd : decode c.code pc = .ok (.i2s, 1)) (hz : x.toInt16.toInt32 = z) (hp : pc + 1 = pc') : Goes p e below S G T (mkF m pc' Ls (.int z :: St)) := by
  subst hp; exact fun t q => k t (XS.i2s X.here hx rfl hd rfl (hz ▸ q))
theorem i2c {x : Int32} {z : Int32} (k : Goes p e below S G T (mkF m pc Ls (.int x :: St))) (X : Stand p l e R s m args below meth c T locs cells slots) (hx : p.tables.exec = Jvm.exec) (hd : decode c.code pc = .ok (.i2c, 1)) (hz : x.toUInt32.toUInt16.toUInt32.toInt32 = z) (hp : pc + 1 = pc') : Goes p e below S G T (mkF m pc' Ls (.int z :: St)) := by
  subst hp; exact fun t q => k t (XS.i2c X.here hx rfl hd rfl (hz ▸ q))
theorem ishl {x y z : Int32} (k : Goes p e below S G T (mkF m pc Ls (.int y :: .int x :: St))) (X : Stand p l e R s m args below meth c T locs cells slots) (hx : p.tables.exec = Jvm.exec) (hd : decode c.code pc = .ok (.ishl, 1)) (hz : x <<< (y &&& 31) = z) (hp : pc + 1 = pc') : Goes p e below S G T (mkF m pc' Ls (.int z :: St)) := by
  subst hp; exact fun t q => k t (XS.ishl X.here hx rfl hd rfl (hz ▸ q))
theorem ishr {x y z : Int32} (k : Goes p e below S G T (mkF m pc Ls (.int y :: .int x :: St))) (X : Stand p l e R s m args below meth c T locs cells slots) (hx : p.tables.exec = Jvm.exec) (hd : decode c.code pc = .ok (.ishr, 1)) (hz : x >>> (y &&& 31) = z) (hp : pc + 1 = pc') : Goes p e below S G T (mkF m pc' Ls (.int z :: St)) := by
  subst hp; exact fun t q => k t (XS.ishr X.here hx rfl hd rfl (hz ▸ q))
theorem iushr {x y z : Int32} (k : Goes p e below S G T (mkF m pc Ls (.int y :: .int x :: St))) (X : Stand p l e R s m args below meth c T locs cells slots) (hx : p.tables.exec = Jvm.exec) (hd : decode c.code pc = .ok (.iushr, 1)) (hz : (x.toUInt32 >>> (y &&& 31).toUInt32).toInt32 = z) (hp : pc + 1 = pc') : Goes p e below S G T (mkF m pc' Ls (.int z :: St)) := by
  subst hp; exact fun t q => k t (XS.iushr X.here hx rfl hd rfl (hz ▸ q))
theorem lshl {x z : Int64} {y : Int32} (k : Goes p e below S G T (mkF m pc Ls (.int y :: .long x :: St))) (X : Stand p l e R s m args below meth c T locs cells slots) (hx : p.tables.exec = Jvm.exec) (hd : decode c.code pc = .ok (.lshl, 1)) (hz : x <<< (y &&& 0x3f).toInt64 = z) (hp : pc + 1 = pc') : Goes p e below S G T (mkF m pc' Ls (.long z :: St)) := by
  subst hp; exact fun t q => k t (XS.lshl X.here hx rfl hd rfl (hz ▸ q))
theorem lshr {x z : Int64} {y : Int32} (k : Goes p e below S G T (mkF m pc Ls (.int y :: .long x :: St))) (X : Stand p l e R s m args below meth c T locs cells slots) (hx : p.tables.exec = Jvm.exec) (hd : decode c.code pc = .ok (.lshr, 1)) (hz : x >>> (y &&& 0x3f).toInt64 = z) (hp : pc + 1 = pc') : Goes p e below S G T (mkF m pc' Ls (.long z :: St)) := by
  subst hp; exact fun t q => k t (XS.lshr X.here hx rfl hd rfl (hz ▸ q))
theorem lushr {x z : Int64} {y : Int32} (k : Goes p e below S G T (mkF m pc Ls (.int y :: .long x :: St))) (X : Stand p l e R s m args below meth c T locs cells slots) (hx : p.tables.exec = Jvm.exec) (hd : decode c.code pc = .ok (.lushr, 1)) (hz : (x.toUInt64 >>> (y &&& 0x3f).toInt64.toUInt64).toInt64 = z) (hp : pc + 1 = pc') : Goes p e below S G T (mkF m pc' Ls (.long z :: St)) := by
  subst hp; exact fun t q => k t (XS.lushr X.here hx rfl hd rfl (hz ▸ q))
theorem idiv {x y z : Int32} (k : Goes p e below S G T (mkF m pc Ls (.int y :: .int x :: St))) (X : Stand p l e R s m args below meth c T locs cells slots) (hx : p.tables.exec = Jvm.exec) (hd : decode c.code pc = .ok (.idiv, 1)) (hy : y ≠ 0) (hz : x / y = z) (hp : pc + 1 = pc') : Goes p e below S G T (mkF m pc' Ls (.int z :: St)) := by
  subst hp; exact fun t q => k t (XS.idiv X.here hx rfl hd rfl hy (hz ▸ q))
theorem ldiv {x y z : Int64} (k : Goes p e below S G T (mkF m pc Ls (.long y :: .long x :: St))) (X : Stand p l e R s m args below meth c T locs cells slots) (hx : p.tables.exec = Jvm.exec) (hd : decode c.code pc = .ok (.ldiv, 1)) (hy : y ≠ 0) (hz : x / y = z) (hp : pc + 1 = pc') : Goes p e below S G T (mkF m pc' Ls (.long z :: St)) := by
  subst hp; exact fun t q => k t (XS.ldiv X.here hx rfl hd rfl hy (hz ▸ q))
theorem irem {x y z : Int32} (k : Goes p e below S G T (mkF m pc Ls (.int y :: .int x :: St))) (X : Stand p l e R s m args below meth c T locs cells slots) (hx : p.tables.exec = Jvm.exec) (hd : decode c.code pc = .ok (.irem, 1)) (hy : y ≠ 0) (hz : x % y = z) (hp : pc + 1 = pc') : Goes p e below S G T (mkF m pc' Ls (.int z :: St)) := by
  subst hp; exact fun t q => k t (iremM X hx rfl hd rfl hy (hz ▸ q))
theorem lrem {x y z : Int64} (k : Goes p e below S G T (mkF m pc Ls (.long y :: .long x :: St))) (X : Stand p l e R s m args below meth c T locs cells slots) (hx : p.tables.exec = Jvm.exec) (hd : decode c.code pc = .ok (.lrem, 1)) (hy : y ≠ 0) (hz : x % y = z) (hp : pc + 1 = pc') : Goes p e below S G T (mkF m pc' Ls (.long z :: St)) := by
  subst hp; exact fun t q => k t (XS.lrem X.here hx rfl hd rfl hy (by rw [lrem_mod]; exact hz ▸ q))
theorem lcmp {x y : Int64} (k : Goes p e below S G T (mkF m pc Ls (.long y :: .long x :: St))) (X : Stand p l e R s m args below meth c T locs cells slots) (hx : p.tables.exec = Jvm.exec) (hd : decode c.code pc = .ok (.lcmp, 1)) (hp : pc + 1 = pc') : Goes p e below S G T (mkF m pc' Ls (.int (lcmpW x y) :: St)) := by
  subst hp; exact fun t q => k t (XS.lcmp X.here hx rfl hd rfl q)
theorem iinc {i : Nat} {cst : Int} {x z : Int32} {Ls' : Array Slot} (k : Goes p e below S G T (mkF m pc Ls St)) (X : Stand p l e R s m args below meth c T locs cells slots) (hx : p.tables.exec = Jvm.exec) (hd : decode c.code pc = .ok (.iinc i cst, 3)) (hl : Ls[i]? = some (.val (.int x))) (hz : x + Int32.ofInt cst = z) (hl' : storeLocals Ls i (.int z) = some Ls') (hp : pc + 3 = pc') : Goes p e below S G T (mkF m pc' Ls' St) := by
  subst hp; exact fun t q => k t (XS.iinc X.here hx rfl hd hl (hz ▸ hl') q)
theorem dup {v : Value} (k : Goes p e below S G T (mkF m pc Ls (v :: St))) (X : Stand p l e R s m args below meth c T locs cells slots) (hx : p.tables.exec = Jvm.exec) (hd : decode c.code pc = .ok (.dup, 1)) (hc : v.category = 1) (hp : pc + 1 = pc') : Goes p e below S G T (mkF m pc' Ls (v :: v :: St)) := by
  subst hp; exact fun t q => k t (XS.dup X.here hx rfl hd rfl hc q)
theorem dupX1 {v w : Value} (k : Goes p e below S G T (mkF m pc Ls (v :: w :: St))) (X : Stand p l e R s m args below meth c T locs cells slots) (hx : p.tables.exec = Jvm.exec) (hd : decode c.code pc = .ok (.dup_x1, 1)) (hc : v.category = 1) (hc' : w.category = 1) (hp : pc + 1 = pc') : Goes p e below S G T (mkF m pc' Ls (v :: w :: v :: St)) := by
  subst hp; exact fun t q => k t (XS.dupX1 X.here hx rfl hd rfl hc hc' q)
theorem pop {v : Value} (k : Goes p e below S G T (mkF m pc Ls (v :: St))) (X : Stand p l e R s m args below meth c T locs cells slots) (hx : p.tables.exec = Jvm.exec) (hd : decode c.code pc = .ok (.pop, 1)) (hc : v.category = 1) (hp : pc + 1 = pc') : Goes p e below S G T (mkF m pc' Ls St) := by
  subst hp; exact fun t q => k t (XS.pop X.here hx rfl hd rfl hc q)
theorem goto {o : Int} (k : Goes p e below S G T (mkF m pc Ls St)) (X : Stand p l e R s m args below meth c T locs cells slots) (hx : p.tables.exec = Jvm.exec) (hd : decode c.code pc = .ok (.goto o, 3)) (ho : 0 ≤ (pc : Int) + o) (hp : ((pc : Int) + o).toNat = pc') : Goes p e below S G T (mkF m pc' Ls St) := fun t q => k t (XS.goto X.here hx rfl rfl hd ho hp q)
theorem ifYes {o : Int} {cd : ClassFile.Cond} {x : Int32} (k : Goes p e below S G T (mkF m pc Ls (.int x :: St))) (X : Stand p l e R s m args below meth c T locs cells slots) (hx : p.tables.exec = Jvm.exec) (hd : decode c.code pc = .ok (.ifCond cd o, 3)) (hc : ifCond.holds cd x = true) (ho : 0 ≤ (pc : Int) + o) (hp : ((pc : Int) + o).toNat = pc') : Goes p e below S G T (mkF m pc' Ls St) := fun t q => k t (XS.ifYes X.here hx rfl rfl hd rfl hc ho hp q)
theorem ifNo {o : Int} {cd : ClassFile.Cond} {x : Int32} (k : Goes p e below S G T (mkF m pc Ls (.int x :: St))) (X : Stand p l e R s m args below meth c T locs cells slots) (hx : p.tables.exec = Jvm.exec) (hd : decode c.code pc = .ok (.ifCond cd o, 3)) (hc : ifCond.holds cd x = false) (hp : pc + 3 = pc') : Goes p e below S G T (mkF m pc' Ls St) := fun t q => k t (XS.ifNo X.here hx rfl hd rfl hc (by subst hp; exact q))
theorem icmpYes {o : Int} {cd : ClassFile.Cond} {x y : Int32} (k : Goes p e below S G T (mkF m pc Ls (.int y :: .int x :: St))) (X : Stand p l e R s m args below meth c T locs cells slots) (hx : p.tables.exec = Jvm.exec) (hd : decode c.code pc = .ok (.if_icmp cd o, 3)) (hc : if_icmp.holds cd x y = true) (ho : 0 ≤ (pc : Int) + o) (hp : ((pc : Int) + o).toNat = pc') : Goes p e below S G T (mkF m pc' Ls St) := fun t q => k t (XS.icmpYes X.here hx rfl rfl hd rfl hc ho hp q)
theorem icmpNo {o : Int} {cd : ClassFile.Cond} {x y : Int32} (k : Goes p e below S G T (mkF m pc Ls (.int y :: .int x :: St))) (X : Stand p l e R s m args below meth c T locs cells slots) (hx : p.tables.exec = Jvm.exec) (hd : decode c.code pc = .ok (.if_icmp cd o, 3)) (hc : if_icmp.holds cd x y = false) (hp : pc + 3 = pc') : Goes p e below S G T (mkF m pc' Ls St) := fun t q => k t (XS.icmpNo X.here hx rfl hd rfl hc (by subst hp; exact q))
theorem ifnullYes {o : Int} (k : Goes p e below S G T (mkF m pc Ls (.null :: St))) (X : Stand p l e R s m args below meth c T locs cells slots) (hx : p.tables.exec = Jvm.exec) (hd : decode c.code pc = .ok (.ifnull o, 3)) (ho : 0 ≤ (pc : Int) + o) (hp : ((pc : Int) + o).toNat = pc') : Goes p e below S G T (mkF m pc' Ls St) := fun t q => k t (XS.ifnullYes X.here hx rfl rfl hd rfl ho hp q)
theorem ifnullNo {o : Int} {b : Addr} (k : Goes p e below S G T (mkF m pc Ls (.ref b :: St))) (X : Stand p l e R s m args below meth c T locs cells slots) (hx : p.tables.exec = Jvm.exec) (hd : decode c.code pc = .ok (.ifnull o, 3)) (hp : pc + 3 = pc') : Goes p e below S G T (mkF m pc' Ls St) := fun t q => k t (XS.ifnullNo X.here hx rfl hd rfl (by subst hp; exact q))
theorem ifnonnullYes {o : Int} {b : Addr} (k : Goes p e below S G T (mkF m pc Ls (.ref b :: St))) (X : Stand p l e R s m args below meth c T locs cells slots) (hx : p.tables.exec = Jvm.exec) (hd : decode c.code pc = .ok (.ifnonnull o, 3)) (ho : 0 ≤ (pc : Int) + o) (hp : ((pc : Int) + o).toNat = pc') : Goes p e below S G T (mkF m pc' Ls St) := fun t q => k t (XS.ifnonnullYes X.here hx rfl rfl hd rfl ho hp q)
theorem ifnonnullNo {o : Int} (k : Goes p e below S G T (mkF m pc Ls (.null :: St))) (X : Stand p l e R s m args below meth c T locs cells slots) (hx : p.tables.exec = Jvm.exec) (hd : decode c.code pc = .ok (.ifnonnull o, 3)) (hp : pc + 3 = pc') : Goes p e below S G T (mkF m pc' Ls St) := fun t q => k t (XS.ifnonnullNo X.here hx rfl hd rfl (by subst hp; exact q))
theorem acmp {cd : ACond} {x y : Value} {o : Int} (k : Goes p e below S G T (mkF m pc Ls (y :: x :: St))) (X : Stand p l e R s m args below meth c T locs cells slots) (hx : p.tables.exec = Jvm.exec) (hd : decode c.code pc = .ok (.if_acmp cd o, 3)) (h1 : x.isRef = true) (h2 : y.isRef = true) (same : Bool) (hq : decide (x = y) = same) (ho : 0 ≤ (pc : Int) + o) (hp : pc' = if acV cd same = true then ((pc : Int) + o).toNat else pc + 3) : Goes p e below S G T (mkF m pc' Ls St) := fun t q => k t (Jvm.RoadKit.acmp (g := mkF m pc Ls (y :: x :: St)) X hx rfl h1 h2 rfl hd rfl hq ho hp q)
theorem tsw {dflt low high : Int} {offs : Array Int} {len : Nat} {o : Int} {i : Int32} (k : Goes p e below S G T (mkF m pc Ls (.int i :: St))) (X : Stand p l e R s m args below meth c T locs cells slots) (hx : p.tables.exec = Jvm.exec) (hd : decode c.code pc = .ok (.tableswitch dflt low high offs, len)) (hin : ¬ (i.toInt < low ∨ i.toInt > high)) (hoff : offs[(i.toInt - low).toNat]? = some o) (ho : 0 ≤ (pc : Int) + o) (hp : ((pc : Int) + o).toNat = pc') : Goes p e below S G T (mkF m pc' Ls St) := fun t q => k t (XS.tswIn X.here hx rfl rfl hd rfl hin hoff ho hp q)
end Jvm.Own.Fw
namespace Jvm.Pilot.@@N@@
open Jvm Jvm.ClassFile Sem Op Lib Jvm.Free Jvm.Stand Jvm.LawKit Jvm.RoadKit Jvm.Own Bundle Jvm.Pilot.@@N@@.Jvm.D
theorem own_fld {args : Array Value} {s : State} {t : Term} {C n d : String} {x : Addr} {k : Int32} (ev : t.eval args s none [] s = some (.ref x)) (h : (Jvm.Cond.eq (.field t C n d) (.int k)).value args s none s [] = some true) : Fld s s.heap x C n d (.int k) := by
  obtain ⟨u, w, e1, e2, K1, K2⟩ := cmp_v (Or.inl h)
  obtain rfl : w = .int k := (Option.some.inj e2).symm
  obtain ⟨z, rfl⟩ := K2
  have hz : z = k := by simpa [Cond.value, e1, e2] using h
  subst hz
  rw [fld_at ev] at e1
  exact Fld.start e1
theorem d_jdk_37_method_2_0 : decode jdk_37_method_2_code 0 = .ok (.aload_n 0, 1) := by decide +kernel
theorem d_jdk_37_method_2_1 : decode jdk_37_method_2_code 1 = .ok (.getfield 7, 3) := by decide +kernel
theorem d_jdk_37_method_2_4 : decode jdk_37_method_2_code 4 = .ok (.ireturn, 1) := by decide +kernel
theorem pn_Enum : plainName "java/lang/Enum" = true := by first | (simp [plainName, overriddenIn]; done) | decide +kernel
theorem ef_R_1 (m : MethodId) (x0 : Addr) : entryFrame m #[(.ref x0)] 1 = mkF m 0 #[.val (.ref x0)] [] := by first | (simp [entryFrame, mkF, argsToLocals, Value.category]; done) | rfl
def Q_ord (Z : State) (a1 : Addr) (p1 : Int32) (h0 : Heap) (n0 : Nat) (v : Option Value) (h : Heap) (L : List Loc) : Prop := v = some (.int p1) ∧ Fr n0 L ∧ h = h0
set_option maxRecDepth 65536 in
set_option maxHeartbeats 40000000 in
theorem rm_ord (l : Launch) (Z : State) (a0 : Array Value) (hw : ∀ d ∈ tables_1, d.before a0 Z = true) (ws : List Jvm.Cond) (a1 : Addr) (p1 : Int32) (h0 : Heap) (n0 : Nat) (O0 : Old Z n0 h0) (F1 : Fld Z h0 a1 "java/lang/Enum" "ordinal" "I" (.int p1)) :
    MetFree l (⟨"java/lang/Enum", "ordinal", "()I"⟩ : MethodName) (head1 (Jvm.Cond.code (⟨"java/lang/Enum", "ordinal", "()I"⟩ : MethodName) jdk_37_method_2_code 1 (some .int) :: ws) ({ frames := 0, cells := 0, slots := 0, locals := 0 } : Room)) (fun a U => a = #[(.ref a1)] ∧ Z.Warmed39 U.vm ∧ U.heap = h0) (fun _ _ _ _ _ => True) (fun _ U o U' => ∃ v L, o = .returned v ∧ Q_ord Z a1 p1 h0 n0 v U'.heap L ∧ FrameEnd U o U' L ({ frames := 0, cells := 0, slots := 0, locals := 0 } : Room).cells ({ frames := 0, cells := 0, slots := 0, locals := 0 } : Room).slots) := by
  refine MetFree.of_bodySF (plainFor_of_name pn_Enum) hisR ?_
  intro p e s m args below meth c s₁ Bd hml0 hP hK
  obtain ⟨rfl, hZ, hh⟩ := hP
  have hx := Bd.exec
  have hby := Bd.bytes
  have hml : c.maxLocals = 1 := hml0
  have hown : s.vm.findClass "java/lang/Enum" = some m.cls := findClass_of_methodNamed Bd.named
  have hnm := (name_of_methodNamed Bd.named Bd.method).1
  have X0 : Stand p l e ({ frames := 0, cells := 0, slots := 0, locals := 0 } : Room) s m #[(.ref a1)] below meth c s₁ [] 0 0 := Stand.of_body Bd
  have e0 : s₁.heap = h0 := by rw [← hh, Bd.state]; rfl
  have N0 := Fr.nil n0
  obtain ⟨G0, hG0⟩ : ∃ z, z = (mkF m 0 #[.val (.ref a1)] []) := ⟨_, rfl⟩
  have pre0 : ∀ t, Steps p.tables e below (s₁.setTop G0) t → Steps p.tables e below (s₁.setTop (entryFrame m #[(.ref a1)] 1)) t := fun t k => castTop (ef_R_1 m a1) (hG0 ▸ k)
  have k : Goes p e below s₁ G0 s₁ (mkF m 0 #[.val (.ref a1)] []) := fun t q => hG0 ▸ q
  replace k := Fw.aloadN k X0 hx (hb hby d_jdk_37_method_2_0) rfl rfl (pc' := 1) rfl
  obtain ⟨T1, X1, e1, st1⟩ := getF X0 hx hZ hown (host := "") (Or.inl (hw _ (List.mem_of_getElem? (i := 18) rfl))) Via.refl e0 F1 (g := (mkF m 1 #[.val (.ref a1)] [(.ref a1)])) rfl rfl (hb hby d_jdk_37_method_2_1)
  replace k : Goes p e below s₁ G0 T1 (mkF m 4 #[.val (.ref a1)] [(.int p1)]) := fun t q => k t (st1 _ q)
  obtain ⟨fs, hr, hrun, hended, hW, hsame⟩ := X1.leave (v := some (.int p1)) (fun h => by rw [Bd.returns] at h; cases h)
  refine ⟨_, _, pre0 _ (k _ ?_), hrun, hended, _, _, rfl, ?_, ⟨_, rfl⟩, hW, hsame.mono (by decide) (by decide)⟩
  · exact retI X1 hx Bd.returns (hb hby d_jdk_37_method_2_4) hr
  · show Q_ord Z a1 p1 h0 n0 _ T1.heap _
    rw [e1]
    exact ⟨rfl, N0, rfl⟩
theorem d_prog_48_method_4_0 : decode prog_48_method_4_code 0 = .ok (.aload_n 0, 1) := by decide +kernel
theorem d_prog_48_method_4_1 : decode prog_48_method_4_code 1 = .ok (.invokevirtual 35, 3) := by decide +kernel
theorem pd__r_I : parseMethodDescriptor "()I" = some ⟨[], some .int⟩ := by decide +kernel
theorem d_prog_48_method_4_4 : decode prog_48_method_4_code 4 = .ok (.tableswitch 32 0 3 #[42, 48, 54, 42], 32) := by decide +kernel
theorem d_prog_48_method_4_46 : decode prog_48_method_4_code 46 = .ok (.getstatic 44, 3) := by decide +kernel
theorem d_prog_48_method_4_49 : decode prog_48_method_4_code 49 = .ok (.goto 12, 3) := by decide +kernel
theorem d_prog_48_method_4_61 : decode prog_48_method_4_code 61 = .ok (.areturn, 1) := by decide +kernel
theorem pn_Contract_Basis : plainName "com/example/keelmark/keelmark/model/Contract$Basis" = true := by first | (simp [plainName, overriddenIn]; done) | decide +kernel
def Q_fk0 (Z : State) (a1 : Addr) (wK : Addr) (h0 : Heap) (n0 : Nat) (v : Option Value) (h : Heap) (L : List Loc) : Prop := v = some (.ref wK) ∧ Fr n0 L ∧ h = h0
set_option maxRecDepth 65536 in
set_option maxHeartbeats 40000000 in
theorem rm_fk0 (l : Launch) (Z : State) (a0 : Array Value) (hw : ∀ d ∈ tables_1, d.before a0 Z = true) (ws : List Jvm.Cond) (a1 : Addr) (wK : Addr) (h0 : Heap) (n0 : Nat) (O0 : Old Z n0 h0) (SK : Sta Z Z.heap "com/example/keelmark/keelmark/model/DailyRate$Kind" "RATE" "Lcom/example/keelmark/keelmark/model/DailyRate$Kind;" (.ref wK)) (E1 : Exa Z h0 a1 "com/example/keelmark/keelmark/model/Contract$Basis") (F1 : Fld Z h0 a1 "java/lang/Enum" "ordinal" "I" (.int 0)) :
    MetFree l (⟨"com/example/keelmark/keelmark/model/Contract$Basis", "figureKind", "()Lcom/example/keelmark/keelmark/model/DailyRate$Kind;"⟩ : MethodName) (head1 (Jvm.Cond.code (⟨"com/example/keelmark/keelmark/model/Contract$Basis", "figureKind", "()Lcom/example/keelmark/keelmark/model/DailyRate$Kind;"⟩ : MethodName) prog_48_method_4_code 1 (some (.object "com/example/keelmark/keelmark/model/DailyRate$Kind")) :: ws) ({ frames := 1, cells := 0, slots := 0, locals := 12 } : Room)) (fun a U => a = #[(.ref a1)] ∧ Z.Warmed39 U.vm ∧ U.heap = h0) (fun _ _ _ _ _ => True) (fun _ U o U' => ∃ v L, o = .returned v ∧ Q_fk0 Z a1 wK h0 n0 v U'.heap L ∧ FrameEnd U o U' L ({ frames := 1, cells := 0, slots := 0, locals := 12 } : Room).cells ({ frames := 1, cells := 0, slots := 0, locals := 12 } : Room).slots) := by
  refine MetFree.of_bodySF (plainFor_of_name pn_Contract_Basis) hisR ?_
  intro p e s m args below meth c s₁ Bd hml0 hP hK
  obtain ⟨rfl, hZ, hh⟩ := hP
  have hx := Bd.exec
  have hby := Bd.bytes
  have hml : c.maxLocals = 1 := hml0
  have hown : s.vm.findClass "com/example/keelmark/keelmark/model/Contract$Basis" = some m.cls := findClass_of_methodNamed Bd.named
  have hnm := (name_of_methodNamed Bd.named Bd.method).1
  have X0 : Stand p l e ({ frames := 1, cells := 0, slots := 0, locals := 12 } : Room) s m #[(.ref a1)] below meth c s₁ [] 0 0 := Stand.of_body Bd
  have e0 : s₁.heap = h0 := by rw [← hh, Bd.state]; rfl
  have N0 := Fr.nil n0
  obtain ⟨G0, hG0⟩ : ∃ z, z = (mkF m 0 #[.val (.ref a1)] []) := ⟨_, rfl⟩
  have pre0 : ∀ t, Steps p.tables e below (s₁.setTop G0) t → Steps p.tables e below (s₁.setTop (entryFrame m #[(.ref a1)] 1)) t := fun t k => castTop (ef_R_1 m a1) (hG0 ▸ k)
  have k : Goes p e below s₁ G0 s₁ (mkF m 0 #[.val (.ref a1)] []) := fun t q => hG0 ▸ q
  replace k := Fw.aloadN k X0 hx (hb hby d_prog_48_method_4_0) rfl rfl (pc' := 1) rfl
  obtain ⟨cq1, kq1, q1a, q1b, q1c⟩ := isOf hZ e0 E1
  obtain ⟨_, _, ⟨T1, L1, k1, n1⟩, -, X1, ⟨Lc1, hQ1, l1, y1, z1⟩, st1⟩ := X0.virtualBackUp hx (x := (⟨"com/example/keelmark/keelmark/model/Contract$Basis", "ordinal", "()I"⟩ : MethodName)) (y := (⟨"java/lang/Enum", "ordinal", "()I"⟩ : MethodName)) (owner := "java/lang/Enum") hown (mvT hZ (hw _ (List.mem_of_getElem? (i := 11) rfl))) (mvT hZ (hw _ (List.mem_of_getElem? (i := 12) rfl))) (mvT hZ (hw _ (List.mem_of_getElem? (i := 13) rfl))) (by decide) (mvT hZ (hw _ (List.mem_of_getElem? (i := 15) rfl))) (mvT hZ (hw _ (List.mem_of_getElem? (i := 14) rfl))) (backOf (W := 0) (rm_ord l Z a0 hw [] a1 _ h0 n0 O0 F1) hZ (hw _ (List.mem_of_getElem? (i := 17) rfl)) (hw _ (List.mem_of_getElem? (i := 16) rfl)) (by decide) (by decide)) q1a q1c (g := (mkF m 1 #[.val (.ref a1)] [(.ref a1)])) rfl (by rw [hml]; rfl) (Steps.refl _) (argsL := []) (rest := []) (lenOf pd__r_I rfl) rfl (by show 2 * 0 + _ ≤ _; exact Nat.le_of_eq rfl) (hb hby d_prog_48_method_4_1) (fun _ _ => ⟨rfl, e0, (by decide : 0 + 0 ≤ _), (by decide : 0 + 0 ≤ _)⟩)
  dsimp only [Pt.U, Pt.locs, Pt.cells, Pt.slots] at X1 l1 y1 z1 st1 hQ1
  subst l1 y1 z1
  obtain ⟨rfl, N1q, e1⟩ := hQ1
  have N1 := Fr.app N0 N1q
  replace k : Goes p e below s₁ G0 T1 (mkF m 4 #[.val (.ref a1)] [(.int 0)]) := fun t q => k t (st1.trans q)
  replace k := Fw.tsw k X1 hx (hb hby d_prog_48_method_4_4) (by decide) (o := 42) (by decide) (by decide) (pc' := 46) rfl
  obtain ⟨T2, X2, e2, st2⟩ := getS2 X1 hx hZ hown (host := "") (Or.inl (hw _ (List.mem_of_getElem? (i := 20) rfl))) Via.refl e1 (SK.ext O0.2) (g := (mkF m 46 #[.val (.ref a1)] [])) rfl (hb hby d_prog_48_method_4_46)
  replace k : Goes p e below s₁ G0 T2 (mkF m 49 #[.val (.ref a1)] [(.ref wK)]) := fun t q => k t (st2 _ q)
  replace k := Fw.goto k X2 hx (hb hby d_prog_48_method_4_49) (by decide) (pc' := 61) rfl
  obtain ⟨fs, hr, hrun, hended, hW, hsame⟩ := X2.leave (v := some (.ref wK)) (fun h => by rw [Bd.returns] at h; cases h)
  refine ⟨_, _, pre0 _ (k _ ?_), hrun, hended, _, _, rfl, ?_, ⟨_, rfl⟩, hW, hsame.mono (by decide) (by decide)⟩
  · show Steps p.tables e below (T2.setTop (mkF m 61 #[.val (.ref a1)] [(.ref wK)])) _
    jvm_step X2.here [X2.here.top, hx, (hb hby d_prog_48_method_4_61), X2.method', Bd.returns, Value.isRef, FieldType.isReference]
    first | (intro acts; rw [hr _ acts rfl rfl rfl]) | rw [hr _ _ rfl rfl rfl]
    exact Steps.refl _
  · show Q_fk0 Z a1 wK h0 n0 _ T2.heap _
    rw [e2]
    exact ⟨rfl, N1, rfl⟩
theorem d_prog_48_method_4_52 : decode prog_48_method_4_code 52 = .ok (.getstatic 50, 3) := by decide +kernel
theorem d_prog_48_method_4_55 : decode prog_48_method_4_code 55 = .ok (.goto 6, 3) := by decide +kernel
def Q_fk1 (Z : State) (a1 : Addr) (wK : Addr) (h0 : Heap) (n0 : Nat) (v : Option Value) (h : Heap) (L : List Loc) : Prop := v = some (.ref wK) ∧ Fr n0 L ∧ h = h0
set_option maxRecDepth 65536 in
set_option maxHeartbeats 40000000 in
theorem rm_fk1 (l : Launch) (Z : State) (a0 : Array Value) (hw : ∀ d ∈ tables_1, d.before a0 Z = true) (ws : List Jvm.Cond) (a1 : Addr) (wK : Addr) (h0 : Heap) (n0 : Nat) (O0 : Old Z n0 h0) (SK : Sta Z Z.heap "com/example/keelmark/keelmark/model/DailyRate$Kind" "WORLDSCALE" "Lcom/example/keelmark/keelmark/model/DailyRate$Kind;" (.ref wK)) (E1 : Exa Z h0 a1 "com/example/keelmark/keelmark/model/Contract$Basis") (F1 : Fld Z h0 a1 "java/lang/Enum" "ordinal" "I" (.int 1)) :
    MetFree l (⟨"com/example/keelmark/keelmark/model/Contract$Basis", "figureKind", "()Lcom/example/keelmark/keelmark/model/DailyRate$Kind;"⟩ : MethodName) (head1 (Jvm.Cond.code (⟨"com/example/keelmark/keelmark/model/Contract$Basis", "figureKind", "()Lcom/example/keelmark/keelmark/model/DailyRate$Kind;"⟩ : MethodName) prog_48_method_4_code 1 (some (.object "com/example/keelmark/keelmark/model/DailyRate$Kind")) :: ws) ({ frames := 1, cells := 0, slots := 0, locals := 12 } : Room)) (fun a U => a = #[(.ref a1)] ∧ Z.Warmed39 U.vm ∧ U.heap = h0) (fun _ _ _ _ _ => True) (fun _ U o U' => ∃ v L, o = .returned v ∧ Q_fk1 Z a1 wK h0 n0 v U'.heap L ∧ FrameEnd U o U' L ({ frames := 1, cells := 0, slots := 0, locals := 12 } : Room).cells ({ frames := 1, cells := 0, slots := 0, locals := 12 } : Room).slots) := by
  refine MetFree.of_bodySF (plainFor_of_name pn_Contract_Basis) hisR ?_
  intro p e s m args below meth c s₁ Bd hml0 hP hK
  obtain ⟨rfl, hZ, hh⟩ := hP
  have hx := Bd.exec
  have hby := Bd.bytes
  have hml : c.maxLocals = 1 := hml0
  have hown : s.vm.findClass "com/example/keelmark/keelmark/model/Contract$Basis" = some m.cls := findClass_of_methodNamed Bd.named
  have hnm := (name_of_methodNamed Bd.named Bd.method).1
  have X0 : Stand p l e ({ frames := 1, cells := 0, slots := 0, locals := 12 } : Room) s m #[(.ref a1)] below meth c s₁ [] 0 0 := Stand.of_body Bd
  have e0 : s₁.heap = h0 := by rw [← hh, Bd.state]; rfl
  have N0 := Fr.nil n0
  obtain ⟨G0, hG0⟩ : ∃ z, z = (mkF m 0 #[.val (.ref a1)] []) := ⟨_, rfl⟩
  have pre0 : ∀ t, Steps p.tables e below (s₁.setTop G0) t → Steps p.tables e below (s₁.setTop (entryFrame m #[(.ref a1)] 1)) t := fun t k => castTop (ef_R_1 m a1) (hG0 ▸ k)
  have k : Goes p e below s₁ G0 s₁ (mkF m 0 #[.val (.ref a1)] []) := fun t q => hG0 ▸ q
  replace k := Fw.aloadN k X0 hx (hb hby d_prog_48_method_4_0) rfl rfl (pc' := 1) rfl
  obtain ⟨cq1, kq1, q1a, q1b, q1c⟩ := isOf hZ e0 E1
  obtain ⟨_, _, ⟨T1, L1, k1, n1⟩, -, X1, ⟨Lc1, hQ1, l1, y1, z1⟩, st1⟩ := X0.virtualBackUp hx (x := (⟨"com/example/keelmark/keelmark/model/Contract$Basis", "ordinal", "()I"⟩ : MethodName)) (y := (⟨"java/lang/Enum", "ordinal", "()I"⟩ : MethodName)) (owner := "java/lang/Enum") hown (mvT hZ (hw _ (List.mem_of_getElem? (i := 11) rfl))) (mvT hZ (hw _ (List.mem_of_getElem? (i := 12) rfl))) (mvT hZ (hw _ (List.mem_of_getElem? (i := 13) rfl))) (by decide) (mvT hZ (hw _ (List.mem_of_getElem? (i := 15) rfl))) (mvT hZ (hw _ (List.mem_of_getElem? (i := 14) rfl))) (backOf (W := 0) (rm_ord l Z a0 hw [] a1 _ h0 n0 O0 F1) hZ (hw _ (List.mem_of_getElem? (i := 17) rfl)) (hw _ (List.mem_of_getElem? (i := 16) rfl)) (by decide) (by decide)) q1a q1c (g := (mkF m 1 #[.val (.ref a1)] [(.ref a1)])) rfl (by rw [hml]; rfl) (Steps.refl _) (argsL := []) (rest := []) (lenOf pd__r_I rfl) rfl (by show 2 * 0 + _ ≤ _; exact Nat.le_of_eq rfl) (hb hby d_prog_48_method_4_1) (fun _ _ => ⟨rfl, e0, (by decide : 0 + 0 ≤ _), (by decide : 0 + 0 ≤ _)⟩)
  dsimp only [Pt.U, Pt.locs, Pt.cells, Pt.slots] at X1 l1 y1 z1 st1 hQ1
  subst l1 y1 z1
  obtain ⟨rfl, N1q, e1⟩ := hQ1
  have N1 := Fr.app N0 N1q
  replace k : Goes p e below s₁ G0 T1 (mkF m 4 #[.val (.ref a1)] [(.int 1)]) := fun t q => k t (st1.trans q)
  replace k := Fw.tsw k X1 hx (hb hby d_prog_48_method_4_4) (by decide) (o := 48) (by decide) (by decide) (pc' := 52) rfl
  obtain ⟨T2, X2, e2, st2⟩ := getS2 X1 hx hZ hown (host := "") (Or.inl (hw _ (List.mem_of_getElem? (i := 32) rfl))) Via.refl e1 (SK.ext O0.2) (g := (mkF m 52 #[.val (.ref a1)] [])) rfl (hb hby d_prog_48_method_4_52)
  replace k : Goes p e below s₁ G0 T2 (mkF m 55 #[.val (.ref a1)] [(.ref wK)]) := fun t q => k t (st2 _ q)
  replace k := Fw.goto k X2 hx (hb hby d_prog_48_method_4_55) (by decide) (pc' := 61) rfl
  obtain ⟨fs, hr, hrun, hended, hW, hsame⟩ := X2.leave (v := some (.ref wK)) (fun h => by rw [Bd.returns] at h; cases h)
  refine ⟨_, _, pre0 _ (k _ ?_), hrun, hended, _, _, rfl, ?_, ⟨_, rfl⟩, hW, hsame.mono (by decide) (by decide)⟩
  · show Steps p.tables e below (T2.setTop (mkF m 61 #[.val (.ref a1)] [(.ref wK)])) _
    jvm_step X2.here [X2.here.top, hx, (hb hby d_prog_48_method_4_61), X2.method', Bd.returns, Value.isRef, FieldType.isReference]
    first | (intro acts; rw [hr _ acts rfl rfl rfl]) | rw [hr _ _ rfl rfl rfl]
    exact Steps.refl _
  · show Q_fk1 Z a1 wK h0 n0 _ T2.heap _
    rw [e2]
    exact ⟨rfl, N1, rfl⟩
theorem d_prog_48_method_4_58 : decode prog_48_method_4_code 58 = .ok (.getstatic 53, 3) := by decide +kernel
def Q_fk2 (Z : State) (a1 : Addr) (wK : Addr) (h0 : Heap) (n0 : Nat) (v : Option Value) (h : Heap) (L : List Loc) : Prop := v = some (.ref wK) ∧ Fr n0 L ∧ h = h0
set_option maxRecDepth 65536 in
set_option maxHeartbeats 40000000 in
theorem rm_fk2 (l : Launch) (Z : State) (a0 : Array Value) (hw : ∀ d ∈ tables_1, d.before a0 Z = true) (ws : List Jvm.Cond) (a1 : Addr) (wK : Addr) (h0 : Heap) (n0 : Nat) (O0 : Old Z n0 h0) (SK : Sta Z Z.heap "com/example/keelmark/keelmark/model/DailyRate$Kind" "LUMP_SUM" "Lcom/example/keelmark/keelmark/model/DailyRate$Kind;" (.ref wK)) (E1 : Exa Z h0 a1 "com/example/keelmark/keelmark/model/Contract$Basis") (F1 : Fld Z h0 a1 "java/lang/Enum" "ordinal" "I" (.int 2)) :
    MetFree l (⟨"com/example/keelmark/keelmark/model/Contract$Basis", "figureKind", "()Lcom/example/keelmark/keelmark/model/DailyRate$Kind;"⟩ : MethodName) (head1 (Jvm.Cond.code (⟨"com/example/keelmark/keelmark/model/Contract$Basis", "figureKind", "()Lcom/example/keelmark/keelmark/model/DailyRate$Kind;"⟩ : MethodName) prog_48_method_4_code 1 (some (.object "com/example/keelmark/keelmark/model/DailyRate$Kind")) :: ws) ({ frames := 1, cells := 0, slots := 0, locals := 12 } : Room)) (fun a U => a = #[(.ref a1)] ∧ Z.Warmed39 U.vm ∧ U.heap = h0) (fun _ _ _ _ _ => True) (fun _ U o U' => ∃ v L, o = .returned v ∧ Q_fk2 Z a1 wK h0 n0 v U'.heap L ∧ FrameEnd U o U' L ({ frames := 1, cells := 0, slots := 0, locals := 12 } : Room).cells ({ frames := 1, cells := 0, slots := 0, locals := 12 } : Room).slots) := by
  refine MetFree.of_bodySF (plainFor_of_name pn_Contract_Basis) hisR ?_
  intro p e s m args below meth c s₁ Bd hml0 hP hK
  obtain ⟨rfl, hZ, hh⟩ := hP
  have hx := Bd.exec
  have hby := Bd.bytes
  have hml : c.maxLocals = 1 := hml0
  have hown : s.vm.findClass "com/example/keelmark/keelmark/model/Contract$Basis" = some m.cls := findClass_of_methodNamed Bd.named
  have hnm := (name_of_methodNamed Bd.named Bd.method).1
  have X0 : Stand p l e ({ frames := 1, cells := 0, slots := 0, locals := 12 } : Room) s m #[(.ref a1)] below meth c s₁ [] 0 0 := Stand.of_body Bd
  have e0 : s₁.heap = h0 := by rw [← hh, Bd.state]; rfl
  have N0 := Fr.nil n0
  obtain ⟨G0, hG0⟩ : ∃ z, z = (mkF m 0 #[.val (.ref a1)] []) := ⟨_, rfl⟩
  have pre0 : ∀ t, Steps p.tables e below (s₁.setTop G0) t → Steps p.tables e below (s₁.setTop (entryFrame m #[(.ref a1)] 1)) t := fun t k => castTop (ef_R_1 m a1) (hG0 ▸ k)
  have k : Goes p e below s₁ G0 s₁ (mkF m 0 #[.val (.ref a1)] []) := fun t q => hG0 ▸ q
  replace k := Fw.aloadN k X0 hx (hb hby d_prog_48_method_4_0) rfl rfl (pc' := 1) rfl
  obtain ⟨cq1, kq1, q1a, q1b, q1c⟩ := isOf hZ e0 E1
  obtain ⟨_, _, ⟨T1, L1, k1, n1⟩, -, X1, ⟨Lc1, hQ1, l1, y1, z1⟩, st1⟩ := X0.virtualBackUp hx (x := (⟨"com/example/keelmark/keelmark/model/Contract$Basis", "ordinal", "()I"⟩ : MethodName)) (y := (⟨"java/lang/Enum", "ordinal", "()I"⟩ : MethodName)) (owner := "java/lang/Enum") hown (mvT hZ (hw _ (List.mem_of_getElem? (i := 11) rfl))) (mvT hZ (hw _ (List.mem_of_getElem? (i := 12) rfl))) (mvT hZ (hw _ (List.mem_of_getElem? (i := 13) rfl))) (by decide) (mvT hZ (hw _ (List.mem_of_getElem? (i := 15) rfl))) (mvT hZ (hw _ (List.mem_of_getElem? (i := 14) rfl))) (backOf (W := 0) (rm_ord l Z a0 hw [] a1 _ h0 n0 O0 F1) hZ (hw _ (List.mem_of_getElem? (i := 17) rfl)) (hw _ (List.mem_of_getElem? (i := 16) rfl)) (by decide) (by decide)) q1a q1c (g := (mkF m 1 #[.val (.ref a1)] [(.ref a1)])) rfl (by rw [hml]; rfl) (Steps.refl _) (argsL := []) (rest := []) (lenOf pd__r_I rfl) rfl (by show 2 * 0 + _ ≤ _; exact Nat.le_of_eq rfl) (hb hby d_prog_48_method_4_1) (fun _ _ => ⟨rfl, e0, (by decide : 0 + 0 ≤ _), (by decide : 0 + 0 ≤ _)⟩)
  dsimp only [Pt.U, Pt.locs, Pt.cells, Pt.slots] at X1 l1 y1 z1 st1 hQ1
  subst l1 y1 z1
  obtain ⟨rfl, N1q, e1⟩ := hQ1
  have N1 := Fr.app N0 N1q
  replace k : Goes p e below s₁ G0 T1 (mkF m 4 #[.val (.ref a1)] [(.int 2)]) := fun t q => k t (st1.trans q)
  replace k := Fw.tsw k X1 hx (hb hby d_prog_48_method_4_4) (by decide) (o := 54) (by decide) (by decide) (pc' := 58) rfl
  obtain ⟨T2, X2, e2, st2⟩ := getS2 X1 hx hZ hown (host := "") (Or.inl (hw _ (List.mem_of_getElem? (i := 27) rfl))) Via.refl e1 (SK.ext O0.2) (g := (mkF m 58 #[.val (.ref a1)] [])) rfl (hb hby d_prog_48_method_4_58)
  replace k : Goes p e below s₁ G0 T2 (mkF m 61 #[.val (.ref a1)] [(.ref wK)]) := fun t q => k t (st2 _ q)
  obtain ⟨fs, hr, hrun, hended, hW, hsame⟩ := X2.leave (v := some (.ref wK)) (fun h => by rw [Bd.returns] at h; cases h)
  refine ⟨_, _, pre0 _ (k _ ?_), hrun, hended, _, _, rfl, ?_, ⟨_, rfl⟩, hW, hsame.mono (by decide) (by decide)⟩
  · show Steps p.tables e below (T2.setTop (mkF m 61 #[.val (.ref a1)] [(.ref wK)])) _
    jvm_step X2.here [X2.here.top, hx, (hb hby d_prog_48_method_4_61), X2.method', Bd.returns, Value.isRef, FieldType.isReference]
    first | (intro acts; rw [hr _ acts rfl rfl rfl]) | rw [hr _ _ rfl rfl rfl]
    exact Steps.refl _
  · show Q_fk2 Z a1 wK h0 n0 _ T2.heap _
    rw [e2]
    exact ⟨rfl, N1, rfl⟩
def Q_fk3 (Z : State) (a1 : Addr) (wK : Addr) (h0 : Heap) (n0 : Nat) (v : Option Value) (h : Heap) (L : List Loc) : Prop := v = some (.ref wK) ∧ Fr n0 L ∧ h = h0
set_option maxRecDepth 65536 in
set_option maxHeartbeats 40000000 in
theorem rm_fk3 (l : Launch) (Z : State) (a0 : Array Value) (hw : ∀ d ∈ tables_1, d.before a0 Z = true) (ws : List Jvm.Cond) (a1 : Addr) (wK : Addr) (h0 : Heap) (n0 : Nat) (O0 : Old Z n0 h0) (SK : Sta Z Z.heap "com/example/keelmark/keelmark/model/DailyRate$Kind" "RATE" "Lcom/example/keelmark/keelmark/model/DailyRate$Kind;" (.ref wK)) (E1 : Exa Z h0 a1 "com/example/keelmark/keelmark/model/Contract$Basis") (F1 : Fld Z h0 a1 "java/lang/Enum" "ordinal" "I" (.int 3)) :
    MetFree l (⟨"com/example/keelmark/keelmark/model/Contract$Basis", "figureKind", "()Lcom/example/keelmark/keelmark/model/DailyRate$Kind;"⟩ : MethodName) (head1 (Jvm.Cond.code (⟨"com/example/keelmark/keelmark/model/Contract$Basis", "figureKind", "()Lcom/example/keelmark/keelmark/model/DailyRate$Kind;"⟩ : MethodName) prog_48_method_4_code 1 (some (.object "com/example/keelmark/keelmark/model/DailyRate$Kind")) :: ws) ({ frames := 1, cells := 0, slots := 0, locals := 12 } : Room)) (fun a U => a = #[(.ref a1)] ∧ Z.Warmed39 U.vm ∧ U.heap = h0) (fun _ _ _ _ _ => True) (fun _ U o U' => ∃ v L, o = .returned v ∧ Q_fk3 Z a1 wK h0 n0 v U'.heap L ∧ FrameEnd U o U' L ({ frames := 1, cells := 0, slots := 0, locals := 12 } : Room).cells ({ frames := 1, cells := 0, slots := 0, locals := 12 } : Room).slots) := by
  refine MetFree.of_bodySF (plainFor_of_name pn_Contract_Basis) hisR ?_
  intro p e s m args below meth c s₁ Bd hml0 hP hK
  obtain ⟨rfl, hZ, hh⟩ := hP
  have hx := Bd.exec
  have hby := Bd.bytes
  have hml : c.maxLocals = 1 := hml0
  have hown : s.vm.findClass "com/example/keelmark/keelmark/model/Contract$Basis" = some m.cls := findClass_of_methodNamed Bd.named
  have hnm := (name_of_methodNamed Bd.named Bd.method).1
  have X0 : Stand p l e ({ frames := 1, cells := 0, slots := 0, locals := 12 } : Room) s m #[(.ref a1)] below meth c s₁ [] 0 0 := Stand.of_body Bd
  have e0 : s₁.heap = h0 := by rw [← hh, Bd.state]; rfl
  have N0 := Fr.nil n0
  obtain ⟨G0, hG0⟩ : ∃ z, z = (mkF m 0 #[.val (.ref a1)] []) := ⟨_, rfl⟩
  have pre0 : ∀ t, Steps p.tables e below (s₁.setTop G0) t → Steps p.tables e below (s₁.setTop (entryFrame m #[(.ref a1)] 1)) t := fun t k => castTop (ef_R_1 m a1) (hG0 ▸ k)
  have k : Goes p e below s₁ G0 s₁ (mkF m 0 #[.val (.ref a1)] []) := fun t q => hG0 ▸ q
  replace k := Fw.aloadN k X0 hx (hb hby d_prog_48_method_4_0) rfl rfl (pc' := 1) rfl
  obtain ⟨cq1, kq1, q1a, q1b, q1c⟩ := isOf hZ e0 E1
  obtain ⟨_, _, ⟨T1, L1, k1, n1⟩, -, X1, ⟨Lc1, hQ1, l1, y1, z1⟩, st1⟩ := X0.virtualBackUp hx (x := (⟨"com/example/keelmark/keelmark/model/Contract$Basis", "ordinal", "()I"⟩ : MethodName)) (y := (⟨"java/lang/Enum", "ordinal", "()I"⟩ : MethodName)) (owner := "java/lang/Enum") hown (mvT hZ (hw _ (List.mem_of_getElem? (i := 11) rfl))) (mvT hZ (hw _ (List.mem_of_getElem? (i := 12) rfl))) (mvT hZ (hw _ (List.mem_of_getElem? (i := 13) rfl))) (by decide) (mvT hZ (hw _ (List.mem_of_getElem? (i := 15) rfl))) (mvT hZ (hw _ (List.mem_of_getElem? (i := 14) rfl))) (backOf (W := 0) (rm_ord l Z a0 hw [] a1 _ h0 n0 O0 F1) hZ (hw _ (List.mem_of_getElem? (i := 17) rfl)) (hw _ (List.mem_of_getElem? (i := 16) rfl)) (by decide) (by decide)) q1a q1c (g := (mkF m 1 #[.val (.ref a1)] [(.ref a1)])) rfl (by rw [hml]; rfl) (Steps.refl _) (argsL := []) (rest := []) (lenOf pd__r_I rfl) rfl (by show 2 * 0 + _ ≤ _; exact Nat.le_of_eq rfl) (hb hby d_prog_48_method_4_1) (fun _ _ => ⟨rfl, e0, (by decide : 0 + 0 ≤ _), (by decide : 0 + 0 ≤ _)⟩)
  dsimp only [Pt.U, Pt.locs, Pt.cells, Pt.slots] at X1 l1 y1 z1 st1 hQ1
  subst l1 y1 z1
  obtain ⟨rfl, N1q, e1⟩ := hQ1
  have N1 := Fr.app N0 N1q
  replace k : Goes p e below s₁ G0 T1 (mkF m 4 #[.val (.ref a1)] [(.int 3)]) := fun t q => k t (st1.trans q)
  replace k := Fw.tsw k X1 hx (hb hby d_prog_48_method_4_4) (by decide) (o := 42) (by decide) (by decide) (pc' := 46) rfl
  obtain ⟨T2, X2, e2, st2⟩ := getS2 X1 hx hZ hown (host := "") (Or.inl (hw _ (List.mem_of_getElem? (i := 20) rfl))) Via.refl e1 (SK.ext O0.2) (g := (mkF m 46 #[.val (.ref a1)] [])) rfl (hb hby d_prog_48_method_4_46)
  replace k : Goes p e below s₁ G0 T2 (mkF m 49 #[.val (.ref a1)] [(.ref wK)]) := fun t q => k t (st2 _ q)
  replace k := Fw.goto k X2 hx (hb hby d_prog_48_method_4_49) (by decide) (pc' := 61) rfl
  obtain ⟨fs, hr, hrun, hended, hW, hsame⟩ := X2.leave (v := some (.ref wK)) (fun h => by rw [Bd.returns] at h; cases h)
  refine ⟨_, _, pre0 _ (k _ ?_), hrun, hended, _, _, rfl, ?_, ⟨_, rfl⟩, hW, hsame.mono (by decide) (by decide)⟩
  · show Steps p.tables e below (T2.setTop (mkF m 61 #[.val (.ref a1)] [(.ref wK)])) _
    jvm_step X2.here [X2.here.top, hx, (hb hby d_prog_48_method_4_61), X2.method', Bd.returns, Value.isRef, FieldType.isReference]
    first | (intro acts; rw [hr _ acts rfl rfl rfl]) | rw [hr _ _ rfl rfl rfl]
    exact Steps.refl _
  · show Q_fk3 Z a1 wK h0 n0 _ T2.heap _
    rw [e2]
    exact ⟨rfl, N1, rfl⟩
theorem pd__r_Lcom_example_keelmark_keelmark_model_DailyRate_Kind : parseMethodDescriptor "()Lcom/example/keelmark/keelmark/model/DailyRate$Kind;" = some ⟨[], some (.object "com/example/keelmark/keelmark/model/DailyRate$Kind")⟩ := by decide +kernel
theorem pn_BasisFigureKindPinLaw : plainName "com/example/keelmark/keelmark/model/BasisFigureKindPinLaw" = true := by first | (simp [plainName, overriddenIn]; done) | decide +kernel
theorem ef_I_maxLocals (m : MethodId) (x0 : Int32) : entryFrame m #[(.int x0)] maxLocals = mkF m 0 #[.val (.int x0), .unset, .unset, .unset, .unset] [] := by first | (simp [entryFrame, mkF, argsToLocals, Value.category, maxLocals]; done) | rfl
def Q_law (Z : State) (p1 : Int32) (w_USD_MT : Addr) (w_RATE : Addr) (w_USD_DAY : Addr) (w_LUMPSUM_270000 : Addr) (w_LUMP_SUM : Addr) (w_WS_FLAT : Addr) (w_WORLDSCALE : Addr) (h0 : Heap) (n0 : Nat) (v : Option Value) (h : Heap) (L : List Loc) : Prop := v = some (.int 1) ∧ Fr n0 L ∧ True
set_option maxRecDepth 65536 in
set_option maxHeartbeats 40000000 in
theorem rm_law (l : Launch) (Z : State) (a0 : Array Value) (hw : ∀ d ∈ tables_1, d.before a0 Z = true) (ws : List Jvm.Cond) (p1 : Int32) (w_USD_MT : Addr) (w_RATE : Addr) (w_USD_DAY : Addr) (w_LUMPSUM_270000 : Addr) (w_LUMP_SUM : Addr) (w_WS_FLAT : Addr) (w_WORLDSCALE : Addr) (h0 : Heap) (n0 : Nat) (O0 : Old Z n0 h0) (S_USD_MT : Sta Z Z.heap "com/example/keelmark/keelmark/model/Contract$Basis" "USD_MT" "Lcom/example/keelmark/keelmark/model/Contract$Basis;" (.ref w_USD_MT)) (E_USD_MT : Exa Z Z.heap w_USD_MT "com/example/keelmark/keelmark/model/Contract$Basis") (F_USD_MT : Fld Z Z.heap w_USD_MT "java/lang/Enum" "ordinal" "I" (.int 0)) (S_RATE : Sta Z Z.heap "com/example/keelmark/keelmark/model/DailyRate$Kind" "RATE" "Lcom/example/keelmark/keelmark/model/DailyRate$Kind;" (.ref w_RATE)) (E_RATE : Exa Z Z.heap w_RATE "com/example/keelmark/keelmark/model/DailyRate$Kind") (S_USD_DAY : Sta Z Z.heap "com/example/keelmark/keelmark/model/Contract$Basis" "USD_DAY" "Lcom/example/keelmark/keelmark/model/Contract$Basis;" (.ref w_USD_DAY)) (E_USD_DAY : Exa Z Z.heap w_USD_DAY "com/example/keelmark/keelmark/model/Contract$Basis") (F_USD_DAY : Fld Z Z.heap w_USD_DAY "java/lang/Enum" "ordinal" "I" (.int 3)) (S_LUMPSUM_270000 : Sta Z Z.heap "com/example/keelmark/keelmark/model/Contract$Basis" "LUMPSUM_270000" "Lcom/example/keelmark/keelmark/model/Contract$Basis;" (.ref w_LUMPSUM_270000)) (E_LUMPSUM_270000 : Exa Z Z.heap w_LUMPSUM_270000 "com/example/keelmark/keelmark/model/Contract$Basis") (F_LUMPSUM_270000 : Fld Z Z.heap w_LUMPSUM_270000 "java/lang/Enum" "ordinal" "I" (.int 2)) (S_LUMP_SUM : Sta Z Z.heap "com/example/keelmark/keelmark/model/DailyRate$Kind" "LUMP_SUM" "Lcom/example/keelmark/keelmark/model/DailyRate$Kind;" (.ref w_LUMP_SUM)) (E_LUMP_SUM : Exa Z Z.heap w_LUMP_SUM "com/example/keelmark/keelmark/model/DailyRate$Kind") (S_WS_FLAT : Sta Z Z.heap "com/example/keelmark/keelmark/model/Contract$Basis" "WS_FLAT" "Lcom/example/keelmark/keelmark/model/Contract$Basis;" (.ref w_WS_FLAT)) (E_WS_FLAT : Exa Z Z.heap w_WS_FLAT "com/example/keelmark/keelmark/model/Contract$Basis") (F_WS_FLAT : Fld Z Z.heap w_WS_FLAT "java/lang/Enum" "ordinal" "I" (.int 1)) (S_WORLDSCALE : Sta Z Z.heap "com/example/keelmark/keelmark/model/DailyRate$Kind" "WORLDSCALE" "Lcom/example/keelmark/keelmark/model/DailyRate$Kind;" (.ref w_WORLDSCALE)) (E_WORLDSCALE : Exa Z Z.heap w_WORLDSCALE "com/example/keelmark/keelmark/model/DailyRate$Kind") :
    MetFree l x (head1 (Jvm.Cond.code x code maxLocals ret :: ws) room_1) (fun a U => a = #[(.int p1)] ∧ Z.Warmed39 U.vm ∧ U.heap = h0) (fun _ _ _ _ _ => True) (fun _ U o U' => ∃ v L, o = .returned v ∧ Q_law Z p1 w_USD_MT w_RATE w_USD_DAY w_LUMPSUM_270000 w_LUMP_SUM w_WS_FLAT w_WORLDSCALE h0 n0 v U'.heap L ∧ FrameEnd U o U' L room_1.cells room_1.slots) := by
  refine MetFree.of_bodySF (plainFor_of_name pn_BasisFigureKindPinLaw) hisR ?_
  intro p e s m args below meth c s₁ Bd hml0 hP hK
  obtain ⟨rfl, hZ, hh⟩ := hP
  have hx := Bd.exec
  have hby := Bd.bytes
  have hml : c.maxLocals = 5 := hml0
  have hown : s.vm.findClass "com/example/keelmark/keelmark/model/BasisFigureKindPinLaw" = some m.cls := findClass_of_methodNamed Bd.named
  have hnm := (name_of_methodNamed Bd.named Bd.method).1
  have X0 : Stand p l e room_1 s m #[(.int p1)] below meth c s₁ [] 0 0 := Stand.of_body Bd
  have e0 : s₁.heap = h0 := by rw [← hh, Bd.state]; rfl
  have N0 := Fr.nil n0
  obtain ⟨G0, hG0⟩ : ∃ z, z = (mkF m 0 #[.val (.int p1), .unset, .unset, .unset, .unset] []) := ⟨_, rfl⟩
  have pre0 : ∀ t, Steps p.tables e below (s₁.setTop G0) t → Steps p.tables e below (s₁.setTop (entryFrame m #[(.int p1)] maxLocals)) t := fun t k => castTop (ef_I_maxLocals m p1) (hG0 ▸ k)
  have k : Goes p e below s₁ G0 s₁ (mkF m 0 #[.val (.int p1), .unset, .unset, .unset, .unset] []) := fun t q => hG0 ▸ q
  replace k := Fw.iloadN k X0 hx (hb hby at_0) rfl (pc' := 1) rfl
  replace k := Fw.iconst k X0 hx (hb hby at_1) (z := (3 : Int32)) (by decide) (pc' := 2) rfl
  replace k := Fw.iand k X0 hx (hb hby at_2) rfl (pc' := 3) rfl
  replace k := Fw.istoreN k X0 hx (hb hby at_3)  (Ls' := #[.val (.int p1), .val (.int (p1 &&& (3 : Int32))), .unset, .unset, .unset]) rfl (pc' := 4) rfl
  replace k := Fw.iloadN k X0 hx (hb hby at_4) rfl (pc' := 5) rfl
  by_cases hc5_1 : (p1 &&& (3 : Int32)) = (0 : Int32)
  · replace k := Fw.ifNo k X0 hx (hb hby at_5) ((if0 _ _).trans (teq hc5_1).2) (pc' := 8) rfl
    obtain ⟨T2, X2, e2, st2⟩ := getS2 X0 hx hZ hown (host := "") (Or.inl (hw _ (List.mem_of_getElem? (i := 0) rfl))) Via.refl e0 (S_USD_MT.ext O0.2) (g := (mkF m 8 #[.val (.int p1), .val (.int (p1 &&& (3 : Int32))), .unset, .unset, .unset] [])) rfl (hb hby at_8)
    replace k : Goes p e below s₁ G0 T2 (mkF m 11 #[.val (.int p1), .val (.int (p1 &&& (3 : Int32))), .unset, .unset, .unset] [(.ref w_USD_MT)]) := fun t q => k t (st2 _ q)
    replace k := Fw.astoreN k X2 hx (hb hby at_11)  rfl (Ls' := #[.val (.int p1), .val (.int (p1 &&& (3 : Int32))), .val (.ref w_USD_MT), .unset, .unset]) rfl (pc' := 12) rfl
    obtain ⟨T3, X3, e3, st3⟩ := getS2 X2 hx hZ hown (host := "") (Or.inl (hw _ (List.mem_of_getElem? (i := 3) rfl))) Via.refl e2 (S_RATE.ext O0.2) (g := (mkF m 12 #[.val (.int p1), .val (.int (p1 &&& (3 : Int32))), .val (.ref w_USD_MT), .unset, .unset] [])) rfl (hb hby at_12)
    replace k : Goes p e below s₁ G0 T3 (mkF m 15 #[.val (.int p1), .val (.int (p1 &&& (3 : Int32))), .val (.ref w_USD_MT), .unset, .unset] [(.ref w_RATE)]) := fun t q => k t (st3 _ q)
    replace k := Fw.astoreN k X3 hx (hb hby at_15)  rfl (Ls' := #[.val (.int p1), .val (.int (p1 &&& (3 : Int32))), .val (.ref w_USD_MT), .val (.ref w_RATE), .unset]) rfl (pc' := 16) rfl
    replace k := Fw.goto k X3 hx (hb hby at_16) (by decide) (pc' := 59) rfl
    replace k := Fw.aloadN k X3 hx (hb hby at_59) rfl rfl (pc' := 60) rfl
    obtain ⟨cq4, kq4, q4a, q4b, q4c⟩ := isOf hZ e3 (E_USD_MT.ext O0.2)
    obtain ⟨_, _, ⟨T4, L4, k4, n4⟩, -, X4, ⟨Lc4, hQ4, l4, y4, z4⟩, st4⟩ := X3.virtualBack hx (y := (⟨"com/example/keelmark/keelmark/model/Contract$Basis", "figureKind", "()Lcom/example/keelmark/keelmark/model/DailyRate$Kind;"⟩ : MethodName)) (z := (⟨"com/example/keelmark/keelmark/model/Contract$Basis", "figureKind", "()Lcom/example/keelmark/keelmark/model/DailyRate$Kind;"⟩ : MethodName)) hown (mvT hZ (hw _ (List.mem_of_getElem? (i := 6) rfl))) (mvT hZ (hw _ (List.mem_of_getElem? (i := 7) rfl))) (notFace_of_selects (args := #[]) (mvT hZ (hw _ (List.mem_of_getElem? (i := 9) rfl)))) (mvT hZ (hw _ (List.mem_of_getElem? (i := 9) rfl))) (mvT hZ (hw _ (List.mem_of_getElem? (i := 8) rfl))) (by decide) (backOf (W := 0) (rm_fk0 l Z a0 hw [] w_USD_MT w_RATE h0 n0 O0 S_RATE (E_USD_MT.ext O0.2) (F_USD_MT.ext O0.2)) hZ (hw _ (List.mem_of_getElem? (i := 10) rfl)) (hw _ (List.mem_of_getElem? (i := 1) rfl)) (by decide) (by decide)) q4a q4c (g := (mkF m 60 #[.val (.int p1), .val (.int (p1 &&& (3 : Int32))), .val (.ref w_USD_MT), .val (.ref w_RATE), .unset] [(.ref w_USD_MT)])) rfl (by rw [hml]; rfl) (Steps.refl _) (argsL := []) (rest := []) (lenOf pd__r_Lcom_example_keelmark_keelmark_model_DailyRate_Kind rfl) rfl (by show 2 * 0 + _ ≤ _; exact Nat.le_of_eq rfl) (hb hby at_60) (fun _ _ => ⟨rfl, e3, (by decide : 0 + 0 ≤ _), (by decide : 0 + 0 ≤ _)⟩)
    dsimp only [Pt.U, Pt.locs, Pt.cells, Pt.slots] at X4 l4 y4 z4 st4 hQ4
    subst l4 y4 z4
    obtain ⟨rfl, N4q, e4⟩ := hQ4
    have N4 := Fr.app N0 N4q
    replace k : Goes p e below s₁ G0 T4 (mkF m 63 #[.val (.int p1), .val (.int (p1 &&& (3 : Int32))), .val (.ref w_USD_MT), .val (.ref w_RATE), .unset] [(.ref w_RATE)]) := fun t q => k t (st4.trans q)
    replace k := Fw.astore k X4 hx (hb hby at_63)  rfl (Ls' := #[.val (.int p1), .val (.int (p1 &&& (3 : Int32))), .val (.ref w_USD_MT), .val (.ref w_RATE), .val (.ref w_RATE)]) rfl (pc' := 65) rfl
    replace k := Fw.aload k X4 hx (hb hby at_65) rfl rfl (pc' := 67) rfl
    replace k := Fw.aloadN k X4 hx (hb hby at_67) rfl rfl (pc' := 68) rfl
    replace k := Fw.acmp k X4 hx (hb hby at_68) rfl rfl true (decide_eq_true rfl) (by decide) (pc' := 71) (by decide)
    replace k := Fw.iconst k X4 hx (hb hby at_71) (z := (1 : Int32)) (by decide) (pc' := 72) rfl
    replace k := Fw.goto k X4 hx (hb hby at_72) (by decide) (pc' := 76) rfl
    obtain ⟨fs, hr, hrun, hended, hW, hsame⟩ := X4.leave (v := some (.int 1)) (fun h => by rw [Bd.returns] at h; cases h)
    refine ⟨_, _, pre0 _ (k _ ?_), hrun, hended, _, _, rfl, ?_, ⟨_, rfl⟩, hW, hsame.mono (by decide) (by decide)⟩
    · exact retN X4 hx (t := .boolean) Bd.returns (by simp) (hb hby at_76) hr
    · show Q_law Z p1 w_USD_MT w_RATE w_USD_DAY w_LUMPSUM_270000 w_LUMP_SUM w_WS_FLAT w_WORLDSCALE h0 n0 _ T4.heap _
      rw [e4]
      exact ⟨rfl, N4, trivial⟩
  · replace k := Fw.ifYes k X0 hx (hb hby at_5) ((if0 _ _).trans (feq hc5_1).2) (by decide) (pc' := 19) rfl
    replace k := Fw.iloadN k X0 hx (hb hby at_19) rfl (pc' := 20) rfl
    replace k := Fw.iconst k X0 hx (hb hby at_20) (z := (1 : Int32)) (by decide) (pc' := 21) rfl
    by_cases hc21_5 : (p1 &&& (3 : Int32)) = (1 : Int32)
    · replace k := Fw.icmpNo k X0 hx (hb hby at_21) (teq hc21_5).2 (pc' := 24) rfl
      obtain ⟨T6, X6, e6, st6⟩ := getS2 X0 hx hZ hown (host := "") (Or.inl (hw _ (List.mem_of_getElem? (i := 28) rfl))) Via.refl e0 (S_WS_FLAT.ext O0.2) (g := (mkF m 24 #[.val (.int p1), .val (.int (p1 &&& (3 : Int32))), .unset, .unset, .unset] [])) rfl (hb hby at_24)
      replace k : Goes p e below s₁ G0 T6 (mkF m 27 #[.val (.int p1), .val (.int (p1 &&& (3 : Int32))), .unset, .unset, .unset] [(.ref w_WS_FLAT)]) := fun t q => k t (st6 _ q)
      replace k := Fw.astoreN k X6 hx (hb hby at_27)  rfl (Ls' := #[.val (.int p1), .val (.int (p1 &&& (3 : Int32))), .val (.ref w_WS_FLAT), .unset, .unset]) rfl (pc' := 28) rfl
      obtain ⟨T7, X7, e7, st7⟩ := getS2 X6 hx hZ hown (host := "") (Or.inl (hw _ (List.mem_of_getElem? (i := 30) rfl))) Via.refl e6 (S_WORLDSCALE.ext O0.2) (g := (mkF m 28 #[.val (.int p1), .val (.int (p1 &&& (3 : Int32))), .val (.ref w_WS_FLAT), .unset, .unset] [])) rfl (hb hby at_28)
      replace k : Goes p e below s₁ G0 T7 (mkF m 31 #[.val (.int p1), .val (.int (p1 &&& (3 : Int32))), .val (.ref w_WS_FLAT), .unset, .unset] [(.ref w_WORLDSCALE)]) := fun t q => k t (st7 _ q)
      replace k := Fw.astoreN k X7 hx (hb hby at_31)  rfl (Ls' := #[.val (.int p1), .val (.int (p1 &&& (3 : Int32))), .val (.ref w_WS_FLAT), .val (.ref w_WORLDSCALE), .unset]) rfl (pc' := 32) rfl
      replace k := Fw.goto k X7 hx (hb hby at_32) (by decide) (pc' := 59) rfl
      replace k := Fw.aloadN k X7 hx (hb hby at_59) rfl rfl (pc' := 60) rfl
      obtain ⟨cq8, kq8, q8a, q8b, q8c⟩ := isOf hZ e7 (E_WS_FLAT.ext O0.2)
      obtain ⟨_, _, ⟨T8, L8, k8, n8⟩, -, X8, ⟨Lc8, hQ8, l8, y8, z8⟩, st8⟩ := X7.virtualBack hx (y := (⟨"com/example/keelmark/keelmark/model/Contract$Basis", "figureKind", "()Lcom/example/keelmark/keelmark/model/DailyRate$Kind;"⟩ : MethodName)) (z := (⟨"com/example/keelmark/keelmark/model/Contract$Basis", "figureKind", "()Lcom/example/keelmark/keelmark/model/DailyRate$Kind;"⟩ : MethodName)) hown (mvT hZ (hw _ (List.mem_of_getElem? (i := 6) rfl))) (mvT hZ (hw _ (List.mem_of_getElem? (i := 7) rfl))) (notFace_of_selects (args := #[]) (mvT hZ (hw _ (List.mem_of_getElem? (i := 9) rfl)))) (mvT hZ (hw _ (List.mem_of_getElem? (i := 9) rfl))) (mvT hZ (hw _ (List.mem_of_getElem? (i := 8) rfl))) (by decide) (backOf (W := 0) (rm_fk1 l Z a0 hw [] w_WS_FLAT w_WORLDSCALE h0 n0 O0 S_WORLDSCALE (E_WS_FLAT.ext O0.2) (F_WS_FLAT.ext O0.2)) hZ (hw _ (List.mem_of_getElem? (i := 10) rfl)) (hw _ (List.mem_of_getElem? (i := 1) rfl)) (by decide) (by decide)) q8a q8c (g := (mkF m 60 #[.val (.int p1), .val (.int (p1 &&& (3 : Int32))), .val (.ref w_WS_FLAT), .val (.ref w_WORLDSCALE), .unset] [(.ref w_WS_FLAT)])) rfl (by rw [hml]; rfl) (Steps.refl _) (argsL := []) (rest := []) (lenOf pd__r_Lcom_example_keelmark_keelmark_model_DailyRate_Kind rfl) rfl (by show 2 * 0 + _ ≤ _; exact Nat.le_of_eq rfl) (hb hby at_60) (fun _ _ => ⟨rfl, e7, (by decide : 0 + 0 ≤ _), (by decide : 0 + 0 ≤ _)⟩)
      dsimp only [Pt.U, Pt.locs, Pt.cells, Pt.slots] at X8 l8 y8 z8 st8 hQ8
      subst l8 y8 z8
      obtain ⟨rfl, N8q, e8⟩ := hQ8
      have N8 := Fr.app N0 N8q
      replace k : Goes p e below s₁ G0 T8 (mkF m 63 #[.val (.int p1), .val (.int (p1 &&& (3 : Int32))), .val (.ref w_WS_FLAT), .val (.ref w_WORLDSCALE), .unset] [(.ref w_WORLDSCALE)]) := fun t q => k t (st8.trans q)
      replace k := Fw.astore k X8 hx (hb hby at_63)  rfl (Ls' := #[.val (.int p1), .val (.int (p1 &&& (3 : Int32))), .val (.ref w_WS_FLAT), .val (.ref w_WORLDSCALE), .val (.ref w_WORLDSCALE)]) rfl (pc' := 65) rfl
      replace k := Fw.aload k X8 hx (hb hby at_65) rfl rfl (pc' := 67) rfl
      replace k := Fw.aloadN k X8 hx (hb hby at_67) rfl rfl (pc' := 68) rfl
      replace k := Fw.acmp k X8 hx (hb hby at_68) rfl rfl true (decide_eq_true rfl) (by decide) (pc' := 71) (by decide)
      replace k := Fw.iconst k X8 hx (hb hby at_71) (z := (1 : Int32)) (by decide) (pc' := 72) rfl
      replace k := Fw.goto k X8 hx (hb hby at_72) (by decide) (pc' := 76) rfl
      obtain ⟨fs, hr, hrun, hended, hW, hsame⟩ := X8.leave (v := some (.int 1)) (fun h => by rw [Bd.returns] at h; cases h)
      refine ⟨_, _, pre0 _ (k _ ?_), hrun, hended, _, _, rfl, ?_, ⟨_, rfl⟩, hW, hsame.mono (by decide) (by decide)⟩
      · exact retN X8 hx (t := .boolean) Bd.returns (by simp) (hb hby at_76) hr
      · show Q_law Z p1 w_USD_MT w_RATE w_USD_DAY w_LUMPSUM_270000 w_LUMP_SUM w_WS_FLAT w_WORLDSCALE h0 n0 _ T8.heap _
        rw [e8]
        exact ⟨rfl, N8, trivial⟩
    · replace k := Fw.icmpYes k X0 hx (hb hby at_21) (feq hc21_5).2 (by decide) (pc' := 35) rfl
      replace k := Fw.iloadN k X0 hx (hb hby at_35) rfl (pc' := 36) rfl
      replace k := Fw.iconst k X0 hx (hb hby at_36) (z := (2 : Int32)) (by decide) (pc' := 37) rfl
      by_cases hc37_9 : (p1 &&& (3 : Int32)) = (2 : Int32)
      · replace k := Fw.icmpNo k X0 hx (hb hby at_37) (teq hc37_9).2 (pc' := 40) rfl
        obtain ⟨T10, X10, e10, st10⟩ := getS2 X0 hx hZ hown (host := "") (Or.inl (hw _ (List.mem_of_getElem? (i := 23) rfl))) Via.refl e0 (S_LUMPSUM_270000.ext O0.2) (g := (mkF m 40 #[.val (.int p1), .val (.int (p1 &&& (3 : Int32))), .unset, .unset, .unset] [])) rfl (hb hby at_40)
        replace k : Goes p e below s₁ G0 T10 (mkF m 43 #[.val (.int p1), .val (.int (p1 &&& (3 : Int32))), .unset, .unset, .unset] [(.ref w_LUMPSUM_270000)]) := fun t q => k t (st10 _ q)
        replace k := Fw.astoreN k X10 hx (hb hby at_43)  rfl (Ls' := #[.val (.int p1), .val (.int (p1 &&& (3 : Int32))), .val (.ref w_LUMPSUM_270000), .unset, .unset]) rfl (pc' := 44) rfl
        obtain ⟨T11, X11, e11, st11⟩ := getS2 X10 hx hZ hown (host := "") (Or.inl (hw _ (List.mem_of_getElem? (i := 25) rfl))) Via.refl e10 (S_LUMP_SUM.ext O0.2) (g := (mkF m 44 #[.val (.int p1), .val (.int (p1 &&& (3 : Int32))), .val (.ref w_LUMPSUM_270000), .unset, .unset] [])) rfl (hb hby at_44)
        replace k : Goes p e below s₁ G0 T11 (mkF m 47 #[.val (.int p1), .val (.int (p1 &&& (3 : Int32))), .val (.ref w_LUMPSUM_270000), .unset, .unset] [(.ref w_LUMP_SUM)]) := fun t q => k t (st11 _ q)
        replace k := Fw.astoreN k X11 hx (hb hby at_47)  rfl (Ls' := #[.val (.int p1), .val (.int (p1 &&& (3 : Int32))), .val (.ref w_LUMPSUM_270000), .val (.ref w_LUMP_SUM), .unset]) rfl (pc' := 48) rfl
        replace k := Fw.goto k X11 hx (hb hby at_48) (by decide) (pc' := 59) rfl
        replace k := Fw.aloadN k X11 hx (hb hby at_59) rfl rfl (pc' := 60) rfl
        obtain ⟨cq12, kq12, q12a, q12b, q12c⟩ := isOf hZ e11 (E_LUMPSUM_270000.ext O0.2)
        obtain ⟨_, _, ⟨T12, L12, k12, n12⟩, -, X12, ⟨Lc12, hQ12, l12, y12, z12⟩, st12⟩ := X11.virtualBack hx (y := (⟨"com/example/keelmark/keelmark/model/Contract$Basis", "figureKind", "()Lcom/example/keelmark/keelmark/model/DailyRate$Kind;"⟩ : MethodName)) (z := (⟨"com/example/keelmark/keelmark/model/Contract$Basis", "figureKind", "()Lcom/example/keelmark/keelmark/model/DailyRate$Kind;"⟩ : MethodName)) hown (mvT hZ (hw _ (List.mem_of_getElem? (i := 6) rfl))) (mvT hZ (hw _ (List.mem_of_getElem? (i := 7) rfl))) (notFace_of_selects (args := #[]) (mvT hZ (hw _ (List.mem_of_getElem? (i := 9) rfl)))) (mvT hZ (hw _ (List.mem_of_getElem? (i := 9) rfl))) (mvT hZ (hw _ (List.mem_of_getElem? (i := 8) rfl))) (by decide) (backOf (W := 0) (rm_fk2 l Z a0 hw [] w_LUMPSUM_270000 w_LUMP_SUM h0 n0 O0 S_LUMP_SUM (E_LUMPSUM_270000.ext O0.2) (F_LUMPSUM_270000.ext O0.2)) hZ (hw _ (List.mem_of_getElem? (i := 10) rfl)) (hw _ (List.mem_of_getElem? (i := 1) rfl)) (by decide) (by decide)) q12a q12c (g := (mkF m 60 #[.val (.int p1), .val (.int (p1 &&& (3 : Int32))), .val (.ref w_LUMPSUM_270000), .val (.ref w_LUMP_SUM), .unset] [(.ref w_LUMPSUM_270000)])) rfl (by rw [hml]; rfl) (Steps.refl _) (argsL := []) (rest := []) (lenOf pd__r_Lcom_example_keelmark_keelmark_model_DailyRate_Kind rfl) rfl (by show 2 * 0 + _ ≤ _; exact Nat.le_of_eq rfl) (hb hby at_60) (fun _ _ => ⟨rfl, e11, (by decide : 0 + 0 ≤ _), (by decide : 0 + 0 ≤ _)⟩)
        dsimp only [Pt.U, Pt.locs, Pt.cells, Pt.slots] at X12 l12 y12 z12 st12 hQ12
        subst l12 y12 z12
        obtain ⟨rfl, N12q, e12⟩ := hQ12
        have N12 := Fr.app N0 N12q
        replace k : Goes p e below s₁ G0 T12 (mkF m 63 #[.val (.int p1), .val (.int (p1 &&& (3 : Int32))), .val (.ref w_LUMPSUM_270000), .val (.ref w_LUMP_SUM), .unset] [(.ref w_LUMP_SUM)]) := fun t q => k t (st12.trans q)
        replace k := Fw.astore k X12 hx (hb hby at_63)  rfl (Ls' := #[.val (.int p1), .val (.int (p1 &&& (3 : Int32))), .val (.ref w_LUMPSUM_270000), .val (.ref w_LUMP_SUM), .val (.ref w_LUMP_SUM)]) rfl (pc' := 65) rfl
        replace k := Fw.aload k X12 hx (hb hby at_65) rfl rfl (pc' := 67) rfl
        replace k := Fw.aloadN k X12 hx (hb hby at_67) rfl rfl (pc' := 68) rfl
        replace k := Fw.acmp k X12 hx (hb hby at_68) rfl rfl true (decide_eq_true rfl) (by decide) (pc' := 71) (by decide)
        replace k := Fw.iconst k X12 hx (hb hby at_71) (z := (1 : Int32)) (by decide) (pc' := 72) rfl
        replace k := Fw.goto k X12 hx (hb hby at_72) (by decide) (pc' := 76) rfl
        obtain ⟨fs, hr, hrun, hended, hW, hsame⟩ := X12.leave (v := some (.int 1)) (fun h => by rw [Bd.returns] at h; cases h)
        refine ⟨_, _, pre0 _ (k _ ?_), hrun, hended, _, _, rfl, ?_, ⟨_, rfl⟩, hW, hsame.mono (by decide) (by decide)⟩
        · exact retN X12 hx (t := .boolean) Bd.returns (by simp) (hb hby at_76) hr
        · show Q_law Z p1 w_USD_MT w_RATE w_USD_DAY w_LUMPSUM_270000 w_LUMP_SUM w_WS_FLAT w_WORLDSCALE h0 n0 _ T12.heap _
          rw [e12]
          exact ⟨rfl, N12, trivial⟩
      · replace k := Fw.icmpYes k X0 hx (hb hby at_37) (feq hc37_9).2 (by decide) (pc' := 51) rfl
        obtain ⟨T13, X13, e13, st13⟩ := getS2 X0 hx hZ hown (host := "") (Or.inl (hw _ (List.mem_of_getElem? (i := 21) rfl))) Via.refl e0 (S_USD_DAY.ext O0.2) (g := (mkF m 51 #[.val (.int p1), .val (.int (p1 &&& (3 : Int32))), .unset, .unset, .unset] [])) rfl (hb hby at_51)
        replace k : Goes p e below s₁ G0 T13 (mkF m 54 #[.val (.int p1), .val (.int (p1 &&& (3 : Int32))), .unset, .unset, .unset] [(.ref w_USD_DAY)]) := fun t q => k t (st13 _ q)
        replace k := Fw.astoreN k X13 hx (hb hby at_54)  rfl (Ls' := #[.val (.int p1), .val (.int (p1 &&& (3 : Int32))), .val (.ref w_USD_DAY), .unset, .unset]) rfl (pc' := 55) rfl
        obtain ⟨T14, X14, e14, st14⟩ := getS2 X13 hx hZ hown (host := "") (Or.inl (hw _ (List.mem_of_getElem? (i := 3) rfl))) Via.refl e13 (S_RATE.ext O0.2) (g := (mkF m 55 #[.val (.int p1), .val (.int (p1 &&& (3 : Int32))), .val (.ref w_USD_DAY), .unset, .unset] [])) rfl (hb hby at_55)
        replace k : Goes p e below s₁ G0 T14 (mkF m 58 #[.val (.int p1), .val (.int (p1 &&& (3 : Int32))), .val (.ref w_USD_DAY), .unset, .unset] [(.ref w_RATE)]) := fun t q => k t (st14 _ q)
        replace k := Fw.astoreN k X14 hx (hb hby at_58)  rfl (Ls' := #[.val (.int p1), .val (.int (p1 &&& (3 : Int32))), .val (.ref w_USD_DAY), .val (.ref w_RATE), .unset]) rfl (pc' := 59) rfl
        replace k := Fw.aloadN k X14 hx (hb hby at_59) rfl rfl (pc' := 60) rfl
        obtain ⟨cq15, kq15, q15a, q15b, q15c⟩ := isOf hZ e14 (E_USD_DAY.ext O0.2)
        obtain ⟨_, _, ⟨T15, L15, k15, n15⟩, -, X15, ⟨Lc15, hQ15, l15, y15, z15⟩, st15⟩ := X14.virtualBack hx (y := (⟨"com/example/keelmark/keelmark/model/Contract$Basis", "figureKind", "()Lcom/example/keelmark/keelmark/model/DailyRate$Kind;"⟩ : MethodName)) (z := (⟨"com/example/keelmark/keelmark/model/Contract$Basis", "figureKind", "()Lcom/example/keelmark/keelmark/model/DailyRate$Kind;"⟩ : MethodName)) hown (mvT hZ (hw _ (List.mem_of_getElem? (i := 6) rfl))) (mvT hZ (hw _ (List.mem_of_getElem? (i := 7) rfl))) (notFace_of_selects (args := #[]) (mvT hZ (hw _ (List.mem_of_getElem? (i := 9) rfl)))) (mvT hZ (hw _ (List.mem_of_getElem? (i := 9) rfl))) (mvT hZ (hw _ (List.mem_of_getElem? (i := 8) rfl))) (by decide) (backOf (W := 0) (rm_fk3 l Z a0 hw [] w_USD_DAY w_RATE h0 n0 O0 S_RATE (E_USD_DAY.ext O0.2) (F_USD_DAY.ext O0.2)) hZ (hw _ (List.mem_of_getElem? (i := 10) rfl)) (hw _ (List.mem_of_getElem? (i := 1) rfl)) (by decide) (by decide)) q15a q15c (g := (mkF m 60 #[.val (.int p1), .val (.int (p1 &&& (3 : Int32))), .val (.ref w_USD_DAY), .val (.ref w_RATE), .unset] [(.ref w_USD_DAY)])) rfl (by rw [hml]; rfl) (Steps.refl _) (argsL := []) (rest := []) (lenOf pd__r_Lcom_example_keelmark_keelmark_model_DailyRate_Kind rfl) rfl (by show 2 * 0 + _ ≤ _; exact Nat.le_of_eq rfl) (hb hby at_60) (fun _ _ => ⟨rfl, e14, (by decide : 0 + 0 ≤ _), (by decide : 0 + 0 ≤ _)⟩)
        dsimp only [Pt.U, Pt.locs, Pt.cells, Pt.slots] at X15 l15 y15 z15 st15 hQ15
        subst l15 y15 z15
        obtain ⟨rfl, N15q, e15⟩ := hQ15
        have N15 := Fr.app N0 N15q
        replace k : Goes p e below s₁ G0 T15 (mkF m 63 #[.val (.int p1), .val (.int (p1 &&& (3 : Int32))), .val (.ref w_USD_DAY), .val (.ref w_RATE), .unset] [(.ref w_RATE)]) := fun t q => k t (st15.trans q)
        replace k := Fw.astore k X15 hx (hb hby at_63)  rfl (Ls' := #[.val (.int p1), .val (.int (p1 &&& (3 : Int32))), .val (.ref w_USD_DAY), .val (.ref w_RATE), .val (.ref w_RATE)]) rfl (pc' := 65) rfl
        replace k := Fw.aload k X15 hx (hb hby at_65) rfl rfl (pc' := 67) rfl
        replace k := Fw.aloadN k X15 hx (hb hby at_67) rfl rfl (pc' := 68) rfl
        replace k := Fw.acmp k X15 hx (hb hby at_68) rfl rfl true (decide_eq_true rfl) (by decide) (pc' := 71) (by decide)
        replace k := Fw.iconst k X15 hx (hb hby at_71) (z := (1 : Int32)) (by decide) (pc' := 72) rfl
        replace k := Fw.goto k X15 hx (hb hby at_72) (by decide) (pc' := 76) rfl
        obtain ⟨fs, hr, hrun, hended, hW, hsame⟩ := X15.leave (v := some (.int 1)) (fun h => by rw [Bd.returns] at h; cases h)
        refine ⟨_, _, pre0 _ (k _ ?_), hrun, hended, _, _, rfl, ?_, ⟨_, rfl⟩, hW, hsame.mono (by decide) (by decide)⟩
        · exact retN X15 hx (t := .boolean) Bd.returns (by simp) (hb hby at_76) hr
        · show Q_law Z p1 w_USD_MT w_RATE w_USD_DAY w_LUMPSUM_270000 w_LUMP_SUM w_WS_FLAT w_WORLDSCALE h0 n0 _ T15.heap _
          rw [e15]
          exact ⟨rfl, N15, trivial⟩
set_option maxRecDepth 65536 in
set_option maxHeartbeats 40000000 in
theorem comes_1 {Post : Tables → Env → Array Value → State → Outcome → State → Prop} (hpost : ∀ tb e args s v u, (limb_1_1.after args s (.returned v) u = true ∧ limb_1_2.after args s (.returned v) u = true ∧ True) → FrameEnd s (.returned v) u (Jvm.fieldLocs frame_1_writes args s ++ Jvm.arrayLocs frame_1_arrays args s ++ Jvm.staticLocs frame_1_statics s) 0 0 → Post tb e args s (.returned v) u) :
    ArmFor flags0 classFile x code maxLocals ret World_1 tables_1 room_1 Calls_1 rest_1 Pre_1 Post := by
  intro l hfl _ _ p e ha hc hk s m args below hf hA hF happ hP
  obtain ⟨hcalls, hrest, hpre⟩ := hP
  obtain ⟨-, -, -, hnamed, -, -, -, hat⟩ := (Spec.applies_iff hf).mp happ
  obtain ⟨hg, hn⟩ := and_e (Cond.before_iff.mp (show (Jvm.Cond.and given_1 narrow_1).before args s = true from hpre))
  obtain ⟨g0, gr0⟩ := and_e hg
  have ga0 := gr0
  obtain ⟨w0, rfl⟩ : ∃ w0 : Value, args = #[w0] := by
    have hs : args.size = 1 := by simpa [Cond.value, given_1] using g0
    obtain ⟨L⟩ := args
    match L, hs with
    | [w0], _ => exact ⟨w0, rfl⟩
  have hw := fun d (hd : d ∈ tables_1) => atoms_spec (ws := Jvm.Cond.code x code maxLocals ret :: tables_1) hat d (List.mem_cons_of_mem _ hd)
  have hfit : Fit s := fun {y c} hc i hi => by
    obtain ⟨ha, rfl⟩ := Array.getElem?_eq_some_iff.mp hc
    have q := List.all_eq_true.mp ((Array.all_eq_true_iff_forall_mem.mp hF) _ (Array.getElem_mem ha)) i (List.mem_range.mpr hi)
    simpa [Array.getElem?_eq_getElem hi] using q
  obtain ⟨i0, ei0⟩ := is_v ga0
  obtain rfl : w0 = (.int i0) := Option.some.inj ei0
  obtain ⟨nq0, hn⟩ := and_e hn
  obtain ⟨nq1, hn⟩ := and_e hn
  obtain ⟨nq2, hn⟩ := and_e hn
  obtain ⟨nq3, hn⟩ := and_e hn
  obtain ⟨nq4, hn⟩ := and_e hn
  obtain ⟨nq5, hn⟩ := and_e hn
  obtain ⟨nq6, hn⟩ := and_e hn
  obtain ⟨nq7, hn⟩ := and_e hn
  obtain ⟨nq8, hn⟩ := and_e hn
  obtain ⟨nq9, hn⟩ := and_e hn
  have nq10 := hn
  obtain ⟨a_USD_MT, ev_USD_MT⟩ := exa_v nq0
  have E_USD_MT := Exa.start ev_USD_MT nq0
  have S_USD_MT := Sta.start ev_USD_MT (Or.inr ⟨(hw _ (List.mem_of_getElem? (i := 1) rfl)), (hw _ (List.mem_of_getElem? (i := 2) rfl))⟩)
  obtain ⟨a_RATE, ev_RATE⟩ := exa_v nq1
  have E_RATE := Exa.start ev_RATE nq1
  have S_RATE := Sta.start ev_RATE (Or.inr ⟨(hw _ (List.mem_of_getElem? (i := 4) rfl)), (hw _ (List.mem_of_getElem? (i := 5) rfl))⟩)
  obtain ⟨a_USD_DAY, ev_USD_DAY⟩ := exa_v nq3
  have E_USD_DAY := Exa.start ev_USD_DAY nq3
  have S_USD_DAY := Sta.start ev_USD_DAY (Or.inr ⟨(hw _ (List.mem_of_getElem? (i := 1) rfl)), (hw _ (List.mem_of_getElem? (i := 22) rfl))⟩)
  obtain ⟨a_LUMPSUM_270000, ev_LUMPSUM_270000⟩ := exa_v nq5
  have E_LUMPSUM_270000 := Exa.start ev_LUMPSUM_270000 nq5
  have S_LUMPSUM_270000 := Sta.start ev_LUMPSUM_270000 (Or.inr ⟨(hw _ (List.mem_of_getElem? (i := 1) rfl)), (hw _ (List.mem_of_getElem? (i := 24) rfl))⟩)
  obtain ⟨a_LUMP_SUM, ev_LUMP_SUM⟩ := exa_v nq6
  have E_LUMP_SUM := Exa.start ev_LUMP_SUM nq6
  have S_LUMP_SUM := Sta.start ev_LUMP_SUM (Or.inr ⟨(hw _ (List.mem_of_getElem? (i := 4) rfl)), (hw _ (List.mem_of_getElem? (i := 26) rfl))⟩)
  obtain ⟨a_WS_FLAT, ev_WS_FLAT⟩ := exa_v nq8
  have E_WS_FLAT := Exa.start ev_WS_FLAT nq8
  have S_WS_FLAT := Sta.start ev_WS_FLAT (Or.inr ⟨(hw _ (List.mem_of_getElem? (i := 1) rfl)), (hw _ (List.mem_of_getElem? (i := 29) rfl))⟩)
  obtain ⟨a_WORLDSCALE, ev_WORLDSCALE⟩ := exa_v nq9
  have E_WORLDSCALE := Exa.start ev_WORLDSCALE nq9
  have S_WORLDSCALE := Sta.start ev_WORLDSCALE (Or.inr ⟨(hw _ (List.mem_of_getElem? (i := 4) rfl)), (hw _ (List.mem_of_getElem? (i := 31) rfl))⟩)
  have F_USD_MT := own_fld ev_USD_MT nq2
  have F_USD_DAY := own_fld ev_USD_DAY nq4
  have F_LUMPSUM_270000 := own_fld ev_LUMPSUM_270000 nq7
  have F_WS_FLAT := own_fld ev_WS_FLAT nq10
  obtain ⟨n, o, h1, h2, h3, _, L, rfl, ⟨rfl, N, -⟩, hq⟩ := rm_law l s _ hw tables_1 i0 a_USD_MT a_RATE a_USD_DAY a_LUMPSUM_270000 a_LUMP_SUM a_WS_FLAT a_WORLDSCALE s.heap s.heap.size (Old.start s) S_USD_MT E_USD_MT F_USD_MT S_RATE E_RATE S_USD_DAY E_USD_DAY F_USD_DAY S_LUMPSUM_270000 E_LUMPSUM_270000 F_LUMPSUM_270000 S_LUMP_SUM E_LUMP_SUM S_WS_FLAT E_WS_FLAT F_WS_FLAT S_WORLDSCALE E_WORLDSCALE p e ha hc hk s m _ below hf ((Spec.applies_iff_loose hf).mp happ).1 ⟨rfl, State.Warmed39.refl s, rfl⟩ trivial
  refine ⟨n, _, h1, h2, h3, hpost _ _ _ _ _ _ ⟨Cond.after_iff.mpr rfl, Cond.after_iff.mpr (eq_i res_at (Term.int_eval (1)) rfl), trivial⟩ ⟨hq.1, hq.2.1, (hq.2.2.sift fun y hy => Or.inr (N y hy)).mono (by decide) (by decide)⟩⟩
theorem main_1_1 : Claimed_1_1 := comes_1 fun _ _ _ _ _ _ h hF => ⟨h.1, hF⟩
theorem main_1_2 : Claimed_1_2 := comes_1 fun _ _ _ _ _ _ h hF => ⟨h.2.1, hF⟩
end Jvm.Pilot.@@N@@
namespace Jvm.Pilot.@@N@@
open Jvm Jvm.ClassFile Sem Op Lib Jvm.Free Jvm.Stand Jvm.Pilot.@@N@@.Jvm.D
/-! MADE BY PROGRAM (witnessworld.py) out of the Statement's table words and the real class files: 13 classes; the members and pool entries that the words name. The judged class is class 1, her method 1. -/
namespace start1
open Jvm.ClassFile
def u (s : String) : CpInfo := .utf8 (stringToUtf16 s)
/-- a pool by its gaps: so many unusable entries, then the entry; so many at the end -/
def gap : Nat → List CpInfo → List CpInfo
  | 0, r => r
  | n + 1, r => .unusable :: gap n r
def poolList (es : List (Nat × CpInfo)) (last : Nat) : List CpInfo := es.foldr (fun e r => gap e.1 (e.2 :: r)) (gap last [])
def pool (es : List (Nat × CpInfo)) (last : Nat) : Array CpInfo := ⟨poolList es last⟩
def fileOf (pool : Array CpInfo) (this : Nat) (attrs : Array Attribute := #[]) (ms : Array MethodInfo := #[]) (fl : Nat := 33) (sup : Nat := 0) (ifs : Array Nat := #[]) (fds : Array FieldInfo := #[]) : ClassFile where
  minorVersion := 0
  majorVersion := 65
  constantPool := pool
  accessFlags := fl
  thisClass := this
  superClass := sup
  interfaces := ifs
  fields := fds
  methods := ms
  attributes := attrs
def plain (name : String) (sup : Option ClassId) : Class where
  name := name
  kind := .ordinary
  loader := none
  accessFlags := 33
  super := sup
  interfaces := #[]
  cf := none
  fields := #[]
  methods := #[]
  instanceTypes := #[]
  staticTypes := #[]
  resolved := #[]
  callSites := []
  init := .initialized
  statics := none
  mirror := none

def pool0 : Array CpInfo := pool [(5, u "<init>"), (0, u "()V"), (1, .class_ 10), (1, u "java/lang/Object")] 113

def k0m0 : Method := { name := "<init>", desc := "()V", sig := { parameters := [], returnType := none }, accessFlags := 1, code := none }
/-- java/lang/Object -/
def k0 : Class := { plain "java/lang/Object" none with
  accessFlags := 33
  interfaces := #[]
  cf := some (fileOf pool0 8 #[] #[{ accessFlags := 1, nameIndex := 5, descriptorIndex := 6, attributes := #[] }] 33 0 #[] #[])
  fields := #[]
  methods := #[k0m0]
  instanceTypes := #[]
  staticTypes := #[]
  resolved := Array.replicate 124 none
  statics := none }

def pool1 : Array CpInfo := pool [(2, .class_ 4), (1, u "java/lang/Object"), (0, u "<init>"), (0, u "()V"), (0, .fieldref 8 9), (0, .class_ 10), (0, .nameAndType 11 12), (0, u "com/example/keelmark/keelmark/model/Contract$Basis"), (0, u "USD_MT"), (0, u "Lcom/example/keelmark/keelmark/model/Contract$Basis;"), (0, .fieldref 14 15), (0, .class_ 16), (0, .nameAndType 17 18), (0, u "com/example/keelmark/keelmark/model/DailyRate$Kind"), (0, u "RATE"), (0, u "Lcom/example/keelmark/keelmark/model/DailyRate$Kind;"), (0, .fieldref 8 20), (0, .nameAndType 21 12), (0, u "WS_FLAT"), (0, .fieldref 14 23), (0, .nameAndType 24 18), (0, u "WORLDSCALE"), (0, .fieldref 8 26), (0, .nameAndType 27 12), (0, u "LUMPSUM_270000"), (0, .fieldref 14 29), (0, .nameAndType 30 18), (0, u "LUMP_SUM"), (0, .fieldref 8 32), (0, .nameAndType 33 12), (0, u "USD_DAY"), (0, .methodref 8 35), (0, .nameAndType 36 37), (0, u "figureKind"), (0, u "()Lcom/example/keelmark/keelmark/model/DailyRate$Kind;"), (0, .class_ 39), (0, u "com/example/keelmark/keelmark/model/BasisFigureKindPinLaw"), (2, u "law"), (0, u "(I)Z")] 10

def k1m0 : Method := { name := "<init>", desc := "()V", sig := { parameters := [], returnType := none }, accessFlags := 2, code := none }
def k1c1 : Code := { maxStack := 2, maxLocals := 5, code := code, exceptionTable := #[], attributes := #[] }
def k1m1 : Method := { name := "law", desc := "(I)Z", sig := { parameters := [.int], returnType := some .boolean }, accessFlags := 9, code := some k1c1 }
/-- com/example/keelmark/keelmark/model/BasisFigureKindPinLaw -/
def k1 : Class := { plain "com/example/keelmark/keelmark/model/BasisFigureKindPinLaw" (some 0) with
  accessFlags := 49
  interfaces := #[]
  cf := some (fileOf pool1 38 #[] #[{ accessFlags := 2, nameIndex := 5, descriptorIndex := 6, attributes := #[] }, { accessFlags := 9, nameIndex := 42, descriptorIndex := 43, attributes := #[] }] 49 2 #[] #[])
  fields := #[]
  methods := #[k1m0, k1m1]
  instanceTypes := #[]
  staticTypes := #[]
  resolved := Array.replicate 54 none
  statics := none }

def pool2 : Array CpInfo := pool [(1, .class_ 2), (0, u "java/lang/constant/Constable"), (0, .class_ 4), (0, u "java/lang/Object")] 6

/-- java/lang/constant/Constable -/
def k2 : Class := { plain "java/lang/constant/Constable" (some 0) with
  accessFlags := 1537
  interfaces := #[]
  cf := some (fileOf pool2 1 #[] #[] 1537 3 #[] #[])
  fields := #[]
  methods := #[]
  instanceTypes := #[]
  staticTypes := #[]
  resolved := Array.replicate 11 none
  statics := none }

def pool3 : Array CpInfo := pool [(1, .class_ 2), (0, u "java/lang/Comparable"), (0, .class_ 4), (0, u "java/lang/Object")] 7

/-- java/lang/Comparable -/
def k3 : Class := { plain "java/lang/Comparable" (some 0) with
  accessFlags := 1537
  interfaces := #[]
  cf := some (fileOf pool3 1 #[] #[] 1537 3 #[] #[])
  fields := #[]
  methods := #[]
  instanceTypes := #[]
  staticTypes := #[]
  resolved := Array.replicate 12 none
  statics := none }

def pool4 : Array CpInfo := pool [(1, .class_ 2), (0, u "java/io/Serializable"), (0, .class_ 4), (0, u "java/lang/Object")] 2

/-- java/io/Serializable -/
def k4 : Class := { plain "java/io/Serializable" (some 0) with
  accessFlags := 1537
  interfaces := #[]
  cf := some (fileOf pool4 1 #[] #[] 1537 3 #[] #[])
  fields := #[]
  methods := #[]
  instanceTypes := #[]
  staticTypes := #[]
  resolved := Array.replicate 7 none
  statics := none }

def pool5 : Array CpInfo := pool [(2, .class_ 4), (1, u "java/lang/Enum"), (0, u "name"), (0, u "Ljava/lang/String;"), (0, .fieldref 2 8), (0, .nameAndType 9 10), (0, u "ordinal"), (0, u "I"), (1, .class_ 14), (1, u "java/lang/Object"), (4, u "hash"), (86, .class_ 108), (1, u "java/lang/Enum$EnumDesc"), (2, .class_ 112), (0, u "java/lang/constant/Constable"), (0, .class_ 114), (0, u "java/lang/Comparable"), (0, .class_ 116), (0, u "java/io/Serializable"), (9, u "()I")] 77

def k5c0 : Code := { maxStack := 1, maxLocals := 1, code := jdk_37_method_2_code, exceptionTable := #[], attributes := #[] }
def k5m0 : Method := { name := "ordinal", desc := "()I", sig := { parameters := [], returnType := some .int }, accessFlags := 17, code := some k5c0 }
/-- java/lang/Enum -/
def k5 : Class := { plain "java/lang/Enum" (some 0) with
  accessFlags := 1057
  interfaces := #[2, 3, 4]
  cf := some (fileOf pool5 2 #[.nestMembers #[106]] #[{ accessFlags := 17, nameIndex := 9, descriptorIndex := 126, attributes := #[] }] 1057 12 #[111, 113, 115] #[{ accessFlags := 18, nameIndex := 5, descriptorIndex := 6, attributes := #[] }, { accessFlags := 18, nameIndex := 9, descriptorIndex := 10, attributes := #[] }, { accessFlags := 2, nameIndex := 19, descriptorIndex := 10, attributes := #[] }])
  fields := #[{ name := "name", type := (.object "java/lang/String"), accessFlags := 18, slot := 0, constantValue := 0 }, { name := "ordinal", type := .int, accessFlags := 18, slot := 1, constantValue := 0 }, { name := "hash", type := .int, accessFlags := 2, slot := 2, constantValue := 0 }]
  methods := #[k5m0]
  instanceTypes := #[(.object "java/lang/String"), .int, .int]
  staticTypes := #[]
  resolved := Array.replicate 204 none
  statics := none }

def pool6 : Array CpInfo := pool [(1, .class_ 2), (0, u "com/example/keelmark/keelmark/model/Contract$Basis"), (2, u "USD_MT"), (0, u "Lcom/example/keelmark/keelmark/model/Contract$Basis;"), (2, u "WS_FLAT"), (2, u "LUMPSUM_270000"), (2, u "USD_DAY"), (2, u "$VALUES"), (0, u "[Lcom/example/keelmark/keelmark/model/Contract$Basis;"), (6, .class_ 28), (1, u "java/lang/Enum"), (6, .methodref 1 36), (0, .nameAndType 37 38), (0, u "ordinal"), (0, u "()I"), (5, .fieldref 45 46), (0, .class_ 47), (0, .nameAndType 48 49), (0, u "com/example/keelmark/keelmark/model/DailyRate$Kind"), (0, u "RATE"), (0, u "Lcom/example/keelmark/keelmark/model/DailyRate$Kind;"), (0, .fieldref 45 51), (0, .nameAndType 52 49), (0, u "WORLDSCALE"), (0, .fieldref 45 54), (0, .nameAndType 55 49), (0, u "LUMP_SUM"), (16, u "figureKind"), (0, u "()Lcom/example/keelmark/keelmark/model/DailyRate$Kind;"), (6, .class_ 81), (0, u "com/example/keelmark/keelmark/model/Contract")] 5

def k6c0 : Code := { maxStack := 4, maxLocals := 1, code := prog_48_method_4_code, exceptionTable := #[], attributes := #[] }
def k6m0 : Method := { name := "figureKind", desc := "()Lcom/example/keelmark/keelmark/model/DailyRate$Kind;", sig := { parameters := [], returnType := some (.object "com/example/keelmark/keelmark/model/DailyRate$Kind") }, accessFlags := 1, code := some k6c0 }
/-- com/example/keelmark/keelmark/model/Contract$Basis -/
def k6 : Class := { plain "com/example/keelmark/keelmark/model/Contract$Basis" (some 5) with
  accessFlags := 16433
  interfaces := #[]
  cf := some (fileOf pool6 1 #[.nestHost 80] #[{ accessFlags := 1, nameIndex := 72, descriptorIndex := 73, attributes := #[] }] 16433 26 #[] #[{ accessFlags := 16409, nameIndex := 5, descriptorIndex := 6, attributes := #[] }, { accessFlags := 16409, nameIndex := 9, descriptorIndex := 6, attributes := #[] }, { accessFlags := 16409, nameIndex := 12, descriptorIndex := 6, attributes := #[] }, { accessFlags := 16409, nameIndex := 15, descriptorIndex := 6, attributes := #[] }, { accessFlags := 4122, nameIndex := 18, descriptorIndex := 19, attributes := #[] }])
  fields := #[{ name := "USD_MT", type := (.object "com/example/keelmark/keelmark/model/Contract$Basis"), accessFlags := 16409, slot := 0, constantValue := 0 }, { name := "WS_FLAT", type := (.object "com/example/keelmark/keelmark/model/Contract$Basis"), accessFlags := 16409, slot := 1, constantValue := 0 }, { name := "LUMPSUM_270000", type := (.object "com/example/keelmark/keelmark/model/Contract$Basis"), accessFlags := 16409, slot := 2, constantValue := 0 }, { name := "USD_DAY", type := (.object "com/example/keelmark/keelmark/model/Contract$Basis"), accessFlags := 16409, slot := 3, constantValue := 0 }, { name := "$VALUES", type := (.array (.object "com/example/keelmark/keelmark/model/Contract$Basis")), accessFlags := 4122, slot := 4, constantValue := 0 }]
  methods := #[k6m0]
  instanceTypes := #[(.object "java/lang/String"), .int, .int]
  staticTypes := #[(.object "com/example/keelmark/keelmark/model/Contract$Basis"), (.object "com/example/keelmark/keelmark/model/Contract$Basis"), (.object "com/example/keelmark/keelmark/model/Contract$Basis"), (.object "com/example/keelmark/keelmark/model/Contract$Basis"), (.array (.object "com/example/keelmark/keelmark/model/Contract$Basis"))]
  resolved := Array.replicate 87 none
  statics := some 0 }

def pool7 : Array CpInfo := pool [(1, .class_ 2), (0, u "com/example/keelmark/keelmark/model/DailyRate$Kind"), (2, u "RATE"), (0, u "Lcom/example/keelmark/keelmark/model/DailyRate$Kind;"), (2, u "WORLDSCALE"), (2, u "LUMP_SUM"), (2, u "$VALUES"), (0, u "[Lcom/example/keelmark/keelmark/model/DailyRate$Kind;"), (6, .class_ 25), (1, u "java/lang/Enum"), (26, .class_ 53), (0, u "com/example/keelmark/keelmark/model/DailyRate")] 2

/-- com/example/keelmark/keelmark/model/DailyRate$Kind -/
def k7 : Class := { plain "com/example/keelmark/keelmark/model/DailyRate$Kind" (some 5) with
  accessFlags := 16433
  interfaces := #[]
  cf := some (fileOf pool7 1 #[.nestHost 52] #[] 16433 23 #[] #[{ accessFlags := 16409, nameIndex := 5, descriptorIndex := 6, attributes := #[] }, { accessFlags := 16409, nameIndex := 9, descriptorIndex := 6, attributes := #[] }, { accessFlags := 16409, nameIndex := 12, descriptorIndex := 6, attributes := #[] }, { accessFlags := 4122, nameIndex := 15, descriptorIndex := 16, attributes := #[] }])
  fields := #[{ name := "RATE", type := (.object "com/example/keelmark/keelmark/model/DailyRate$Kind"), accessFlags := 16409, slot := 0, constantValue := 0 }, { name := "WORLDSCALE", type := (.object "com/example/keelmark/keelmark/model/DailyRate$Kind"), accessFlags := 16409, slot := 1, constantValue := 0 }, { name := "LUMP_SUM", type := (.object "com/example/keelmark/keelmark/model/DailyRate$Kind"), accessFlags := 16409, slot := 2, constantValue := 0 }, { name := "$VALUES", type := (.array (.object "com/example/keelmark/keelmark/model/DailyRate$Kind")), accessFlags := 4122, slot := 3, constantValue := 0 }]
  methods := #[]
  instanceTypes := #[(.object "java/lang/String"), .int, .int]
  staticTypes := #[(.object "com/example/keelmark/keelmark/model/DailyRate$Kind"), (.object "com/example/keelmark/keelmark/model/DailyRate$Kind"), (.object "com/example/keelmark/keelmark/model/DailyRate$Kind"), (.array (.object "com/example/keelmark/keelmark/model/DailyRate$Kind"))]
  resolved := Array.replicate 56 none
  statics := some 1 }

def pool8 : Array CpInfo := pool [(1, u "java/lang/Cloneable"), (0, .class_ 1), (0, u "java/lang/Object"), (0, .class_ 3)] 3

/-- java/lang/Cloneable -/
def k8 : Class := { plain "java/lang/Cloneable" (some 0) with
  accessFlags := 1537
  interfaces := #[]
  cf := some (fileOf pool8 2 #[] #[] 1537 4 #[] #[])
  fields := #[]
  methods := #[]
  instanceTypes := #[]
  staticTypes := #[]
  resolved := Array.replicate 8 none
  statics := none }

/-- the primitive byte -/
def k9 : Class := { plain "byte" none with kind := .primitive 'B', accessFlags := 0x411 }
/-- [B -/
def k10 : Class := { plain "[B" (some 0) with kind := .array 9 .byte, interfaces := #[8, 4], accessFlags := 1041 }

/-- the primitive int -/
def k11 : Class := { plain "int" none with kind := .primitive 'I', accessFlags := 0x411 }
/-- [I -/
def k12 : Class := { plain "[I" (some 0) with kind := .array 11 .int, interfaces := #[8, 4], accessFlags := 1041 }

def heap : Heap := #[{ cls := 6, slots := #[.ref 2, .ref 3, .ref 4, .ref 5, .null], vm := .statics 6 },
  { cls := 7, slots := #[.ref 6, .ref 7, .ref 8, .null], vm := .statics 7 },
  { cls := 6, slots := #[.null, .int 0, .int 0], vm := .none },
  { cls := 6, slots := #[.null, .int 1, .int 0], vm := .none },
  { cls := 6, slots := #[.null, .int 2, .int 0], vm := .none },
  { cls := 6, slots := #[.null, .int 3, .int 0], vm := .none },
  { cls := 7, slots := #[.null, .int 0, .int 0], vm := .none },
  { cls := 7, slots := #[.null, .int 1, .int 0], vm := .none },
  { cls := 7, slots := #[.null, .int 2, .int 0], vm := .none }]
def classes : Array Class := #[k0, k1, k2, k3, k4, k5, k6, k7, k8, k9, k10, k11, k12]
def interned : List (Array UInt16 × Addr) := []
def slotsUsed : Nat := 30
def theMethod : MethodId := ⟨1, 1⟩
def args0 : Array Value := #[.int 5]
def aboutOver (below : List Frame) : State where
  vm := { classes := classes, interned := interned.toArray }
  heap := heap
  slotsUsed := slotsUsed
  threads := #[{ frames := .invoking theMethod args0 :: below }]
def below0 : List Frame := [.native { method := ⟨0, 0⟩, args := #[] }]
def about1 : State := aboutOver below0
def p0 : Program := .bare "" "" ""
def e0 : Env := launch0.env 0 0 0
theorem w_frames : about1.frames = Frame.invoking theMethod args0 :: below0 := rfl
set_option maxRecDepth 65536 in
theorem w_args : argsFit about1.vm theMethod args0 = true := by decide +kernel
set_option maxRecDepth 65536 in
theorem w_heap : heapFits about1 = true := by decide +kernel
set_option maxRecDepth 65536 in
theorem w_runnable : about1.curStatus? = some .runnable := by decide +kernel
set_option maxRecDepth 65536 in
theorem w_alone : about1.alone = true := by decide +kernel
set_option maxRecDepth 65536 in
theorem w_named : about1.methodNamed? x = some theMethod := by decide +kernel
set_option maxRecDepth 65536 in
theorem w_hears : about1.hears theMethod below0 = true := by decide +kernel
set_option maxRecDepth 65536 in
theorem w_ripe : about1.ripe theMethod args0 below0 = true := by decide +kernel
theorem w_running : about1.status = .running := rfl
set_option maxRecDepth 65536 in
theorem w_room : about1.hasRoom e0.platform room_1 = true :=
  launch0.hasRoom_least _ room_1 (by decide +kernel) (by decide +kernel) (by decide +kernel) (by decide +kernel) (by decide +kernel) (by decide +kernel)
theorem allAtoms_all (ts : List Jvm.Cond) (a : Array Jvm.Value) (st : Jvm.State) : (allAtoms ts).before a st = ts.all (fun c => c.before a st) := by
  induction ts with
  | nil => rfl
  | cons c t ih =>
    show (Jvm.Cond.and c (allAtoms t)).before a st = _
    rw [Jvm.Cond.before_and, ih, List.all_cons]
def words1 : List Jvm.Cond := Jvm.Cond.code x code maxLocals ret :: tables_1
/-- a 'code' word, met by the world's own term for the bytes: nothing is compared byte by byte -/
theorem code_word {y : MethodName} {bytes : ByteArray} {mx : Nat} {rt : Option FieldType} {a : Array Value} {s : State} {m : MethodId} {meth : Method} {c : Code} (h1 : s.methodNamed? y = some m) (h2 : s.vm.method? m = some meth) (h3 : meth.code = some c) (h4 : c.code = bytes)
    (h5 : (c.maxLocals == mx && c.exceptionTable.isEmpty && decide (c.maxStack ≤ mostOperands) && decide (meth.sig.returnType = rt) && !meth.locks && decide (parseMethodDescriptor y.desc = some meth.sig)) = true) : (Jvm.Cond.code y bytes mx rt).before a s = true := by
  simp only [Bool.and_eq_true, beq_iff_eq, Bool.not_eq_true', decide_eq_true_eq] at h5
  obtain ⟨⟨⟨⟨⟨g1, g2⟩, g3⟩, g4⟩, g5⟩, g6⟩ := h5
  simp [Cond.before, Cond.holds, Cond.value, h1, h2, h3, h4, g1, g2, g3, g4, g5, g6]
def isCode : Jvm.Cond → Bool
  | .code _ _ _ _ => true
  | _ => false
theorem all_split {L : List Jvm.Cond} {P : Jvm.Cond → Bool} (h1 : L.all (fun c => isCode c || P c) = true) (h2 : ∀ c ∈ L.filter isCode, P c = true) : L.all P = true := by
  refine List.all_eq_true.mpr fun c hc => ?_
  have h := List.all_eq_true.mp h1 c hc
  rcases Bool.eq_false_or_eq_true (isCode c) with hi | hi
  · exact h2 c (List.mem_filter.mpr ⟨hc, hi⟩)
  · simpa [hi] using h
set_option maxRecDepth 65536 in
theorem w_c0 : (Jvm.Cond.code x code maxLocals ret).before args0 about1 = true := code_word (m := ⟨1, 1⟩) (meth := k1m1) (c := k1c1) (by decide +kernel) rfl rfl rfl (by decide +kernel)
set_option maxRecDepth 65536 in
theorem w_c1 : (Jvm.Cond.code ({ cls := "com/example/keelmark/keelmark/model/Contract$Basis", name := "figureKind", desc := "()Lcom/example/keelmark/keelmark/model/DailyRate$Kind;" } : Jvm.MethodName) prog_48_method_4_code (1 : Nat) (Option.some (Jvm.ClassFile.FieldType.object "com/example/keelmark/keelmark/model/DailyRate$Kind"))).before args0 about1 = true := code_word (m := ⟨6, 0⟩) (meth := k6m0) (c := k6c0) (by decide +kernel) rfl rfl rfl (by decide +kernel)
set_option maxRecDepth 65536 in
theorem w_c2 : (Jvm.Cond.code ({ cls := "java/lang/Enum", name := "ordinal", desc := "()I" } : Jvm.MethodName) jdk_37_method_2_code (1 : Nat) (Option.some Jvm.ClassFile.FieldType.int)).before args0 about1 = true := code_word (m := ⟨5, 0⟩) (meth := k5m0) (c := k5c0) (by decide +kernel) rfl rfl rfl (by decide +kernel)
def codes1 : List Jvm.Cond := [Jvm.Cond.code x code maxLocals ret, Jvm.Cond.code ({ cls := "com/example/keelmark/keelmark/model/Contract$Basis", name := "figureKind", desc := "()Lcom/example/keelmark/keelmark/model/DailyRate$Kind;" } : Jvm.MethodName) prog_48_method_4_code (1 : Nat) (Option.some (Jvm.ClassFile.FieldType.object "com/example/keelmark/keelmark/model/DailyRate$Kind")), Jvm.Cond.code ({ cls := "java/lang/Enum", name := "ordinal", desc := "()I" } : Jvm.MethodName) jdk_37_method_2_code (1 : Nat) (Option.some Jvm.ClassFile.FieldType.int)]
set_option maxRecDepth 65536 in
theorem codes_eq : words1.filter isCode = codes1 := rfl
theorem w_codes : ∀ c ∈ words1.filter isCode, c.before args0 about1 = true := by
  rw [codes_eq]
  intro c hc
  simp only [codes1, List.mem_cons, List.not_mem_nil, or_false] at hc
  rcases hc with rfl | rfl | rfl
  · exact w_c0
  · exact w_c1
  · exact w_c2
set_option maxRecDepth 65536 in
theorem w_t1 : (words1.take 24).all (fun c => isCode c || c.before args0 about1) = true := by decide +kernel
set_option maxRecDepth 65536 in
theorem w_t2 : (words1.drop 24).all (fun c => isCode c || c.before args0 about1) = true := by decide +kernel
theorem w_tables : (allAtoms (Jvm.Cond.code x code maxLocals ret :: tables_1)).before args0 about1 = true := by
  rw [allAtoms_all]
  show words1.all (fun c => c.before args0 about1) = true
  refine all_split ?_ w_codes
  rw [← List.take_append_drop 24 words1, List.all_append, w_t1, w_t2]
  rfl
set_option maxRecDepth 65536 in
theorem w_case : (Jvm.Cond.and given_1 narrow_1).before args0 about1 = true := by decide +kernel
theorem w_applies : (headSpec (Jvm.Cond.code x code maxLocals ret :: tables_1) room_1).applies x e0.platform about1 = true :=
  (Spec.applies_iff w_frames).mpr ⟨w_running, w_runnable, w_alone, w_named, w_hears, w_ripe, w_room, w_tables⟩
theorem atStart : AtStart classFile x code maxLocals ret World_1 tables_1 room_1 Calls_1 rest_1 Pre_1 launch0 p0 e0 about1 theMethod args0 below0 :=
  ⟨lists_1, trivial, launch0.admits_env _ _ _, launch0.least_env, fairChoices_fair.cas, fairChoices_fair.clock, w_frames, w_args, w_heap, w_applies, trivial, trivial, w_case⟩
end start1
theorem witness_1 : WitnessClaimed_1 := ⟨start1.p0, start1.e0, start1.about1, start1.theMethod, start1.args0, start1.below0, start1.atStart⟩
end Jvm.Pilot.@@N@@
