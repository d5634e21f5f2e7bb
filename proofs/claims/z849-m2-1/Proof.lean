import JvmDerived
import JvmDerived.Pilot.@@N@@Statement
import JvmDerived.Pilot.@@N@@Code
set_option linter.unusedVariables false
set_option linter.unusedSimpArgs false
namespace Jvm.RoadKit
open Sem ClassFile Op Lib Jvm.Stand Jvm.Free Jvm.LawKit
section New
variable {p : Program} {l : Launch} {e : Env} {R : Room} {s : State} {m : MethodId} {args : Array Value} {below : List Frame} {meth : Method} {c : Code} {T : State} {locs : List Loc} {cells slots : Nat}
theorem retI (X : Stand p l e R s m args below meth c T locs cells slots) (hx : p.tables.exec = Jvm.exec) {pc : Nat} {Ls : Array Slot} {z : Int32} {rest : List Value} (hret : meth.sig.returnType = some .int) (hd : decode c.code pc = .ok (.ireturn, 1)) {fs : List Frame}
    (hl : ∀ (f : JFrame) (acts : List Action), f.method = m → f.locked = none → f.entered = [] → (doReturn e (T.setTop f) acts (some (.int z))).1 = T.setFrames fs) : Steps p.tables e below (T.setTop (mkF m pc Ls (.int z :: rest))) (T.setFrames fs) := by
  have hm' : T.vm.method? m = some meth := X.method'
  have hn : narrow .int (.int z) = .int z := rfl
  show Steps p.tables e below (T.setTop { method := m, pc := pc, locals := Ls, stack := _ :: rest, locked := none }) _
  jvm_step X.here [X.here.top, hx, hd, hm', hret, hn]
  first | (intro acts; rw [hl _ acts rfl rfl rfl]) | rw [hl _ _ rfl rfl rfl]
  exact Steps.refl _
end New
theorem ext_refl {h : Heap} : Ext h h := ⟨Nat.le_refl _, fun _ _ q => q⟩
theorem ext_trans {h h' h'' : Heap} (E : Ext h h') (E' : Ext h' h'') : Ext h h'' := ⟨Nat.le_trans E.1 E'.1, fun a c q => E'.2 a c (E.2 a c q)⟩
theorem ext_keep {h h' h'' : Heap} {ws : List Addr} (E : Ext h h') (K : Keep h' h'' ws) (q : ∀ x ∈ ws, h.size ≤ x) : Ext h h'' := ⟨Nat.le_trans E.1 K.1, fun a c r => K.2.1 a c (E.2 a c r) fun z => absurd (Array.getElem?_eq_some_iff.mp r).1 (Nat.not_lt.mpr (q a z))⟩
theorem ext_wr {h h' h'' : Heap} {a : Addr} {sl : Nat} {v : Value} (E : Ext h h') (W : Wr h' h'' a sl v) (q : h.size ≤ a) : Ext h h'' := ext_keep E (Keep.of_wr W) (allS q all0)
theorem old_le {Z : State} {n0 : Nat} {h : Heap} (O : Old Z n0 h) : n0 ≤ h.size := O.1 ▸ O.2.1
end Jvm.RoadKit
namespace Jvm.Own.Fw
open Sem ClassFile Op Lib Jvm.Stand Jvm.Free Jvm.LawKit Jvm.RoadKit
variable {p : Program} {l : Launch} {e : Env} {R : Room} {s : State} {m : MethodId} {args : Array Value} {below : List Frame} {meth : Method} {c : Code} {T S : State} {G : JFrame} {locs : List Loc} {cells slots : Nat} {pc pc' : Nat} {Ls : Array Slot} {St : List Value}
theorem iloadN {i : Fin 4} {v : Int32} (k : Goes p e below S G T (mkF m pc Ls St)) (X : Stand p l e R s m args below meth c T locs cells slots) (hx : p.tables.exec = Jvm.exec) (hd : decode c.code pc = .ok (.iload_n i, 1)) (hl : Ls[i.val]? = some (.val (.int v))) (hp : pc + 1 = pc') : Goes p e below S G T (mkF m pc' Ls (.int v :: St)) := by
  subst hp; exact fun t q => k t (XS.iloadN X.here hx rfl hd hl q)
theorem iload {i : Nat} {v : Int32} (k : Goes p e below S G T (mkF m pc Ls St)) (X : Stand p l e R s m args below meth c T locs cells slots) (hx : p.tables.exec = Jvm.exec) (hd : decode c.code pc = .ok (.iload i, 2)) (hl : Ls[i]? = some (.val (.int v))) (hp : pc + 2 = pc') : Goes p e below S G T (mkF m pc' Ls (.int v :: St)) := by
  subst hp; exact fun t q => k t (XS.iload X.here hx rfl hd hl q)
theorem lloadN {i : Fin 4} {v : Int64} (k : Goes p e below S G T (mkF m pc Ls St)) (X : Stand p l e R s m args below meth c T locs cells slots) (hx : p.tables.exec = Jvm.exec) (hd : decode c.code pc = .ok (.lload_n i, 1)) (hl : Ls[i.val]? = some (.val (.long v))) (hp : pc + 1 = pc') : Goes p e below S G T (mkF m pc' Ls (.long v :: St)) := by
  subst hp; exact fun t q => k t (XS.lloadN X.here hx rfl hd hl q)
theorem lload {i : Nat} {v : Int64} (k : Goes p e below S G T (mkF m pc Ls St)) (X : Stand p l e R s m args below meth c T locs cells slots) (hx : p.tables.exec = Jvm.exec) (hd : decode c.code pc = .ok (.lload i, 2)) (hl : Ls[i]? = some (.val (.long v))) (hp : pc + 2 = pc') : Goes p e below S G T (mkF m pc' Ls (.long v :: St)) := by
  subst hp; exact fun t q => k t (XS.lload X.here hx rfl hd hl q)
theorem aloadN {i : Fin 4} {v : Value} (k : Goes p e below S G T (mkF m pc Ls St)) (X : Stand p l e R s m args below meth c T locs cells slots) (hx : p.tables.exec = Jvm.exec) (hd : decode c.code pc = .ok (.aload_n i, 1)) (hl : Ls[i.val]? = some (.val v)) (hv : v.isRef = true) (hp : pc + 1 = pc') : Goes p e below S G T (mkF m pc' Ls (v :: St)) := by
  subst hp; exact fun t q => k t (XS.aloadN X.here hx rfl hd hl hv q)
theorem aload {i : Nat} {v : Value} (k : Goes p e below S G T (mkF m pc Ls St)) (X : Stand p l e R s m args below meth c T locs cells slots) (hx : p.tables.exec = Jvm.exec) (hd : decode c.code pc = .ok (.aload i, 2)) (hl : Ls[i]? = some (.val v)) (hv : v.isRef = true) (hp : pc + 2 = pc') : Goes p e below S G T (mkF m pc' Ls (v :: St)) := by
  subst hp; exact fun t q => k t (XS.aload X.here hx rfl hd hl hv q)
theorem istoreN {i : Fin 4} {v : Int32} {Ls' : Array Slot} (k : Goes p e below S G T (mkF m pc Ls (.int v :: St))) (X : Stand p l e R s m args below meth c T locs cells slots) (hx : p.tables.exec = Jvm.exec) (hd : decode c.code pc = .ok (.istore_n i, 1)) (hl : storeLocals Ls i.val (.int v) = some Ls') (hp : pc + 1 = pc') : Goes p e below S G T (mkF m pc' Ls' St) := by
  subst hp; exact fun t q => k t (XS.istoreN X.here hx rfl hd rfl hl q)
theorem istore {i : Nat} {v : Int32} {Ls' : Array Slot} (k : Goes p e below S G T (mkF m pc Ls (.int v :: St))) (X : Stand p l e R s m args below meth c T locs cells slots) (hx : p.tables.exec = Jvm.exec) (hd : decode c.code pc = .ok (.istore i, 2)) (hl : storeLocals Ls i (.int v) = some Ls') (hp : pc + 2 = pc') : Goes p e below S G T (mkF m pc' Ls' St) := by
  subst hp; exact fun t q => k t (XS.istore X.here hx rfl hd rfl hl q)
theorem lstoreN {i : Fin 4} {v : Int64} {Ls' : Array Slot} (k : Goes p e below S G T (mkF m pc Ls (.long v :: St))) (X : Stand p l e R s m args below meth c T locs cells slots) (hx : p.tables.exec = Jvm.exec) (hd : decode c.code pc = .ok (.lstore_n i, 1)) (hl : storeLocals Ls i.val (.long v) = some Ls') (hp : pc + 1 = pc') : Goes p e below S G T (mkF m pc' Ls' St) := by
  subst hp; exact fun t q => k t (XS.lstoreN X.here hx rfl hd rfl hl q)
theorem lstore {i : Nat} {v : Int64} {Ls' : Array Slot} (k : Goes p e below S G T (mkF m pc Ls (.long v :: St))) (X : Stand p l e R s m args below meth c T locs cells slots) (hx : p.tables.exec = Jvm.exec) (hd : decode c.code pc = .ok (.lstore i, 2)) (hl : storeLocals Ls i (.long v) = some Ls') (hp : pc + 2 = pc') : Goes p e below S G T (mkF m pc' Ls' St) := by
  subst hp; exact fun t q => k t (XS.lstore X.here hx rfl hd rfl hl q)
theorem astoreN {i : Fin 4} {v : Value} {Ls' : Array Slot} (k : Goes p e below S G T (mkF m pc Ls (v :: St))) (X : Stand p l e R s m args below meth c T locs cells slots) (hx : p.tables.exec = Jvm.exec) (hd : decode c.code pc = .ok (.astore_n i, 1)) (hv : v.isRef = true) (hl : storeLocals Ls i.val v = some Ls') (hp : pc + 1 = pc') : Goes p e below S G T (mkF m pc' Ls' St) := by
  subst hp; exact fun t q => k t (XS.astoreN X.here hx rfl hd rfl hv hl q)
theorem astore {i : Nat} {v : Value} {Ls' : Array Slot} (k : Goes p e below S G T (mkF m pc Ls (v :: St))) (X : Stand p l e R s m args below meth c T locs cells slots) (hx : p.tables.exec = Jvm.exec) (hd : decode c.code pc = .ok (.astore i, 2)) (hv : v.isRef = true) (hl : storeLocals Ls i v = some Ls') (hp : pc + 2 = pc') : Goes p e below S G T (mkF m pc' Ls' St) := by
  subst hp; exact fun t q => k t (XS.astore X.here hx rfl hd rfl hv hl q)
theorem iconst {i : Int} {z : Int32} (k : Goes p e below S G T (mkF m pc Ls St)) (X : Stand p l e R s m args below meth c T locs cells slots) (hx : p.tables.exec = Jvm.exec) (hd : decode c.code pc = .ok (.iconst i, 1)) (hz : Int32.ofInt i = z) (hp : pc + 1 = pc') : Goes p e below S G T (mkF m pc' Ls (.int z :: St)) := by
  subst hp; exact fun t q => k t (XS.iconst X.here hx rfl hd (hz ▸ q))
theorem bipush {i : Int} {z : Int32} (k : Goes p e below S G T (mkF m pc Ls St)) (X : Stand p l e R s m args below meth c T locs cells slots) (hx : p.tables.exec = Jvm.exec) (hd : decode c.code pc = .ok (.bipush i, 2)) (hz : (Int8.ofInt i).toInt32 = z) (hp : pc + 2 = pc') : Goes p e below S G T (mkF m pc' Ls (.int z :: St)) := by
  subst hp; exact fun t q => k t (XS.bipush X.here hx rfl hd (hz ▸ q))
theorem sipush {i : Int} {z : Int32} (k : Goes p e below S G T (mkF m pc Ls St)) (X : Stand p l e R s m args below meth c T locs cells slots) (hx : p.tables.exec = Jvm.exec) (hd : decode c.code pc = .ok (.sipush i, 3)) (hz : (Int16.ofInt i).toInt32 = z) (hp : pc + 3 = pc') : Goes p e below S G T (mkF m pc' Ls (.int z :: St)) := by
  subst hp; exact fun t q => k t (XS.sipush X.here hx rfl hd (hz ▸ q))
theorem lconst {i : Fin 2} {z : Int64} (k : Goes p e below S G T (mkF m pc Ls St)) (X : Stand p l e R s m args below meth c T locs cells slots) (hx : p.tables.exec = Jvm.exec) (hd : decode c.code pc = .ok (.lconst i, 1)) (hz : Int64.ofNat i = z) (hp : pc + 1 = pc') : Goes p e below S G T (mkF m pc' Ls (.long z :: St)) := by
  subst hp; exact fun t q => k t (XS.lconst X.here hx rfl hd (hz ▸ q))
theorem aconstNull  (k : Goes p e below S G T (mkF m pc Ls St)) (X : Stand p l e R s m args below meth c T locs cells slots) (hx : p.tables.exec = Jvm.exec) (hd : decode c.code pc = .ok (.aconst_null, 1)) (hp : pc + 1 = pc') : Goes p e below S G T (mkF m pc' Ls (.null :: St)) := by
  subst hp; exact fun t q => k t (XS.aconstNull X.here hx rfl hd q)
theorem iadd {x y z : Int32} (k : Goes p e below S G T (mkF m pc Ls (.int y :: .int x :: St))) (X : Stand p l e R s m args below meth c T locs cells slots) (hx : p.tables.exec = Jvm.exec) (hd : decode c.code pc = .ok (.iadd, 1)) (hz : x + y = z) (hp : pc + 1 = pc') : Goes p e below S G T (mkF m pc' Ls (.int z :: St)) := by
  subst hp; exact fun t q => k t (XS.iadd X.here hx rfl hd rfl (hz ▸ q))
theorem ladd {x y z : Int64} (k : Goes p e below S G T (mkF m pc Ls (.long y :: .long x :: St))) (X : Stand p l e R s m args below meth c T locs cells slots) (hx : p.tables.exec = Jvm.exec) (hd : decode c.code pc = .ok (.ladd, 1)) (hz : x + y = z) (hp : pc + 1 = pc') : Goes p e below S G T (mkF m pc' Ls (.long z :: St)) := by
  subst hp; exact fun t q => k t (XS.ladd X.here hx rfl hd rfl (hz ▸ q))
theorem isub {x y z : Int32} (k : Goes p e below S G T (mkF m pc Ls (.int y :: .int x :: St))) (X : Stand p l e R s m args below meth c T locs cells slots) (hx : p.tables.exec = Jvm.exec) (hd : decode c.code pc = .ok (.isub, 1)) (hz : x - y = z) (hp : pc + 1 = pc') : Goes p e below S G T (mkF m pc' Ls (.int z :: St)) := by
  subst hp; exact fun t q => k t (XS.isub X.here hx rfl hd rfl (hz ▸ q))
theorem lsub {x y z : Int64} (k : Goes p e below S G T (mkF m pc Ls (.long y :: .long x :: St))) (X : Stand p l e R s m args below meth c T locs cells slots) (hx : p.tables.exec = Jvm.exec) (hd : decode c.code pc = .ok (.lsub, 1)) (hz : x - y = z) (hp : pc + 1 = pc') : Goes p e below S G T (mkF m pc' Ls (.long z :: St)) := by
  subst hp; exact fun t q => k t (XS.lsub X.here hx rfl hd rfl (hz ▸ q))
theorem imul {x y z : Int32} (k : Goes p e below S G T (mkF m pc Ls (.int y :: .int x :: St))) (X : Stand p l e R s m args below meth c T locs cells slots) (hx : p.tables.exec = Jvm.exec) (hd : decode c.code pc = .ok (.imul, 1)) (hz : x * y = z) (hp : pc + 1 = pc') : Goes p e below S G T (mkF m pc' Ls (.int z :: St)) := by
  subst hp; exact fun t q => k t (XS.imul X.here hx rfl hd rfl (hz ▸ q))
theorem lmul {x y z : Int64} (k : Goes p e below S G T (mkF m pc Ls (.long y :: .long x :: St))) (X : Stand p l e R s m args below meth c T locs cells slots) (hx : p.tables.exec = Jvm.exec) (hd : decode c.code pc = .ok (.lmul, 1)) (hz : x * y = z) (hp : pc + 1 = pc') : Goes p e below S G T (mkF m pc' Ls (.long z :: St)) := by
  subst hp; exact fun t q => k t (XS.lmul X.here hx rfl hd rfl (hz ▸ q))
theorem iand {x y z : Int32} (k : Goes p e below S G T (mkF m pc Ls (.int y :: .int x :: St))) (X : Stand p l e R s m args below meth c T locs cells slots) (hx : p.tables.exec = Jvm.exec) (hd : decode c.code pc = .ok (.iand, 1)) (hz : x &&& y = z) (hp : pc + 1 = pc') : Goes p e below S G T (mkF m pc' Ls (.int z :: St)) := by
  subst hp; exact fun t q => k t (XS.iand X.here hx rfl hd rfl (hz ▸ q))
theorem land {x y z : Int64} (k : Goes p e below S G T (mkF m pc Ls (.long y :: .long x :: St))) (X : Stand p l e R s m args below meth c T locs cells slots) (hx : p.tables.exec = Jvm.exec) (hd : decode c.code pc = .ok (.land, 1)) (hz : x &&& y = z) (hp : pc + 1 = pc') : Goes p e below S G T (mkF m pc' Ls (.long z :: St)) := by
  subst hp; exact fun t q => k t (XS.land X.here hx rfl hd rfl (hz ▸ q))
theorem ior {x y z : Int32} (k : Goes p e below S G T (mkF m pc Ls (.int y :: .int x :: St))) (X : Stand p l e R s m args below meth c T locs cells slots) (hx : p.tables.exec = Jvm.exec) (hd : decode c.code pc = .ok (.ior, 1)) (hz : x ||| y = z) (hp : pc + 1 = pc') : Goes p e below S G T (mkF m pc' Ls (.int z :: St)) := by
  subst hp; exact fun t q => k t (XS.ior X.here hx rfl hd rfl (hz ▸ q))
theorem lor {x y z : Int64} (k : Goes p e below S G T (mkF m pc Ls (.long y :: .long x :: St))) (X : Stand p l e R s m args below meth c T locs cells slots) (hx : p.tables.exec = Jvm.exec) (hd : decode c.code pc = .ok (.lor, 1)) (hz : x ||| y = z) (hp : pc + 1 = pc') : Goes p e below S G T (mkF m pc' Ls (.long z :: St)) := by
  subst hp; exact fun t q => k t (XS.lor X.here hx rfl hd rfl (hz ▸ q))
theorem ixor {x y z : Int32} (k : Goes p e below S G T (mkF m pc Ls (.int y :: .int x :: St))) (X : Stand p l e R s m args below meth c T locs cells slots) (hx : p.tables.exec = Jvm.exec) (hd : decode c.code pc = .ok (.ixor, 1)) (hz : x ^^^ y = z) (hp : pc + 1 = pc') : Goes p e below S G T (mkF m pc' Ls (.int z :: St)) := by
  subst hp; exact fun t q => k t (XS.ixor X.here hx rfl hd rfl (hz ▸ q))
theorem lxor {x y z : Int64} (k : Goes p e below S G T (mkF m pc Ls (.long y :: .long x :: St))) (X : Stand p l e R s m args below meth c T locs cells slots) (hx : p.tables.exec = Jvm.exec) (hd : decode c.code pc = .ok (.lxor, 1)) (hz : x ^^^ y = z) (hp : pc + 1 = pc') : Goes p e below S G T (mkF m pc' Ls (.long z :: St)) := by
  subst hp; exact fun t q => k t (XS.lxor X.here hx rfl hd rfl (hz ▸ q))
theorem ineg {x : Int32} {z : Int32} (k : Goes p e below S G T (mkF m pc Ls (.int x :: St))) (X : Stand p l e R s m args below meth c T locs cells slots) (hx : p.tables.exec = Jvm.exec) (hd : decode c.code pc = .ok (.ineg, 1)) (hz : -x = z) (hp : pc + 1 = pc') : Goes p e below S G T (mkF m pc' Ls (.int z :: St)) := by
  subst hp; exact fun t q => k t (XS.ineg X.here hx rfl hd rfl (hz ▸ q))
theorem lneg {x : Int64} {z : Int64} (k : Goes p e below S G T (mkF m pc Ls (.long x :: St))) (X : Stand p l e R s m args below meth c T locs cells slots) (hx : p.tables.exec = Jvm.exec) (hd : decode c.code pc = .ok (.lneg, 1)) (hz : -x = z) (hp : pc + 1 = pc') : Goes p e below S G T (mkF m pc' Ls (.long z :: St)) := by
  subst hp; exact fun t q => k t (XS.lneg X.here hx rfl hd rfl (hz ▸ q))
theorem i2l {x : Int32} {z : Int64} (k : Goes p e below S G T (mkF m pc Ls (.int x :: St))) (X : Stand p l e R s m args below meth c T locs cells slots) (hx : p.tables.exec = Jvm.exec) (hd : decode c.code pc = .ok (.i2l, 1)) (hz : x.toInt64 = z) (hp : pc + 1 = pc') : Goes p e below S G T (mkF m pc' Ls (.long z :: St)) := by
  subst hp; exact fun t q => k t (XS.i2l X.here hx rfl hd rfl (hz ▸ q))
theorem l2i {x : Int64} {z : Int32} (k : Goes p e below S G T (mkF m pc Ls (.long x :: St))) (X : Stand p l e R s m args below meth c T locs cells slots) (hx : p.tables.exec = Jvm.exec) (hd : decode c.code pc = .ok (.l2i, 1)) (hz : x.toInt32 = z) (hp : pc + 1 = pc') : Goes p e below S G T (mkF m pc' Ls (.int z :: St)) := by
  subst hp; exact fun t q => k t (XS.l2i X.here hx rfl hd rfl (hz ▸ q))
theorem i2b {x : Int32} {z : Int32} (k : Goes p e below S G T (mkF m pc Ls (.int x :: St))) (X : Stand p l e R s m args below meth c T locs cells slots) (hx : p.tables.exec = Jvm.exec) (hd : decode c.code pc = .ok (.i2b, 1)) (hz : x.toInt8.toInt32 = z) (hp : pc + 1 = pc') : Goes p e below S G T (mkF m pc' Ls (.int z :: St)) := by
  subst hp; exact fun t q => k t (XS.i2b X.here hx rfl hd rfl (hz ▸ q))
theorem i2s {x : Int32} {z : Int32} (k : Goes p e below S G T (mkF m pc Ls (.int x :: St))) (X : Stand p l e R s m args below meth c T locs cells slots) (hx : p.tables.exec = Jvm.exec) (hd : decode c.code pc = .ok (.i2s, 1)) (hz : x.toInt16.toInt32 = z) (hp : pc + 1 = pc') : Goes p e below S G T (mkF m pc' Ls (.int z :: St)) := by
  subst hp; exact fun t q => k t (XS.i2s X.here hx rfl hd rfl (hz ▸ q))
theorem i2c {x : Int32} {z : Int32} (k : Goes p e below S G T (mkF m pc Ls (.int x :: St))) (X : Stand p l e R s m args below meth c T locs cells slots) (hx : p.tables.exec = Jvm.exec) (hd : decode c.code pc = .ok (.i2c, 1)) (hz : x.toUInt32.toUInt16.toUInt32.toInt32 = z) (hp : pc + 1 = pc') : Goes p e below S G T (mkF m pc' Ls (.int z :: St)) := by
  subst hp; exact fun t q => k t (XS.i2c X.here hx rfl hd rfl (hz ▸ q))
theorem ishl {x y z : Int32} (k : Goes p e below S G T (mkF m pc Ls (.int y :: .int x :: St))) (X : Stand p l e R s m args below meth c T locs cells slots) (hx : p.tables.exec = Jvm.exec) (hd : decode c.code pc = .ok (.ishl, 1)) (hz : x <<< (y &&& 31) = z) (hp : pc + 1 = pc') : Goes p e below S G T (mkF m pc' Ls (.int z :: St)) := by
  subst hp; exact fun t q => k t (XS.ishl X.here hx rfl hd rfl (hz ▸ q))
theorem ishr {x y z : Int32} (k : Goes p e below S G T (mkF m pc Ls (.int y :: .int x :: St))) (X : Stand p l e R s m args below meth c T locs cells slots) (hx : p.tables.exec = Jvm.exec) (hd : decode c.code pc = .ok (.ishr, 1)) (hz : x >>> (y &&& 31) = z) (hp : pc + 1 = pc') : Goes p e below S G T (mkF m pc' Ls (.int z :: St)) := by
  subst hp; exact fun t q => k t (XS.ishr X.here hx rfl hd rfl (hz ▸ q))
theorem iushr {x y z : Int32} (k : Goes p e below S G T (mkF m pc Ls (.int y :: .int x :: St))) (X : Stand p l e R s m args below meth c T locs cells slots) (hx : p.tables.exec = Jvm.exec) (hd : decode c.code pc = .ok (.iushr, 1)) (hz : (x.toUInt32 >>> (y &&& 31).toUInt32).toInt32 = z) (hp : pc + 1 = pc') : Goes p e below S G T (mkF m pc' Ls (.int z :: St)) := by
  subst hp; exact fun t q => k t (XS.iushr X.here hx rfl hd rfl (hz ▸ q))
theorem lshl {x z : Int64} {y : Int32} (k : Goes p e below S G T (mkF m pc Ls (.int y :: .long x :: St))) (X : Stand p l e R s m args below meth c T locs cells slots) (hx : p.tables.exec = Jvm.exec) (hd : decode c.code pc = .ok (.lshl, 1)) (hz : x <<< (y &&& 0x3f).toInt64 = z) (hp : pc + 1 = pc') : Goes p e below S G T (mkF m pc' Ls (.long z :: St)) := by
  subst hp; exact fun t q => k t (XS.lshl X.here hx rfl hd rfl (hz ▸ q))
theorem lshr {x z : Int64} {y : Int32} (k : Goes p e below S G T (mkF m pc Ls (.int y :: .long x :: St))) (X : Stand p l e R s m args below meth c T locs cells slots) (hx : p.tables.exec = Jvm.exec) (hd : decode c.code pc = .ok (.lshr, 1)) (hz : x >>> (y &&& 0x3f).toInt64 = z) (hp : pc + 1 = pc') : Goes p e below S G T (mkF m pc' Ls (.long z :: St)) := by
  subst hp; exact fun t q => k t (XS.lshr X.here hx rfl hd rfl (hz ▸ q))
theorem lushr {x z : Int64} {y : Int32} (k : Goes p e below S G T (mkF m pc Ls (.int y :: .long x :: St))) (X : Stand p l e R s m args below meth c T locs cells slots) (hx : p.tables.exec = Jvm.exec) (hd : decode c.code pc = .ok (.lushr, 1)) (hz : (x.toUInt64 >>> (y &&& 0x3f).toInt64.toUInt64).toInt64 = z) (hp : pc + 1 = pc') : Goes p e below S G T (mkF m pc' Ls (.long z :: St)) := by
  subst hp; exact fun t q => k t (XS.lushr X.here hx rfl hd rfl (hz ▸ q))
theorem idiv {x y z : Int32} (k : Goes p e below S G T (mkF m pc Ls (.int y :: .int x :: St))) (X : Stand p l e R s m args below meth c T locs cells slots) (hx : p.tables.exec = Jvm.exec) (hd : decode c.code pc = .ok (.idiv, 1)) (hy : y ≠ 0) (hz : x / y = z) (hp : pc + 1 = pc') : Goes p e below S G T (mkF m pc' Ls (.int z :: St)) := by
  subst hp; exact fun t q => k t (XS.idiv X.here hx rfl hd rfl hy (hz ▸ q))
theorem ldiv {x y z : Int64} (k : Goes p e below S G T (mkF m pc Ls (.long y :: .long x :: St))) (X : Stand p l e R s m args below meth c T locs cells slots) (hx : p.tables.exec = Jvm.exec) (hd : decode c.code pc = .ok (.ldiv, 1)) (hy : y ≠ 0) (hz : x / y = z) (hp : pc + 1 = pc') : Goes p e below S G T (mkF m pc' Ls (.long z :: St)) := by
  subst hp; exact fun t q => k t (XS.ldiv X.here hx rfl hd rfl hy (hz ▸ q))
theorem irem {x y z : Int32} (k : Goes p e below S G T (mkF m pc Ls (.int y :: .int x :: St))) (X : Stand p l e R s m args below meth c T locs cells slots) (hx : p.tables.exec = Jvm.exec) (hd : decode c.code pc = .ok (.irem, 1)) (hy : y ≠ 0) (hz : x % y = z) (hp : pc + 1 = pc') : Goes p e below S G T (mkF m pc' Ls (.int z :: St)) := by
  subst hp; exact fun t q => k t (iremM X hx rfl hd rfl hy (hz ▸ q))
theorem lrem {x y z : Int64} (k : Goes p e below S G T (mkF m pc Ls (.long y :: .long x :: St))) (X : Stand p l e R s m args below meth c T locs cells slots) (hx : p.tables.exec = Jvm.exec) (hd : decode c.code pc = .ok (.lrem, 1)) (hy : y ≠ 0) (hz : x % y = z) (hp : pc + 1 = pc') : Goes p e below S G T (mkF m pc' Ls (.long z :: St)) := by
  subst hp; exact fun t q => k t (XS.lrem X.here hx rfl hd rfl hy (by rw [lrem_mod]; exact hz ▸ q))
theorem lcmp {x y : Int64} (k : Goes p e below S G T (mkF m pc Ls (.long y :: .long x :: St))) (X : Stand p l e R s m args below meth c T locs cells slots) (hx : p.tables.exec = Jvm.exec) (hd : decode c.code pc = .ok (.lcmp, 1)) (hp : pc + 1 = pc') : Goes p e below S G T (mkF m pc' Ls (.int (lcmpW x y) :: St)) := by
  subst hp; exact fun t q => k t (XS.lcmp X.here hx rfl hd rfl q)
theorem iinc {i : Nat} {cst : Int} {x z : Int32} {Ls' : Array Slot} (k : Goes p e below S G T (mkF m pc Ls St)) (X : Stand p l e R s m args below meth c T locs cells slots) (hx : p.tables.exec = Jvm.exec) (hd : decode c.code pc = .ok (.iinc i cst, 3)) (hl : Ls[i]? = some (.val (.int x))) (hz : x + Int32.ofInt cst = z) (hl' : storeLocals Ls i (.int z) = some Ls') (hp : pc + 3 = pc') : Goes p e below S G T (mkF m pc' Ls' St) := by
  subst hp; exact fun t q => k t (XS.iinc X.here hx rfl hd hl (hz ▸ hl') q)
theorem dup {v : Value} (k : Goes p e below S G T (mkF m pc Ls (v :: St))) (X : Stand p l e R s m args below meth c T locs cells slots) (hx : p.tables.exec = Jvm.exec) (hd : decode c.code pc = .ok (.dup, 1)) (hc : v.category = 1) (hp : pc + 1 = pc') : Goes p e below S G T (mkF m pc' Ls (v :: v :: St)) := by
  subst hp; exact fun t q => k t (XS.dup X.here hx rfl hd rfl hc q)
theorem dupX1 {v w : Value} (k : Goes p e below S G T (mkF m pc Ls (v :: w :: St))) (X : Stand p l e R s m args below meth c T locs cells slots) (hx : p.tables.exec = Jvm.exec) (hd : decode c.code pc = .ok (.dup_x1, 1)) (hc : v.category = 1) (hc' : w.category = 1) (hp : pc + 1 = pc') : Goes p e below S G T (mkF m pc' Ls (v :: w :: v :: St)) := by
  subst hp; exact fun t q => k t (XS.dupX1 X.here hx rfl hd rfl hc hc' q)
theorem pop {v : Value} (k : Goes p e below S G T (mkF m pc Ls (v :: St))) (X : Stand p l e R s m args below meth c T locs cells slots) (hx : p.tables.exec = Jvm.exec) (hd : decode c.code pc = .ok (.pop, 1)) (hc : v.category = 1) (hp : pc + 1 = pc') : Goes p e below S G T (mkF m pc' Ls St) := by
  subst hp; exact fun t q => k t (XS.pop X.here hx rfl hd rfl hc q)
theorem goto {o : Int} (k : Goes p e below S G T (mkF m pc Ls St)) (X : Stand p l e R s m args below meth c T locs cells slots) (hx : p.tables.exec = Jvm.exec) (hd : decode c.code pc = .ok (.goto o, 3)) (ho : 0 ≤ (pc : Int) + o) (hp : ((pc : Int) + o).toNat = pc') : Goes p e below S G T (mkF m pc' Ls St) := fun t q => k t (XS.goto X.here hx rfl rfl hd ho hp q)
theorem ifYes {o : Int} {cd : ClassFile.Cond} {x : Int32} (k : Goes p e below S G T (mkF m pc Ls (.int x :: St))) (X : Stand p l e R s m args below meth c T locs cells slots) (hx : p.tables.exec = Jvm.exec) (hd : decode c.code pc = .ok (.ifCond cd o, 3)) (hc : ifCond.holds cd x = true) (ho : 0 ≤ (pc : Int) + o) (hp : ((pc : Int) + o).toNat = pc') : Goes p e below S G T (mkF m pc' Ls St) := fun t q => k t (XS.ifYes X.here hx rfl rfl hd rfl hc ho hp q)
theorem ifNo {o : Int} {cd : ClassFile.Cond} {x : Int32} (k : Goes p e below S G T (mkF m pc Ls (.int x :: St))) (X : Stand p l e R s m args below meth c T locs cells slots) (hx : p.tables.exec = Jvm.exec) (hd : decode c.code pc = .ok (.ifCond cd o, 3)) (hc : ifCond.holds cd x = false) (hp : pc + 3 = pc') : Goes p e below S G T (mkF m pc' Ls St) := fun t q => k t (XS.ifNo X.here hx rfl hd rfl hc (by subst hp; exact q))
theorem icmpYes {o : Int} {cd : ClassFile.Cond} {x y : Int32} (k : Goes p e below S G T (mkF m pc Ls (.int y :: .int x :: St))) (X : Stand p l e R s m args below meth c T locs cells slots) (hx : p.tables.exec = Jvm.exec) (hd : decode c.code pc = .ok (.if_icmp cd o, 3)) (hc : if_icmp.holds cd x y = true) (ho : 0 ≤ (pc : Int) + o) (hp : ((pc : Int) + o).toNat = pc') : Goes p e below S G T (mkF m pc' Ls St) := fun t q => k t (XS.icmpYes X.here hx rfl rfl hd rfl hc ho hp q)
theorem icmpNo {o : Int} {cd : ClassFile.Cond} {x y : Int32} (k : Goes p e below S G T (mkF m pc Ls (.int y :: .int x :: St))) (X : Stand p l e R s m args below meth c T locs cells slots) (hx : p.tables.exec = Jvm.exec) (hd : decode c.code pc = .ok (.if_icmp cd o, 3)) (hc : if_icmp.holds cd x y = false) (hp : pc + 3 = pc') : Goes p e below S G T (mkF m pc' Ls St) := fun t q => k t (XS.icmpNo X.here hx rfl hd rfl hc (by subst hp; exact q))
theorem ifnullYes {o : Int} (k : Goes p e below S G T (mkF m pc Ls (.null :: St))) (X : Stand p l e R s m args below meth c T locs cells slots) (hx : p.tables.exec = Jvm.exec) (hd : decode c.code pc = .ok (.ifnull o, 3)) (ho : 0 ≤ (pc : Int) + o) (hp : ((pc : Int) + o).toNat = pc') : Goes p e below S G T (mkF m pc' Ls St) := fun t q => k t (XS.ifnullYes X.here hx rfl rfl hd rfl ho hp q)
theorem ifnullNo {o : Int} {b : Addr} (k : Goes p e below S G T (mkF m pc Ls (.ref b :: St))) (X : Stand p l e R s m args below meth c T locs cells slots) (hx : p.tables.exec = Jvm.exec) (hd : decode c.code pc = .ok (.ifnull o, 3)) (hp : pc + 3 = pc') : Goes p e below S G T (mkF m pc' Ls St) := fun t q => k t (XS.ifnullNo X.here hx rfl hd rfl (by subst hp; exact q))
theorem ifnonnullYes {o : Int} {b : Addr} (k : Goes p e below S G T (mkF m pc Ls (.ref b :: St))) (X : Stand p l e R s m args below meth c T locs cells slots) (hx : p.tables.exec = Jvm.exec) (hd : decode c.code pc = .ok (.ifnonnull o, 3)) (ho : 0 ≤ (pc : Int) + o) (hp : ((pc : Int) + o).toNat = pc') : Goes p e below S G T (mkF m pc' Ls St) := fun t q => k t (XS.ifnonnullYes X.here hx rfl rfl hd rfl ho hp q)
theorem ifnonnullNo {o : Int} (k : Goes p e below S G T (mkF m pc Ls (.null :: St))) (X : Stand p l e R s m args below meth c T locs cells slots) (hx : p.tables.exec = Jvm.exec) (hd : decode c.code pc = .ok (.ifnonnull o, 3)) (hp : pc + 3 = pc') : Goes p e below S G T (mkF m pc' Ls St) := fun t q => k t (XS.ifnonnullNo X.here hx rfl hd rfl (by subst hp; exact q))
theorem acmp {cd : ACond} {x y : Value} {o : Int} (k : Goes p e below S G T (mkF m pc Ls (y :: x :: St))) (X : Stand p l e R s m args below meth c T locs cells slots) (hx : p.tables.exec = Jvm.exec) (hd : decode c.code pc = .ok (.if_acmp cd o, 3)) (h1 : x.isRef = true) (h2 : y.isRef = true) (same : Bool) (hq : decide (x = y) = same) (ho : 0 ≤ (pc : Int) + o) (hp : pc' = if acV cd same = true then ((pc : Int) + o).toNat else pc + 3) : Goes p e below S G T (mkF m pc' Ls St) := fun t q => k t (Jvm.RoadKit.acmp (g := mkF m pc Ls (y :: x :: St)) X hx rfl h1 h2 rfl hd rfl hq ho hp q)
theorem tsw {dflt low high : Int} {offs : Array Int} {len : Nat} {o : Int} {i : Int32} (k : Goes p e below S G T (mkF m pc Ls (.int i :: St))) (X : Stand p l e R s m args below meth c T locs cells slots) (hx : p.tables.exec = Jvm.exec) (hd : decode c.code pc = .ok (.tableswitch dflt low high offs, len)) (hin : ¬ (i.toInt < low ∨ i.toInt > high)) (hoff : offs[(i.toInt - low).toNat]? = some o) (ho : 0 ≤ (pc : Int) + o) (hp : ((pc : Int) + o).toNat = pc') : Goes p e below S G T (mkF m pc' Ls St) := fun t q => k t (XS.tswIn X.here hx rfl rfl hd rfl hin hoff ho hp q)
end Jvm.Own.Fw
namespace Jvm.Pilot.@@N@@
open Jvm Jvm.ClassFile Sem Op Lib Jvm.Free Jvm.Stand Jvm.LawKit Jvm.RoadKit Jvm.Own Bundle Jvm.Pilot.@@N@@.Jvm.D
theorem own_fld {args : Array Value} {s : State} {t : Term} {C n d : String} {x : Addr} {k : Int32} (ev : t.eval args s none [] s = some (.ref x)) (h : (Jvm.Cond.eq (.field t C n d) (.int k)).value args s none s [] = some true) : Fld s s.heap x C n d (.int k) := by
  obtain ⟨u, w, e1, e2, K1, K2⟩ := cmp_v (Or.inl h)
  obtain rfl : w = .int k := (Option.some.inj e2).symm
  obtain ⟨z, rfl⟩ := K2
  have hz : z = k := by simpa [Cond.value, e1, e2] using h
  subst hz
  rw [fld_at ev] at e1
  exact Fld.start e1
theorem own_asym {p : Int32} (h : (0 : Int32) < p) : ¬ p < 0 := by
  rw [Int32.lt_iff_toInt_lt] at *
  omega
theorem d_jdk_37_method_2_0 : decode jdk_37_method_2_code 0 = .ok (.aload_n 0, 1) := by decide +kernel
theorem d_jdk_37_method_2_1 : decode jdk_37_method_2_code 1 = .ok (.getfield 7, 3) := by decide +kernel
theorem d_jdk_37_method_2_4 : decode jdk_37_method_2_code 4 = .ok (.ireturn, 1) := by decide +kernel
theorem pn_Enum : plainName "java/lang/Enum" = true := by first | (simp [plainName, overriddenIn]; done) | decide +kernel
theorem ef_R_1 (m : MethodId) (x0 : Addr) : entryFrame m #[(.ref x0)] 1 = mkF m 0 #[.val (.ref x0)] [] := by first | (simp [entryFrame, mkF, argsToLocals, Value.category]; done) | rfl
def Q_ord (Z : State) (a1 : Addr) (p1 : Int32) (h0 : Heap) (n0 : Nat) (v : Option Value) (h : Heap) (L : List Loc) : Prop := v = some (.int p1) ∧ Fr n0 L ∧ h = h0
set_option maxRecDepth 65536 in
set_option maxHeartbeats 40000000 in
theorem rm_ord (l : Launch) (Z : State) (a0 : Array Value) (hw : ∀ d ∈ tables_1, d.before a0 Z = true) (ws : List Jvm.Cond) (a1 : Addr) (p1 : Int32) (h0 : Heap) (n0 : Nat) (O0 : Old Z n0 h0) (F1 : Fld Z h0 a1 "java/lang/Enum" "ordinal" "I" (.int p1)) :
    MetFree l (⟨"java/lang/Enum", "ordinal", "()I"⟩ : MethodName) (head1 (Jvm.Cond.code (⟨"java/lang/Enum", "ordinal", "()I"⟩ : MethodName) jdk_37_method_2_code 1 (some .int) :: ws) ({ frames := 0, cells := 0, slots := 0, locals := 0 } : Room)) (fun a U => a = #[(.ref a1)] ∧ Z.Warmed39 U.vm ∧ U.heap = h0) (fun _ _ _ _ _ => True) (fun _ U o U' => ∃ v L, o = .returned v ∧ Q_ord Z a1 p1 h0 n0 v U'.heap L ∧ FrameEnd U o U' L ({ frames := 0, cells := 0, slots := 0, locals := 0 } : Room).cells ({ frames := 0, cells := 0, slots := 0, locals := 0 } : Room).slots) := by
  refine MetFree.of_bodySF (plainFor_of_name pn_Enum) hisR ?_
  intro p e s m args below meth c s₁ Bd hml0 hP hK
  obtain ⟨rfl, hZ, hh⟩ := hP
  have hx := Bd.exec
  have hby := Bd.bytes
  have hml : c.maxLocals = 1 := hml0
  have hown : s.vm.findClass "java/lang/Enum" = some m.cls := findClass_of_methodNamed Bd.named
  have hnm := (name_of_methodNamed Bd.named Bd.method).1
  have X0 : Stand p l e ({ frames := 0, cells := 0, slots := 0, locals := 0 } : Room) s m #[(.ref a1)] below meth c s₁ [] 0 0 := Stand.of_body Bd
  have e0 : s₁.heap = h0 := by rw [← hh, Bd.state]; rfl
  have N0 := Fr.nil n0
  obtain ⟨G0, hG0⟩ : ∃ z, z = (mkF m 0 #[.val (.ref a1)] []) := ⟨_, rfl⟩
  have pre0 : ∀ t, Steps p.tables e below (s₁.setTop G0) t → Steps p.tables e below (s₁.setTop (entryFrame m #[(.ref a1)] 1)) t := fun t k => castTop (ef_R_1 m a1) (hG0 ▸ k)
  have k : Goes p e below s₁ G0 s₁ (mkF m 0 #[.val (.ref a1)] []) := fun t q => hG0 ▸ q
  replace k := Fw.aloadN k X0 hx (hb hby d_jdk_37_method_2_0) rfl rfl (pc' := 1) rfl
  obtain ⟨T1, X1, e1, st1⟩ := getF X0 hx hZ hown (host := "") (Or.inl (hw _ (List.mem_of_getElem? (i := 15) rfl))) Via.refl e0 F1 (g := (mkF m 1 #[.val (.ref a1)] [(.ref a1)])) rfl rfl (hb hby d_jdk_37_method_2_1)
  replace k : Goes p e below s₁ G0 T1 (mkF m 4 #[.val (.ref a1)] [(.int p1)]) := fun t q => k t (st1 _ q)
  obtain ⟨fs, hr, hrun, hended, hW, hsame⟩ := X1.leave (v := some (.int p1)) (fun h => by rw [Bd.returns] at h; cases h)
  refine ⟨_, _, pre0 _ (k _ ?_), hrun, hended, _, _, rfl, ?_, ⟨_, rfl⟩, hW, hsame.mono (by decide) (by decide)⟩
  · exact retI X1 hx Bd.returns (hb hby d_jdk_37_method_2_4) hr
  · show Q_ord Z a1 p1 h0 n0 _ T1.heap _
    rw [e1]
    exact ⟨rfl, N0, rfl⟩
theorem d_prog_19_method_5_0 : decode prog_19_method_5_code 0 = .ok (.aload_n 0, 1) := by decide +kernel
theorem d_prog_19_method_5_1 : decode prog_19_method_5_code 1 = .ok (.invokevirtual 39, 3) := by decide +kernel
theorem pd__r_I : parseMethodDescriptor "()I" = some ⟨[], some .int⟩ := by decide +kernel
theorem d_prog_19_method_5_4 : decode prog_19_method_5_code 4 = .ok (.tableswitch 32 0 3 #[42, 54, 66, 78], 32) := by decide +kernel
theorem d_prog_19_method_5_46 : decode prog_19_method_5_code 46 = .ok (.iload_n 1, 1) := by decide +kernel
theorem d_prog_19_method_5_47 : decode prog_19_method_5_code 47 = .ok (.ifCond .le 7, 3) := by decide +kernel
theorem d_prog_19_method_5_50 : decode prog_19_method_5_code 50 = .ok (.iconst 1, 1) := by decide +kernel
theorem d_prog_19_method_5_51 : decode prog_19_method_5_code 51 = .ok (.goto 40, 3) := by decide +kernel
theorem d_prog_19_method_5_91 : decode prog_19_method_5_code 91 = .ok (.ireturn, 1) := by decide +kernel
theorem d_prog_19_method_5_54 : decode prog_19_method_5_code 54 = .ok (.iconst 0, 1) := by decide +kernel
theorem d_prog_19_method_5_55 : decode prog_19_method_5_code 55 = .ok (.goto 36, 3) := by decide +kernel
theorem pn_Policy_Operator : plainName "com/example/fala/fala/engine/Policy$Operator" = true := by first | (simp [plainName, overriddenIn]; done) | decide +kernel
theorem ef_RI_2 (m : MethodId) (x0 : Addr) (x1 : Int32) : entryFrame m #[(.ref x0), (.int x1)] 2 = mkF m 0 #[.val (.ref x0), .val (.int x1)] [] := by first | (simp [entryFrame, mkF, argsToLocals, Value.category]; done) | rfl
def Q_ho0 (Z : State) (a1 : Addr) (p1 : Int32) (h0 : Heap) (n0 : Nat) (v : Option Value) (h : Heap) (L : List Loc) : Prop := v = some (.int (if 0 < p1 then 1 else 0)) ∧ Fr n0 L ∧ h = h0
set_option maxRecDepth 65536 in
set_option maxHeartbeats 40000000 in
theorem rm_ho0 (l : Launch) (Z : State) (a0 : Array Value) (hw : ∀ d ∈ tables_1, d.before a0 Z = true) (ws : List Jvm.Cond) (a1 : Addr) (p1 : Int32) (h0 : Heap) (n0 : Nat) (O0 : Old Z n0 h0) (E1 : Exa Z h0 a1 "com/example/fala/fala/engine/Policy$Operator") (F1 : Fld Z h0 a1 "java/lang/Enum" "ordinal" "I" (.int 0)) :
    MetFree l (⟨"com/example/fala/fala/engine/Policy$Operator", "holds", "(I)Z"⟩ : MethodName) (head1 (Jvm.Cond.code (⟨"com/example/fala/fala/engine/Policy$Operator", "holds", "(I)Z"⟩ : MethodName) prog_19_method_5_code 2 (some .boolean) :: ws) ({ frames := 1, cells := 0, slots := 0, locals := 12 } : Room)) (fun a U => a = #[(.ref a1), (.int p1)] ∧ Z.Warmed39 U.vm ∧ U.heap = h0) (fun _ _ _ _ _ => True) (fun _ U o U' => ∃ v L, o = .returned v ∧ Q_ho0 Z a1 p1 h0 n0 v U'.heap L ∧ FrameEnd U o U' L ({ frames := 1, cells := 0, slots := 0, locals := 12 } : Room).cells ({ frames := 1, cells := 0, slots := 0, locals := 12 } : Room).slots) := by
  refine MetFree.of_bodySF (plainFor_of_name pn_Policy_Operator) hisR ?_
  intro p e s m args below meth c s₁ Bd hml0 hP hK
  obtain ⟨rfl, hZ, hh⟩ := hP
  have hx := Bd.exec
  have hby := Bd.bytes
  have hml : c.maxLocals = 2 := hml0
  have hown : s.vm.findClass "com/example/fala/fala/engine/Policy$Operator" = some m.cls := findClass_of_methodNamed Bd.named
  have hnm := (name_of_methodNamed Bd.named Bd.method).1
  have X0 : Stand p l e ({ frames := 1, cells := 0, slots := 0, locals := 12 } : Room) s m #[(.ref a1), (.int p1)] below meth c s₁ [] 0 0 := Stand.of_body Bd
  have e0 : s₁.heap = h0 := by rw [← hh, Bd.state]; rfl
  have N0 := Fr.nil n0
  obtain ⟨G0, hG0⟩ : ∃ z, z = (mkF m 0 #[.val (.ref a1), .val (.int p1)] []) := ⟨_, rfl⟩
  have pre0 : ∀ t, Steps p.tables e below (s₁.setTop G0) t → Steps p.tables e below (s₁.setTop (entryFrame m #[(.ref a1), (.int p1)] 2)) t := fun t k => castTop (ef_RI_2 m a1 p1) (hG0 ▸ k)
  have k : Goes p e below s₁ G0 s₁ (mkF m 0 #[.val (.ref a1), .val (.int p1)] []) := fun t q => hG0 ▸ q
  replace k := Fw.aloadN k X0 hx (hb hby d_prog_19_method_5_0) rfl rfl (pc' := 1) rfl
  obtain ⟨cq1, kq1, q1a, q1b, q1c⟩ := isOf hZ e0 E1
  obtain ⟨_, _, ⟨T1, L1, k1, n1⟩, -, X1, ⟨Lc1, hQ1, l1, y1, z1⟩, st1⟩ := X0.virtualBackUp hx (x := (⟨"com/example/fala/fala/engine/Policy$Operator", "ordinal", "()I"⟩ : MethodName)) (y := (⟨"java/lang/Enum", "ordinal", "()I"⟩ : MethodName)) (owner := "java/lang/Enum") hown (mvT hZ (hw _ (List.mem_of_getElem? (i := 8) rfl))) (mvT hZ (hw _ (List.mem_of_getElem? (i := 9) rfl))) (mvT hZ (hw _ (List.mem_of_getElem? (i := 10) rfl))) (by decide) (mvT hZ (hw _ (List.mem_of_getElem? (i := 12) rfl))) (mvT hZ (hw _ (List.mem_of_getElem? (i := 11) rfl))) (backOf (W := 0) (rm_ord l Z a0 hw [] a1 _ h0 n0 O0 F1) hZ (hw _ (List.mem_of_getElem? (i := 14) rfl)) (hw _ (List.mem_of_getElem? (i := 13) rfl)) (by decide) (by decide)) q1a q1c (g := (mkF m 1 #[.val (.ref a1), .val (.int p1)] [(.ref a1)])) rfl (by rw [hml]; rfl) (Steps.refl _) (argsL := []) (rest := []) (lenOf pd__r_I rfl) rfl (by show 2 * 0 + _ ≤ _; exact Nat.le_of_eq rfl) (hb hby d_prog_19_method_5_1) (fun _ _ => ⟨rfl, e0, (by decide : 0 + 0 ≤ _), (by decide : 0 + 0 ≤ _)⟩)
  dsimp only [Pt.U, Pt.locs, Pt.cells, Pt.slots] at X1 l1 y1 z1 st1 hQ1
  subst l1 y1 z1
  obtain ⟨rfl, N1q, e1⟩ := hQ1
  have N1 := Fr.app N0 N1q
  replace k : Goes p e below s₁ G0 T1 (mkF m 4 #[.val (.ref a1), .val (.int p1)] [(.int 0)]) := fun t q => k t (st1.trans q)
  replace k := Fw.tsw k X1 hx (hb hby d_prog_19_method_5_4) (by decide) (o := 42) (by decide) (by decide) (pc' := 46) rfl
  replace k := Fw.iloadN k X1 hx (hb hby d_prog_19_method_5_46) rfl (pc' := 47) rfl
  by_cases hc47_2 : (0 : Int32) < p1
  · replace k := Fw.ifNo k X1 hx (hb hby d_prog_19_method_5_47) ((if0 _ _).trans (tlt hc47_2).2.2.2) (pc' := 50) rfl
    replace k := Fw.iconst k X1 hx (hb hby d_prog_19_method_5_50) (z := (1 : Int32)) (by decide) (pc' := 51) rfl
    replace k := Fw.goto k X1 hx (hb hby d_prog_19_method_5_51) (by decide) (pc' := 91) rfl
    obtain ⟨fs, hr, hrun, hended, hW, hsame⟩ := X1.leave (v := some (.int 1)) (fun h => by rw [Bd.returns] at h; cases h)
    refine ⟨_, _, pre0 _ (k _ ?_), hrun, hended, _, _, rfl, ?_, ⟨_, rfl⟩, hW, hsame.mono (by decide) (by decide)⟩
    · exact retN X1 hx (t := .boolean) Bd.returns (by simp) (hb hby d_prog_19_method_5_91) hr
    · show Q_ho0 Z a1 p1 h0 n0 _ T1.heap _
      rw [e1]
      refine ⟨?_, N1, rfl⟩
      simp [*]
  · replace k := Fw.ifYes k X1 hx (hb hby d_prog_19_method_5_47) ((if0 _ _).trans (flt hc47_2).2.2.2) (by decide) (pc' := 54) rfl
    replace k := Fw.iconst k X1 hx (hb hby d_prog_19_method_5_54) (z := (0 : Int32)) (by decide) (pc' := 55) rfl
    replace k := Fw.goto k X1 hx (hb hby d_prog_19_method_5_55) (by decide) (pc' := 91) rfl
    obtain ⟨fs, hr, hrun, hended, hW, hsame⟩ := X1.leave (v := some (.int 0)) (fun h => by rw [Bd.returns] at h; cases h)
    refine ⟨_, _, pre0 _ (k _ ?_), hrun, hended, _, _, rfl, ?_, ⟨_, rfl⟩, hW, hsame.mono (by decide) (by decide)⟩
    · exact retN X1 hx (t := .boolean) Bd.returns (by simp) (hb hby d_prog_19_method_5_91) hr
    · show Q_ho0 Z a1 p1 h0 n0 _ T1.heap _
      rw [e1]
      refine ⟨?_, N1, rfl⟩
      simp [*]
theorem d_prog_19_method_5_58 : decode prog_19_method_5_code 58 = .ok (.iload_n 1, 1) := by decide +kernel
theorem d_prog_19_method_5_59 : decode prog_19_method_5_code 59 = .ok (.ifCond .lt 7, 3) := by decide +kernel
theorem d_prog_19_method_5_66 : decode prog_19_method_5_code 66 = .ok (.iconst 0, 1) := by decide +kernel
theorem d_prog_19_method_5_67 : decode prog_19_method_5_code 67 = .ok (.goto 24, 3) := by decide +kernel
theorem d_prog_19_method_5_62 : decode prog_19_method_5_code 62 = .ok (.iconst 1, 1) := by decide +kernel
theorem d_prog_19_method_5_63 : decode prog_19_method_5_code 63 = .ok (.goto 28, 3) := by decide +kernel
def Q_ho1 (Z : State) (a1 : Addr) (p1 : Int32) (h0 : Heap) (n0 : Nat) (v : Option Value) (h : Heap) (L : List Loc) : Prop := v = some (.int (if p1 < 0 then 0 else 1)) ∧ Fr n0 L ∧ h = h0
set_option maxRecDepth 65536 in
set_option maxHeartbeats 40000000 in
theorem rm_ho1 (l : Launch) (Z : State) (a0 : Array Value) (hw : ∀ d ∈ tables_1, d.before a0 Z = true) (ws : List Jvm.Cond) (a1 : Addr) (p1 : Int32) (h0 : Heap) (n0 : Nat) (O0 : Old Z n0 h0) (E1 : Exa Z h0 a1 "com/example/fala/fala/engine/Policy$Operator") (F1 : Fld Z h0 a1 "java/lang/Enum" "ordinal" "I" (.int 1)) :
    MetFree l (⟨"com/example/fala/fala/engine/Policy$Operator", "holds", "(I)Z"⟩ : MethodName) (head1 (Jvm.Cond.code (⟨"com/example/fala/fala/engine/Policy$Operator", "holds", "(I)Z"⟩ : MethodName) prog_19_method_5_code 2 (some .boolean) :: ws) ({ frames := 1, cells := 0, slots := 0, locals := 12 } : Room)) (fun a U => a = #[(.ref a1), (.int p1)] ∧ Z.Warmed39 U.vm ∧ U.heap = h0) (fun _ _ _ _ _ => True) (fun _ U o U' => ∃ v L, o = .returned v ∧ Q_ho1 Z a1 p1 h0 n0 v U'.heap L ∧ FrameEnd U o U' L ({ frames := 1, cells := 0, slots := 0, locals := 12 } : Room).cells ({ frames := 1, cells := 0, slots := 0, locals := 12 } : Room).slots) := by
  refine MetFree.of_bodySF (plainFor_of_name pn_Policy_Operator) hisR ?_
  intro p e s m args below meth c s₁ Bd hml0 hP hK
  obtain ⟨rfl, hZ, hh⟩ := hP
  have hx := Bd.exec
  have hby := Bd.bytes
  have hml : c.maxLocals = 2 := hml0
  have hown : s.vm.findClass "com/example/fala/fala/engine/Policy$Operator" = some m.cls := findClass_of_methodNamed Bd.named
  have hnm := (name_of_methodNamed Bd.named Bd.method).1
  have X0 : Stand p l e ({ frames := 1, cells := 0, slots := 0, locals := 12 } : Room) s m #[(.ref a1), (.int p1)] below meth c s₁ [] 0 0 := Stand.of_body Bd
  have e0 : s₁.heap = h0 := by rw [← hh, Bd.state]; rfl
  have N0 := Fr.nil n0
  obtain ⟨G0, hG0⟩ : ∃ z, z = (mkF m 0 #[.val (.ref a1), .val (.int p1)] []) := ⟨_, rfl⟩
  have pre0 : ∀ t, Steps p.tables e below (s₁.setTop G0) t → Steps p.tables e below (s₁.setTop (entryFrame m #[(.ref a1), (.int p1)] 2)) t := fun t k => castTop (ef_RI_2 m a1 p1) (hG0 ▸ k)
  have k : Goes p e below s₁ G0 s₁ (mkF m 0 #[.val (.ref a1), .val (.int p1)] []) := fun t q => hG0 ▸ q
  replace k := Fw.aloadN k X0 hx (hb hby d_prog_19_method_5_0) rfl rfl (pc' := 1) rfl
  obtain ⟨cq1, kq1, q1a, q1b, q1c⟩ := isOf hZ e0 E1
  obtain ⟨_, _, ⟨T1, L1, k1, n1⟩, -, X1, ⟨Lc1, hQ1, l1, y1, z1⟩, st1⟩ := X0.virtualBackUp hx (x := (⟨"com/example/fala/fala/engine/Policy$Operator", "ordinal", "()I"⟩ : MethodName)) (y := (⟨"java/lang/Enum", "ordinal", "()I"⟩ : MethodName)) (owner := "java/lang/Enum") hown (mvT hZ (hw _ (List.mem_of_getElem? (i := 8) rfl))) (mvT hZ (hw _ (List.mem_of_getElem? (i := 9) rfl))) (mvT hZ (hw _ (List.mem_of_getElem? (i := 10) rfl))) (by decide) (mvT hZ (hw _ (List.mem_of_getElem? (i := 12) rfl))) (mvT hZ (hw _ (List.mem_of_getElem? (i := 11) rfl))) (backOf (W := 0) (rm_ord l Z a0 hw [] a1 _ h0 n0 O0 F1) hZ (hw _ (List.mem_of_getElem? (i := 14) rfl)) (hw _ (List.mem_of_getElem? (i := 13) rfl)) (by decide) (by decide)) q1a q1c (g := (mkF m 1 #[.val (.ref a1), .val (.int p1)] [(.ref a1)])) rfl (by rw [hml]; rfl) (Steps.refl _) (argsL := []) (rest := []) (lenOf pd__r_I rfl) rfl (by show 2 * 0 + _ ≤ _; exact Nat.le_of_eq rfl) (hb hby d_prog_19_method_5_1) (fun _ _ => ⟨rfl, e0, (by decide : 0 + 0 ≤ _), (by decide : 0 + 0 ≤ _)⟩)
  dsimp only [Pt.U, Pt.locs, Pt.cells, Pt.slots] at X1 l1 y1 z1 st1 hQ1
  subst l1 y1 z1
  obtain ⟨rfl, N1q, e1⟩ := hQ1
  have N1 := Fr.app N0 N1q
  replace k : Goes p e below s₁ G0 T1 (mkF m 4 #[.val (.ref a1), .val (.int p1)] [(.int 1)]) := fun t q => k t (st1.trans q)
  replace k := Fw.tsw k X1 hx (hb hby d_prog_19_method_5_4) (by decide) (o := 54) (by decide) (by decide) (pc' := 58) rfl
  replace k := Fw.iloadN k X1 hx (hb hby d_prog_19_method_5_58) rfl (pc' := 59) rfl
  by_cases hc59_2 : p1 < (0 : Int32)
  · replace k := Fw.ifYes k X1 hx (hb hby d_prog_19_method_5_59) ((if0 _ _).trans (tlt hc59_2).1) (by decide) (pc' := 66) rfl
    replace k := Fw.iconst k X1 hx (hb hby d_prog_19_method_5_66) (z := (0 : Int32)) (by decide) (pc' := 67) rfl
    replace k := Fw.goto k X1 hx (hb hby d_prog_19_method_5_67) (by decide) (pc' := 91) rfl
    obtain ⟨fs, hr, hrun, hended, hW, hsame⟩ := X1.leave (v := some (.int 0)) (fun h => by rw [Bd.returns] at h; cases h)
    refine ⟨_, _, pre0 _ (k _ ?_), hrun, hended, _, _, rfl, ?_, ⟨_, rfl⟩, hW, hsame.mono (by decide) (by decide)⟩
    · exact retN X1 hx (t := .boolean) Bd.returns (by simp) (hb hby d_prog_19_method_5_91) hr
    · show Q_ho1 Z a1 p1 h0 n0 _ T1.heap _
      rw [e1]
      refine ⟨?_, N1, rfl⟩
      simp [*]
  · replace k := Fw.ifNo k X1 hx (hb hby d_prog_19_method_5_59) ((if0 _ _).trans (flt hc59_2).1) (pc' := 62) rfl
    replace k := Fw.iconst k X1 hx (hb hby d_prog_19_method_5_62) (z := (1 : Int32)) (by decide) (pc' := 63) rfl
    replace k := Fw.goto k X1 hx (hb hby d_prog_19_method_5_63) (by decide) (pc' := 91) rfl
    obtain ⟨fs, hr, hrun, hended, hW, hsame⟩ := X1.leave (v := some (.int 1)) (fun h => by rw [Bd.returns] at h; cases h)
    refine ⟨_, _, pre0 _ (k _ ?_), hrun, hended, _, _, rfl, ?_, ⟨_, rfl⟩, hW, hsame.mono (by decide) (by decide)⟩
    · exact retN X1 hx (t := .boolean) Bd.returns (by simp) (hb hby d_prog_19_method_5_91) hr
    · show Q_ho1 Z a1 p1 h0 n0 _ T1.heap _
      rw [e1]
      refine ⟨?_, N1, rfl⟩
      simp [*]
theorem d_prog_19_method_5_70 : decode prog_19_method_5_code 70 = .ok (.iload_n 1, 1) := by decide +kernel
theorem d_prog_19_method_5_71 : decode prog_19_method_5_code 71 = .ok (.ifCond .ge 7, 3) := by decide +kernel
theorem d_prog_19_method_5_74 : decode prog_19_method_5_code 74 = .ok (.iconst 1, 1) := by decide +kernel
theorem d_prog_19_method_5_75 : decode prog_19_method_5_code 75 = .ok (.goto 16, 3) := by decide +kernel
theorem d_prog_19_method_5_78 : decode prog_19_method_5_code 78 = .ok (.iconst 0, 1) := by decide +kernel
theorem d_prog_19_method_5_79 : decode prog_19_method_5_code 79 = .ok (.goto 12, 3) := by decide +kernel
def Q_ho2 (Z : State) (a1 : Addr) (p1 : Int32) (h0 : Heap) (n0 : Nat) (v : Option Value) (h : Heap) (L : List Loc) : Prop := v = some (.int (if p1 < 0 then 1 else 0)) ∧ Fr n0 L ∧ h = h0
set_option maxRecDepth 65536 in
set_option maxHeartbeats 40000000 in
theorem rm_ho2 (l : Launch) (Z : State) (a0 : Array Value) (hw : ∀ d ∈ tables_1, d.before a0 Z = true) (ws : List Jvm.Cond) (a1 : Addr) (p1 : Int32) (h0 : Heap) (n0 : Nat) (O0 : Old Z n0 h0) (E1 : Exa Z h0 a1 "com/example/fala/fala/engine/Policy$Operator") (F1 : Fld Z h0 a1 "java/lang/Enum" "ordinal" "I" (.int 2)) :
    MetFree l (⟨"com/example/fala/fala/engine/Policy$Operator", "holds", "(I)Z"⟩ : MethodName) (head1 (Jvm.Cond.code (⟨"com/example/fala/fala/engine/Policy$Operator", "holds", "(I)Z"⟩ : MethodName) prog_19_method_5_code 2 (some .boolean) :: ws) ({ frames := 1, cells := 0, slots := 0, locals := 12 } : Room)) (fun a U => a = #[(.ref a1), (.int p1)] ∧ Z.Warmed39 U.vm ∧ U.heap = h0) (fun _ _ _ _ _ => True) (fun _ U o U' => ∃ v L, o = .returned v ∧ Q_ho2 Z a1 p1 h0 n0 v U'.heap L ∧ FrameEnd U o U' L ({ frames := 1, cells := 0, slots := 0, locals := 12 } : Room).cells ({ frames := 1, cells := 0, slots := 0, locals := 12 } : Room).slots) := by
  refine MetFree.of_bodySF (plainFor_of_name pn_Policy_Operator) hisR ?_
  intro p e s m args below meth c s₁ Bd hml0 hP hK
  obtain ⟨rfl, hZ, hh⟩ := hP
  have hx := Bd.exec
  have hby := Bd.bytes
  have hml : c.maxLocals = 2 := hml0
  have hown : s.vm.findClass "com/example/fala/fala/engine/Policy$Operator" = some m.cls := findClass_of_methodNamed Bd.named
  have hnm := (name_of_methodNamed Bd.named Bd.method).1
  have X0 : Stand p l e ({ frames := 1, cells := 0, slots := 0, locals := 12 } : Room) s m #[(.ref a1), (.int p1)] below meth c s₁ [] 0 0 := Stand.of_body Bd
  have e0 : s₁.heap = h0 := by rw [← hh, Bd.state]; rfl
  have N0 := Fr.nil n0
  obtain ⟨G0, hG0⟩ : ∃ z, z = (mkF m 0 #[.val (.ref a1), .val (.int p1)] []) := ⟨_, rfl⟩
  have pre0 : ∀ t, Steps p.tables e below (s₁.setTop G0) t → Steps p.tables e below (s₁.setTop (entryFrame m #[(.ref a1), (.int p1)] 2)) t := fun t k => castTop (ef_RI_2 m a1 p1) (hG0 ▸ k)
  have k : Goes p e below s₁ G0 s₁ (mkF m 0 #[.val (.ref a1), .val (.int p1)] []) := fun t q => hG0 ▸ q
  replace k := Fw.aloadN k X0 hx (hb hby d_prog_19_method_5_0) rfl rfl (pc' := 1) rfl
  obtain ⟨cq1, kq1, q1a, q1b, q1c⟩ := isOf hZ e0 E1
  obtain ⟨_, _, ⟨T1, L1, k1, n1⟩, -, X1, ⟨Lc1, hQ1, l1, y1, z1⟩, st1⟩ := X0.virtualBackUp hx (x := (⟨"com/example/fala/fala/engine/Policy$Operator", "ordinal", "()I"⟩ : MethodName)) (y := (⟨"java/lang/Enum", "ordinal", "()I"⟩ : MethodName)) (owner := "java/lang/Enum") hown (mvT hZ (hw _ (List.mem_of_getElem? (i := 8) rfl))) (mvT hZ (hw _ (List.mem_of_getElem? (i := 9) rfl))) (mvT hZ (hw _ (List.mem_of_getElem? (i := 10) rfl))) (by decide) (mvT hZ (hw _ (List.mem_of_getElem? (i := 12) rfl))) (mvT hZ (hw _ (List.mem_of_getElem? (i := 11) rfl))) (backOf (W := 0) (rm_ord l Z a0 hw [] a1 _ h0 n0 O0 F1) hZ (hw _ (List.mem_of_getElem? (i := 14) rfl)) (hw _ (List.mem_of_getElem? (i := 13) rfl)) (by decide) (by decide)) q1a q1c (g := (mkF m 1 #[.val (.ref a1), .val (.int p1)] [(.ref a1)])) rfl (by rw [hml]; rfl) (Steps.refl _) (argsL := []) (rest := []) (lenOf pd__r_I rfl) rfl (by show 2 * 0 + _ ≤ _; exact Nat.le_of_eq rfl) (hb hby d_prog_19_method_5_1) (fun _ _ => ⟨rfl, e0, (by decide : 0 + 0 ≤ _), (by decide : 0 + 0 ≤ _)⟩)
  dsimp only [Pt.U, Pt.locs, Pt.cells, Pt.slots] at X1 l1 y1 z1 st1 hQ1
  subst l1 y1 z1
  obtain ⟨rfl, N1q, e1⟩ := hQ1
  have N1 := Fr.app N0 N1q
  replace k : Goes p e below s₁ G0 T1 (mkF m 4 #[.val (.ref a1), .val (.int p1)] [(.int 2)]) := fun t q => k t (st1.trans q)
  replace k := Fw.tsw k X1 hx (hb hby d_prog_19_method_5_4) (by decide) (o := 66) (by decide) (by decide) (pc' := 70) rfl
  replace k := Fw.iloadN k X1 hx (hb hby d_prog_19_method_5_70) rfl (pc' := 71) rfl
  by_cases hc71_2 : p1 < (0 : Int32)
  · replace k := Fw.ifNo k X1 hx (hb hby d_prog_19_method_5_71) ((if0 _ _).trans (tlt hc71_2).2.1) (pc' := 74) rfl
    replace k := Fw.iconst k X1 hx (hb hby d_prog_19_method_5_74) (z := (1 : Int32)) (by decide) (pc' := 75) rfl
    replace k := Fw.goto k X1 hx (hb hby d_prog_19_method_5_75) (by decide) (pc' := 91) rfl
    obtain ⟨fs, hr, hrun, hended, hW, hsame⟩ := X1.leave (v := some (.int 1)) (fun h => by rw [Bd.returns] at h; cases h)
    refine ⟨_, _, pre0 _ (k _ ?_), hrun, hended, _, _, rfl, ?_, ⟨_, rfl⟩, hW, hsame.mono (by decide) (by decide)⟩
    · exact retN X1 hx (t := .boolean) Bd.returns (by simp) (hb hby d_prog_19_method_5_91) hr
    · show Q_ho2 Z a1 p1 h0 n0 _ T1.heap _
      rw [e1]
      refine ⟨?_, N1, rfl⟩
      simp [*]
  · replace k := Fw.ifYes k X1 hx (hb hby d_prog_19_method_5_71) ((if0 _ _).trans (flt hc71_2).2.1) (by decide) (pc' := 78) rfl
    replace k := Fw.iconst k X1 hx (hb hby d_prog_19_method_5_78) (z := (0 : Int32)) (by decide) (pc' := 79) rfl
    replace k := Fw.goto k X1 hx (hb hby d_prog_19_method_5_79) (by decide) (pc' := 91) rfl
    obtain ⟨fs, hr, hrun, hended, hW, hsame⟩ := X1.leave (v := some (.int 0)) (fun h => by rw [Bd.returns] at h; cases h)
    refine ⟨_, _, pre0 _ (k _ ?_), hrun, hended, _, _, rfl, ?_, ⟨_, rfl⟩, hW, hsame.mono (by decide) (by decide)⟩
    · exact retN X1 hx (t := .boolean) Bd.returns (by simp) (hb hby d_prog_19_method_5_91) hr
    · show Q_ho2 Z a1 p1 h0 n0 _ T1.heap _
      rw [e1]
      refine ⟨?_, N1, rfl⟩
      simp [*]
theorem d_prog_19_method_5_82 : decode prog_19_method_5_code 82 = .ok (.iload_n 1, 1) := by decide +kernel
theorem d_prog_19_method_5_83 : decode prog_19_method_5_code 83 = .ok (.ifCond .gt 7, 3) := by decide +kernel
theorem d_prog_19_method_5_90 : decode prog_19_method_5_code 90 = .ok (.iconst 0, 1) := by decide +kernel
theorem d_prog_19_method_5_86 : decode prog_19_method_5_code 86 = .ok (.iconst 1, 1) := by decide +kernel
theorem d_prog_19_method_5_87 : decode prog_19_method_5_code 87 = .ok (.goto 4, 3) := by decide +kernel
def Q_ho3 (Z : State) (a1 : Addr) (p1 : Int32) (h0 : Heap) (n0 : Nat) (v : Option Value) (h : Heap) (L : List Loc) : Prop := v = some (.int (if 0 < p1 then 0 else 1)) ∧ Fr n0 L ∧ h = h0
set_option maxRecDepth 65536 in
set_option maxHeartbeats 40000000 in
theorem rm_ho3 (l : Launch) (Z : State) (a0 : Array Value) (hw : ∀ d ∈ tables_1, d.before a0 Z = true) (ws : List Jvm.Cond) (a1 : Addr) (p1 : Int32) (h0 : Heap) (n0 : Nat) (O0 : Old Z n0 h0) (E1 : Exa Z h0 a1 "com/example/fala/fala/engine/Policy$Operator") (F1 : Fld Z h0 a1 "java/lang/Enum" "ordinal" "I" (.int 3)) :
    MetFree l (⟨"com/example/fala/fala/engine/Policy$Operator", "holds", "(I)Z"⟩ : MethodName) (head1 (Jvm.Cond.code (⟨"com/example/fala/fala/engine/Policy$Operator", "holds", "(I)Z"⟩ : MethodName) prog_19_method_5_code 2 (some .boolean) :: ws) ({ frames := 1, cells := 0, slots := 0, locals := 12 } : Room)) (fun a U => a = #[(.ref a1), (.int p1)] ∧ Z.Warmed39 U.vm ∧ U.heap = h0) (fun _ _ _ _ _ => True) (fun _ U o U' => ∃ v L, o = .returned v ∧ Q_ho3 Z a1 p1 h0 n0 v U'.heap L ∧ FrameEnd U o U' L ({ frames := 1, cells := 0, slots := 0, locals := 12 } : Room).cells ({ frames := 1, cells := 0, slots := 0, locals := 12 } : Room).slots) := by
  refine MetFree.of_bodySF (plainFor_of_name pn_Policy_Operator) hisR ?_
  intro p e s m args below meth c s₁ Bd hml0 hP hK
  obtain ⟨rfl, hZ, hh⟩ := hP
  have hx := Bd.exec
  have hby := Bd.bytes
  have hml : c.maxLocals = 2 := hml0
  have hown : s.vm.findClass "com/example/fala/fala/engine/Policy$Operator" = some m.cls := findClass_of_methodNamed Bd.named
  have hnm := (name_of_methodNamed Bd.named Bd.method).1
  have X0 : Stand p l e ({ frames := 1, cells := 0, slots := 0, locals := 12 } : Room) s m #[(.ref a1), (.int p1)] below meth c s₁ [] 0 0 := Stand.of_body Bd
  have e0 : s₁.heap = h0 := by rw [← hh, Bd.state]; rfl
  have N0 := Fr.nil n0
  obtain ⟨G0, hG0⟩ : ∃ z, z = (mkF m 0 #[.val (.ref a1), .val (.int p1)] []) := ⟨_, rfl⟩
  have pre0 : ∀ t, Steps p.tables e below (s₁.setTop G0) t → Steps p.tables e below (s₁.setTop (entryFrame m #[(.ref a1), (.int p1)] 2)) t := fun t k => castTop (ef_RI_2 m a1 p1) (hG0 ▸ k)
  have k : Goes p e below s₁ G0 s₁ (mkF m 0 #[.val (.ref a1), .val (.int p1)] []) := fun t q => hG0 ▸ q
  replace k := Fw.aloadN k X0 hx (hb hby d_prog_19_method_5_0) rfl rfl (pc' := 1) rfl
  obtain ⟨cq1, kq1, q1a, q1b, q1c⟩ := isOf hZ e0 E1
  obtain ⟨_, _, ⟨T1, L1, k1, n1⟩, -, X1, ⟨Lc1, hQ1, l1, y1, z1⟩, st1⟩ := X0.virtualBackUp hx (x := (⟨"com/example/fala/fala/engine/Policy$Operator", "ordinal", "()I"⟩ : MethodName)) (y := (⟨"java/lang/Enum", "ordinal", "()I"⟩ : MethodName)) (owner := "java/lang/Enum") hown (mvT hZ (hw _ (List.mem_of_getElem? (i := 8) rfl))) (mvT hZ (hw _ (List.mem_of_getElem? (i := 9) rfl))) (mvT hZ (hw _ (List.mem_of_getElem? (i := 10) rfl))) (by decide) (mvT hZ (hw _ (List.mem_of_getElem? (i := 12) rfl))) (mvT hZ (hw _ (List.mem_of_getElem? (i := 11) rfl))) (backOf (W := 0) (rm_ord l Z a0 hw [] a1 _ h0 n0 O0 F1) hZ (hw _ (List.mem_of_getElem? (i := 14) rfl)) (hw _ (List.mem_of_getElem? (i := 13) rfl)) (by decide) (by decide)) q1a q1c (g := (mkF m 1 #[.val (.ref a1), .val (.int p1)] [(.ref a1)])) rfl (by rw [hml]; rfl) (Steps.refl _) (argsL := []) (rest := []) (lenOf pd__r_I rfl) rfl (by show 2 * 0 + _ ≤ _; exact Nat.le_of_eq rfl) (hb hby d_prog_19_method_5_1) (fun _ _ => ⟨rfl, e0, (by decide : 0 + 0 ≤ _), (by decide : 0 + 0 ≤ _)⟩)
  dsimp only [Pt.U, Pt.locs, Pt.cells, Pt.slots] at X1 l1 y1 z1 st1 hQ1
  subst l1 y1 z1
  obtain ⟨rfl, N1q, e1⟩ := hQ1
  have N1 := Fr.app N0 N1q
  replace k : Goes p e below s₁ G0 T1 (mkF m 4 #[.val (.ref a1), .val (.int p1)] [(.int 3)]) := fun t q => k t (st1.trans q)
  replace k := Fw.tsw k X1 hx (hb hby d_prog_19_method_5_4) (by decide) (o := 78) (by decide) (by decide) (pc' := 82) rfl
  replace k := Fw.iloadN k X1 hx (hb hby d_prog_19_method_5_82) rfl (pc' := 83) rfl
  by_cases hc83_2 : (0 : Int32) < p1
  · replace k := Fw.ifYes k X1 hx (hb hby d_prog_19_method_5_83) ((if0 _ _).trans (tlt hc83_2).2.2.1) (by decide) (pc' := 90) rfl
    replace k := Fw.iconst k X1 hx (hb hby d_prog_19_method_5_90) (z := (0 : Int32)) (by decide) (pc' := 91) rfl
    obtain ⟨fs, hr, hrun, hended, hW, hsame⟩ := X1.leave (v := some (.int 0)) (fun h => by rw [Bd.returns] at h; cases h)
    refine ⟨_, _, pre0 _ (k _ ?_), hrun, hended, _, _, rfl, ?_, ⟨_, rfl⟩, hW, hsame.mono (by decide) (by decide)⟩
    · exact retN X1 hx (t := .boolean) Bd.returns (by simp) (hb hby d_prog_19_method_5_91) hr
    · show Q_ho3 Z a1 p1 h0 n0 _ T1.heap _
      rw [e1]
      refine ⟨?_, N1, rfl⟩
      simp [*]
  · replace k := Fw.ifNo k X1 hx (hb hby d_prog_19_method_5_83) ((if0 _ _).trans (flt hc83_2).2.2.1) (pc' := 86) rfl
    replace k := Fw.iconst k X1 hx (hb hby d_prog_19_method_5_86) (z := (1 : Int32)) (by decide) (pc' := 87) rfl
    replace k := Fw.goto k X1 hx (hb hby d_prog_19_method_5_87) (by decide) (pc' := 91) rfl
    obtain ⟨fs, hr, hrun, hended, hW, hsame⟩ := X1.leave (v := some (.int 1)) (fun h => by rw [Bd.returns] at h; cases h)
    refine ⟨_, _, pre0 _ (k _ ?_), hrun, hended, _, _, rfl, ?_, ⟨_, rfl⟩, hW, hsame.mono (by decide) (by decide)⟩
    · exact retN X1 hx (t := .boolean) Bd.returns (by simp) (hb hby d_prog_19_method_5_91) hr
    · show Q_ho3 Z a1 p1 h0 n0 _ T1.heap _
      rw [e1]
      refine ⟨?_, N1, rfl⟩
      simp [*]
theorem pd_I_r_Z : parseMethodDescriptor "(I)Z" = some ⟨[.int], some .boolean⟩ := by decide +kernel
theorem pn_OperatorHoldsPinLaw : plainName "com/example/fala/fala/engine/OperatorHoldsPinLaw" = true := by first | (simp [plainName, overriddenIn]; done) | decide +kernel
theorem ef_II_maxLocals (m : MethodId) (x0 : Int32) (x1 : Int32) : entryFrame m #[(.int x0), (.int x1)] maxLocals = mkF m 0 #[.val (.int x0), .val (.int x1), .unset, .unset, .unset, .unset] [] := by first | (simp [entryFrame, mkF, argsToLocals, Value.category, maxLocals]; done) | rfl
def Q_law (Z : State) (p1 : Int32) (p2 : Int32) (w_ABOVE : Addr) (w_BELOW : Addr) (w_AT_OR_ABOVE : Addr) (w_AT_OR_BELOW : Addr) (h0 : Heap) (n0 : Nat) (v : Option Value) (h : Heap) (L : List Loc) : Prop := v = some (.int 1) ∧ Fr n0 L ∧ True
set_option maxRecDepth 65536 in
set_option maxHeartbeats 40000000 in
theorem rm_law (l : Launch) (Z : State) (a0 : Array Value) (hw : ∀ d ∈ tables_1, d.before a0 Z = true) (ws : List Jvm.Cond) (p1 : Int32) (p2 : Int32) (w_ABOVE : Addr) (w_BELOW : Addr) (w_AT_OR_ABOVE : Addr) (w_AT_OR_BELOW : Addr) (h0 : Heap) (n0 : Nat) (O0 : Old Z n0 h0) (S_ABOVE : Sta Z Z.heap "com/example/fala/fala/engine/Policy$Operator" "ABOVE" "Lcom/example/fala/fala/engine/Policy$Operator;" (.ref w_ABOVE)) (E_ABOVE : Exa Z Z.heap w_ABOVE "com/example/fala/fala/engine/Policy$Operator") (F_ABOVE : Fld Z Z.heap w_ABOVE "java/lang/Enum" "ordinal" "I" (.int 0)) (S_BELOW : Sta Z Z.heap "com/example/fala/fala/engine/Policy$Operator" "BELOW" "Lcom/example/fala/fala/engine/Policy$Operator;" (.ref w_BELOW)) (E_BELOW : Exa Z Z.heap w_BELOW "com/example/fala/fala/engine/Policy$Operator") (F_BELOW : Fld Z Z.heap w_BELOW "java/lang/Enum" "ordinal" "I" (.int 2)) (S_AT_OR_ABOVE : Sta Z Z.heap "com/example/fala/fala/engine/Policy$Operator" "AT_OR_ABOVE" "Lcom/example/fala/fala/engine/Policy$Operator;" (.ref w_AT_OR_ABOVE)) (E_AT_OR_ABOVE : Exa Z Z.heap w_AT_OR_ABOVE "com/example/fala/fala/engine/Policy$Operator") (F_AT_OR_ABOVE : Fld Z Z.heap w_AT_OR_ABOVE "java/lang/Enum" "ordinal" "I" (.int 1)) (S_AT_OR_BELOW : Sta Z Z.heap "com/example/fala/fala/engine/Policy$Operator" "AT_OR_BELOW" "Lcom/example/fala/fala/engine/Policy$Operator;" (.ref w_AT_OR_BELOW)) (E_AT_OR_BELOW : Exa Z Z.heap w_AT_OR_BELOW "com/example/fala/fala/engine/Policy$Operator") (F_AT_OR_BELOW : Fld Z Z.heap w_AT_OR_BELOW "java/lang/Enum" "ordinal" "I" (.int 3)) :
    MetFree l x (head1 (Jvm.Cond.code x code maxLocals ret :: ws) room_1) (fun a U => a = #[(.int p1), (.int p2)] ∧ Z.Warmed39 U.vm ∧ U.heap = h0) (fun _ _ _ _ _ => True) (fun _ U o U' => ∃ v L, o = .returned v ∧ Q_law Z p1 p2 w_ABOVE w_BELOW w_AT_OR_ABOVE w_AT_OR_BELOW h0 n0 v U'.heap L ∧ FrameEnd U o U' L room_1.cells room_1.slots) := by
  refine MetFree.of_bodySF (plainFor_of_name pn_OperatorHoldsPinLaw) hisR ?_
  intro p e s m args below meth c s₁ Bd hml0 hP hK
  obtain ⟨rfl, hZ, hh⟩ := hP
  have hx := Bd.exec
  have hby := Bd.bytes
  have hml : c.maxLocals = 6 := hml0
  have hown : s.vm.findClass "com/example/fala/fala/engine/OperatorHoldsPinLaw" = some m.cls := findClass_of_methodNamed Bd.named
  have hnm := (name_of_methodNamed Bd.named Bd.method).1
  have X0 : Stand p l e room_1 s m #[(.int p1), (.int p2)] below meth c s₁ [] 0 0 := Stand.of_body Bd
  have e0 : s₁.heap = h0 := by rw [← hh, Bd.state]; rfl
  have N0 := Fr.nil n0
  obtain ⟨G0, hG0⟩ : ∃ z, z = (mkF m 0 #[.val (.int p1), .val (.int p2), .unset, .unset, .unset, .unset] []) := ⟨_, rfl⟩
  have pre0 : ∀ t, Steps p.tables e below (s₁.setTop G0) t → Steps p.tables e below (s₁.setTop (entryFrame m #[(.int p1), (.int p2)] maxLocals)) t := fun t k => castTop (ef_II_maxLocals m p1 p2) (hG0 ▸ k)
  have k : Goes p e below s₁ G0 s₁ (mkF m 0 #[.val (.int p1), .val (.int p2), .unset, .unset, .unset, .unset] []) := fun t q => hG0 ▸ q
  replace k := Fw.iloadN k X0 hx (hb hby at_0) rfl (pc' := 1) rfl
  replace k := Fw.iconst k X0 hx (hb hby at_1) (z := (3 : Int32)) (by decide) (pc' := 2) rfl
  replace k := Fw.iand k X0 hx (hb hby at_2) rfl (pc' := 3) rfl
  replace k := Fw.istoreN k X0 hx (hb hby at_3)  (Ls' := #[.val (.int p1), .val (.int p2), .val (.int (p1 &&& (3 : Int32))), .unset, .unset, .unset]) rfl (pc' := 4) rfl
  replace k := Fw.iloadN k X0 hx (hb hby at_4) rfl (pc' := 5) rfl
  by_cases hc5_1 : (p1 &&& (3 : Int32)) = (0 : Int32)
  · replace k := Fw.ifNo k X0 hx (hb hby at_5) ((if0 _ _).trans (teq hc5_1).2) (pc' := 8) rfl
    obtain ⟨T2, X2, e2, st2⟩ := getS2 X0 hx hZ hown (host := "") (Or.inl (hw _ (List.mem_of_getElem? (i := 0) rfl))) Via.refl e0 (S_ABOVE.ext O0.2) (g := (mkF m 8 #[.val (.int p1), .val (.int p2), .val (.int (p1 &&& (3 : Int32))), .unset, .unset, .unset] [])) rfl (hb hby at_8)
    replace k : Goes p e below s₁ G0 T2 (mkF m 11 #[.val (.int p1), .val (.int p2), .val (.int (p1 &&& (3 : Int32))), .unset, .unset, .unset] [(.ref w_ABOVE)]) := fun t q => k t (st2 _ q)
    replace k := Fw.astoreN k X2 hx (hb hby at_11)  rfl (Ls' := #[.val (.int p1), .val (.int p2), .val (.int (p1 &&& (3 : Int32))), .val (.ref w_ABOVE), .unset, .unset]) rfl (pc' := 12) rfl
    replace k := Fw.goto k X2 hx (hb hby at_12) (by decide) (pc' := 43) rfl
    replace k := Fw.iconst k X2 hx (hb hby at_43) (z := (0 : Int32)) (by decide) (pc' := 44) rfl
    replace k := Fw.istore k X2 hx (hb hby at_44)  (Ls' := #[.val (.int p1), .val (.int p2), .val (.int (p1 &&& (3 : Int32))), .val (.ref w_ABOVE), .val (.int 0), .unset]) rfl (pc' := 46) rfl
    replace k := Fw.iloadN k X2 hx (hb hby at_46) rfl (pc' := 47) rfl
    by_cases hc47_3 : (0 : Int32) < p2
    · replace k := Fw.ifNo k X2 hx (hb hby at_47) ((if0 _ _).trans (tlt hc47_3).2.2.2) (pc' := 50) rfl
      replace k := Fw.iconst k X2 hx (hb hby at_50) (z := (1 : Int32)) (by decide) (pc' := 51) rfl
      replace k := Fw.istore k X2 hx (hb hby at_51)  (Ls' := #[.val (.int p1), .val (.int p2), .val (.int (p1 &&& (3 : Int32))), .val (.ref w_ABOVE), .val (.int 1), .unset]) rfl (pc' := 53) rfl
      replace k := Fw.goto k X2 hx (hb hby at_53) (by decide) (pc' := 63) rfl
      replace k := Fw.iloadN k X2 hx (hb hby at_63) rfl (pc' := 64) rfl
      replace k := Fw.ifNo k X2 hx (hb hby at_64) ((if0 _ _).trans (teq hc5_1).2) (pc' := 67) rfl
      replace k := Fw.iload k X2 hx (hb hby at_67) rfl (pc' := 69) rfl
      replace k := Fw.iconst k X2 hx (hb hby at_69) (z := (1 : Int32)) (by decide) (pc' := 70) rfl
      replace k := Fw.icmpNo k X2 hx (hb hby at_70) (teq (show (1 : Int32) = (1 : Int32) from by decide)).2 (pc' := 73) rfl
      replace k := Fw.iconst k X2 hx (hb hby at_73) (z := (1 : Int32)) (by decide) (pc' := 74) rfl
      replace k := Fw.goto k X2 hx (hb hby at_74) (by decide) (pc' := 78) rfl
      replace k := Fw.istore k X2 hx (hb hby at_78)  (Ls' := #[.val (.int p1), .val (.int p2), .val (.int (p1 &&& (3 : Int32))), .val (.ref w_ABOVE), .val (.int 1), .val (.int 1)]) rfl (pc' := 80) rfl
      replace k := Fw.goto k X2 hx (hb hby at_80) (by decide) (pc' := 138) rfl
      replace k := Fw.aloadN k X2 hx (hb hby at_138) rfl rfl (pc' := 139) rfl
      replace k := Fw.iloadN k X2 hx (hb hby at_139) rfl (pc' := 140) rfl
      obtain ⟨cq4, kq4, q4a, q4b, q4c⟩ := isOf hZ e2 (E_ABOVE.ext O0.2)
      obtain ⟨_, _, ⟨T4, L4, k4, n4⟩, -, X4, ⟨Lc4, hQ4, l4, y4, z4⟩, st4⟩ := X2.virtualBack hx (y := (⟨"com/example/fala/fala/engine/Policy$Operator", "holds", "(I)Z"⟩ : MethodName)) (z := (⟨"com/example/fala/fala/engine/Policy$Operator", "holds", "(I)Z"⟩ : MethodName)) hown (mvT hZ (hw _ (List.mem_of_getElem? (i := 3) rfl))) (mvT hZ (hw _ (List.mem_of_getElem? (i := 4) rfl))) (notFace_of_selects (args := #[]) (mvT hZ (hw _ (List.mem_of_getElem? (i := 6) rfl)))) (mvT hZ (hw _ (List.mem_of_getElem? (i := 6) rfl))) (mvT hZ (hw _ (List.mem_of_getElem? (i := 5) rfl))) (by decide) (backOf (W := 0) (rm_ho0 l Z a0 hw [] w_ABOVE p2 h0 n0 O0 (E_ABOVE.ext O0.2) (F_ABOVE.ext O0.2)) hZ (hw _ (List.mem_of_getElem? (i := 7) rfl)) (hw _ (List.mem_of_getElem? (i := 1) rfl)) (by decide) (by decide)) q4a q4c (g := (mkF m 140 #[.val (.int p1), .val (.int p2), .val (.int (p1 &&& (3 : Int32))), .val (.ref w_ABOVE), .val (.int 1), .val (.int 1)] [(.int p2), (.ref w_ABOVE)])) rfl (by rw [hml]; rfl) (Steps.refl _) (argsL := [(.int p2)]) (rest := []) (lenOf pd_I_r_Z rfl) rfl (by show 2 * 0 + _ ≤ _; exact Nat.le_of_eq rfl) (hb hby at_140) (fun _ _ => ⟨rfl, e2, (by decide : 0 + 0 ≤ _), (by decide : 0 + 0 ≤ _)⟩)
      dsimp only [Pt.U, Pt.locs, Pt.cells, Pt.slots] at X4 l4 y4 z4 st4 hQ4
      subst l4 y4 z4
      obtain ⟨hv4, N4q, e4⟩ := hQ4
      rw [show (if 0 < p2 then 1 else 0) = (1 : Int32) from by simp [hc47_3, own_asym hc47_3]] at hv4
      subst hv4
      have N4 := Fr.app N0 N4q
      replace k : Goes p e below s₁ G0 T4 (mkF m 143 #[.val (.int p1), .val (.int p2), .val (.int (p1 &&& (3 : Int32))), .val (.ref w_ABOVE), .val (.int 1), .val (.int 1)] [(.int 1)]) := fun t q => k t (st4.trans q)
      replace k := Fw.iload k X4 hx (hb hby at_143) rfl (pc' := 145) rfl
      replace k := Fw.icmpNo k X4 hx (hb hby at_145) (teq (show (1 : Int32) = (1 : Int32) from by decide)).2 (pc' := 148) rfl
      replace k := Fw.iconst k X4 hx (hb hby at_148) (z := (1 : Int32)) (by decide) (pc' := 149) rfl
      replace k := Fw.goto k X4 hx (hb hby at_149) (by decide) (pc' := 153) rfl
      obtain ⟨fs, hr, hrun, hended, hW, hsame⟩ := X4.leave (v := some (.int 1)) (fun h => by rw [Bd.returns] at h; cases h)
      refine ⟨_, _, pre0 _ (k _ ?_), hrun, hended, _, _, rfl, ?_, ⟨_, rfl⟩, hW, hsame.mono (by decide) (by decide)⟩
      · exact retN X4 hx (t := .boolean) Bd.returns (by simp) (hb hby at_153) hr
      · show Q_law Z p1 p2 w_ABOVE w_BELOW w_AT_OR_ABOVE w_AT_OR_BELOW h0 n0 _ T4.heap _
        rw [e4]
        exact ⟨rfl, N4, trivial⟩
    · replace k := Fw.ifYes k X2 hx (hb hby at_47) ((if0 _ _).trans (flt hc47_3).2.2.2) (by decide) (pc' := 56) rfl
      replace k := Fw.iloadN k X2 hx (hb hby at_56) rfl (pc' := 57) rfl
      by_cases hc57_5 : p2 < (0 : Int32)
      · replace k := Fw.ifNo k X2 hx (hb hby at_57) ((if0 _ _).trans (tlt hc57_5).2.1) (pc' := 60) rfl
        replace k := Fw.iconst k X2 hx (hb hby at_60) (z := (-1 : Int32)) (by decide) (pc' := 61) rfl
        replace k := Fw.istore k X2 hx (hb hby at_61)  (Ls' := #[.val (.int p1), .val (.int p2), .val (.int (p1 &&& (3 : Int32))), .val (.ref w_ABOVE), .val (.int (-1)), .unset]) rfl (pc' := 63) rfl
        replace k := Fw.iloadN k X2 hx (hb hby at_63) rfl (pc' := 64) rfl
        replace k := Fw.ifNo k X2 hx (hb hby at_64) ((if0 _ _).trans (teq hc5_1).2) (pc' := 67) rfl
        replace k := Fw.iload k X2 hx (hb hby at_67) rfl (pc' := 69) rfl
        replace k := Fw.iconst k X2 hx (hb hby at_69) (z := (1 : Int32)) (by decide) (pc' := 70) rfl
        replace k := Fw.icmpYes k X2 hx (hb hby at_70) (feq (show ¬ ((-1 : Int32) = (1 : Int32)) from by decide)).2 (by decide) (pc' := 77) rfl
        replace k := Fw.iconst k X2 hx (hb hby at_77) (z := (0 : Int32)) (by decide) (pc' := 78) rfl
        replace k := Fw.istore k X2 hx (hb hby at_78)  (Ls' := #[.val (.int p1), .val (.int p2), .val (.int (p1 &&& (3 : Int32))), .val (.ref w_ABOVE), .val (.int (-1)), .val (.int 0)]) rfl (pc' := 80) rfl
        replace k := Fw.goto k X2 hx (hb hby at_80) (by decide) (pc' := 138) rfl
        replace k := Fw.aloadN k X2 hx (hb hby at_138) rfl rfl (pc' := 139) rfl
        replace k := Fw.iloadN k X2 hx (hb hby at_139) rfl (pc' := 140) rfl
        obtain ⟨cq6, kq6, q6a, q6b, q6c⟩ := isOf hZ e2 (E_ABOVE.ext O0.2)
        obtain ⟨_, _, ⟨T6, L6, k6, n6⟩, -, X6, ⟨Lc6, hQ6, l6, y6, z6⟩, st6⟩ := X2.virtualBack hx (y := (⟨"com/example/fala/fala/engine/Policy$Operator", "holds", "(I)Z"⟩ : MethodName)) (z := (⟨"com/example/fala/fala/engine/Policy$Operator", "holds", "(I)Z"⟩ : MethodName)) hown (mvT hZ (hw _ (List.mem_of_getElem? (i := 3) rfl))) (mvT hZ (hw _ (List.mem_of_getElem? (i := 4) rfl))) (notFace_of_selects (args := #[]) (mvT hZ (hw _ (List.mem_of_getElem? (i := 6) rfl)))) (mvT hZ (hw _ (List.mem_of_getElem? (i := 6) rfl))) (mvT hZ (hw _ (List.mem_of_getElem? (i := 5) rfl))) (by decide) (backOf (W := 0) (rm_ho0 l Z a0 hw [] w_ABOVE p2 h0 n0 O0 (E_ABOVE.ext O0.2) (F_ABOVE.ext O0.2)) hZ (hw _ (List.mem_of_getElem? (i := 7) rfl)) (hw _ (List.mem_of_getElem? (i := 1) rfl)) (by decide) (by decide)) q6a q6c (g := (mkF m 140 #[.val (.int p1), .val (.int p2), .val (.int (p1 &&& (3 : Int32))), .val (.ref w_ABOVE), .val (.int (-1)), .val (.int 0)] [(.int p2), (.ref w_ABOVE)])) rfl (by rw [hml]; rfl) (Steps.refl _) (argsL := [(.int p2)]) (rest := []) (lenOf pd_I_r_Z rfl) rfl (by show 2 * 0 + _ ≤ _; exact Nat.le_of_eq rfl) (hb hby at_140) (fun _ _ => ⟨rfl, e2, (by decide : 0 + 0 ≤ _), (by decide : 0 + 0 ≤ _)⟩)
        dsimp only [Pt.U, Pt.locs, Pt.cells, Pt.slots] at X6 l6 y6 z6 st6 hQ6
        subst l6 y6 z6
        obtain ⟨hv6, N6q, e6⟩ := hQ6
        rw [show (if 0 < p2 then 1 else 0) = (0 : Int32) from by simp [hc47_3, hc57_5]] at hv6
        subst hv6
        have N6 := Fr.app N0 N6q
        replace k : Goes p e below s₁ G0 T6 (mkF m 143 #[.val (.int p1), .val (.int p2), .val (.int (p1 &&& (3 : Int32))), .val (.ref w_ABOVE), .val (.int (-1)), .val (.int 0)] [(.int 0)]) := fun t q => k t (st6.trans q)
        replace k := Fw.iload k X6 hx (hb hby at_143) rfl (pc' := 145) rfl
        replace k := Fw.icmpNo k X6 hx (hb hby at_145) (teq (show (0 : Int32) = (0 : Int32) from by decide)).2 (pc' := 148) rfl
        replace k := Fw.iconst k X6 hx (hb hby at_148) (z := (1 : Int32)) (by decide) (pc' := 149) rfl
        replace k := Fw.goto k X6 hx (hb hby at_149) (by decide) (pc' := 153) rfl
        obtain ⟨fs, hr, hrun, hended, hW, hsame⟩ := X6.leave (v := some (.int 1)) (fun h => by rw [Bd.returns] at h; cases h)
        refine ⟨_, _, pre0 _ (k _ ?_), hrun, hended, _, _, rfl, ?_, ⟨_, rfl⟩, hW, hsame.mono (by decide) (by decide)⟩
        · exact retN X6 hx (t := .boolean) Bd.returns (by simp) (hb hby at_153) hr
        · show Q_law Z p1 p2 w_ABOVE w_BELOW w_AT_OR_ABOVE w_AT_OR_BELOW h0 n0 _ T6.heap _
          rw [e6]
          exact ⟨rfl, N6, trivial⟩
      · replace k := Fw.ifYes k X2 hx (hb hby at_57) ((if0 _ _).trans (flt hc57_5).2.1) (by decide) (pc' := 63) rfl
        replace k := Fw.iloadN k X2 hx (hb hby at_63) rfl (pc' := 64) rfl
        replace k := Fw.ifNo k X2 hx (hb hby at_64) ((if0 _ _).trans (teq hc5_1).2) (pc' := 67) rfl
        replace k := Fw.iload k X2 hx (hb hby at_67) rfl (pc' := 69) rfl
        replace k := Fw.iconst k X2 hx (hb hby at_69) (z := (1 : Int32)) (by decide) (pc' := 70) rfl
        replace k := Fw.icmpYes k X2 hx (hb hby at_70) (feq (show ¬ ((0 : Int32) = (1 : Int32)) from by decide)).2 (by decide) (pc' := 77) rfl
        replace k := Fw.iconst k X2 hx (hb hby at_77) (z := (0 : Int32)) (by decide) (pc' := 78) rfl
        replace k := Fw.istore k X2 hx (hb hby at_78)  (Ls' := #[.val (.int p1), .val (.int p2), .val (.int (p1 &&& (3 : Int32))), .val (.ref w_ABOVE), .val (.int 0), .val (.int 0)]) rfl (pc' := 80) rfl
        replace k := Fw.goto k X2 hx (hb hby at_80) (by decide) (pc' := 138) rfl
        replace k := Fw.aloadN k X2 hx (hb hby at_138) rfl rfl (pc' := 139) rfl
        replace k := Fw.iloadN k X2 hx (hb hby at_139) rfl (pc' := 140) rfl
        obtain ⟨cq7, kq7, q7a, q7b, q7c⟩ := isOf hZ e2 (E_ABOVE.ext O0.2)
        obtain ⟨_, _, ⟨T7, L7, k7, n7⟩, -, X7, ⟨Lc7, hQ7, l7, y7, z7⟩, st7⟩ := X2.virtualBack hx (y := (⟨"com/example/fala/fala/engine/Policy$Operator", "holds", "(I)Z"⟩ : MethodName)) (z := (⟨"com/example/fala/fala/engine/Policy$Operator", "holds", "(I)Z"⟩ : MethodName)) hown (mvT hZ (hw _ (List.mem_of_getElem? (i := 3) rfl))) (mvT hZ (hw _ (List.mem_of_getElem? (i := 4) rfl))) (notFace_of_selects (args := #[]) (mvT hZ (hw _ (List.mem_of_getElem? (i := 6) rfl)))) (mvT hZ (hw _ (List.mem_of_getElem? (i := 6) rfl))) (mvT hZ (hw _ (List.mem_of_getElem? (i := 5) rfl))) (by decide) (backOf (W := 0) (rm_ho0 l Z a0 hw [] w_ABOVE p2 h0 n0 O0 (E_ABOVE.ext O0.2) (F_ABOVE.ext O0.2)) hZ (hw _ (List.mem_of_getElem? (i := 7) rfl)) (hw _ (List.mem_of_getElem? (i := 1) rfl)) (by decide) (by decide)) q7a q7c (g := (mkF m 140 #[.val (.int p1), .val (.int p2), .val (.int (p1 &&& (3 : Int32))), .val (.ref w_ABOVE), .val (.int 0), .val (.int 0)] [(.int p2), (.ref w_ABOVE)])) rfl (by rw [hml]; rfl) (Steps.refl _) (argsL := [(.int p2)]) (rest := []) (lenOf pd_I_r_Z rfl) rfl (by show 2 * 0 + _ ≤ _; exact Nat.le_of_eq rfl) (hb hby at_140) (fun _ _ => ⟨rfl, e2, (by decide : 0 + 0 ≤ _), (by decide : 0 + 0 ≤ _)⟩)
        dsimp only [Pt.U, Pt.locs, Pt.cells, Pt.slots] at X7 l7 y7 z7 st7 hQ7
        subst l7 y7 z7
        obtain ⟨hv7, N7q, e7⟩ := hQ7
        rw [show (if 0 < p2 then 1 else 0) = (0 : Int32) from by simp [hc47_3, hc57_5]] at hv7
        subst hv7
        have N7 := Fr.app N0 N7q
        replace k : Goes p e below s₁ G0 T7 (mkF m 143 #[.val (.int p1), .val (.int p2), .val (.int (p1 &&& (3 : Int32))), .val (.ref w_ABOVE), .val (.int 0), .val (.int 0)] [(.int 0)]) := fun t q => k t (st7.trans q)
        replace k := Fw.iload k X7 hx (hb hby at_143) rfl (pc' := 145) rfl
        replace k := Fw.icmpNo k X7 hx (hb hby at_145) (teq (show (0 : Int32) = (0 : Int32) from by decide)).2 (pc' := 148) rfl
        replace k := Fw.iconst k X7 hx (hb hby at_148) (z := (1 : Int32)) (by decide) (pc' := 149) rfl
        replace k := Fw.goto k X7 hx (hb hby at_149) (by decide) (pc' := 153) rfl
        obtain ⟨fs, hr, hrun, hended, hW, hsame⟩ := X7.leave (v := some (.int 1)) (fun h => by rw [Bd.returns] at h; cases h)
        refine ⟨_, _, pre0 _ (k _ ?_), hrun, hended, _, _, rfl, ?_, ⟨_, rfl⟩, hW, hsame.mono (by decide) (by decide)⟩
        · exact retN X7 hx (t := .boolean) Bd.returns (by simp) (hb hby at_153) hr
        · show Q_law Z p1 p2 w_ABOVE w_BELOW w_AT_OR_ABOVE w_AT_OR_BELOW h0 n0 _ T7.heap _
          rw [e7]
          exact ⟨rfl, N7, trivial⟩
  · replace k := Fw.ifYes k X0 hx (hb hby at_5) ((if0 _ _).trans (feq hc5_1).2) (by decide) (pc' := 15) rfl
    replace k := Fw.iloadN k X0 hx (hb hby at_15) rfl (pc' := 16) rfl
    replace k := Fw.iconst k X0 hx (hb hby at_16) (z := (1 : Int32)) (by decide) (pc' := 17) rfl
    by_cases hc17_8 : (p1 &&& (3 : Int32)) = (1 : Int32)
    · replace k := Fw.icmpNo k X0 hx (hb hby at_17) (teq hc17_8).2 (pc' := 20) rfl
      obtain ⟨T9, X9, e9, st9⟩ := getS2 X0 hx hZ hown (host := "") (Or.inl (hw _ (List.mem_of_getElem? (i := 19) rfl))) Via.refl e0 (S_AT_OR_ABOVE.ext O0.2) (g := (mkF m 20 #[.val (.int p1), .val (.int p2), .val (.int (p1 &&& (3 : Int32))), .unset, .unset, .unset] [])) rfl (hb hby at_20)
      replace k : Goes p e below s₁ G0 T9 (mkF m 23 #[.val (.int p1), .val (.int p2), .val (.int (p1 &&& (3 : Int32))), .unset, .unset, .unset] [(.ref w_AT_OR_ABOVE)]) := fun t q => k t (st9 _ q)
      replace k := Fw.astoreN k X9 hx (hb hby at_23)  rfl (Ls' := #[.val (.int p1), .val (.int p2), .val (.int (p1 &&& (3 : Int32))), .val (.ref w_AT_OR_ABOVE), .unset, .unset]) rfl (pc' := 24) rfl
      replace k := Fw.goto k X9 hx (hb hby at_24) (by decide) (pc' := 43) rfl
      replace k := Fw.iconst k X9 hx (hb hby at_43) (z := (0 : Int32)) (by decide) (pc' := 44) rfl
      replace k := Fw.istore k X9 hx (hb hby at_44)  (Ls' := #[.val (.int p1), .val (.int p2), .val (.int (p1 &&& (3 : Int32))), .val (.ref w_AT_OR_ABOVE), .val (.int 0), .unset]) rfl (pc' := 46) rfl
      replace k := Fw.iloadN k X9 hx (hb hby at_46) rfl (pc' := 47) rfl
      by_cases hc47_10 : (0 : Int32) < p2
      · replace k := Fw.ifNo k X9 hx (hb hby at_47) ((if0 _ _).trans (tlt hc47_10).2.2.2) (pc' := 50) rfl
        replace k := Fw.iconst k X9 hx (hb hby at_50) (z := (1 : Int32)) (by decide) (pc' := 51) rfl
        replace k := Fw.istore k X9 hx (hb hby at_51)  (Ls' := #[.val (.int p1), .val (.int p2), .val (.int (p1 &&& (3 : Int32))), .val (.ref w_AT_OR_ABOVE), .val (.int 1), .unset]) rfl (pc' := 53) rfl
        replace k := Fw.goto k X9 hx (hb hby at_53) (by decide) (pc' := 63) rfl
        replace k := Fw.iloadN k X9 hx (hb hby at_63) rfl (pc' := 64) rfl
        replace k := Fw.ifYes k X9 hx (hb hby at_64) ((if0 _ _).trans (feq hc5_1).2) (by decide) (pc' := 83) rfl
        replace k := Fw.iloadN k X9 hx (hb hby at_83) rfl (pc' := 84) rfl
        replace k := Fw.iconst k X9 hx (hb hby at_84) (z := (1 : Int32)) (by decide) (pc' := 85) rfl
        replace k := Fw.icmpNo k X9 hx (hb hby at_85) (teq hc17_8).2 (pc' := 88) rfl
        replace k := Fw.iload k X9 hx (hb hby at_88) rfl (pc' := 90) rfl
        replace k := Fw.iconst k X9 hx (hb hby at_90) (z := (-1 : Int32)) (by decide) (pc' := 91) rfl
        replace k := Fw.icmpNo k X9 hx (hb hby at_91) (feq (show ¬ ((1 : Int32) = (-1 : Int32)) from by decide)).1 (pc' := 94) rfl
        replace k := Fw.iconst k X9 hx (hb hby at_94) (z := (1 : Int32)) (by decide) (pc' := 95) rfl
        replace k := Fw.goto k X9 hx (hb hby at_95) (by decide) (pc' := 99) rfl
        replace k := Fw.istore k X9 hx (hb hby at_99)  (Ls' := #[.val (.int p1), .val (.int p2), .val (.int (p1 &&& (3 : Int32))), .val (.ref w_AT_OR_ABOVE), .val (.int 1), .val (.int 1)]) rfl (pc' := 101) rfl
        replace k := Fw.goto k X9 hx (hb hby at_101) (by decide) (pc' := 138) rfl
        replace k := Fw.aloadN k X9 hx (hb hby at_138) rfl rfl (pc' := 139) rfl
        replace k := Fw.iloadN k X9 hx (hb hby at_139) rfl (pc' := 140) rfl
        obtain ⟨cq11, kq11, q11a, q11b, q11c⟩ := isOf hZ e9 (E_AT_OR_ABOVE.ext O0.2)
        obtain ⟨_, _, ⟨T11, L11, k11, n11⟩, -, X11, ⟨Lc11, hQ11, l11, y11, z11⟩, st11⟩ := X9.virtualBack hx (y := (⟨"com/example/fala/fala/engine/Policy$Operator", "holds", "(I)Z"⟩ : MethodName)) (z := (⟨"com/example/fala/fala/engine/Policy$Operator", "holds", "(I)Z"⟩ : MethodName)) hown (mvT hZ (hw _ (List.mem_of_getElem? (i := 3) rfl))) (mvT hZ (hw _ (List.mem_of_getElem? (i := 4) rfl))) (notFace_of_selects (args := #[]) (mvT hZ (hw _ (List.mem_of_getElem? (i := 6) rfl)))) (mvT hZ (hw _ (List.mem_of_getElem? (i := 6) rfl))) (mvT hZ (hw _ (List.mem_of_getElem? (i := 5) rfl))) (by decide) (backOf (W := 0) (rm_ho1 l Z a0 hw [] w_AT_OR_ABOVE p2 h0 n0 O0 (E_AT_OR_ABOVE.ext O0.2) (F_AT_OR_ABOVE.ext O0.2)) hZ (hw _ (List.mem_of_getElem? (i := 7) rfl)) (hw _ (List.mem_of_getElem? (i := 1) rfl)) (by decide) (by decide)) q11a q11c (g := (mkF m 140 #[.val (.int p1), .val (.int p2), .val (.int (p1 &&& (3 : Int32))), .val (.ref w_AT_OR_ABOVE), .val (.int 1), .val (.int 1)] [(.int p2), (.ref w_AT_OR_ABOVE)])) rfl (by rw [hml]; rfl) (Steps.refl _) (argsL := [(.int p2)]) (rest := []) (lenOf pd_I_r_Z rfl) rfl (by show 2 * 0 + _ ≤ _; exact Nat.le_of_eq rfl) (hb hby at_140) (fun _ _ => ⟨rfl, e9, (by decide : 0 + 0 ≤ _), (by decide : 0 + 0 ≤ _)⟩)
        dsimp only [Pt.U, Pt.locs, Pt.cells, Pt.slots] at X11 l11 y11 z11 st11 hQ11
        subst l11 y11 z11
        obtain ⟨hv11, N11q, e11⟩ := hQ11
        rw [show (if p2 < 0 then 0 else 1) = (1 : Int32) from by simp [hc47_10, own_asym hc47_10]] at hv11
        subst hv11
        have N11 := Fr.app N0 N11q
        replace k : Goes p e below s₁ G0 T11 (mkF m 143 #[.val (.int p1), .val (.int p2), .val (.int (p1 &&& (3 : Int32))), .val (.ref w_AT_OR_ABOVE), .val (.int 1), .val (.int 1)] [(.int 1)]) := fun t q => k t (st11.trans q)
        replace k := Fw.iload k X11 hx (hb hby at_143) rfl (pc' := 145) rfl
        replace k := Fw.icmpNo k X11 hx (hb hby at_145) (teq (show (1 : Int32) = (1 : Int32) from by decide)).2 (pc' := 148) rfl
        replace k := Fw.iconst k X11 hx (hb hby at_148) (z := (1 : Int32)) (by decide) (pc' := 149) rfl
        replace k := Fw.goto k X11 hx (hb hby at_149) (by decide) (pc' := 153) rfl
        obtain ⟨fs, hr, hrun, hended, hW, hsame⟩ := X11.leave (v := some (.int 1)) (fun h => by rw [Bd.returns] at h; cases h)
        refine ⟨_, _, pre0 _ (k _ ?_), hrun, hended, _, _, rfl, ?_, ⟨_, rfl⟩, hW, hsame.mono (by decide) (by decide)⟩
        · exact retN X11 hx (t := .boolean) Bd.returns (by simp) (hb hby at_153) hr
        · show Q_law Z p1 p2 w_ABOVE w_BELOW w_AT_OR_ABOVE w_AT_OR_BELOW h0 n0 _ T11.heap _
          rw [e11]
          exact ⟨rfl, N11, trivial⟩
      · replace k := Fw.ifYes k X9 hx (hb hby at_47) ((if0 _ _).trans (flt hc47_10).2.2.2) (by decide) (pc' := 56) rfl
        replace k := Fw.iloadN k X9 hx (hb hby at_56) rfl (pc' := 57) rfl
        by_cases hc57_12 : p2 < (0 : Int32)
        · replace k := Fw.ifNo k X9 hx (hb hby at_57) ((if0 _ _).trans (tlt hc57_12).2.1) (pc' := 60) rfl
          replace k := Fw.iconst k X9 hx (hb hby at_60) (z := (-1 : Int32)) (by decide) (pc' := 61) rfl
          replace k := Fw.istore k X9 hx (hb hby at_61)  (Ls' := #[.val (.int p1), .val (.int p2), .val (.int (p1 &&& (3 : Int32))), .val (.ref w_AT_OR_ABOVE), .val (.int (-1)), .unset]) rfl (pc' := 63) rfl
          replace k := Fw.iloadN k X9 hx (hb hby at_63) rfl (pc' := 64) rfl
          replace k := Fw.ifYes k X9 hx (hb hby at_64) ((if0 _ _).trans (feq hc5_1).2) (by decide) (pc' := 83) rfl
          replace k := Fw.iloadN k X9 hx (hb hby at_83) rfl (pc' := 84) rfl
          replace k := Fw.iconst k X9 hx (hb hby at_84) (z := (1 : Int32)) (by decide) (pc' := 85) rfl
          replace k := Fw.icmpNo k X9 hx (hb hby at_85) (teq hc17_8).2 (pc' := 88) rfl
          replace k := Fw.iload k X9 hx (hb hby at_88) rfl (pc' := 90) rfl
          replace k := Fw.iconst k X9 hx (hb hby at_90) (z := (-1 : Int32)) (by decide) (pc' := 91) rfl
          replace k := Fw.icmpYes k X9 hx (hb hby at_91) (teq (show (-1 : Int32) = (-1 : Int32) from by decide)).1 (by decide) (pc' := 98) rfl
          replace k := Fw.iconst k X9 hx (hb hby at_98) (z := (0 : Int32)) (by decide) (pc' := 99) rfl
          replace k := Fw.istore k X9 hx (hb hby at_99)  (Ls' := #[.val (.int p1), .val (.int p2), .val (.int (p1 &&& (3 : Int32))), .val (.ref w_AT_OR_ABOVE), .val (.int (-1)), .val (.int 0)]) rfl (pc' := 101) rfl
          replace k := Fw.goto k X9 hx (hb hby at_101) (by decide) (pc' := 138) rfl
          replace k := Fw.aloadN k X9 hx (hb hby at_138) rfl rfl (pc' := 139) rfl
          replace k := Fw.iloadN k X9 hx (hb hby at_139) rfl (pc' := 140) rfl
          obtain ⟨cq13, kq13, q13a, q13b, q13c⟩ := isOf hZ e9 (E_AT_OR_ABOVE.ext O0.2)
          obtain ⟨_, _, ⟨T13, L13, k13, n13⟩, -, X13, ⟨Lc13, hQ13, l13, y13, z13⟩, st13⟩ := X9.virtualBack hx (y := (⟨"com/example/fala/fala/engine/Policy$Operator", "holds", "(I)Z"⟩ : MethodName)) (z := (⟨"com/example/fala/fala/engine/Policy$Operator", "holds", "(I)Z"⟩ : MethodName)) hown (mvT hZ (hw _ (List.mem_of_getElem? (i := 3) rfl))) (mvT hZ (hw _ (List.mem_of_getElem? (i := 4) rfl))) (notFace_of_selects (args := #[]) (mvT hZ (hw _ (List.mem_of_getElem? (i := 6) rfl)))) (mvT hZ (hw _ (List.mem_of_getElem? (i := 6) rfl))) (mvT hZ (hw _ (List.mem_of_getElem? (i := 5) rfl))) (by decide) (backOf (W := 0) (rm_ho1 l Z a0 hw [] w_AT_OR_ABOVE p2 h0 n0 O0 (E_AT_OR_ABOVE.ext O0.2) (F_AT_OR_ABOVE.ext O0.2)) hZ (hw _ (List.mem_of_getElem? (i := 7) rfl)) (hw _ (List.mem_of_getElem? (i := 1) rfl)) (by decide) (by decide)) q13a q13c (g := (mkF m 140 #[.val (.int p1), .val (.int p2), .val (.int (p1 &&& (3 : Int32))), .val (.ref w_AT_OR_ABOVE), .val (.int (-1)), .val (.int 0)] [(.int p2), (.ref w_AT_OR_ABOVE)])) rfl (by rw [hml]; rfl) (Steps.refl _) (argsL := [(.int p2)]) (rest := []) (lenOf pd_I_r_Z rfl) rfl (by show 2 * 0 + _ ≤ _; exact Nat.le_of_eq rfl) (hb hby at_140) (fun _ _ => ⟨rfl, e9, (by decide : 0 + 0 ≤ _), (by decide : 0 + 0 ≤ _)⟩)
          dsimp only [Pt.U, Pt.locs, Pt.cells, Pt.slots] at X13 l13 y13 z13 st13 hQ13
          subst l13 y13 z13
          obtain ⟨hv13, N13q, e13⟩ := hQ13
          rw [show (if p2 < 0 then 0 else 1) = (0 : Int32) from by simp [hc47_10, hc57_12]] at hv13
          subst hv13
          have N13 := Fr.app N0 N13q
          replace k : Goes p e below s₁ G0 T13 (mkF m 143 #[.val (.int p1), .val (.int p2), .val (.int (p1 &&& (3 : Int32))), .val (.ref w_AT_OR_ABOVE), .val (.int (-1)), .val (.int 0)] [(.int 0)]) := fun t q => k t (st13.trans q)
          replace k := Fw.iload k X13 hx (hb hby at_143) rfl (pc' := 145) rfl
          replace k := Fw.icmpNo k X13 hx (hb hby at_145) (teq (show (0 : Int32) = (0 : Int32) from by decide)).2 (pc' := 148) rfl
          replace k := Fw.iconst k X13 hx (hb hby at_148) (z := (1 : Int32)) (by decide) (pc' := 149) rfl
          replace k := Fw.goto k X13 hx (hb hby at_149) (by decide) (pc' := 153) rfl
          obtain ⟨fs, hr, hrun, hended, hW, hsame⟩ := X13.leave (v := some (.int 1)) (fun h => by rw [Bd.returns] at h; cases h)
          refine ⟨_, _, pre0 _ (k _ ?_), hrun, hended, _, _, rfl, ?_, ⟨_, rfl⟩, hW, hsame.mono (by decide) (by decide)⟩
          · exact retN X13 hx (t := .boolean) Bd.returns (by simp) (hb hby at_153) hr
          · show Q_law Z p1 p2 w_ABOVE w_BELOW w_AT_OR_ABOVE w_AT_OR_BELOW h0 n0 _ T13.heap _
            rw [e13]
            exact ⟨rfl, N13, trivial⟩
        · replace k := Fw.ifYes k X9 hx (hb hby at_57) ((if0 _ _).trans (flt hc57_12).2.1) (by decide) (pc' := 63) rfl
          replace k := Fw.iloadN k X9 hx (hb hby at_63) rfl (pc' := 64) rfl
          replace k := Fw.ifYes k X9 hx (hb hby at_64) ((if0 _ _).trans (feq hc5_1).2) (by decide) (pc' := 83) rfl
          replace k := Fw.iloadN k X9 hx (hb hby at_83) rfl (pc' := 84) rfl
          replace k := Fw.iconst k X9 hx (hb hby at_84) (z := (1 : Int32)) (by decide) (pc' := 85) rfl
          replace k := Fw.icmpNo k X9 hx (hb hby at_85) (teq hc17_8).2 (pc' := 88) rfl
          replace k := Fw.iload k X9 hx (hb hby at_88) rfl (pc' := 90) rfl
          replace k := Fw.iconst k X9 hx (hb hby at_90) (z := (-1 : Int32)) (by decide) (pc' := 91) rfl
          replace k := Fw.icmpNo k X9 hx (hb hby at_91) (feq (show ¬ ((0 : Int32) = (-1 : Int32)) from by decide)).1 (pc' := 94) rfl
          replace k := Fw.iconst k X9 hx (hb hby at_94) (z := (1 : Int32)) (by decide) (pc' := 95) rfl
          replace k := Fw.goto k X9 hx (hb hby at_95) (by decide) (pc' := 99) rfl
          replace k := Fw.istore k X9 hx (hb hby at_99)  (Ls' := #[.val (.int p1), .val (.int p2), .val (.int (p1 &&& (3 : Int32))), .val (.ref w_AT_OR_ABOVE), .val (.int 0), .val (.int 1)]) rfl (pc' := 101) rfl
          replace k := Fw.goto k X9 hx (hb hby at_101) (by decide) (pc' := 138) rfl
          replace k := Fw.aloadN k X9 hx (hb hby at_138) rfl rfl (pc' := 139) rfl
          replace k := Fw.iloadN k X9 hx (hb hby at_139) rfl (pc' := 140) rfl
          obtain ⟨cq14, kq14, q14a, q14b, q14c⟩ := isOf hZ e9 (E_AT_OR_ABOVE.ext O0.2)
          obtain ⟨_, _, ⟨T14, L14, k14, n14⟩, -, X14, ⟨Lc14, hQ14, l14, y14, z14⟩, st14⟩ := X9.virtualBack hx (y := (⟨"com/example/fala/fala/engine/Policy$Operator", "holds", "(I)Z"⟩ : MethodName)) (z := (⟨"com/example/fala/fala/engine/Policy$Operator", "holds", "(I)Z"⟩ : MethodName)) hown (mvT hZ (hw _ (List.mem_of_getElem? (i := 3) rfl))) (mvT hZ (hw _ (List.mem_of_getElem? (i := 4) rfl))) (notFace_of_selects (args := #[]) (mvT hZ (hw _ (List.mem_of_getElem? (i := 6) rfl)))) (mvT hZ (hw _ (List.mem_of_getElem? (i := 6) rfl))) (mvT hZ (hw _ (List.mem_of_getElem? (i := 5) rfl))) (by decide) (backOf (W := 0) (rm_ho1 l Z a0 hw [] w_AT_OR_ABOVE p2 h0 n0 O0 (E_AT_OR_ABOVE.ext O0.2) (F_AT_OR_ABOVE.ext O0.2)) hZ (hw _ (List.mem_of_getElem? (i := 7) rfl)) (hw _ (List.mem_of_getElem? (i := 1) rfl)) (by decide) (by decide)) q14a q14c (g := (mkF m 140 #[.val (.int p1), .val (.int p2), .val (.int (p1 &&& (3 : Int32))), .val (.ref w_AT_OR_ABOVE), .val (.int 0), .val (.int 1)] [(.int p2), (.ref w_AT_OR_ABOVE)])) rfl (by rw [hml]; rfl) (Steps.refl _) (argsL := [(.int p2)]) (rest := []) (lenOf pd_I_r_Z rfl) rfl (by show 2 * 0 + _ ≤ _; exact Nat.le_of_eq rfl) (hb hby at_140) (fun _ _ => ⟨rfl, e9, (by decide : 0 + 0 ≤ _), (by decide : 0 + 0 ≤ _)⟩)
          dsimp only [Pt.U, Pt.locs, Pt.cells, Pt.slots] at X14 l14 y14 z14 st14 hQ14
          subst l14 y14 z14
          obtain ⟨hv14, N14q, e14⟩ := hQ14
          rw [show (if p2 < 0 then 0 else 1) = (1 : Int32) from by simp [hc47_10, hc57_12]] at hv14
          subst hv14
          have N14 := Fr.app N0 N14q
          replace k : Goes p e below s₁ G0 T14 (mkF m 143 #[.val (.int p1), .val (.int p2), .val (.int (p1 &&& (3 : Int32))), .val (.ref w_AT_OR_ABOVE), .val (.int 0), .val (.int 1)] [(.int 1)]) := fun t q => k t (st14.trans q)
          replace k := Fw.iload k X14 hx (hb hby at_143) rfl (pc' := 145) rfl
          replace k := Fw.icmpNo k X14 hx (hb hby at_145) (teq (show (1 : Int32) = (1 : Int32) from by decide)).2 (pc' := 148) rfl
          replace k := Fw.iconst k X14 hx (hb hby at_148) (z := (1 : Int32)) (by decide) (pc' := 149) rfl
          replace k := Fw.goto k X14 hx (hb hby at_149) (by decide) (pc' := 153) rfl
          obtain ⟨fs, hr, hrun, hended, hW, hsame⟩ := X14.leave (v := some (.int 1)) (fun h => by rw [Bd.returns] at h; cases h)
          refine ⟨_, _, pre0 _ (k _ ?_), hrun, hended, _, _, rfl, ?_, ⟨_, rfl⟩, hW, hsame.mono (by decide) (by decide)⟩
          · exact retN X14 hx (t := .boolean) Bd.returns (by simp) (hb hby at_153) hr
          · show Q_law Z p1 p2 w_ABOVE w_BELOW w_AT_OR_ABOVE w_AT_OR_BELOW h0 n0 _ T14.heap _
            rw [e14]
            exact ⟨rfl, N14, trivial⟩
    · replace k := Fw.icmpYes k X0 hx (hb hby at_17) (feq hc17_8).2 (by decide) (pc' := 27) rfl
      replace k := Fw.iloadN k X0 hx (hb hby at_27) rfl (pc' := 28) rfl
      replace k := Fw.iconst k X0 hx (hb hby at_28) (z := (2 : Int32)) (by decide) (pc' := 29) rfl
      by_cases hc29_15 : (p1 &&& (3 : Int32)) = (2 : Int32)
      · replace k := Fw.icmpNo k X0 hx (hb hby at_29) (teq hc29_15).2 (pc' := 32) rfl
        obtain ⟨T16, X16, e16, st16⟩ := getS2 X0 hx hZ hown (host := "") (Or.inl (hw _ (List.mem_of_getElem? (i := 17) rfl))) Via.refl e0 (S_BELOW.ext O0.2) (g := (mkF m 32 #[.val (.int p1), .val (.int p2), .val (.int (p1 &&& (3 : Int32))), .unset, .unset, .unset] [])) rfl (hb hby at_32)
        replace k : Goes p e below s₁ G0 T16 (mkF m 35 #[.val (.int p1), .val (.int p2), .val (.int (p1 &&& (3 : Int32))), .unset, .unset, .unset] [(.ref w_BELOW)]) := fun t q => k t (st16 _ q)
        replace k := Fw.astoreN k X16 hx (hb hby at_35)  rfl (Ls' := #[.val (.int p1), .val (.int p2), .val (.int (p1 &&& (3 : Int32))), .val (.ref w_BELOW), .unset, .unset]) rfl (pc' := 36) rfl
        replace k := Fw.goto k X16 hx (hb hby at_36) (by decide) (pc' := 43) rfl
        replace k := Fw.iconst k X16 hx (hb hby at_43) (z := (0 : Int32)) (by decide) (pc' := 44) rfl
        replace k := Fw.istore k X16 hx (hb hby at_44)  (Ls' := #[.val (.int p1), .val (.int p2), .val (.int (p1 &&& (3 : Int32))), .val (.ref w_BELOW), .val (.int 0), .unset]) rfl (pc' := 46) rfl
        replace k := Fw.iloadN k X16 hx (hb hby at_46) rfl (pc' := 47) rfl
        by_cases hc47_17 : (0 : Int32) < p2
        · replace k := Fw.ifNo k X16 hx (hb hby at_47) ((if0 _ _).trans (tlt hc47_17).2.2.2) (pc' := 50) rfl
          replace k := Fw.iconst k X16 hx (hb hby at_50) (z := (1 : Int32)) (by decide) (pc' := 51) rfl
          replace k := Fw.istore k X16 hx (hb hby at_51)  (Ls' := #[.val (.int p1), .val (.int p2), .val (.int (p1 &&& (3 : Int32))), .val (.ref w_BELOW), .val (.int 1), .unset]) rfl (pc' := 53) rfl
          replace k := Fw.goto k X16 hx (hb hby at_53) (by decide) (pc' := 63) rfl
          replace k := Fw.iloadN k X16 hx (hb hby at_63) rfl (pc' := 64) rfl
          replace k := Fw.ifYes k X16 hx (hb hby at_64) ((if0 _ _).trans (feq hc5_1).2) (by decide) (pc' := 83) rfl
          replace k := Fw.iloadN k X16 hx (hb hby at_83) rfl (pc' := 84) rfl
          replace k := Fw.iconst k X16 hx (hb hby at_84) (z := (1 : Int32)) (by decide) (pc' := 85) rfl
          replace k := Fw.icmpYes k X16 hx (hb hby at_85) (feq hc17_8).2 (by decide) (pc' := 104) rfl
          replace k := Fw.iloadN k X16 hx (hb hby at_104) rfl (pc' := 105) rfl
          replace k := Fw.iconst k X16 hx (hb hby at_105) (z := (2 : Int32)) (by decide) (pc' := 106) rfl
          replace k := Fw.icmpNo k X16 hx (hb hby at_106) (teq hc29_15).2 (pc' := 109) rfl
          replace k := Fw.iload k X16 hx (hb hby at_109) rfl (pc' := 111) rfl
          replace k := Fw.iconst k X16 hx (hb hby at_111) (z := (-1 : Int32)) (by decide) (pc' := 112) rfl
          replace k := Fw.icmpYes k X16 hx (hb hby at_112) (feq (show ¬ ((1 : Int32) = (-1 : Int32)) from by decide)).2 (by decide) (pc' := 119) rfl
          replace k := Fw.iconst k X16 hx (hb hby at_119) (z := (0 : Int32)) (by decide) (pc' := 120) rfl
          replace k := Fw.istore k X16 hx (hb hby at_120)  (Ls' := #[.val (.int p1), .val (.int p2), .val (.int (p1 &&& (3 : Int32))), .val (.ref w_BELOW), .val (.int 1), .val (.int 0)]) rfl (pc' := 122) rfl
          replace k := Fw.goto k X16 hx (hb hby at_122) (by decide) (pc' := 138) rfl
          replace k := Fw.aloadN k X16 hx (hb hby at_138) rfl rfl (pc' := 139) rfl
          replace k := Fw.iloadN k X16 hx (hb hby at_139) rfl (pc' := 140) rfl
          obtain ⟨cq18, kq18, q18a, q18b, q18c⟩ := isOf hZ e16 (E_BELOW.ext O0.2)
          obtain ⟨_, _, ⟨T18, L18, k18, n18⟩, -, X18, ⟨Lc18, hQ18, l18, y18, z18⟩, st18⟩ := X16.virtualBack hx (y := (⟨"com/example/fala/fala/engine/Policy$Operator", "holds", "(I)Z"⟩ : MethodName)) (z := (⟨"com/example/fala/fala/engine/Policy$Operator", "holds", "(I)Z"⟩ : MethodName)) hown (mvT hZ (hw _ (List.mem_of_getElem? (i := 3) rfl))) (mvT hZ (hw _ (List.mem_of_getElem? (i := 4) rfl))) (notFace_of_selects (args := #[]) (mvT hZ (hw _ (List.mem_of_getElem? (i := 6) rfl)))) (mvT hZ (hw _ (List.mem_of_getElem? (i := 6) rfl))) (mvT hZ (hw _ (List.mem_of_getElem? (i := 5) rfl))) (by decide) (backOf (W := 0) (rm_ho2 l Z a0 hw [] w_BELOW p2 h0 n0 O0 (E_BELOW.ext O0.2) (F_BELOW.ext O0.2)) hZ (hw _ (List.mem_of_getElem? (i := 7) rfl)) (hw _ (List.mem_of_getElem? (i := 1) rfl)) (by decide) (by decide)) q18a q18c (g := (mkF m 140 #[.val (.int p1), .val (.int p2), .val (.int (p1 &&& (3 : Int32))), .val (.ref w_BELOW), .val (.int 1), .val (.int 0)] [(.int p2), (.ref w_BELOW)])) rfl (by rw [hml]; rfl) (Steps.refl _) (argsL := [(.int p2)]) (rest := []) (lenOf pd_I_r_Z rfl) rfl (by show 2 * 0 + _ ≤ _; exact Nat.le_of_eq rfl) (hb hby at_140) (fun _ _ => ⟨rfl, e16, (by decide : 0 + 0 ≤ _), (by decide : 0 + 0 ≤ _)⟩)
          dsimp only [Pt.U, Pt.locs, Pt.cells, Pt.slots] at X18 l18 y18 z18 st18 hQ18
          subst l18 y18 z18
          obtain ⟨hv18, N18q, e18⟩ := hQ18
          rw [show (if p2 < 0 then 1 else 0) = (0 : Int32) from by simp [hc47_17, own_asym hc47_17]] at hv18
          subst hv18
          have N18 := Fr.app N0 N18q
          replace k : Goes p e below s₁ G0 T18 (mkF m 143 #[.val (.int p1), .val (.int p2), .val (.int (p1 &&& (3 : Int32))), .val (.ref w_BELOW), .val (.int 1), .val (.int 0)] [(.int 0)]) := fun t q => k t (st18.trans q)
          replace k := Fw.iload k X18 hx (hb hby at_143) rfl (pc' := 145) rfl
          replace k := Fw.icmpNo k X18 hx (hb hby at_145) (teq (show (0 : Int32) = (0 : Int32) from by decide)).2 (pc' := 148) rfl
          replace k := Fw.iconst k X18 hx (hb hby at_148) (z := (1 : Int32)) (by decide) (pc' := 149) rfl
          replace k := Fw.goto k X18 hx (hb hby at_149) (by decide) (pc' := 153) rfl
          obtain ⟨fs, hr, hrun, hended, hW, hsame⟩ := X18.leave (v := some (.int 1)) (fun h => by rw [Bd.returns] at h; cases h)
          refine ⟨_, _, pre0 _ (k _ ?_), hrun, hended, _, _, rfl, ?_, ⟨_, rfl⟩, hW, hsame.mono (by decide) (by decide)⟩
          · exact retN X18 hx (t := .boolean) Bd.returns (by simp) (hb hby at_153) hr
          · show Q_law Z p1 p2 w_ABOVE w_BELOW w_AT_OR_ABOVE w_AT_OR_BELOW h0 n0 _ T18.heap _
            rw [e18]
            exact ⟨rfl, N18, trivial⟩
        · replace k := Fw.ifYes k X16 hx (hb hby at_47) ((if0 _ _).trans (flt hc47_17).2.2.2) (by decide) (pc' := 56) rfl
          replace k := Fw.iloadN k X16 hx (hb hby at_56) rfl (pc' := 57) rfl
          by_cases hc57_19 : p2 < (0 : Int32)
          · replace k := Fw.ifNo k X16 hx (hb hby at_57) ((if0 _ _).trans (tlt hc57_19).2.1) (pc' := 60) rfl
            replace k := Fw.iconst k X16 hx (hb hby at_60) (z := (-1 : Int32)) (by decide) (pc' := 61) rfl
            replace k := Fw.istore k X16 hx (hb hby at_61)  (Ls' := #[.val (.int p1), .val (.int p2), .val (.int (p1 &&& (3 : Int32))), .val (.ref w_BELOW), .val (.int (-1)), .unset]) rfl (pc' := 63) rfl
            replace k := Fw.iloadN k X16 hx (hb hby at_63) rfl (pc' := 64) rfl
            replace k := Fw.ifYes k X16 hx (hb hby at_64) ((if0 _ _).trans (feq hc5_1).2) (by decide) (pc' := 83) rfl
            replace k := Fw.iloadN k X16 hx (hb hby at_83) rfl (pc' := 84) rfl
            replace k := Fw.iconst k X16 hx (hb hby at_84) (z := (1 : Int32)) (by decide) (pc' := 85) rfl
            replace k := Fw.icmpYes k X16 hx (hb hby at_85) (feq hc17_8).2 (by decide) (pc' := 104) rfl
            replace k := Fw.iloadN k X16 hx (hb hby at_104) rfl (pc' := 105) rfl
            replace k := Fw.iconst k X16 hx (hb hby at_105) (z := (2 : Int32)) (by decide) (pc' := 106) rfl
            replace k := Fw.icmpNo k X16 hx (hb hby at_106) (teq hc29_15).2 (pc' := 109) rfl
            replace k := Fw.iload k X16 hx (hb hby at_109) rfl (pc' := 111) rfl
            replace k := Fw.iconst k X16 hx (hb hby at_111) (z := (-1 : Int32)) (by decide) (pc' := 112) rfl
            replace k := Fw.icmpNo k X16 hx (hb hby at_112) (teq (show (-1 : Int32) = (-1 : Int32) from by decide)).2 (pc' := 115) rfl
            replace k := Fw.iconst k X16 hx (hb hby at_115) (z := (1 : Int32)) (by decide) (pc' := 116) rfl
            replace k := Fw.goto k X16 hx (hb hby at_116) (by decide) (pc' := 120) rfl
            replace k := Fw.istore k X16 hx (hb hby at_120)  (Ls' := #[.val (.int p1), .val (.int p2), .val (.int (p1 &&& (3 : Int32))), .val (.ref w_BELOW), .val (.int (-1)), .val (.int 1)]) rfl (pc' := 122) rfl
            replace k := Fw.goto k X16 hx (hb hby at_122) (by decide) (pc' := 138) rfl
            replace k := Fw.aloadN k X16 hx (hb hby at_138) rfl rfl (pc' := 139) rfl
            replace k := Fw.iloadN k X16 hx (hb hby at_139) rfl (pc' := 140) rfl
            obtain ⟨cq20, kq20, q20a, q20b, q20c⟩ := isOf hZ e16 (E_BELOW.ext O0.2)
            obtain ⟨_, _, ⟨T20, L20, k20, n20⟩, -, X20, ⟨Lc20, hQ20, l20, y20, z20⟩, st20⟩ := X16.virtualBack hx (y := (⟨"com/example/fala/fala/engine/Policy$Operator", "holds", "(I)Z"⟩ : MethodName)) (z := (⟨"com/example/fala/fala/engine/Policy$Operator", "holds", "(I)Z"⟩ : MethodName)) hown (mvT hZ (hw _ (List.mem_of_getElem? (i := 3) rfl))) (mvT hZ (hw _ (List.mem_of_getElem? (i := 4) rfl))) (notFace_of_selects (args := #[]) (mvT hZ (hw _ (List.mem_of_getElem? (i := 6) rfl)))) (mvT hZ (hw _ (List.mem_of_getElem? (i := 6) rfl))) (mvT hZ (hw _ (List.mem_of_getElem? (i := 5) rfl))) (by decide) (backOf (W := 0) (rm_ho2 l Z a0 hw [] w_BELOW p2 h0 n0 O0 (E_BELOW.ext O0.2) (F_BELOW.ext O0.2)) hZ (hw _ (List.mem_of_getElem? (i := 7) rfl)) (hw _ (List.mem_of_getElem? (i := 1) rfl)) (by decide) (by decide)) q20a q20c (g := (mkF m 140 #[.val (.int p1), .val (.int p2), .val (.int (p1 &&& (3 : Int32))), .val (.ref w_BELOW), .val (.int (-1)), .val (.int 1)] [(.int p2), (.ref w_BELOW)])) rfl (by rw [hml]; rfl) (Steps.refl _) (argsL := [(.int p2)]) (rest := []) (lenOf pd_I_r_Z rfl) rfl (by show 2 * 0 + _ ≤ _; exact Nat.le_of_eq rfl) (hb hby at_140) (fun _ _ => ⟨rfl, e16, (by decide : 0 + 0 ≤ _), (by decide : 0 + 0 ≤ _)⟩)
            dsimp only [Pt.U, Pt.locs, Pt.cells, Pt.slots] at X20 l20 y20 z20 st20 hQ20
            subst l20 y20 z20
            obtain ⟨hv20, N20q, e20⟩ := hQ20
            rw [show (if p2 < 0 then 1 else 0) = (1 : Int32) from by simp [hc47_17, hc57_19]] at hv20
            subst hv20
            have N20 := Fr.app N0 N20q
            replace k : Goes p e below s₁ G0 T20 (mkF m 143 #[.val (.int p1), .val (.int p2), .val (.int (p1 &&& (3 : Int32))), .val (.ref w_BELOW), .val (.int (-1)), .val (.int 1)] [(.int 1)]) := fun t q => k t (st20.trans q)
            replace k := Fw.iload k X20 hx (hb hby at_143) rfl (pc' := 145) rfl
            replace k := Fw.icmpNo k X20 hx (hb hby at_145) (teq (show (1 : Int32) = (1 : Int32) from by decide)).2 (pc' := 148) rfl
            replace k := Fw.iconst k X20 hx (hb hby at_148) (z := (1 : Int32)) (by decide) (pc' := 149) rfl
            replace k := Fw.goto k X20 hx (hb hby at_149) (by decide) (pc' := 153) rfl
            obtain ⟨fs, hr, hrun, hended, hW, hsame⟩ := X20.leave (v := some (.int 1)) (fun h => by rw [Bd.returns] at h; cases h)
            refine ⟨_, _, pre0 _ (k _ ?_), hrun, hended, _, _, rfl, ?_, ⟨_, rfl⟩, hW, hsame.mono (by decide) (by decide)⟩
            · exact retN X20 hx (t := .boolean) Bd.returns (by simp) (hb hby at_153) hr
            · show Q_law Z p1 p2 w_ABOVE w_BELOW w_AT_OR_ABOVE w_AT_OR_BELOW h0 n0 _ T20.heap _
              rw [e20]
              exact ⟨rfl, N20, trivial⟩
          · replace k := Fw.ifYes k X16 hx (hb hby at_57) ((if0 _ _).trans (flt hc57_19).2.1) (by decide) (pc' := 63) rfl
            replace k := Fw.iloadN k X16 hx (hb hby at_63) rfl (pc' := 64) rfl
            replace k := Fw.ifYes k X16 hx (hb hby at_64) ((if0 _ _).trans (feq hc5_1).2) (by decide) (pc' := 83) rfl
            replace k := Fw.iloadN k X16 hx (hb hby at_83) rfl (pc' := 84) rfl
            replace k := Fw.iconst k X16 hx (hb hby at_84) (z := (1 : Int32)) (by decide) (pc' := 85) rfl
            replace k := Fw.icmpYes k X16 hx (hb hby at_85) (feq hc17_8).2 (by decide) (pc' := 104) rfl
            replace k := Fw.iloadN k X16 hx (hb hby at_104) rfl (pc' := 105) rfl
            replace k := Fw.iconst k X16 hx (hb hby at_105) (z := (2 : Int32)) (by decide) (pc' := 106) rfl
            replace k := Fw.icmpNo k X16 hx (hb hby at_106) (teq hc29_15).2 (pc' := 109) rfl
            replace k := Fw.iload k X16 hx (hb hby at_109) rfl (pc' := 111) rfl
            replace k := Fw.iconst k X16 hx (hb hby at_111) (z := (-1 : Int32)) (by decide) (pc' := 112) rfl
            replace k := Fw.icmpYes k X16 hx (hb hby at_112) (feq (show ¬ ((0 : Int32) = (-1 : Int32)) from by decide)).2 (by decide) (pc' := 119) rfl
            replace k := Fw.iconst k X16 hx (hb hby at_119) (z := (0 : Int32)) (by decide) (pc' := 120) rfl
            replace k := Fw.istore k X16 hx (hb hby at_120)  (Ls' := #[.val (.int p1), .val (.int p2), .val (.int (p1 &&& (3 : Int32))), .val (.ref w_BELOW), .val (.int 0), .val (.int 0)]) rfl (pc' := 122) rfl
            replace k := Fw.goto k X16 hx (hb hby at_122) (by decide) (pc' := 138) rfl
            replace k := Fw.aloadN k X16 hx (hb hby at_138) rfl rfl (pc' := 139) rfl
            replace k := Fw.iloadN k X16 hx (hb hby at_139) rfl (pc' := 140) rfl
            obtain ⟨cq21, kq21, q21a, q21b, q21c⟩ := isOf hZ e16 (E_BELOW.ext O0.2)
            obtain ⟨_, _, ⟨T21, L21, k21, n21⟩, -, X21, ⟨Lc21, hQ21, l21, y21, z21⟩, st21⟩ := X16.virtualBack hx (y := (⟨"com/example/fala/fala/engine/Policy$Operator", "holds", "(I)Z"⟩ : MethodName)) (z := (⟨"com/example/fala/fala/engine/Policy$Operator", "holds", "(I)Z"⟩ : MethodName)) hown (mvT hZ (hw _ (List.mem_of_getElem? (i := 3) rfl))) (mvT hZ (hw _ (List.mem_of_getElem? (i := 4) rfl))) (notFace_of_selects (args := #[]) (mvT hZ (hw _ (List.mem_of_getElem? (i := 6) rfl)))) (mvT hZ (hw _ (List.mem_of_getElem? (i := 6) rfl))) (mvT hZ (hw _ (List.mem_of_getElem? (i := 5) rfl))) (by decide) (backOf (W := 0) (rm_ho2 l Z a0 hw [] w_BELOW p2 h0 n0 O0 (E_BELOW.ext O0.2) (F_BELOW.ext O0.2)) hZ (hw _ (List.mem_of_getElem? (i := 7) rfl)) (hw _ (List.mem_of_getElem? (i := 1) rfl)) (by decide) (by decide)) q21a q21c (g := (mkF m 140 #[.val (.int p1), .val (.int p2), .val (.int (p1 &&& (3 : Int32))), .val (.ref w_BELOW), .val (.int 0), .val (.int 0)] [(.int p2), (.ref w_BELOW)])) rfl (by rw [hml]; rfl) (Steps.refl _) (argsL := [(.int p2)]) (rest := []) (lenOf pd_I_r_Z rfl) rfl (by show 2 * 0 + _ ≤ _; exact Nat.le_of_eq rfl) (hb hby at_140) (fun _ _ => ⟨rfl, e16, (by decide : 0 + 0 ≤ _), (by decide : 0 + 0 ≤ _)⟩)
            dsimp only [Pt.U, Pt.locs, Pt.cells, Pt.slots] at X21 l21 y21 z21 st21 hQ21
            subst l21 y21 z21
            obtain ⟨hv21, N21q, e21⟩ := hQ21
            rw [show (if p2 < 0 then 1 else 0) = (0 : Int32) from by simp [hc47_17, hc57_19]] at hv21
            subst hv21
            have N21 := Fr.app N0 N21q
            replace k : Goes p e below s₁ G0 T21 (mkF m 143 #[.val (.int p1), .val (.int p2), .val (.int (p1 &&& (3 : Int32))), .val (.ref w_BELOW), .val (.int 0), .val (.int 0)] [(.int 0)]) := fun t q => k t (st21.trans q)
            replace k := Fw.iload k X21 hx (hb hby at_143) rfl (pc' := 145) rfl
            replace k := Fw.icmpNo k X21 hx (hb hby at_145) (teq (show (0 : Int32) = (0 : Int32) from by decide)).2 (pc' := 148) rfl
            replace k := Fw.iconst k X21 hx (hb hby at_148) (z := (1 : Int32)) (by decide) (pc' := 149) rfl
            replace k := Fw.goto k X21 hx (hb hby at_149) (by decide) (pc' := 153) rfl
            obtain ⟨fs, hr, hrun, hended, hW, hsame⟩ := X21.leave (v := some (.int 1)) (fun h => by rw [Bd.returns] at h; cases h)
            refine ⟨_, _, pre0 _ (k _ ?_), hrun, hended, _, _, rfl, ?_, ⟨_, rfl⟩, hW, hsame.mono (by decide) (by decide)⟩
            · exact retN X21 hx (t := .boolean) Bd.returns (by simp) (hb hby at_153) hr
            · show Q_law Z p1 p2 w_ABOVE w_BELOW w_AT_OR_ABOVE w_AT_OR_BELOW h0 n0 _ T21.heap _
              rw [e21]
              exact ⟨rfl, N21, trivial⟩
      · replace k := Fw.icmpYes k X0 hx (hb hby at_29) (feq hc29_15).2 (by decide) (pc' := 39) rfl
        obtain ⟨T22, X22, e22, st22⟩ := getS2 X0 hx hZ hown (host := "") (Or.inl (hw _ (List.mem_of_getElem? (i := 21) rfl))) Via.refl e0 (S_AT_OR_BELOW.ext O0.2) (g := (mkF m 39 #[.val (.int p1), .val (.int p2), .val (.int (p1 &&& (3 : Int32))), .unset, .unset, .unset] [])) rfl (hb hby at_39)
        replace k : Goes p e below s₁ G0 T22 (mkF m 42 #[.val (.int p1), .val (.int p2), .val (.int (p1 &&& (3 : Int32))), .unset, .unset, .unset] [(.ref w_AT_OR_BELOW)]) := fun t q => k t (st22 _ q)
        replace k := Fw.astoreN k X22 hx (hb hby at_42)  rfl (Ls' := #[.val (.int p1), .val (.int p2), .val (.int (p1 &&& (3 : Int32))), .val (.ref w_AT_OR_BELOW), .unset, .unset]) rfl (pc' := 43) rfl
        replace k := Fw.iconst k X22 hx (hb hby at_43) (z := (0 : Int32)) (by decide) (pc' := 44) rfl
        replace k := Fw.istore k X22 hx (hb hby at_44)  (Ls' := #[.val (.int p1), .val (.int p2), .val (.int (p1 &&& (3 : Int32))), .val (.ref w_AT_OR_BELOW), .val (.int 0), .unset]) rfl (pc' := 46) rfl
        replace k := Fw.iloadN k X22 hx (hb hby at_46) rfl (pc' := 47) rfl
        by_cases hc47_23 : (0 : Int32) < p2
        · replace k := Fw.ifNo k X22 hx (hb hby at_47) ((if0 _ _).trans (tlt hc47_23).2.2.2) (pc' := 50) rfl
          replace k := Fw.iconst k X22 hx (hb hby at_50) (z := (1 : Int32)) (by decide) (pc' := 51) rfl
          replace k := Fw.istore k X22 hx (hb hby at_51)  (Ls' := #[.val (.int p1), .val (.int p2), .val (.int (p1 &&& (3 : Int32))), .val (.ref w_AT_OR_BELOW), .val (.int 1), .unset]) rfl (pc' := 53) rfl
          replace k := Fw.goto k X22 hx (hb hby at_53) (by decide) (pc' := 63) rfl
          replace k := Fw.iloadN k X22 hx (hb hby at_63) rfl (pc' := 64) rfl
          replace k := Fw.ifYes k X22 hx (hb hby at_64) ((if0 _ _).trans (feq hc5_1).2) (by decide) (pc' := 83) rfl
          replace k := Fw.iloadN k X22 hx (hb hby at_83) rfl (pc' := 84) rfl
          replace k := Fw.iconst k X22 hx (hb hby at_84) (z := (1 : Int32)) (by decide) (pc' := 85) rfl
          replace k := Fw.icmpYes k X22 hx (hb hby at_85) (feq hc17_8).2 (by decide) (pc' := 104) rfl
          replace k := Fw.iloadN k X22 hx (hb hby at_104) rfl (pc' := 105) rfl
          replace k := Fw.iconst k X22 hx (hb hby at_105) (z := (2 : Int32)) (by decide) (pc' := 106) rfl
          replace k := Fw.icmpYes k X22 hx (hb hby at_106) (feq hc29_15).2 (by decide) (pc' := 125) rfl
          replace k := Fw.iload k X22 hx (hb hby at_125) rfl (pc' := 127) rfl
          replace k := Fw.iconst k X22 hx (hb hby at_127) (z := (1 : Int32)) (by decide) (pc' := 128) rfl
          replace k := Fw.icmpYes k X22 hx (hb hby at_128) (teq (show (1 : Int32) = (1 : Int32) from by decide)).1 (by decide) (pc' := 135) rfl
          replace k := Fw.iconst k X22 hx (hb hby at_135) (z := (0 : Int32)) (by decide) (pc' := 136) rfl
          replace k := Fw.istore k X22 hx (hb hby at_136)  (Ls' := #[.val (.int p1), .val (.int p2), .val (.int (p1 &&& (3 : Int32))), .val (.ref w_AT_OR_BELOW), .val (.int 1), .val (.int 0)]) rfl (pc' := 138) rfl
          replace k := Fw.aloadN k X22 hx (hb hby at_138) rfl rfl (pc' := 139) rfl
          replace k := Fw.iloadN k X22 hx (hb hby at_139) rfl (pc' := 140) rfl
          obtain ⟨cq24, kq24, q24a, q24b, q24c⟩ := isOf hZ e22 (E_AT_OR_BELOW.ext O0.2)
          obtain ⟨_, _, ⟨T24, L24, k24, n24⟩, -, X24, ⟨Lc24, hQ24, l24, y24, z24⟩, st24⟩ := X22.virtualBack hx (y := (⟨"com/example/fala/fala/engine/Policy$Operator", "holds", "(I)Z"⟩ : MethodName)) (z := (⟨"com/example/fala/fala/engine/Policy$Operator", "holds", "(I)Z"⟩ : MethodName)) hown (mvT hZ (hw _ (List.mem_of_getElem? (i := 3) rfl))) (mvT hZ (hw _ (List.mem_of_getElem? (i := 4) rfl))) (notFace_of_selects (args := #[]) (mvT hZ (hw _ (List.mem_of_getElem? (i := 6) rfl)))) (mvT hZ (hw _ (List.mem_of_getElem? (i := 6) rfl))) (mvT hZ (hw _ (List.mem_of_getElem? (i := 5) rfl))) (by decide) (backOf (W := 0) (rm_ho3 l Z a0 hw [] w_AT_OR_BELOW p2 h0 n0 O0 (E_AT_OR_BELOW.ext O0.2) (F_AT_OR_BELOW.ext O0.2)) hZ (hw _ (List.mem_of_getElem? (i := 7) rfl)) (hw _ (List.mem_of_getElem? (i := 1) rfl)) (by decide) (by decide)) q24a q24c (g := (mkF m 140 #[.val (.int p1), .val (.int p2), .val (.int (p1 &&& (3 : Int32))), .val (.ref w_AT_OR_BELOW), .val (.int 1), .val (.int 0)] [(.int p2), (.ref w_AT_OR_BELOW)])) rfl (by rw [hml]; rfl) (Steps.refl _) (argsL := [(.int p2)]) (rest := []) (lenOf pd_I_r_Z rfl) rfl (by show 2 * 0 + _ ≤ _; exact Nat.le_of_eq rfl) (hb hby at_140) (fun _ _ => ⟨rfl, e22, (by decide : 0 + 0 ≤ _), (by decide : 0 + 0 ≤ _)⟩)
          dsimp only [Pt.U, Pt.locs, Pt.cells, Pt.slots] at X24 l24 y24 z24 st24 hQ24
          subst l24 y24 z24
          obtain ⟨hv24, N24q, e24⟩ := hQ24
          rw [show (if 0 < p2 then 0 else 1) = (0 : Int32) from by simp [hc47_23, own_asym hc47_23]] at hv24
          subst hv24
          have N24 := Fr.app N0 N24q
          replace k : Goes p e below s₁ G0 T24 (mkF m 143 #[.val (.int p1), .val (.int p2), .val (.int (p1 &&& (3 : Int32))), .val (.ref w_AT_OR_BELOW), .val (.int 1), .val (.int 0)] [(.int 0)]) := fun t q => k t (st24.trans q)
          replace k := Fw.iload k X24 hx (hb hby at_143) rfl (pc' := 145) rfl
          replace k := Fw.icmpNo k X24 hx (hb hby at_145) (teq (show (0 : Int32) = (0 : Int32) from by decide)).2 (pc' := 148) rfl
          replace k := Fw.iconst k X24 hx (hb hby at_148) (z := (1 : Int32)) (by decide) (pc' := 149) rfl
          replace k := Fw.goto k X24 hx (hb hby at_149) (by decide) (pc' := 153) rfl
          obtain ⟨fs, hr, hrun, hended, hW, hsame⟩ := X24.leave (v := some (.int 1)) (fun h => by rw [Bd.returns] at h; cases h)
          refine ⟨_, _, pre0 _ (k _ ?_), hrun, hended, _, _, rfl, ?_, ⟨_, rfl⟩, hW, hsame.mono (by decide) (by decide)⟩
          · exact retN X24 hx (t := .boolean) Bd.returns (by simp) (hb hby at_153) hr
          · show Q_law Z p1 p2 w_ABOVE w_BELOW w_AT_OR_ABOVE w_AT_OR_BELOW h0 n0 _ T24.heap _
            rw [e24]
            exact ⟨rfl, N24, trivial⟩
        · replace k := Fw.ifYes k X22 hx (hb hby at_47) ((if0 _ _).trans (flt hc47_23).2.2.2) (by decide) (pc' := 56) rfl
          replace k := Fw.iloadN k X22 hx (hb hby at_56) rfl (pc' := 57) rfl
          by_cases hc57_25 : p2 < (0 : Int32)
          · replace k := Fw.ifNo k X22 hx (hb hby at_57) ((if0 _ _).trans (tlt hc57_25).2.1) (pc' := 60) rfl
            replace k := Fw.iconst k X22 hx (hb hby at_60) (z := (-1 : Int32)) (by decide) (pc' := 61) rfl
            replace k := Fw.istore k X22 hx (hb hby at_61)  (Ls' := #[.val (.int p1), .val (.int p2), .val (.int (p1 &&& (3 : Int32))), .val (.ref w_AT_OR_BELOW), .val (.int (-1)), .unset]) rfl (pc' := 63) rfl
            replace k := Fw.iloadN k X22 hx (hb hby at_63) rfl (pc' := 64) rfl
            replace k := Fw.ifYes k X22 hx (hb hby at_64) ((if0 _ _).trans (feq hc5_1).2) (by decide) (pc' := 83) rfl
            replace k := Fw.iloadN k X22 hx (hb hby at_83) rfl (pc' := 84) rfl
            replace k := Fw.iconst k X22 hx (hb hby at_84) (z := (1 : Int32)) (by decide) (pc' := 85) rfl
            replace k := Fw.icmpYes k X22 hx (hb hby at_85) (feq hc17_8).2 (by decide) (pc' := 104) rfl
            replace k := Fw.iloadN k X22 hx (hb hby at_104) rfl (pc' := 105) rfl
            replace k := Fw.iconst k X22 hx (hb hby at_105) (z := (2 : Int32)) (by decide) (pc' := 106) rfl
            replace k := Fw.icmpYes k X22 hx (hb hby at_106) (feq hc29_15).2 (by decide) (pc' := 125) rfl
            replace k := Fw.iload k X22 hx (hb hby at_125) rfl (pc' := 127) rfl
            replace k := Fw.iconst k X22 hx (hb hby at_127) (z := (1 : Int32)) (by decide) (pc' := 128) rfl
            replace k := Fw.icmpNo k X22 hx (hb hby at_128) (feq (show ¬ ((-1 : Int32) = (1 : Int32)) from by decide)).1 (pc' := 131) rfl
            replace k := Fw.iconst k X22 hx (hb hby at_131) (z := (1 : Int32)) (by decide) (pc' := 132) rfl
            replace k := Fw.goto k X22 hx (hb hby at_132) (by decide) (pc' := 136) rfl
            replace k := Fw.istore k X22 hx (hb hby at_136)  (Ls' := #[.val (.int p1), .val (.int p2), .val (.int (p1 &&& (3 : Int32))), .val (.ref w_AT_OR_BELOW), .val (.int (-1)), .val (.int 1)]) rfl (pc' := 138) rfl
            replace k := Fw.aloadN k X22 hx (hb hby at_138) rfl rfl (pc' := 139) rfl
            replace k := Fw.iloadN k X22 hx (hb hby at_139) rfl (pc' := 140) rfl
            obtain ⟨cq26, kq26, q26a, q26b, q26c⟩ := isOf hZ e22 (E_AT_OR_BELOW.ext O0.2)
            obtain ⟨_, _, ⟨T26, L26, k26, n26⟩, -, X26, ⟨Lc26, hQ26, l26, y26, z26⟩, st26⟩ := X22.virtualBack hx (y := (⟨"com/example/fala/fala/engine/Policy$Operator", "holds", "(I)Z"⟩ : MethodName)) (z := (⟨"com/example/fala/fala/engine/Policy$Operator", "holds", "(I)Z"⟩ : MethodName)) hown (mvT hZ (hw _ (List.mem_of_getElem? (i := 3) rfl))) (mvT hZ (hw _ (List.mem_of_getElem? (i := 4) rfl))) (notFace_of_selects (args := #[]) (mvT hZ (hw _ (List.mem_of_getElem? (i := 6) rfl)))) (mvT hZ (hw _ (List.mem_of_getElem? (i := 6) rfl))) (mvT hZ (hw _ (List.mem_of_getElem? (i := 5) rfl))) (by decide) (backOf (W := 0) (rm_ho3 l Z a0 hw [] w_AT_OR_BELOW p2 h0 n0 O0 (E_AT_OR_BELOW.ext O0.2) (F_AT_OR_BELOW.ext O0.2)) hZ (hw _ (List.mem_of_getElem? (i := 7) rfl)) (hw _ (List.mem_of_getElem? (i := 1) rfl)) (by decide) (by decide)) q26a q26c (g := (mkF m 140 #[.val (.int p1), .val (.int p2), .val (.int (p1 &&& (3 : Int32))), .val (.ref w_AT_OR_BELOW), .val (.int (-1)), .val (.int 1)] [(.int p2), (.ref w_AT_OR_BELOW)])) rfl (by rw [hml]; rfl) (Steps.refl _) (argsL := [(.int p2)]) (rest := []) (lenOf pd_I_r_Z rfl) rfl (by show 2 * 0 + _ ≤ _; exact Nat.le_of_eq rfl) (hb hby at_140) (fun _ _ => ⟨rfl, e22, (by decide : 0 + 0 ≤ _), (by decide : 0 + 0 ≤ _)⟩)
            dsimp only [Pt.U, Pt.locs, Pt.cells, Pt.slots] at X26 l26 y26 z26 st26 hQ26
            subst l26 y26 z26
            obtain ⟨hv26, N26q, e26⟩ := hQ26
            rw [show (if 0 < p2 then 0 else 1) = (1 : Int32) from by simp [hc47_23, hc57_25]] at hv26
            subst hv26
            have N26 := Fr.app N0 N26q
            replace k : Goes p e below s₁ G0 T26 (mkF m 143 #[.val (.int p1), .val (.int p2), .val (.int (p1 &&& (3 : Int32))), .val (.ref w_AT_OR_BELOW), .val (.int (-1)), .val (.int 1)] [(.int 1)]) := fun t q => k t (st26.trans q)
            replace k := Fw.iload k X26 hx (hb hby at_143) rfl (pc' := 145) rfl
            replace k := Fw.icmpNo k X26 hx (hb hby at_145) (teq (show (1 : Int32) = (1 : Int32) from by decide)).2 (pc' := 148) rfl
            replace k := Fw.iconst k X26 hx (hb hby at_148) (z := (1 : Int32)) (by decide) (pc' := 149) rfl
            replace k := Fw.goto k X26 hx (hb hby at_149) (by decide) (pc' := 153) rfl
            obtain ⟨fs, hr, hrun, hended, hW, hsame⟩ := X26.leave (v := some (.int 1)) (fun h => by rw [Bd.returns] at h; cases h)
            refine ⟨_, _, pre0 _ (k _ ?_), hrun, hended, _, _, rfl, ?_, ⟨_, rfl⟩, hW, hsame.mono (by decide) (by decide)⟩
            · exact retN X26 hx (t := .boolean) Bd.returns (by simp) (hb hby at_153) hr
            · show Q_law Z p1 p2 w_ABOVE w_BELOW w_AT_OR_ABOVE w_AT_OR_BELOW h0 n0 _ T26.heap _
              rw [e26]
              exact ⟨rfl, N26, trivial⟩
          · replace k := Fw.ifYes k X22 hx (hb hby at_57) ((if0 _ _).trans (flt hc57_25).2.1) (by decide) (pc' := 63) rfl
            replace k := Fw.iloadN k X22 hx (hb hby at_63) rfl (pc' := 64) rfl
            replace k := Fw.ifYes k X22 hx (hb hby at_64) ((if0 _ _).trans (feq hc5_1).2) (by decide) (pc' := 83) rfl
            replace k := Fw.iloadN k X22 hx (hb hby at_83) rfl (pc' := 84) rfl
            replace k := Fw.iconst k X22 hx (hb hby at_84) (z := (1 : Int32)) (by decide) (pc' := 85) rfl
            replace k := Fw.icmpYes k X22 hx (hb hby at_85) (feq hc17_8).2 (by decide) (pc' := 104) rfl
            replace k := Fw.iloadN k X22 hx (hb hby at_104) rfl (pc' := 105) rfl
            replace k := Fw.iconst k X22 hx (hb hby at_105) (z := (2 : Int32)) (by decide) (pc' := 106) rfl
            replace k := Fw.icmpYes k X22 hx (hb hby at_106) (feq hc29_15).2 (by decide) (pc' := 125) rfl
            replace k := Fw.iload k X22 hx (hb hby at_125) rfl (pc' := 127) rfl
            replace k := Fw.iconst k X22 hx (hb hby at_127) (z := (1 : Int32)) (by decide) (pc' := 128) rfl
            replace k := Fw.icmpNo k X22 hx (hb hby at_128) (feq (show ¬ ((0 : Int32) = (1 : Int32)) from by decide)).1 (pc' := 131) rfl
            replace k := Fw.iconst k X22 hx (hb hby at_131) (z := (1 : Int32)) (by decide) (pc' := 132) rfl
            replace k := Fw.goto k X22 hx (hb hby at_132) (by decide) (pc' := 136) rfl
            replace k := Fw.istore k X22 hx (hb hby at_136)  (Ls' := #[.val (.int p1), .val (.int p2), .val (.int (p1 &&& (3 : Int32))), .val (.ref w_AT_OR_BELOW), .val (.int 0), .val (.int 1)]) rfl (pc' := 138) rfl
            replace k := Fw.aloadN k X22 hx (hb hby at_138) rfl rfl (pc' := 139) rfl
            replace k := Fw.iloadN k X22 hx (hb hby at_139) rfl (pc' := 140) rfl
            obtain ⟨cq27, kq27, q27a, q27b, q27c⟩ := isOf hZ e22 (E_AT_OR_BELOW.ext O0.2)
            obtain ⟨_, _, ⟨T27, L27, k27, n27⟩, -, X27, ⟨Lc27, hQ27, l27, y27, z27⟩, st27⟩ := X22.virtualBack hx (y := (⟨"com/example/fala/fala/engine/Policy$Operator", "holds", "(I)Z"⟩ : MethodName)) (z := (⟨"com/example/fala/fala/engine/Policy$Operator", "holds", "(I)Z"⟩ : MethodName)) hown (mvT hZ (hw _ (List.mem_of_getElem? (i := 3) rfl))) (mvT hZ (hw _ (List.mem_of_getElem? (i := 4) rfl))) (notFace_of_selects (args := #[]) (mvT hZ (hw _ (List.mem_of_getElem? (i := 6) rfl)))) (mvT hZ (hw _ (List.mem_of_getElem? (i := 6) rfl))) (mvT hZ (hw _ (List.mem_of_getElem? (i := 5) rfl))) (by decide) (backOf (W := 0) (rm_ho3 l Z a0 hw [] w_AT_OR_BELOW p2 h0 n0 O0 (E_AT_OR_BELOW.ext O0.2) (F_AT_OR_BELOW.ext O0.2)) hZ (hw _ (List.mem_of_getElem? (i := 7) rfl)) (hw _ (List.mem_of_getElem? (i := 1) rfl)) (by decide) (by decide)) q27a q27c (g := (mkF m 140 #[.val (.int p1), .val (.int p2), .val (.int (p1 &&& (3 : Int32))), .val (.ref w_AT_OR_BELOW), .val (.int 0), .val (.int 1)] [(.int p2), (.ref w_AT_OR_BELOW)])) rfl (by rw [hml]; rfl) (Steps.refl _) (argsL := [(.int p2)]) (rest := []) (lenOf pd_I_r_Z rfl) rfl (by show 2 * 0 + _ ≤ _; exact Nat.le_of_eq rfl) (hb hby at_140) (fun _ _ => ⟨rfl, e22, (by decide : 0 + 0 ≤ _), (by decide : 0 + 0 ≤ _)⟩)
            dsimp only [Pt.U, Pt.locs, Pt.cells, Pt.slots] at X27 l27 y27 z27 st27 hQ27
            subst l27 y27 z27
            obtain ⟨hv27, N27q, e27⟩ := hQ27
            rw [show (if 0 < p2 then 0 else 1) = (1 : Int32) from by simp [hc47_23, hc57_25]] at hv27
            subst hv27
            have N27 := Fr.app N0 N27q
            replace k : Goes p e below s₁ G0 T27 (mkF m 143 #[.val (.int p1), .val (.int p2), .val (.int (p1 &&& (3 : Int32))), .val (.ref w_AT_OR_BELOW), .val (.int 0), .val (.int 1)] [(.int 1)]) := fun t q => k t (st27.trans q)
            replace k := Fw.iload k X27 hx (hb hby at_143) rfl (pc' := 145) rfl
            replace k := Fw.icmpNo k X27 hx (hb hby at_145) (teq (show (1 : Int32) = (1 : Int32) from by decide)).2 (pc' := 148) rfl
            replace k := Fw.iconst k X27 hx (hb hby at_148) (z := (1 : Int32)) (by decide) (pc' := 149) rfl
            replace k := Fw.goto k X27 hx (hb hby at_149) (by decide) (pc' := 153) rfl
            obtain ⟨fs, hr, hrun, hended, hW, hsame⟩ := X27.leave (v := some (.int 1)) (fun h => by rw [Bd.returns] at h; cases h)
            refine ⟨_, _, pre0 _ (k _ ?_), hrun, hended, _, _, rfl, ?_, ⟨_, rfl⟩, hW, hsame.mono (by decide) (by decide)⟩
            · exact retN X27 hx (t := .boolean) Bd.returns (by simp) (hb hby at_153) hr
            · show Q_law Z p1 p2 w_ABOVE w_BELOW w_AT_OR_ABOVE w_AT_OR_BELOW h0 n0 _ T27.heap _
              rw [e27]
              exact ⟨rfl, N27, trivial⟩
set_option maxRecDepth 65536 in
set_option maxHeartbeats 40000000 in
theorem comes_1 {Post : Tables → Env → Array Value → State → Outcome → State → Prop} (hpost : ∀ tb e args s v u, (limb_1_1.after args s (.returned v) u = true ∧ limb_1_2.after args s (.returned v) u = true ∧ True) → FrameEnd s (.returned v) u (Jvm.fieldLocs frame_1_writes args s ++ Jvm.arrayLocs frame_1_arrays args s ++ Jvm.staticLocs frame_1_statics s) 0 0 → Post tb e args s (.returned v) u) :
    ArmFor flags0 classFile x code maxLocals ret World_1 tables_1 room_1 Calls_1 rest_1 Pre_1 Post := by
  intro l hfl _ _ p e ha hc hk s m args below hf hA hF happ hP
  obtain ⟨hcalls, hrest, hpre⟩ := hP
  obtain ⟨-, -, -, hnamed, -, -, -, hat⟩ := (Spec.applies_iff hf).mp happ
  obtain ⟨hg, hn⟩ := and_e (Cond.before_iff.mp (show (Jvm.Cond.and given_1 narrow_1).before args s = true from hpre))
  obtain ⟨g0, gr0⟩ := and_e hg
  obtain ⟨ga0, gr1⟩ := and_e gr0
  have ga1 := gr1
  obtain ⟨w0, w1, rfl⟩ : ∃ w0 w1 : Value, args = #[w0, w1] := by
    have hs : args.size = 2 := by simpa [Cond.value, given_1] using g0
    obtain ⟨L⟩ := args
    match L, hs with
    | [w0, w1], _ => exact ⟨w0, w1, rfl⟩
  have hw := fun d (hd : d ∈ tables_1) => atoms_spec (ws := Jvm.Cond.code x code maxLocals ret :: tables_1) hat d (List.mem_cons_of_mem _ hd)
  have hfit : Fit s := fun {y c} hc i hi => by
    obtain ⟨ha, rfl⟩ := Array.getElem?_eq_some_iff.mp hc
    have q := List.all_eq_true.mp ((Array.all_eq_true_iff_forall_mem.mp hF) _ (Array.getElem_mem ha)) i (List.mem_range.mpr hi)
    simpa [Array.getElem?_eq_getElem hi] using q
  obtain ⟨i0, ei0⟩ := is_v ga0
  obtain rfl : w0 = (.int i0) := Option.some.inj ei0
  obtain ⟨i1, ei1⟩ := is_v ga1
  obtain rfl : w1 = (.int i1) := Option.some.inj ei1
  obtain ⟨nq0, hn⟩ := and_e hn
  obtain ⟨nq1, hn⟩ := and_e hn
  obtain ⟨nq2, hn⟩ := and_e hn
  obtain ⟨nq3, hn⟩ := and_e hn
  obtain ⟨nq4, hn⟩ := and_e hn
  obtain ⟨nq5, hn⟩ := and_e hn
  obtain ⟨nq6, hn⟩ := and_e hn
  have nq7 := hn
  obtain ⟨a_ABOVE, ev_ABOVE⟩ := exa_v nq0
  have E_ABOVE := Exa.start ev_ABOVE nq0
  have S_ABOVE := Sta.start ev_ABOVE (Or.inr ⟨(hw _ (List.mem_of_getElem? (i := 1) rfl)), (hw _ (List.mem_of_getElem? (i := 2) rfl))⟩)
  obtain ⟨a_BELOW, ev_BELOW⟩ := exa_v nq2
  have E_BELOW := Exa.start ev_BELOW nq2
  have S_BELOW := Sta.start ev_BELOW (Or.inr ⟨(hw _ (List.mem_of_getElem? (i := 1) rfl)), (hw _ (List.mem_of_getElem? (i := 18) rfl))⟩)
  obtain ⟨a_AT_OR_ABOVE, ev_AT_OR_ABOVE⟩ := exa_v nq4
  have E_AT_OR_ABOVE := Exa.start ev_AT_OR_ABOVE nq4
  have S_AT_OR_ABOVE := Sta.start ev_AT_OR_ABOVE (Or.inr ⟨(hw _ (List.mem_of_getElem? (i := 1) rfl)), (hw _ (List.mem_of_getElem? (i := 20) rfl))⟩)
  obtain ⟨a_AT_OR_BELOW, ev_AT_OR_BELOW⟩ := exa_v nq6
  have E_AT_OR_BELOW := Exa.start ev_AT_OR_BELOW nq6
  have S_AT_OR_BELOW := Sta.start ev_AT_OR_BELOW (Or.inr ⟨(hw _ (List.mem_of_getElem? (i := 1) rfl)), (hw _ (List.mem_of_getElem? (i := 22) rfl))⟩)
  have F_ABOVE := own_fld ev_ABOVE nq1
  have F_BELOW := own_fld ev_BELOW nq3
  have F_AT_OR_ABOVE := own_fld ev_AT_OR_ABOVE nq5
  have F_AT_OR_BELOW := own_fld ev_AT_OR_BELOW nq7
  obtain ⟨n, o, h1, h2, h3, _, L, rfl, ⟨rfl, N, -⟩, hq⟩ := rm_law l s _ hw tables_1 i0 i1 a_ABOVE a_BELOW a_AT_OR_ABOVE a_AT_OR_BELOW s.heap s.heap.size (Old.start s) S_ABOVE E_ABOVE F_ABOVE S_BELOW E_BELOW F_BELOW S_AT_OR_ABOVE E_AT_OR_ABOVE F_AT_OR_ABOVE S_AT_OR_BELOW E_AT_OR_BELOW F_AT_OR_BELOW p e ha hc hk s m _ below hf ((Spec.applies_iff_loose hf).mp happ).1 ⟨rfl, State.Warmed39.refl s, rfl⟩ trivial
  refine ⟨n, _, h1, h2, h3, hpost _ _ _ _ _ _ ⟨Cond.after_iff.mpr rfl, Cond.after_iff.mpr (eq_i res_at (Term.int_eval (1)) rfl), trivial⟩ ⟨hq.1, hq.2.1, (hq.2.2.sift fun y hy => Or.inr (N y hy)).mono (by decide) (by decide)⟩⟩
theorem main_1_1 : Claimed_1_1 := comes_1 fun _ _ _ _ _ _ h hF => ⟨h.1, hF⟩
theorem main_1_2 : Claimed_1_2 := comes_1 fun _ _ _ _ _ _ h hF => ⟨h.2.1, hF⟩
end Jvm.Pilot.@@N@@
namespace Jvm.Pilot.@@N@@
open Jvm Jvm.ClassFile Sem Op Lib Jvm.Free Jvm.Stand Jvm.Pilot.@@N@@.Jvm.D
/-! MADE BY PROGRAM (witnessworld.py) out of the Statement's table words and the real class files: 12 classes; the members and pool entries that the words name. The judged class is class 1, her method 1. -/
namespace start1
open Jvm.ClassFile
def u (s : String) : CpInfo := .utf8 (stringToUtf16 s)
/-- a pool by its gaps: so many unusable entries, then the entry; so many at the end -/
def gap : Nat → List CpInfo → List CpInfo
  | 0, r => r
  | n + 1, r => .unusable :: gap n r
def poolList (es : List (Nat × CpInfo)) (last : Nat) : List CpInfo := es.foldr (fun e r => gap e.1 (e.2 :: r)) (gap last [])
def pool (es : List (Nat × CpInfo)) (last : Nat) : Array CpInfo := ⟨poolList es last⟩
def fileOf (pool : Array CpInfo) (this : Nat) (attrs : Array Attribute := #[]) (ms : Array MethodInfo := #[]) (fl : Nat := 33) (sup : Nat := 0) (ifs : Array Nat := #[]) (fds : Array FieldInfo := #[]) : ClassFile where
  minorVersion := 0
  majorVersion := 65
  constantPool := pool
  accessFlags := fl
  thisClass := this
  superClass := sup
  interfaces := ifs
  fields := fds
  methods := ms
  attributes := attrs
def plain (name : String) (sup : Option ClassId) : Class where
  name := name
  kind := .ordinary
  loader := none
  accessFlags := 33
  super := sup
  interfaces := #[]
  cf := none
  fields := #[]
  methods := #[]
  instanceTypes := #[]
  staticTypes := #[]
  resolved := #[]
  callSites := []
  init := .initialized
  statics := none
  mirror := none

def pool0 : Array CpInfo := pool [(5, u "<init>"), (0, u "()V"), (1, .class_ 10), (1, u "java/lang/Object")] 113

def k0m0 : Method := { name := "<init>", desc := "()V", sig := { parameters := [], returnType := none }, accessFlags := 1, code := none }
/-- java/lang/Object -/
def k0 : Class := { plain "java/lang/Object" none with
  accessFlags := 33
  interfaces := #[]
  cf := some (fileOf pool0 8 #[] #[{ accessFlags := 1, nameIndex := 5, descriptorIndex := 6, attributes := #[] }] 33 0 #[] #[])
  fields := #[]
  methods := #[k0m0]
  instanceTypes := #[]
  staticTypes := #[]
  resolved := Array.replicate 124 none
  statics := none }

def pool1 : Array CpInfo := pool [(2, .class_ 4), (1, u "java/lang/Object"), (0, u "<init>"), (0, u "()V"), (0, .fieldref 8 9), (0, .class_ 10), (0, .nameAndType 11 12), (0, u "com/example/fala/fala/engine/Policy$Operator"), (0, u "ABOVE"), (0, u "Lcom/example/fala/fala/engine/Policy$Operator;"), (0, .fieldref 8 14), (0, .nameAndType 15 12), (0, u "AT_OR_ABOVE"), (0, .fieldref 8 17), (0, .nameAndType 18 12), (0, u "BELOW"), (0, .fieldref 8 20), (0, .nameAndType 21 12), (0, u "AT_OR_BELOW"), (0, .methodref 8 23), (0, .nameAndType 24 25), (0, u "holds"), (0, u "(I)Z"), (0, .class_ 27), (0, u "com/example/fala/fala/engine/OperatorHoldsPinLaw"), (2, u "law"), (0, u "(II)Z")] 7

def k1m0 : Method := { name := "<init>", desc := "()V", sig := { parameters := [], returnType := none }, accessFlags := 1, code := none }
def k1c1 : Code := { maxStack := 2, maxLocals := 6, code := code, exceptionTable := #[], attributes := #[] }
def k1m1 : Method := { name := "law", desc := "(II)Z", sig := { parameters := [.int, .int], returnType := some .boolean }, accessFlags := 9, code := some k1c1 }
/-- com/example/fala/fala/engine/OperatorHoldsPinLaw -/
def k1 : Class := { plain "com/example/fala/fala/engine/OperatorHoldsPinLaw" (some 0) with
  accessFlags := 49
  interfaces := #[]
  cf := some (fileOf pool1 26 #[] #[{ accessFlags := 1, nameIndex := 5, descriptorIndex := 6, attributes := #[] }, { accessFlags := 9, nameIndex := 30, descriptorIndex := 31, attributes := #[] }] 49 2 #[] #[])
  fields := #[]
  methods := #[k1m0, k1m1]
  instanceTypes := #[]
  staticTypes := #[]
  resolved := Array.replicate 39 none
  statics := none }

def pool2 : Array CpInfo := pool [(1, .class_ 2), (0, u "java/lang/constant/Constable"), (0, .class_ 4), (0, u "java/lang/Object")] 6

/-- java/lang/constant/Constable -/
def k2 : Class := { plain "java/lang/constant/Constable" (some 0) with
  accessFlags := 1537
  interfaces := #[]
  cf := some (fileOf pool2 1 #[] #[] 1537 3 #[] #[])
  fields := #[]
  methods := #[]
  instanceTypes := #[]
  staticTypes := #[]
  resolved := Array.replicate 11 none
  statics := none }

def pool3 : Array CpInfo := pool [(1, .class_ 2), (0, u "java/lang/Comparable"), (0, .class_ 4), (0, u "java/lang/Object")] 7

/-- java/lang/Comparable -/
def k3 : Class := { plain "java/lang/Comparable" (some 0) with
  accessFlags := 1537
  interfaces := #[]
  cf := some (fileOf pool3 1 #[] #[] 1537 3 #[] #[])
  fields := #[]
  methods := #[]
  instanceTypes := #[]
  staticTypes := #[]
  resolved := Array.replicate 12 none
  statics := none }

def pool4 : Array CpInfo := pool [(1, .class_ 2), (0, u "java/io/Serializable"), (0, .class_ 4), (0, u "java/lang/Object")] 2

/-- java/io/Serializable -/
def k4 : Class := { plain "java/io/Serializable" (some 0) with
  accessFlags := 1537
  interfaces := #[]
  cf := some (fileOf pool4 1 #[] #[] 1537 3 #[] #[])
  fields := #[]
  methods := #[]
  instanceTypes := #[]
  staticTypes := #[]
  resolved := Array.replicate 7 none
  statics := none }

def pool5 : Array CpInfo := pool [(2, .class_ 4), (1, u "java/lang/Enum"), (0, u "name"), (0, u "Ljava/lang/String;"), (0, .fieldref 2 8), (0, .nameAndType 9 10), (0, u "ordinal"), (0, u "I"), (1, .class_ 14), (1, u "java/lang/Object"), (4, u "hash"), (86, .class_ 108), (1, u "java/lang/Enum$EnumDesc"), (2, .class_ 112), (0, u "java/lang/constant/Constable"), (0, .class_ 114), (0, u "java/lang/Comparable"), (0, .class_ 116), (0, u "java/io/Serializable"), (9, u "()I")] 77

def k5c0 : Code := { maxStack := 1, maxLocals := 1, code := jdk_37_method_2_code, exceptionTable := #[], attributes := #[] }
def k5m0 : Method := { name := "ordinal", desc := "()I", sig := { parameters := [], returnType := some .int }, accessFlags := 17, code := some k5c0 }
/-- java/lang/Enum -/
def k5 : Class := { plain "java/lang/Enum" (some 0) with
  accessFlags := 1057
  interfaces := #[2, 3, 4]
  cf := some (fileOf pool5 2 #[.nestMembers #[106]] #[{ accessFlags := 17, nameIndex := 9, descriptorIndex := 126, attributes := #[] }] 1057 12 #[111, 113, 115] #[{ accessFlags := 18, nameIndex := 5, descriptorIndex := 6, attributes := #[] }, { accessFlags := 18, nameIndex := 9, descriptorIndex := 10, attributes := #[] }, { accessFlags := 2, nameIndex := 19, descriptorIndex := 10, attributes := #[] }])
  fields := #[{ name := "name", type := (.object "java/lang/String"), accessFlags := 18, slot := 0, constantValue := 0 }, { name := "ordinal", type := .int, accessFlags := 18, slot := 1, constantValue := 0 }, { name := "hash", type := .int, accessFlags := 2, slot := 2, constantValue := 0 }]
  methods := #[k5m0]
  instanceTypes := #[(.object "java/lang/String"), .int, .int]
  staticTypes := #[]
  resolved := Array.replicate 204 none
  statics := none }

def pool6 : Array CpInfo := pool [(1, .class_ 2), (0, u "com/example/fala/fala/engine/Policy$Operator"), (2, u "ABOVE"), (0, u "Lcom/example/fala/fala/engine/Policy$Operator;"), (2, u "AT_OR_ABOVE"), (2, u "BELOW"), (2, u "AT_OR_BELOW"), (2, u "$VALUES"), (0, u "[Lcom/example/fala/fala/engine/Policy$Operator;"), (6, .class_ 28), (1, u "java/lang/Enum"), (8, u "label"), (0, u "Ljava/lang/String;"), (0, .methodref 1 40), (0, .nameAndType 41 42), (0, u "ordinal"), (0, u "()I"), (32, u "holds"), (0, u "(I)Z"), (7, .class_ 85), (0, u "com/example/fala/fala/engine/Policy")] 2

def k6c0 : Code := { maxStack := 4, maxLocals := 2, code := prog_19_method_5_code, exceptionTable := #[], attributes := #[] }
def k6m0 : Method := { name := "holds", desc := "(I)Z", sig := { parameters := [.int], returnType := some .boolean }, accessFlags := 0, code := some k6c0 }
/-- com/example/fala/fala/engine/Policy$Operator -/
def k6 : Class := { plain "com/example/fala/fala/engine/Policy$Operator" (some 5) with
  accessFlags := 16433
  interfaces := #[]
  cf := some (fileOf pool6 1 #[.nestHost 84] #[{ accessFlags := 0, nameIndex := 75, descriptorIndex := 76, attributes := #[] }] 16433 26 #[] #[{ accessFlags := 16409, nameIndex := 5, descriptorIndex := 6, attributes := #[] }, { accessFlags := 16409, nameIndex := 9, descriptorIndex := 6, attributes := #[] }, { accessFlags := 16409, nameIndex := 12, descriptorIndex := 6, attributes := #[] }, { accessFlags := 16409, nameIndex := 15, descriptorIndex := 6, attributes := #[] }, { accessFlags := 18, nameIndex := 37, descriptorIndex := 38, attributes := #[] }, { accessFlags := 4122, nameIndex := 18, descriptorIndex := 19, attributes := #[] }])
  fields := #[{ name := "ABOVE", type := (.object "com/example/fala/fala/engine/Policy$Operator"), accessFlags := 16409, slot := 0, constantValue := 0 }, { name := "AT_OR_ABOVE", type := (.object "com/example/fala/fala/engine/Policy$Operator"), accessFlags := 16409, slot := 1, constantValue := 0 }, { name := "BELOW", type := (.object "com/example/fala/fala/engine/Policy$Operator"), accessFlags := 16409, slot := 2, constantValue := 0 }, { name := "AT_OR_BELOW", type := (.object "com/example/fala/fala/engine/Policy$Operator"), accessFlags := 16409, slot := 3, constantValue := 0 }, { name := "label", type := (.object "java/lang/String"), accessFlags := 18, slot := 3, constantValue := 0 }, { name := "$VALUES", type := (.array (.object "com/example/fala/fala/engine/Policy$Operator")), accessFlags := 4122, slot := 4, constantValue := 0 }]
  methods := #[k6m0]
  instanceTypes := #[(.object "java/lang/String"), .int, .int, (.object "java/lang/String")]
  staticTypes := #[(.object "com/example/fala/fala/engine/Policy$Operator"), (.object "com/example/fala/fala/engine/Policy$Operator"), (.object "com/example/fala/fala/engine/Policy$Operator"), (.object "com/example/fala/fala/engine/Policy$Operator"), (.array (.object "com/example/fala/fala/engine/Policy$Operator"))]
  resolved := Array.replicate 88 none
  statics := some 0 }

def pool7 : Array CpInfo := pool [(1, u "java/lang/Cloneable"), (0, .class_ 1), (0, u "java/lang/Object"), (0, .class_ 3)] 3

/-- java/lang/Cloneable -/
def k7 : Class := { plain "java/lang/Cloneable" (some 0) with
  accessFlags := 1537
  interfaces := #[]
  cf := some (fileOf pool7 2 #[] #[] 1537 4 #[] #[])
  fields := #[]
  methods := #[]
  instanceTypes := #[]
  staticTypes := #[]
  resolved := Array.replicate 8 none
  statics := none }

/-- the primitive byte -/
def k8 : Class := { plain "byte" none with kind := .primitive 'B', accessFlags := 0x411 }
/-- [B -/
def k9 : Class := { plain "[B" (some 0) with kind := .array 8 .byte, interfaces := #[7, 4], accessFlags := 1041 }

/-- the primitive int -/
def k10 : Class := { plain "int" none with kind := .primitive 'I', accessFlags := 0x411 }
/-- [I -/
def k11 : Class := { plain "[I" (some 0) with kind := .array 10 .int, interfaces := #[7, 4], accessFlags := 1041 }

def heap : Heap := #[{ cls := 6, slots := #[.ref 1, .ref 2, .ref 3, .ref 4, .null], vm := .statics 6 },
  { cls := 6, slots := #[.null, .int 0, .int 0, .null], vm := .none },
  { cls := 6, slots := #[.null, .int 1, .int 0, .null], vm := .none },
  { cls := 6, slots := #[.null, .int 2, .int 0, .null], vm := .none },
  { cls := 6, slots := #[.null, .int 3, .int 0, .null], vm := .none }]
def classes : Array Class := #[k0, k1, k2, k3, k4, k5, k6, k7, k8, k9, k10, k11]
def interned : List (Array UInt16 × Addr) := []
def slotsUsed : Nat := 21
def theMethod : MethodId := ⟨1, 1⟩
def args0 : Array Value := #[.int 5, .int 3]
def aboutOver (below : List Frame) : State where
  vm := { classes := classes, interned := interned.toArray }
  heap := heap
  slotsUsed := slotsUsed
  threads := #[{ frames := .invoking theMethod args0 :: below }]
def below0 : List Frame := [.native { method := ⟨0, 0⟩, args := #[] }]
def about1 : State := aboutOver below0
def p0 : Program := .bare "" "" ""
def e0 : Env := launch0.env 0 0 0
theorem w_frames : about1.frames = Frame.invoking theMethod args0 :: below0 := rfl
set_option maxRecDepth 65536 in
theorem w_args : argsFit about1.vm theMethod args0 = true := by decide +kernel
set_option maxRecDepth 65536 in
theorem w_heap : heapFits about1 = true := by decide +kernel
set_option maxRecDepth 65536 in
theorem w_runnable : about1.curStatus? = some .runnable := by decide +kernel
set_option maxRecDepth 65536 in
theorem w_alone : about1.alone = true := by decide +kernel
set_option maxRecDepth 65536 in
theorem w_named : about1.methodNamed? x = some theMethod := by decide +kernel
set_option maxRecDepth 65536 in
theorem w_hears : about1.hears theMethod below0 = true := by decide +kernel
set_option maxRecDepth 65536 in
theorem w_ripe : about1.ripe theMethod args0 below0 = true := by decide +kernel
theorem w_running : about1.status = .running := rfl
set_option maxRecDepth 65536 in
theorem w_room : about1.hasRoom e0.platform room_1 = true :=
  launch0.hasRoom_least _ room_1 (by decide +kernel) (by decide +kernel) (by decide +kernel) (by decide +kernel) (by decide +kernel) (by decide +kernel)
theorem allAtoms_all (ts : List Jvm.Cond) (a : Array Jvm.Value) (st : Jvm.State) : (allAtoms ts).before a st = ts.all (fun c => c.before a st) := by
  induction ts with
  | nil => rfl
  | cons c t ih =>
    show (Jvm.Cond.and c (allAtoms t)).before a st = _
    rw [Jvm.Cond.before_and, ih, List.all_cons]
def words1 : List Jvm.Cond := Jvm.Cond.code x code maxLocals ret :: tables_1
/-- a 'code' word, met by the world's own term for the bytes: nothing is compared byte by byte -/
theorem code_word {y : MethodName} {bytes : ByteArray} {mx : Nat} {rt : Option FieldType} {a : Array Value} {s : State} {m : MethodId} {meth : Method} {c : Code} (h1 : s.methodNamed? y = some m) (h2 : s.vm.method? m = some meth) (h3 : meth.code = some c) (h4 : c.code = bytes)
    (h5 : (c.maxLocals == mx && c.exceptionTable.isEmpty && decide (c.maxStack ≤ mostOperands) && decide (meth.sig.returnType = rt) && !meth.locks && decide (parseMethodDescriptor y.desc = some meth.sig)) = true) : (Jvm.Cond.code y bytes mx rt).before a s = true := by
  simp only [Bool.and_eq_true, beq_iff_eq, Bool.not_eq_true', decide_eq_true_eq] at h5
  obtain ⟨⟨⟨⟨⟨g1, g2⟩, g3⟩, g4⟩, g5⟩, g6⟩ := h5
  simp [Cond.before, Cond.holds, Cond.value, h1, h2, h3, h4, g1, g2, g3, g4, g5, g6]
def isCode : Jvm.Cond → Bool
  | .code _ _ _ _ => true
  | _ => false
theorem all_split {L : List Jvm.Cond} {P : Jvm.Cond → Bool} (h1 : L.all (fun c => isCode c || P c) = true) (h2 : ∀ c ∈ L.filter isCode, P c = true) : L.all P = true := by
  refine List.all_eq_true.mpr fun c hc => ?_
  have h := List.all_eq_true.mp h1 c hc
  rcases Bool.eq_false_or_eq_true (isCode c) with hi | hi
  · exact h2 c (List.mem_filter.mpr ⟨hc, hi⟩)
  · simpa [hi] using h
set_option maxRecDepth 65536 in
theorem w_c0 : (Jvm.Cond.code x code maxLocals ret).before args0 about1 = true := code_word (m := ⟨1, 1⟩) (meth := k1m1) (c := k1c1) (by decide +kernel) rfl rfl rfl (by decide +kernel)
set_option maxRecDepth 65536 in
theorem w_c1 : (Jvm.Cond.code ({ cls := "com/example/fala/fala/engine/Policy$Operator", name := "holds", desc := "(I)Z" } : Jvm.MethodName) prog_19_method_5_code (2 : Nat) (Option.some Jvm.ClassFile.FieldType.boolean)).before args0 about1 = true := code_word (m := ⟨6, 0⟩) (meth := k6m0) (c := k6c0) (by decide +kernel) rfl rfl rfl (by decide +kernel)
set_option maxRecDepth 65536 in
theorem w_c2 : (Jvm.Cond.code ({ cls := "java/lang/Enum", name := "ordinal", desc := "()I" } : Jvm.MethodName) jdk_37_method_2_code (1 : Nat) (Option.some Jvm.ClassFile.FieldType.int)).before args0 about1 = true := code_word (m := ⟨5, 0⟩) (meth := k5m0) (c := k5c0) (by decide +kernel) rfl rfl rfl (by decide +kernel)
def codes1 : List Jvm.Cond := [Jvm.Cond.code x code maxLocals ret, Jvm.Cond.code ({ cls := "com/example/fala/fala/engine/Policy$Operator", name := "holds", desc := "(I)Z" } : Jvm.MethodName) prog_19_method_5_code (2 : Nat) (Option.some Jvm.ClassFile.FieldType.boolean), Jvm.Cond.code ({ cls := "java/lang/Enum", name := "ordinal", desc := "()I" } : Jvm.MethodName) jdk_37_method_2_code (1 : Nat) (Option.some Jvm.ClassFile.FieldType.int)]
set_option maxRecDepth 65536 in
theorem codes_eq : words1.filter isCode = codes1 := rfl
theorem w_codes : ∀ c ∈ words1.filter isCode, c.before args0 about1 = true := by
  rw [codes_eq]
  intro c hc
  simp only [codes1, List.mem_cons, List.not_mem_nil, or_false] at hc
  rcases hc with rfl | rfl | rfl
  · exact w_c0
  · exact w_c1
  · exact w_c2
set_option maxRecDepth 65536 in
theorem w_t1 : words1.all (fun c => isCode c || c.before args0 about1) = true := by decide +kernel
theorem w_tables : (allAtoms (Jvm.Cond.code x code maxLocals ret :: tables_1)).before args0 about1 = true := by
  rw [allAtoms_all]
  show words1.all (fun c => c.before args0 about1) = true
  refine all_split ?_ w_codes
  rw [w_t1]
set_option maxRecDepth 65536 in
theorem w_case : (Jvm.Cond.and given_1 narrow_1).before args0 about1 = true := by decide +kernel
theorem w_applies : (headSpec (Jvm.Cond.code x code maxLocals ret :: tables_1) room_1).applies x e0.platform about1 = true :=
  (Spec.applies_iff w_frames).mpr ⟨w_running, w_runnable, w_alone, w_named, w_hears, w_ripe, w_room, w_tables⟩
theorem atStart : AtStart classFile x code maxLocals ret World_1 tables_1 room_1 Calls_1 rest_1 Pre_1 launch0 p0 e0 about1 theMethod args0 below0 :=
  ⟨lists_1, trivial, launch0.admits_env _ _ _, launch0.least_env, fairChoices_fair.cas, fairChoices_fair.clock, w_frames, w_args, w_heap, w_applies, trivial, trivial, w_case⟩
end start1
theorem witness_1 : WitnessClaimed_1 := ⟨start1.p0, start1.e0, start1.about1, start1.theMethod, start1.args0, start1.below0, start1.atStart⟩
end Jvm.Pilot.@@N@@
