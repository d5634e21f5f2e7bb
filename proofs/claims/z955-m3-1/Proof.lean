import JvmDerived
import JvmDerived.Pilot.@@N@@Statement
import JvmDerived.Pilot.@@N@@Code
set_option linter.unusedVariables false
set_option linter.unusedSimpArgs false
namespace Jvm.RoadKit
open Sem ClassFile Op Lib Jvm.Stand Jvm.Free Jvm.LawKit
section New
variable {p : Program} {l : Launch} {e : Env} {R : Room} {s : State} {m : MethodId} {args : Array Value} {below : List Frame} {meth : Method} {c : Code} {T : State} {locs : List Loc} {cells slots : Nat}
theorem retI (X : Stand p l e R s m args below meth c T locs cells slots) (hx : p.tables.exec = Jvm.exec) {pc : Nat} {Ls : Array Slot} {z : Int32} {rest : List Value} (hret : meth.sig.returnType = some .int) (hd : decode c.code pc = .ok (.ireturn, 1)) {fs : List Frame}
    (hl : ∀ (f : JFrame) (acts : List Action), f.method = m → f.locked = none → f.entered = [] → (doReturn e (T.setTop f) acts (some (.int z))).1 = T.setFrames fs) : Steps p.tables e below (T.setTop (mkF m pc Ls (.int z :: rest))) (T.setFrames fs) := by
  have hm' : T.vm.method? m = some meth := X.method'
  have hn : narrow .int (.int z) = .int z := rfl
  show Steps p.tables e below (T.setTop { method := m, pc := pc, locals := Ls, stack := _ :: rest, locked := none }) _
  jvm_step X.here [X.here.top, hx, hd, hm', hret, hn]
  first | (intro acts; rw [hl _ acts rfl rfl rfl]) | rw [hl _ _ rfl rfl rfl]
  exact Steps.refl _
end New
theorem ext_refl {h : Heap} : Ext h h := ⟨Nat.le_refl _, fun _ _ q => q⟩
theorem ext_trans {h h' h'' : Heap} (E : Ext h h') (E' : Ext h' h'') : Ext h h'' := ⟨Nat.le_trans E.1 E'.1, fun a c q => E'.2 a c (E.2 a c q)⟩
theorem ext_keep {h h' h'' : Heap} {ws : List Addr} (E : Ext h h') (K : Keep h' h'' ws) (q : ∀ x ∈ ws, h.size ≤ x) : Ext h h'' := ⟨Nat.le_trans E.1 K.1, fun a c r => K.2.1 a c (E.2 a c r) fun z => absurd (Array.getElem?_eq_some_iff.mp r).1 (Nat.not_lt.mpr (q a z))⟩
theorem ext_wr {h h' h'' : Heap} {a : Addr} {sl : Nat} {v : Value} (E : Ext h h') (W : Wr h' h'' a sl v) (q : h.size ≤ a) : Ext h h'' := ext_keep E (Keep.of_wr W) (allS q all0)
theorem old_le {Z : State} {n0 : Nat} {h : Heap} (O : Old Z n0 h) : n0 ≤ h.size := O.1 ▸ O.2.1
end Jvm.RoadKit
namespace Jvm.Own.Fw
open Sem ClassFile Op Lib Jvm.Stand Jvm.Free Jvm.LawKit Jvm.RoadKit
variable {p : Program} {l : Launch} {e : Env} {R : Room} {s : State} {m : MethodId} {args : Array Value} {below : List Frame} {meth : Method} {c : Code} {T S : State} {G : JFrame} {locs : List Loc} {cells slots : Nat} {pc pc' : Nat} {Ls : Array Slot} {St : List Value}
theorem iloadN {i : Fin 4} {v : Int32} (k : Goes p e below S G T (mkF m pc Ls St)) (X : Stand p l e R s m args below meth c T locs cells slots) (hx : p.tables.exec = Jvm.exec) (hd : decode c.code pc = .ok (.iload_n i, 1)) (hl : Ls[i.val]? = some (.val (.int v))) (hp : pc + 1 = pc') : Goes p e below S G T (mkF m pc' Ls (.int v :: St)) := by
  subst hp; exact fun t q => k t (XS.iloadN X.here hx rfl hd hl q)
theorem iload {i : Nat} {v : Int32} (k : Goes p e below S G T (mkF m pc Ls St)) (X : Stand p l e R s m args below meth c T locs cells slots) (hx : p.tables.exec = Jvm.exec) (hd : decode c.code pc = .ok (.iload i, 2)) (hl : Ls[i]? = some (.val (.int v))) (hp : pc + 2 = pc') : Goes p e below S G T (mkF m pc' Ls (.int v :: St)) := by
  subst hp; exact fun t q => k t (XS.iload X.here hx rfl hd hl q)
theorem lloadN {i : Fin 4} {v : Int64} (k : Goes p e below S G T (mkF m pc Ls St)) (X : Stand p l e R s m args below meth c T locs cells slots) (hx : p.tables.exec = Jvm.exec) (hd : decode c.code pc = .ok (.lload_n i, 1)) (hl : Ls[i.val]? = some (.val (.long v))) (hp : pc + 1 = pc') : Goes p e below S G T (mkF m pc' Ls (.long v :: St)) := by
  subst hp; exact fun t q => k t (XS.lloadN X.here hx rfl hd hl q)
theorem lload {i : Nat} {v : Int64} (k : Goes p e below S G T (mkF m pc Ls St)) (X : Stand p l e R s m args below meth c T locs cells slots) (hx : p.tables.exec = Jvm.exec) (hd : decode c.code pc = .ok (.lload i, 2)) (hl : Ls[i]? = some (.val (.long v))) (hp : pc + 2 = pc') : Goes p e below S G T (mkF m pc' Ls (.long v :: St)) := by
  subst hp; exact fun t q => k t (XS.lload X.here hx rfl hd hl q)
theorem aloadN {i : Fin 4} {v : Value} (k : Goes p e below S G T (mkF m pc Ls St)) (X : Stand p l e R s m args below meth c T locs cells slots) (hx : p.tables.exec = Jvm.exec) (hd : decode c.code pc = .ok (.aload_n i, 1)) (hl : Ls[i.val]? = some (.val v)) (hv : v.isRef = true) (hp : pc + 1 = pc') : Goes p e below S G T (mkF m pc' Ls (v :: St)) := by
  subst hp; exact fun t q => k t (XS.aloadN X.here hx rfl hd hl hv q)
theorem aload {i : Nat} {v : Value} (k : Goes p e below S G T (mkF m pc Ls St)) (X : Stand p l e R s m args below meth c T locs cells slots) (hx : p.tables.exec = Jvm.exec) (hd : decode c.code pc = .ok (.aload i, 2)) (hl : Ls[i]? = some (.val v)) (hv : v.isRef = true) (hp : pc + 2 = pc') : Goes p e below S G T (mkF m pc' Ls (v :: St)) := by
  subst hp; exact fun t q => k t (XS.aload X.here hx rfl hd hl hv q)
theorem istoreN {i : Fin 4} {v : Int32} {Ls' : Array Slot} (k : Goes p e below S G T (mkF m pc Ls (.int v :: St))) (X : Stand p l e R s m args below meth c T locs cells slots) (hx : p.tables.exec = Jvm.exec) (hd : decode c.code pc = .ok (.istore_n i, 1)) (hl : storeLocals Ls i.val (.int v) = some Ls') (hp : pc + 1 = pc') : Goes p e below S G T (mkF m pc' Ls' St) := by
  subst hp; exact fun t q => k t (XS.istoreN X.here hx rfl hd rfl hl q)
theorem istore {i : Nat} {v : Int32} {Ls' : Array Slot} (k : Goes p e below S G T (mkF m pc Ls (.int v :: St))) (X : Stand p l e R s m args below meth c T locs cells slots) (hx : p.tables.exec = Jvm.exec) (hd : decode c.code pc = .ok (.istore i, 2)) (hl : storeLocals Ls i (.int v) = some Ls') (hp : pc + 2 = pc') : Goes p e below S G T (mkF m pc' Ls' St) := by
  subst hp; exact fun t q => k t (XS.istore X.here hx rfl hd rfl hl q)
theorem lstoreN {i : Fin 4} {v : Int64} {Ls' : Array Slot} (k : Goes p e below S G T (mkF m pc Ls (.long v :: St))) (X : Stand p l e R s m args below meth c T locs cells slots) (hx : p.tables.exec = Jvm.exec) (hd : decode c.code pc = .ok (.lstore_n i, 1)) (hl : storeLocals Ls i.val (.long v) = some Ls') (hp : pc + 1 = pc') : Goes p e below S G T (mkF m pc' Ls' St) := by
  subst hp; exact fun t q => k t (XS.lstoreN X.here hx rfl hd rfl hl q)
theorem lstore {i : Nat} {v : Int64} {Ls' : Array Slot} (k : Goes p e below S G T (mkF m pc Ls (.long v :: St))) (X : Stand p l e R s m args below meth c T locs cells slots) (hx : p.tables.exec = Jvm.exec) (hd : decode c.code pc = .ok (.lstore i, 2)) (hl : storeLocals Ls i (.long v) = some Ls') (hp : pc + 2 = pc') : Goes p e below S G T (mkF m pc' Ls' St) := by
  subst hp; exact fun t q => k t (XS.lstore X.here hx rfl hd rfl hl q)
theorem astoreN {i : Fin 4} {v : Value} {Ls' : Array Slot} (k : Goes p e below S G T (mkF m pc Ls (v :: St))) (X : Stand p l e R s m args below meth c T locs cells slots) (hx : p.tables.exec = Jvm.exec) (hd : decode c.code pc = .ok (.astore_n i, 1)) (hv : v.isRef = true) (hl : storeLocals Ls i.val v = some Ls') (hp : pc + 1 = pc') : Goes p e below S G T (mkF m pc' Ls' St) := by
  subst hp; exact fun t q => k t (XS.astoreN X.here hx rfl hd rfl hv hl q)
theorem astore {i : Nat} {v : Value} {Ls' : Array Slot} (k : Goes p e below S G T (mkF m pc Ls (v :: St))) (X : Stand p l e R s m args below meth c T locs cells slots) (hx : p.tables.exec = Jvm.exec) (hd : decode c.code pc = .ok (.astore i, 2)) (hv : v.isRef = true) (hl : storeLocals Ls i v = some Ls') (hp : pc + 2 = pc') : Goes p e below S G T (mkF m pc' Ls' St) := by
  subst hp; exact fun t q => k t (XS.astore X.here hx rfl hd rfl hv hl q)
theorem iconst {i : Int} {z : Int32} (k : Goes p e below S G T (mkF m pc Ls St)) (X : Stand p l e R s m args below meth c T locs cells slots) (hx : p.tables.exec = Jvm.exec) (hd : decode c.code pc = .ok (.iconst i, 1)) (hz : Int32.ofInt i = z) (hp : pc + 1 = pc') : Goes p e below S G T (mkF m pc' Ls (.int z :: St)) := by
  subst hp; exact fun t q => k t (XS.iconst X.here hx rfl hd (hz ▸ q))
theorem bipush {i : Int} {z : Int32} (k : Goes p e below S G T (mkF m pc Ls St)) (X : Stand p l e R s m args below meth c T locs cells slots) (hx : p.tables.exec = Jvm.exec) (hd : decode c.code pc = .ok (.bipush i, 2)) (hz : (Int8.ofInt i).toInt32 = z) (hp : pc + 2 = pc') : Goes p e below S G T (mkF m pc' Ls (.int z :: St)) := by
  subst hp; exact fun t q => k t (XS.bipush X.here hx rfl hd (hz ▸ q))
theorem sipush {i : Int} {z : Int32} (k : Goes p e below S G T (mkF m pc Ls St)) (X : Stand p l e R s m args below meth c T locs cells slots) (hx : p.tables.exec = Jvm.exec) (hd : decode c.code pc = .ok (.sipush i, 3)) (hz : (Int16.ofInt i).toInt32 = z) (hp : pc + 3 = pc') : Goes p e below S G T (mkF m pc' Ls (.int z :: St)) := by
  subst hp; exact fun t q => k t (XS.sipush X.here hx rfl hd (hz ▸ q))
theorem lconst {i : Fin 2} {z : Int64} (k : Goes p e below S G T (mkF m pc Ls St)) (X : Stand p l e R s m args below meth c T locs cells slots) (hx : p.tables.exec = Jvm.exec) (hd : decode c.code pc = .ok (.lconst i, 1)) (hz : Int64.ofNat i = z) (hp : pc + 1 = pc') : Goes p e below S G T (mkF m pc' Ls (.long z :: St)) := by
  subst hp; exact fun t q => k t (XS.lconst X.here hx rfl hd (hz ▸ q))
theorem aconstNull  (k : Goes p e below S G T (mkF m pc Ls St)) (X : Stand p l e R s m args below meth c T locs cells slots) (hx : p.tables.exec = Jvm.exec) (hd : decode c.code pc = .ok (.aconst_null, 1)) (hp : pc + 1 = pc') : Goes p e below S G T (mkF m pc' Ls (.null :: St)) := by
  subst hp; exact fun t q => k t (XS.aconstNull X.here hx rfl hd q)
theorem iadd {x y z : Int32} (k : Goes p e below S G T (mkF m pc Ls (.int y :: .int x :: St))) (X : Stand p l e R s m args below meth c T locs cells slots) (hx : p.tables.exec = Jvm.exec) (hd : decode c.code pc = .ok (.iadd, 1)) (hz : x + y = z) (hp : pc + 1 = pc') : Goes p e below S G T (mkF m pc' Ls (.int z :: St)) := by
  subst hp; exact fun t q => k t (XS.iadd X.here hx rfl hd rfl (hz ▸ q))
theorem ladd {x y z : Int64} (k : Goes p e below S G T (mkF m pc Ls (.long y :: .long x :: St))) (X : Stand p l e R s m args below meth c T locs cells slots) (hx : p.tables.exec = Jvm.exec) (hd : decode c.code pc = .ok (.ladd, 1)) (hz : x + y = z) (hp : pc + 1 = pc') : Goes p e below S G T (mkF m pc' Ls (.long z :: St)) := by
  subst hp; exact fun t q => k t (XS.ladd X.here hx rfl hd rfl (hz ▸ q))
theorem isub {x y z : Int32} (k : Goes p e below S G T (mkF m pc Ls (.int y :: .int x :: St))) (X : Stand p l e R s m args below meth c T locs cells slots) (hx : p.tables.exec = Jvm.exec) (hd : decode c.code pc = .ok (.isub, 1)) (hz : x - y = z) (hp : pc + 1 = pc') : Goes p e below S G T (mkF m pc' Ls (.int z :: St)) := by
  subst hp; exact fun t q => k t (XS.isub X.here hx rfl hd rfl (hz ▸ q))
theorem lsub {x y z : Int64} (k : Goes p e below S G T (mkF m pc Ls (.long y :: .long x :: St))) (X : Stand p l e R s m args below meth c T locs cells slots) (hx : p.tables.exec = Jvm.exec) (hd : decode c.code pc = .ok (.lsub, 1)) (hz : x - y = z) (hp : pc + 1 = pc') : Goes p e below S G T (mkF m pc' Ls (.long z :: St)) := by
  subst hp; exact fun t q => k t (XS.lsub X.here hx rfl hd rfl (hz ▸ q))
theorem imul {x y z : Int32} (k : Goes p e below S G T (mkF m pc Ls (.int y :: .int x :: St))) (X : Stand p l e R s m args below meth c T locs cells slots) (hx : p.tables.exec = Jvm.exec) (hd : decode c.code pc = .ok (.imul, 1)) (hz : x * y = z) (hp : pc + 1 = pc') : Goes p e below S G T (mkF m pc' Ls (.int z :: St)) := by
  subst hp; exact fun t q => k t (XS.imul X.here hx rfl hd rfl (hz ▸ q))
theorem lmul {x y z : Int64} (k : Goes p e below S G T (mkF m pc Ls (.long y :: .long x :: St))) (X : Stand p l e R s m args below meth c T locs cells slots) (hx : p.tables.exec = Jvm.exec) (hd : decode c.code pc = .ok (.lmul, 1)) (hz : x * y = z) (hp : pc + 1 = pc') : Goes p e below S G T (mkF m pc' Ls (.long z :: St)) := by
  subst hp; exact fun t q => k t (XS.lmul X.here hx rfl hd rfl (hz ▸ q))
theorem iand {x y z : Int32} (k : Goes p e below S G T (mkF m pc Ls (.int y :: .int x :: St))) (X : Stand p l e R s m args below meth c T locs cells slots) (hx : p.tables.exec = Jvm.exec) (hd : decode c.code pc = .ok (.iand, 1)) (hz : x &&& y = z) (hp : pc + 1 = pc') : Goes p e below S G T (mkF m pc' Ls (.int z :: St)) := by
  subst hp; exact fun t q => k t (XS.iand X.here hx rfl hd rfl (hz ▸ q))
theorem land {x y z : Int64} (k : Goes p e below S G T (mkF m pc Ls (.long y :: .long x :: St))) (X : Stand p l e R s m args below meth c T locs cells slots) (hx : p.tables.exec = Jvm.exec) (hd : decode c.code pc = .ok (.land, 1)) (hz : x &&& y = z) (hp : pc + 1 = pc') : Goes p e below S G T (mkF m pc' Ls (.long z :: St)) := by
  subst hp; exact fun t q => k t (XS.land X.here hx rfl hd rfl (hz ▸ q))
theorem ior {x y z : Int32} (k : Goes p e below S G T (mkF m pc Ls (.int y :: .int x :: St))) (X : Stand p l e R s m args below meth c T locs cells slots) (hx : p.tables.exec = Jvm.exec) (hd : decode c.code pc = .ok (.ior, 1)) (hz : x ||| y = z) (hp : pc + 1 = pc') : Goes p e below S G T (mkF m pc' Ls (.int z :: St)) := by
  subst hp; exact fun t q => k t (XS.ior X.here hx rfl hd rfl (hz ▸ q))
theorem lor {x y z : Int64} (k : Goes p e below S G T (mkF m pc Ls (.long y :: .long x :: St))) (X : Stand p l e R s m args below meth c T locs cells slots) (hx : p.tables.exec = Jvm.exec) (hd : decode c.code pc = .ok (.lor, 1)) (hz : x ||| y = z) (hp : pc + 1 = pc') : Goes p e below S G T (mkF m pc' Ls (.long z :: St)) := by
  subst hp; exact fun t q => k t (XS.lor X.here hx rfl hd rfl (hz ▸ q))
theorem ixor {x y z : Int32} (k : Goes p e below S G T (mkF m pc Ls (.int y :: .int x :: St))) (X : Stand p l e R s m args below meth c T locs cells slots) (hx : p.tables.exec = Jvm.exec) (hd : decode c.code pc = .ok (.ixor, 1)) (hz : x ^^^ y = z) (hp : pc + 1 = pc') : Goes p e below S G T (mkF m pc' Ls (.int z :: St)) := by
  subst hp; exact fun t q => k t (XS.ixor X.here hx rfl hd rfl (hz ▸ q))
theorem lxor {x y z : Int64} (k : Goes p e below S G T (mkF m pc Ls (.long y :: .long x :: St))) (X : Stand p l e R s m args below meth c T locs cells slots) (hx : p.tables.exec = Jvm.exec) (hd : decode c.code pc = .ok (.lxor, 1)) (hz : x ^^^ y = z) (hp : pc + 1 = pc') : Goes p e below S G T (mkF m pc' Ls (.long z :: St)) := by
  subst hp; exact fun t q => k t (XS.lxor X.here hx rfl hd rfl (hz ▸ q))
theorem ineg {x : Int32} {z : Int32} (k : Goes p e below S G T (mkF m pc Ls (.int x :: St))) (X : Stand p l e R s m args below meth c T locs cells slots) (hx : p.tables.exec = Jvm.exec) (hd : decode c.code pc = .ok (.ineg, 1)) (hz : -x = z) (hp : pc + 1 = pc') : Goes p e below S G T (mkF m pc' Ls (.int z :: St)) := by
  subst hp; exact fun t q => k t (XS.ineg X.here hx rfl hd rfl (hz ▸ q))
theorem lneg {x : Int64} {z : Int64} (k : Goes p e below S G T (mkF m pc Ls (.long x :: St))) (X : Stand p l e R s m args below meth c T locs cells slots) (hx : p.tables.exec = Jvm.exec) (hd : decode c.code pc = .ok (.lneg, 1)) (hz : -x = z) (hp : pc + 1 = pc') : Goes p e below S G T (mkF m pc' Ls (.long z :: St)) := by
  subst hp; exact fun t q => k t (XS.lneg X.here hx rfl hd rfl (hz ▸ q))
theorem i2l {x : Int32} {z : Int64} (k : Goes p e below S G T (mkF m pc Ls (.int x :: St))) (X : Stand p l e R s m args below meth c T locs cells slots) (hx : p.tables.exec = Jvm.exec) (hd : decode c.code pc = .ok (.i2l, 1)) (hz : x.toInt64 = z) (hp : pc + 1 = pc') : Goes p e below S G T (mkF m pc' Ls (.long z :: St)) := by
  subst hp; exact fun t q => k t (XS.i2l X.here hx rfl hd rfl (hz ▸ q))
theorem l2i {x : Int64} {z : Int32} (k : Goes p e below S G T (mkF m pc Ls (.long x :: St))) (X : Stand p l e R s m args below meth c T locs cells slots) (hx : p.tables.exec = Jvm.exec) (hd : decode c.code pc = .ok (.l2i, 1)) (hz : x.toInt32 = z) (hp : pc + 1 = pc') : Goes p e below S G T (mkF m pc' Ls (.int z :: St)) := by
  subst hp; exact fun t q => k t (XS.l2i X.here hx rfl hd rfl (hz ▸ q))
theorem i2b {x : Int32} {z : Int32} (k : Goes p e below S G T (mkF m pc Ls (.int x :: St))) (X : Stand p l e R s m args below meth c T locs cells slots) (hx : p.tables.exec = Jvm.exec) (hd : decode c.code pc = .ok (.i2b, 1)) (hz : x.toInt8.toInt32 = z) (hp : pc + 1 = pc') : Goes p e below S G T (mkF m pc' Ls (.int z :: St)) := by
  subst hp; exact fun t q => k t (XS.i2b X.here hx rfl hd rfl (hz ▸ q))
theorem i2s {x : Int32} {z : Int32} (k : Goes p e below S G T (mkF m pc Ls (.int x :: St))) (X : Stand p l e R s m args below meth c T locs cells slots) (hx : p.tables.exec = Jvm.exec) (hd : decode c.code pc = .ok (.i2s, 1)) (hz : x.toInt16.toInt32 = z) (hp : pc + 1 = pc') : Goes p e below S G T (mkF m pc' Ls (.int z :: St)) := by
  subst hp; exact fun t q => k t (XS.i2s X.here hx rfl hd rfl (hz ▸ q))
theorem i2c {x : Int32} {z : Int32} (k : Goes p e below S G T (mkF m pc Ls (.int x :: St))) (X : Stand p l e R s m args below meth c T locs cells slots) (hx : p.tables.exec = Jvm.exec) (hd : decode c.code pc = .ok (.i2c, 1)) (hz : x.toUInt32.toUInt16.toUInt32.toInt32 = z) (hp : pc + 1 = pc') : Goes p e below S G T (mkF m pc' Ls (.int z :: St)) := by
  subst hp; exact fun t q => k t (XS.i2c X.here hx rfl hd rfl (hz ▸ q))
theorem ishl {x y z : Int32} (k : Goes p e below S G T (mkF m pc Ls (.int y :: .int x :: St))) (X : Stand p l e R s m args below meth c T locs cells slots) (hx : p.tables.exec = Jvm.exec) (hd : decode c.code pc = .ok (.ishl, 1)) (hz : x <<< (y &&& 31) = z) (hp : pc + 1 = pc') : Goes p e below S G T (mkF m pc' Ls (.int z :: St)) := by
  subst hp; exact fun t q => k t (XS.ishl X.here hx rfl hd rfl (hz ▸ q))
theorem ishr {x y z : Int32} (k : Goes p e below S G T (mkF m pc Ls (.int y :: .int x :: St))) (X : Stand p l e R s m args below meth c T locs cells slots) (hx : p.tables.exec = Jvm.exec) (hd : decode c.code pc = .ok (.ishr, 1)) (hz : x >>> (y &&& 31) = z) (hp : pc + 1 = pc') : Goes p e below S G T (mkF m pc' Ls (.int z :: St)) := by
  subst hp; exact fun t q => k t (XS.ishr X.here hx rfl hd rfl (hz ▸ q))
theorem iushr {x y z : Int32} (k : Goes p e below S G T (mkF m pc Ls (.int y :: .int x :: St))) (X : Stand p l e R s m args below meth c T locs cells slots) (hx : p.tables.exec = Jvm.exec) (hd : decode c.code pc = .ok (.iushr, 1)) (hz : (x.toUInt32 >>> (y &&& 31).toUInt32).toInt32 = z) (hp : pc + 1 = pc') : Goes p e below S G T (mkF m pc' Ls (.int z :: St)) := by
  subst hp; exact fun t q => k t (XS.iushr X.here hx rfl hd rfl (hz ▸ q))
theorem lshl {x z : Int64} {y : Int32} (k : Goes p e below S G T (mkF m pc Ls (.int y :: .long x :: St))) (X : Stand p l e R s m args below meth c T locs cells slots) (hx : p.tables.exec = Jvm.exec) (hd : decode c.code pc = .ok (.lshl, 1)) (hz : x <<< (y &&& 0x3f).toInt64 = z) (hp : pc + 1 = pc') : Goes p e below S G T (mkF m pc' Ls (.long z :: St)) := by
  subst hp; exact fun t q => k t (XS.lshl X.here hx rfl hd rfl (hz ▸ q))
theorem lshr {x z : Int64} {y : Int32} (k : Goes p e below S G T (mkF m pc Ls (.int y :: .long x :: St))) (X : Stand p l e R s m args below meth c T locs cells slots) (hx : p.tables.exec = Jvm.exec) (hd : decode c.code pc = .ok (.lshr, 1)) (hz : x >>> (y &&& 0x3f).toInt64 = z) (hp : pc + 1 = pc') : Goes p e below S G T (mkF m pc' Ls (.long z :: St)) := by
  subst hp; exact fun t q => k t (XS.lshr X.here hx rfl hd rfl (hz ▸ q))
theorem lushr {x z : Int64} {y : Int32} (k : Goes p e below S G T (mkF m pc Ls (.int y :: .long x :: St))) (X : Stand p l e R s m args below meth c T locs cells slots) (hx : p.tables.exec = Jvm.exec) (hd : decode c.code pc = .ok (.lushr, 1)) (hz : (x.toUInt64 >>> (y &&& 0x3f).toInt64.toUInt64).toInt64 = z) (hp : pc + 1 = pc') : Goes p e below S G T (mkF m pc' Ls (.long z :: St)) := by
  subst hp; exact fun t q => k t (XS.lushr X.here hx rfl hd rfl (hz ▸ q))
theorem idiv {x y z : Int32} (k : Goes p e below S G T (mkF m pc Ls (.int y :: .int x :: St))) (X : Stand p l e R s m args below meth c T locs cells slots) (hx : p.tables.exec = Jvm.exec) (hd : decode c.code pc = .ok (.idiv, 1)) (hy : y ≠ 0) (hz : x / y = z) (hp : pc + 1 = pc') : Goes p e below S G T (mkF m pc' Ls (.int z :: St)) := by
  subst hp; exact fun t q => k t (XS.idiv X.here hx rfl hd rfl hy (hz ▸ q))
theorem ldiv {x y z : Int64} (k : Goes p e below S G T (mkF m pc Ls (.long y :: .long x :: St))) (X : Stand p l e R s m args below meth c T locs cells slots) (hx : p.tables.exec = Jvm.exec) (hd : decode c.code pc = .ok (.ldiv, 1)) (hy : y ≠ 0) (hz : x / y = z) (hp : pc + 1 = pc') : Goes p e below S G T (mkF m pc' Ls (.long z :: St)) := by
  subst hp; exact fun t q => k t (XS.ldiv X.here hx rfl hd rfl hy (hz ▸ q))
theorem irem {x y z : Int32} (k : Goes p e below S G T (mkF m pc Ls (.int y :: .int x :: St))) (X : Stand p l e R s m args below meth c T locs cells slots) (hx : p.tables.exec = Jvm.exec) (hd : decode c.code pc = .ok (.irem, 1)) (hy : y ≠ 0) (hz : x % y = z) (hp : pc + 1 = pc') : Goes p e below S G T (mkF m pc' Ls (.int z :: St)) := by
  subst hp; exact fun t q => k t (iremM X hx rfl hd rfl hy (hz ▸ q))
theorem lrem {x y z : Int64} (k : Goes p e below S G T (mkF m pc Ls (.long y :: .long x :: St))) (X : Stand p l e R s m args below meth c T locs cells slots) (hx : p.tables.exec = Jvm.exec) (hd : decode c.code pc = .ok (.lrem, 1)) (hy : y ≠ 0) (hz : x % y = z) (hp : pc + 1 = pc') : Goes p e below S G T (mkF m pc' Ls (.long z :: St)) := by
  subst hp; exact fun t q => k t (XS.lrem X.here hx rfl hd rfl hy (by rw [lrem_mod]; exact hz ▸ q))
theorem lcmp {x y : Int64} (k : Goes p e below S G T (mkF m pc Ls (.long y :: .long x :: St))) (X : Stand p l e R s m args below meth c T locs cells slots) (hx : p.tables.exec = Jvm.exec) (hd : decode c.code pc = .ok (.lcmp, 1)) (hp : pc + 1 = pc') : Goes p e below S G T (mkF m pc' Ls (.int (lcmpW x y) :: St)) := by
  subst hp; exact fun t q => k t (XS.lcmp X.here hx rfl hd rfl q)
theorem iinc {i : Nat} {cst : Int} {x z : Int32} {Ls' : Array Slot} (k : Goes p e below S G T (mkF m pc Ls St)) (X : Stand p l e R s m args below meth c T locs cells slots) (hx : p.tables.exec = Jvm.exec) (hd : decode c.code pc = .ok (.iinc i cst, 3)) (hl : Ls[i]? = some (.val (.int x))) (hz : x + Int32.ofInt cst = z) (hl' : storeLocals Ls i (.int z) = some Ls') (hp : pc + 3 = pc') : Goes p e below S G T (mkF m pc' Ls' St) := by
  subst hp; exact fun t q => k t (XS.iinc X.here hx rfl hd hl (hz ▸ hl') q)
theorem dup {v : Value} (k : Goes p e below S G T (mkF m pc Ls (v :: St))) (X : Stand p l e R s m args below meth c T locs cells slots) (hx : p.tables.exec = Jvm.exec) (hd : decode c.code pc = .ok (.dup, 1)) (hc : v.category = 1) (hp : pc + 1 = pc') : Goes p e below S G T (mkF m pc' Ls (v :: v :: St)) := by
  subst hp; exact fun t q => k t (XS.dup X.here hx rfl hd rfl hc q)
theorem dupX1 {v w : Value} (k : Goes p e below S G T (mkF m pc Ls (v :: w :: St))) (X : Stand p l e R s m args below meth c T locs cells slots) (hx : p.tables.exec = Jvm.exec) (hd : decode c.code pc = .ok (.dup_x1, 1)) (hc : v.category = 1) (hc' : w.category = 1) (hp : pc + 1 = pc') : Goes p e below S G T (mkF m pc' Ls (v :: w :: v :: St)) := by
  subst hp; exact fun t q => k t (XS.dupX1 X.here hx rfl hd rfl hc hc' q)
theorem pop {v : Value} (k : Goes p e below S G T (mkF m pc Ls (v :: St))) (X : Stand p l e R s m args below meth c T locs cells slots) (hx : p.tables.exec = Jvm.exec) (hd : decode c.code pc = .ok (.pop, 1)) (hc : v.category = 1) (hp : pc + 1 = pc') : Goes p e below S G T (mkF m pc' Ls St) := by
  subst hp; exact fun t q => k t (XS.pop X.here hx rfl hd rfl hc q)
theorem goto {o : Int} (k : Goes p e below S G T (mkF m pc Ls St)) (X : Stand p l e R s m args below meth c T locs cells slots) (hx : p.tables.exec = Jvm.exec) (hd : decode c.code pc = .ok (.goto o, 3)) (ho : 0 ≤ (pc : Int) + o) (hp : ((pc : Int) + o).toNat = pc') : Goes p e below S G T (mkF m pc' Ls St) := fun t q => k t (XS.goto X.here hx rfl rfl hd ho hp q)
theorem ifYes {o : Int} {cd : ClassFile.Cond} {x : Int32} (k : Goes p e below S G T (mkF m pc Ls (.int x :: St))) (X : Stand p l e R s m args below meth c T locs cells slots) (hx : p.tables.exec = Jvm.exec) (hd : decode c.code pc = .ok (.ifCond cd o, 3)) (hc : ifCond.holds cd x = true) (ho : 0 ≤ (pc : Int) + o) (hp : ((pc : Int) + o).toNat = pc') : Goes p e below S G T (mkF m pc' Ls St) := fun t q => k t (XS.ifYes X.here hx rfl rfl hd rfl hc ho hp q)
theorem ifNo {o : Int} {cd : ClassFile.Cond} {x : Int32} (k : Goes p e below S G T (mkF m pc Ls (.int x :: St))) (X : Stand p l e R s m args below meth c T locs cells slots) (hx : p.tables.exec = Jvm.exec) (hd : decode c.code pc = .ok (.ifCond cd o, 3)) (hc : ifCond.holds cd x = false) (hp : pc + 3 = pc') : Goes p e below S G T (mkF m pc' Ls St) := fun t q => k t (XS.ifNo X.here hx rfl hd rfl hc (by subst hp; exact q))
theorem icmpYes {o : Int} {cd : ClassFile.Cond} {x y : Int32} (k : Goes p e below S G T (mkF m pc Ls (.int y :: .int x :: St))) (X : Stand p l e R s m args below meth c T locs cells slots) (hx : p.tables.exec = Jvm.exec) (hd : decode c.code pc = .ok (.if_icmp cd o, 3)) (hc : if_icmp.holds cd x y = true) (ho : 0 ≤ (pc : Int) + o) (hp : ((pc : Int) + o).toNat = pc') : Goes p e below S G T (mkF m pc' Ls St) := fun t q => k t (XS.icmpYes X.here hx rfl rfl hd rfl hc ho hp q)
theorem icmpNo {o : Int} {cd : ClassFile.Cond} {x y : Int32} (k : Goes p e below S G T (mkF m pc Ls (.int y :: .int x :: St))) (X : Stand p l e R s m args below meth c T locs cells slots) (hx : p.tables.exec = Jvm.exec) (hd : decode c.code pc = .ok (.if_icmp cd o, 3)) (hc : if_icmp.holds cd x y = false) (hp : pc + 3 = pc') : Goes p e below S G T (mkF m pc' Ls St) := fun t q => k t (XS.icmpNo X.here hx rfl hd rfl hc (by subst hp; exact q))
theorem ifnullYes {o : Int} (k : Goes p e below S G T (mkF m pc Ls (.null :: St))) (X : Stand p l e R s m args below meth c T locs cells slots) (hx : p.tables.exec = Jvm.exec) (hd : decode c.code pc = .ok (.ifnull o, 3)) (ho : 0 ≤ (pc : Int) + o) (hp : ((pc : Int) + o).toNat = pc') : Goes p e below S G T (mkF m pc' Ls St) := fun t q => k t (XS.ifnullYes X.here hx rfl rfl hd rfl ho hp q)
theorem ifnullNo {o : Int} {b : Addr} (k : Goes p e below S G T (mkF m pc Ls (.ref b :: St))) (X : Stand p l e R s m args below meth c T locs cells slots) (hx : p.tables.exec = Jvm.exec) (hd : decode c.code pc = .ok (.ifnull o, 3)) (hp : pc + 3 = pc') : Goes p e below S G T (mkF m pc' Ls St) := fun t q => k t (XS.ifnullNo X.here hx rfl hd rfl (by subst hp; exact q))
theorem ifnonnullYes {o : Int} {b : Addr} (k : Goes p e below S G T (mkF m pc Ls (.ref b :: St))) (X : Stand p l e R s m args below meth c T locs cells slots) (hx : p.tables.exec = Jvm.exec) (hd : decode c.code pc = .ok (.ifnonnull o, 3)) (ho : 0 ≤ (pc : Int) + o) (hp : ((pc : Int) + o).toNat = pc') : Goes p e below S G T (mkF m pc' Ls St) := fun t q => k t (XS.ifnonnullYes X.here hx rfl rfl hd rfl ho hp q)
theorem ifnonnullNo {o : Int} (k : Goes p e below S G T (mkF m pc Ls (.null :: St))) (X : Stand p l e R s m args below meth c T locs cells slots) (hx : p.tables.exec = Jvm.exec) (hd : decode c.code pc = .ok (.ifnonnull o, 3)) (hp : pc + 3 = pc') : Goes p e below S G T (mkF m pc' Ls St) := fun t q => k t (XS.ifnonnullNo X.here hx rfl hd rfl (by subst hp; exact q))
theorem acmp {cd : ACond} {x y : Value} {o : Int} (k : Goes p e below S G T (mkF m pc Ls (y :: x :: St))) (X : Stand p l e R s m args below meth c T locs cells slots) (hx : p.tables.exec = Jvm.exec) (hd : decode c.code pc = .ok (.if_acmp cd o, 3)) (h1 : x.isRef = true) (h2 : y.isRef = true) (same : Bool) (hq : decide (x = y) = same) (ho : 0 ≤ (pc : Int) + o) (hp : pc' = if acV cd same = true then ((pc : Int) + o).toNat else pc + 3) : Goes p e below S G T (mkF m pc' Ls St) := fun t q => k t (Jvm.RoadKit.acmp (g := mkF m pc Ls (y :: x :: St)) X hx rfl h1 h2 rfl hd rfl hq ho hp q)
theorem tsw {dflt low high : Int} {offs : Array Int} {len : Nat} {o : Int} {i : Int32} (k : Goes p e below S G T (mkF m pc Ls (.int i :: St))) (X : Stand p l e R s m args below meth c T locs cells slots) (hx : p.tables.exec = Jvm.exec) (hd : decode c.code pc = .ok (.tableswitch dflt low high offs, len)) (hin : ¬ (i.toInt < low ∨ i.toInt > high)) (hoff : offs[(i.toInt - low).toNat]? = some o) (ho : 0 ≤ (pc : Int) + o) (hp : ((pc : Int) + o).toNat = pc') : Goes p e below S G T (mkF m pc' Ls St) := fun t q => k t (XS.tswIn X.here hx rfl rfl hd rfl hin hoff ho hp q)
end Jvm.Own.Fw
namespace Jvm.Pilot.@@N@@
open Jvm Jvm.ClassFile Sem Op Lib Jvm.Free Jvm.Stand Jvm.LawKit Jvm.RoadKit Jvm.Own Bundle Jvm.Pilot.@@N@@.Jvm.D
theorem own_fld {args : Array Value} {s : State} {t : Term} {C n d : String} {x : Addr} {k : Int32} (ev : t.eval args s none [] s = some (.ref x)) (h : (Jvm.Cond.eq (.field t C n d) (.int k)).value args s none s [] = some true) : Fld s s.heap x C n d (.int k) := by
  obtain ⟨u, w, e1, e2, K1, K2⟩ := cmp_v (Or.inl h)
  obtain rfl : w = .int k := (Option.some.inj e2).symm
  obtain ⟨z, rfl⟩ := K2
  have hz : z = k := by simpa [Cond.value, e1, e2] using h
  subst hz
  rw [fld_at ev] at e1
  exact Fld.start e1
theorem d_prog_30_method_5_0 : decode prog_30_method_5_code 0 = .ok (.aload_n 0, 1) := by decide +kernel
theorem d_prog_30_method_5_1 : decode prog_30_method_5_code 1 = .ok (.getstatic 13, 3) := by decide +kernel
theorem d_prog_30_method_5_4 : decode prog_30_method_5_code 4 = .ok (.if_acmp .eq 10, 3) := by decide +kernel
theorem d_prog_30_method_5_14 : decode prog_30_method_5_code 14 = .ok (.iconst 1, 1) := by decide +kernel
theorem d_prog_30_method_5_15 : decode prog_30_method_5_code 15 = .ok (.goto 4, 3) := by decide +kernel
theorem d_prog_30_method_5_19 : decode prog_30_method_5_code 19 = .ok (.ireturn, 1) := by decide +kernel
theorem d_prog_30_method_5_7 : decode prog_30_method_5_code 7 = .ok (.aload_n 0, 1) := by decide +kernel
theorem d_prog_30_method_5_8 : decode prog_30_method_5_code 8 = .ok (.getstatic 10, 3) := by decide +kernel
theorem d_prog_30_method_5_11 : decode prog_30_method_5_code 11 = .ok (.if_acmp .ne 7, 3) := by decide +kernel
theorem d_prog_30_method_5_18 : decode prog_30_method_5_code 18 = .ok (.iconst 0, 1) := by decide +kernel
theorem pn_MiniInstruction_Operand : plainName "com/example/kleinmaschine/kleinmaschine/MiniInstruction$Operand" = true := by first | (simp [plainName, overriddenIn]; done) | decide +kernel
theorem ef_R_1 (m : MethodId) (x0 : Addr) : entryFrame m #[(.ref x0)] 1 = mkF m 0 #[.val (.ref x0)] [] := by first | (simp [entryFrame, mkF, argsToLocals, Value.category]; done) | rfl
def Q_tl (Z : State) (a1 : Addr) (wA : Addr) (wN : Addr) (h0 : Heap) (n0 : Nat) (v : Option Value) (h : Heap) (L : List Loc) : Prop := v = some (.int (if a1 = wA ∨ a1 = wN then 1 else 0)) ∧ Fr n0 L ∧ h = h0
set_option maxRecDepth 65536 in
set_option maxHeartbeats 40000000 in
theorem rm_tl (l : Launch) (Z : State) (a0 : Array Value) (hw : ∀ d ∈ tables_1, d.before a0 Z = true) (ws : List Jvm.Cond) (a1 : Addr) (wA : Addr) (wN : Addr) (h0 : Heap) (n0 : Nat) (O0 : Old Z n0 h0) (SA : Sta Z Z.heap "com/example/kleinmaschine/kleinmaschine/MiniInstruction$Operand" "ADDRESS" "Lcom/example/kleinmaschine/kleinmaschine/MiniInstruction$Operand;" (.ref wA)) (SN : Sta Z Z.heap "com/example/kleinmaschine/kleinmaschine/MiniInstruction$Operand" "NUMBER_OR_LABEL" "Lcom/example/kleinmaschine/kleinmaschine/MiniInstruction$Operand;" (.ref wN)) :
    MetFree l (⟨"com/example/kleinmaschine/kleinmaschine/MiniInstruction$Operand", "takesLabel", "()Z"⟩ : MethodName) (head1 (Jvm.Cond.code (⟨"com/example/kleinmaschine/kleinmaschine/MiniInstruction$Operand", "takesLabel", "()Z"⟩ : MethodName) prog_30_method_5_code 1 (some .boolean) :: ws) ({ frames := 0, cells := 0, slots := 0, locals := 0 } : Room)) (fun a U => a = #[(.ref a1)] ∧ Z.Warmed39 U.vm ∧ U.heap = h0) (fun _ _ _ _ _ => True) (fun _ U o U' => ∃ v L, o = .returned v ∧ Q_tl Z a1 wA wN h0 n0 v U'.heap L ∧ FrameEnd U o U' L ({ frames := 0, cells := 0, slots := 0, locals := 0 } : Room).cells ({ frames := 0, cells := 0, slots := 0, locals := 0 } : Room).slots) := by
  refine MetFree.of_bodySF (plainFor_of_name pn_MiniInstruction_Operand) hisR ?_
  intro p e s m args below meth c s₁ Bd hml0 hP hK
  obtain ⟨rfl, hZ, hh⟩ := hP
  have hx := Bd.exec
  have hby := Bd.bytes
  have hml : c.maxLocals = 1 := hml0
  have hown : s.vm.findClass "com/example/kleinmaschine/kleinmaschine/MiniInstruction$Operand" = some m.cls := findClass_of_methodNamed Bd.named
  have hnm := (name_of_methodNamed Bd.named Bd.method).1
  have X0 : Stand p l e ({ frames := 0, cells := 0, slots := 0, locals := 0 } : Room) s m #[(.ref a1)] below meth c s₁ [] 0 0 := Stand.of_body Bd
  have e0 : s₁.heap = h0 := by rw [← hh, Bd.state]; rfl
  have N0 := Fr.nil n0
  obtain ⟨G0, hG0⟩ : ∃ z, z = (mkF m 0 #[.val (.ref a1)] []) := ⟨_, rfl⟩
  have pre0 : ∀ t, Steps p.tables e below (s₁.setTop G0) t → Steps p.tables e below (s₁.setTop (entryFrame m #[(.ref a1)] 1)) t := fun t k => castTop (ef_R_1 m a1) (hG0 ▸ k)
  have k : Goes p e below s₁ G0 s₁ (mkF m 0 #[.val (.ref a1)] []) := fun t q => hG0 ▸ q
  replace k := Fw.aloadN k X0 hx (hb hby d_prog_30_method_5_0) rfl rfl (pc' := 1) rfl
  obtain ⟨T1, X1, e1, st1⟩ := getS2 X0 hx hZ hown (host := "") (Or.inl (hw _ (List.mem_of_getElem? (i := 8) rfl))) Via.refl e0 (SA.ext O0.2) (g := (mkF m 1 #[.val (.ref a1)] [(.ref a1)])) rfl (hb hby d_prog_30_method_5_1)
  replace k : Goes p e below s₁ G0 T1 (mkF m 4 #[.val (.ref a1)] [(.ref wA), (.ref a1)]) := fun t q => k t (st1 _ q)
  by_cases hc4_2 : a1 = wA
  · replace k := Fw.acmp k X1 hx (hb hby d_prog_30_method_5_4) rfl rfl true (decide_eq_true (congrArg Value.ref hc4_2)) (by decide) (pc' := 14) (by decide)
    replace k := Fw.iconst k X1 hx (hb hby d_prog_30_method_5_14) (z := (1 : Int32)) (by decide) (pc' := 15) rfl
    replace k := Fw.goto k X1 hx (hb hby d_prog_30_method_5_15) (by decide) (pc' := 19) rfl
    obtain ⟨fs, hr, hrun, hended, hW, hsame⟩ := X1.leave (v := some (.int 1)) (fun h => by rw [Bd.returns] at h; cases h)
    refine ⟨_, _, pre0 _ (k _ ?_), hrun, hended, _, _, rfl, ?_, ⟨_, rfl⟩, hW, hsame.mono (by decide) (by decide)⟩
    · exact retN X1 hx (t := .boolean) Bd.returns (by simp) (hb hby d_prog_30_method_5_19) hr
    · show Q_tl Z a1 wA wN h0 n0 _ T1.heap _
      rw [e1]
      refine ⟨?_, N0, rfl⟩
      simp [*]
  · replace k := Fw.acmp k X1 hx (hb hby d_prog_30_method_5_4) rfl rfl false (decide_eq_false fun q => hc4_2 (Value.ref.inj q)) (by decide) (pc' := 7) (by decide)
    replace k := Fw.aloadN k X1 hx (hb hby d_prog_30_method_5_7) rfl rfl (pc' := 8) rfl
    obtain ⟨T3, X3, e3, st3⟩ := getS2 X1 hx hZ hown (host := "") (Or.inl (hw _ (List.mem_of_getElem? (i := 10) rfl))) Via.refl e1 (SN.ext O0.2) (g := (mkF m 8 #[.val (.ref a1)] [(.ref a1)])) rfl (hb hby d_prog_30_method_5_8)
    replace k : Goes p e below s₁ G0 T3 (mkF m 11 #[.val (.ref a1)] [(.ref wN), (.ref a1)]) := fun t q => k t (st3 _ q)
    by_cases hc11_4 : a1 = wN
    · replace k := Fw.acmp k X3 hx (hb hby d_prog_30_method_5_11) rfl rfl true (decide_eq_true (congrArg Value.ref hc11_4)) (by decide) (pc' := 14) (by decide)
      replace k := Fw.iconst k X3 hx (hb hby d_prog_30_method_5_14) (z := (1 : Int32)) (by decide) (pc' := 15) rfl
      replace k := Fw.goto k X3 hx (hb hby d_prog_30_method_5_15) (by decide) (pc' := 19) rfl
      obtain ⟨fs, hr, hrun, hended, hW, hsame⟩ := X3.leave (v := some (.int 1)) (fun h => by rw [Bd.returns] at h; cases h)
      refine ⟨_, _, pre0 _ (k _ ?_), hrun, hended, _, _, rfl, ?_, ⟨_, rfl⟩, hW, hsame.mono (by decide) (by decide)⟩
      · exact retN X3 hx (t := .boolean) Bd.returns (by simp) (hb hby d_prog_30_method_5_19) hr
      · show Q_tl Z a1 wA wN h0 n0 _ T3.heap _
        rw [e3]
        refine ⟨?_, N0, rfl⟩
        simp [*]
    · replace k := Fw.acmp k X3 hx (hb hby d_prog_30_method_5_11) rfl rfl false (decide_eq_false fun q => hc11_4 (Value.ref.inj q)) (by decide) (pc' := 18) (by decide)
      replace k := Fw.iconst k X3 hx (hb hby d_prog_30_method_5_18) (z := (0 : Int32)) (by decide) (pc' := 19) rfl
      obtain ⟨fs, hr, hrun, hended, hW, hsame⟩ := X3.leave (v := some (.int 0)) (fun h => by rw [Bd.returns] at h; cases h)
      refine ⟨_, _, pre0 _ (k _ ?_), hrun, hended, _, _, rfl, ?_, ⟨_, rfl⟩, hW, hsame.mono (by decide) (by decide)⟩
      · exact retN X3 hx (t := .boolean) Bd.returns (by simp) (hb hby d_prog_30_method_5_19) hr
      · show Q_tl Z a1 wA wN h0 n0 _ T3.heap _
        rw [e3]
        refine ⟨?_, N0, rfl⟩
        simp [*]
theorem pd__r_Z : parseMethodDescriptor "()Z" = some ⟨[], some .boolean⟩ := by decide +kernel
theorem pn_OperandTakesLabelPinLaw : plainName "com/example/kleinmaschine/kleinmaschine/OperandTakesLabelPinLaw" = true := by first | (simp [plainName, overriddenIn]; done) | decide +kernel
theorem ef_I_maxLocals (m : MethodId) (x0 : Int32) : entryFrame m #[(.int x0)] maxLocals = mkF m 0 #[.val (.int x0), .unset, .unset, .unset] [] := by first | (simp [entryFrame, mkF, argsToLocals, Value.category, maxLocals]; done) | rfl
def Q_law (Z : State) (p1 : Int32) (wO : Addr) (wU : Addr) (wN : Addr) (wA : Addr) (h0 : Heap) (n0 : Nat) (v : Option Value) (h : Heap) (L : List Loc) : Prop := v = some (.int 1) ∧ Fr n0 L ∧ True
set_option maxRecDepth 65536 in
set_option maxHeartbeats 40000000 in
theorem rm_law (l : Launch) (Z : State) (a0 : Array Value) (hw : ∀ d ∈ tables_1, d.before a0 Z = true) (ws : List Jvm.Cond) (p1 : Int32) (wO : Addr) (wU : Addr) (wN : Addr) (wA : Addr) (h0 : Heap) (n0 : Nat) (O0 : Old Z n0 h0) (SO : Sta Z Z.heap "com/example/kleinmaschine/kleinmaschine/MiniInstruction$Operand" "NONE" "Lcom/example/kleinmaschine/kleinmaschine/MiniInstruction$Operand;" (.ref wO)) (SU : Sta Z Z.heap "com/example/kleinmaschine/kleinmaschine/MiniInstruction$Operand" "NUMBER" "Lcom/example/kleinmaschine/kleinmaschine/MiniInstruction$Operand;" (.ref wU)) (SN : Sta Z Z.heap "com/example/kleinmaschine/kleinmaschine/MiniInstruction$Operand" "NUMBER_OR_LABEL" "Lcom/example/kleinmaschine/kleinmaschine/MiniInstruction$Operand;" (.ref wN)) (SA : Sta Z Z.heap "com/example/kleinmaschine/kleinmaschine/MiniInstruction$Operand" "ADDRESS" "Lcom/example/kleinmaschine/kleinmaschine/MiniInstruction$Operand;" (.ref wA)) (EO : Exa Z Z.heap wO "com/example/kleinmaschine/kleinmaschine/MiniInstruction$Operand") (EU : Exa Z Z.heap wU "com/example/kleinmaschine/kleinmaschine/MiniInstruction$Operand") (EN : Exa Z Z.heap wN "com/example/kleinmaschine/kleinmaschine/MiniInstruction$Operand") (EA : Exa Z Z.heap wA "com/example/kleinmaschine/kleinmaschine/MiniInstruction$Operand") (nOA : wO ≠ wA) (nON : wO ≠ wN) (nUA : wU ≠ wA) (nUN : wU ≠ wN) :
    MetFree l x (head1 (Jvm.Cond.code x code maxLocals ret :: ws) room_1) (fun a U => a = #[(.int p1)] ∧ Z.Warmed39 U.vm ∧ U.heap = h0) (fun _ _ _ _ _ => True) (fun _ U o U' => ∃ v L, o = .returned v ∧ Q_law Z p1 wO wU wN wA h0 n0 v U'.heap L ∧ FrameEnd U o U' L room_1.cells room_1.slots) := by
  refine MetFree.of_bodySF (plainFor_of_name pn_OperandTakesLabelPinLaw) hisR ?_
  intro p e s m args below meth c s₁ Bd hml0 hP hK
  obtain ⟨rfl, hZ, hh⟩ := hP
  have hx := Bd.exec
  have hby := Bd.bytes
  have hml : c.maxLocals = 4 := hml0
  have hown : s.vm.findClass "com/example/kleinmaschine/kleinmaschine/OperandTakesLabelPinLaw" = some m.cls := findClass_of_methodNamed Bd.named
  have hnm := (name_of_methodNamed Bd.named Bd.method).1
  have X0 : Stand p l e room_1 s m #[(.int p1)] below meth c s₁ [] 0 0 := Stand.of_body Bd
  have e0 : s₁.heap = h0 := by rw [← hh, Bd.state]; rfl
  have N0 := Fr.nil n0
  obtain ⟨G0, hG0⟩ : ∃ z, z = (mkF m 0 #[.val (.int p1), .unset, .unset, .unset] []) := ⟨_, rfl⟩
  have pre0 : ∀ t, Steps p.tables e below (s₁.setTop G0) t → Steps p.tables e below (s₁.setTop (entryFrame m #[(.int p1)] maxLocals)) t := fun t k => castTop (ef_I_maxLocals m p1) (hG0 ▸ k)
  have k : Goes p e below s₁ G0 s₁ (mkF m 0 #[.val (.int p1), .unset, .unset, .unset] []) := fun t q => hG0 ▸ q
  replace k := Fw.iloadN k X0 hx (hb hby at_0) rfl (pc' := 1) rfl
  replace k := Fw.iconst k X0 hx (hb hby at_1) (z := (3 : Int32)) (by decide) (pc' := 2) rfl
  replace k := Fw.iand k X0 hx (hb hby at_2) rfl (pc' := 3) rfl
  replace k := Fw.istoreN k X0 hx (hb hby at_3)  (Ls' := #[.val (.int p1), .val (.int (p1 &&& (3 : Int32))), .unset, .unset]) rfl (pc' := 4) rfl
  replace k := Fw.iloadN k X0 hx (hb hby at_4) rfl (pc' := 5) rfl
  by_cases hc5_1 : (p1 &&& (3 : Int32)) = (0 : Int32)
  · replace k := Fw.ifNo k X0 hx (hb hby at_5) ((if0 _ _).trans (teq hc5_1).2) (pc' := 8) rfl
    obtain ⟨T2, X2, e2, st2⟩ := getS2 X0 hx hZ hown (host := "") (Or.inl (hw _ (List.mem_of_getElem? (i := 0) rfl))) Via.refl e0 (SO.ext O0.2) (g := (mkF m 8 #[.val (.int p1), .val (.int (p1 &&& (3 : Int32))), .unset, .unset] [])) rfl (hb hby at_8)
    replace k : Goes p e below s₁ G0 T2 (mkF m 11 #[.val (.int p1), .val (.int (p1 &&& (3 : Int32))), .unset, .unset] [(.ref wO)]) := fun t q => k t (st2 _ q)
    replace k := Fw.astoreN k X2 hx (hb hby at_11)  rfl (Ls' := #[.val (.int p1), .val (.int (p1 &&& (3 : Int32))), .val (.ref wO), .unset]) rfl (pc' := 12) rfl
    replace k := Fw.iconst k X2 hx (hb hby at_12) (z := (0 : Int32)) (by decide) (pc' := 13) rfl
    replace k := Fw.istoreN k X2 hx (hb hby at_13)  (Ls' := #[.val (.int p1), .val (.int (p1 &&& (3 : Int32))), .val (.ref wO), .val (.int 0)]) rfl (pc' := 14) rfl
    replace k := Fw.goto k X2 hx (hb hby at_14) (by decide) (pc' := 51) rfl
    replace k := Fw.aloadN k X2 hx (hb hby at_51) rfl rfl (pc' := 52) rfl
    obtain ⟨cq3, kq3, q3a, q3b, q3c⟩ := isOf hZ e2 (EO.ext O0.2)
    obtain ⟨_, _, ⟨T3, L3, k3, n3⟩, -, X3, ⟨Lc3, hQ3, l3, y3, z3⟩, st3⟩ := X2.virtualBack hx (y := (⟨"com/example/kleinmaschine/kleinmaschine/MiniInstruction$Operand", "takesLabel", "()Z"⟩ : MethodName)) (z := (⟨"com/example/kleinmaschine/kleinmaschine/MiniInstruction$Operand", "takesLabel", "()Z"⟩ : MethodName)) hown (mvT hZ (hw _ (List.mem_of_getElem? (i := 3) rfl))) (mvT hZ (hw _ (List.mem_of_getElem? (i := 4) rfl))) (notFace_of_selects (args := #[]) (mvT hZ (hw _ (List.mem_of_getElem? (i := 6) rfl)))) (mvT hZ (hw _ (List.mem_of_getElem? (i := 6) rfl))) (mvT hZ (hw _ (List.mem_of_getElem? (i := 5) rfl))) (by decide) (backOf (W := 0) (rm_tl l Z a0 hw [] wO wA wN h0 n0 O0 SA SN) hZ (hw _ (List.mem_of_getElem? (i := 7) rfl)) (hw _ (List.mem_of_getElem? (i := 1) rfl)) (by decide) (by decide)) q3a q3c (g := (mkF m 52 #[.val (.int p1), .val (.int (p1 &&& (3 : Int32))), .val (.ref wO), .val (.int 0)] [(.ref wO)])) rfl (by rw [hml]; rfl) (Steps.refl _) (argsL := []) (rest := []) (lenOf pd__r_Z rfl) rfl (by show 2 * 0 + _ ≤ _; exact Nat.le_of_eq rfl) (hb hby at_52) (fun _ _ => ⟨rfl, e2, (by decide : 0 + 0 ≤ _), (by decide : 0 + 0 ≤ _)⟩)
    dsimp only [Pt.U, Pt.locs, Pt.cells, Pt.slots] at X3 l3 y3 z3 st3 hQ3
    subst l3 y3 z3
    obtain ⟨hv3, N3q, e3⟩ := hQ3
    rw [show (if wO = wA ∨ wO = wN then 1 else 0) = (0 : Int32) from by simp [nOA, nON, nUA, nUN]] at hv3
    subst hv3
    have N3 := Fr.app N0 N3q
    replace k : Goes p e below s₁ G0 T3 (mkF m 55 #[.val (.int p1), .val (.int (p1 &&& (3 : Int32))), .val (.ref wO), .val (.int 0)] [(.int 0)]) := fun t q => k t (st3.trans q)
    replace k := Fw.iloadN k X3 hx (hb hby at_55) rfl (pc' := 56) rfl
    replace k := Fw.icmpNo k X3 hx (hb hby at_56) (teq (show (0 : Int32) = (0 : Int32) from by decide)).2 (pc' := 59) rfl
    replace k := Fw.iconst k X3 hx (hb hby at_59) (z := (1 : Int32)) (by decide) (pc' := 60) rfl
    replace k := Fw.goto k X3 hx (hb hby at_60) (by decide) (pc' := 64) rfl
    obtain ⟨fs, hr, hrun, hended, hW, hsame⟩ := X3.leave (v := some (.int 1)) (fun h => by rw [Bd.returns] at h; cases h)
    refine ⟨_, _, pre0 _ (k _ ?_), hrun, hended, _, _, rfl, ?_, ⟨_, rfl⟩, hW, hsame.mono (by decide) (by decide)⟩
    · exact retN X3 hx (t := .boolean) Bd.returns (by simp) (hb hby at_64) hr
    · show Q_law Z p1 wO wU wN wA h0 n0 _ T3.heap _
      rw [e3]
      exact ⟨rfl, N3, trivial⟩
  · replace k := Fw.ifYes k X0 hx (hb hby at_5) ((if0 _ _).trans (feq hc5_1).2) (by decide) (pc' := 17) rfl
    replace k := Fw.iloadN k X0 hx (hb hby at_17) rfl (pc' := 18) rfl
    replace k := Fw.iconst k X0 hx (hb hby at_18) (z := (1 : Int32)) (by decide) (pc' := 19) rfl
    by_cases hc19_4 : (p1 &&& (3 : Int32)) = (1 : Int32)
    · replace k := Fw.icmpNo k X0 hx (hb hby at_19) (teq hc19_4).2 (pc' := 22) rfl
      obtain ⟨T5, X5, e5, st5⟩ := getS2 X0 hx hZ hown (host := "") (Or.inl (hw _ (List.mem_of_getElem? (i := 14) rfl))) Via.refl e0 (SU.ext O0.2) (g := (mkF m 22 #[.val (.int p1), .val (.int (p1 &&& (3 : Int32))), .unset, .unset] [])) rfl (hb hby at_22)
      replace k : Goes p e below s₁ G0 T5 (mkF m 25 #[.val (.int p1), .val (.int (p1 &&& (3 : Int32))), .unset, .unset] [(.ref wU)]) := fun t q => k t (st5 _ q)
      replace k := Fw.astoreN k X5 hx (hb hby at_25)  rfl (Ls' := #[.val (.int p1), .val (.int (p1 &&& (3 : Int32))), .val (.ref wU), .unset]) rfl (pc' := 26) rfl
      replace k := Fw.iconst k X5 hx (hb hby at_26) (z := (0 : Int32)) (by decide) (pc' := 27) rfl
      replace k := Fw.istoreN k X5 hx (hb hby at_27)  (Ls' := #[.val (.int p1), .val (.int (p1 &&& (3 : Int32))), .val (.ref wU), .val (.int 0)]) rfl (pc' := 28) rfl
      replace k := Fw.goto k X5 hx (hb hby at_28) (by decide) (pc' := 51) rfl
      replace k := Fw.aloadN k X5 hx (hb hby at_51) rfl rfl (pc' := 52) rfl
      obtain ⟨cq6, kq6, q6a, q6b, q6c⟩ := isOf hZ e5 (EU.ext O0.2)
      obtain ⟨_, _, ⟨T6, L6, k6, n6⟩, -, X6, ⟨Lc6, hQ6, l6, y6, z6⟩, st6⟩ := X5.virtualBack hx (y := (⟨"com/example/kleinmaschine/kleinmaschine/MiniInstruction$Operand", "takesLabel", "()Z"⟩ : MethodName)) (z := (⟨"com/example/kleinmaschine/kleinmaschine/MiniInstruction$Operand", "takesLabel", "()Z"⟩ : MethodName)) hown (mvT hZ (hw _ (List.mem_of_getElem? (i := 3) rfl))) (mvT hZ (hw _ (List.mem_of_getElem? (i := 4) rfl))) (notFace_of_selects (args := #[]) (mvT hZ (hw _ (List.mem_of_getElem? (i := 6) rfl)))) (mvT hZ (hw _ (List.mem_of_getElem? (i := 6) rfl))) (mvT hZ (hw _ (List.mem_of_getElem? (i := 5) rfl))) (by decide) (backOf (W := 0) (rm_tl l Z a0 hw [] wU wA wN h0 n0 O0 SA SN) hZ (hw _ (List.mem_of_getElem? (i := 7) rfl)) (hw _ (List.mem_of_getElem? (i := 1) rfl)) (by decide) (by decide)) q6a q6c (g := (mkF m 52 #[.val (.int p1), .val (.int (p1 &&& (3 : Int32))), .val (.ref wU), .val (.int 0)] [(.ref wU)])) rfl (by rw [hml]; rfl) (Steps.refl _) (argsL := []) (rest := []) (lenOf pd__r_Z rfl) rfl (by show 2 * 0 + _ ≤ _; exact Nat.le_of_eq rfl) (hb hby at_52) (fun _ _ => ⟨rfl, e5, (by decide : 0 + 0 ≤ _), (by decide : 0 + 0 ≤ _)⟩)
      dsimp only [Pt.U, Pt.locs, Pt.cells, Pt.slots] at X6 l6 y6 z6 st6 hQ6
      subst l6 y6 z6
      obtain ⟨hv6, N6q, e6⟩ := hQ6
      rw [show (if wU = wA ∨ wU = wN then 1 else 0) = (0 : Int32) from by simp [nOA, nON, nUA, nUN]] at hv6
      subst hv6
      have N6 := Fr.app N0 N6q
      replace k : Goes p e below s₁ G0 T6 (mkF m 55 #[.val (.int p1), .val (.int (p1 &&& (3 : Int32))), .val (.ref wU), .val (.int 0)] [(.int 0)]) := fun t q => k t (st6.trans q)
      replace k := Fw.iloadN k X6 hx (hb hby at_55) rfl (pc' := 56) rfl
      replace k := Fw.icmpNo k X6 hx (hb hby at_56) (teq (show (0 : Int32) = (0 : Int32) from by decide)).2 (pc' := 59) rfl
      replace k := Fw.iconst k X6 hx (hb hby at_59) (z := (1 : Int32)) (by decide) (pc' := 60) rfl
      replace k := Fw.goto k X6 hx (hb hby at_60) (by decide) (pc' := 64) rfl
      obtain ⟨fs, hr, hrun, hended, hW, hsame⟩ := X6.leave (v := some (.int 1)) (fun h => by rw [Bd.returns] at h; cases h)
      refine ⟨_, _, pre0 _ (k _ ?_), hrun, hended, _, _, rfl, ?_, ⟨_, rfl⟩, hW, hsame.mono (by decide) (by decide)⟩
      · exact retN X6 hx (t := .boolean) Bd.returns (by simp) (hb hby at_64) hr
      · show Q_law Z p1 wO wU wN wA h0 n0 _ T6.heap _
        rw [e6]
        exact ⟨rfl, N6, trivial⟩
    · replace k := Fw.icmpYes k X0 hx (hb hby at_19) (feq hc19_4).2 (by decide) (pc' := 31) rfl
      replace k := Fw.iloadN k X0 hx (hb hby at_31) rfl (pc' := 32) rfl
      replace k := Fw.iconst k X0 hx (hb hby at_32) (z := (2 : Int32)) (by decide) (pc' := 33) rfl
      by_cases hc33_7 : (p1 &&& (3 : Int32)) = (2 : Int32)
      · replace k := Fw.icmpNo k X0 hx (hb hby at_33) (teq hc33_7).2 (pc' := 36) rfl
        obtain ⟨T8, X8, e8, st8⟩ := getS2 X0 hx hZ hown (host := "") (Or.inl (hw _ (List.mem_of_getElem? (i := 13) rfl))) Via.refl e0 (SN.ext O0.2) (g := (mkF m 36 #[.val (.int p1), .val (.int (p1 &&& (3 : Int32))), .unset, .unset] [])) rfl (hb hby at_36)
        replace k : Goes p e below s₁ G0 T8 (mkF m 39 #[.val (.int p1), .val (.int (p1 &&& (3 : Int32))), .unset, .unset] [(.ref wN)]) := fun t q => k t (st8 _ q)
        replace k := Fw.astoreN k X8 hx (hb hby at_39)  rfl (Ls' := #[.val (.int p1), .val (.int (p1 &&& (3 : Int32))), .val (.ref wN), .unset]) rfl (pc' := 40) rfl
        replace k := Fw.iconst k X8 hx (hb hby at_40) (z := (1 : Int32)) (by decide) (pc' := 41) rfl
        replace k := Fw.istoreN k X8 hx (hb hby at_41)  (Ls' := #[.val (.int p1), .val (.int (p1 &&& (3 : Int32))), .val (.ref wN), .val (.int 1)]) rfl (pc' := 42) rfl
        replace k := Fw.goto k X8 hx (hb hby at_42) (by decide) (pc' := 51) rfl
        replace k := Fw.aloadN k X8 hx (hb hby at_51) rfl rfl (pc' := 52) rfl
        obtain ⟨cq9, kq9, q9a, q9b, q9c⟩ := isOf hZ e8 (EN.ext O0.2)
        obtain ⟨_, _, ⟨T9, L9, k9, n9⟩, -, X9, ⟨Lc9, hQ9, l9, y9, z9⟩, st9⟩ := X8.virtualBack hx (y := (⟨"com/example/kleinmaschine/kleinmaschine/MiniInstruction$Operand", "takesLabel", "()Z"⟩ : MethodName)) (z := (⟨"com/example/kleinmaschine/kleinmaschine/MiniInstruction$Operand", "takesLabel", "()Z"⟩ : MethodName)) hown (mvT hZ (hw _ (List.mem_of_getElem? (i := 3) rfl))) (mvT hZ (hw _ (List.mem_of_getElem? (i := 4) rfl))) (notFace_of_selects (args := #[]) (mvT hZ (hw _ (List.mem_of_getElem? (i := 6) rfl)))) (mvT hZ (hw _ (List.mem_of_getElem? (i := 6) rfl))) (mvT hZ (hw _ (List.mem_of_getElem? (i := 5) rfl))) (by decide) (backOf (W := 0) (rm_tl l Z a0 hw [] wN wA wN h0 n0 O0 SA SN) hZ (hw _ (List.mem_of_getElem? (i := 7) rfl)) (hw _ (List.mem_of_getElem? (i := 1) rfl)) (by decide) (by decide)) q9a q9c (g := (mkF m 52 #[.val (.int p1), .val (.int (p1 &&& (3 : Int32))), .val (.ref wN), .val (.int 1)] [(.ref wN)])) rfl (by rw [hml]; rfl) (Steps.refl _) (argsL := []) (rest := []) (lenOf pd__r_Z rfl) rfl (by show 2 * 0 + _ ≤ _; exact Nat.le_of_eq rfl) (hb hby at_52) (fun _ _ => ⟨rfl, e8, (by decide : 0 + 0 ≤ _), (by decide : 0 + 0 ≤ _)⟩)
        dsimp only [Pt.U, Pt.locs, Pt.cells, Pt.slots] at X9 l9 y9 z9 st9 hQ9
        subst l9 y9 z9
        obtain ⟨hv9, N9q, e9⟩ := hQ9
        rw [show (if wN = wA ∨ wN = wN then 1 else 0) = (1 : Int32) from by simp [nOA, nON, nUA, nUN]] at hv9
        subst hv9
        have N9 := Fr.app N0 N9q
        replace k : Goes p e below s₁ G0 T9 (mkF m 55 #[.val (.int p1), .val (.int (p1 &&& (3 : Int32))), .val (.ref wN), .val (.int 1)] [(.int 1)]) := fun t q => k t (st9.trans q)
        replace k := Fw.iloadN k X9 hx (hb hby at_55) rfl (pc' := 56) rfl
        replace k := Fw.icmpNo k X9 hx (hb hby at_56) (teq (show (1 : Int32) = (1 : Int32) from by decide)).2 (pc' := 59) rfl
        replace k := Fw.iconst k X9 hx (hb hby at_59) (z := (1 : Int32)) (by decide) (pc' := 60) rfl
        replace k := Fw.goto k X9 hx (hb hby at_60) (by decide) (pc' := 64) rfl
        obtain ⟨fs, hr, hrun, hended, hW, hsame⟩ := X9.leave (v := some (.int 1)) (fun h => by rw [Bd.returns] at h; cases h)
        refine ⟨_, _, pre0 _ (k _ ?_), hrun, hended, _, _, rfl, ?_, ⟨_, rfl⟩, hW, hsame.mono (by decide) (by decide)⟩
        · exact retN X9 hx (t := .boolean) Bd.returns (by simp) (hb hby at_64) hr
        · show Q_law Z p1 wO wU wN wA h0 n0 _ T9.heap _
          rw [e9]
          exact ⟨rfl, N9, trivial⟩
      · replace k := Fw.icmpYes k X0 hx (hb hby at_33) (feq hc33_7).2 (by decide) (pc' := 45) rfl
        obtain ⟨T10, X10, e10, st10⟩ := getS2 X0 hx hZ hown (host := "") (Or.inl (hw _ (List.mem_of_getElem? (i := 12) rfl))) Via.refl e0 (SA.ext O0.2) (g := (mkF m 45 #[.val (.int p1), .val (.int (p1 &&& (3 : Int32))), .unset, .unset] [])) rfl (hb hby at_45)
        replace k : Goes p e below s₁ G0 T10 (mkF m 48 #[.val (.int p1), .val (.int (p1 &&& (3 : Int32))), .unset, .unset] [(.ref wA)]) := fun t q => k t (st10 _ q)
        replace k := Fw.astoreN k X10 hx (hb hby at_48)  rfl (Ls' := #[.val (.int p1), .val (.int (p1 &&& (3 : Int32))), .val (.ref wA), .unset]) rfl (pc' := 49) rfl
        replace k := Fw.iconst k X10 hx (hb hby at_49) (z := (1 : Int32)) (by decide) (pc' := 50) rfl
        replace k := Fw.istoreN k X10 hx (hb hby at_50)  (Ls' := #[.val (.int p1), .val (.int (p1 &&& (3 : Int32))), .val (.ref wA), .val (.int 1)]) rfl (pc' := 51) rfl
        replace k := Fw.aloadN k X10 hx (hb hby at_51) rfl rfl (pc' := 52) rfl
        obtain ⟨cq11, kq11, q11a, q11b, q11c⟩ := isOf hZ e10 (EA.ext O0.2)
        obtain ⟨_, _, ⟨T11, L11, k11, n11⟩, -, X11, ⟨Lc11, hQ11, l11, y11, z11⟩, st11⟩ := X10.virtualBack hx (y := (⟨"com/example/kleinmaschine/kleinmaschine/MiniInstruction$Operand", "takesLabel", "()Z"⟩ : MethodName)) (z := (⟨"com/example/kleinmaschine/kleinmaschine/MiniInstruction$Operand", "takesLabel", "()Z"⟩ : MethodName)) hown (mvT hZ (hw _ (List.mem_of_getElem? (i := 3) rfl))) (mvT hZ (hw _ (List.mem_of_getElem? (i := 4) rfl))) (notFace_of_selects (args := #[]) (mvT hZ (hw _ (List.mem_of_getElem? (i := 6) rfl)))) (mvT hZ (hw _ (List.mem_of_getElem? (i := 6) rfl))) (mvT hZ (hw _ (List.mem_of_getElem? (i := 5) rfl))) (by decide) (backOf (W := 0) (rm_tl l Z a0 hw [] wA wA wN h0 n0 O0 SA SN) hZ (hw _ (List.mem_of_getElem? (i := 7) rfl)) (hw _ (List.mem_of_getElem? (i := 1) rfl)) (by decide) (by decide)) q11a q11c (g := (mkF m 52 #[.val (.int p1), .val (.int (p1 &&& (3 : Int32))), .val (.ref wA), .val (.int 1)] [(.ref wA)])) rfl (by rw [hml]; rfl) (Steps.refl _) (argsL := []) (rest := []) (lenOf pd__r_Z rfl) rfl (by show 2 * 0 + _ ≤ _; exact Nat.le_of_eq rfl) (hb hby at_52) (fun _ _ => ⟨rfl, e10, (by decide : 0 + 0 ≤ _), (by decide : 0 + 0 ≤ _)⟩)
        dsimp only [Pt.U, Pt.locs, Pt.cells, Pt.slots] at X11 l11 y11 z11 st11 hQ11
        subst l11 y11 z11
        obtain ⟨hv11, N11q, e11⟩ := hQ11
        rw [show (if wA = wA ∨ wA = wN then 1 else 0) = (1 : Int32) from by simp [nOA, nON, nUA, nUN]] at hv11
        subst hv11
        have N11 := Fr.app N0 N11q
        replace k : Goes p e below s₁ G0 T11 (mkF m 55 #[.val (.int p1), .val (.int (p1 &&& (3 : Int32))), .val (.ref wA), .val (.int 1)] [(.int 1)]) := fun t q => k t (st11.trans q)
        replace k := Fw.iloadN k X11 hx (hb hby at_55) rfl (pc' := 56) rfl
        replace k := Fw.icmpNo k X11 hx (hb hby at_56) (teq (show (1 : Int32) = (1 : Int32) from by decide)).2 (pc' := 59) rfl
        replace k := Fw.iconst k X11 hx (hb hby at_59) (z := (1 : Int32)) (by decide) (pc' := 60) rfl
        replace k := Fw.goto k X11 hx (hb hby at_60) (by decide) (pc' := 64) rfl
        obtain ⟨fs, hr, hrun, hended, hW, hsame⟩ := X11.leave (v := some (.int 1)) (fun h => by rw [Bd.returns] at h; cases h)
        refine ⟨_, _, pre0 _ (k _ ?_), hrun, hended, _, _, rfl, ?_, ⟨_, rfl⟩, hW, hsame.mono (by decide) (by decide)⟩
        · exact retN X11 hx (t := .boolean) Bd.returns (by simp) (hb hby at_64) hr
        · show Q_law Z p1 wO wU wN wA h0 n0 _ T11.heap _
          rw [e11]
          exact ⟨rfl, N11, trivial⟩
set_option maxRecDepth 65536 in
set_option maxHeartbeats 40000000 in
theorem comes_1 {Post : Tables → Env → Array Value → State → Outcome → State → Prop} (hpost : ∀ tb e args s v u, (limb_1_1.after args s (.returned v) u = true ∧ limb_1_2.after args s (.returned v) u = true ∧ True) → FrameEnd s (.returned v) u (Jvm.fieldLocs frame_1_writes args s ++ Jvm.arrayLocs frame_1_arrays args s ++ Jvm.staticLocs frame_1_statics s) 0 0 → Post tb e args s (.returned v) u) :
    ArmFor flags0 classFile x code maxLocals ret World_1 tables_1 room_1 Calls_1 rest_1 Pre_1 Post := by
  intro l hfl _ _ p e ha hc hk s m args below hf hA hF happ hP
  obtain ⟨hcalls, hrest, hpre⟩ := hP
  obtain ⟨-, -, -, hnamed, -, -, -, hat⟩ := (Spec.applies_iff hf).mp happ
  obtain ⟨hg, hn⟩ := and_e (Cond.before_iff.mp (show (Jvm.Cond.and given_1 narrow_1).before args s = true from hpre))
  obtain ⟨g0, gr0⟩ := and_e hg
  have ga0 := gr0
  obtain ⟨w0, rfl⟩ : ∃ w0 : Value, args = #[w0] := by
    have hs : args.size = 1 := by simpa [Cond.value, given_1] using g0
    obtain ⟨L⟩ := args
    match L, hs with
    | [w0], _ => exact ⟨w0, rfl⟩
  have hw := fun d (hd : d ∈ tables_1) => atoms_spec (ws := Jvm.Cond.code x code maxLocals ret :: tables_1) hat d (List.mem_cons_of_mem _ hd)
  have hfit : Fit s := fun {y c} hc i hi => by
    obtain ⟨ha, rfl⟩ := Array.getElem?_eq_some_iff.mp hc
    have q := List.all_eq_true.mp ((Array.all_eq_true_iff_forall_mem.mp hF) _ (Array.getElem_mem ha)) i (List.mem_range.mpr hi)
    simpa [Array.getElem?_eq_getElem hi] using q
  obtain ⟨i0, ei0⟩ := is_v ga0
  obtain rfl : w0 = (.int i0) := Option.some.inj ei0
  obtain ⟨xO, hn⟩ := and_e hn
  obtain ⟨xA, hn⟩ := and_e hn
  obtain ⟨oO, hn⟩ := and_e hn
  obtain ⟨oA, hn⟩ := and_e hn
  obtain ⟨xN, hn⟩ := and_e hn
  obtain ⟨oN, hn⟩ := and_e hn
  obtain ⟨xU, oU⟩ := and_e hn
  obtain ⟨aO, evO⟩ := exa_v xO
  have EO := Exa.start evO xO
  have SO := Sta.start evO (Or.inr ⟨(hw _ (List.mem_of_getElem? (i := 1) rfl)), (hw _ (List.mem_of_getElem? (i := 2) rfl))⟩)
  have FO := own_fld evO oO
  obtain ⟨aA, evA⟩ := exa_v xA
  have EA := Exa.start evA xA
  have SA := Sta.start evA (Or.inr ⟨(hw _ (List.mem_of_getElem? (i := 1) rfl)), (hw _ (List.mem_of_getElem? (i := 9) rfl))⟩)
  have FA := own_fld evA oA
  obtain ⟨aN, evN⟩ := exa_v xN
  have EN := Exa.start evN xN
  have SN := Sta.start evN (Or.inr ⟨(hw _ (List.mem_of_getElem? (i := 1) rfl)), (hw _ (List.mem_of_getElem? (i := 11) rfl))⟩)
  have FN := own_fld evN oN
  obtain ⟨aU, evU⟩ := exa_v xU
  have EU := Exa.start evU xU
  have SU := Sta.start evU (Or.inr ⟨(hw _ (List.mem_of_getElem? (i := 1) rfl)), (hw _ (List.mem_of_getElem? (i := 15) rfl))⟩)
  have FU := own_fld evU oU
  obtain ⟨n, o, h1, h2, h3, _, L, rfl, ⟨rfl, N, -⟩, hq⟩ := rm_law l s _ hw tables_1 i0 aO aU aN aA s.heap s.heap.size (Old.start s) SO SU SN SA EO EU EN EA (FO.ne FA (by decide)) (FO.ne FN (by decide)) (FU.ne FA (by decide)) (FU.ne FN (by decide)) p e ha hc hk s m _ below hf ((Spec.applies_iff_loose hf).mp happ).1 ⟨rfl, State.Warmed39.refl s, rfl⟩ trivial
  refine ⟨n, _, h1, h2, h3, hpost _ _ _ _ _ _ ⟨Cond.after_iff.mpr rfl, Cond.after_iff.mpr (eq_i res_at (Term.int_eval (1)) rfl), trivial⟩ ⟨hq.1, hq.2.1, (hq.2.2.sift fun y hy => Or.inr (N y hy)).mono (by decide) (by decide)⟩⟩
theorem main_1_1 : Claimed_1_1 := comes_1 fun _ _ _ _ _ _ h hF => ⟨h.1, hF⟩
theorem main_1_2 : Claimed_1_2 := comes_1 fun _ _ _ _ _ _ h hF => ⟨h.2.1, hF⟩
end Jvm.Pilot.@@N@@
namespace Jvm.Pilot.@@N@@
open Jvm Jvm.ClassFile Sem Op Lib Jvm.Free Jvm.Stand Jvm.Pilot.@@N@@.Jvm.D
/-! MADE BY PROGRAM (witnessworld.py) out of the Statement's table words and the real class files: 12 classes; the members and pool entries that the words name. The judged class is class 1, her method 1. -/
namespace start1
open Jvm.ClassFile
def u (s : String) : CpInfo := .utf8 (stringToUtf16 s)
/-- a pool by its gaps: so many unusable entries, then the entry; so many at the end -/
def gap : Nat → List CpInfo → List CpInfo
  | 0, r => r
  | n + 1, r => .unusable :: gap n r
def poolList (es : List (Nat × CpInfo)) (last : Nat) : List CpInfo := es.foldr (fun e r => gap e.1 (e.2 :: r)) (gap last [])
def pool (es : List (Nat × CpInfo)) (last : Nat) : Array CpInfo := ⟨poolList es last⟩
def fileOf (pool : Array CpInfo) (this : Nat) (attrs : Array Attribute := #[]) (ms : Array MethodInfo := #[]) (fl : Nat := 33) (sup : Nat := 0) (ifs : Array Nat := #[]) (fds : Array FieldInfo := #[]) : ClassFile where
  minorVersion := 0
  majorVersion := 65
  constantPool := pool
  accessFlags := fl
  thisClass := this
  superClass := sup
  interfaces := ifs
  fields := fds
  methods := ms
  attributes := attrs
def plain (name : String) (sup : Option ClassId) : Class where
  name := name
  kind := .ordinary
  loader := none
  accessFlags := 33
  super := sup
  interfaces := #[]
  cf := none
  fields := #[]
  methods := #[]
  instanceTypes := #[]
  staticTypes := #[]
  resolved := #[]
  callSites := []
  init := .initialized
  statics := none
  mirror := none

def pool0 : Array CpInfo := pool [(5, u "<init>"), (0, u "()V"), (1, .class_ 10), (1, u "java/lang/Object")] 113

def k0m0 : Method := { name := "<init>", desc := "()V", sig := { parameters := [], returnType := none }, accessFlags := 1, code := none }
/-- java/lang/Object -/
def k0 : Class := { plain "java/lang/Object" none with
  accessFlags := 33
  interfaces := #[]
  cf := some (fileOf pool0 8 #[] #[{ accessFlags := 1, nameIndex := 5, descriptorIndex := 6, attributes := #[] }] 33 0 #[] #[])
  fields := #[]
  methods := #[k0m0]
  instanceTypes := #[]
  staticTypes := #[]
  resolved := Array.replicate 124 none
  statics := none }

def pool1 : Array CpInfo := pool [(2, .class_ 4), (1, u "java/lang/Object"), (0, u "<init>"), (0, u "()V"), (0, .fieldref 8 9), (0, .class_ 10), (0, .nameAndType 11 12), (0, u "com/example/kleinmaschine/kleinmaschine/MiniInstruction$Operand"), (0, u "NONE"), (0, u "Lcom/example/kleinmaschine/kleinmaschine/MiniInstruction$Operand;"), (0, .fieldref 8 14), (0, .nameAndType 15 12), (0, u "NUMBER"), (0, .fieldref 8 17), (0, .nameAndType 18 12), (0, u "NUMBER_OR_LABEL"), (0, .fieldref 8 20), (0, .nameAndType 21 12), (0, u "ADDRESS"), (0, .methodref 8 23), (0, .nameAndType 24 25), (0, u "takesLabel"), (0, u "()Z"), (0, .class_ 27), (0, u "com/example/kleinmaschine/kleinmaschine/OperandTakesLabelPinLaw"), (2, u "law"), (0, u "(I)Z")] 7

def k1m0 : Method := { name := "<init>", desc := "()V", sig := { parameters := [], returnType := none }, accessFlags := 2, code := none }
def k1c1 : Code := { maxStack := 2, maxLocals := 4, code := code, exceptionTable := #[], attributes := #[] }
def k1m1 : Method := { name := "law", desc := "(I)Z", sig := { parameters := [.int], returnType := some .boolean }, accessFlags := 9, code := some k1c1 }
/-- com/example/kleinmaschine/kleinmaschine/OperandTakesLabelPinLaw -/
def k1 : Class := { plain "com/example/kleinmaschine/kleinmaschine/OperandTakesLabelPinLaw" (some 0) with
  accessFlags := 49
  interfaces := #[]
  cf := some (fileOf pool1 26 #[] #[{ accessFlags := 2, nameIndex := 5, descriptorIndex := 6, attributes := #[] }, { accessFlags := 9, nameIndex := 30, descriptorIndex := 31, attributes := #[] }] 49 2 #[] #[])
  fields := #[]
  methods := #[k1m0, k1m1]
  instanceTypes := #[]
  staticTypes := #[]
  resolved := Array.replicate 39 none
  statics := none }

def pool2 : Array CpInfo := pool [(1, .class_ 2), (0, u "java/lang/constant/Constable"), (0, .class_ 4), (0, u "java/lang/Object")] 6

/-- java/lang/constant/Constable -/
def k2 : Class := { plain "java/lang/constant/Constable" (some 0) with
  accessFlags := 1537
  interfaces := #[]
  cf := some (fileOf pool2 1 #[] #[] 1537 3 #[] #[])
  fields := #[]
  methods := #[]
  instanceTypes := #[]
  staticTypes := #[]
  resolved := Array.replicate 11 none
  statics := none }

def pool3 : Array CpInfo := pool [(1, .class_ 2), (0, u "java/lang/Comparable"), (0, .class_ 4), (0, u "java/lang/Object")] 7

/-- java/lang/Comparable -/
def k3 : Class := { plain "java/lang/Comparable" (some 0) with
  accessFlags := 1537
  interfaces := #[]
  cf := some (fileOf pool3 1 #[] #[] 1537 3 #[] #[])
  fields := #[]
  methods := #[]
  instanceTypes := #[]
  staticTypes := #[]
  resolved := Array.replicate 12 none
  statics := none }

def pool4 : Array CpInfo := pool [(1, .class_ 2), (0, u "java/io/Serializable"), (0, .class_ 4), (0, u "java/lang/Object")] 2

/-- java/io/Serializable -/
def k4 : Class := { plain "java/io/Serializable" (some 0) with
  accessFlags := 1537
  interfaces := #[]
  cf := some (fileOf pool4 1 #[] #[] 1537 3 #[] #[])
  fields := #[]
  methods := #[]
  instanceTypes := #[]
  staticTypes := #[]
  resolved := Array.replicate 7 none
  statics := none }

def pool5 : Array CpInfo := pool [(2, .class_ 4), (1, u "java/lang/Enum"), (0, u "name"), (0, u "Ljava/lang/String;"), (2, u "ordinal"), (0, u "I"), (1, .class_ 14), (1, u "java/lang/Object"), (4, u "hash"), (86, .class_ 108), (1, u "java/lang/Enum$EnumDesc"), (2, .class_ 112), (0, u "java/lang/constant/Constable"), (0, .class_ 114), (0, u "java/lang/Comparable"), (0, .class_ 116), (0, u "java/io/Serializable")] 87

/-- java/lang/Enum -/
def k5 : Class := { plain "java/lang/Enum" (some 0) with
  accessFlags := 1057
  interfaces := #[2, 3, 4]
  cf := some (fileOf pool5 2 #[.nestMembers #[106]] #[] 1057 12 #[111, 113, 115] #[{ accessFlags := 18, nameIndex := 5, descriptorIndex := 6, attributes := #[] }, { accessFlags := 18, nameIndex := 9, descriptorIndex := 10, attributes := #[] }, { accessFlags := 2, nameIndex := 19, descriptorIndex := 10, attributes := #[] }])
  fields := #[{ name := "name", type := (.object "java/lang/String"), accessFlags := 18, slot := 0, constantValue := 0 }, { name := "ordinal", type := .int, accessFlags := 18, slot := 1, constantValue := 0 }, { name := "hash", type := .int, accessFlags := 2, slot := 2, constantValue := 0 }]
  methods := #[]
  instanceTypes := #[(.object "java/lang/String"), .int, .int]
  staticTypes := #[]
  resolved := Array.replicate 204 none
  statics := none }

def pool6 : Array CpInfo := pool [(1, .class_ 2), (0, u "com/example/kleinmaschine/kleinmaschine/MiniInstruction$Operand"), (2, u "NONE"), (0, u "Lcom/example/kleinmaschine/kleinmaschine/MiniInstruction$Operand;"), (2, u "NUMBER"), (0, .fieldref 1 11), (0, .nameAndType 12 6), (0, u "NUMBER_OR_LABEL"), (0, .fieldref 1 14), (0, .nameAndType 15 6), (0, u "ADDRESS"), (2, u "$VALUES"), (0, u "[Lcom/example/kleinmaschine/kleinmaschine/MiniInstruction$Operand;"), (6, .class_ 28), (1, u "java/lang/Enum"), (31, u "takesLabel"), (0, u "()Z"), (5, .class_ 68), (0, u "com/example/kleinmaschine/kleinmaschine/MiniInstruction")] 3

def k6c0 : Code := { maxStack := 2, maxLocals := 1, code := prog_30_method_5_code, exceptionTable := #[], attributes := #[] }
def k6m0 : Method := { name := "takesLabel", desc := "()Z", sig := { parameters := [], returnType := some .boolean }, accessFlags := 0, code := some k6c0 }
/-- com/example/kleinmaschine/kleinmaschine/MiniInstruction$Operand -/
def k6 : Class := { plain "com/example/kleinmaschine/kleinmaschine/MiniInstruction$Operand" (some 5) with
  accessFlags := 16432
  interfaces := #[]
  cf := some (fileOf pool6 1 #[.nestHost 67] #[{ accessFlags := 0, nameIndex := 60, descriptorIndex := 61, attributes := #[] }] 16432 26 #[] #[{ accessFlags := 16409, nameIndex := 5, descriptorIndex := 6, attributes := #[] }, { accessFlags := 16409, nameIndex := 9, descriptorIndex := 6, attributes := #[] }, { accessFlags := 16409, nameIndex := 12, descriptorIndex := 6, attributes := #[] }, { accessFlags := 16409, nameIndex := 15, descriptorIndex := 6, attributes := #[] }, { accessFlags := 4122, nameIndex := 18, descriptorIndex := 19, attributes := #[] }])
  fields := #[{ name := "NONE", type := (.object "com/example/kleinmaschine/kleinmaschine/MiniInstruction$Operand"), accessFlags := 16409, slot := 0, constantValue := 0 }, { name := "NUMBER", type := (.object "com/example/kleinmaschine/kleinmaschine/MiniInstruction$Operand"), accessFlags := 16409, slot := 1, constantValue := 0 }, { name := "NUMBER_OR_LABEL", type := (.object "com/example/kleinmaschine/kleinmaschine/MiniInstruction$Operand"), accessFlags := 16409, slot := 2, constantValue := 0 }, { name := "ADDRESS", type := (.object "com/example/kleinmaschine/kleinmaschine/MiniInstruction$Operand"), accessFlags := 16409, slot := 3, constantValue := 0 }, { name := "$VALUES", type := (.array (.object "com/example/kleinmaschine/kleinmaschine/MiniInstruction$Operand")), accessFlags := 4122, slot := 4, constantValue := 0 }]
  methods := #[k6m0]
  instanceTypes := #[(.object "java/lang/String"), .int, .int]
  staticTypes := #[(.object "com/example/kleinmaschine/kleinmaschine/MiniInstruction$Operand"), (.object "com/example/kleinmaschine/kleinmaschine/MiniInstruction$Operand"), (.object "com/example/kleinmaschine/kleinmaschine/MiniInstruction$Operand"), (.object "com/example/kleinmaschine/kleinmaschine/MiniInstruction$Operand"), (.array (.object "com/example/kleinmaschine/kleinmaschine/MiniInstruction$Operand"))]
  resolved := Array.replicate 72 none
  statics := some 0 }

def pool7 : Array CpInfo := pool [(1, u "java/lang/Cloneable"), (0, .class_ 1), (0, u "java/lang/Object"), (0, .class_ 3)] 3

/-- java/lang/Cloneable -/
def k7 : Class := { plain "java/lang/Cloneable" (some 0) with
  accessFlags := 1537
  interfaces := #[]
  cf := some (fileOf pool7 2 #[] #[] 1537 4 #[] #[])
  fields := #[]
  methods := #[]
  instanceTypes := #[]
  staticTypes := #[]
  resolved := Array.replicate 8 none
  statics := none }

/-- the primitive byte -/
def k8 : Class := { plain "byte" none with kind := .primitive 'B', accessFlags := 0x411 }
/-- [B -/
def k9 : Class := { plain "[B" (some 0) with kind := .array 8 .byte, interfaces := #[7, 4], accessFlags := 1041 }

/-- the primitive int -/
def k10 : Class := { plain "int" none with kind := .primitive 'I', accessFlags := 0x411 }
/-- [I -/
def k11 : Class := { plain "[I" (some 0) with kind := .array 10 .int, interfaces := #[7, 4], accessFlags := 1041 }

def heap : Heap := #[{ cls := 6, slots := #[.ref 1, .ref 2, .ref 3, .ref 4, .null], vm := .statics 6 },
  { cls := 6, slots := #[.null, .int 0, .int 0], vm := .none },
  { cls := 6, slots := #[.null, .int 1, .int 0], vm := .none },
  { cls := 6, slots := #[.null, .int 2, .int 0], vm := .none },
  { cls := 6, slots := #[.null, .int 3, .int 0], vm := .none }]
def classes : Array Class := #[k0, k1, k2, k3, k4, k5, k6, k7, k8, k9, k10, k11]
def interned : List (Array UInt16 × Addr) := []
def slotsUsed : Nat := 17
def theMethod : MethodId := ⟨1, 1⟩
def args0 : Array Value := #[.int 5]
def aboutOver (below : List Frame) : State where
  vm := { classes := classes, interned := interned.toArray }
  heap := heap
  slotsUsed := slotsUsed
  threads := #[{ frames := .invoking theMethod args0 :: below }]
def below0 : List Frame := [.native { method := ⟨0, 0⟩, args := #[] }]
def about1 : State := aboutOver below0
def p0 : Program := .bare "" "" ""
def e0 : Env := launch0.env 0 0 0
theorem w_frames : about1.frames = Frame.invoking theMethod args0 :: below0 := rfl
set_option maxRecDepth 65536 in
theorem w_args : argsFit about1.vm theMethod args0 = true := by decide +kernel
set_option maxRecDepth 65536 in
theorem w_heap : heapFits about1 = true := by decide +kernel
set_option maxRecDepth 65536 in
theorem w_runnable : about1.curStatus? = some .runnable := by decide +kernel
set_option maxRecDepth 65536 in
theorem w_alone : about1.alone = true := by decide +kernel
set_option maxRecDepth 65536 in
theorem w_named : about1.methodNamed? x = some theMethod := by decide +kernel
set_option maxRecDepth 65536 in
theorem w_hears : about1.hears theMethod below0 = true := by decide +kernel
set_option maxRecDepth 65536 in
theorem w_ripe : about1.ripe theMethod args0 below0 = true := by decide +kernel
theorem w_running : about1.status = .running := rfl
set_option maxRecDepth 65536 in
theorem w_room : about1.hasRoom e0.platform room_1 = true :=
  launch0.hasRoom_least _ room_1 (by decide +kernel) (by decide +kernel) (by decide +kernel) (by decide +kernel) (by decide +kernel) (by decide +kernel)
theorem allAtoms_all (ts : List Jvm.Cond) (a : Array Jvm.Value) (st : Jvm.State) : (allAtoms ts).before a st = ts.all (fun c => c.before a st) := by
  induction ts with
  | nil => rfl
  | cons c t ih =>
    show (Jvm.Cond.and c (allAtoms t)).before a st = _
    rw [Jvm.Cond.before_and, ih, List.all_cons]
def words1 : List Jvm.Cond := Jvm.Cond.code x code maxLocals ret :: tables_1
/-- a 'code' word, met by the world's own term for the bytes: nothing is compared byte by byte -/
theorem code_word {y : MethodName} {bytes : ByteArray} {mx : Nat} {rt : Option FieldType} {a : Array Value} {s : State} {m : MethodId} {meth : Method} {c : Code} (h1 : s.methodNamed? y = some m) (h2 : s.vm.method? m = some meth) (h3 : meth.code = some c) (h4 : c.code = bytes)
    (h5 : (c.maxLocals == mx && c.exceptionTable.isEmpty && decide (c.maxStack ≤ mostOperands) && decide (meth.sig.returnType = rt) && !meth.locks && decide (parseMethodDescriptor y.desc = some meth.sig)) = true) : (Jvm.Cond.code y bytes mx rt).before a s = true := by
  simp only [Bool.and_eq_true, beq_iff_eq, Bool.not_eq_true', decide_eq_true_eq] at h5
  obtain ⟨⟨⟨⟨⟨g1, g2⟩, g3⟩, g4⟩, g5⟩, g6⟩ := h5
  simp [Cond.before, Cond.holds, Cond.value, h1, h2, h3, h4, g1, g2, g3, g4, g5, g6]
def isCode : Jvm.Cond → Bool
  | .code _ _ _ _ => true
  | _ => false
theorem all_split {L : List Jvm.Cond} {P : Jvm.Cond → Bool} (h1 : L.all (fun c => isCode c || P c) = true) (h2 : ∀ c ∈ L.filter isCode, P c = true) : L.all P = true := by
  refine List.all_eq_true.mpr fun c hc => ?_
  have h := List.all_eq_true.mp h1 c hc
  rcases Bool.eq_false_or_eq_true (isCode c) with hi | hi
  · exact h2 c (List.mem_filter.mpr ⟨hc, hi⟩)
  · simpa [hi] using h
set_option maxRecDepth 65536 in
theorem w_c0 : (Jvm.Cond.code x code maxLocals ret).before args0 about1 = true := code_word (m := ⟨1, 1⟩) (meth := k1m1) (c := k1c1) (by decide +kernel) rfl rfl rfl (by decide +kernel)
set_option maxRecDepth 65536 in
theorem w_c1 : (Jvm.Cond.code ({ cls := "com/example/kleinmaschine/kleinmaschine/MiniInstruction$Operand", name := "takesLabel", desc := "()Z" } : Jvm.MethodName) prog_30_method_5_code (1 : Nat) (Option.some Jvm.ClassFile.FieldType.boolean)).before args0 about1 = true := code_word (m := ⟨6, 0⟩) (meth := k6m0) (c := k6c0) (by decide +kernel) rfl rfl rfl (by decide +kernel)
def codes1 : List Jvm.Cond := [Jvm.Cond.code x code maxLocals ret, Jvm.Cond.code ({ cls := "com/example/kleinmaschine/kleinmaschine/MiniInstruction$Operand", name := "takesLabel", desc := "()Z" } : Jvm.MethodName) prog_30_method_5_code (1 : Nat) (Option.some Jvm.ClassFile.FieldType.boolean)]
set_option maxRecDepth 65536 in
theorem codes_eq : words1.filter isCode = codes1 := rfl
theorem w_codes : ∀ c ∈ words1.filter isCode, c.before args0 about1 = true := by
  rw [codes_eq]
  intro c hc
  simp only [codes1, List.mem_cons, List.not_mem_nil, or_false] at hc
  rcases hc with rfl | rfl
  · exact w_c0
  · exact w_c1
set_option maxRecDepth 65536 in
theorem w_t1 : words1.all (fun c => isCode c || c.before args0 about1) = true := by decide +kernel
theorem w_tables : (allAtoms (Jvm.Cond.code x code maxLocals ret :: tables_1)).before args0 about1 = true := by
  rw [allAtoms_all]
  show words1.all (fun c => c.before args0 about1) = true
  refine all_split ?_ w_codes
  rw [w_t1]
set_option maxRecDepth 65536 in
theorem w_case : (Jvm.Cond.and given_1 narrow_1).before args0 about1 = true := by decide +kernel
theorem w_applies : (headSpec (Jvm.Cond.code x code maxLocals ret :: tables_1) room_1).applies x e0.platform about1 = true :=
  (Spec.applies_iff w_frames).mpr ⟨w_running, w_runnable, w_alone, w_named, w_hears, w_ripe, w_room, w_tables⟩
theorem atStart : AtStart classFile x code maxLocals ret World_1 tables_1 room_1 Calls_1 rest_1 Pre_1 launch0 p0 e0 about1 theMethod args0 below0 :=
  ⟨lists_1, trivial, launch0.admits_env _ _ _, launch0.least_env, fairChoices_fair.cas, fairChoices_fair.clock, w_frames, w_args, w_heap, w_applies, trivial, trivial, w_case⟩
end start1
theorem witness_1 : WitnessClaimed_1 := ⟨start1.p0, start1.e0, start1.about1, start1.theMethod, start1.args0, start1.below0, start1.atStart⟩
end Jvm.Pilot.@@N@@
