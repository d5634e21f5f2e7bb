import JvmDerived
import JvmDerived.Pilot.@@N@@Statement
import JvmDerived.Pilot.@@N@@Code
set_option linter.unusedVariables false
set_option linter.unusedSimpArgs false
@@BLOCK:HandJ.lean.txt@@
@@BLOCK:SymMore.lean.txt@@
namespace Jvm.RoadKit
open Sem ClassFile Op Lib Jvm.Stand Jvm.Free Jvm.LawKit
section New
variable {p : Program} {l : Launch} {e : Env} {R : Room} {s : State} {m : MethodId} {args : Array Value} {below : List Frame} {meth : Method} {c : Code} {T : State} {locs : List Loc} {cells slots : Nat}
theorem retI (X : Stand p l e R s m args below meth c T locs cells slots) (hx : p.tables.exec = Jvm.exec) {pc : Nat} {Ls : Array Slot} {z : Int32} {rest : List Value} (hret : meth.sig.returnType = some .int) (hd : decode c.code pc = .ok (.ireturn, 1)) {fs : List Frame}
    (hl : ∀ (f : JFrame) (acts : List Action), f.method = m → f.locked = none → f.entered = [] → (doReturn e (T.setTop f) acts (some (.int z))).1 = T.setFrames fs) : Steps p.tables e below (T.setTop (mkF m pc Ls (.int z :: rest))) (T.setFrames fs) := by
  have hm' : T.vm.method? m = some meth := X.method'
  have hn : narrow .int (.int z) = .int z := rfl
  show Steps p.tables e below (T.setTop { method := m, pc := pc, locals := Ls, stack := _ :: rest, locked := none }) _
  jvm_step X.here [X.here.top, hx, hd, hm', hret, hn]
  first | (intro acts; rw [hl _ acts rfl rfl rfl]) | rw [hl _ _ rfl rfl rfl]
  exact Steps.refl _
end New
theorem ext_refl {h : Heap} : Ext h h := ⟨Nat.le_refl _, fun _ _ q => q⟩
theorem ext_trans {h h' h'' : Heap} (E : Ext h h') (E' : Ext h' h'') : Ext h h'' := ⟨Nat.le_trans E.1 E'.1, fun a c q => E'.2 a c (E.2 a c q)⟩
theorem ext_keep {h h' h'' : Heap} {ws : List Addr} (E : Ext h h') (K : Keep h' h'' ws) (q : ∀ x ∈ ws, h.size ≤ x) : Ext h h'' := ⟨Nat.le_trans E.1 K.1, fun a c r => K.2.1 a c (E.2 a c r) fun z => absurd (Array.getElem?_eq_some_iff.mp r).1 (Nat.not_lt.mpr (q a z))⟩
theorem ext_wr {h h' h'' : Heap} {a : Addr} {sl : Nat} {v : Value} (E : Ext h h') (W : Wr h' h'' a sl v) (q : h.size ≤ a) : Ext h h'' := ext_keep E (Keep.of_wr W) (allS q all0)
theorem old_le {Z : State} {n0 : Nat} {h : Heap} (O : Old Z n0 h) : n0 ≤ h.size := O.1 ▸ O.2.1
end Jvm.RoadKit
namespace Jvm.Own.Fw
open Sem ClassFile Op Lib Jvm.Stand Jvm.Free Jvm.LawKit Jvm.RoadKit
variable {p : Program} {l : Launch} {e : Env} {R : Room} {s : State} {m : MethodId} {args : Array Value} {below : List Frame} {meth : Method} {c : Code} {T S : State} {G : JFrame} {locs : List Loc} {cells slots : Nat} {pc pc' : Nat} {Ls : Array Slot} {St : List Value}
theorem iloadN {i : Fin 4} {v : Int32} (k : Goes p e below S G T (mkF m pc Ls St)) (X : Stand p l e R s m args below meth c T locs cells slots) (hx : p.tables.exec = Jvm.exec) (hd : decode c.code pc = .ok (.iload_n i, 1)) (hl : Ls[i.val]? = some (.val (.int v))) (hp : pc + 1 = pc') : Goes p e below S G T (mkF m pc' Ls (.int v :: St)) := by
  subst hp; exact fun t q => k t (XS.iloadN X.here hx rfl hd hl q)
theorem iload {i : Nat} {v : Int32} (k : Goes p e below S G T (mkF m pc Ls St)) (X : Stand p l e R s m args below meth c T locs cells slots) (hx : p.tables.exec = Jvm.exec) (hd : decode c.code pc = .ok (.iload i, 2)) (hl : Ls[i]? = some (.val (.int v))) (hp : pc + 2 = pc') : Goes p e below S G T (mkF m pc' Ls (.int v :: St)) := by
  subst hp; exact fun t q => k t (XS.iload X.here hx rfl hd hl q)
theorem lloadN {i : Fin 4} {v : Int64} (k : Goes p e below S G T (mkF m pc Ls St)) (X : Stand p l e R s m args below meth c T locs cells slots) (hx : p.tables.exec = Jvm.exec) (hd : decode c.code pc = .ok (.lload_n i, 1)) (hl : Ls[i.val]? = some (.val (.long v))) (hp : pc + 1 = pc') : Goes p e below S G T (mkF m pc' Ls (.long v :: St)) := by
  subst hp; exact fun t q => k t (XS.lloadN X.here hx rfl hd hl q)
theorem lload {i : Nat} {v : Int64} (k : Goes p e below S G T (mkF m pc Ls St)) (X : Stand p l e R s m args below meth c T locs cells slots) (hx : p.tables.exec = Jvm.exec) (hd : decode c.code pc = .ok (.lload i, 2)) (hl : Ls[i]? = some (.val (.long v))) (hp : pc + 2 = pc') : Goes p e below S G T (mkF m pc' Ls (.long v :: St)) := by
  subst hp; exact fun t q => k t (XS.lload X.here hx rfl hd hl q)
theorem aloadN {i : Fin 4} {v : Value} (k : Goes p e below S G T (mkF m pc Ls St)) (X : Stand p l e R s m args below meth c T locs cells slots) (hx : p.tables.exec = Jvm.exec) (hd : decode c.code pc = .ok (.aload_n i, 1)) (hl : Ls[i.val]? = some (.val v)) (hv : v.isRef = true) (hp : pc + 1 = pc') : Goes p e below S G T (mkF m pc' Ls (v :: St)) := by
  subst hp; exact fun t q => k t (XS.aloadN X.here hx rfl hd hl hv q)
theorem aload {i : Nat} {v : Value} (k : Goes p e below S G T (mkF m pc Ls St)) (X : Stand p l e R s m args below meth c T locs cells slots) (hx : p.tables.exec = Jvm.exec) (hd : decode c.code pc = .ok (.aload i, 2)) (hl : Ls[i]? = some (.val v)) (hv : v.isRef = true) (hp : pc + 2 = pc') : Goes p e below S G T (mkF m pc' Ls (v :: St)) := by
  subst hp; exact fun t q => k t (XS.aload X.here hx rfl hd hl hv q)
theorem istoreN {i : Fin 4} {v : Int32} {Ls' : Array Slot} (k : Goes p e below S G T (mkF m pc Ls (.int v :: St))) (X : Stand p l e R s m args below meth c T locs cells slots) (hx : p.tables.exec = Jvm.exec) (hd : decode c.code pc = .ok (.istore_n i, 1)) (hl : storeLocals Ls i.val (.int v) = some Ls') (hp : pc + 1 = pc') : Goes p e below S G T (mkF m pc' Ls' St) := by
  subst hp; exact fun t q => k t (XS.istoreN X.here hx rfl hd rfl hl q)
theorem istore {i : Nat} {v : Int32} {Ls' : Array Slot} (k : Goes p e below S G T (mkF m pc Ls (.int v :: St))) (X : Stand p l e R s m args below meth c T locs cells slots) (hx : p.tables.exec = Jvm.exec) (hd : decode c.code pc = .ok (.istore i, 2)) (hl : storeLocals Ls i (.int v) = some Ls') (hp : pc + 2 = pc') : Goes p e below S G T (mkF m pc' Ls' St) := by
  subst hp; exact fun t q => k t (XS.istore X.here hx rfl hd rfl hl q)
theorem lstoreN {i : Fin 4} {v : Int64} {Ls' : Array Slot} (k : Goes p e below S G T (mkF m pc Ls (.long v :: St))) (X : Stand p l e R s m args below meth c T locs cells slots) (hx : p.tables.exec = Jvm.exec) (hd : decode c.code pc = .ok (.lstore_n i, 1)) (hl : storeLocals Ls i.val (.long v) = some Ls') (hp : pc + 1 = pc') : Goes p e below S G T (mkF m pc' Ls' St) := by
  subst hp; exact fun t q => k t (XS.lstoreN X.here hx rfl hd rfl hl q)
theorem lstore {i : Nat} {v : Int64} {Ls' : Array Slot} (k : Goes p e below S G T (mkF m pc Ls (.long v :: St))) (X : Stand p l e R s m args below meth c T locs cells slots) (hx : p.tables.exec = Jvm.exec) (hd : decode c.code pc = .ok (.lstore i, 2)) (hl : storeLocals Ls i (.long v) = some Ls') (hp : pc + 2 = pc') : Goes p e below S G T (mkF m pc' Ls' St) := by
  subst hp; exact fun t q => k t (XS.lstore X.here hx rfl hd rfl hl q)
theorem astoreN {i : Fin 4} {v : Value} {Ls' : Array Slot} (k : Goes p e below S G T (mkF m pc Ls (v :: St))) (X : Stand p l e R s m args below meth c T locs cells slots) (hx : p.tables.exec = Jvm.exec) (hd : decode c.code pc = .ok (.astore_n i, 1)) (hv : v.isRef = true) (hl : storeLocals Ls i.val v = some Ls') (hp : pc + 1 = pc') : Goes p e below S G T (mkF m pc' Ls' St) := by
  subst hp; exact fun t q => k t (XS.astoreN X.here hx rfl hd rfl hv hl q)
theorem astore {i : Nat} {v : Value} {Ls' : Array Slot} (k : Goes p e below S G T (mkF m pc Ls (v :: St))) (X : Stand p l e R s m args below meth c T locs cells slots) (hx : p.tables.exec = Jvm.exec) (hd : decode c.code pc = .ok (.astore i, 2)) (hv : v.isRef = true) (hl : storeLocals Ls i v = some Ls') (hp : pc + 2 = pc') : Goes p e below S G T (mkF m pc' Ls' St) := by
  subst hp; exact fun t q => k t (XS.astore X.here hx rfl hd rfl hv hl q)
theorem iconst {i : Int} {z : Int32} (k : Goes p e below S G T (mkF m pc Ls St)) (X : Stand p l e R s m args below meth c T locs cells slots) (hx : p.tables.exec = Jvm.exec) (hd : decode c.code pc = .ok (.iconst i, 1)) (hz : Int32.ofInt i = z) (hp : pc + 1 = pc') : Goes p e below S G T (mkF m pc' Ls (.int z :: St)) := by
  subst hp; exact fun t q => k t (XS.iconst X.here hx rfl hd (hz ▸ q))
theorem bipush {i : Int} {z : Int32} (k : Goes p e below S G T (mkF m pc Ls St)) (X : Stand p l e R s m args below meth c T locs cells slots) (hx : p.tables.exec = Jvm.exec) (hd : decode c.code pc = .ok (.bipush i, 2)) (hz : (Int8.ofInt i).toInt32 = z) (hp : pc + 2 = pc') : Goes p e below S G T (mkF m pc' Ls (.int z :: St)) := by
  subst hp; exact fun t q => k t (XS.bipush X.here hx rfl hd (hz ▸ q))
theorem sipush {i : Int} {z : Int32} (k : Goes p e below S G T (mkF m pc Ls St)) (X : Stand p l e R s m args below meth c T locs cells slots) (hx : p.tables.exec = Jvm.exec) (hd : decode c.code pc = .ok (.sipush i, 3)) (hz : (Int16.ofInt i).toInt32 = z) (hp : pc + 3 = pc') : Goes p e below S G T (mkF m pc' Ls (.int z :: St)) := by
  subst hp; exact fun t q => k t (XS.sipush X.here hx rfl hd (hz ▸ q))
theorem lconst {i : Fin 2} {z : Int64} (k : Goes p e below S G T (mkF m pc Ls St)) (X : Stand p l e R s m args below meth c T locs cells slots) (hx : p.tables.exec = Jvm.exec) (hd : decode c.code pc = .ok (.lconst i, 1)) (hz : Int64.ofNat i = z) (hp : pc + 1 = pc') : Goes p e below S G T (mkF m pc' Ls (.long z :: St)) := by
  subst hp; exact fun t q => k t (XS.lconst X.here hx rfl hd (hz ▸ q))
theorem aconstNull  (k : Goes p e below S G T (mkF m pc Ls St)) (X : Stand p l e R s m args below meth c T locs cells slots) (hx : p.tables.exec = Jvm.exec) (hd : decode c.code pc = .ok (.aconst_null, 1)) (hp : pc + 1 = pc') : Goes p e below S G T (mkF m pc' Ls (.null :: St)) := by
  subst hp; exact fun t q => k t (XS.aconstNull X.here hx rfl hd q)
theorem iadd {x y z : Int32} (k : Goes p e below S G T (mkF m pc Ls (.int y :: .int x :: St))) (X : Stand p l e R s m args below meth c T locs cells slots) (hx : p.tables.exec = Jvm.exec) (hd : decode c.code pc = .ok (.iadd, 1)) (hz : x + y = z) (hp : pc + 1 = pc') : Goes p e below S G T (mkF m pc' Ls (.int z :: St)) := by
  subst hp; exact fun t q => k t (XS.iadd X.here hx rfl hd rfl (hz ▸ q))
theorem ladd {x y z : Int64} (k : Goes p e below S G T (mkF m pc Ls (.long y :: .long x :: St))) (X : Stand p l e R s m args below meth c T locs cells slots) (hx : p.tables.exec = Jvm.exec) (hd : decode c.code pc = .ok (.ladd, 1)) (hz : x + y = z) (hp : pc + 1 = pc') : Goes p e below S G T (mkF m pc' Ls (.long z :: St)) := by
  subst hp; exact fun t q => k t (XS.ladd X.here hx rfl hd rfl (hz ▸ q))
theorem isub {x y z : Int32} (k : Goes p e below S G T (mkF m pc Ls (.int y :: .int x :: St))) (X : Stand p l e R s m args below meth c T locs cells slots) (hx : p.tables.exec = Jvm.exec) (hd : decode c.code pc = .ok (.isub, 1)) (hz : x - y = z) (hp : pc + 1 = pc') : Goes p e below S G T (mkF m pc' Ls (.int z :: St)) := by
  subst hp; exact fun t q => k t (XS.isub X.here hx rfl hd rfl (hz ▸ q))
theorem lsub {x y z : Int64} (k : Goes p e below S G T (mkF m pc Ls (.long y :: .long x :: St))) (X : Stand p l e R s m args below meth c T locs cells slots) (hx : p.tables.exec = Jvm.exec) (hd : decode c.code pc = .ok (.lsub, 1)) (hz : x - y = z) (hp : pc + 1 = pc') : Goes p e below S G T (mkF m pc' Ls (.long z :: St)) := by
  subst hp; exact fun t q => k t (XS.lsub X.here hx rfl hd rfl (hz ▸ q))
theorem imul {x y z : Int32} (k : Goes p e below S G T (mkF m pc Ls (.int y :: .int x :: St))) (X : Stand p l e R s m args below meth c T locs cells slots) (hx : p.tables.exec = Jvm.exec) (hd : decode c.code pc = .ok (.imul, 1)) (hz : x * y = z) (hp : pc + 1 = pc') : Goes p e below S G T (mkF m pc' Ls (.int z :: St)) := by
  subst hp; exact fun t q => k t (XS.imul X.here hx rfl hd rfl (hz ▸ q))
theorem lmul {x y z : Int64} (k : Goes p e below S G T (mkF m pc Ls (.long y :: .long x :: St))) (X : Stand p l e R s m args below meth c T locs cells slots) (hx : p.tables.exec = Jvm.exec) (hd : decode c.code pc = .ok (.lmul, 1)) (hz : x * y = z) (hp : pc + 1 = pc') : Goes p e below S G T (mkF m pc' Ls (.long z :: St)) := by
  subst hp; exact fun t q => k t (XS.lmul X.here hx rfl hd rfl (hz ▸ q))
theorem iand {x y z : Int32} (k : Goes p e below S G T (mkF m pc Ls (.int y :: .int x :: St))) (X : Stand p l e R s m args below meth c T locs cells slots) (hx : p.tables.exec = Jvm.exec) (hd : decode c.code pc = .ok (.iand, 1)) (hz : x &&& y = z) (hp : pc + 1 = pc') : Goes p e below S G T (mkF m pc' Ls (.int z :: St)) := by
  subst hp; exact fun t q => k t (XS.iand X.here hx rfl hd rfl (hz ▸ q))
theorem land {x y z : Int64} (k : Goes p e below S G T (mkF m pc Ls (.long y :: .long x :: St))) (X : Stand p l e R s m args below meth c T locs cells slots) (hx : p.tables.exec = Jvm.exec) (hd : decode c.code pc = .ok (.land, 1)) (hz : x &&& y = z) (hp : pc + 1 = pc') : Goes p e below S G T (mkF m pc' Ls (.long z :: St)) := by
  subst hp; exact fun t q => k t (XS.land X.here hx rfl hd rfl (hz ▸ q))
theorem ior {x y z : Int32} (k : Goes p e below S G T (mkF m pc Ls (.int y :: .int x :: St))) (X : Stand p l e R s m args below meth c T locs cells slots) (hx : p.tables.exec = Jvm.exec) (hd : decode c.code pc = .ok (.ior, 1)) (hz : x ||| y = z) (hp : pc + 1 = pc') : Goes p e below S G T (mkF m pc' Ls (.int z :: St)) := by
  subst hp; exact fun t q => k t (XS.ior X.here hx rfl hd rfl (hz ▸ q))
theorem lor {x y z : Int64} (k : Goes p e below S G T (mkF m pc Ls (.long y :: .long x :: St))) (X : Stand p l e R s m args below meth c T locs cells slots) (hx : p.tables.exec = Jvm.exec) (hd : decode c.code pc = .ok (.lor, 1)) (hz : x ||| y = z) (hp : pc + 1 = pc') : Goes p e below S G T (mkF m pc' Ls (.long z :: St)) := by
  subst hp; exact fun t q => k t (XS.lor X.here hx rfl hd rfl (hz ▸ q))
theorem ixor {x y z : Int32} (k : Goes p e below S G T (mkF m pc Ls (.int y :: .int x :: St))) (X : Stand p l e R s m args below meth c T locs cells slots) (hx : p.tables.exec = Jvm.exec) (hd : decode c.code pc = .ok (.ixor, 1)) (hz : x ^^^ y = z) (hp : pc + 1 = pc') : Goes p e below S G T (mkF m pc' Ls (.int z :: St)) := by
  subst hp; exact fun t q => k t (XS.ixor X.here hx rfl hd rfl (hz ▸ q))
theorem lxor {x y z : Int64} (k : Goes p e below S G T (mkF m pc Ls (.long y :: .long x :: St))) (X : Stand p l e R s m args below meth c T locs cells slots) (hx : p.tables.exec = Jvm.exec) (hd : decode c.code pc = .ok (.lxor, 1)) (hz : x ^^^ y = z) (hp : pc + 1 = pc') : Goes p e below S G T (mkF m pc' Ls (.long z :: St)) := by
  subst hp; exact fun t q => k t (XS.lxor X.here hx rfl hd rfl (hz ▸ q))
theorem ineg {x : Int32} {z : Int32} (k : Goes p e below S G T (mkF m pc Ls (.int x :: St))) (X : Stand p l e R s m args below meth c T locs cells slots) (hx : p.tables.exec = Jvm.exec) (hd : decode c.code pc = .ok (.ineg, 1)) (hz : -x = z) (hp : pc + 1 = pc') : Goes p e below S G T (mkF m pc' Ls (.int z :: St)) := by
  subst hp; exact fun t q => k t (XS.ineg X.here hx rfl hd rfl (hz ▸ q))
theorem lneg {x : Int64} {z : Int64} (k : Goes p e below S G T (mkF m pc Ls (.long x :: St))) (X : Stand p l e R s m args below meth c T locs cells slots) (hx : p.tables.exec = Jvm.exec) (hd : decode c.code pc = .ok (.lneg, 1)) (hz : -x = z) (hp : pc + 1 = pc') : Goes p e below S G T (mkF m pc' Ls (.long z :: St)) := by
  subst hp; exact fun t q => k t (XS.lneg X.here hx rfl hd rfl (hz ▸ q))
theorem i2l {x : Int32} {z : Int64} (k : Goes p e below S G T (mkF m pc Ls (.int x :: St))) (X : Stand p l e R s m args below meth c T locs cells slots) (hx : p.tables.exec = Jvm.exec) (hd : decode c.code pc = .ok (.i2l, 1)) (hz : x.toInt64 = z) (hp : pc + 1 = pc') : Goes p e below S G T (mkF m pc' Ls (.long z :: St)) := by
  subst hp; exact fun t q => k t (XS.i2l X.here hx rfl hd rfl (hz ▸ q))
theorem l2i {x : Int64} {z : Int32} (k : Goes p e below S G T (mkF m pc Ls (.long x :: St))) (X : Stand p l e R s m args below meth c T locs cells slots) (hx : p.tables.exec = Jvm.exec) (hd : decode c.code pc = .ok (.l2i, 1)) (hz : x.toInt32 = z) (hp : pc + 1 = pc') : Goes p e below S G T (mkF m pc' Ls (.int z :: St)) := by
  subst hp; exact fun t q => k t (XS.l2i X.here hx rfl hd rfl (hz ▸ q))
theorem i2b {x : Int32} {z : Int32} (k : Goes p e below S G T (mkF m pc Ls (.int x :: St))) (X : Stand p l e R s m args below meth c T locs cells slots) (hx : p.tables.exec = Jvm.exec) (hd : decode c.code pc = .ok (.i2b, 1)) (hz : x.toInt8.toInt32 = z) (hp : pc + 1 = pc') : Goes p e below S G T (mkF m pc' Ls (.int z :: St)) := by
  subst hp; exact fun t q => k t (XS.i2b X.here hx rfl hd rfl (hz ▸ q))
theorem i2s {x : Int32} {z : Int32} (k : Goes p e below S G T (mkF m pc Ls (.int x :: St))) (X : Stand p l e R s m args below meth c T locs cells slots) (hx : p.tables.exec = Jvm.exec) (hd : decode c.code pc = .ok (.i2s, 1)) (hz : x.toInt16.toInt32 = z) (hp : pc + 1 = pc') : Goes p e below S G T (mkF m pc' Ls (.int z :: St)) := by
  subst hp; exact fun t q => k t (XS.i2s X.here hx rfl hd rfl (hz ▸ q))
theorem i2c {x : Int32} {z : Int32} (k : Goes p e below S G T (mkF m pc Ls (.int x :: St))) (X : Stand p l e R s m args below meth c T locs cells slots) (hx : p.tables.exec = Jvm.exec) (hd : decode c.code pc = .ok (.i2c, 1)) (hz : x.toUInt32.toUInt16.toUInt32.toInt32 = z) (hp : pc + 1 = pc') : Goes p e below S G T (mkF m pc' Ls (.int z :: St)) := by
  subst hp; exact fun t q => k t (XS.i2c X.here hx rfl hd rfl (hz ▸ q))
theorem ishl {x y z : Int32} (k : Goes p e below S G T (mkF m pc Ls (.int y :: .int x :: St))) (X : Stand p l e R s m args below meth c T locs cells slots) (hx : p.tables.exec = Jvm.exec) (hd : decode c.code pc = .ok (.ishl, 1)) (hz : x <<< (y &&& 31) = z) (hp : pc + 1 = pc') : Goes p e below S G T (mkF m pc' Ls (.int z :: St)) := by
  subst hp; exact fun t q => k t (XS.ishl X.here hx rfl hd rfl (hz ▸ q))
theorem ishr {x y z : Int32} (k : Goes p e below S G T (mkF m pc Ls (.int y :: .int x :: St))) (X : Stand p l e R s m args below meth c T locs cells slots) (hx : p.tables.exec = Jvm.exec) (hd : decode c.code pc = .ok (.ishr, 1)) (hz : x >>> (y &&& 31) = z) (hp : pc + 1 = pc') : Goes p e below S G T (mkF m pc' Ls (.int z :: St)) := by
  subst hp; exact fun t q => k t (XS.ishr X.here hx rfl hd rfl (hz ▸ q))
theorem iushr {x y z : Int32} (k : Goes p e below S G T (mkF m pc Ls (.int y :: .int x :: St))) (X : Stand p l e R s m args below meth c T locs cells slots) (hx : p.tables.exec = Jvm.exec) (hd : decode c.code pc = .ok (.iushr, 1)) (hz : (x.toUInt32 >>> (y &&& 31).toUInt32).toInt32 = z) (hp : pc + 1 = pc') : Goes p e below S G T (mkF m pc' Ls (.int z :: St)) := by
  subst hp; exact fun t q => k t (XS.iushr X.here hx rfl hd rfl (hz ▸ q))
theorem lshl {x z : Int64} {y : Int32} (k : Goes p e below S G T (mkF m pc Ls (.int y :: .long x :: St))) (X : Stand p l e R s m args below meth c T locs cells slots) (hx : p.tables.exec = Jvm.exec) (hd : decode c.code pc = .ok (.lshl, 1)) (hz : x <<< (y &&& 0x3f).toInt64 = z) (hp : pc + 1 = pc') : Goes p e below S G T (mkF m pc' Ls (.long z :: St)) := by
  subst hp; exact fun t q => k t (XS.lshl X.here hx rfl hd rfl (hz ▸ q))
theorem lshr {x z : Int64} {y : Int32} (k : Goes p e below S G T (mkF m pc Ls (.int y :: .long x :: St))) (X : Stand p l e R s m args below meth c T locs cells slots) (hx : p.tables.exec = Jvm.exec) (hd : decode c.code pc = .ok (.lshr, 1)) (hz : x >>> (y &&& 0x3f).toInt64 = z) (hp : pc + 1 = pc') : Goes p e below S G T (mkF m pc' Ls (.long z :: St)) := by
  subst hp; exact fun t q => k t (XS.lshr X.here hx rfl hd rfl (hz ▸ q))
theorem lushr {x z : Int64} {y : Int32} (k : Goes p e below S G T (mkF m pc Ls (.int y :: .long x :: St))) (X : Stand p l e R s m args below meth c T locs cells slots) (hx : p.tables.exec = Jvm.exec) (hd : decode c.code pc = .ok (.lushr, 1)) (hz : (x.toUInt64 >>> (y &&& 0x3f).toInt64.toUInt64).toInt64 = z) (hp : pc + 1 = pc') : Goes p e below S G T (mkF m pc' Ls (.long z :: St)) := by
  subst hp; exact fun t q => k t (XS.lushr X.here hx rfl hd rfl (hz ▸ q))
theorem idiv {x y z : Int32} (k : Goes p e below S G T (mkF m pc Ls (.int y :: .int x :: St))) (X : Stand p l e R s m args below meth c T locs cells slots) (hx : p.tables.exec = Jvm.exec) (hd : decode c.code pc = .ok (.idiv, 1)) (hy : y ≠ 0) (hz : x / y = z) (hp : pc + 1 = pc') : Goes p e below S G T (mkF m pc' Ls (.int z :: St)) := by
  subst hp; exact fun t q => k t (XS.idiv X.here hx rfl hd rfl hy (hz ▸ q))
theorem ldiv {x y z : Int64} (k : Goes p e below S G T (mkF m pc Ls (.long y :: .long x :: St))) (X : Stand p l e R s m args below meth c T locs cells slots) (hx : p.tables.exec = Jvm.exec) (hd : decode c.code pc = .ok (.ldiv, 1)) (hy : y ≠ 0) (hz : x / y = z) (hp : pc + 1 = pc') : Goes p e below S G T (mkF m pc' Ls (.long z :: St)) := by
  subst hp; exact fun t q => k t (XS.ldiv X.here hx rfl hd rfl hy (hz ▸ q))
theorem irem {x y z : Int32} (k : Goes p e below S G T (mkF m pc Ls (.int y :: .int x :: St))) (X : Stand p l e R s m args below meth c T locs cells slots) (hx : p.tables.exec = Jvm.exec) (hd : decode c.code pc = .ok (.irem, 1)) (hy : y ≠ 0) (hz : x % y = z) (hp : pc + 1 = pc') : Goes p e below S G T (mkF m pc' Ls (.int z :: St)) := by
  subst hp; exact fun t q => k t (iremM X hx rfl hd rfl hy (hz ▸ q))
theorem lrem {x y z : Int64} (k : Goes p e below S G T (mkF m pc Ls (.long y :: .long x :: St))) (X : Stand p l e R s m args below meth c T locs cells slots) (hx : p.tables.exec = Jvm.exec) (hd : decode c.code pc = .ok (.lrem, 1)) (hy : y ≠ 0) (hz : x % y = z) (hp : pc + 1 = pc') : Goes p e below S G T (mkF m pc' Ls (.long z :: St)) := by
  subst hp; exact fun t q => k t (XS.lrem X.here hx rfl hd rfl hy (by rw [lrem_mod]; exact hz ▸ q))
theorem lcmp {x y : Int64} (k : Goes p e below S G T (mkF m pc Ls (.long y :: .long x :: St))) (X : Stand p l e R s m args below meth c T locs cells slots) (hx : p.tables.exec = Jvm.exec) (hd : decode c.code pc = .ok (.lcmp, 1)) (hp : pc + 1 = pc') : Goes p e below S G T (mkF m pc' Ls (.int (lcmpW x y) :: St)) := by
  subst hp; exact fun t q => k t (XS.lcmp X.here hx rfl hd rfl q)
theorem iinc {i : Nat} {cst : Int} {x z : Int32} {Ls' : Array Slot} (k : Goes p e below S G T (mkF m pc Ls St)) (X : Stand p l e R s m args below meth c T locs cells slots) (hx : p.tables.exec = Jvm.exec) (hd : decode c.code pc = .ok (.iinc i cst, 3)) (hl : Ls[i]? = some (.val (.int x))) (hz : x + Int32.ofInt cst = z) (hl' : storeLocals Ls i (.int z) = some Ls') (hp : pc + 3 = pc') : Goes p e below S G T (mkF m pc' Ls' St) := by
  subst hp; exact fun t q => k t (XS.iinc X.here hx rfl hd hl (hz ▸ hl') q)
theorem dup {v : Value} (k : Goes p e below S G T (mkF m pc Ls (v :: St))) (X : Stand p l e R s m args below meth c T locs cells slots) (hx : p.tables.exec = Jvm.exec) (hd : decode c.code pc = .ok (.dup, 1)) (hc : v.category = 1) (hp : pc + 1 = pc') : Goes p e below S G T (mkF m pc' Ls (v :: v :: St)) := by
  subst hp; exact fun t q => k t (XS.dup X.here hx rfl hd rfl hc q)
theorem dupX1 {v w : Value} (k : Goes p e below S G T (mkF m pc Ls (v :: w :: St))) (X : Stand p l e R s m args below meth c T locs cells slots) (hx : p.tables.exec = Jvm.exec) (hd : decode c.code pc = .ok (.dup_x1, 1)) (hc : v.category = 1) (hc' : w.category = 1) (hp : pc + 1 = pc') : Goes p e below S G T (mkF m pc' Ls (v :: w :: v :: St)) := by
  subst hp; exact fun t q => k t (XS.dupX1 X.here hx rfl hd rfl hc hc' q)
theorem pop {v : Value} (k : Goes p e below S G T (mkF m pc Ls (v :: St))) (X : Stand p l e R s m args below meth c T locs cells slots) (hx : p.tables.exec = Jvm.exec) (hd : decode c.code pc = .ok (.pop, 1)) (hc : v.category = 1) (hp : pc + 1 = pc') : Goes p e below S G T (mkF m pc' Ls St) := by
  subst hp; exact fun t q => k t (XS.pop X.here hx rfl hd rfl hc q)
theorem goto {o : Int} (k : Goes p e below S G T (mkF m pc Ls St)) (X : Stand p l e R s m args below meth c T locs cells slots) (hx : p.tables.exec = Jvm.exec) (hd : decode c.code pc = .ok (.goto o, 3)) (ho : 0 ≤ (pc : Int) + o) (hp : ((pc : Int) + o).toNat = pc') : Goes p e below S G T (mkF m pc' Ls St) := fun t q => k t (XS.goto X.here hx rfl rfl hd ho hp q)
theorem ifYes {o : Int} {cd : ClassFile.Cond} {x : Int32} (k : Goes p e below S G T (mkF m pc Ls (.int x :: St))) (X : Stand p l e R s m args below meth c T locs cells slots) (hx : p.tables.exec = Jvm.exec) (hd : decode c.code pc = .ok (.ifCond cd o, 3)) (hc : ifCond.holds cd x = true) (ho : 0 ≤ (pc : Int) + o) (hp : ((pc : Int) + o).toNat = pc') : Goes p e below S G T (mkF m pc' Ls St) := fun t q => k t (XS.ifYes X.here hx rfl rfl hd rfl hc ho hp q)
theorem ifNo {o : Int} {cd : ClassFile.Cond} {x : Int32} (k : Goes p e below S G T (mkF m pc Ls (.int x :: St))) (X : Stand p l e R s m args below meth c T locs cells slots) (hx : p.tables.exec = Jvm.exec) (hd : decode c.code pc = .ok (.ifCond cd o, 3)) (hc : ifCond.holds cd x = false) (hp : pc + 3 = pc') : Goes p e below S G T (mkF m pc' Ls St) := fun t q => k t (XS.ifNo X.here hx rfl hd rfl hc (by subst hp; exact q))
theorem icmpYes {o : Int} {cd : ClassFile.Cond} {x y : Int32} (k : Goes p e below S G T (mkF m pc Ls (.int y :: .int x :: St))) (X : Stand p l e R s m args below meth c T locs cells slots) (hx : p.tables.exec = Jvm.exec) (hd : decode c.code pc = .ok (.if_icmp cd o, 3)) (hc : if_icmp.holds cd x y = true) (ho : 0 ≤ (pc : Int) + o) (hp : ((pc : Int) + o).toNat = pc') : Goes p e below S G T (mkF m pc' Ls St) := fun t q => k t (XS.icmpYes X.here hx rfl rfl hd rfl hc ho hp q)
theorem icmpNo {o : Int} {cd : ClassFile.Cond} {x y : Int32} (k : Goes p e below S G T (mkF m pc Ls (.int y :: .int x :: St))) (X : Stand p l e R s m args below meth c T locs cells slots) (hx : p.tables.exec = Jvm.exec) (hd : decode c.code pc = .ok (.if_icmp cd o, 3)) (hc : if_icmp.holds cd x y = false) (hp : pc + 3 = pc') : Goes p e below S G T (mkF m pc' Ls St) := fun t q => k t (XS.icmpNo X.here hx rfl hd rfl hc (by subst hp; exact q))
theorem ifnullYes {o : Int} (k : Goes p e below S G T (mkF m pc Ls (.null :: St))) (X : Stand p l e R s m args below meth c T locs cells slots) (hx : p.tables.exec = Jvm.exec) (hd : decode c.code pc = .ok (.ifnull o, 3)) (ho : 0 ≤ (pc : Int) + o) (hp : ((pc : Int) + o).toNat = pc') : Goes p e below S G T (mkF m pc' Ls St) := fun t q => k t (XS.ifnullYes X.here hx rfl rfl hd rfl ho hp q)
theorem ifnullNo {o : Int} {b : Addr} (k : Goes p e below S G T (mkF m pc Ls (.ref b :: St))) (X : Stand p l e R s m args below meth c T locs cells slots) (hx : p.tables.exec = Jvm.exec) (hd : decode c.code pc = .ok (.ifnull o, 3)) (hp : pc + 3 = pc') : Goes p e below S G T (mkF m pc' Ls St) := fun t q => k t (XS.ifnullNo X.here hx rfl hd rfl (by subst hp; exact q))
theorem ifnonnullYes {o : Int} {b : Addr} (k : Goes p e below S G T (mkF m pc Ls (.ref b :: St))) (X : Stand p l e R s m args below meth c T locs cells slots) (hx : p.tables.exec = Jvm.exec) (hd : decode c.code pc = .ok (.ifnonnull o, 3)) (ho : 0 ≤ (pc : Int) + o) (hp : ((pc : Int) + o).toNat = pc') : Goes p e below S G T (mkF m pc' Ls St) := fun t q => k t (XS.ifnonnullYes X.here hx rfl rfl hd rfl ho hp q)
theorem ifnonnullNo {o : Int} (k : Goes p e below S G T (mkF m pc Ls (.null :: St))) (X : Stand p l e R s m args below meth c T locs cells slots) (hx : p.tables.exec = Jvm.exec) (hd : decode c.code pc = .ok (.ifnonnull o, 3)) (hp : pc + 3 = pc') : Goes p e below S G T (mkF m pc' Ls St) := fun t q => k t (XS.ifnonnullNo X.here hx rfl hd rfl (by subst hp; exact q))
theorem acmp {cd : ACond} {x y : Value} {o : Int} (k : Goes p e below S G T (mkF m pc Ls (y :: x :: St))) (X : Stand p l e R s m args below meth c T locs cells slots) (hx : p.tables.exec = Jvm.exec) (hd : decode c.code pc = .ok (.if_acmp cd o, 3)) (h1 : x.isRef = true) (h2 : y.isRef = true) (same : Bool) (hq : decide (x = y) = same) (ho : 0 ≤ (pc : Int) + o) (hp : pc' = if acV cd same = true then ((pc : Int) + o).toNat else pc + 3) : Goes p e below S G T (mkF m pc' Ls St) := fun t q => k t (Jvm.RoadKit.acmp (g := mkF m pc Ls (y :: x :: St)) X hx rfl h1 h2 rfl hd rfl hq ho hp q)
theorem tsw {dflt low high : Int} {offs : Array Int} {len : Nat} {o : Int} {i : Int32} (k : Goes p e below S G T (mkF m pc Ls (.int i :: St))) (X : Stand p l e R s m args below meth c T locs cells slots) (hx : p.tables.exec = Jvm.exec) (hd : decode c.code pc = .ok (.tableswitch dflt low high offs, len)) (hin : ¬ (i.toInt < low ∨ i.toInt > high)) (hoff : offs[(i.toInt - low).toNat]? = some o) (ho : 0 ≤ (pc : Int) + o) (hp : ((pc : Int) + o).toNat = pc') : Goes p e below S G T (mkF m pc' Ls St) := fun t q => k t (XS.tswIn X.here hx rfl rfl hd rfl hin hoff ho hp q)
end Jvm.Own.Fw
namespace Jvm.Own
open Sem ClassFile Op Lib Jvm.Stand Jvm.Free Jvm.LawKit Jvm.RoadKit
section Facts
variable {Z : State} {h h' h'' : Heap} {a b : Addr} {K : String} {a0 : Array Value}
theorem allC {α : Type} {P : α → Prop} {y : α} {L : List α} (q : P y) (r : ∀ x ∈ L, P x) : ∀ x ∈ y :: L, P x := fun x z => (List.mem_cons.mp z).elim (fun u => u ▸ q) (r x)
theorem allN {α : Type} {P : α → Prop} : ∀ x ∈ ([] : List α), P x := fun _ q => nomatch q
/-- the fields of K's objects: each laid, their names all unlike -/
def LayOk (Z : State) (a0 : Array Value) (K : String) (l : List (String × String × String)) : Prop :=
  (∀ q ∈ l, Laid Z a0 K q.1 q.2.1 q.2.2 ∧ ∃ t, parseFieldDescriptor q.2.2 = some t) ∧ (l.map fun q => q.2.1).Nodup
/-- the object at a is exactly a K, and these fields of it hold these values -/
def Ob (Z : State) (h : Heap) (a : Addr) (K : String) (fs : List (String × String × String × Value)) : Prop :=
  Exa Z h a K ∧ ∀ q ∈ fs, Fld Z h a q.1 q.2.1 q.2.2.1 q.2.2.2
variable {fs : List (String × String × String × Value)}
theorem Ob.lt (O : Ob Z h a K fs) : a < h.size := O.1.lt
theorem Ob.exa (O : Ob Z h a K fs) : Exa Z h a K := O.1
theorem Ob.ext (O : Ob Z h a K fs) (E : Ext h h') : Ob Z h' a K fs := ⟨O.1.ext E, fun q hq => (O.2 q hq).ext E⟩
theorem Ob.keep {ws : List Addr} (O : Ob Z h a K fs) (W : Keep h h' ws) (n : a ∉ ws) : Ob Z h' a K fs := ⟨O.1.keep W, fun q hq => (O.2 q hq).keep W n⟩
theorem Ob.other {sl : Nat} {v : Value} (O : Ob Z h a K fs) (W : Wr h h' b sl v) (n : a ≠ b) : Ob Z h' a K fs := ⟨O.1.wr W, fun q hq => (O.2 q hq).other W (Or.inl n)⟩
theorem Ob.at (O : Ob Z h a K fs) (k : Nat) {C f d : String} {v : Value} (e : fs[k]? = some (C, f, d, v)) : Fld Z h a C f d v := O.2 _ (List.mem_of_getElem? e)
theorem Ob.put (O : Ob Z h a K fs) (L : LayOk Z a0 K (fs.map fun q => (q.1, q.2.1, q.2.2.1))) (k : Nat) {C f d : String} {u v : Value} (e : fs[k]? = some (C, f, d, u)) (W : Wr h h' a (Jvm.RoadKit.slotOf Z C f d) v) : Ob Z h' a K (fs.set k (C, f, d, v)) := by
  refine ⟨O.1.wr W, fun q hq => ?_⟩
  obtain ⟨j, hj⟩ := List.mem_iff_getElem?.mp hq
  have key : ∀ {i : Nat} {x : String × String × String × Value}, fs[i]? = some x → Laid Z a0 K x.1 x.2.1 x.2.2.1 ∧ ∃ t, parseFieldDescriptor x.2.2.1 = some t := fun {i x} hx =>
    L.1 (x.1, x.2.1, x.2.2.1) (List.mem_map.mpr ⟨x, List.mem_of_getElem? hx, rfl⟩)
  by_cases hne : k = j
  · subst hne
    have hlt : k < fs.length := (List.getElem?_eq_some_iff.mp e).1
    rw [List.getElem?_set_self hlt] at hj
    cases hj
    exact (O.at k e).same W
  · rw [List.getElem?_set_ne hne] at hj
    obtain ⟨l1, t1, ht1⟩ := key hj
    obtain ⟨l2, t2, ht2⟩ := key e
    refine (O.2 q (List.mem_of_getElem? hj)).other W (Or.inr (Jvm.RoadKit.slot_ne l1 l2 (fun heq => ?_) ht1 ht2))
    have nd := L.2
    rw [List.map_map] at nd
    have e1 : (fs.map ((fun q => q.2.1) ∘ fun q => (q.1, q.2.1, q.2.2.1)))[j]? = some q.2.1 := by simp [List.getElem?_map, hj]
    have e2 : (fs.map ((fun q => q.2.1) ∘ fun q => (q.1, q.2.1, q.2.2.1)))[k]? = some f := by simp [List.getElem?_map, e]
    have hl1 := (List.getElem?_eq_some_iff.mp e1).1
    exact hne (((List.getElem?_inj hl1 nd).mp (by rw [e1, e2, heq])).symm)
/-- the contents of an array with one place turned -/
def updv (f : Nat → Value) (i : Nat) (v : Value) : Nat → Value := fun j => if j = i then v else f j
/-- the array at a: of the class named C (its id k), components of type ty, n of them, with these contents -/
def Aw (Z : State) (h : Heap) (a : Addr) (C : String) (k : ClassId) (ty : FieldType) (n : Nat) (f : Nat → Value) : Prop :=
  Exa Z h a C ∧ ∃ c : Cell, Arr Z h a c ty ∧ c.cls = k ∧ c.slots.size = n ∧ n < 2147483648 ∧ (∀ i, i < n → c.slots[i]? = some (f i)) ∧ ∀ i, i < n → fits ty (f i) = true
variable {C : String} {k : ClassId} {ty : FieldType} {n : Nat} {f : Nat → Value}
theorem Aw.lt (A : Aw Z h a C k ty n f) : a < h.size := A.1.lt
theorem Aw.exa (A : Aw Z h a C k ty n f) : Exa Z h a C := A.1
theorem Aw.ext (A : Aw Z h a C k ty n f) (E : Ext h h') : Aw Z h' a C k ty n f := by
  obtain ⟨e, c, A1, r⟩ := A; exact ⟨e.ext E, c, A1.ext E, r⟩
theorem Aw.keep {ws : List Addr} (A : Aw Z h a C k ty n f) (W : Keep h h' ws) (q : a ∉ ws) : Aw Z h' a C k ty n f := by
  obtain ⟨e, c, A1, r⟩ := A; exact ⟨e.keep W, c, ⟨W.2.1 a c A1.1 q, A1.2⟩, r⟩
theorem Aw.other {sl : Nat} {v : Value} (A : Aw Z h a C k ty n f) (W : Wr h h' b sl v) (q : a ≠ b) : Aw Z h' a C k ty n f := by
  obtain ⟨e, c, A1, r⟩ := A; exact ⟨e.wr W, c, A1.other W q, r⟩
theorem clampNat (j : Int32) : j.toNatClampNeg = j.toInt.toNat := rfl
theorem Aw.inb (A : Aw Z h a C k ty n f) {j : Int32} (q : ¬ j < 0) (r : j.toNatClampNeg < n) {c : Cell} (hs : c.slots.size = n) : ¬ (j < 0 ∨ c.slots.size ≤ j.toNatClampNeg) := fun x => x.elim q (fun y => by omega)
/-- opened at one place -/
theorem Aw.open (A : Aw Z h a C k ty n f) {j : Int32} (i : Nat) (q : ¬ j < 0) (e : j.toNatClampNeg = i) (r : i < n) : ∃ c : Cell, Arr Z h a c ty ∧ ¬ (j < 0 ∨ c.slots.size ≤ j.toNatClampNeg) ∧ c.slots[j.toNatClampNeg]? = some (f i) ∧ c.cls = k ∧ fits ty (f i) = true := by
  obtain ⟨-, c, A1, hk, hs, hn, hf, hfit⟩ := A
  refine ⟨c, A1, fun x => x.elim q (fun y => by omega), by rw [e]; exact hf i r, hk, hfit i r⟩
theorem Aw.len (A : Aw Z h a C k ty n f) (z : Int32) (e : Int32.ofNat n = z) : ∃ c : Cell, Arr Z h a c ty ∧ c.slots.size.toInt32 = z := by
  obtain ⟨-, c, A1, hk, hs, hn, hf, hfit⟩ := A
  exact ⟨c, A1, by rw [hs]; exact e⟩
theorem Aw.set (A : Aw Z h a C k ty n f) {j : Nat} {v : Value} (W : Wr h h' a j v) (i : Nat) (e : j = i) (hv : fits ty v = true) : Aw Z h' a C k ty n (updv f i v) := by
  subst e
  obtain ⟨x, c, A1, hk, hs, hn, hf, hfit⟩ := A
  refine ⟨x.wr W, _, A1.same W, hk, by rw [sz_set]; exact hs, hn, fun i hi => ?_, fun i hi => ?_⟩
  · by_cases q : i = j
    · subst q; simp [Cell.setSlot, updv, hs, hi]
    · simp [Cell.setSlot, updv, q, Array.getElem?_setIfInBounds_ne (Ne.symm q), hf i hi]
  · by_cases q : i = j
    · subst q; simp [updv, hv]
    · simp [updv, q, hfit i hi]
theorem fits_default (ty : FieldType) : fits ty (defaultValue ty) = true := by cases ty <;> first | rfl | decide
theorem Aw.new {z : Int32} (A : Arr Z h a (newA k ty z) ty) (E : Exa Z h a C) (q : ¬ z < 0) (n : Nat) (e : z.toNatClampNeg = n) : Aw Z h a C k ty n (fun _ => defaultValue ty) := by
  subst e
  refine ⟨E, _, A, rfl, sz_new _ _ _, (back32 q).2, fun i hi => ?_, fun i hi => fits_default ty⟩
  simp [newA, hi]
theorem Aw.norm {g : Nat → Value} (A : Aw Z h a C k ty n f) (q : ∀ i, i < n → f i = g i) : Aw Z h a C k ty n g := by
  obtain ⟨x, c, A1, hk, hs, hn, hf, hfit⟩ := A
  exact ⟨x, c, A1, hk, hs, hn, fun i hi => by rw [← q i hi]; exact hf i hi, fun i hi => by rw [← q i hi]; exact hfit i hi⟩
theorem ltZ {P : Nat → Prop} : ∀ i, i < 0 → P i := fun _ h => absurd h (Nat.not_lt_zero _)
theorem ltS {P : Nat → Prop} {n : Nat} (q : P n) (r : ∀ i, i < n → P i) : ∀ i, i < n + 1 → P i := fun i h => (Nat.lt_or_eq_of_le (Nat.le_of_lt_succ h)).elim (r i) (fun e => e ▸ q)
theorem ofNat_clamp {n : Nat} (h : n < 2147483648) : (Int32.ofNat n).toNatClampNeg = n ∧ ¬ (Int32.ofNat n) < 0 := by
  have e : (Int32.ofNat n).toInt = n := Int32.toInt_ofNat_small h
  refine ⟨by rw [clampNat, e]; rfl, fun q => ?_⟩
  rw [Int32.lt_iff_toInt_lt, e] at q
  have : (0 : Int32).toInt = 0 := rfl
  omega
theorem Aw.arv (A : Aw Z h a C k ty n f) (dv : Value) : Arv Z h a k ty (Int32.ofNat n) ((List.range n).map f) dv := by
  obtain ⟨-, c, A1, hk, hs, hn, hf, hfit⟩ := A
  have g : ∀ i, i < n → ((List.range n).map f).getD i dv = f i := fun i hi => by simp [List.getD_eq_getElem?_getD, hi]
  refine ⟨c, A1, hk, by rw [hs, (ofNat_clamp hn).1], (ofNat_clamp hn).2, fun i hi => ?_, fun i hi => ?_⟩
  · rw [hs] at hi; rw [g i hi]; exact hf i hi
  · rw [hs] at hi; rw [g i hi]; exact hfit i hi
theorem Aw.of_arv {z : Int32} {vs : List Value} {dv : Value} (F : Arv Z h a k ty z vs dv) (E : Exa Z h a C) (hz : z.toNatClampNeg = n) (g : ∀ i, i < n → vs.getD i dv = f i) : Aw Z h a C k ty n f := by
  obtain ⟨c, A1, hk, hs, hn, H, G⟩ := F
  have hs' : c.slots.size = n := hs.trans hz
  refine ⟨E, c, A1, hk, hs', by rw [← hz]; exact (back32 hn).2, fun i hi => ?_, fun i hi => ?_⟩
  · rw [← g i hi]; exact H i (by rw [hs']; exact hi)
  · rw [← g i hi]; exact G i (by rw [hs']; exact hi)
/-- the contents behind a copy of nn components from place sp of f to place dp of g -/
def cpyv (f g : Nat → Value) (sp dp nn : Nat) : Nat → Value := fun i => if dp ≤ i ∧ i < dp + nn then f (i - dp + sp) else g i
theorem cpy_list {f g : Nat → Value} {sp dp nn n : Nat} (h : dp + nn ≤ n) (dv : Value) (us : List Value) (hus : us.length = nn) (hu : ∀ i, i < nn → us.getD i dv = f (i + sp)) : ∀ i, i < n → (((List.range n).map g).take dp ++ us ++ ((List.range n).map g).drop (dp + nn)).getD i dv = cpyv f g sp dp nn i := fun i hi => by
  have l1 : (((List.range n).map g).take dp).length = dp := by simp; omega
  rw [List.getD_eq_getElem?_getD]
  by_cases c1 : i < dp
  · rw [List.append_assoc, List.getElem?_append_left (by rw [l1]; exact c1)]
    simp [cpyv, List.getElem?_take, c1, hi, Nat.not_le.mpr c1]
  · by_cases c2 : i < dp + nn
    · rw [List.getElem?_append_left (by rw [List.length_append, l1, hus]; exact c2), List.getElem?_append_right (by rw [l1]; omega), l1]
      have := hu (i - dp) (by omega)
      rw [List.getD_eq_getElem?_getD] at this
      rw [this]
      simp [cpyv, Nat.not_lt.mp c1, c2]
    · rw [List.getElem?_append_right (by rw [List.length_append, l1, hus]; omega), List.length_append, l1, hus, List.getElem?_drop]
      have e : dp + nn + (i - (dp + nn)) = i := by omega
      rw [e]
      simp [cpyv, hi, c2]
end Facts
section Nar
theorem own_irr (x : Int32) : ¬ x < x := by rw [Int32.lt_iff_toInt_lt]; omega
theorem own_nnBi2b (x : Int32) : nar .byte (x.toInt8.toInt32) = x.toInt8.toInt32 := by show x.toInt8.toInt32.toInt8.toInt32 = _; simp
theorem own_nnBnarB (x : Int32) : nar .byte (nar .byte x) = nar .byte x := own_nnBi2b x
theorem own_nnCi2c (x : Int32) : nar .char (x.toUInt32.toUInt16.toUInt32.toInt32) = x.toUInt32.toUInt16.toUInt32.toInt32 := by
  show x.toUInt32.toUInt16.toUInt32.toInt32.toUInt32.toUInt16.toUInt32.toInt32 = _
  generalize x.toUInt32.toUInt16 = u
  simp
theorem own_nnCnarC (x : Int32) : nar .char (nar .char x) = nar .char x := own_nnCi2c x
theorem own_nnZnarZ (x : Int32) : nar .boolean (nar .boolean x) = nar .boolean x := by show x &&& 1 &&& 1 = x &&& 1; rw [Int32.and_assoc]; rfl
theorem own_fitBi2b (x : Int32) : fits .byte (.int (x.toInt8.toInt32)) = true := fits_nar_byte x
theorem own_fitBnarB (x : Int32) : fits .byte (.int (nar .byte x)) = true := fits_nar_byte x
theorem own_fitCi2c (x : Int32) : fits .char (.int (x.toUInt32.toUInt16.toUInt32.toInt32)) = true := fits_nar_char x
theorem own_fitCnarC (x : Int32) : fits .char (.int (nar .char x)) = true := fits_nar_char x
end Nar
section Copy
variable {p : Program} {l : Launch} {e : Env} {R : Room} {s : State} {m : MethodId} {args : Array Value} {below : List Frame} {meth : Method} {c : Code} {T : State} {locs : List Loc} {cells slots : Nat} {Z : State} {a0 : Array Value} {h : Heap} {a b : Addr}
theorem cpW (X : Stand p l e R s m args below meth c T locs cells slots) (hx : p.tables.exec = Jvm.exec) (hZ : Z.Warmed39 s.vm) {own : String} {index : Nat} (hown : s.vm.findClass own = some m.cls)
    (w1 : (Cond.methodLink own index Jvm.Stand.acN).before a0 Z = true) (w2 : (Cond.native Jvm.Stand.acN).before a0 Z = true) (w3 : (Cond.static Jvm.Stand.acN).before a0 Z = true) (w4 : (Cond.initialized "java/lang/System").before a0 Z = true) (eT : T.heap = h)
    {C C' : String} {k k' : ClassId} {ty : FieldType} {n n' : Nat} {f g' : Nat → Value} (A : Aw Z h a C k ty n f) (B : Aw Z h b C' k' ty n' g') (hty : refKind ty = false) {sp dp nn : Int32} (sp' dp' nn' : Nat)
    (h1 : ¬ sp < 0) (h2 : ¬ dp < 0) (h3 : ¬ nn < 0) (e1 : sp.toNatClampNeg = sp') (e2 : dp.toNatClampNeg = dp') (e3 : nn.toNatClampNeg = nn') (h4 : sp' + nn' ≤ n) (h5 : dp' + nn' ≤ n') {n0 : Nat} (N : Fr n0 locs) (ge : n0 ≤ b)
    {g : JFrame} (hg : g.method = m) (hsize : g.locals.size = c.maxLocals) {rest : List Value} (hs : g.stack = .int nn :: .int dp :: .ref b :: .int sp :: .ref a :: rest) (hd : decode c.code g.pc = .ok (.invokestatic index, 3))
    (hf : 1 ≤ R.frames) {W : Nat} (hW : 2 * g.monitorRoom + (rest.map fun v => v.category).sum ≤ W) (hlo : W + (nativeFrameWords "java/lang/System" "arraycopy" 5 + 11) ≤ R.locals) :
    ∃ T' h' L, Stand p l e R s m args below meth c T' L cells slots ∧ T'.heap = h' ∧ Fr n0 L ∧ Keep h h' [b] ∧ Aw Z h' b C' k' ty n' (cpyv f g' sp' dp' nn') ∧
      ∀ target, Steps p.tables e below (T'.setTop { g with pc := g.pc + 3, stack := rest }) target → Steps p.tables e below (T.setTop g) target := by
  subst e1 e2 e3
  have hA := A.2.choose_spec.2.2.2.1
  have hB := B.2.choose_spec.2.2.2.1
  obtain ⟨T', h', L, X', eT', N', K, V, st⟩ := cpA X hx hZ hown w1 w2 w3 w4 eT (A.arv .null) (B.arv .null) (us := (List.range nn.toNatClampNeg).map fun i => f (i + sp.toNatClampNeg)) (Or.inl ⟨rfl, hty⟩) h1 h2 h3 (by rw [(ofNat_clamp hA).1]; exact h4) (by rw [(ofNat_clamp hB).1]; exact h5)
    (by
      refine List.map_congr_left fun i hi => ?_
      have hi' := List.mem_range.mp hi
      have hlt : i + sp.toNatClampNeg < n := by omega
      rw [Nat.add_comm sp.toNatClampNeg i]
      simp [List.getD_eq_getElem?_getD, hlt]) (by simpa using h5) N ge hg hsize hs hd hf hW hlo
  refine ⟨T', h', L, X', eT', N', K, Aw.of_arv V (B.1.keep K) (ofNat_clamp hB).1 (cpy_list h5 .null _ (by simp) (fun i hi => by simp [List.getD_eq_getElem?_getD, hi])), st⟩
end Copy
end Jvm.Own
namespace Jvm.Pilot.@@N@@
open Jvm Jvm.ClassFile Sem Op Lib Jvm.Free Jvm.Stand Jvm.LawKit Jvm.RoadKit Jvm.Own Bundle Jvm.Pilot.@@N@@.Jvm.D
theorem own_len {args : Array Value} {s : State} {t : Term} {w : Addr} {cl : Cell} {z : Int32} (ev : t.eval args s none [] s = some (.ref w)) (ha : s.arrayAt? w = some cl) (hl : (Jvm.Term.length t).eval args s none [] s = some (.int z)) : cl.slots.size < 2 ^ 31 ∧ cl.slots.size.toInt32 = z := by
  simp [Term.eval, ev, ha] at hl
  exact hl
theorem own_empty {s : State} {args : Array Value} {C f : String} (h1 : (Jvm.Cond.initializedFor C f "[Ljava/lang/Object;").before args s = true ∨ ((Jvm.Cond.initialized C).before args s = true ∧ (Jvm.Cond.laysStatic C f "[Ljava/lang/Object;").before args s = true))
    (h2 : (Jvm.Cond.arrayOf (Jvm.Term.static C f "[Ljava/lang/Object;") (.object "java/lang/Object")).before args s = true) (h3 : (Jvm.Cond.exactly (Jvm.Term.static C f "[Ljava/lang/Object;") "[Ljava/lang/Object;").before args s = true)
    (h4 : (Jvm.Cond.eq (Jvm.Term.length (Jvm.Term.static C f "[Ljava/lang/Object;")) (Jvm.Term.int (0 : Int32))).before args s = true) : ∃ (w : Addr) (k : ClassId), Sta s s.heap C f "[Ljava/lang/Object;" (.ref w) ∧ Aw s s.heap w "[Ljava/lang/Object;" k (.object "java/lang/Object") 0 (fun _ => .null) := by
  obtain ⟨w, ev⟩ := arr_v (Cond.before_iff.mp h2)
  obtain ⟨cl, A⟩ := Arr.start ev (Cond.before_iff.mp h2)
  have S := Sta.start ev h1
  have E := Exa.start ev (Cond.before_iff.mp h3)
  have hl := own_len ev (A.fin (Vm.Alike.refl _)) (eqv_i (Term.int_eval 0) (Cond.before_iff.mp h4))
  have hz : cl.slots.size = 0 := by
    have := len_toInt hl.1
    rw [hl.2] at this
    have e0 : (0 : Int32).toInt = 0 := rfl
    omega
  exact ⟨w, cl.cls, S, E, cl, A, rfl, hz, by omega, fun i hi => absurd hi (Nat.not_lt_zero _), fun i hi => absurd hi (Nat.not_lt_zero _)⟩
theorem own_join (a : Int64) : ((((((a.toUInt64 >>> ((32 : Int32) &&& 0x3f).toInt64.toUInt64).toInt64).toInt32).toInt64) <<< ((32 : Int32) &&& 0x3f).toInt64) ||| (((a.toInt32).toInt64) &&& (4294967295 : Int64))) = a := by
  apply Int64.toBitVec_inj.mp
  have e1 : ((32 : Int32) &&& 0x3f).toInt64 = 32 := by decide
  rw [e1]
  ext i hi
  have e3 : (4294967295#64)[i] = decide (i < 32) := by
    rw [show (4294967295#64) = (BitVec.allOnes 32).setWidth 64 from by decide, BitVec.getElem_setWidth]
    exact BitVec.getLsbD_allOnes
  simp [e3]
  by_cases c : i < 32
  · simp [c, hi, BitVec.getElem_signExtend]
  · have c' : i - 32 < 32 := by omega
    have c3 : 32 + (i - 32) = i := by omega
    have c4 : i - 32 < 64 := by omega
    simp [c, c', c4, BitVec.getElem_signExtend, c3, BitVec.getLsbD_eq_getElem hi]
theorem w_12 {Z : State} {a0 : Array Value} (hw : ∀ d ∈ tables_1, d.before a0 Z = true) : (Jvm.Cond.lays "com/example/kleinmaschine/kleinmaschine/Statements" "com/example/kleinmaschine/kleinmaschine/Statements" "headPages" "[[I").before a0 Z = true := hw _ (List.mem_of_getElem? (i := 12) rfl)
theorem w_14 {Z : State} {a0 : Array Value} (hw : ∀ d ∈ tables_1, d.before a0 Z = true) : (Jvm.Cond.lays "com/example/kleinmaschine/kleinmaschine/Statements" "com/example/kleinmaschine/kleinmaschine/Statements" "upperPages" "[[I").before a0 Z = true := hw _ (List.mem_of_getElem? (i := 14) rfl)
theorem w_16 {Z : State} {a0 : Array Value} (hw : ∀ d ∈ tables_1, d.before a0 Z = true) : (Jvm.Cond.lays "com/example/kleinmaschine/kleinmaschine/Statements" "com/example/kleinmaschine/kleinmaschine/Statements" "lowerPages" "[[I").before a0 Z = true := hw _ (List.mem_of_getElem? (i := 16) rfl)
theorem w_59 {Z : State} {a0 : Array Value} (hw : ∀ d ∈ tables_1, d.before a0 Z = true) : (Jvm.Cond.laysFinal "com/example/kleinmaschine/kleinmaschine/Statements" "com/example/kleinmaschine/kleinmaschine/Statements" "records" "Lcom/example/kleinmaschine/kleinmaschine/PagedBytes;").before a0 Z = true := hw _ (List.mem_of_getElem? (i := 59) rfl)
theorem w_62 {Z : State} {a0 : Array Value} (hw : ∀ d ∈ tables_1, d.before a0 Z = true) : (Jvm.Cond.lays "com/example/kleinmaschine/kleinmaschine/Statements" "com/example/kleinmaschine/kleinmaschine/Statements" "checkpointPlaces" "[J").before a0 Z = true := hw _ (List.mem_of_getElem? (i := 62) rfl)
theorem w_64 {Z : State} {a0 : Array Value} (hw : ∀ d ∈ tables_1, d.before a0 Z = true) : (Jvm.Cond.lays "com/example/kleinmaschine/kleinmaschine/Statements" "com/example/kleinmaschine/kleinmaschine/Statements" "checkpointLines" "[J").before a0 Z = true := hw _ (List.mem_of_getElem? (i := 64) rfl)
theorem w_66 {Z : State} {a0 : Array Value} (hw : ∀ d ∈ tables_1, d.before a0 Z = true) : (Jvm.Cond.lays "com/example/kleinmaschine/kleinmaschine/Statements" "com/example/kleinmaschine/kleinmaschine/Statements" "checkpointColumns" "[J").before a0 Z = true := hw _ (List.mem_of_getElem? (i := 66) rfl)
theorem w_93 {Z : State} {a0 : Array Value} (hw : ∀ d ∈ tables_1, d.before a0 Z = true) : (Jvm.Cond.lays "com/example/kleinmaschine/kleinmaschine/Statements" "com/example/kleinmaschine/kleinmaschine/Statements" "heads" "[I").before a0 Z = true := hw _ (List.mem_of_getElem? (i := 93) rfl)
theorem w_95 {Z : State} {a0 : Array Value} (hw : ∀ d ∈ tables_1, d.before a0 Z = true) : (Jvm.Cond.lays "com/example/kleinmaschine/kleinmaschine/Statements" "com/example/kleinmaschine/kleinmaschine/Statements" "size" "I").before a0 Z = true := hw _ (List.mem_of_getElem? (i := 95) rfl)
theorem w_115 {Z : State} {a0 : Array Value} (hw : ∀ d ∈ tables_1, d.before a0 Z = true) : (Jvm.Cond.lays "com/example/kleinmaschine/kleinmaschine/Statements" "com/example/kleinmaschine/kleinmaschine/Statements" "lastLine" "J").before a0 Z = true := hw _ (List.mem_of_getElem? (i := 115) rfl)
theorem w_117 {Z : State} {a0 : Array Value} (hw : ∀ d ∈ tables_1, d.before a0 Z = true) : (Jvm.Cond.lays "com/example/kleinmaschine/kleinmaschine/Statements" "com/example/kleinmaschine/kleinmaschine/Statements" "lastColumn" "J").before a0 Z = true := hw _ (List.mem_of_getElem? (i := 117) rfl)
theorem w_206 {Z : State} {a0 : Array Value} (hw : ∀ d ∈ tables_1, d.before a0 Z = true) : (Jvm.Cond.lays "com/example/kleinmaschine/kleinmaschine/Statements" "com/example/kleinmaschine/kleinmaschine/Statements" "uppers" "[I").before a0 Z = true := hw _ (List.mem_of_getElem? (i := 206) rfl)
theorem w_208 {Z : State} {a0 : Array Value} (hw : ∀ d ∈ tables_1, d.before a0 Z = true) : (Jvm.Cond.lays "com/example/kleinmaschine/kleinmaschine/Statements" "com/example/kleinmaschine/kleinmaschine/Statements" "lowers" "[I").before a0 Z = true := hw _ (List.mem_of_getElem? (i := 208) rfl)
theorem lay_Statements {Z : State} {a0 : Array Value} (hw : ∀ d ∈ tables_1, d.before a0 Z = true) : LayOk Z a0 "com/example/kleinmaschine/kleinmaschine/Statements" [("com/example/kleinmaschine/kleinmaschine/Statements", "headPages", "[[I"), ("com/example/kleinmaschine/kleinmaschine/Statements", "upperPages", "[[I"), ("com/example/kleinmaschine/kleinmaschine/Statements", "lowerPages", "[[I"), ("com/example/kleinmaschine/kleinmaschine/Statements", "records", "Lcom/example/kleinmaschine/kleinmaschine/PagedBytes;"), ("com/example/kleinmaschine/kleinmaschine/Statements", "checkpointPlaces", "[J"), ("com/example/kleinmaschine/kleinmaschine/Statements", "checkpointLines", "[J"), ("com/example/kleinmaschine/kleinmaschine/Statements", "checkpointColumns", "[J"), ("com/example/kleinmaschine/kleinmaschine/Statements", "heads", "[I"), ("com/example/kleinmaschine/kleinmaschine/Statements", "size", "I"), ("com/example/kleinmaschine/kleinmaschine/Statements", "lastLine", "J"), ("com/example/kleinmaschine/kleinmaschine/Statements", "lastColumn", "J"), ("com/example/kleinmaschine/kleinmaschine/Statements", "uppers", "[I"), ("com/example/kleinmaschine/kleinmaschine/Statements", "lowers", "[I")] := ⟨allC ⟨(Or.inl (w_12 hw)), ⟨(.array (.array .int)), by decide +kernel⟩⟩ (allC ⟨(Or.inl (w_14 hw)), ⟨(.array (.array .int)), by decide +kernel⟩⟩ (allC ⟨(Or.inl (w_16 hw)), ⟨(.array (.array .int)), by decide +kernel⟩⟩ (allC ⟨(Or.inr (w_59 hw)), ⟨(.object "com/example/kleinmaschine/kleinmaschine/PagedBytes"), by decide +kernel⟩⟩ (allC ⟨(Or.inl (w_62 hw)), ⟨(.array .long), by decide +kernel⟩⟩ (allC ⟨(Or.inl (w_64 hw)), ⟨(.array .long), by decide +kernel⟩⟩ (allC ⟨(Or.inl (w_66 hw)), ⟨(.array .long), by decide +kernel⟩⟩ (allC ⟨(Or.inl (w_93 hw)), ⟨(.array .int), by decide +kernel⟩⟩ (allC ⟨(Or.inl (w_95 hw)), ⟨.int, by decide +kernel⟩⟩ (allC ⟨(Or.inl (w_115 hw)), ⟨.long, by decide +kernel⟩⟩ (allC ⟨(Or.inl (w_117 hw)), ⟨.long, by decide +kernel⟩⟩ (allC ⟨(Or.inl (w_206 hw)), ⟨(.array .int), by decide +kernel⟩⟩ (allC ⟨(Or.inl (w_208 hw)), ⟨(.array .int), by decide +kernel⟩⟩ (allN))))))))))))), by decide +kernel⟩
theorem new_lay_Statements {Z : State} {a0 : Array Value} {h : Heap} {b : Addr} (hw : ∀ d ∈ tables_1, d.before a0 Z = true) (A : Exa Z h b "com/example/kleinmaschine/kleinmaschine/Statements") (D : ∀ {O nm d : String} {ty : FieldType}, Laid Z a0 "com/example/kleinmaschine/kleinmaschine/Statements" O nm d → parseFieldDescriptor d = some ty → Fld Z h b O nm d (defaultValue ty)) : Ob Z h b "com/example/kleinmaschine/kleinmaschine/Statements" [("com/example/kleinmaschine/kleinmaschine/Statements", "headPages", "[[I", .null), ("com/example/kleinmaschine/kleinmaschine/Statements", "upperPages", "[[I", .null), ("com/example/kleinmaschine/kleinmaschine/Statements", "lowerPages", "[[I", .null), ("com/example/kleinmaschine/kleinmaschine/Statements", "records", "Lcom/example/kleinmaschine/kleinmaschine/PagedBytes;", .null), ("com/example/kleinmaschine/kleinmaschine/Statements", "checkpointPlaces", "[J", .null), ("com/example/kleinmaschine/kleinmaschine/Statements", "checkpointLines", "[J", .null), ("com/example/kleinmaschine/kleinmaschine/Statements", "checkpointColumns", "[J", .null), ("com/example/kleinmaschine/kleinmaschine/Statements", "heads", "[I", .null), ("com/example/kleinmaschine/kleinmaschine/Statements", "size", "I", (.int 0)), ("com/example/kleinmaschine/kleinmaschine/Statements", "lastLine", "J", (.long 0)), ("com/example/kleinmaschine/kleinmaschine/Statements", "lastColumn", "J", (.long 0)), ("com/example/kleinmaschine/kleinmaschine/Statements", "uppers", "[I", .null), ("com/example/kleinmaschine/kleinmaschine/Statements", "lowers", "[I", .null)] := ⟨A, allC (D (Or.inl (w_12 hw)) (ty := (.array (.array .int))) (by decide +kernel)) (allC (D (Or.inl (w_14 hw)) (ty := (.array (.array .int))) (by decide +kernel)) (allC (D (Or.inl (w_16 hw)) (ty := (.array (.array .int))) (by decide +kernel)) (allC (D (Or.inr (w_59 hw)) (ty := (.object "com/example/kleinmaschine/kleinmaschine/PagedBytes")) (by decide +kernel)) (allC (D (Or.inl (w_62 hw)) (ty := (.array .long)) (by decide +kernel)) (allC (D (Or.inl (w_64 hw)) (ty := (.array .long)) (by decide +kernel)) (allC (D (Or.inl (w_66 hw)) (ty := (.array .long)) (by decide +kernel)) (allC (D (Or.inl (w_93 hw)) (ty := (.array .int)) (by decide +kernel)) (allC (D (Or.inl (w_95 hw)) (ty := .int) (by decide +kernel)) (allC (D (Or.inl (w_115 hw)) (ty := .long) (by decide +kernel)) (allC (D (Or.inl (w_117 hw)) (ty := .long) (by decide +kernel)) (allC (D (Or.inl (w_206 hw)) (ty := (.array .int)) (by decide +kernel)) (allC (D (Or.inl (w_208 hw)) (ty := (.array .int)) (by decide +kernel)) (allN)))))))))))))⟩
theorem w_0 {Z : State} {a0 : Array Value} (hw : ∀ d ∈ tables_1, d.before a0 Z = true) : (Jvm.Cond.classLink "com/example/kleinmaschine/kleinmaschine/StatementsOperandPinLaw" (7 : Nat) "com/example/kleinmaschine/kleinmaschine/Statements").before a0 Z = true := hw _ (List.mem_of_getElem? (i := 0) rfl)
theorem w_1 {Z : State} {a0 : Array Value} (hw : ∀ d ∈ tables_1, d.before a0 Z = true) : (Jvm.Cond.instantiable "com/example/kleinmaschine/kleinmaschine/Statements" (13 : Nat)).before a0 Z = true := hw _ (List.mem_of_getElem? (i := 1) rfl)
theorem w_2 {Z : State} {a0 : Array Value} (hw : ∀ d ∈ tables_1, d.before a0 Z = true) : (Jvm.Cond.initialized "com/example/kleinmaschine/kleinmaschine/Statements").before a0 Z = true := hw _ (List.mem_of_getElem? (i := 2) rfl)
theorem d_prog_52_method_1_0 : decode prog_52_method_1_code 0 = .ok (.aload_n 0, 1) := by decide +kernel
theorem d_prog_52_method_1_1 : decode prog_52_method_1_code 1 = .ok (.invokespecial 3, 3) := by decide +kernel
theorem w_6 {Z : State} {a0 : Array Value} (hw : ∀ d ∈ tables_1, d.before a0 Z = true) : (Jvm.Cond.methodLink "com/example/kleinmaschine/kleinmaschine/Statements" (3 : Nat) ({ cls := "java/lang/Object", name := "<init>", desc := "()V" } : Jvm.MethodName)).before a0 Z = true := hw _ (List.mem_of_getElem? (i := 6) rfl)
theorem w_7 {Z : State} {a0 : Array Value} (hw : ∀ d ∈ tables_1, d.before a0 Z = true) : (Jvm.Cond.instanceMethod ({ cls := "java/lang/Object", name := "<init>", desc := "()V" } : Jvm.MethodName)).before a0 Z = true := hw _ (List.mem_of_getElem? (i := 7) rfl)
theorem w_8 {Z : State} {a0 : Array Value} (hw : ∀ d ∈ tables_1, d.before a0 Z = true) : (Jvm.Cond.code ({ cls := "java/lang/Object", name := "<init>", desc := "()V" } : Jvm.MethodName) object_method_1_code (1 : Nat) (Option.none : Option Jvm.ClassFile.FieldType)).before a0 Z = true := hw _ (List.mem_of_getElem? (i := 8) rfl)
theorem d_prog_52_method_1_4 : decode prog_52_method_1_code 4 = .ok (.aload_n 0, 1) := by decide +kernel
theorem d_prog_52_method_1_5 : decode prog_52_method_1_code 5 = .ok (.bipush 16, 2) := by decide +kernel
theorem d_prog_52_method_1_7 : decode prog_52_method_1_code 7 = .ok (.anewarray 9, 3) := by decide +kernel
theorem w_10 {Z : State} {a0 : Array Value} (hw : ∀ d ∈ tables_1, d.before a0 Z = true) : (Jvm.Cond.arrayOver (Jvm.ClassFile.FieldType.array Jvm.ClassFile.FieldType.int)).before a0 Z = true := hw _ (List.mem_of_getElem? (i := 10) rfl)
theorem w_9 {Z : State} {a0 : Array Value} (hw : ∀ d ∈ tables_1, d.before a0 Z = true) : (Jvm.Cond.classLink "com/example/kleinmaschine/kleinmaschine/Statements" (9 : Nat) "[I").before a0 Z = true := hw _ (List.mem_of_getElem? (i := 9) rfl)
theorem d_prog_52_method_1_10 : decode prog_52_method_1_code 10 = .ok (.putfield 11, 3) := by decide +kernel
theorem w_11 {Z : State} {a0 : Array Value} (hw : ∀ d ∈ tables_1, d.before a0 Z = true) : (Jvm.Cond.fieldLink "com/example/kleinmaschine/kleinmaschine/Statements" (11 : Nat) "com/example/kleinmaschine/kleinmaschine/Statements" "headPages" "[[I").before a0 Z = true := hw _ (List.mem_of_getElem? (i := 11) rfl)
theorem d_prog_52_method_1_13 : decode prog_52_method_1_code 13 = .ok (.aload_n 0, 1) := by decide +kernel
theorem d_prog_52_method_1_14 : decode prog_52_method_1_code 14 = .ok (.bipush 16, 2) := by decide +kernel
theorem d_prog_52_method_1_16 : decode prog_52_method_1_code 16 = .ok (.anewarray 9, 3) := by decide +kernel
theorem d_prog_52_method_1_19 : decode prog_52_method_1_code 19 = .ok (.putfield 15, 3) := by decide +kernel
theorem w_13 {Z : State} {a0 : Array Value} (hw : ∀ d ∈ tables_1, d.before a0 Z = true) : (Jvm.Cond.fieldLink "com/example/kleinmaschine/kleinmaschine/Statements" (15 : Nat) "com/example/kleinmaschine/kleinmaschine/Statements" "upperPages" "[[I").before a0 Z = true := hw _ (List.mem_of_getElem? (i := 13) rfl)
theorem d_prog_52_method_1_22 : decode prog_52_method_1_code 22 = .ok (.aload_n 0, 1) := by decide +kernel
theorem d_prog_52_method_1_23 : decode prog_52_method_1_code 23 = .ok (.bipush 16, 2) := by decide +kernel
theorem d_prog_52_method_1_25 : decode prog_52_method_1_code 25 = .ok (.anewarray 9, 3) := by decide +kernel
theorem d_prog_52_method_1_28 : decode prog_52_method_1_code 28 = .ok (.putfield 18, 3) := by decide +kernel
theorem w_15 {Z : State} {a0 : Array Value} (hw : ∀ d ∈ tables_1, d.before a0 Z = true) : (Jvm.Cond.fieldLink "com/example/kleinmaschine/kleinmaschine/Statements" (18 : Nat) "com/example/kleinmaschine/kleinmaschine/Statements" "lowerPages" "[[I").before a0 Z = true := hw _ (List.mem_of_getElem? (i := 15) rfl)
theorem d_prog_52_method_1_31 : decode prog_52_method_1_code 31 = .ok (.aload_n 0, 1) := by decide +kernel
theorem d_prog_52_method_1_32 : decode prog_52_method_1_code 32 = .ok (.new 21, 3) := by decide +kernel
theorem w_54 {Z : State} {a0 : Array Value} (hw : ∀ d ∈ tables_1, d.before a0 Z = true) : (Jvm.Cond.laysFinal "com/example/kleinmaschine/kleinmaschine/PagedBytes" "com/example/kleinmaschine/kleinmaschine/PagedBytes" "pages" "Ljava/util/List;").before a0 Z = true := hw _ (List.mem_of_getElem? (i := 54) rfl)
theorem w_57 {Z : State} {a0 : Array Value} (hw : ∀ d ∈ tables_1, d.before a0 Z = true) : (Jvm.Cond.lays "com/example/kleinmaschine/kleinmaschine/PagedBytes" "com/example/kleinmaschine/kleinmaschine/PagedBytes" "lastUsed" "I").before a0 Z = true := hw _ (List.mem_of_getElem? (i := 57) rfl)
theorem w_113 {Z : State} {a0 : Array Value} (hw : ∀ d ∈ tables_1, d.before a0 Z = true) : (Jvm.Cond.lays "com/example/kleinmaschine/kleinmaschine/PagedBytes" "com/example/kleinmaschine/kleinmaschine/PagedBytes" "size" "J").before a0 Z = true := hw _ (List.mem_of_getElem? (i := 113) rfl)
theorem w_148 {Z : State} {a0 : Array Value} (hw : ∀ d ∈ tables_1, d.before a0 Z = true) : (Jvm.Cond.lays "com/example/kleinmaschine/kleinmaschine/PagedBytes" "com/example/kleinmaschine/kleinmaschine/PagedBytes" "last" "[B").before a0 Z = true := hw _ (List.mem_of_getElem? (i := 148) rfl)
theorem lay_PagedBytes {Z : State} {a0 : Array Value} (hw : ∀ d ∈ tables_1, d.before a0 Z = true) : LayOk Z a0 "com/example/kleinmaschine/kleinmaschine/PagedBytes" [("com/example/kleinmaschine/kleinmaschine/PagedBytes", "pages", "Ljava/util/List;"), ("com/example/kleinmaschine/kleinmaschine/PagedBytes", "lastUsed", "I"), ("com/example/kleinmaschine/kleinmaschine/PagedBytes", "size", "J"), ("com/example/kleinmaschine/kleinmaschine/PagedBytes", "last", "[B")] := ⟨allC ⟨(Or.inr (w_54 hw)), ⟨(.object "java/util/List"), by decide +kernel⟩⟩ (allC ⟨(Or.inl (w_57 hw)), ⟨.int, by decide +kernel⟩⟩ (allC ⟨(Or.inl (w_113 hw)), ⟨.long, by decide +kernel⟩⟩ (allC ⟨(Or.inl (w_148 hw)), ⟨(.array .byte), by decide +kernel⟩⟩ (allN)))), by decide +kernel⟩
theorem new_lay_PagedBytes {Z : State} {a0 : Array Value} {h : Heap} {b : Addr} (hw : ∀ d ∈ tables_1, d.before a0 Z = true) (A : Exa Z h b "com/example/kleinmaschine/kleinmaschine/PagedBytes") (D : ∀ {O nm d : String} {ty : FieldType}, Laid Z a0 "com/example/kleinmaschine/kleinmaschine/PagedBytes" O nm d → parseFieldDescriptor d = some ty → Fld Z h b O nm d (defaultValue ty)) : Ob Z h b "com/example/kleinmaschine/kleinmaschine/PagedBytes" [("com/example/kleinmaschine/kleinmaschine/PagedBytes", "pages", "Ljava/util/List;", .null), ("com/example/kleinmaschine/kleinmaschine/PagedBytes", "lastUsed", "I", (.int 0)), ("com/example/kleinmaschine/kleinmaschine/PagedBytes", "size", "J", (.long 0)), ("com/example/kleinmaschine/kleinmaschine/PagedBytes", "last", "[B", .null)] := ⟨A, allC (D (Or.inr (w_54 hw)) (ty := (.object "java/util/List")) (by decide +kernel)) (allC (D (Or.inl (w_57 hw)) (ty := .int) (by decide +kernel)) (allC (D (Or.inl (w_113 hw)) (ty := .long) (by decide +kernel)) (allC (D (Or.inl (w_148 hw)) (ty := (.array .byte)) (by decide +kernel)) (allN))))⟩
theorem w_17 {Z : State} {a0 : Array Value} (hw : ∀ d ∈ tables_1, d.before a0 Z = true) : (Jvm.Cond.classLink "com/example/kleinmaschine/kleinmaschine/Statements" (21 : Nat) "com/example/kleinmaschine/kleinmaschine/PagedBytes").before a0 Z = true := hw _ (List.mem_of_getElem? (i := 17) rfl)
theorem w_18 {Z : State} {a0 : Array Value} (hw : ∀ d ∈ tables_1, d.before a0 Z = true) : (Jvm.Cond.instantiable "com/example/kleinmaschine/kleinmaschine/PagedBytes" (4 : Nat)).before a0 Z = true := hw _ (List.mem_of_getElem? (i := 18) rfl)
theorem w_19 {Z : State} {a0 : Array Value} (hw : ∀ d ∈ tables_1, d.before a0 Z = true) : (Jvm.Cond.initialized "com/example/kleinmaschine/kleinmaschine/PagedBytes").before a0 Z = true := hw _ (List.mem_of_getElem? (i := 19) rfl)
theorem d_prog_52_method_1_35 : decode prog_52_method_1_code 35 = .ok (.dup, 1) := by decide +kernel
theorem d_prog_52_method_1_36 : decode prog_52_method_1_code 36 = .ok (.invokespecial 23, 3) := by decide +kernel
theorem d_prog_33_method_1_0 : decode prog_33_method_1_code 0 = .ok (.aload_n 0, 1) := by decide +kernel
theorem d_prog_33_method_1_1 : decode prog_33_method_1_code 1 = .ok (.invokespecial 3, 3) := by decide +kernel
theorem d_jdk_2038_method_1_0 : decode jdk_2038_method_1_code 0 = .ok (.aload_n 0, 1) := by decide +kernel
theorem d_jdk_2038_method_1_1 : decode jdk_2038_method_1_code 1 = .ok (.invokespecial 1, 3) := by decide +kernel
theorem w_28 {Z : State} {a0 : Array Value} (hw : ∀ d ∈ tables_1, d.before a0 Z = true) : (Jvm.Cond.methodLink "java/io/OutputStream" (1 : Nat) ({ cls := "java/lang/Object", name := "<init>", desc := "()V" } : Jvm.MethodName)).before a0 Z = true := hw _ (List.mem_of_getElem? (i := 28) rfl)
theorem d_jdk_2038_method_1_4 : decode jdk_2038_method_1_code 4 = .ok (.return_, 1) := by decide +kernel
theorem pn_OutputStream : plainName "java/io/OutputStream" = true := by first | (simp [plainName, overriddenIn]; done) | decide +kernel
theorem ef_R_1 (m : MethodId) (x0 : Addr) : entryFrame m #[(.ref x0)] 1 = mkF m 0 #[.val (.ref x0)] [] := by first | (simp [entryFrame, mkF, argsToLocals, Value.category]; done) | rfl
def Q_OutputStream__init__1 (Z : State) (a1 : Addr) (h0 : Heap) (n0 : Nat) (v : Option Value) (h : Heap) (L : List Loc) : Prop := v = none ∧ Fr n0 L ∧ h = h0
set_option maxRecDepth 65536 in
set_option maxHeartbeats 40000000 in
theorem rm_OutputStream__init__1 (l : Launch) (Z : State) (a0 : Array Value) (hw : ∀ d ∈ tables_1, d.before a0 Z = true) (ws : List Jvm.Cond) (a1 : Addr) (h0 : Heap) (n0 : Nat) (O0 : Old Z n0 h0) :
    MetFree l (⟨"java/io/OutputStream", "<init>", "()V"⟩ : MethodName) (head1 (Jvm.Cond.code (⟨"java/io/OutputStream", "<init>", "()V"⟩ : MethodName) jdk_2038_method_1_code 1 none :: ws) ({ frames := 1, cells := 0, slots := 0, locals := 12 } : Room)) (fun a U => a = #[(.ref a1)] ∧ Z.Warmed39 U.vm ∧ U.heap = h0) (fun _ _ _ _ _ => True) (fun _ U o U' => ∃ v L, o = .returned v ∧ Q_OutputStream__init__1 Z a1 h0 n0 v U'.heap L ∧ FrameEnd U o U' L ({ frames := 1, cells := 0, slots := 0, locals := 12 } : Room).cells ({ frames := 1, cells := 0, slots := 0, locals := 12 } : Room).slots) := by
  refine MetFree.of_bodySF (plainFor_of_name pn_OutputStream) hisR ?_
  intro p e s m args below meth c s₁ Bd hml0 hP hK
  obtain ⟨rfl, hZ, hh⟩ := hP
  have hx := Bd.exec
  have hby := Bd.bytes
  have hml : c.maxLocals = 1 := hml0
  have hown : s.vm.findClass "java/io/OutputStream" = some m.cls := findClass_of_methodNamed Bd.named
  have hnm := (name_of_methodNamed Bd.named Bd.method).1
  have X0 : Stand p l e ({ frames := 1, cells := 0, slots := 0, locals := 12 } : Room) s m #[(.ref a1)] below meth c s₁ [] 0 0 := Stand.of_body Bd
  have e0 : s₁.heap = h0 := by rw [← hh, Bd.state]; rfl
  have N0 := Fr.nil n0
  obtain ⟨G0, hG0⟩ : ∃ z, z = (mkF m 0 #[.val (.ref a1)] []) := ⟨_, rfl⟩
  have pre0 : ∀ t, Steps p.tables e below (s₁.setTop G0) t → Steps p.tables e below (s₁.setTop (entryFrame m #[(.ref a1)] 1)) t := fun t k => castTop (ef_R_1 m a1) (hG0 ▸ k)
  have k : Goes p e below s₁ G0 s₁ (mkF m 0 #[.val (.ref a1)] []) := fun t q => hG0 ▸ q
  replace k := Fw.aloadN k X0 hx (hb hby d_jdk_2038_method_1_0) rfl rfl (pc' := 1) rfl
  obtain ⟨T1, X1, e1, st1⟩ := initO X0 hx hZ hown (w_28 hw) (w_7 hw) (w_8 hw) e0 (g := (mkF m 1 #[.val (.ref a1)] [(.ref a1)])) rfl (by rw [hml]; rfl) rfl (hb hby d_jdk_2038_method_1_1) (by decide) (W := 0) (by show 2 * 0 + _ ≤ _; exact Nat.le_of_eq rfl) (by decide)
  replace k : Goes p e below s₁ G0 T1 (mkF m 4 #[.val (.ref a1)] []) := fun t q => k t (st1 _ q)
  obtain ⟨fs, hr, hrun, hended, hW, hsame⟩ := X1.leave (v := none) (fun _ => rfl)
  refine ⟨_, _, pre0 _ (k _ ?_), hrun, hended, _, _, rfl, ?_, ⟨_, rfl⟩, hW, hsame.mono (by decide) (by decide)⟩
  · exact X1.returnOut hx Bd.returns (hb hby d_jdk_2038_method_1_4) hr
  · show Q_OutputStream__init__1 Z a1 h0 n0 _ T1.heap _
    rw [e1]
    exact ⟨rfl, N0, rfl⟩
theorem w_23 {Z : State} {a0 : Array Value} (hw : ∀ d ∈ tables_1, d.before a0 Z = true) : (Jvm.Cond.methodLink "com/example/kleinmaschine/kleinmaschine/PagedBytes" (3 : Nat) ({ cls := "java/io/OutputStream", name := "<init>", desc := "()V" } : Jvm.MethodName)).before a0 Z = true := hw _ (List.mem_of_getElem? (i := 23) rfl)
theorem w_27 {Z : State} {a0 : Array Value} (hw : ∀ d ∈ tables_1, d.before a0 Z = true) : (Jvm.Cond.code ({ cls := "java/io/OutputStream", name := "<init>", desc := "()V" } : Jvm.MethodName) jdk_2038_method_1_code (1 : Nat) (Option.none : Option Jvm.ClassFile.FieldType)).before a0 Z = true := hw _ (List.mem_of_getElem? (i := 27) rfl)
theorem w_26 {Z : State} {a0 : Array Value} (hw : ∀ d ∈ tables_1, d.before a0 Z = true) : (Jvm.Cond.initialized "java/io/OutputStream").before a0 Z = true := hw _ (List.mem_of_getElem? (i := 26) rfl)
theorem pd__r_V : parseMethodDescriptor "()V" = some ⟨[], none⟩ := by decide +kernel
theorem w_24 {Z : State} {a0 : Array Value} (hw : ∀ d ∈ tables_1, d.before a0 Z = true) : (Jvm.Cond.instanceMethod ({ cls := "java/io/OutputStream", name := "<init>", desc := "()V" } : Jvm.MethodName)).before a0 Z = true := hw _ (List.mem_of_getElem? (i := 24) rfl)
theorem d_prog_33_method_1_4 : decode prog_33_method_1_code 4 = .ok (.aload_n 0, 1) := by decide +kernel
theorem d_prog_33_method_1_5 : decode prog_33_method_1_code 5 = .ok (.new 9, 3) := by decide +kernel
theorem w_49 {Z : State} {a0 : Array Value} (hw : ∀ d ∈ tables_1, d.before a0 Z = true) : (Jvm.Cond.lays "java/util/ArrayList" "java/util/AbstractList" "modCount" "I").before a0 Z = true := hw _ (List.mem_of_getElem? (i := 49) rfl)
theorem w_52 {Z : State} {a0 : Array Value} (hw : ∀ d ∈ tables_1, d.before a0 Z = true) : (Jvm.Cond.lays "java/util/ArrayList" "java/util/ArrayList" "elementData" "[Ljava/lang/Object;").before a0 Z = true := hw _ (List.mem_of_getElem? (i := 52) rfl)
theorem w_161 {Z : State} {a0 : Array Value} (hw : ∀ d ∈ tables_1, d.before a0 Z = true) : (Jvm.Cond.lays "java/util/ArrayList" "java/util/ArrayList" "size" "I").before a0 Z = true := hw _ (List.mem_of_getElem? (i := 161) rfl)
theorem lay_ArrayList {Z : State} {a0 : Array Value} (hw : ∀ d ∈ tables_1, d.before a0 Z = true) : LayOk Z a0 "java/util/ArrayList" [("java/util/AbstractList", "modCount", "I"), ("java/util/ArrayList", "elementData", "[Ljava/lang/Object;"), ("java/util/ArrayList", "size", "I")] := ⟨allC ⟨(Or.inl (w_49 hw)), ⟨.int, by decide +kernel⟩⟩ (allC ⟨(Or.inl (w_52 hw)), ⟨(.array (.object "java/lang/Object")), by decide +kernel⟩⟩ (allC ⟨(Or.inl (w_161 hw)), ⟨.int, by decide +kernel⟩⟩ (allN))), by decide +kernel⟩
theorem new_lay_ArrayList {Z : State} {a0 : Array Value} {h : Heap} {b : Addr} (hw : ∀ d ∈ tables_1, d.before a0 Z = true) (A : Exa Z h b "java/util/ArrayList") (D : ∀ {O nm d : String} {ty : FieldType}, Laid Z a0 "java/util/ArrayList" O nm d → parseFieldDescriptor d = some ty → Fld Z h b O nm d (defaultValue ty)) : Ob Z h b "java/util/ArrayList" [("java/util/AbstractList", "modCount", "I", (.int 0)), ("java/util/ArrayList", "elementData", "[Ljava/lang/Object;", .null), ("java/util/ArrayList", "size", "I", (.int 0))] := ⟨A, allC (D (Or.inl (w_49 hw)) (ty := .int) (by decide +kernel)) (allC (D (Or.inl (w_52 hw)) (ty := (.array (.object "java/lang/Object"))) (by decide +kernel)) (allC (D (Or.inl (w_161 hw)) (ty := .int) (by decide +kernel)) (allN)))⟩
theorem w_29 {Z : State} {a0 : Array Value} (hw : ∀ d ∈ tables_1, d.before a0 Z = true) : (Jvm.Cond.classLink "com/example/kleinmaschine/kleinmaschine/PagedBytes" (9 : Nat) "java/util/ArrayList").before a0 Z = true := hw _ (List.mem_of_getElem? (i := 29) rfl)
theorem w_30 {Z : State} {a0 : Array Value} (hw : ∀ d ∈ tables_1, d.before a0 Z = true) : (Jvm.Cond.instantiable "java/util/ArrayList" (3 : Nat)).before a0 Z = true := hw _ (List.mem_of_getElem? (i := 30) rfl)
theorem w_31 {Z : State} {a0 : Array Value} (hw : ∀ d ∈ tables_1, d.before a0 Z = true) : (Jvm.Cond.initialized "java/util/ArrayList").before a0 Z = true := hw _ (List.mem_of_getElem? (i := 31) rfl)
theorem d_prog_33_method_1_8 : decode prog_33_method_1_code 8 = .ok (.dup, 1) := by decide +kernel
theorem d_prog_33_method_1_9 : decode prog_33_method_1_code 9 = .ok (.invokespecial 11, 3) := by decide +kernel
theorem d_jdk_38_method_2_0 : decode jdk_38_method_2_code 0 = .ok (.aload_n 0, 1) := by decide +kernel
theorem d_jdk_38_method_2_1 : decode jdk_38_method_2_code 1 = .ok (.invokespecial 1, 3) := by decide +kernel
theorem d_jdk_39_method_1_0 : decode jdk_39_method_1_code 0 = .ok (.aload_n 0, 1) := by decide +kernel
theorem d_jdk_39_method_1_1 : decode jdk_39_method_1_code 1 = .ok (.invokespecial 1, 3) := by decide +kernel
theorem d_jdk_22_method_1_0 : decode jdk_22_method_1_code 0 = .ok (.aload_n 0, 1) := by decide +kernel
theorem d_jdk_22_method_1_1 : decode jdk_22_method_1_code 1 = .ok (.invokespecial 1, 3) := by decide +kernel
theorem w_47 {Z : State} {a0 : Array Value} (hw : ∀ d ∈ tables_1, d.before a0 Z = true) : (Jvm.Cond.methodLink "java/util/AbstractCollection" (1 : Nat) ({ cls := "java/lang/Object", name := "<init>", desc := "()V" } : Jvm.MethodName)).before a0 Z = true := hw _ (List.mem_of_getElem? (i := 47) rfl)
theorem d_jdk_22_method_1_4 : decode jdk_22_method_1_code 4 = .ok (.return_, 1) := by decide +kernel
theorem pn_AbstractCollection : plainName "java/util/AbstractCollection" = true := by first | (simp [plainName, overriddenIn]; done) | decide +kernel
def Q_AbstractCollection__init__1 (Z : State) (a1 : Addr) (h0 : Heap) (n0 : Nat) (v : Option Value) (h : Heap) (L : List Loc) : Prop := v = none ∧ Fr n0 L ∧ h = h0
set_option maxRecDepth 65536 in
set_option maxHeartbeats 40000000 in
theorem rm_AbstractCollection__init__1 (l : Launch) (Z : State) (a0 : Array Value) (hw : ∀ d ∈ tables_1, d.before a0 Z = true) (ws : List Jvm.Cond) (a1 : Addr) (h0 : Heap) (n0 : Nat) (O0 : Old Z n0 h0) :
    MetFree l (⟨"java/util/AbstractCollection", "<init>", "()V"⟩ : MethodName) (head1 (Jvm.Cond.code (⟨"java/util/AbstractCollection", "<init>", "()V"⟩ : MethodName) jdk_22_method_1_code 1 none :: ws) ({ frames := 1, cells := 0, slots := 0, locals := 12 } : Room)) (fun a U => a = #[(.ref a1)] ∧ Z.Warmed39 U.vm ∧ U.heap = h0) (fun _ _ _ _ _ => True) (fun _ U o U' => ∃ v L, o = .returned v ∧ Q_AbstractCollection__init__1 Z a1 h0 n0 v U'.heap L ∧ FrameEnd U o U' L ({ frames := 1, cells := 0, slots := 0, locals := 12 } : Room).cells ({ frames := 1, cells := 0, slots := 0, locals := 12 } : Room).slots) := by
  refine MetFree.of_bodySF (plainFor_of_name pn_AbstractCollection) hisR ?_
  intro p e s m args below meth c s₁ Bd hml0 hP hK
  obtain ⟨rfl, hZ, hh⟩ := hP
  have hx := Bd.exec
  have hby := Bd.bytes
  have hml : c.maxLocals = 1 := hml0
  have hown : s.vm.findClass "java/util/AbstractCollection" = some m.cls := findClass_of_methodNamed Bd.named
  have hnm := (name_of_methodNamed Bd.named Bd.method).1
  have X0 : Stand p l e ({ frames := 1, cells := 0, slots := 0, locals := 12 } : Room) s m #[(.ref a1)] below meth c s₁ [] 0 0 := Stand.of_body Bd
  have e0 : s₁.heap = h0 := by rw [← hh, Bd.state]; rfl
  have N0 := Fr.nil n0
  obtain ⟨G0, hG0⟩ : ∃ z, z = (mkF m 0 #[.val (.ref a1)] []) := ⟨_, rfl⟩
  have pre0 : ∀ t, Steps p.tables e below (s₁.setTop G0) t → Steps p.tables e below (s₁.setTop (entryFrame m #[(.ref a1)] 1)) t := fun t k => castTop (ef_R_1 m a1) (hG0 ▸ k)
  have k : Goes p e below s₁ G0 s₁ (mkF m 0 #[.val (.ref a1)] []) := fun t q => hG0 ▸ q
  replace k := Fw.aloadN k X0 hx (hb hby d_jdk_22_method_1_0) rfl rfl (pc' := 1) rfl
  obtain ⟨T1, X1, e1, st1⟩ := initO X0 hx hZ hown (w_47 hw) (w_7 hw) (w_8 hw) e0 (g := (mkF m 1 #[.val (.ref a1)] [(.ref a1)])) rfl (by rw [hml]; rfl) rfl (hb hby d_jdk_22_method_1_1) (by decide) (W := 0) (by show 2 * 0 + _ ≤ _; exact Nat.le_of_eq rfl) (by decide)
  replace k : Goes p e below s₁ G0 T1 (mkF m 4 #[.val (.ref a1)] []) := fun t q => k t (st1 _ q)
  obtain ⟨fs, hr, hrun, hended, hW, hsame⟩ := X1.leave (v := none) (fun _ => rfl)
  refine ⟨_, _, pre0 _ (k _ ?_), hrun, hended, _, _, rfl, ?_, ⟨_, rfl⟩, hW, hsame.mono (by decide) (by decide)⟩
  · exact X1.returnOut hx Bd.returns (hb hby d_jdk_22_method_1_4) hr
  · show Q_AbstractCollection__init__1 Z a1 h0 n0 _ T1.heap _
    rw [e1]
    exact ⟨rfl, N0, rfl⟩
theorem w_41 {Z : State} {a0 : Array Value} (hw : ∀ d ∈ tables_1, d.before a0 Z = true) : (Jvm.Cond.methodLink "java/util/AbstractList" (1 : Nat) ({ cls := "java/util/AbstractCollection", name := "<init>", desc := "()V" } : Jvm.MethodName)).before a0 Z = true := hw _ (List.mem_of_getElem? (i := 41) rfl)
theorem w_46 {Z : State} {a0 : Array Value} (hw : ∀ d ∈ tables_1, d.before a0 Z = true) : (Jvm.Cond.code ({ cls := "java/util/AbstractCollection", name := "<init>", desc := "()V" } : Jvm.MethodName) jdk_22_method_1_code (1 : Nat) (Option.none : Option Jvm.ClassFile.FieldType)).before a0 Z = true := hw _ (List.mem_of_getElem? (i := 46) rfl)
theorem w_45 {Z : State} {a0 : Array Value} (hw : ∀ d ∈ tables_1, d.before a0 Z = true) : (Jvm.Cond.initialized "java/util/AbstractCollection").before a0 Z = true := hw _ (List.mem_of_getElem? (i := 45) rfl)
theorem w_42 {Z : State} {a0 : Array Value} (hw : ∀ d ∈ tables_1, d.before a0 Z = true) : (Jvm.Cond.instanceMethod ({ cls := "java/util/AbstractCollection", name := "<init>", desc := "()V" } : Jvm.MethodName)).before a0 Z = true := hw _ (List.mem_of_getElem? (i := 42) rfl)
theorem d_jdk_39_method_1_4 : decode jdk_39_method_1_code 4 = .ok (.aload_n 0, 1) := by decide +kernel
theorem d_jdk_39_method_1_5 : decode jdk_39_method_1_code 5 = .ok (.iconst 0, 1) := by decide +kernel
theorem d_jdk_39_method_1_6 : decode jdk_39_method_1_code 6 = .ok (.putfield 7, 3) := by decide +kernel
theorem w_48 {Z : State} {a0 : Array Value} (hw : ∀ d ∈ tables_1, d.before a0 Z = true) : (Jvm.Cond.fieldLink "java/util/AbstractList" (7 : Nat) "java/util/AbstractList" "modCount" "I").before a0 Z = true := hw _ (List.mem_of_getElem? (i := 48) rfl)
theorem d_jdk_39_method_1_9 : decode jdk_39_method_1_code 9 = .ok (.return_, 1) := by decide +kernel
theorem pn_AbstractList : plainName "java/util/AbstractList" = true := by first | (simp [plainName, overriddenIn]; done) | decide +kernel
def Q_AbstractList__init__1 (Z : State) (a1 : Addr) (h0 : Heap) (n0 : Nat) (v : Option Value) (h : Heap) (L : List Loc) : Prop := v = none ∧ Fr n0 L ∧ Keep h0 h [a1] ∧ Ob Z h a1 "java/util/ArrayList" [("java/util/AbstractList", "modCount", "I", (.int 0)), ("java/util/ArrayList", "elementData", "[Ljava/lang/Object;", .null), ("java/util/ArrayList", "size", "I", (.int 0))]
set_option maxRecDepth 65536 in
set_option maxHeartbeats 40000000 in
theorem rm_AbstractList__init__1 (l : Launch) (Z : State) (a0 : Array Value) (hw : ∀ d ∈ tables_1, d.before a0 Z = true) (ws : List Jvm.Cond) (a1 : Addr) (h0 : Heap) (n0 : Nat) (O0 : Old Z n0 h0) (pr1 : Ob Z h0 a1 "java/util/ArrayList" [("java/util/AbstractList", "modCount", "I", (.int 0)), ("java/util/ArrayList", "elementData", "[Ljava/lang/Object;", .null), ("java/util/ArrayList", "size", "I", (.int 0))]) (pr2 : n0 ≤ a1) :
    MetFree l (⟨"java/util/AbstractList", "<init>", "()V"⟩ : MethodName) (head1 (Jvm.Cond.code (⟨"java/util/AbstractList", "<init>", "()V"⟩ : MethodName) jdk_39_method_1_code 1 none :: ws) ({ frames := 2, cells := 0, slots := 0, locals := 24 } : Room)) (fun a U => a = #[(.ref a1)] ∧ Z.Warmed39 U.vm ∧ U.heap = h0) (fun _ _ _ _ _ => True) (fun _ U o U' => ∃ v L, o = .returned v ∧ Q_AbstractList__init__1 Z a1 h0 n0 v U'.heap L ∧ FrameEnd U o U' L ({ frames := 2, cells := 0, slots := 0, locals := 24 } : Room).cells ({ frames := 2, cells := 0, slots := 0, locals := 24 } : Room).slots) := by
  refine MetFree.of_bodySF (plainFor_of_name pn_AbstractList) hisR ?_
  intro p e s m args below meth c s₁ Bd hml0 hP hK
  obtain ⟨rfl, hZ, hh⟩ := hP
  have hx := Bd.exec
  have hby := Bd.bytes
  have hml : c.maxLocals = 1 := hml0
  have hown : s.vm.findClass "java/util/AbstractList" = some m.cls := findClass_of_methodNamed Bd.named
  have hnm := (name_of_methodNamed Bd.named Bd.method).1
  have X0 : Stand p l e ({ frames := 2, cells := 0, slots := 0, locals := 24 } : Room) s m #[(.ref a1)] below meth c s₁ [] 0 0 := Stand.of_body Bd
  have e0 : s₁.heap = h0 := by rw [← hh, Bd.state]; rfl
  have N0 := Fr.nil n0
  obtain ⟨G0, hG0⟩ : ∃ z, z = (mkF m 0 #[.val (.ref a1)] []) := ⟨_, rfl⟩
  have pre0 : ∀ t, Steps p.tables e below (s₁.setTop G0) t → Steps p.tables e below (s₁.setTop (entryFrame m #[(.ref a1)] 1)) t := fun t k => castTop (ef_R_1 m a1) (hG0 ▸ k)
  have k : Goes p e below s₁ G0 s₁ (mkF m 0 #[.val (.ref a1)] []) := fun t q => hG0 ▸ q
  replace k := Fw.aloadN k X0 hx (hb hby d_jdk_39_method_1_0) rfl rfl (pc' := 1) rfl
  obtain ⟨_, _, ⟨T1, L1, kz1, nz1⟩, -, X1, ⟨Lc1, hQ1, l1, y1, z1⟩, st1⟩ := X0.specialBack hx (y := (⟨"java/util/AbstractCollection", "<init>", "()V"⟩ : MethodName)) rfl hown (mvT hZ (w_41 hw)) (mvT hZ (w_42 hw)) (mvT hZ (w_46 hw)) (by decide) (backOf (W := 0) (rm_AbstractCollection__init__1 l Z a0 hw [] a1 h0 n0 O0 ) hZ (w_46 hw) (w_45 hw) (by decide) (by decide)) (g := (mkF m 1 #[.val (.ref a1)] [(.ref a1)])) rfl (by rw [hml]; rfl) (Steps.refl _) (a := a1) (argsL := []) (rest := []) (lenOf pd__r_V rfl) rfl (by show 2 * 0 + _ ≤ _; exact Nat.le_of_eq rfl) (hb hby d_jdk_39_method_1_1) (fun _ _ => ⟨rfl, e0, (by decide : 0 + 0 ≤ _), (by decide : 0 + 0 ≤ _)⟩)
  dsimp only [Pt.U, Pt.locs, Pt.cells, Pt.slots] at X1 l1 y1 z1 st1 hQ1
  subst l1 y1 z1
  obtain ⟨hv1, N1q, e1⟩ := hQ1
  subst hv1
  have N1 := Fr.app N0 N1q
  replace k : Goes p e below s₁ G0 T1 (mkF m 4 #[.val (.ref a1)] []) := fun t q => k t (st1.trans q)
  replace k := Fw.aloadN k X1 hx (hb hby d_jdk_39_method_1_4) rfl rfl (pc' := 5) rfl
  replace k := Fw.iconst k X1 hx (hb hby d_jdk_39_method_1_5) (z := (0 : Int32)) (by decide) (pc' := 6) rfl
  obtain ⟨T2, h2, X2, e2, W2, st2⟩ := putF X1 hx hZ hown (host := "") (Or.inl (w_48 hw)) Via.refl e1 (Ob.at pr1 0 rfl) pr1.exa (Or.inl (w_49 hw)) (w_30 hw) (ty := .int) (by decide +kernel) rfl rfl (g := (mkF m 6 #[.val (.ref a1)] [(.int 0), (.ref a1)])) rfl rfl (hb hby d_jdk_39_method_1_6)
  have N2 := Fr.snoc X2 N1 pr2
  have O2 : Ob Z h2 a1 "java/util/ArrayList" [("java/util/AbstractList", "modCount", "I", (.int 0)), ("java/util/ArrayList", "elementData", "[Ljava/lang/Object;", .null), ("java/util/ArrayList", "size", "I", (.int 0))] := Ob.put pr1 (lay_ArrayList hw) 0 rfl W2
  replace k : Goes p e below s₁ G0 T2 (mkF m 9 #[.val (.ref a1)] []) := fun t q => k t (st2 _ q)
  obtain ⟨fs, hr, hrun, hended, hW, hsame⟩ := X2.leave (v := none) (fun _ => rfl)
  refine ⟨_, _, pre0 _ (k _ ?_), hrun, hended, _, _, rfl, ?_, ⟨_, rfl⟩, hW, hsame.mono (by decide) (by decide)⟩
  · exact X2.returnOut hx Bd.returns (hb hby d_jdk_39_method_1_9) hr
  · show Q_AbstractList__init__1 Z a1 h0 n0 _ T2.heap _
    rw [e2]
    exact ⟨rfl, N2, ((Keep.refl h0 [a1]).wr W2 (Or.inl (List.mem_of_getElem? (i := 0) rfl))), O2⟩
theorem w_35 {Z : State} {a0 : Array Value} (hw : ∀ d ∈ tables_1, d.before a0 Z = true) : (Jvm.Cond.methodLink "java/util/ArrayList" (1 : Nat) ({ cls := "java/util/AbstractList", name := "<init>", desc := "()V" } : Jvm.MethodName)).before a0 Z = true := hw _ (List.mem_of_getElem? (i := 35) rfl)
theorem w_40 {Z : State} {a0 : Array Value} (hw : ∀ d ∈ tables_1, d.before a0 Z = true) : (Jvm.Cond.code ({ cls := "java/util/AbstractList", name := "<init>", desc := "()V" } : Jvm.MethodName) jdk_39_method_1_code (1 : Nat) (Option.none : Option Jvm.ClassFile.FieldType)).before a0 Z = true := hw _ (List.mem_of_getElem? (i := 40) rfl)
theorem w_39 {Z : State} {a0 : Array Value} (hw : ∀ d ∈ tables_1, d.before a0 Z = true) : (Jvm.Cond.initialized "java/util/AbstractList").before a0 Z = true := hw _ (List.mem_of_getElem? (i := 39) rfl)
theorem w_36 {Z : State} {a0 : Array Value} (hw : ∀ d ∈ tables_1, d.before a0 Z = true) : (Jvm.Cond.instanceMethod ({ cls := "java/util/AbstractList", name := "<init>", desc := "()V" } : Jvm.MethodName)).before a0 Z = true := hw _ (List.mem_of_getElem? (i := 36) rfl)
theorem d_jdk_38_method_2_4 : decode jdk_38_method_2_code 4 = .ok (.aload_n 0, 1) := by decide +kernel
theorem d_jdk_38_method_2_5 : decode jdk_38_method_2_code 5 = .ok (.getstatic 39, 3) := by decide +kernel
theorem w_50 {Z : State} {a0 : Array Value} (hw : ∀ d ∈ tables_1, d.before a0 Z = true) : (Jvm.Cond.fieldLink "java/util/ArrayList" (39 : Nat) "java/util/ArrayList" "DEFAULTCAPACITY_EMPTY_ELEMENTDATA" "[Ljava/lang/Object;").before a0 Z = true := hw _ (List.mem_of_getElem? (i := 50) rfl)
theorem d_jdk_38_method_2_8 : decode jdk_38_method_2_code 8 = .ok (.putfield 9, 3) := by decide +kernel
theorem w_51 {Z : State} {a0 : Array Value} (hw : ∀ d ∈ tables_1, d.before a0 Z = true) : (Jvm.Cond.fieldLink "java/util/ArrayList" (9 : Nat) "java/util/ArrayList" "elementData" "[Ljava/lang/Object;").before a0 Z = true := hw _ (List.mem_of_getElem? (i := 51) rfl)
theorem d_jdk_38_method_2_11 : decode jdk_38_method_2_code 11 = .ok (.return_, 1) := by decide +kernel
theorem pn_ArrayList : plainName "java/util/ArrayList" = true := by first | (simp [plainName, overriddenIn]; done) | decide +kernel
def Q_ArrayList__init__1 (Z : State) (a1 : Addr) (w_DE : Addr) (h0 : Heap) (n0 : Nat) (v : Option Value) (h : Heap) (L : List Loc) : Prop := v = none ∧ Fr n0 L ∧ Keep h0 h [a1] ∧ Ob Z h a1 "java/util/ArrayList" [("java/util/AbstractList", "modCount", "I", (.int 0)), ("java/util/ArrayList", "elementData", "[Ljava/lang/Object;", (.ref w_DE)), ("java/util/ArrayList", "size", "I", (.int 0))]
set_option maxRecDepth 65536 in
set_option maxHeartbeats 40000000 in
theorem rm_ArrayList__init__1 (l : Launch) (Z : State) (a0 : Array Value) (hw : ∀ d ∈ tables_1, d.before a0 Z = true) (ws : List Jvm.Cond) (a1 : Addr) (w_DE : Addr) (h0 : Heap) (n0 : Nat) (O0 : Old Z n0 h0) (pr1 : Ob Z h0 a1 "java/util/ArrayList" [("java/util/AbstractList", "modCount", "I", (.int 0)), ("java/util/ArrayList", "elementData", "[Ljava/lang/Object;", .null), ("java/util/ArrayList", "size", "I", (.int 0))]) (pr2 : n0 ≤ a1) (pr3 : Sta Z Z.heap "java/util/ArrayList" "DEFAULTCAPACITY_EMPTY_ELEMENTDATA" "[Ljava/lang/Object;" (.ref w_DE)) :
    MetFree l (⟨"java/util/ArrayList", "<init>", "()V"⟩ : MethodName) (head1 (Jvm.Cond.code (⟨"java/util/ArrayList", "<init>", "()V"⟩ : MethodName) jdk_38_method_2_code 1 none :: ws) ({ frames := 3, cells := 0, slots := 0, locals := 36 } : Room)) (fun a U => a = #[(.ref a1)] ∧ Z.Warmed39 U.vm ∧ U.heap = h0) (fun _ _ _ _ _ => True) (fun _ U o U' => ∃ v L, o = .returned v ∧ Q_ArrayList__init__1 Z a1 w_DE h0 n0 v U'.heap L ∧ FrameEnd U o U' L ({ frames := 3, cells := 0, slots := 0, locals := 36 } : Room).cells ({ frames := 3, cells := 0, slots := 0, locals := 36 } : Room).slots) := by
  refine MetFree.of_bodySF (plainFor_of_name pn_ArrayList) hisR ?_
  intro p e s m args below meth c s₁ Bd hml0 hP hK
  obtain ⟨rfl, hZ, hh⟩ := hP
  have hx := Bd.exec
  have hby := Bd.bytes
  have hml : c.maxLocals = 1 := hml0
  have hown : s.vm.findClass "java/util/ArrayList" = some m.cls := findClass_of_methodNamed Bd.named
  have hnm := (name_of_methodNamed Bd.named Bd.method).1
  have X0 : Stand p l e ({ frames := 3, cells := 0, slots := 0, locals := 36 } : Room) s m #[(.ref a1)] below meth c s₁ [] 0 0 := Stand.of_body Bd
  have e0 : s₁.heap = h0 := by rw [← hh, Bd.state]; rfl
  have N0 := Fr.nil n0
  obtain ⟨G0, hG0⟩ : ∃ z, z = (mkF m 0 #[.val (.ref a1)] []) := ⟨_, rfl⟩
  have pre0 : ∀ t, Steps p.tables e below (s₁.setTop G0) t → Steps p.tables e below (s₁.setTop (entryFrame m #[(.ref a1)] 1)) t := fun t k => castTop (ef_R_1 m a1) (hG0 ▸ k)
  have k : Goes p e below s₁ G0 s₁ (mkF m 0 #[.val (.ref a1)] []) := fun t q => hG0 ▸ q
  replace k := Fw.aloadN k X0 hx (hb hby d_jdk_38_method_2_0) rfl rfl (pc' := 1) rfl
  obtain ⟨_, _, ⟨T1, L1, kz1, nz1⟩, -, X1, ⟨Lc1, hQ1, l1, y1, z1⟩, st1⟩ := X0.specialBack hx (y := (⟨"java/util/AbstractList", "<init>", "()V"⟩ : MethodName)) rfl hown (mvT hZ (w_35 hw)) (mvT hZ (w_36 hw)) (mvT hZ (w_40 hw)) (by decide) (backOf (W := 0) (rm_AbstractList__init__1 l Z a0 hw [] a1 h0 n0 O0 pr1 pr2) hZ (w_40 hw) (w_39 hw) (by decide) (by decide)) (g := (mkF m 1 #[.val (.ref a1)] [(.ref a1)])) rfl (by rw [hml]; rfl) (Steps.refl _) (a := a1) (argsL := []) (rest := []) (lenOf pd__r_V rfl) rfl (by show 2 * 0 + _ ≤ _; exact Nat.le_of_eq rfl) (hb hby d_jdk_38_method_2_1) (fun _ _ => ⟨rfl, e0, (by decide : 0 + 0 ≤ _), (by decide : 0 + 0 ≤ _)⟩)
  dsimp only [Pt.U, Pt.locs, Pt.cells, Pt.slots] at X1 l1 y1 z1 st1 hQ1
  subst l1 y1 z1
  obtain ⟨hv1, N1q, K1, f1_0⟩ := hQ1
  subst hv1
  have N1 := Fr.app N0 N1q
  replace k : Goes p e below s₁ G0 T1 (mkF m 4 #[.val (.ref a1)] []) := fun t q => k t (st1.trans q)
  replace k := Fw.aloadN k X1 hx (hb hby d_jdk_38_method_2_4) rfl rfl (pc' := 5) rfl
  have fc2 := (O0.keep K1 (allS pr2 all0))
  obtain ⟨T3, X3, e3, st3⟩ := getS2 X1 hx hZ hown (host := "") (Or.inl (w_50 hw)) Via.refl rfl (pr3.ext fc2.2) (g := (mkF m 5 #[.val (.ref a1)] [(.ref a1)])) rfl (hb hby d_jdk_38_method_2_5)
  replace k : Goes p e below s₁ G0 T3 (mkF m 8 #[.val (.ref a1)] [(.ref w_DE), (.ref a1)]) := fun t q => k t (st3 _ q)
  obtain ⟨T4, h4, X4, e4, W4, st4⟩ := putF X3 hx hZ hown (host := "") (Or.inl (w_51 hw)) Via.refl e3 (Ob.at f1_0 1 rfl) f1_0.exa (Or.inl (w_52 hw)) (w_30 hw) (ty := (.array (.object "java/lang/Object"))) (by decide +kernel) rfl rfl (g := (mkF m 8 #[.val (.ref a1)] [(.ref w_DE), (.ref a1)])) rfl rfl (hb hby d_jdk_38_method_2_8)
  have N4 := Fr.snoc X4 N1 pr2
  have O4 : Ob Z h4 a1 "java/util/ArrayList" [("java/util/AbstractList", "modCount", "I", (.int 0)), ("java/util/ArrayList", "elementData", "[Ljava/lang/Object;", (.ref w_DE)), ("java/util/ArrayList", "size", "I", (.int 0))] := Ob.put f1_0 (lay_ArrayList hw) 1 rfl W4
  replace k : Goes p e below s₁ G0 T4 (mkF m 11 #[.val (.ref a1)] []) := fun t q => k t (st4 _ q)
  obtain ⟨fs, hr, hrun, hended, hW, hsame⟩ := X4.leave (v := none) (fun _ => rfl)
  refine ⟨_, _, pre0 _ (k _ ?_), hrun, hended, _, _, rfl, ?_, ⟨_, rfl⟩, hW, hsame.mono (by decide) (by decide)⟩
  · exact X4.returnOut hx Bd.returns (hb hby d_jdk_38_method_2_11) hr
  · show Q_ArrayList__init__1 Z a1 w_DE h0 n0 _ T4.heap _
    rw [e4]
    exact ⟨rfl, N4, (((Keep.refl h0 [a1]).trans K1 (allS (Or.inl (List.mem_of_getElem? (i := 0) rfl)) all0)).wr W4 (Or.inl (List.mem_of_getElem? (i := 0) rfl))), O4⟩
theorem w_32 {Z : State} {a0 : Array Value} (hw : ∀ d ∈ tables_1, d.before a0 Z = true) : (Jvm.Cond.methodLink "com/example/kleinmaschine/kleinmaschine/PagedBytes" (11 : Nat) ({ cls := "java/util/ArrayList", name := "<init>", desc := "()V" } : Jvm.MethodName)).before a0 Z = true := hw _ (List.mem_of_getElem? (i := 32) rfl)
theorem w_34 {Z : State} {a0 : Array Value} (hw : ∀ d ∈ tables_1, d.before a0 Z = true) : (Jvm.Cond.code ({ cls := "java/util/ArrayList", name := "<init>", desc := "()V" } : Jvm.MethodName) jdk_38_method_2_code (1 : Nat) (Option.none : Option Jvm.ClassFile.FieldType)).before a0 Z = true := hw _ (List.mem_of_getElem? (i := 34) rfl)
theorem w_33 {Z : State} {a0 : Array Value} (hw : ∀ d ∈ tables_1, d.before a0 Z = true) : (Jvm.Cond.instanceMethod ({ cls := "java/util/ArrayList", name := "<init>", desc := "()V" } : Jvm.MethodName)).before a0 Z = true := hw _ (List.mem_of_getElem? (i := 33) rfl)
theorem d_prog_33_method_1_12 : decode prog_33_method_1_code 12 = .ok (.putfield 12, 3) := by decide +kernel
theorem w_53 {Z : State} {a0 : Array Value} (hw : ∀ d ∈ tables_1, d.before a0 Z = true) : (Jvm.Cond.fieldLink "com/example/kleinmaschine/kleinmaschine/PagedBytes" (12 : Nat) "com/example/kleinmaschine/kleinmaschine/PagedBytes" "pages" "Ljava/util/List;").before a0 Z = true := hw _ (List.mem_of_getElem? (i := 53) rfl)
theorem d_prog_33_method_1_15 : decode prog_33_method_1_code 15 = .ok (.aload_n 0, 1) := by decide +kernel
theorem d_prog_33_method_1_16 : decode prog_33_method_1_code 16 = .ok (.ldc 16, 2) := by decide +kernel
theorem w_55 {Z : State} {a0 : Array Value} (hw : ∀ d ∈ tables_1, d.before a0 Z = true) : (Jvm.Cond.constant "com/example/kleinmaschine/kleinmaschine/PagedBytes" (16 : Nat) (65536 : Int32)).before a0 Z = true := hw _ (List.mem_of_getElem? (i := 55) rfl)
theorem d_prog_33_method_1_18 : decode prog_33_method_1_code 18 = .ok (.putfield 17, 3) := by decide +kernel
theorem w_56 {Z : State} {a0 : Array Value} (hw : ∀ d ∈ tables_1, d.before a0 Z = true) : (Jvm.Cond.fieldLink "com/example/kleinmaschine/kleinmaschine/PagedBytes" (17 : Nat) "com/example/kleinmaschine/kleinmaschine/PagedBytes" "lastUsed" "I").before a0 Z = true := hw _ (List.mem_of_getElem? (i := 56) rfl)
theorem d_prog_33_method_1_21 : decode prog_33_method_1_code 21 = .ok (.return_, 1) := by decide +kernel
theorem pn_PagedBytes : plainName "com/example/kleinmaschine/kleinmaschine/PagedBytes" = true := by first | (simp [plainName, overriddenIn]; done) | decide +kernel
def Q_PagedBytes__init__1 (Z : State) (a1 : Addr) (w_DE : Addr) (h0 : Heap) (n0 : Nat) (v : Option Value) (h : Heap) (L : List Loc) : Prop := ∃ (b2 : Addr), v = none ∧ Fr n0 L ∧ Keep h0 h [a1] ∧ h0.size ≤ b2 ∧ Ob Z h a1 "com/example/kleinmaschine/kleinmaschine/PagedBytes" [("com/example/kleinmaschine/kleinmaschine/PagedBytes", "pages", "Ljava/util/List;", (.ref b2)), ("com/example/kleinmaschine/kleinmaschine/PagedBytes", "lastUsed", "I", (.int 65536)), ("com/example/kleinmaschine/kleinmaschine/PagedBytes", "size", "J", (.long 0)), ("com/example/kleinmaschine/kleinmaschine/PagedBytes", "last", "[B", .null)] ∧ Ob Z h b2 "java/util/ArrayList" [("java/util/AbstractList", "modCount", "I", (.int 0)), ("java/util/ArrayList", "elementData", "[Ljava/lang/Object;", (.ref w_DE)), ("java/util/ArrayList", "size", "I", (.int 0))]
set_option maxRecDepth 65536 in
set_option maxHeartbeats 40000000 in
theorem rm_PagedBytes__init__1 (l : Launch) (Z : State) (a0 : Array Value) (hw : ∀ d ∈ tables_1, d.before a0 Z = true) (ws : List Jvm.Cond) (a1 : Addr) (w_DE : Addr) (h0 : Heap) (n0 : Nat) (O0 : Old Z n0 h0) (pr1 : Sta Z Z.heap "java/util/ArrayList" "DEFAULTCAPACITY_EMPTY_ELEMENTDATA" "[Ljava/lang/Object;" (.ref w_DE)) (pr2 : Ob Z h0 a1 "com/example/kleinmaschine/kleinmaschine/PagedBytes" [("com/example/kleinmaschine/kleinmaschine/PagedBytes", "pages", "Ljava/util/List;", .null), ("com/example/kleinmaschine/kleinmaschine/PagedBytes", "lastUsed", "I", (.int 0)), ("com/example/kleinmaschine/kleinmaschine/PagedBytes", "size", "J", (.long 0)), ("com/example/kleinmaschine/kleinmaschine/PagedBytes", "last", "[B", .null)]) (pr3 : n0 ≤ a1) :
    MetFree l (⟨"com/example/kleinmaschine/kleinmaschine/PagedBytes", "<init>", "()V"⟩ : MethodName) (head1 (Jvm.Cond.code (⟨"com/example/kleinmaschine/kleinmaschine/PagedBytes", "<init>", "()V"⟩ : MethodName) prog_33_method_1_code 1 none :: ws) ({ frames := 4, cells := 1, slots := 3, locals := 50 } : Room)) (fun a U => a = #[(.ref a1)] ∧ Z.Warmed39 U.vm ∧ U.heap = h0) (fun _ _ _ _ _ => True) (fun _ U o U' => ∃ v L, o = .returned v ∧ Q_PagedBytes__init__1 Z a1 w_DE h0 n0 v U'.heap L ∧ FrameEnd U o U' L ({ frames := 4, cells := 1, slots := 3, locals := 50 } : Room).cells ({ frames := 4, cells := 1, slots := 3, locals := 50 } : Room).slots) := by
  refine MetFree.of_bodySF (plainFor_of_name pn_PagedBytes) hisR ?_
  intro p e s m args below meth c s₁ Bd hml0 hP hK
  obtain ⟨rfl, hZ, hh⟩ := hP
  have hx := Bd.exec
  have hby := Bd.bytes
  have hml : c.maxLocals = 1 := hml0
  have hown : s.vm.findClass "com/example/kleinmaschine/kleinmaschine/PagedBytes" = some m.cls := findClass_of_methodNamed Bd.named
  have hnm := (name_of_methodNamed Bd.named Bd.method).1
  have X0 : Stand p l e ({ frames := 4, cells := 1, slots := 3, locals := 50 } : Room) s m #[(.ref a1)] below meth c s₁ [] 0 0 := Stand.of_body Bd
  have e0 : s₁.heap = h0 := by rw [← hh, Bd.state]; rfl
  have N0 := Fr.nil n0
  obtain ⟨G0, hG0⟩ : ∃ z, z = (mkF m 0 #[.val (.ref a1)] []) := ⟨_, rfl⟩
  have pre0 : ∀ t, Steps p.tables e below (s₁.setTop G0) t → Steps p.tables e below (s₁.setTop (entryFrame m #[(.ref a1)] 1)) t := fun t k => castTop (ef_R_1 m a1) (hG0 ▸ k)
  have k : Goes p e below s₁ G0 s₁ (mkF m 0 #[.val (.ref a1)] []) := fun t q => hG0 ▸ q
  replace k := Fw.aloadN k X0 hx (hb hby d_prog_33_method_1_0) rfl rfl (pc' := 1) rfl
  obtain ⟨_, _, ⟨T1, L1, kz1, nz1⟩, -, X1, ⟨Lc1, hQ1, l1, y1, z1⟩, st1⟩ := X0.specialBack hx (y := (⟨"java/io/OutputStream", "<init>", "()V"⟩ : MethodName)) rfl hown (mvT hZ (w_23 hw)) (mvT hZ (w_24 hw)) (mvT hZ (w_27 hw)) (by decide) (backOf (W := 0) (rm_OutputStream__init__1 l Z a0 hw [] a1 h0 n0 O0 ) hZ (w_27 hw) (w_26 hw) (by decide) (by decide)) (g := (mkF m 1 #[.val (.ref a1)] [(.ref a1)])) rfl (by rw [hml]; rfl) (Steps.refl _) (a := a1) (argsL := []) (rest := []) (lenOf pd__r_V rfl) rfl (by show 2 * 0 + _ ≤ _; exact Nat.le_of_eq rfl) (hb hby d_prog_33_method_1_1) (fun _ _ => ⟨rfl, e0, (by decide : 0 + 0 ≤ _), (by decide : 0 + 0 ≤ _)⟩)
  dsimp only [Pt.U, Pt.locs, Pt.cells, Pt.slots] at X1 l1 y1 z1 st1 hQ1
  subst l1 y1 z1
  obtain ⟨hv1, N1q, e1⟩ := hQ1
  subst hv1
  have N1 := Fr.app N0 N1q
  replace k : Goes p e below s₁ G0 T1 (mkF m 4 #[.val (.ref a1)] []) := fun t q => k t (st1.trans q)
  replace k := Fw.aloadN k X1 hx (hb hby d_prog_33_method_1_4) rfl rfl (pc' := 5) rfl
  obtain ⟨T2, h2, X2, e2, E2, A2, D2, -, st2⟩ := newO X1 hx hZ hown (w_29 hw) (w_30 hw) (w_31 hw) e1 (g := (mkF m 5 #[.val (.ref a1)] [(.ref a1)])) rfl (hb hby d_prog_33_method_1_5) (by decide) (by decide)
  obtain ⟨b2, g2⟩ : ∃ z, z = h0.size := ⟨_, rfl⟩
  rw [← g2] at A2 D2 st2
  have gz_b2 : h0.size ≤ b2 := Nat.le_trans (Nat.le_refl h0.size) (Nat.le_of_eq g2.symm)
  have O2 := new_lay_ArrayList hw A2 @D2
  replace k : Goes p e below s₁ G0 T2 (mkF m 8 #[.val (.ref a1)] [(.ref b2), (.ref a1)]) := fun t q => k t (st2 _ q)
  replace k := Fw.dup k X2 hx (hb hby d_prog_33_method_1_8) rfl (pc' := 9) rfl
  have fc4 := (O0.ext E2)
  obtain ⟨_, _, ⟨T3, L3, kz3, nz3⟩, -, X3, ⟨Lc3, hQ3, l3, y3, z3⟩, st3⟩ := X2.specialBack hx (y := (⟨"java/util/ArrayList", "<init>", "()V"⟩ : MethodName)) rfl hown (mvT hZ (w_32 hw)) (mvT hZ (w_33 hw)) (mvT hZ (w_34 hw)) (by decide) (backOf (W := 2) (rm_ArrayList__init__1 l Z a0 hw [] b2 w_DE h2 n0 fc4 O2 (Nat.le_trans (old_le O0) gz_b2) pr1) hZ (w_34 hw) (w_31 hw) (by decide) (by decide)) (g := (mkF m 9 #[.val (.ref a1)] [(.ref b2), (.ref b2), (.ref a1)])) rfl (by rw [hml]; rfl) (Steps.refl _) (a := b2) (argsL := []) (rest := [(.ref b2), (.ref a1)]) (lenOf pd__r_V rfl) rfl (by show 2 * 0 + _ ≤ _; exact Nat.le_of_eq rfl) (hb hby d_prog_33_method_1_9) (fun _ _ => ⟨rfl, e2, (by decide : 1 + 0 ≤ _), (by decide : 3 + 0 ≤ _)⟩)
  dsimp only [Pt.U, Pt.locs, Pt.cells, Pt.slots] at X3 l3 y3 z3 st3 hQ3
  subst l3 y3 z3
  obtain ⟨hv3, N3q, K3, f3_0⟩ := hQ3
  subst hv3
  have N3 := Fr.app N1 N3q
  replace k : Goes p e below s₁ G0 T3 (mkF m 12 #[.val (.ref a1)] [(.ref b2), (.ref a1)]) := fun t q => k t (st3.trans q)
  have fc5 := ((pr2.ext E2).keep K3 (ninS (Nat.ne_of_lt (Nat.lt_of_lt_of_le pr2.lt gz_b2)) nin0))
  obtain ⟨T6, h6, X6, e6, W6, st6⟩ := putF X3 hx hZ hown (host := "") (Or.inl (w_53 hw)) Via.refl rfl (Ob.at fc5 0 rfl) fc5.exa (Or.inr ⟨(w_54 hw), rfl, hnm⟩) (w_18 hw) (ty := (.object "java/util/List")) (by decide +kernel) rfl rfl (g := (mkF m 12 #[.val (.ref a1)] [(.ref b2), (.ref a1)])) rfl rfl (hb hby d_prog_33_method_1_12)
  have N6 := Fr.snoc X6 N3 pr3
  have O6 : Ob Z h6 a1 "com/example/kleinmaschine/kleinmaschine/PagedBytes" [("com/example/kleinmaschine/kleinmaschine/PagedBytes", "pages", "Ljava/util/List;", (.ref b2)), ("com/example/kleinmaschine/kleinmaschine/PagedBytes", "lastUsed", "I", (.int 0)), ("com/example/kleinmaschine/kleinmaschine/PagedBytes", "size", "J", (.long 0)), ("com/example/kleinmaschine/kleinmaschine/PagedBytes", "last", "[B", .null)] := Ob.put fc5 (lay_PagedBytes hw) 0 rfl W6
  replace k : Goes p e below s₁ G0 T6 (mkF m 15 #[.val (.ref a1)] []) := fun t q => k t (st6 _ q)
  replace k := Fw.aloadN k X6 hx (hb hby d_prog_33_method_1_15) rfl rfl (pc' := 16) rfl
  replace k : Goes p e below s₁ G0 T6 (mkF m 18 #[.val (.ref a1)] [(.int 65536), (.ref a1)]) := fun t q => k t (X6.ldcInt hx hown (mvT hZ (w_55 hw)) (g := (mkF m 16 #[.val (.ref a1)] [(.ref a1)])) rfl (hb hby d_prog_33_method_1_16) _ q)
  obtain ⟨T7, h7, X7, e7, W7, st7⟩ := putF X6 hx hZ hown (host := "") (Or.inl (w_56 hw)) Via.refl e6 (Ob.at O6 1 rfl) O6.exa (Or.inl (w_57 hw)) (w_18 hw) (ty := .int) (by decide +kernel) rfl rfl (g := (mkF m 18 #[.val (.ref a1)] [(.int 65536), (.ref a1)])) rfl rfl (hb hby d_prog_33_method_1_18)
  have N7 := Fr.snoc X7 N6 pr3
  have O7 : Ob Z h7 a1 "com/example/kleinmaschine/kleinmaschine/PagedBytes" [("com/example/kleinmaschine/kleinmaschine/PagedBytes", "pages", "Ljava/util/List;", (.ref b2)), ("com/example/kleinmaschine/kleinmaschine/PagedBytes", "lastUsed", "I", (.int 65536)), ("com/example/kleinmaschine/kleinmaschine/PagedBytes", "size", "J", (.long 0)), ("com/example/kleinmaschine/kleinmaschine/PagedBytes", "last", "[B", .null)] := Ob.put O6 (lay_PagedBytes hw) 1 rfl W7
  replace k : Goes p e below s₁ G0 T7 (mkF m 21 #[.val (.ref a1)] []) := fun t q => k t (st7 _ q)
  obtain ⟨fs, hr, hrun, hended, hW, hsame⟩ := X7.leave (v := none) (fun _ => rfl)
  refine ⟨_, _, pre0 _ (k _ ?_), hrun, hended, _, _, rfl, ?_, ⟨_, rfl⟩, hW, hsame.mono (by decide) (by decide)⟩
  · exact X7.returnOut hx Bd.returns (hb hby d_prog_33_method_1_21) hr
  · show Q_PagedBytes__init__1 Z a1 w_DE h0 n0 _ T7.heap _
    rw [e7]
    exact ⟨b2, rfl, N7, (((((Keep.refl h0 [a1]).ext E2).trans K3 (allS (Or.inr gz_b2) all0)).wr W6 (Or.inl (List.mem_of_getElem? (i := 0) rfl))).wr W7 (Or.inl (List.mem_of_getElem? (i := 0) rfl))), gz_b2, O7, ((f3_0.other W6 (Ne.symm (Nat.ne_of_lt (Nat.lt_of_lt_of_le pr2.lt gz_b2)))).other W7 (Ne.symm (Nat.ne_of_lt (Nat.lt_of_lt_of_le pr2.lt gz_b2))))⟩
theorem w_20 {Z : State} {a0 : Array Value} (hw : ∀ d ∈ tables_1, d.before a0 Z = true) : (Jvm.Cond.methodLink "com/example/kleinmaschine/kleinmaschine/Statements" (23 : Nat) ({ cls := "com/example/kleinmaschine/kleinmaschine/PagedBytes", name := "<init>", desc := "()V" } : Jvm.MethodName)).before a0 Z = true := hw _ (List.mem_of_getElem? (i := 20) rfl)
theorem w_22 {Z : State} {a0 : Array Value} (hw : ∀ d ∈ tables_1, d.before a0 Z = true) : (Jvm.Cond.code ({ cls := "com/example/kleinmaschine/kleinmaschine/PagedBytes", name := "<init>", desc := "()V" } : Jvm.MethodName) prog_33_method_1_code (1 : Nat) (Option.none : Option Jvm.ClassFile.FieldType)).before a0 Z = true := hw _ (List.mem_of_getElem? (i := 22) rfl)
theorem w_21 {Z : State} {a0 : Array Value} (hw : ∀ d ∈ tables_1, d.before a0 Z = true) : (Jvm.Cond.instanceMethod ({ cls := "com/example/kleinmaschine/kleinmaschine/PagedBytes", name := "<init>", desc := "()V" } : Jvm.MethodName)).before a0 Z = true := hw _ (List.mem_of_getElem? (i := 21) rfl)
theorem d_prog_52_method_1_39 : decode prog_52_method_1_code 39 = .ok (.putfield 24, 3) := by decide +kernel
theorem w_58 {Z : State} {a0 : Array Value} (hw : ∀ d ∈ tables_1, d.before a0 Z = true) : (Jvm.Cond.fieldLink "com/example/kleinmaschine/kleinmaschine/Statements" (24 : Nat) "com/example/kleinmaschine/kleinmaschine/Statements" "records" "Lcom/example/kleinmaschine/kleinmaschine/PagedBytes;").before a0 Z = true := hw _ (List.mem_of_getElem? (i := 58) rfl)
theorem d_prog_52_method_1_42 : decode prog_52_method_1_code 42 = .ok (.aload_n 0, 1) := by decide +kernel
theorem d_prog_52_method_1_43 : decode prog_52_method_1_code 43 = .ok (.bipush 16, 2) := by decide +kernel
theorem d_prog_52_method_1_45 : decode prog_52_method_1_code 45 = .ok (.newarray .long, 2) := by decide +kernel
theorem w_60 {Z : State} {a0 : Array Value} (hw : ∀ d ∈ tables_1, d.before a0 Z = true) : (Jvm.Cond.arrayClass Jvm.ClassFile.FieldType.long).before a0 Z = true := hw _ (List.mem_of_getElem? (i := 60) rfl)
theorem d_prog_52_method_1_47 : decode prog_52_method_1_code 47 = .ok (.putfield 28, 3) := by decide +kernel
theorem w_61 {Z : State} {a0 : Array Value} (hw : ∀ d ∈ tables_1, d.before a0 Z = true) : (Jvm.Cond.fieldLink "com/example/kleinmaschine/kleinmaschine/Statements" (28 : Nat) "com/example/kleinmaschine/kleinmaschine/Statements" "checkpointPlaces" "[J").before a0 Z = true := hw _ (List.mem_of_getElem? (i := 61) rfl)
theorem d_prog_52_method_1_50 : decode prog_52_method_1_code 50 = .ok (.aload_n 0, 1) := by decide +kernel
theorem d_prog_52_method_1_51 : decode prog_52_method_1_code 51 = .ok (.bipush 16, 2) := by decide +kernel
theorem d_prog_52_method_1_53 : decode prog_52_method_1_code 53 = .ok (.newarray .long, 2) := by decide +kernel
theorem d_prog_52_method_1_55 : decode prog_52_method_1_code 55 = .ok (.putfield 32, 3) := by decide +kernel
theorem w_63 {Z : State} {a0 : Array Value} (hw : ∀ d ∈ tables_1, d.before a0 Z = true) : (Jvm.Cond.fieldLink "com/example/kleinmaschine/kleinmaschine/Statements" (32 : Nat) "com/example/kleinmaschine/kleinmaschine/Statements" "checkpointLines" "[J").before a0 Z = true := hw _ (List.mem_of_getElem? (i := 63) rfl)
theorem d_prog_52_method_1_58 : decode prog_52_method_1_code 58 = .ok (.aload_n 0, 1) := by decide +kernel
theorem d_prog_52_method_1_59 : decode prog_52_method_1_code 59 = .ok (.bipush 16, 2) := by decide +kernel
theorem d_prog_52_method_1_61 : decode prog_52_method_1_code 61 = .ok (.newarray .long, 2) := by decide +kernel
theorem d_prog_52_method_1_63 : decode prog_52_method_1_code 63 = .ok (.putfield 35, 3) := by decide +kernel
theorem w_65 {Z : State} {a0 : Array Value} (hw : ∀ d ∈ tables_1, d.before a0 Z = true) : (Jvm.Cond.fieldLink "com/example/kleinmaschine/kleinmaschine/Statements" (35 : Nat) "com/example/kleinmaschine/kleinmaschine/Statements" "checkpointColumns" "[J").before a0 Z = true := hw _ (List.mem_of_getElem? (i := 65) rfl)
theorem d_prog_52_method_1_66 : decode prog_52_method_1_code 66 = .ok (.return_, 1) := by decide +kernel
theorem pn_Statements : plainName "com/example/kleinmaschine/kleinmaschine/Statements" = true := by first | (simp [plainName, overriddenIn]; done) | decide +kernel
def Q_Statements__init__1 (Z : State) (a1 : Addr) (w_DE : Addr) (h0 : Heap) (n0 : Nat) (v : Option Value) (h : Heap) (L : List Loc) : Prop := ∃ (b2 : Addr) (b5 : Addr) (b9 : Addr) (b13 : Addr) (b20 : Addr) (b24 : Addr) (b28 : Addr) (b2_15 : Addr) (kA2 : ClassId) (kA5 : ClassId) (kA9 : ClassId) (kA20 : ClassId) (kA24 : ClassId) (kA28 : ClassId), v = none ∧ Fr n0 L ∧ Keep h0 h [a1] ∧ h0.size ≤ b2 ∧ h0.size ≤ b5 ∧ h0.size ≤ b9 ∧ h0.size ≤ b13 ∧ h0.size ≤ b20 ∧ h0.size ≤ b24 ∧ h0.size ≤ b28 ∧ h0.size ≤ b2_15 ∧ b5 ≠ b2 ∧ b9 ≠ b2 ∧ b9 ≠ b5 ∧ b13 ≠ b2 ∧ b13 ≠ b5 ∧ b13 ≠ b9 ∧ b20 ≠ b2 ∧ b20 ≠ b5 ∧ b20 ≠ b9 ∧ b20 ≠ b13 ∧ b24 ≠ b2 ∧ b24 ≠ b5 ∧ b24 ≠ b9 ∧ b24 ≠ b13 ∧ b24 ≠ b20 ∧ b28 ≠ b2 ∧ b28 ≠ b5 ∧ b28 ≠ b9 ∧ b28 ≠ b13 ∧ b28 ≠ b20 ∧ b28 ≠ b24 ∧ b2_15 ≠ b2 ∧ b2_15 ≠ b5 ∧ b2_15 ≠ b9 ∧ b2_15 ≠ b13 ∧ b2_15 ≠ b20 ∧ b2_15 ≠ b24 ∧ b2_15 ≠ b28 ∧ Ob Z h a1 "com/example/kleinmaschine/kleinmaschine/Statements" [("com/example/kleinmaschine/kleinmaschine/Statements", "headPages", "[[I", (.ref b2)), ("com/example/kleinmaschine/kleinmaschine/Statements", "upperPages", "[[I", (.ref b5)), ("com/example/kleinmaschine/kleinmaschine/Statements", "lowerPages", "[[I", (.ref b9)), ("com/example/kleinmaschine/kleinmaschine/Statements", "records", "Lcom/example/kleinmaschine/kleinmaschine/PagedBytes;", (.ref b13)), ("com/example/kleinmaschine/kleinmaschine/Statements", "checkpointPlaces", "[J", (.ref b20)), ("com/example/kleinmaschine/kleinmaschine/Statements", "checkpointLines", "[J", (.ref b24)), ("com/example/kleinmaschine/kleinmaschine/Statements", "checkpointColumns", "[J", (.ref b28)), ("com/example/kleinmaschine/kleinmaschine/Statements", "heads", "[I", .null), ("com/example/kleinmaschine/kleinmaschine/Statements", "size", "I", (.int 0)), ("com/example/kleinmaschine/kleinmaschine/Statements", "lastLine", "J", (.long 0)), ("com/example/kleinmaschine/kleinmaschine/Statements", "lastColumn", "J", (.long 0)), ("com/example/kleinmaschine/kleinmaschine/Statements", "uppers", "[I", .null), ("com/example/kleinmaschine/kleinmaschine/Statements", "lowers", "[I", .null)] ∧ OvrA Z kA2 .int "[I" ∧ Aw Z h b2 "[[I" kA2 (.array .int) 16 (fun _ => .null) ∧ OvrA Z kA5 .int "[I" ∧ Aw Z h b5 "[[I" kA5 (.array .int) 16 (fun _ => .null) ∧ OvrA Z kA9 .int "[I" ∧ Aw Z h b9 "[[I" kA9 (.array .int) 16 (fun _ => .null) ∧ Ob Z h b13 "com/example/kleinmaschine/kleinmaschine/PagedBytes" [("com/example/kleinmaschine/kleinmaschine/PagedBytes", "pages", "Ljava/util/List;", (.ref b2_15)), ("com/example/kleinmaschine/kleinmaschine/PagedBytes", "lastUsed", "I", (.int 65536)), ("com/example/kleinmaschine/kleinmaschine/PagedBytes", "size", "J", (.long 0)), ("com/example/kleinmaschine/kleinmaschine/PagedBytes", "last", "[B", .null)] ∧ Aw Z h b20 "[J" kA20 .long 16 (fun _ => (.long 0)) ∧ Aw Z h b24 "[J" kA24 .long 16 (fun _ => (.long 0)) ∧ Aw Z h b28 "[J" kA28 .long 16 (fun _ => (.long 0)) ∧ Ob Z h b2_15 "java/util/ArrayList" [("java/util/AbstractList", "modCount", "I", (.int 0)), ("java/util/ArrayList", "elementData", "[Ljava/lang/Object;", (.ref w_DE)), ("java/util/ArrayList", "size", "I", (.int 0))]
set_option maxRecDepth 65536 in
set_option maxHeartbeats 40000000 in
theorem rm_Statements__init__1 (l : Launch) (Z : State) (a0 : Array Value) (hw : ∀ d ∈ tables_1, d.before a0 Z = true) (ws : List Jvm.Cond) (a1 : Addr) (w_DE : Addr) (h0 : Heap) (n0 : Nat) (O0 : Old Z n0 h0) (pr1 : Ob Z h0 a1 "com/example/kleinmaschine/kleinmaschine/Statements" [("com/example/kleinmaschine/kleinmaschine/Statements", "headPages", "[[I", .null), ("com/example/kleinmaschine/kleinmaschine/Statements", "upperPages", "[[I", .null), ("com/example/kleinmaschine/kleinmaschine/Statements", "lowerPages", "[[I", .null), ("com/example/kleinmaschine/kleinmaschine/Statements", "records", "Lcom/example/kleinmaschine/kleinmaschine/PagedBytes;", .null), ("com/example/kleinmaschine/kleinmaschine/Statements", "checkpointPlaces", "[J", .null), ("com/example/kleinmaschine/kleinmaschine/Statements", "checkpointLines", "[J", .null), ("com/example/kleinmaschine/kleinmaschine/Statements", "checkpointColumns", "[J", .null), ("com/example/kleinmaschine/kleinmaschine/Statements", "heads", "[I", .null), ("com/example/kleinmaschine/kleinmaschine/Statements", "size", "I", (.int 0)), ("com/example/kleinmaschine/kleinmaschine/Statements", "lastLine", "J", (.long 0)), ("com/example/kleinmaschine/kleinmaschine/Statements", "lastColumn", "J", (.long 0)), ("com/example/kleinmaschine/kleinmaschine/Statements", "uppers", "[I", .null), ("com/example/kleinmaschine/kleinmaschine/Statements", "lowers", "[I", .null)]) (pr2 : n0 ≤ a1) (pr3 : Sta Z Z.heap "java/util/ArrayList" "DEFAULTCAPACITY_EMPTY_ELEMENTDATA" "[Ljava/lang/Object;" (.ref w_DE)) :
    MetFree l (⟨"com/example/kleinmaschine/kleinmaschine/Statements", "<init>", "()V"⟩ : MethodName) (head1 (Jvm.Cond.code (⟨"com/example/kleinmaschine/kleinmaschine/Statements", "<init>", "()V"⟩ : MethodName) prog_52_method_1_code 1 none :: ws) ({ frames := 5, cells := 8, slots := 103, locals := 64 } : Room)) (fun a U => a = #[(.ref a1)] ∧ Z.Warmed39 U.vm ∧ U.heap = h0) (fun _ _ _ _ _ => True) (fun _ U o U' => ∃ v L, o = .returned v ∧ Q_Statements__init__1 Z a1 w_DE h0 n0 v U'.heap L ∧ FrameEnd U o U' L ({ frames := 5, cells := 8, slots := 103, locals := 64 } : Room).cells ({ frames := 5, cells := 8, slots := 103, locals := 64 } : Room).slots) := by
  refine MetFree.of_bodySF (plainFor_of_name pn_Statements) hisR ?_
  intro p e s m args below meth c s₁ Bd hml0 hP hK
  obtain ⟨rfl, hZ, hh⟩ := hP
  have hx := Bd.exec
  have hby := Bd.bytes
  have hml : c.maxLocals = 1 := hml0
  have hown : s.vm.findClass "com/example/kleinmaschine/kleinmaschine/Statements" = some m.cls := findClass_of_methodNamed Bd.named
  have hnm := (name_of_methodNamed Bd.named Bd.method).1
  have X0 : Stand p l e ({ frames := 5, cells := 8, slots := 103, locals := 64 } : Room) s m #[(.ref a1)] below meth c s₁ [] 0 0 := Stand.of_body Bd
  have e0 : s₁.heap = h0 := by rw [← hh, Bd.state]; rfl
  have N0 := Fr.nil n0
  obtain ⟨G0, hG0⟩ : ∃ z, z = (mkF m 0 #[.val (.ref a1)] []) := ⟨_, rfl⟩
  have pre0 : ∀ t, Steps p.tables e below (s₁.setTop G0) t → Steps p.tables e below (s₁.setTop (entryFrame m #[(.ref a1)] 1)) t := fun t k => castTop (ef_R_1 m a1) (hG0 ▸ k)
  have k : Goes p e below s₁ G0 s₁ (mkF m 0 #[.val (.ref a1)] []) := fun t q => hG0 ▸ q
  replace k := Fw.aloadN k X0 hx (hb hby d_prog_52_method_1_0) rfl rfl (pc' := 1) rfl
  obtain ⟨T1, X1, e1, st1⟩ := initO X0 hx hZ hown (w_6 hw) (w_7 hw) (w_8 hw) e0 (g := (mkF m 1 #[.val (.ref a1)] [(.ref a1)])) rfl (by rw [hml]; rfl) rfl (hb hby d_prog_52_method_1_1) (by decide) (W := 0) (by show 2 * 0 + _ ≤ _; exact Nat.le_of_eq rfl) (by decide)
  replace k : Goes p e below s₁ G0 T1 (mkF m 4 #[.val (.ref a1)] []) := fun t q => k t (st1 _ q)
  replace k := Fw.aloadN k X1 hx (hb hby d_prog_52_method_1_4) rfl rfl (pc' := 5) rfl
  replace k := Fw.bipush k X1 hx (hb hby d_prog_52_method_1_5) (z := (16 : Int32)) (by decide) (pc' := 7) rfl
  obtain ⟨T2, h2, kA2, X2, e2, E2, A2, U2, O2, st2⟩ := newRA X1 hx hZ hown (C := "[I") (ty := .int) (by decide) (w_9 hw) (w_10 hw) e1 (g := (mkF m 7 #[.val (.ref a1)] [(.int 16), (.ref a1)])) rfl (hb hby d_prog_52_method_1_7) rfl (by decide) (cap := 16) (by decide) (by decide) (by decide) (by decide) (ad := "[[I") (by decide)
  obtain ⟨b2, g2⟩ : ∃ z, z = h0.size := ⟨_, rfl⟩
  rw [← g2] at A2 U2 st2
  have gz_b2 : h0.size ≤ b2 := Nat.le_trans (Nat.le_refl h0.size) (Nat.le_of_eq g2.symm)
  have V2 : Aw Z h2 b2 "[[I" kA2 (.array .int) 16 (fun _ => .null) := Aw.new A2 U2 (by decide) 16 (by decide)
  replace k : Goes p e below s₁ G0 T2 (mkF m 10 #[.val (.ref a1)] [(.ref b2), (.ref a1)]) := fun t q => k t (st2 _ q)
  have fc3 := (pr1.ext E2)
  obtain ⟨T4, h4, X4, e4, W4, st4⟩ := putF X2 hx hZ hown (host := "") (Or.inl (w_11 hw)) Via.refl e2 (Ob.at fc3 0 rfl) fc3.exa (Or.inl (w_12 hw)) (w_1 hw) (ty := (.array (.array .int))) (by decide +kernel) rfl rfl (g := (mkF m 10 #[.val (.ref a1)] [(.ref b2), (.ref a1)])) rfl rfl (hb hby d_prog_52_method_1_10)
  have N4 := Fr.snoc X4 N0 pr2
  have O4 : Ob Z h4 a1 "com/example/kleinmaschine/kleinmaschine/Statements" [("com/example/kleinmaschine/kleinmaschine/Statements", "headPages", "[[I", (.ref b2)), ("com/example/kleinmaschine/kleinmaschine/Statements", "upperPages", "[[I", .null), ("com/example/kleinmaschine/kleinmaschine/Statements", "lowerPages", "[[I", .null), ("com/example/kleinmaschine/kleinmaschine/Statements", "records", "Lcom/example/kleinmaschine/kleinmaschine/PagedBytes;", .null), ("com/example/kleinmaschine/kleinmaschine/Statements", "checkpointPlaces", "[J", .null), ("com/example/kleinmaschine/kleinmaschine/Statements", "checkpointLines", "[J", .null), ("com/example/kleinmaschine/kleinmaschine/Statements", "checkpointColumns", "[J", .null), ("com/example/kleinmaschine/kleinmaschine/Statements", "heads", "[I", .null), ("com/example/kleinmaschine/kleinmaschine/Statements", "size", "I", (.int 0)), ("com/example/kleinmaschine/kleinmaschine/Statements", "lastLine", "J", (.long 0)), ("com/example/kleinmaschine/kleinmaschine/Statements", "lastColumn", "J", (.long 0)), ("com/example/kleinmaschine/kleinmaschine/Statements", "uppers", "[I", .null), ("com/example/kleinmaschine/kleinmaschine/Statements", "lowers", "[I", .null)] := Ob.put fc3 (lay_Statements hw) 0 rfl W4
  replace k : Goes p e below s₁ G0 T4 (mkF m 13 #[.val (.ref a1)] []) := fun t q => k t (st4 _ q)
  replace k := Fw.aloadN k X4 hx (hb hby d_prog_52_method_1_13) rfl rfl (pc' := 14) rfl
  replace k := Fw.bipush k X4 hx (hb hby d_prog_52_method_1_14) (z := (16 : Int32)) (by decide) (pc' := 16) rfl
  obtain ⟨T5, h5, kA5, X5, e5, E5, A5, U5, O5, st5⟩ := newRA X4 hx hZ hown (C := "[I") (ty := .int) (by decide) (w_9 hw) (w_10 hw) e4 (g := (mkF m 16 #[.val (.ref a1)] [(.int 16), (.ref a1)])) rfl (hb hby d_prog_52_method_1_16) rfl (by decide) (cap := 16) (by decide) (by decide) (by decide) (by decide) (ad := "[[I") (by decide)
  obtain ⟨b5, g5⟩ : ∃ z, z = h4.size := ⟨_, rfl⟩
  rw [← g5] at A5 U5 st5
  have fc6 := (Nat.le_trans (Nat.le_trans (Nat.le_refl h0.size) E2.1) (Nat.le_of_eq (Wr.size W4).symm))
  have gz_b5 : h0.size ≤ b5 := Nat.le_trans fc6 (Nat.le_of_eq g5.symm)
  have V5 : Aw Z h5 b5 "[[I" kA5 (.array .int) 16 (fun _ => .null) := Aw.new A5 U5 (by decide) 16 (by decide)
  replace k : Goes p e below s₁ G0 T5 (mkF m 19 #[.val (.ref a1)] [(.ref b5), (.ref a1)]) := fun t q => k t (st5 _ q)
  have fc7 := (O4.ext E5)
  obtain ⟨T8, h8, X8, e8, W8, st8⟩ := putF X5 hx hZ hown (host := "") (Or.inl (w_13 hw)) Via.refl e5 (Ob.at fc7 1 rfl) fc7.exa (Or.inl (w_14 hw)) (w_1 hw) (ty := (.array (.array .int))) (by decide +kernel) rfl rfl (g := (mkF m 19 #[.val (.ref a1)] [(.ref b5), (.ref a1)])) rfl rfl (hb hby d_prog_52_method_1_19)
  have N8 := Fr.snoc X8 N4 pr2
  have O8 : Ob Z h8 a1 "com/example/kleinmaschine/kleinmaschine/Statements" [("com/example/kleinmaschine/kleinmaschine/Statements", "headPages", "[[I", (.ref b2)), ("com/example/kleinmaschine/kleinmaschine/Statements", "upperPages", "[[I", (.ref b5)), ("com/example/kleinmaschine/kleinmaschine/Statements", "lowerPages", "[[I", .null), ("com/example/kleinmaschine/kleinmaschine/Statements", "records", "Lcom/example/kleinmaschine/kleinmaschine/PagedBytes;", .null), ("com/example/kleinmaschine/kleinmaschine/Statements", "checkpointPlaces", "[J", .null), ("com/example/kleinmaschine/kleinmaschine/Statements", "checkpointLines", "[J", .null), ("com/example/kleinmaschine/kleinmaschine/Statements", "checkpointColumns", "[J", .null), ("com/example/kleinmaschine/kleinmaschine/Statements", "heads", "[I", .null), ("com/example/kleinmaschine/kleinmaschine/Statements", "size", "I", (.int 0)), ("com/example/kleinmaschine/kleinmaschine/Statements", "lastLine", "J", (.long 0)), ("com/example/kleinmaschine/kleinmaschine/Statements", "lastColumn", "J", (.long 0)), ("com/example/kleinmaschine/kleinmaschine/Statements", "uppers", "[I", .null), ("com/example/kleinmaschine/kleinmaschine/Statements", "lowers", "[I", .null)] := Ob.put fc7 (lay_Statements hw) 1 rfl W8
  replace k : Goes p e below s₁ G0 T8 (mkF m 22 #[.val (.ref a1)] []) := fun t q => k t (st8 _ q)
  replace k := Fw.aloadN k X8 hx (hb hby d_prog_52_method_1_22) rfl rfl (pc' := 23) rfl
  replace k := Fw.bipush k X8 hx (hb hby d_prog_52_method_1_23) (z := (16 : Int32)) (by decide) (pc' := 25) rfl
  obtain ⟨T9, h9, kA9, X9, e9, E9, A9, U9, O9, st9⟩ := newRA X8 hx hZ hown (C := "[I") (ty := .int) (by decide) (w_9 hw) (w_10 hw) e8 (g := (mkF m 25 #[.val (.ref a1)] [(.int 16), (.ref a1)])) rfl (hb hby d_prog_52_method_1_25) rfl (by decide) (cap := 16) (by decide) (by decide) (by decide) (by decide) (ad := "[[I") (by decide)
  obtain ⟨b9, g9⟩ : ∃ z, z = h8.size := ⟨_, rfl⟩
  rw [← g9] at A9 U9 st9
  have fc10 := (Nat.le_trans (Nat.le_trans fc6 E5.1) (Nat.le_of_eq (Wr.size W8).symm))
  have gz_b9 : h0.size ≤ b9 := Nat.le_trans fc10 (Nat.le_of_eq g9.symm)
  have V9 : Aw Z h9 b9 "[[I" kA9 (.array .int) 16 (fun _ => .null) := Aw.new A9 U9 (by decide) 16 (by decide)
  replace k : Goes p e below s₁ G0 T9 (mkF m 28 #[.val (.ref a1)] [(.ref b9), (.ref a1)]) := fun t q => k t (st9 _ q)
  have fc11 := (O8.ext E9)
  obtain ⟨T12, h12, X12, e12, W12, st12⟩ := putF X9 hx hZ hown (host := "") (Or.inl (w_15 hw)) Via.refl e9 (Ob.at fc11 2 rfl) fc11.exa (Or.inl (w_16 hw)) (w_1 hw) (ty := (.array (.array .int))) (by decide +kernel) rfl rfl (g := (mkF m 28 #[.val (.ref a1)] [(.ref b9), (.ref a1)])) rfl rfl (hb hby d_prog_52_method_1_28)
  have N12 := Fr.snoc X12 N8 pr2
  have O12 : Ob Z h12 a1 "com/example/kleinmaschine/kleinmaschine/Statements" [("com/example/kleinmaschine/kleinmaschine/Statements", "headPages", "[[I", (.ref b2)), ("com/example/kleinmaschine/kleinmaschine/Statements", "upperPages", "[[I", (.ref b5)), ("com/example/kleinmaschine/kleinmaschine/Statements", "lowerPages", "[[I", (.ref b9)), ("com/example/kleinmaschine/kleinmaschine/Statements", "records", "Lcom/example/kleinmaschine/kleinmaschine/PagedBytes;", .null), ("com/example/kleinmaschine/kleinmaschine/Statements", "checkpointPlaces", "[J", .null), ("com/example/kleinmaschine/kleinmaschine/Statements", "checkpointLines", "[J", .null), ("com/example/kleinmaschine/kleinmaschine/Statements", "checkpointColumns", "[J", .null), ("com/example/kleinmaschine/kleinmaschine/Statements", "heads", "[I", .null), ("com/example/kleinmaschine/kleinmaschine/Statements", "size", "I", (.int 0)), ("com/example/kleinmaschine/kleinmaschine/Statements", "lastLine", "J", (.long 0)), ("com/example/kleinmaschine/kleinmaschine/Statements", "lastColumn", "J", (.long 0)), ("com/example/kleinmaschine/kleinmaschine/Statements", "uppers", "[I", .null), ("com/example/kleinmaschine/kleinmaschine/Statements", "lowers", "[I", .null)] := Ob.put fc11 (lay_Statements hw) 2 rfl W12
  replace k : Goes p e below s₁ G0 T12 (mkF m 31 #[.val (.ref a1)] []) := fun t q => k t (st12 _ q)
  replace k := Fw.aloadN k X12 hx (hb hby d_prog_52_method_1_31) rfl rfl (pc' := 32) rfl
  obtain ⟨T13, h13, X13, e13, E13, A13, D13, -, st13⟩ := newO X12 hx hZ hown (w_17 hw) (w_18 hw) (w_19 hw) e12 (g := (mkF m 32 #[.val (.ref a1)] [(.ref a1)])) rfl (hb hby d_prog_52_method_1_32) (by decide) (by decide)
  obtain ⟨b13, g13⟩ : ∃ z, z = h12.size := ⟨_, rfl⟩
  rw [← g13] at A13 D13 st13
  have fc14 := (Nat.le_trans (Nat.le_trans fc10 E9.1) (Nat.le_of_eq (Wr.size W12).symm))
  have gz_b13 : h0.size ≤ b13 := Nat.le_trans fc14 (Nat.le_of_eq g13.symm)
  have O13 := new_lay_PagedBytes hw A13 @D13
  replace k : Goes p e below s₁ G0 T13 (mkF m 35 #[.val (.ref a1)] [(.ref b13), (.ref a1)]) := fun t q => k t (st13 _ q)
  replace k := Fw.dup k X13 hx (hb hby d_prog_52_method_1_35) rfl (pc' := 36) rfl
  have fc16 := (((((((O0.ext E2).wr W4 pr2).ext E5).wr W8 pr2).ext E9).wr W12 pr2).ext E13)
  obtain ⟨_, _, ⟨T15, L15, kz15, nz15⟩, -, X15, ⟨Lc15, hQ15, l15, y15, z15⟩, st15⟩ := X13.specialBack hx (y := (⟨"com/example/kleinmaschine/kleinmaschine/PagedBytes", "<init>", "()V"⟩ : MethodName)) rfl hown (mvT hZ (w_20 hw)) (mvT hZ (w_21 hw)) (mvT hZ (w_22 hw)) (by decide) (backOf (W := 2) (rm_PagedBytes__init__1 l Z a0 hw [] b13 w_DE h13 n0 fc16 pr3 O13 (Nat.le_trans (old_le O0) gz_b13)) hZ (w_22 hw) (w_19 hw) (by decide) (by decide)) (g := (mkF m 36 #[.val (.ref a1)] [(.ref b13), (.ref b13), (.ref a1)])) rfl (by rw [hml]; rfl) (Steps.refl _) (a := b13) (argsL := []) (rest := [(.ref b13), (.ref a1)]) (lenOf pd__r_V rfl) rfl (by show 2 * 0 + _ ≤ _; exact Nat.le_of_eq rfl) (hb hby d_prog_52_method_1_36) (fun _ _ => ⟨rfl, e13, (by decide : 4 + 1 ≤ _), (by decide : 52 + 3 ≤ _)⟩)
  dsimp only [Pt.U, Pt.locs, Pt.cells, Pt.slots] at X15 l15 y15 z15 st15 hQ15
  subst l15 y15 z15
  obtain ⟨b2_15, hv15, N15q, K15, f15_0, f15_1, f15_2⟩ := hQ15
  subst hv15
  have N15 := Fr.app N12 N15q
  have fc17 := (Nat.le_trans fc14 E13.1)
  have gz_b2_15 : h0.size ≤ b2_15 := Nat.le_trans fc17 f15_0
  replace k : Goes p e below s₁ G0 T15 (mkF m 39 #[.val (.ref a1)] [(.ref b13), (.ref a1)]) := fun t q => k t (st15.trans q)
  have fc18 := ((O12.ext E13).keep K15 (ninS (Nat.ne_of_lt (Nat.lt_of_lt_of_le pr1.lt gz_b13)) nin0))
  obtain ⟨T19, h19, X19, e19, W19, st19⟩ := putF X15 hx hZ hown (host := "") (Or.inl (w_58 hw)) Via.refl rfl (Ob.at fc18 3 rfl) fc18.exa (Or.inr ⟨(w_59 hw), rfl, hnm⟩) (w_1 hw) (ty := (.object "com/example/kleinmaschine/kleinmaschine/PagedBytes")) (by decide +kernel) rfl rfl (g := (mkF m 39 #[.val (.ref a1)] [(.ref b13), (.ref a1)])) rfl rfl (hb hby d_prog_52_method_1_39)
  have N19 := Fr.snoc X19 N15 pr2
  have O19 : Ob Z h19 a1 "com/example/kleinmaschine/kleinmaschine/Statements" [("com/example/kleinmaschine/kleinmaschine/Statements", "headPages", "[[I", (.ref b2)), ("com/example/kleinmaschine/kleinmaschine/Statements", "upperPages", "[[I", (.ref b5)), ("com/example/kleinmaschine/kleinmaschine/Statements", "lowerPages", "[[I", (.ref b9)), ("com/example/kleinmaschine/kleinmaschine/Statements", "records", "Lcom/example/kleinmaschine/kleinmaschine/PagedBytes;", (.ref b13)), ("com/example/kleinmaschine/kleinmaschine/Statements", "checkpointPlaces", "[J", .null), ("com/example/kleinmaschine/kleinmaschine/Statements", "checkpointLines", "[J", .null), ("com/example/kleinmaschine/kleinmaschine/Statements", "checkpointColumns", "[J", .null), ("com/example/kleinmaschine/kleinmaschine/Statements", "heads", "[I", .null), ("com/example/kleinmaschine/kleinmaschine/Statements", "size", "I", (.int 0)), ("com/example/kleinmaschine/kleinmaschine/Statements", "lastLine", "J", (.long 0)), ("com/example/kleinmaschine/kleinmaschine/Statements", "lastColumn", "J", (.long 0)), ("com/example/kleinmaschine/kleinmaschine/Statements", "uppers", "[I", .null), ("com/example/kleinmaschine/kleinmaschine/Statements", "lowers", "[I", .null)] := Ob.put fc18 (lay_Statements hw) 3 rfl W19
  replace k : Goes p e below s₁ G0 T19 (mkF m 42 #[.val (.ref a1)] []) := fun t q => k t (st19 _ q)
  replace k := Fw.aloadN k X19 hx (hb hby d_prog_52_method_1_42) rfl rfl (pc' := 43) rfl
  replace k := Fw.bipush k X19 hx (hb hby d_prog_52_method_1_43) (z := (16 : Int32)) (by decide) (pc' := 45) rfl
  obtain ⟨T20, h20, kA20, X20, e20, E20, A20, U20, st20⟩ := newPE (aty := .long) X19 hx hZ (w_60 hw) e19 (g := (mkF m 45 #[.val (.ref a1)] [(.int 16), (.ref a1)])) rfl (hb hby d_prog_52_method_1_45) rfl (by decide) (cap := 16) (by decide) (by decide) (by decide) (by decide) (ad := "[J") (by decide)
  obtain ⟨b20, g20⟩ : ∃ z, z = h19.size := ⟨_, rfl⟩
  rw [← g20] at A20 U20 st20
  have fc21 := (Nat.le_trans (Nat.le_trans fc17 K15.1) (Nat.le_of_eq (Wr.size W19).symm))
  have gz_b20 : h0.size ≤ b20 := Nat.le_trans fc21 (Nat.le_of_eq g20.symm)
  have V20 : Aw Z h20 b20 "[J" kA20 .long 16 (fun _ => (.long 0)) := Aw.new A20 U20 (by decide) 16 (by decide)
  replace k : Goes p e below s₁ G0 T20 (mkF m 47 #[.val (.ref a1)] [(.ref b20), (.ref a1)]) := fun t q => k t (st20 _ q)
  have fc22 := (O19.ext E20)
  obtain ⟨T23, h23, X23, e23, W23, st23⟩ := putF X20 hx hZ hown (host := "") (Or.inl (w_61 hw)) Via.refl e20 (Ob.at fc22 4 rfl) fc22.exa (Or.inl (w_62 hw)) (w_1 hw) (ty := (.array .long)) (by decide +kernel) rfl rfl (g := (mkF m 47 #[.val (.ref a1)] [(.ref b20), (.ref a1)])) rfl rfl (hb hby d_prog_52_method_1_47)
  have N23 := Fr.snoc X23 N19 pr2
  have O23 : Ob Z h23 a1 "com/example/kleinmaschine/kleinmaschine/Statements" [("com/example/kleinmaschine/kleinmaschine/Statements", "headPages", "[[I", (.ref b2)), ("com/example/kleinmaschine/kleinmaschine/Statements", "upperPages", "[[I", (.ref b5)), ("com/example/kleinmaschine/kleinmaschine/Statements", "lowerPages", "[[I", (.ref b9)), ("com/example/kleinmaschine/kleinmaschine/Statements", "records", "Lcom/example/kleinmaschine/kleinmaschine/PagedBytes;", (.ref b13)), ("com/example/kleinmaschine/kleinmaschine/Statements", "checkpointPlaces", "[J", (.ref b20)), ("com/example/kleinmaschine/kleinmaschine/Statements", "checkpointLines", "[J", .null), ("com/example/kleinmaschine/kleinmaschine/Statements", "checkpointColumns", "[J", .null), ("com/example/kleinmaschine/kleinmaschine/Statements", "heads", "[I", .null), ("com/example/kleinmaschine/kleinmaschine/Statements", "size", "I", (.int 0)), ("com/example/kleinmaschine/kleinmaschine/Statements", "lastLine", "J", (.long 0)), ("com/example/kleinmaschine/kleinmaschine/Statements", "lastColumn", "J", (.long 0)), ("com/example/kleinmaschine/kleinmaschine/Statements", "uppers", "[I", .null), ("com/example/kleinmaschine/kleinmaschine/Statements", "lowers", "[I", .null)] := Ob.put fc22 (lay_Statements hw) 4 rfl W23
  replace k : Goes p e below s₁ G0 T23 (mkF m 50 #[.val (.ref a1)] []) := fun t q => k t (st23 _ q)
  replace k := Fw.aloadN k X23 hx (hb hby d_prog_52_method_1_50) rfl rfl (pc' := 51) rfl
  replace k := Fw.bipush k X23 hx (hb hby d_prog_52_method_1_51) (z := (16 : Int32)) (by decide) (pc' := 53) rfl
  obtain ⟨T24, h24, kA24, X24, e24, E24, A24, U24, st24⟩ := newPE (aty := .long) X23 hx hZ (w_60 hw) e23 (g := (mkF m 53 #[.val (.ref a1)] [(.int 16), (.ref a1)])) rfl (hb hby d_prog_52_method_1_53) rfl (by decide) (cap := 16) (by decide) (by decide) (by decide) (by decide) (ad := "[J") (by decide)
  obtain ⟨b24, g24⟩ : ∃ z, z = h23.size := ⟨_, rfl⟩
  rw [← g24] at A24 U24 st24
  have fc25 := (Nat.le_trans (Nat.le_trans fc21 E20.1) (Nat.le_of_eq (Wr.size W23).symm))
  have gz_b24 : h0.size ≤ b24 := Nat.le_trans fc25 (Nat.le_of_eq g24.symm)
  have V24 : Aw Z h24 b24 "[J" kA24 .long 16 (fun _ => (.long 0)) := Aw.new A24 U24 (by decide) 16 (by decide)
  replace k : Goes p e below s₁ G0 T24 (mkF m 55 #[.val (.ref a1)] [(.ref b24), (.ref a1)]) := fun t q => k t (st24 _ q)
  have fc26 := (O23.ext E24)
  obtain ⟨T27, h27, X27, e27, W27, st27⟩ := putF X24 hx hZ hown (host := "") (Or.inl (w_63 hw)) Via.refl e24 (Ob.at fc26 5 rfl) fc26.exa (Or.inl (w_64 hw)) (w_1 hw) (ty := (.array .long)) (by decide +kernel) rfl rfl (g := (mkF m 55 #[.val (.ref a1)] [(.ref b24), (.ref a1)])) rfl rfl (hb hby d_prog_52_method_1_55)
  have N27 := Fr.snoc X27 N23 pr2
  have O27 : Ob Z h27 a1 "com/example/kleinmaschine/kleinmaschine/Statements" [("com/example/kleinmaschine/kleinmaschine/Statements", "headPages", "[[I", (.ref b2)), ("com/example/kleinmaschine/kleinmaschine/Statements", "upperPages", "[[I", (.ref b5)), ("com/example/kleinmaschine/kleinmaschine/Statements", "lowerPages", "[[I", (.ref b9)), ("com/example/kleinmaschine/kleinmaschine/Statements", "records", "Lcom/example/kleinmaschine/kleinmaschine/PagedBytes;", (.ref b13)), ("com/example/kleinmaschine/kleinmaschine/Statements", "checkpointPlaces", "[J", (.ref b20)), ("com/example/kleinmaschine/kleinmaschine/Statements", "checkpointLines", "[J", (.ref b24)), ("com/example/kleinmaschine/kleinmaschine/Statements", "checkpointColumns", "[J", .null), ("com/example/kleinmaschine/kleinmaschine/Statements", "heads", "[I", .null), ("com/example/kleinmaschine/kleinmaschine/Statements", "size", "I", (.int 0)), ("com/example/kleinmaschine/kleinmaschine/Statements", "lastLine", "J", (.long 0)), ("com/example/kleinmaschine/kleinmaschine/Statements", "lastColumn", "J", (.long 0)), ("com/example/kleinmaschine/kleinmaschine/Statements", "uppers", "[I", .null), ("com/example/kleinmaschine/kleinmaschine/Statements", "lowers", "[I", .null)] := Ob.put fc26 (lay_Statements hw) 5 rfl W27
  replace k : Goes p e below s₁ G0 T27 (mkF m 58 #[.val (.ref a1)] []) := fun t q => k t (st27 _ q)
  replace k := Fw.aloadN k X27 hx (hb hby d_prog_52_method_1_58) rfl rfl (pc' := 59) rfl
  replace k := Fw.bipush k X27 hx (hb hby d_prog_52_method_1_59) (z := (16 : Int32)) (by decide) (pc' := 61) rfl
  obtain ⟨T28, h28, kA28, X28, e28, E28, A28, U28, st28⟩ := newPE (aty := .long) X27 hx hZ (w_60 hw) e27 (g := (mkF m 61 #[.val (.ref a1)] [(.int 16), (.ref a1)])) rfl (hb hby d_prog_52_method_1_61) rfl (by decide) (cap := 16) (by decide) (by decide) (by decide) (by decide) (ad := "[J") (by decide)
  obtain ⟨b28, g28⟩ : ∃ z, z = h27.size := ⟨_, rfl⟩
  rw [← g28] at A28 U28 st28
  have fc29 := (Nat.le_trans (Nat.le_trans fc25 E24.1) (Nat.le_of_eq (Wr.size W27).symm))
  have gz_b28 : h0.size ≤ b28 := Nat.le_trans fc29 (Nat.le_of_eq g28.symm)
  have V28 : Aw Z h28 b28 "[J" kA28 .long 16 (fun _ => (.long 0)) := Aw.new A28 U28 (by decide) 16 (by decide)
  replace k : Goes p e below s₁ G0 T28 (mkF m 63 #[.val (.ref a1)] [(.ref b28), (.ref a1)]) := fun t q => k t (st28 _ q)
  have fc30 := (O27.ext E28)
  obtain ⟨T31, h31, X31, e31, W31, st31⟩ := putF X28 hx hZ hown (host := "") (Or.inl (w_65 hw)) Via.refl e28 (Ob.at fc30 6 rfl) fc30.exa (Or.inl (w_66 hw)) (w_1 hw) (ty := (.array .long)) (by decide +kernel) rfl rfl (g := (mkF m 63 #[.val (.ref a1)] [(.ref b28), (.ref a1)])) rfl rfl (hb hby d_prog_52_method_1_63)
  have N31 := Fr.snoc X31 N27 pr2
  have O31 : Ob Z h31 a1 "com/example/kleinmaschine/kleinmaschine/Statements" [("com/example/kleinmaschine/kleinmaschine/Statements", "headPages", "[[I", (.ref b2)), ("com/example/kleinmaschine/kleinmaschine/Statements", "upperPages", "[[I", (.ref b5)), ("com/example/kleinmaschine/kleinmaschine/Statements", "lowerPages", "[[I", (.ref b9)), ("com/example/kleinmaschine/kleinmaschine/Statements", "records", "Lcom/example/kleinmaschine/kleinmaschine/PagedBytes;", (.ref b13)), ("com/example/kleinmaschine/kleinmaschine/Statements", "checkpointPlaces", "[J", (.ref b20)), ("com/example/kleinmaschine/kleinmaschine/Statements", "checkpointLines", "[J", (.ref b24)), ("com/example/kleinmaschine/kleinmaschine/Statements", "checkpointColumns", "[J", (.ref b28)), ("com/example/kleinmaschine/kleinmaschine/Statements", "heads", "[I", .null), ("com/example/kleinmaschine/kleinmaschine/Statements", "size", "I", (.int 0)), ("com/example/kleinmaschine/kleinmaschine/Statements", "lastLine", "J", (.long 0)), ("com/example/kleinmaschine/kleinmaschine/Statements", "lastColumn", "J", (.long 0)), ("com/example/kleinmaschine/kleinmaschine/Statements", "uppers", "[I", .null), ("com/example/kleinmaschine/kleinmaschine/Statements", "lowers", "[I", .null)] := Ob.put fc30 (lay_Statements hw) 6 rfl W31
  replace k : Goes p e below s₁ G0 T31 (mkF m 66 #[.val (.ref a1)] []) := fun t q => k t (st31 _ q)
  obtain ⟨fs, hr, hrun, hended, hW, hsame⟩ := X31.leave (v := none) (fun _ => rfl)
  refine ⟨_, _, pre0 _ (k _ ?_), hrun, hended, _, _, rfl, ?_, ⟨_, rfl⟩, hW, hsame.mono (by decide) (by decide)⟩
  · exact X31.returnOut hx Bd.returns (hb hby d_prog_52_method_1_66) hr
  · show Q_Statements__init__1 Z a1 w_DE h0 n0 _ T31.heap _
    rw [e31]
    exact ⟨b2, b5, b9, b13, b20, b24, b28, b2_15, kA2, kA5, kA9, kA20, kA24, kA28, rfl, N31, ((((((((((((((((Keep.refl h0 [a1]).ext E2).wr W4 (Or.inl (List.mem_of_getElem? (i := 0) rfl))).ext E5).wr W8 (Or.inl (List.mem_of_getElem? (i := 0) rfl))).ext E9).wr W12 (Or.inl (List.mem_of_getElem? (i := 0) rfl))).ext E13).trans K15 (allS (Or.inr gz_b13) all0)).wr W19 (Or.inl (List.mem_of_getElem? (i := 0) rfl))).ext E20).wr W23 (Or.inl (List.mem_of_getElem? (i := 0) rfl))).ext E24).wr W27 (Or.inl (List.mem_of_getElem? (i := 0) rfl))).ext E28).wr W31 (Or.inl (List.mem_of_getElem? (i := 0) rfl))), gz_b2, gz_b5, gz_b9, gz_b13, gz_b20, gz_b24, gz_b28, gz_b2_15, (Ne.symm (Nat.ne_of_lt (Nat.lt_of_lt_of_le (V2.other W4 (Ne.symm (Nat.ne_of_lt (Nat.lt_of_lt_of_le pr1.lt gz_b2)))).lt (Nat.le_of_eq g5.symm)))), (Ne.symm (Nat.ne_of_lt (Nat.lt_of_lt_of_le (((V2.other W4 (Ne.symm (Nat.ne_of_lt (Nat.lt_of_lt_of_le pr1.lt gz_b2)))).ext E5).other W8 (Ne.symm (Nat.ne_of_lt (Nat.lt_of_lt_of_le pr1.lt gz_b2)))).lt (Nat.le_of_eq g9.symm)))), (Ne.symm (Nat.ne_of_lt (Nat.lt_of_lt_of_le (V5.other W8 (Ne.symm (Nat.ne_of_lt (Nat.lt_of_lt_of_le pr1.lt gz_b5)))).lt (Nat.le_of_eq g9.symm)))), (Ne.symm (Nat.ne_of_lt (Nat.lt_of_lt_of_le (((((V2.other W4 (Ne.symm (Nat.ne_of_lt (Nat.lt_of_lt_of_le pr1.lt gz_b2)))).ext E5).other W8 (Ne.symm (Nat.ne_of_lt (Nat.lt_of_lt_of_le pr1.lt gz_b2)))).ext E9).other W12 (Ne.symm (Nat.ne_of_lt (Nat.lt_of_lt_of_le pr1.lt gz_b2)))).lt (Nat.le_of_eq g13.symm)))), (Ne.symm (Nat.ne_of_lt (Nat.lt_of_lt_of_le (((V5.other W8 (Ne.symm (Nat.ne_of_lt (Nat.lt_of_lt_of_le pr1.lt gz_b5)))).ext E9).other W12 (Ne.symm (Nat.ne_of_lt (Nat.lt_of_lt_of_le pr1.lt gz_b5)))).lt (Nat.le_of_eq g13.symm)))), (Ne.symm (Nat.ne_of_lt (Nat.lt_of_lt_of_le (V9.other W12 (Ne.symm (Nat.ne_of_lt (Nat.lt_of_lt_of_le pr1.lt gz_b9)))).lt (Nat.le_of_eq g13.symm)))), (Ne.symm (Nat.ne_of_lt (Nat.lt_of_lt_of_le ((((((((V2.other W4 (Ne.symm (Nat.ne_of_lt (Nat.lt_of_lt_of_le pr1.lt gz_b2)))).ext E5).other W8 (Ne.symm (Nat.ne_of_lt (Nat.lt_of_lt_of_le pr1.lt gz_b2)))).ext E9).other W12 (Ne.symm (Nat.ne_of_lt (Nat.lt_of_lt_of_le pr1.lt gz_b2)))).ext E13).keep K15 (ninS (Nat.ne_of_lt (Nat.lt_of_lt_of_le (((((V2.other W4 (Ne.symm (Nat.ne_of_lt (Nat.lt_of_lt_of_le pr1.lt gz_b2)))).ext E5).other W8 (Ne.symm (Nat.ne_of_lt (Nat.lt_of_lt_of_le pr1.lt gz_b2)))).ext E9).other W12 (Ne.symm (Nat.ne_of_lt (Nat.lt_of_lt_of_le pr1.lt gz_b2)))).lt (Nat.le_of_eq g13.symm))) nin0)).other W19 (Ne.symm (Nat.ne_of_lt (Nat.lt_of_lt_of_le pr1.lt gz_b2)))).lt (Nat.le_of_eq g20.symm)))), (Ne.symm (Nat.ne_of_lt (Nat.lt_of_lt_of_le ((((((V5.other W8 (Ne.symm (Nat.ne_of_lt (Nat.lt_of_lt_of_le pr1.lt gz_b5)))).ext E9).other W12 (Ne.symm (Nat.ne_of_lt (Nat.lt_of_lt_of_le pr1.lt gz_b5)))).ext E13).keep K15 (ninS (Nat.ne_of_lt (Nat.lt_of_lt_of_le (((V5.other W8 (Ne.symm (Nat.ne_of_lt (Nat.lt_of_lt_of_le pr1.lt gz_b5)))).ext E9).other W12 (Ne.symm (Nat.ne_of_lt (Nat.lt_of_lt_of_le pr1.lt gz_b5)))).lt (Nat.le_of_eq g13.symm))) nin0)).other W19 (Ne.symm (Nat.ne_of_lt (Nat.lt_of_lt_of_le pr1.lt gz_b5)))).lt (Nat.le_of_eq g20.symm)))), (Ne.symm (Nat.ne_of_lt (Nat.lt_of_lt_of_le ((((V9.other W12 (Ne.symm (Nat.ne_of_lt (Nat.lt_of_lt_of_le pr1.lt gz_b9)))).ext E13).keep K15 (ninS (Nat.ne_of_lt (Nat.lt_of_lt_of_le (V9.other W12 (Ne.symm (Nat.ne_of_lt (Nat.lt_of_lt_of_le pr1.lt gz_b9)))).lt (Nat.le_of_eq g13.symm))) nin0)).other W19 (Ne.symm (Nat.ne_of_lt (Nat.lt_of_lt_of_le pr1.lt gz_b9)))).lt (Nat.le_of_eq g20.symm)))), (Ne.symm (Nat.ne_of_lt (Nat.lt_of_lt_of_le (f15_1.other W19 (Ne.symm (Nat.ne_of_lt (Nat.lt_of_lt_of_le pr1.lt gz_b13)))).lt (Nat.le_of_eq g20.symm)))), (Ne.symm (Nat.ne_of_lt (Nat.lt_of_lt_of_le ((((((((((V2.other W4 (Ne.symm (Nat.ne_of_lt (Nat.lt_of_lt_of_le pr1.lt gz_b2)))).ext E5).other W8 (Ne.symm (Nat.ne_of_lt (Nat.lt_of_lt_of_le pr1.lt gz_b2)))).ext E9).other W12 (Ne.symm (Nat.ne_of_lt (Nat.lt_of_lt_of_le pr1.lt gz_b2)))).ext E13).keep K15 (ninS (Nat.ne_of_lt (Nat.lt_of_lt_of_le (((((V2.other W4 (Ne.symm (Nat.ne_of_lt (Nat.lt_of_lt_of_le pr1.lt gz_b2)))).ext E5).other W8 (Ne.symm (Nat.ne_of_lt (Nat.lt_of_lt_of_le pr1.lt gz_b2)))).ext E9).other W12 (Ne.symm (Nat.ne_of_lt (Nat.lt_of_lt_of_le pr1.lt gz_b2)))).lt (Nat.le_of_eq g13.symm))) nin0)).other W19 (Ne.symm (Nat.ne_of_lt (Nat.lt_of_lt_of_le pr1.lt gz_b2)))).ext E20).other W23 (Ne.symm (Nat.ne_of_lt (Nat.lt_of_lt_of_le pr1.lt gz_b2)))).lt (Nat.le_of_eq g24.symm)))), (Ne.symm (Nat.ne_of_lt (Nat.lt_of_lt_of_le ((((((((V5.other W8 (Ne.symm (Nat.ne_of_lt (Nat.lt_of_lt_of_le pr1.lt gz_b5)))).ext E9).other W12 (Ne.symm (Nat.ne_of_lt (Nat.lt_of_lt_of_le pr1.lt gz_b5)))).ext E13).keep K15 (ninS (Nat.ne_of_lt (Nat.lt_of_lt_of_le (((V5.other W8 (Ne.symm (Nat.ne_of_lt (Nat.lt_of_lt_of_le pr1.lt gz_b5)))).ext E9).other W12 (Ne.symm (Nat.ne_of_lt (Nat.lt_of_lt_of_le pr1.lt gz_b5)))).lt (Nat.le_of_eq g13.symm))) nin0)).other W19 (Ne.symm (Nat.ne_of_lt (Nat.lt_of_lt_of_le pr1.lt gz_b5)))).ext E20).other W23 (Ne.symm (Nat.ne_of_lt (Nat.lt_of_lt_of_le pr1.lt gz_b5)))).lt (Nat.le_of_eq g24.symm)))), (Ne.symm (Nat.ne_of_lt (Nat.lt_of_lt_of_le ((((((V9.other W12 (Ne.symm (Nat.ne_of_lt (Nat.lt_of_lt_of_le pr1.lt gz_b9)))).ext E13).keep K15 (ninS (Nat.ne_of_lt (Nat.lt_of_lt_of_le (V9.other W12 (Ne.symm (Nat.ne_of_lt (Nat.lt_of_lt_of_le pr1.lt gz_b9)))).lt (Nat.le_of_eq g13.symm))) nin0)).other W19 (Ne.symm (Nat.ne_of_lt (Nat.lt_of_lt_of_le pr1.lt gz_b9)))).ext E20).other W23 (Ne.symm (Nat.ne_of_lt (Nat.lt_of_lt_of_le pr1.lt gz_b9)))).lt (Nat.le_of_eq g24.symm)))), (Ne.symm (Nat.ne_of_lt (Nat.lt_of_lt_of_le (((f15_1.other W19 (Ne.symm (Nat.ne_of_lt (Nat.lt_of_lt_of_le pr1.lt gz_b13)))).ext E20).other W23 (Ne.symm (Nat.ne_of_lt (Nat.lt_of_lt_of_le pr1.lt gz_b13)))).lt (Nat.le_of_eq g24.symm)))), (Ne.symm (Nat.ne_of_lt (Nat.lt_of_lt_of_le (V20.other W23 (Ne.symm (Nat.ne_of_lt (Nat.lt_of_lt_of_le pr1.lt gz_b20)))).lt (Nat.le_of_eq g24.symm)))), (Ne.symm (Nat.ne_of_lt (Nat.lt_of_lt_of_le ((((((((((((V2.other W4 (Ne.symm (Nat.ne_of_lt (Nat.lt_of_lt_of_le pr1.lt gz_b2)))).ext E5).other W8 (Ne.symm (Nat.ne_of_lt (Nat.lt_of_lt_of_le pr1.lt gz_b2)))).ext E9).other W12 (Ne.symm (Nat.ne_of_lt (Nat.lt_of_lt_of_le pr1.lt gz_b2)))).ext E13).keep K15 (ninS (Nat.ne_of_lt (Nat.lt_of_lt_of_le (((((V2.other W4 (Ne.symm (Nat.ne_of_lt (Nat.lt_of_lt_of_le pr1.lt gz_b2)))).ext E5).other W8 (Ne.symm (Nat.ne_of_lt (Nat.lt_of_lt_of_le pr1.lt gz_b2)))).ext E9).other W12 (Ne.symm (Nat.ne_of_lt (Nat.lt_of_lt_of_le pr1.lt gz_b2)))).lt (Nat.le_of_eq g13.symm))) nin0)).other W19 (Ne.symm (Nat.ne_of_lt (Nat.lt_of_lt_of_le pr1.lt gz_b2)))).ext E20).other W23 (Ne.symm (Nat.ne_of_lt (Nat.lt_of_lt_of_le pr1.lt gz_b2)))).ext E24).other W27 (Ne.symm (Nat.ne_of_lt (Nat.lt_of_lt_of_le pr1.lt gz_b2)))).lt (Nat.le_of_eq g28.symm)))), (Ne.symm (Nat.ne_of_lt (Nat.lt_of_lt_of_le ((((((((((V5.other W8 (Ne.symm (Nat.ne_of_lt (Nat.lt_of_lt_of_le pr1.lt gz_b5)))).ext E9).other W12 (Ne.symm (Nat.ne_of_lt (Nat.lt_of_lt_of_le pr1.lt gz_b5)))).ext E13).keep K15 (ninS (Nat.ne_of_lt (Nat.lt_of_lt_of_le (((V5.other W8 (Ne.symm (Nat.ne_of_lt (Nat.lt_of_lt_of_le pr1.lt gz_b5)))).ext E9).other W12 (Ne.symm (Nat.ne_of_lt (Nat.lt_of_lt_of_le pr1.lt gz_b5)))).lt (Nat.le_of_eq g13.symm))) nin0)).other W19 (Ne.symm (Nat.ne_of_lt (Nat.lt_of_lt_of_le pr1.lt gz_b5)))).ext E20).other W23 (Ne.symm (Nat.ne_of_lt (Nat.lt_of_lt_of_le pr1.lt gz_b5)))).ext E24).other W27 (Ne.symm (Nat.ne_of_lt (Nat.lt_of_lt_of_le pr1.lt gz_b5)))).lt (Nat.le_of_eq g28.symm)))), (Ne.symm (Nat.ne_of_lt (Nat.lt_of_lt_of_le ((((((((V9.other W12 (Ne.symm (Nat.ne_of_lt (Nat.lt_of_lt_of_le pr1.lt gz_b9)))).ext E13).keep K15 (ninS (Nat.ne_of_lt (Nat.lt_of_lt_of_le (V9.other W12 (Ne.symm (Nat.ne_of_lt (Nat.lt_of_lt_of_le pr1.lt gz_b9)))).lt (Nat.le_of_eq g13.symm))) nin0)).other W19 (Ne.symm (Nat.ne_of_lt (Nat.lt_of_lt_of_le pr1.lt gz_b9)))).ext E20).other W23 (Ne.symm (Nat.ne_of_lt (Nat.lt_of_lt_of_le pr1.lt gz_b9)))).ext E24).other W27 (Ne.symm (Nat.ne_of_lt (Nat.lt_of_lt_of_le pr1.lt gz_b9)))).lt (Nat.le_of_eq g28.symm)))), (Ne.symm (Nat.ne_of_lt (Nat.lt_of_lt_of_le (((((f15_1.other W19 (Ne.symm (Nat.ne_of_lt (Nat.lt_of_lt_of_le pr1.lt gz_b13)))).ext E20).other W23 (Ne.symm (Nat.ne_of_lt (Nat.lt_of_lt_of_le pr1.lt gz_b13)))).ext E24).other W27 (Ne.symm (Nat.ne_of_lt (Nat.lt_of_lt_of_le pr1.lt gz_b13)))).lt (Nat.le_of_eq g28.symm)))), (Ne.symm (Nat.ne_of_lt (Nat.lt_of_lt_of_le (((V20.other W23 (Ne.symm (Nat.ne_of_lt (Nat.lt_of_lt_of_le pr1.lt gz_b20)))).ext E24).other W27 (Ne.symm (Nat.ne_of_lt (Nat.lt_of_lt_of_le pr1.lt gz_b20)))).lt (Nat.le_of_eq g28.symm)))), (Ne.symm (Nat.ne_of_lt (Nat.lt_of_lt_of_le (V24.other W27 (Ne.symm (Nat.ne_of_lt (Nat.lt_of_lt_of_le pr1.lt gz_b24)))).lt (Nat.le_of_eq g28.symm)))), (Ne.symm (Nat.ne_of_lt (Nat.lt_of_lt_of_le ((((((V2.other W4 (Ne.symm (Nat.ne_of_lt (Nat.lt_of_lt_of_le pr1.lt gz_b2)))).ext E5).other W8 (Ne.symm (Nat.ne_of_lt (Nat.lt_of_lt_of_le pr1.lt gz_b2)))).ext E9).other W12 (Ne.symm (Nat.ne_of_lt (Nat.lt_of_lt_of_le pr1.lt gz_b2)))).ext E13).lt f15_0))), (Ne.symm (Nat.ne_of_lt (Nat.lt_of_lt_of_le ((((V5.other W8 (Ne.symm (Nat.ne_of_lt (Nat.lt_of_lt_of_le pr1.lt gz_b5)))).ext E9).other W12 (Ne.symm (Nat.ne_of_lt (Nat.lt_of_lt_of_le pr1.lt gz_b5)))).ext E13).lt f15_0))), (Ne.symm (Nat.ne_of_lt (Nat.lt_of_lt_of_le ((V9.other W12 (Ne.symm (Nat.ne_of_lt (Nat.lt_of_lt_of_le pr1.lt gz_b9)))).ext E13).lt f15_0))), (Ne.symm (Nat.ne_of_lt (Nat.lt_of_lt_of_le O13.lt f15_0))), (Nat.ne_of_lt (Nat.lt_of_lt_of_le (f15_2.other W19 (Ne.symm (Nat.ne_of_lt (Nat.lt_of_lt_of_le pr1.lt gz_b2_15)))).lt (Nat.le_of_eq g20.symm))), (Nat.ne_of_lt (Nat.lt_of_lt_of_le (((f15_2.other W19 (Ne.symm (Nat.ne_of_lt (Nat.lt_of_lt_of_le pr1.lt gz_b2_15)))).ext E20).other W23 (Ne.symm (Nat.ne_of_lt (Nat.lt_of_lt_of_le pr1.lt gz_b2_15)))).lt (Nat.le_of_eq g24.symm))), (Nat.ne_of_lt (Nat.lt_of_lt_of_le (((((f15_2.other W19 (Ne.symm (Nat.ne_of_lt (Nat.lt_of_lt_of_le pr1.lt gz_b2_15)))).ext E20).other W23 (Ne.symm (Nat.ne_of_lt (Nat.lt_of_lt_of_le pr1.lt gz_b2_15)))).ext E24).other W27 (Ne.symm (Nat.ne_of_lt (Nat.lt_of_lt_of_le pr1.lt gz_b2_15)))).lt (Nat.le_of_eq g28.symm))), O31, O2, ((((((((((((((V2.other W4 (Ne.symm (Nat.ne_of_lt (Nat.lt_of_lt_of_le pr1.lt gz_b2)))).ext E5).other W8 (Ne.symm (Nat.ne_of_lt (Nat.lt_of_lt_of_le pr1.lt gz_b2)))).ext E9).other W12 (Ne.symm (Nat.ne_of_lt (Nat.lt_of_lt_of_le pr1.lt gz_b2)))).ext E13).keep K15 (ninS (Nat.ne_of_lt (Nat.lt_of_lt_of_le (((((V2.other W4 (Ne.symm (Nat.ne_of_lt (Nat.lt_of_lt_of_le pr1.lt gz_b2)))).ext E5).other W8 (Ne.symm (Nat.ne_of_lt (Nat.lt_of_lt_of_le pr1.lt gz_b2)))).ext E9).other W12 (Ne.symm (Nat.ne_of_lt (Nat.lt_of_lt_of_le pr1.lt gz_b2)))).lt (Nat.le_of_eq g13.symm))) nin0)).other W19 (Ne.symm (Nat.ne_of_lt (Nat.lt_of_lt_of_le pr1.lt gz_b2)))).ext E20).other W23 (Ne.symm (Nat.ne_of_lt (Nat.lt_of_lt_of_le pr1.lt gz_b2)))).ext E24).other W27 (Ne.symm (Nat.ne_of_lt (Nat.lt_of_lt_of_le pr1.lt gz_b2)))).ext E28).other W31 (Ne.symm (Nat.ne_of_lt (Nat.lt_of_lt_of_le pr1.lt gz_b2)))), O5, ((((((((((((V5.other W8 (Ne.symm (Nat.ne_of_lt (Nat.lt_of_lt_of_le pr1.lt gz_b5)))).ext E9).other W12 (Ne.symm (Nat.ne_of_lt (Nat.lt_of_lt_of_le pr1.lt gz_b5)))).ext E13).keep K15 (ninS (Nat.ne_of_lt (Nat.lt_of_lt_of_le (((V5.other W8 (Ne.symm (Nat.ne_of_lt (Nat.lt_of_lt_of_le pr1.lt gz_b5)))).ext E9).other W12 (Ne.symm (Nat.ne_of_lt (Nat.lt_of_lt_of_le pr1.lt gz_b5)))).lt (Nat.le_of_eq g13.symm))) nin0)).other W19 (Ne.symm (Nat.ne_of_lt (Nat.lt_of_lt_of_le pr1.lt gz_b5)))).ext E20).other W23 (Ne.symm (Nat.ne_of_lt (Nat.lt_of_lt_of_le pr1.lt gz_b5)))).ext E24).other W27 (Ne.symm (Nat.ne_of_lt (Nat.lt_of_lt_of_le pr1.lt gz_b5)))).ext E28).other W31 (Ne.symm (Nat.ne_of_lt (Nat.lt_of_lt_of_le pr1.lt gz_b5)))), O9, ((((((((((V9.other W12 (Ne.symm (Nat.ne_of_lt (Nat.lt_of_lt_of_le pr1.lt gz_b9)))).ext E13).keep K15 (ninS (Nat.ne_of_lt (Nat.lt_of_lt_of_le (V9.other W12 (Ne.symm (Nat.ne_of_lt (Nat.lt_of_lt_of_le pr1.lt gz_b9)))).lt (Nat.le_of_eq g13.symm))) nin0)).other W19 (Ne.symm (Nat.ne_of_lt (Nat.lt_of_lt_of_le pr1.lt gz_b9)))).ext E20).other W23 (Ne.symm (Nat.ne_of_lt (Nat.lt_of_lt_of_le pr1.lt gz_b9)))).ext E24).other W27 (Ne.symm (Nat.ne_of_lt (Nat.lt_of_lt_of_le pr1.lt gz_b9)))).ext E28).other W31 (Ne.symm (Nat.ne_of_lt (Nat.lt_of_lt_of_le pr1.lt gz_b9)))), (((((((f15_1.other W19 (Ne.symm (Nat.ne_of_lt (Nat.lt_of_lt_of_le pr1.lt gz_b13)))).ext E20).other W23 (Ne.symm (Nat.ne_of_lt (Nat.lt_of_lt_of_le pr1.lt gz_b13)))).ext E24).other W27 (Ne.symm (Nat.ne_of_lt (Nat.lt_of_lt_of_le pr1.lt gz_b13)))).ext E28).other W31 (Ne.symm (Nat.ne_of_lt (Nat.lt_of_lt_of_le pr1.lt gz_b13)))), (((((V20.other W23 (Ne.symm (Nat.ne_of_lt (Nat.lt_of_lt_of_le pr1.lt gz_b20)))).ext E24).other W27 (Ne.symm (Nat.ne_of_lt (Nat.lt_of_lt_of_le pr1.lt gz_b20)))).ext E28).other W31 (Ne.symm (Nat.ne_of_lt (Nat.lt_of_lt_of_le pr1.lt gz_b20)))), (((V24.other W27 (Ne.symm (Nat.ne_of_lt (Nat.lt_of_lt_of_le pr1.lt gz_b24)))).ext E28).other W31 (Ne.symm (Nat.ne_of_lt (Nat.lt_of_lt_of_le pr1.lt gz_b24)))), (V28.other W31 (Ne.symm (Nat.ne_of_lt (Nat.lt_of_lt_of_le pr1.lt gz_b28)))), (((((((f15_2.other W19 (Ne.symm (Nat.ne_of_lt (Nat.lt_of_lt_of_le pr1.lt gz_b2_15)))).ext E20).other W23 (Ne.symm (Nat.ne_of_lt (Nat.lt_of_lt_of_le pr1.lt gz_b2_15)))).ext E24).other W27 (Ne.symm (Nat.ne_of_lt (Nat.lt_of_lt_of_le pr1.lt gz_b2_15)))).ext E28).other W31 (Ne.symm (Nat.ne_of_lt (Nat.lt_of_lt_of_le pr1.lt gz_b2_15))))⟩
theorem w_3 {Z : State} {a0 : Array Value} (hw : ∀ d ∈ tables_1, d.before a0 Z = true) : (Jvm.Cond.methodLink "com/example/kleinmaschine/kleinmaschine/StatementsOperandPinLaw" (9 : Nat) ({ cls := "com/example/kleinmaschine/kleinmaschine/Statements", name := "<init>", desc := "()V" } : Jvm.MethodName)).before a0 Z = true := hw _ (List.mem_of_getElem? (i := 3) rfl)
theorem w_5 {Z : State} {a0 : Array Value} (hw : ∀ d ∈ tables_1, d.before a0 Z = true) : (Jvm.Cond.code ({ cls := "com/example/kleinmaschine/kleinmaschine/Statements", name := "<init>", desc := "()V" } : Jvm.MethodName) prog_52_method_1_code (1 : Nat) (Option.none : Option Jvm.ClassFile.FieldType)).before a0 Z = true := hw _ (List.mem_of_getElem? (i := 5) rfl)
theorem w_4 {Z : State} {a0 : Array Value} (hw : ∀ d ∈ tables_1, d.before a0 Z = true) : (Jvm.Cond.instanceMethod ({ cls := "com/example/kleinmaschine/kleinmaschine/Statements", name := "<init>", desc := "()V" } : Jvm.MethodName)).before a0 Z = true := hw _ (List.mem_of_getElem? (i := 4) rfl)
theorem w_80 {Z : State} {a0 : Array Value} (hw : ∀ d ∈ tables_1, d.before a0 Z = true) : (Jvm.Cond.laysFinal "com/example/kleinmaschine/kleinmaschine/Position" "com/example/kleinmaschine/kleinmaschine/Position" "line" "J").before a0 Z = true := hw _ (List.mem_of_getElem? (i := 80) rfl)
theorem w_82 {Z : State} {a0 : Array Value} (hw : ∀ d ∈ tables_1, d.before a0 Z = true) : (Jvm.Cond.laysFinal "com/example/kleinmaschine/kleinmaschine/Position" "com/example/kleinmaschine/kleinmaschine/Position" "column" "J").before a0 Z = true := hw _ (List.mem_of_getElem? (i := 82) rfl)
theorem lay_Position {Z : State} {a0 : Array Value} (hw : ∀ d ∈ tables_1, d.before a0 Z = true) : LayOk Z a0 "com/example/kleinmaschine/kleinmaschine/Position" [("com/example/kleinmaschine/kleinmaschine/Position", "line", "J"), ("com/example/kleinmaschine/kleinmaschine/Position", "column", "J")] := ⟨allC ⟨(Or.inr (w_80 hw)), ⟨.long, by decide +kernel⟩⟩ (allC ⟨(Or.inr (w_82 hw)), ⟨.long, by decide +kernel⟩⟩ (allN)), by decide +kernel⟩
theorem new_lay_Position {Z : State} {a0 : Array Value} {h : Heap} {b : Addr} (hw : ∀ d ∈ tables_1, d.before a0 Z = true) (A : Exa Z h b "com/example/kleinmaschine/kleinmaschine/Position") (D : ∀ {O nm d : String} {ty : FieldType}, Laid Z a0 "com/example/kleinmaschine/kleinmaschine/Position" O nm d → parseFieldDescriptor d = some ty → Fld Z h b O nm d (defaultValue ty)) : Ob Z h b "com/example/kleinmaschine/kleinmaschine/Position" [("com/example/kleinmaschine/kleinmaschine/Position", "line", "J", (.long 0)), ("com/example/kleinmaschine/kleinmaschine/Position", "column", "J", (.long 0))] := ⟨A, allC (D (Or.inr (w_80 hw)) (ty := .long) (by decide +kernel)) (allC (D (Or.inr (w_82 hw)) (ty := .long) (by decide +kernel)) (allN))⟩
theorem w_67 {Z : State} {a0 : Array Value} (hw : ∀ d ∈ tables_1, d.before a0 Z = true) : (Jvm.Cond.classLink "com/example/kleinmaschine/kleinmaschine/StatementsOperandPinLaw" (10 : Nat) "com/example/kleinmaschine/kleinmaschine/Position").before a0 Z = true := hw _ (List.mem_of_getElem? (i := 67) rfl)
theorem w_68 {Z : State} {a0 : Array Value} (hw : ∀ d ∈ tables_1, d.before a0 Z = true) : (Jvm.Cond.instantiable "com/example/kleinmaschine/kleinmaschine/Position" (2 : Nat)).before a0 Z = true := hw _ (List.mem_of_getElem? (i := 68) rfl)
theorem w_69 {Z : State} {a0 : Array Value} (hw : ∀ d ∈ tables_1, d.before a0 Z = true) : (Jvm.Cond.initialized "com/example/kleinmaschine/kleinmaschine/Position").before a0 Z = true := hw _ (List.mem_of_getElem? (i := 69) rfl)
theorem d_prog_35_method_1_0 : decode prog_35_method_1_code 0 = .ok (.aload_n 0, 1) := by decide +kernel
theorem d_prog_35_method_1_1 : decode prog_35_method_1_code 1 = .ok (.invokespecial 1, 3) := by decide +kernel
theorem d_jdk_30_method_1_0 : decode jdk_30_method_1_code 0 = .ok (.aload_n 0, 1) := by decide +kernel
theorem d_jdk_30_method_1_1 : decode jdk_30_method_1_code 1 = .ok (.invokespecial 1, 3) := by decide +kernel
theorem w_78 {Z : State} {a0 : Array Value} (hw : ∀ d ∈ tables_1, d.before a0 Z = true) : (Jvm.Cond.methodLink "java/lang/Record" (1 : Nat) ({ cls := "java/lang/Object", name := "<init>", desc := "()V" } : Jvm.MethodName)).before a0 Z = true := hw _ (List.mem_of_getElem? (i := 78) rfl)
theorem d_jdk_30_method_1_4 : decode jdk_30_method_1_code 4 = .ok (.return_, 1) := by decide +kernel
theorem pn_Record : plainName "java/lang/Record" = true := by first | (simp [plainName, overriddenIn]; done) | decide +kernel
def Q_Record__init__1 (Z : State) (a1 : Addr) (h0 : Heap) (n0 : Nat) (v : Option Value) (h : Heap) (L : List Loc) : Prop := v = none ∧ Fr n0 L ∧ h = h0
set_option maxRecDepth 65536 in
set_option maxHeartbeats 40000000 in
theorem rm_Record__init__1 (l : Launch) (Z : State) (a0 : Array Value) (hw : ∀ d ∈ tables_1, d.before a0 Z = true) (ws : List Jvm.Cond) (a1 : Addr) (h0 : Heap) (n0 : Nat) (O0 : Old Z n0 h0) :
    MetFree l (⟨"java/lang/Record", "<init>", "()V"⟩ : MethodName) (head1 (Jvm.Cond.code (⟨"java/lang/Record", "<init>", "()V"⟩ : MethodName) jdk_30_method_1_code 1 none :: ws) ({ frames := 1, cells := 0, slots := 0, locals := 12 } : Room)) (fun a U => a = #[(.ref a1)] ∧ Z.Warmed39 U.vm ∧ U.heap = h0) (fun _ _ _ _ _ => True) (fun _ U o U' => ∃ v L, o = .returned v ∧ Q_Record__init__1 Z a1 h0 n0 v U'.heap L ∧ FrameEnd U o U' L ({ frames := 1, cells := 0, slots := 0, locals := 12 } : Room).cells ({ frames := 1, cells := 0, slots := 0, locals := 12 } : Room).slots) := by
  refine MetFree.of_bodySF (plainFor_of_name pn_Record) hisR ?_
  intro p e s m args below meth c s₁ Bd hml0 hP hK
  obtain ⟨rfl, hZ, hh⟩ := hP
  have hx := Bd.exec
  have hby := Bd.bytes
  have hml : c.maxLocals = 1 := hml0
  have hown : s.vm.findClass "java/lang/Record" = some m.cls := findClass_of_methodNamed Bd.named
  have hnm := (name_of_methodNamed Bd.named Bd.method).1
  have X0 : Stand p l e ({ frames := 1, cells := 0, slots := 0, locals := 12 } : Room) s m #[(.ref a1)] below meth c s₁ [] 0 0 := Stand.of_body Bd
  have e0 : s₁.heap = h0 := by rw [← hh, Bd.state]; rfl
  have N0 := Fr.nil n0
  obtain ⟨G0, hG0⟩ : ∃ z, z = (mkF m 0 #[.val (.ref a1)] []) := ⟨_, rfl⟩
  have pre0 : ∀ t, Steps p.tables e below (s₁.setTop G0) t → Steps p.tables e below (s₁.setTop (entryFrame m #[(.ref a1)] 1)) t := fun t k => castTop (ef_R_1 m a1) (hG0 ▸ k)
  have k : Goes p e below s₁ G0 s₁ (mkF m 0 #[.val (.ref a1)] []) := fun t q => hG0 ▸ q
  replace k := Fw.aloadN k X0 hx (hb hby d_jdk_30_method_1_0) rfl rfl (pc' := 1) rfl
  obtain ⟨T1, X1, e1, st1⟩ := initO X0 hx hZ hown (w_78 hw) (w_7 hw) (w_8 hw) e0 (g := (mkF m 1 #[.val (.ref a1)] [(.ref a1)])) rfl (by rw [hml]; rfl) rfl (hb hby d_jdk_30_method_1_1) (by decide) (W := 0) (by show 2 * 0 + _ ≤ _; exact Nat.le_of_eq rfl) (by decide)
  replace k : Goes p e below s₁ G0 T1 (mkF m 4 #[.val (.ref a1)] []) := fun t q => k t (st1 _ q)
  obtain ⟨fs, hr, hrun, hended, hW, hsame⟩ := X1.leave (v := none) (fun _ => rfl)
  refine ⟨_, _, pre0 _ (k _ ?_), hrun, hended, _, _, rfl, ?_, ⟨_, rfl⟩, hW, hsame.mono (by decide) (by decide)⟩
  · exact X1.returnOut hx Bd.returns (hb hby d_jdk_30_method_1_4) hr
  · show Q_Record__init__1 Z a1 h0 n0 _ T1.heap _
    rw [e1]
    exact ⟨rfl, N0, rfl⟩
theorem w_73 {Z : State} {a0 : Array Value} (hw : ∀ d ∈ tables_1, d.before a0 Z = true) : (Jvm.Cond.methodLink "com/example/kleinmaschine/kleinmaschine/Position" (1 : Nat) ({ cls := "java/lang/Record", name := "<init>", desc := "()V" } : Jvm.MethodName)).before a0 Z = true := hw _ (List.mem_of_getElem? (i := 73) rfl)
theorem w_77 {Z : State} {a0 : Array Value} (hw : ∀ d ∈ tables_1, d.before a0 Z = true) : (Jvm.Cond.code ({ cls := "java/lang/Record", name := "<init>", desc := "()V" } : Jvm.MethodName) jdk_30_method_1_code (1 : Nat) (Option.none : Option Jvm.ClassFile.FieldType)).before a0 Z = true := hw _ (List.mem_of_getElem? (i := 77) rfl)
theorem w_76 {Z : State} {a0 : Array Value} (hw : ∀ d ∈ tables_1, d.before a0 Z = true) : (Jvm.Cond.initialized "java/lang/Record").before a0 Z = true := hw _ (List.mem_of_getElem? (i := 76) rfl)
theorem w_74 {Z : State} {a0 : Array Value} (hw : ∀ d ∈ tables_1, d.before a0 Z = true) : (Jvm.Cond.instanceMethod ({ cls := "java/lang/Record", name := "<init>", desc := "()V" } : Jvm.MethodName)).before a0 Z = true := hw _ (List.mem_of_getElem? (i := 74) rfl)
theorem d_prog_35_method_1_4 : decode prog_35_method_1_code 4 = .ok (.aload_n 0, 1) := by decide +kernel
theorem d_prog_35_method_1_5 : decode prog_35_method_1_code 5 = .ok (.lload_n 1, 1) := by decide +kernel
theorem d_prog_35_method_1_6 : decode prog_35_method_1_code 6 = .ok (.putfield 7, 3) := by decide +kernel
theorem w_79 {Z : State} {a0 : Array Value} (hw : ∀ d ∈ tables_1, d.before a0 Z = true) : (Jvm.Cond.fieldLink "com/example/kleinmaschine/kleinmaschine/Position" (7 : Nat) "com/example/kleinmaschine/kleinmaschine/Position" "line" "J").before a0 Z = true := hw _ (List.mem_of_getElem? (i := 79) rfl)
theorem d_prog_35_method_1_9 : decode prog_35_method_1_code 9 = .ok (.aload_n 0, 1) := by decide +kernel
theorem d_prog_35_method_1_10 : decode prog_35_method_1_code 10 = .ok (.lload_n 3, 1) := by decide +kernel
theorem d_prog_35_method_1_11 : decode prog_35_method_1_code 11 = .ok (.putfield 13, 3) := by decide +kernel
theorem w_81 {Z : State} {a0 : Array Value} (hw : ∀ d ∈ tables_1, d.before a0 Z = true) : (Jvm.Cond.fieldLink "com/example/kleinmaschine/kleinmaschine/Position" (13 : Nat) "com/example/kleinmaschine/kleinmaschine/Position" "column" "J").before a0 Z = true := hw _ (List.mem_of_getElem? (i := 81) rfl)
theorem d_prog_35_method_1_14 : decode prog_35_method_1_code 14 = .ok (.return_, 1) := by decide +kernel
theorem pn_Position : plainName "com/example/kleinmaschine/kleinmaschine/Position" = true := by first | (simp [plainName, overriddenIn]; done) | decide +kernel
theorem ef_RJJ_5 (m : MethodId) (x0 : Addr) (x1 : Int64) (x2 : Int64) : entryFrame m #[(.ref x0), (.long x1), (.long x2)] 5 = mkF m 0 #[.val (.ref x0), .val (.long x1), .second, .val (.long x2), .second] [] := by first | (simp [entryFrame, mkF, argsToLocals, Value.category]; done) | rfl
def Q_Position__init__1 (Z : State) (a1 : Addr) (h0 : Heap) (n0 : Nat) (v : Option Value) (h : Heap) (L : List Loc) : Prop := v = none ∧ Fr n0 L ∧ Keep h0 h [a1] ∧ Ob Z h a1 "com/example/kleinmaschine/kleinmaschine/Position" [("com/example/kleinmaschine/kleinmaschine/Position", "line", "J", (.long 1)), ("com/example/kleinmaschine/kleinmaschine/Position", "column", "J", (.long 1))]
set_option maxRecDepth 65536 in
set_option maxHeartbeats 40000000 in
theorem rm_Position__init__1 (l : Launch) (Z : State) (a0 : Array Value) (hw : ∀ d ∈ tables_1, d.before a0 Z = true) (ws : List Jvm.Cond) (a1 : Addr) (h0 : Heap) (n0 : Nat) (O0 : Old Z n0 h0) (pr1 : Ob Z h0 a1 "com/example/kleinmaschine/kleinmaschine/Position" [("com/example/kleinmaschine/kleinmaschine/Position", "line", "J", (.long 0)), ("com/example/kleinmaschine/kleinmaschine/Position", "column", "J", (.long 0))]) (pr2 : n0 ≤ a1) :
    MetFree l (⟨"com/example/kleinmaschine/kleinmaschine/Position", "<init>", "(JJ)V"⟩ : MethodName) (head1 (Jvm.Cond.code (⟨"com/example/kleinmaschine/kleinmaschine/Position", "<init>", "(JJ)V"⟩ : MethodName) prog_35_method_1_code 5 none :: ws) ({ frames := 2, cells := 0, slots := 0, locals := 24 } : Room)) (fun a U => a = #[(.ref a1), (.long 1), (.long 1)] ∧ Z.Warmed39 U.vm ∧ U.heap = h0) (fun _ _ _ _ _ => True) (fun _ U o U' => ∃ v L, o = .returned v ∧ Q_Position__init__1 Z a1 h0 n0 v U'.heap L ∧ FrameEnd U o U' L ({ frames := 2, cells := 0, slots := 0, locals := 24 } : Room).cells ({ frames := 2, cells := 0, slots := 0, locals := 24 } : Room).slots) := by
  refine MetFree.of_bodySF (plainFor_of_name pn_Position) hisR ?_
  intro p e s m args below meth c s₁ Bd hml0 hP hK
  obtain ⟨rfl, hZ, hh⟩ := hP
  have hx := Bd.exec
  have hby := Bd.bytes
  have hml : c.maxLocals = 5 := hml0
  have hown : s.vm.findClass "com/example/kleinmaschine/kleinmaschine/Position" = some m.cls := findClass_of_methodNamed Bd.named
  have hnm := (name_of_methodNamed Bd.named Bd.method).1
  have X0 : Stand p l e ({ frames := 2, cells := 0, slots := 0, locals := 24 } : Room) s m #[(.ref a1), (.long 1), (.long 1)] below meth c s₁ [] 0 0 := Stand.of_body Bd
  have e0 : s₁.heap = h0 := by rw [← hh, Bd.state]; rfl
  have N0 := Fr.nil n0
  obtain ⟨G0, hG0⟩ : ∃ z, z = (mkF m 0 #[.val (.ref a1), .val (.long 1), .second, .val (.long 1), .second] []) := ⟨_, rfl⟩
  have pre0 : ∀ t, Steps p.tables e below (s₁.setTop G0) t → Steps p.tables e below (s₁.setTop (entryFrame m #[(.ref a1), (.long 1), (.long 1)] 5)) t := fun t k => castTop (ef_RJJ_5 m a1 ((1 : Int64)) ((1 : Int64))) (hG0 ▸ k)
  have k : Goes p e below s₁ G0 s₁ (mkF m 0 #[.val (.ref a1), .val (.long 1), .second, .val (.long 1), .second] []) := fun t q => hG0 ▸ q
  replace k := Fw.aloadN k X0 hx (hb hby d_prog_35_method_1_0) rfl rfl (pc' := 1) rfl
  obtain ⟨_, _, ⟨T1, L1, kz1, nz1⟩, -, X1, ⟨Lc1, hQ1, l1, y1, z1⟩, st1⟩ := X0.specialBack hx (y := (⟨"java/lang/Record", "<init>", "()V"⟩ : MethodName)) rfl hown (mvT hZ (w_73 hw)) (mvT hZ (w_74 hw)) (mvT hZ (w_77 hw)) (by decide) (backOf (W := 0) (rm_Record__init__1 l Z a0 hw [] a1 h0 n0 O0 ) hZ (w_77 hw) (w_76 hw) (by decide) (by decide)) (g := (mkF m 1 #[.val (.ref a1), .val (.long 1), .second, .val (.long 1), .second] [(.ref a1)])) rfl (by rw [hml]; rfl) (Steps.refl _) (a := a1) (argsL := []) (rest := []) (lenOf pd__r_V rfl) rfl (by show 2 * 0 + _ ≤ _; exact Nat.le_of_eq rfl) (hb hby d_prog_35_method_1_1) (fun _ _ => ⟨rfl, e0, (by decide : 0 + 0 ≤ _), (by decide : 0 + 0 ≤ _)⟩)
  dsimp only [Pt.U, Pt.locs, Pt.cells, Pt.slots] at X1 l1 y1 z1 st1 hQ1
  subst l1 y1 z1
  obtain ⟨hv1, N1q, e1⟩ := hQ1
  subst hv1
  have N1 := Fr.app N0 N1q
  replace k : Goes p e below s₁ G0 T1 (mkF m 4 #[.val (.ref a1), .val (.long 1), .second, .val (.long 1), .second] []) := fun t q => k t (st1.trans q)
  replace k := Fw.aloadN k X1 hx (hb hby d_prog_35_method_1_4) rfl rfl (pc' := 5) rfl
  replace k := Fw.lloadN k X1 hx (hb hby d_prog_35_method_1_5) rfl (pc' := 6) rfl
  obtain ⟨T2, h2, X2, e2, W2, st2⟩ := putF X1 hx hZ hown (host := "") (Or.inl (w_79 hw)) Via.refl e1 (Ob.at pr1 0 rfl) pr1.exa (Or.inr ⟨(w_80 hw), rfl, hnm⟩) (w_68 hw) (ty := .long) (by decide +kernel) rfl rfl (g := (mkF m 6 #[.val (.ref a1), .val (.long 1), .second, .val (.long 1), .second] [(.long 1), (.ref a1)])) rfl rfl (hb hby d_prog_35_method_1_6)
  have N2 := Fr.snoc X2 N1 pr2
  have O2 : Ob Z h2 a1 "com/example/kleinmaschine/kleinmaschine/Position" [("com/example/kleinmaschine/kleinmaschine/Position", "line", "J", (.long 1)), ("com/example/kleinmaschine/kleinmaschine/Position", "column", "J", (.long 0))] := Ob.put pr1 (lay_Position hw) 0 rfl W2
  replace k : Goes p e below s₁ G0 T2 (mkF m 9 #[.val (.ref a1), .val (.long 1), .second, .val (.long 1), .second] []) := fun t q => k t (st2 _ q)
  replace k := Fw.aloadN k X2 hx (hb hby d_prog_35_method_1_9) rfl rfl (pc' := 10) rfl
  replace k := Fw.lloadN k X2 hx (hb hby d_prog_35_method_1_10) rfl (pc' := 11) rfl
  obtain ⟨T3, h3, X3, e3, W3, st3⟩ := putF X2 hx hZ hown (host := "") (Or.inl (w_81 hw)) Via.refl e2 (Ob.at O2 1 rfl) O2.exa (Or.inr ⟨(w_82 hw), rfl, hnm⟩) (w_68 hw) (ty := .long) (by decide +kernel) rfl rfl (g := (mkF m 11 #[.val (.ref a1), .val (.long 1), .second, .val (.long 1), .second] [(.long 1), (.ref a1)])) rfl rfl (hb hby d_prog_35_method_1_11)
  have N3 := Fr.snoc X3 N2 pr2
  have O3 : Ob Z h3 a1 "com/example/kleinmaschine/kleinmaschine/Position" [("com/example/kleinmaschine/kleinmaschine/Position", "line", "J", (.long 1)), ("com/example/kleinmaschine/kleinmaschine/Position", "column", "J", (.long 1))] := Ob.put O2 (lay_Position hw) 1 rfl W3
  replace k : Goes p e below s₁ G0 T3 (mkF m 14 #[.val (.ref a1), .val (.long 1), .second, .val (.long 1), .second] []) := fun t q => k t (st3 _ q)
  obtain ⟨fs, hr, hrun, hended, hW, hsame⟩ := X3.leave (v := none) (fun _ => rfl)
  refine ⟨_, _, pre0 _ (k _ ?_), hrun, hended, _, _, rfl, ?_, ⟨_, rfl⟩, hW, hsame.mono (by decide) (by decide)⟩
  · exact X3.returnOut hx Bd.returns (hb hby d_prog_35_method_1_14) hr
  · show Q_Position__init__1 Z a1 h0 n0 _ T3.heap _
    rw [e3]
    exact ⟨rfl, N3, (((Keep.refl h0 [a1]).wr W2 (Or.inl (List.mem_of_getElem? (i := 0) rfl))).wr W3 (Or.inl (List.mem_of_getElem? (i := 0) rfl))), O3⟩
theorem w_70 {Z : State} {a0 : Array Value} (hw : ∀ d ∈ tables_1, d.before a0 Z = true) : (Jvm.Cond.methodLink "com/example/kleinmaschine/kleinmaschine/StatementsOperandPinLaw" (12 : Nat) ({ cls := "com/example/kleinmaschine/kleinmaschine/Position", name := "<init>", desc := "(JJ)V" } : Jvm.MethodName)).before a0 Z = true := hw _ (List.mem_of_getElem? (i := 70) rfl)
theorem w_72 {Z : State} {a0 : Array Value} (hw : ∀ d ∈ tables_1, d.before a0 Z = true) : (Jvm.Cond.code ({ cls := "com/example/kleinmaschine/kleinmaschine/Position", name := "<init>", desc := "(JJ)V" } : Jvm.MethodName) prog_35_method_1_code (5 : Nat) (Option.none : Option Jvm.ClassFile.FieldType)).before a0 Z = true := hw _ (List.mem_of_getElem? (i := 72) rfl)
theorem pd_JJ_r_V : parseMethodDescriptor "(JJ)V" = some ⟨[.long, .long], none⟩ := by decide +kernel
theorem w_71 {Z : State} {a0 : Array Value} (hw : ∀ d ∈ tables_1, d.before a0 Z = true) : (Jvm.Cond.instanceMethod ({ cls := "com/example/kleinmaschine/kleinmaschine/Position", name := "<init>", desc := "(JJ)V" } : Jvm.MethodName)).before a0 Z = true := hw _ (List.mem_of_getElem? (i := 71) rfl)
theorem d_prog_52_method_3_0 : decode prog_52_method_3_code 0 = .ok (.aload_n 0, 1) := by decide +kernel
theorem d_prog_52_method_3_1 : decode prog_52_method_3_code 1 = .ok (.invokevirtual 49, 3) := by decide +kernel
theorem d_prog_52_method_15_0 : decode prog_52_method_15_code 0 = .ok (.aload_n 0, 1) := by decide +kernel
theorem d_prog_52_method_15_1 : decode prog_52_method_15_code 1 = .ok (.getfield 117, 3) := by decide +kernel
theorem w_92 {Z : State} {a0 : Array Value} (hw : ∀ d ∈ tables_1, d.before a0 Z = true) : (Jvm.Cond.fieldLink "com/example/kleinmaschine/kleinmaschine/Statements" (117 : Nat) "com/example/kleinmaschine/kleinmaschine/Statements" "heads" "[I").before a0 Z = true := hw _ (List.mem_of_getElem? (i := 92) rfl)
theorem d_prog_52_method_15_4 : decode prog_52_method_15_code 4 = .ok (.ifnull 13, 3) := by decide +kernel
theorem d_prog_52_method_15_17 : decode prog_52_method_15_code 17 = .ok (.return_, 1) := by decide +kernel
def Q_Statements_checkAdding_1 (Z : State) (a1 : Addr) (a2 : Addr) (a3 : Addr) (a4 : Addr) (a5 : Addr) (a6 : Addr) (a7 : Addr) (a8 : Addr) (h0 : Heap) (n0 : Nat) (v : Option Value) (h : Heap) (L : List Loc) : Prop := v = none ∧ Fr n0 L ∧ h = h0
set_option maxRecDepth 65536 in
set_option maxHeartbeats 40000000 in
theorem rm_Statements_checkAdding_1 (l : Launch) (Z : State) (a0 : Array Value) (hw : ∀ d ∈ tables_1, d.before a0 Z = true) (ws : List Jvm.Cond) (a1 : Addr) (a2 : Addr) (a3 : Addr) (a4 : Addr) (a5 : Addr) (a6 : Addr) (a7 : Addr) (a8 : Addr) (h0 : Heap) (n0 : Nat) (O0 : Old Z n0 h0) (pr1 : Ob Z h0 a1 "com/example/kleinmaschine/kleinmaschine/Statements" [("com/example/kleinmaschine/kleinmaschine/Statements", "headPages", "[[I", (.ref a2)), ("com/example/kleinmaschine/kleinmaschine/Statements", "upperPages", "[[I", (.ref a3)), ("com/example/kleinmaschine/kleinmaschine/Statements", "lowerPages", "[[I", (.ref a4)), ("com/example/kleinmaschine/kleinmaschine/Statements", "records", "Lcom/example/kleinmaschine/kleinmaschine/PagedBytes;", (.ref a5)), ("com/example/kleinmaschine/kleinmaschine/Statements", "checkpointPlaces", "[J", (.ref a6)), ("com/example/kleinmaschine/kleinmaschine/Statements", "checkpointLines", "[J", (.ref a7)), ("com/example/kleinmaschine/kleinmaschine/Statements", "checkpointColumns", "[J", (.ref a8)), ("com/example/kleinmaschine/kleinmaschine/Statements", "heads", "[I", .null), ("com/example/kleinmaschine/kleinmaschine/Statements", "size", "I", (.int 0)), ("com/example/kleinmaschine/kleinmaschine/Statements", "lastLine", "J", (.long 0)), ("com/example/kleinmaschine/kleinmaschine/Statements", "lastColumn", "J", (.long 0)), ("com/example/kleinmaschine/kleinmaschine/Statements", "uppers", "[I", .null), ("com/example/kleinmaschine/kleinmaschine/Statements", "lowers", "[I", .null)]) :
    MetFree l (⟨"com/example/kleinmaschine/kleinmaschine/Statements", "checkAdding", "()V"⟩ : MethodName) (head1 (Jvm.Cond.code (⟨"com/example/kleinmaschine/kleinmaschine/Statements", "checkAdding", "()V"⟩ : MethodName) prog_52_method_15_code 1 none :: ws) ({ frames := 0, cells := 0, slots := 0, locals := 0 } : Room)) (fun a U => a = #[(.ref a1)] ∧ Z.Warmed39 U.vm ∧ U.heap = h0) (fun _ _ _ _ _ => True) (fun _ U o U' => ∃ v L, o = .returned v ∧ Q_Statements_checkAdding_1 Z a1 a2 a3 a4 a5 a6 a7 a8 h0 n0 v U'.heap L ∧ FrameEnd U o U' L ({ frames := 0, cells := 0, slots := 0, locals := 0 } : Room).cells ({ frames := 0, cells := 0, slots := 0, locals := 0 } : Room).slots) := by
  refine MetFree.of_bodySF (plainFor_of_name pn_Statements) hisR ?_
  intro p e s m args below meth c s₁ Bd hml0 hP hK
  obtain ⟨rfl, hZ, hh⟩ := hP
  have hx := Bd.exec
  have hby := Bd.bytes
  have hml : c.maxLocals = 1 := hml0
  have hown : s.vm.findClass "com/example/kleinmaschine/kleinmaschine/Statements" = some m.cls := findClass_of_methodNamed Bd.named
  have hnm := (name_of_methodNamed Bd.named Bd.method).1
  have X0 : Stand p l e ({ frames := 0, cells := 0, slots := 0, locals := 0 } : Room) s m #[(.ref a1)] below meth c s₁ [] 0 0 := Stand.of_body Bd
  have e0 : s₁.heap = h0 := by rw [← hh, Bd.state]; rfl
  have N0 := Fr.nil n0
  obtain ⟨G0, hG0⟩ : ∃ z, z = (mkF m 0 #[.val (.ref a1)] []) := ⟨_, rfl⟩
  have pre0 : ∀ t, Steps p.tables e below (s₁.setTop G0) t → Steps p.tables e below (s₁.setTop (entryFrame m #[(.ref a1)] 1)) t := fun t k => castTop (ef_R_1 m a1) (hG0 ▸ k)
  have k : Goes p e below s₁ G0 s₁ (mkF m 0 #[.val (.ref a1)] []) := fun t q => hG0 ▸ q
  replace k := Fw.aloadN k X0 hx (hb hby d_prog_52_method_15_0) rfl rfl (pc' := 1) rfl
  obtain ⟨T1, X1, e1, st1⟩ := getF X0 hx hZ hown (host := "") (Or.inl (w_92 hw)) Via.refl e0 (Ob.at pr1 7 rfl) (g := (mkF m 1 #[.val (.ref a1)] [(.ref a1)])) rfl rfl (hb hby d_prog_52_method_15_1)
  replace k : Goes p e below s₁ G0 T1 (mkF m 4 #[.val (.ref a1)] [.null]) := fun t q => k t (st1 _ q)
  replace k := Fw.ifnullYes k X1 hx (hb hby d_prog_52_method_15_4) (by decide) (pc' := 17) rfl
  obtain ⟨fs, hr, hrun, hended, hW, hsame⟩ := X1.leave (v := none) (fun _ => rfl)
  refine ⟨_, _, pre0 _ (k _ ?_), hrun, hended, _, _, rfl, ?_, ⟨_, rfl⟩, hW, hsame.mono (by decide) (by decide)⟩
  · exact X1.returnOut hx Bd.returns (hb hby d_prog_52_method_15_17) hr
  · show Q_Statements_checkAdding_1 Z a1 a2 a3 a4 a5 a6 a7 a8 h0 n0 _ T1.heap _
    rw [e1]
    exact ⟨rfl, N0, rfl⟩
theorem w_88 {Z : State} {a0 : Array Value} (hw : ∀ d ∈ tables_1, d.before a0 Z = true) : (Jvm.Cond.methodLink "com/example/kleinmaschine/kleinmaschine/Statements" (49 : Nat) ({ cls := "com/example/kleinmaschine/kleinmaschine/Statements", name := "checkAdding", desc := "()V" } : Jvm.MethodName)).before a0 Z = true := hw _ (List.mem_of_getElem? (i := 88) rfl)
theorem w_91 {Z : State} {a0 : Array Value} (hw : ∀ d ∈ tables_1, d.before a0 Z = true) : (Jvm.Cond.code ({ cls := "com/example/kleinmaschine/kleinmaschine/Statements", name := "checkAdding", desc := "()V" } : Jvm.MethodName) prog_52_method_15_code (1 : Nat) (Option.none : Option Jvm.ClassFile.FieldType)).before a0 Z = true := hw _ (List.mem_of_getElem? (i := 91) rfl)
theorem w_90 {Z : State} {a0 : Array Value} (hw : ∀ d ∈ tables_1, d.before a0 Z = true) : (Jvm.Cond.privateMethod ({ cls := "com/example/kleinmaschine/kleinmaschine/Statements", name := "checkAdding", desc := "()V" } : Jvm.MethodName)).before a0 Z = true := hw _ (List.mem_of_getElem? (i := 90) rfl)
theorem w_89 {Z : State} {a0 : Array Value} (hw : ∀ d ∈ tables_1, d.before a0 Z = true) : (Jvm.Cond.instanceMethod ({ cls := "com/example/kleinmaschine/kleinmaschine/Statements", name := "checkAdding", desc := "()V" } : Jvm.MethodName)).before a0 Z = true := hw _ (List.mem_of_getElem? (i := 89) rfl)
theorem d_prog_52_method_3_4 : decode prog_52_method_3_code 4 = .ok (.aload_n 0, 1) := by decide +kernel
theorem d_prog_52_method_3_5 : decode prog_52_method_3_code 5 = .ok (.getfield 52, 3) := by decide +kernel
theorem w_94 {Z : State} {a0 : Array Value} (hw : ∀ d ∈ tables_1, d.before a0 Z = true) : (Jvm.Cond.fieldLink "com/example/kleinmaschine/kleinmaschine/Statements" (52 : Nat) "com/example/kleinmaschine/kleinmaschine/Statements" "size" "I").before a0 Z = true := hw _ (List.mem_of_getElem? (i := 94) rfl)
theorem d_prog_52_method_3_8 : decode prog_52_method_3_code 8 = .ok (.ldc 38, 2) := by decide +kernel
theorem w_96 {Z : State} {a0 : Array Value} (hw : ∀ d ∈ tables_1, d.before a0 Z = true) : (Jvm.Cond.constant "com/example/kleinmaschine/kleinmaschine/Statements" (38 : Nat) (8388608 : Int32)).before a0 Z = true := hw _ (List.mem_of_getElem? (i := 96) rfl)
theorem d_prog_52_method_3_10 : decode prog_52_method_3_code 10 = .ok (.if_icmp .ne 13, 3) := by decide +kernel
theorem d_prog_52_method_3_23 : decode prog_52_method_3_code 23 = .ok (.aload_n 0, 1) := by decide +kernel
theorem d_prog_52_method_3_24 : decode prog_52_method_3_code 24 = .ok (.getfield 52, 3) := by decide +kernel
theorem d_prog_52_method_3_27 : decode prog_52_method_3_code 27 = .ok (.getstatic 63, 3) := by decide +kernel
theorem w_97 {Z : State} {a0 : Array Value} (hw : ∀ d ∈ tables_1, d.before a0 Z = true) : (Jvm.Cond.fieldLink "com/example/kleinmaschine/kleinmaschine/Statements" (63 : Nat) "com/example/kleinmaschine/kleinmaschine/Statements" "PAGE_BITS" "I").before a0 Z = true := hw _ (List.mem_of_getElem? (i := 97) rfl)
theorem d_prog_52_method_3_30 : decode prog_52_method_3_code 30 = .ok (.iushr, 1) := by decide +kernel
theorem d_prog_52_method_3_31 : decode prog_52_method_3_code 31 = .ok (.istore 7, 2) := by decide +kernel
theorem d_prog_52_method_3_33 : decode prog_52_method_3_code 33 = .ok (.aload_n 0, 1) := by decide +kernel
theorem d_prog_52_method_3_34 : decode prog_52_method_3_code 34 = .ok (.getfield 52, 3) := by decide +kernel
theorem d_prog_52_method_3_37 : decode prog_52_method_3_code 37 = .ok (.sipush 16383, 3) := by decide +kernel
theorem d_prog_52_method_3_40 : decode prog_52_method_3_code 40 = .ok (.iand, 1) := by decide +kernel
theorem d_prog_52_method_3_41 : decode prog_52_method_3_code 41 = .ok (.ifCond .ne 103, 3) := by decide +kernel
theorem d_prog_52_method_3_44 : decode prog_52_method_3_code 44 = .ok (.iload 7, 2) := by decide +kernel
theorem d_prog_52_method_3_46 : decode prog_52_method_3_code 46 = .ok (.aload_n 0, 1) := by decide +kernel
theorem d_prog_52_method_3_47 : decode prog_52_method_3_code 47 = .ok (.getfield 11, 3) := by decide +kernel
theorem d_prog_52_method_3_50 : decode prog_52_method_3_code 50 = .ok (.arraylength, 1) := by decide +kernel
theorem d_prog_52_method_3_51 : decode prog_52_method_3_code 51 = .ok (.if_icmp .ne 57, 3) := by decide +kernel
theorem d_prog_52_method_3_108 : decode prog_52_method_3_code 108 = .ok (.aload_n 0, 1) := by decide +kernel
theorem d_prog_52_method_3_109 : decode prog_52_method_3_code 109 = .ok (.getfield 11, 3) := by decide +kernel
theorem d_prog_52_method_3_112 : decode prog_52_method_3_code 112 = .ok (.iload 7, 2) := by decide +kernel
theorem d_prog_52_method_3_114 : decode prog_52_method_3_code 114 = .ok (.sipush 16384, 3) := by decide +kernel
theorem d_prog_52_method_3_117 : decode prog_52_method_3_code 117 = .ok (.newarray .int, 2) := by decide +kernel
theorem w_99 {Z : State} {a0 : Array Value} (hw : ∀ d ∈ tables_1, d.before a0 Z = true) : (Jvm.Cond.arrayClass Jvm.ClassFile.FieldType.int).before a0 Z = true := hw _ (List.mem_of_getElem? (i := 99) rfl)
theorem d_prog_52_method_3_119 : decode prog_52_method_3_code 119 = .ok (.aastore, 1) := by decide +kernel
theorem d_prog_52_method_3_120 : decode prog_52_method_3_code 120 = .ok (.aload_n 0, 1) := by decide +kernel
theorem d_prog_52_method_3_121 : decode prog_52_method_3_code 121 = .ok (.getfield 15, 3) := by decide +kernel
theorem d_prog_52_method_3_124 : decode prog_52_method_3_code 124 = .ok (.iload 7, 2) := by decide +kernel
theorem d_prog_52_method_3_126 : decode prog_52_method_3_code 126 = .ok (.sipush 16384, 3) := by decide +kernel
theorem d_prog_52_method_3_129 : decode prog_52_method_3_code 129 = .ok (.newarray .int, 2) := by decide +kernel
theorem d_prog_52_method_3_131 : decode prog_52_method_3_code 131 = .ok (.aastore, 1) := by decide +kernel
theorem d_prog_52_method_3_132 : decode prog_52_method_3_code 132 = .ok (.aload_n 0, 1) := by decide +kernel
theorem d_prog_52_method_3_133 : decode prog_52_method_3_code 133 = .ok (.getfield 18, 3) := by decide +kernel
theorem d_prog_52_method_3_136 : decode prog_52_method_3_code 136 = .ok (.iload 7, 2) := by decide +kernel
theorem d_prog_52_method_3_138 : decode prog_52_method_3_code 138 = .ok (.sipush 16384, 3) := by decide +kernel
theorem d_prog_52_method_3_141 : decode prog_52_method_3_code 141 = .ok (.newarray .int, 2) := by decide +kernel
theorem d_prog_52_method_3_143 : decode prog_52_method_3_code 143 = .ok (.aastore, 1) := by decide +kernel
theorem d_prog_52_method_3_144 : decode prog_52_method_3_code 144 = .ok (.aload_n 0, 1) := by decide +kernel
theorem d_prog_52_method_3_145 : decode prog_52_method_3_code 145 = .ok (.getfield 11, 3) := by decide +kernel
theorem d_prog_52_method_3_148 : decode prog_52_method_3_code 148 = .ok (.iload 7, 2) := by decide +kernel
theorem d_prog_52_method_3_150 : decode prog_52_method_3_code 150 = .ok (.aaload, 1) := by decide +kernel
theorem d_prog_52_method_3_151 : decode prog_52_method_3_code 151 = .ok (.aload_n 0, 1) := by decide +kernel
theorem d_prog_52_method_3_152 : decode prog_52_method_3_code 152 = .ok (.getfield 52, 3) := by decide +kernel
theorem d_prog_52_method_3_155 : decode prog_52_method_3_code 155 = .ok (.sipush 16383, 3) := by decide +kernel
theorem d_prog_52_method_3_158 : decode prog_52_method_3_code 158 = .ok (.iand, 1) := by decide +kernel
theorem d_prog_52_method_3_159 : decode prog_52_method_3_code 159 = .ok (.iload_n 1, 1) := by decide +kernel
theorem d_prog_52_method_3_160 : decode prog_52_method_3_code 160 = .ok (.iastore, 1) := by decide +kernel
theorem d_prog_52_method_3_161 : decode prog_52_method_3_code 161 = .ok (.aload_n 0, 1) := by decide +kernel
theorem d_prog_52_method_3_162 : decode prog_52_method_3_code 162 = .ok (.aload_n 0, 1) := by decide +kernel
theorem d_prog_52_method_3_163 : decode prog_52_method_3_code 163 = .ok (.getfield 52, 3) := by decide +kernel
theorem d_prog_52_method_3_166 : decode prog_52_method_3_code 166 = .ok (.lload_n 2, 1) := by decide +kernel
theorem d_prog_52_method_3_167 : decode prog_52_method_3_code 167 = .ok (.invokevirtual 73, 3) := by decide +kernel
theorem d_prog_52_method_5_0 : decode prog_52_method_5_code 0 = .ok (.aload_n 0, 1) := by decide +kernel
theorem d_prog_52_method_5_1 : decode prog_52_method_5_code 1 = .ok (.getfield 15, 3) := by decide +kernel
theorem d_prog_52_method_5_4 : decode prog_52_method_5_code 4 = .ok (.iload_n 1, 1) := by decide +kernel
theorem d_prog_52_method_5_5 : decode prog_52_method_5_code 5 = .ok (.getstatic 63, 3) := by decide +kernel
theorem d_prog_52_method_5_8 : decode prog_52_method_5_code 8 = .ok (.iushr, 1) := by decide +kernel
theorem d_prog_52_method_5_9 : decode prog_52_method_5_code 9 = .ok (.aaload, 1) := by decide +kernel
theorem d_prog_52_method_5_10 : decode prog_52_method_5_code 10 = .ok (.iload_n 1, 1) := by decide +kernel
theorem d_prog_52_method_5_11 : decode prog_52_method_5_code 11 = .ok (.sipush 16383, 3) := by decide +kernel
theorem d_prog_52_method_5_14 : decode prog_52_method_5_code 14 = .ok (.iand, 1) := by decide +kernel
theorem d_prog_52_method_5_15 : decode prog_52_method_5_code 15 = .ok (.lload_n 2, 1) := by decide +kernel
theorem d_prog_52_method_5_16 : decode prog_52_method_5_code 16 = .ok (.bipush 32, 2) := by decide +kernel
theorem d_prog_52_method_5_18 : decode prog_52_method_5_code 18 = .ok (.lushr, 1) := by decide +kernel
theorem d_prog_52_method_5_19 : decode prog_52_method_5_code 19 = .ok (.l2i, 1) := by decide +kernel
theorem d_prog_52_method_5_20 : decode prog_52_method_5_code 20 = .ok (.iastore, 1) := by decide +kernel
theorem d_prog_52_method_5_21 : decode prog_52_method_5_code 21 = .ok (.aload_n 0, 1) := by decide +kernel
theorem d_prog_52_method_5_22 : decode prog_52_method_5_code 22 = .ok (.getfield 18, 3) := by decide +kernel
theorem d_prog_52_method_5_25 : decode prog_52_method_5_code 25 = .ok (.iload_n 1, 1) := by decide +kernel
theorem d_prog_52_method_5_26 : decode prog_52_method_5_code 26 = .ok (.getstatic 63, 3) := by decide +kernel
theorem d_prog_52_method_5_29 : decode prog_52_method_5_code 29 = .ok (.iushr, 1) := by decide +kernel
theorem d_prog_52_method_5_30 : decode prog_52_method_5_code 30 = .ok (.aaload, 1) := by decide +kernel
theorem d_prog_52_method_5_31 : decode prog_52_method_5_code 31 = .ok (.iload_n 1, 1) := by decide +kernel
theorem d_prog_52_method_5_32 : decode prog_52_method_5_code 32 = .ok (.sipush 16383, 3) := by decide +kernel
theorem d_prog_52_method_5_35 : decode prog_52_method_5_code 35 = .ok (.iand, 1) := by decide +kernel
theorem d_prog_52_method_5_36 : decode prog_52_method_5_code 36 = .ok (.lload_n 2, 1) := by decide +kernel
theorem d_prog_52_method_5_37 : decode prog_52_method_5_code 37 = .ok (.l2i, 1) := by decide +kernel
theorem d_prog_52_method_5_38 : decode prog_52_method_5_code 38 = .ok (.iastore, 1) := by decide +kernel
theorem d_prog_52_method_5_39 : decode prog_52_method_5_code 39 = .ok (.return_, 1) := by decide +kernel
theorem ef_RIJ_4 (m : MethodId) (x0 : Addr) (x1 : Int32) (x2 : Int64) : entryFrame m #[(.ref x0), (.int x1), (.long x2)] 4 = mkF m 0 #[.val (.ref x0), .val (.int x1), .val (.long x2), .second] [] := by first | (simp [entryFrame, mkF, argsToLocals, Value.category]; done) | rfl
def Q_Statements_setOperandAt_1 (Z : State) (a1 : Addr) (q2 : Int64) (a3 : Addr) (a4 : Addr) (a5 : Addr) (a6 : Addr) (a7 : Addr) (a8 : Addr) (a9 : Addr) (k10 : ClassId) (a11 : Addr) (k12 : ClassId) (k13 : ClassId) (a14 : Addr) (k15 : ClassId) (h0 : Heap) (n0 : Nat) (v : Option Value) (h : Heap) (L : List Loc) : Prop := v = none ∧ Fr n0 L ∧ Keep h0 h [a14, a11] ∧ Aw Z h a14 "[I" k15 .int 16384 (updv (fun _ => (.int 0)) 0 (.int (q2.toInt32))) ∧ Aw Z h a11 "[I" k12 .int 16384 (updv (fun _ => (.int 0)) 0 (.int (((q2.toUInt64 >>> ((32 : Int32) &&& 0x3f).toInt64.toUInt64).toInt64).toInt32)))
set_option maxRecDepth 65536 in
set_option maxHeartbeats 40000000 in
theorem rm_Statements_setOperandAt_1 (l : Launch) (Z : State) (a0 : Array Value) (hw : ∀ d ∈ tables_1, d.before a0 Z = true) (ws : List Jvm.Cond) (a1 : Addr) (q2 : Int64) (a3 : Addr) (a4 : Addr) (a5 : Addr) (a6 : Addr) (a7 : Addr) (a8 : Addr) (a9 : Addr) (k10 : ClassId) (a11 : Addr) (k12 : ClassId) (k13 : ClassId) (a14 : Addr) (k15 : ClassId) (h0 : Heap) (n0 : Nat) (O0 : Old Z n0 h0) (pr1 : Ob Z h0 a1 "com/example/kleinmaschine/kleinmaschine/Statements" [("com/example/kleinmaschine/kleinmaschine/Statements", "headPages", "[[I", (.ref a3)), ("com/example/kleinmaschine/kleinmaschine/Statements", "upperPages", "[[I", (.ref a4)), ("com/example/kleinmaschine/kleinmaschine/Statements", "lowerPages", "[[I", (.ref a5)), ("com/example/kleinmaschine/kleinmaschine/Statements", "records", "Lcom/example/kleinmaschine/kleinmaschine/PagedBytes;", (.ref a6)), ("com/example/kleinmaschine/kleinmaschine/Statements", "checkpointPlaces", "[J", (.ref a7)), ("com/example/kleinmaschine/kleinmaschine/Statements", "checkpointLines", "[J", (.ref a8)), ("com/example/kleinmaschine/kleinmaschine/Statements", "checkpointColumns", "[J", (.ref a9)), ("com/example/kleinmaschine/kleinmaschine/Statements", "heads", "[I", .null), ("com/example/kleinmaschine/kleinmaschine/Statements", "size", "I", (.int 0)), ("com/example/kleinmaschine/kleinmaschine/Statements", "lastLine", "J", (.long 0)), ("com/example/kleinmaschine/kleinmaschine/Statements", "lastColumn", "J", (.long 0)), ("com/example/kleinmaschine/kleinmaschine/Statements", "uppers", "[I", .null), ("com/example/kleinmaschine/kleinmaschine/Statements", "lowers", "[I", .null)]) (pr2 : Sta Z Z.heap "com/example/kleinmaschine/kleinmaschine/Statements" "PAGE_BITS" "I" (.int (14 : Int32))) (pr3 : OvrA Z k10 .int "[I") (pr4 : Aw Z h0 a4 "[[I" k10 (.array .int) 16 (updv (fun _ => .null) 0 (.ref a11))) (pr5 : Aw Z h0 a11 "[I" k12 .int 16384 (fun _ => (.int 0))) (pr6 : n0 ≤ a11) (pr7 : a1 ≠ a11) (pr8 : OvrA Z k13 .int "[I") (pr9 : Aw Z h0 a5 "[[I" k13 (.array .int) 16 (updv (fun _ => .null) 0 (.ref a14))) (pr10 : a5 ≠ a11) (pr11 : Aw Z h0 a14 "[I" k15 .int 16384 (fun _ => (.int 0))) (pr12 : a14 ≠ a11) (pr13 : n0 ≤ a14) :
    MetFree l (⟨"com/example/kleinmaschine/kleinmaschine/Statements", "setOperandAt", "(IJ)V"⟩ : MethodName) (head1 (Jvm.Cond.code (⟨"com/example/kleinmaschine/kleinmaschine/Statements", "setOperandAt", "(IJ)V"⟩ : MethodName) prog_52_method_5_code 4 none :: ws) ({ frames := 0, cells := 0, slots := 0, locals := 0 } : Room)) (fun a U => a = #[(.ref a1), (.int 0), (.long q2)] ∧ Z.Warmed39 U.vm ∧ U.heap = h0) (fun _ _ _ _ _ => True) (fun _ U o U' => ∃ v L, o = .returned v ∧ Q_Statements_setOperandAt_1 Z a1 q2 a3 a4 a5 a6 a7 a8 a9 k10 a11 k12 k13 a14 k15 h0 n0 v U'.heap L ∧ FrameEnd U o U' L ({ frames := 0, cells := 0, slots := 0, locals := 0 } : Room).cells ({ frames := 0, cells := 0, slots := 0, locals := 0 } : Room).slots) := by
  refine MetFree.of_bodySF (plainFor_of_name pn_Statements) hisR ?_
  intro p e s m args below meth c s₁ Bd hml0 hP hK
  obtain ⟨rfl, hZ, hh⟩ := hP
  have hx := Bd.exec
  have hby := Bd.bytes
  have hml : c.maxLocals = 4 := hml0
  have hown : s.vm.findClass "com/example/kleinmaschine/kleinmaschine/Statements" = some m.cls := findClass_of_methodNamed Bd.named
  have hnm := (name_of_methodNamed Bd.named Bd.method).1
  have X0 : Stand p l e ({ frames := 0, cells := 0, slots := 0, locals := 0 } : Room) s m #[(.ref a1), (.int 0), (.long q2)] below meth c s₁ [] 0 0 := Stand.of_body Bd
  have e0 : s₁.heap = h0 := by rw [← hh, Bd.state]; rfl
  have N0 := Fr.nil n0
  obtain ⟨G0, hG0⟩ : ∃ z, z = (mkF m 0 #[.val (.ref a1), .val (.int 0), .val (.long q2), .second] []) := ⟨_, rfl⟩
  have pre0 : ∀ t, Steps p.tables e below (s₁.setTop G0) t → Steps p.tables e below (s₁.setTop (entryFrame m #[(.ref a1), (.int 0), (.long q2)] 4)) t := fun t k => castTop (ef_RIJ_4 m a1 ((0 : Int32)) q2) (hG0 ▸ k)
  have k : Goes p e below s₁ G0 s₁ (mkF m 0 #[.val (.ref a1), .val (.int 0), .val (.long q2), .second] []) := fun t q => hG0 ▸ q
  replace k := Fw.aloadN k X0 hx (hb hby d_prog_52_method_5_0) rfl rfl (pc' := 1) rfl
  obtain ⟨T1, X1, e1, st1⟩ := getF X0 hx hZ hown (host := "") (Or.inl (w_13 hw)) Via.refl e0 (Ob.at pr1 1 rfl) (g := (mkF m 1 #[.val (.ref a1), .val (.int 0), .val (.long q2), .second] [(.ref a1)])) rfl rfl (hb hby d_prog_52_method_5_1)
  replace k : Goes p e below s₁ G0 T1 (mkF m 4 #[.val (.ref a1), .val (.int 0), .val (.long q2), .second] [(.ref a4)]) := fun t q => k t (st1 _ q)
  replace k := Fw.iloadN k X1 hx (hb hby d_prog_52_method_5_4) rfl (pc' := 5) rfl
  obtain ⟨T2, X2, e2, st2⟩ := getS2 X1 hx hZ hown (host := "") (Or.inl (w_97 hw)) Via.refl e1 (pr2.ext O0.2) (g := (mkF m 5 #[.val (.ref a1), .val (.int 0), .val (.long q2), .second] [(.int 0), (.ref a4)])) rfl (hb hby d_prog_52_method_5_5)
  replace k : Goes p e below s₁ G0 T2 (mkF m 8 #[.val (.ref a1), .val (.int 0), .val (.long q2), .second] [(.int 14), (.int 0), (.ref a4)]) := fun t q => k t (st2 _ q)
  replace k := Fw.iushr k X2 hx (hb hby d_prog_52_method_5_8) (z := (0 : Int32)) (by decide) (pc' := 9) rfl
  obtain ⟨cl3, Ar3, hin3, hat3, -, -⟩ := Aw.open pr4 (j := (0 : Int32)) 0 (by decide) (by decide) (by decide)
  replace hat3 : cl3.slots[((0 : Int32)).toNatClampNeg]? = some (.ref a11) := hat3
  replace k : Goes p e below s₁ G0 T2 (mkF m 10 #[.val (.ref a1), .val (.int 0), .val (.long q2), .second] [(.ref a11)]) := fun t q => k t (X2.aaload hx (j := (0 : Int32)) (v := (.ref a11)) (by rw [e2]; exact Ar3.1) (State.isArrayOf_alike hZ.alike Ar3.2.1) rfl Ar3.2.2 hin3 hat3 (g := (mkF m 9 #[.val (.ref a1), .val (.int 0), .val (.long q2), .second] [(.int 0), (.ref a4)])) rfl rfl (hb hby d_prog_52_method_5_9) _ q)
  replace k := Fw.iloadN k X2 hx (hb hby d_prog_52_method_5_10) rfl (pc' := 11) rfl
  replace k := Fw.sipush k X2 hx (hb hby d_prog_52_method_5_11) (z := (16383 : Int32)) (by decide) (pc' := 14) rfl
  replace k := Fw.iand k X2 hx (hb hby d_prog_52_method_5_14) (z := (0 : Int32)) (by decide) (pc' := 15) rfl
  replace k := Fw.lloadN k X2 hx (hb hby d_prog_52_method_5_15) rfl (pc' := 16) rfl
  replace k := Fw.bipush k X2 hx (hb hby d_prog_52_method_5_16) (z := (32 : Int32)) (by decide) (pc' := 18) rfl
  replace k := Fw.lushr k X2 hx (hb hby d_prog_52_method_5_18) rfl (pc' := 19) rfl
  replace k := Fw.l2i k X2 hx (hb hby d_prog_52_method_5_19) rfl (pc' := 20) rfl
  obtain ⟨cl4, Ar4, hin4, -, kq4, -⟩ := Aw.open pr5 (j := (0 : Int32)) 0 (by decide) (by decide) (by decide)
  obtain ⟨T4, h4, X4, e4, W4, st4⟩ := stI X2 hx hZ e2 Ar4 (j := (0 : Int32)) hin4 (g := (mkF m 20 #[.val (.ref a1), .val (.int 0), .val (.long q2), .second] [(.int (((q2.toUInt64 >>> ((32 : Int32) &&& 0x3f).toInt64.toUInt64).toInt64).toInt32)), (.int 0), (.ref a11)])) rfl rfl (hb hby d_prog_52_method_5_20)
  have N4 := Fr.snoc X4 N0 pr6
  have V4 : Aw Z h4 a11 "[I" k12 .int 16384 (updv (fun _ => (.int 0)) 0 (.int (((q2.toUInt64 >>> ((32 : Int32) &&& 0x3f).toInt64.toUInt64).toInt64).toInt32))) := Aw.set pr5 W4 0 (by decide) rfl
  replace k : Goes p e below s₁ G0 T4 (mkF m 21 #[.val (.ref a1), .val (.int 0), .val (.long q2), .second] []) := fun t q => k t (st4 _ q)
  replace k := Fw.aloadN k X4 hx (hb hby d_prog_52_method_5_21) rfl rfl (pc' := 22) rfl
  have fc5 := (pr1.other W4 pr7)
  obtain ⟨T6, X6, e6, st6⟩ := getF X4 hx hZ hown (host := "") (Or.inl (w_15 hw)) Via.refl e4 (Ob.at fc5 2 rfl) (g := (mkF m 22 #[.val (.ref a1), .val (.int 0), .val (.long q2), .second] [(.ref a1)])) rfl rfl (hb hby d_prog_52_method_5_22)
  replace k : Goes p e below s₁ G0 T6 (mkF m 25 #[.val (.ref a1), .val (.int 0), .val (.long q2), .second] [(.ref a5)]) := fun t q => k t (st6 _ q)
  replace k := Fw.iloadN k X6 hx (hb hby d_prog_52_method_5_25) rfl (pc' := 26) rfl
  have fc7 := (O0.wr W4 pr6)
  obtain ⟨T8, X8, e8, st8⟩ := getS2 X6 hx hZ hown (host := "") (Or.inl (w_97 hw)) Via.refl e6 (pr2.ext fc7.2) (g := (mkF m 26 #[.val (.ref a1), .val (.int 0), .val (.long q2), .second] [(.int 0), (.ref a5)])) rfl (hb hby d_prog_52_method_5_26)
  replace k : Goes p e below s₁ G0 T8 (mkF m 29 #[.val (.ref a1), .val (.int 0), .val (.long q2), .second] [(.int 14), (.int 0), (.ref a5)]) := fun t q => k t (st8 _ q)
  replace k := Fw.iushr k X8 hx (hb hby d_prog_52_method_5_29) (z := (0 : Int32)) (by decide) (pc' := 30) rfl
  have fc10 := (pr9.other W4 pr10)
  obtain ⟨cl9, Ar9, hin9, hat9, -, -⟩ := Aw.open fc10 (j := (0 : Int32)) 0 (by decide) (by decide) (by decide)
  replace hat9 : cl9.slots[((0 : Int32)).toNatClampNeg]? = some (.ref a14) := hat9
  replace k : Goes p e below s₁ G0 T8 (mkF m 31 #[.val (.ref a1), .val (.int 0), .val (.long q2), .second] [(.ref a14)]) := fun t q => k t (X8.aaload hx (j := (0 : Int32)) (v := (.ref a14)) (by rw [e8]; exact Ar9.1) (State.isArrayOf_alike hZ.alike Ar9.2.1) rfl Ar9.2.2 hin9 hat9 (g := (mkF m 30 #[.val (.ref a1), .val (.int 0), .val (.long q2), .second] [(.int 0), (.ref a5)])) rfl rfl (hb hby d_prog_52_method_5_30) _ q)
  replace k := Fw.iloadN k X8 hx (hb hby d_prog_52_method_5_31) rfl (pc' := 32) rfl
  replace k := Fw.sipush k X8 hx (hb hby d_prog_52_method_5_32) (z := (16383 : Int32)) (by decide) (pc' := 35) rfl
  replace k := Fw.iand k X8 hx (hb hby d_prog_52_method_5_35) (z := (0 : Int32)) (by decide) (pc' := 36) rfl
  replace k := Fw.lloadN k X8 hx (hb hby d_prog_52_method_5_36) rfl (pc' := 37) rfl
  replace k := Fw.l2i k X8 hx (hb hby d_prog_52_method_5_37) rfl (pc' := 38) rfl
  have fc11 := (pr11.other W4 pr12)
  obtain ⟨cl12, Ar12, hin12, -, kq12, -⟩ := Aw.open fc11 (j := (0 : Int32)) 0 (by decide) (by decide) (by decide)
  obtain ⟨T12, h12, X12, e12, W12, st12⟩ := stI X8 hx hZ e8 Ar12 (j := (0 : Int32)) hin12 (g := (mkF m 38 #[.val (.ref a1), .val (.int 0), .val (.long q2), .second] [(.int (q2.toInt32)), (.int 0), (.ref a14)])) rfl rfl (hb hby d_prog_52_method_5_38)
  have N12 := Fr.snoc X12 N4 pr13
  have V12 : Aw Z h12 a14 "[I" k15 .int 16384 (updv (fun _ => (.int 0)) 0 (.int (q2.toInt32))) := Aw.set fc11 W12 0 (by decide) rfl
  replace k : Goes p e below s₁ G0 T12 (mkF m 39 #[.val (.ref a1), .val (.int 0), .val (.long q2), .second] []) := fun t q => k t (st12 _ q)
  obtain ⟨fs, hr, hrun, hended, hW, hsame⟩ := X12.leave (v := none) (fun _ => rfl)
  refine ⟨_, _, pre0 _ (k _ ?_), hrun, hended, _, _, rfl, ?_, ⟨_, rfl⟩, hW, hsame.mono (by decide) (by decide)⟩
  · exact X12.returnOut hx Bd.returns (hb hby d_prog_52_method_5_39) hr
  · show Q_Statements_setOperandAt_1 Z a1 q2 a3 a4 a5 a6 a7 a8 a9 k10 a11 k12 k13 a14 k15 h0 n0 _ T12.heap _
    rw [e12]
    exact ⟨rfl, N12, (((Keep.refl h0 [a14, a11]).wr W4 (Or.inl (List.mem_of_getElem? (i := 1) rfl))).wr W12 (Or.inl (List.mem_of_getElem? (i := 0) rfl))), V12, (V4.other W12 (Ne.symm pr12))⟩
theorem w_101 {Z : State} {a0 : Array Value} (hw : ∀ d ∈ tables_1, d.before a0 Z = true) : (Jvm.Cond.methodLink "com/example/kleinmaschine/kleinmaschine/Statements" (73 : Nat) ({ cls := "com/example/kleinmaschine/kleinmaschine/Statements", name := "setOperandAt", desc := "(IJ)V" } : Jvm.MethodName)).before a0 Z = true := hw _ (List.mem_of_getElem? (i := 101) rfl)
theorem w_104 {Z : State} {a0 : Array Value} (hw : ∀ d ∈ tables_1, d.before a0 Z = true) : (Jvm.Cond.code ({ cls := "com/example/kleinmaschine/kleinmaschine/Statements", name := "setOperandAt", desc := "(IJ)V" } : Jvm.MethodName) prog_52_method_5_code (4 : Nat) (Option.none : Option Jvm.ClassFile.FieldType)).before a0 Z = true := hw _ (List.mem_of_getElem? (i := 104) rfl)
theorem pd_IJ_r_V : parseMethodDescriptor "(IJ)V" = some ⟨[.int, .long], none⟩ := by decide +kernel
theorem w_103 {Z : State} {a0 : Array Value} (hw : ∀ d ∈ tables_1, d.before a0 Z = true) : (Jvm.Cond.privateMethod ({ cls := "com/example/kleinmaschine/kleinmaschine/Statements", name := "setOperandAt", desc := "(IJ)V" } : Jvm.MethodName)).before a0 Z = true := hw _ (List.mem_of_getElem? (i := 103) rfl)
theorem w_102 {Z : State} {a0 : Array Value} (hw : ∀ d ∈ tables_1, d.before a0 Z = true) : (Jvm.Cond.instanceMethod ({ cls := "com/example/kleinmaschine/kleinmaschine/Statements", name := "setOperandAt", desc := "(IJ)V" } : Jvm.MethodName)).before a0 Z = true := hw _ (List.mem_of_getElem? (i := 102) rfl)
theorem d_prog_52_method_3_170 : decode prog_52_method_3_code 170 = .ok (.aload_n 0, 1) := by decide +kernel
theorem d_prog_52_method_3_171 : decode prog_52_method_3_code 171 = .ok (.getfield 52, 3) := by decide +kernel
theorem d_prog_52_method_3_174 : decode prog_52_method_3_code 174 = .ok (.bipush 63, 2) := by decide +kernel
theorem d_prog_52_method_3_176 : decode prog_52_method_3_code 176 = .ok (.iand, 1) := by decide +kernel
theorem d_prog_52_method_3_177 : decode prog_52_method_3_code 177 = .ok (.ifCond .ne 104, 3) := by decide +kernel
theorem d_prog_52_method_3_180 : decode prog_52_method_3_code 180 = .ok (.aload_n 0, 1) := by decide +kernel
theorem d_prog_52_method_3_181 : decode prog_52_method_3_code 181 = .ok (.getfield 52, 3) := by decide +kernel
theorem d_prog_52_method_3_184 : decode prog_52_method_3_code 184 = .ok (.getstatic 77, 3) := by decide +kernel
theorem w_105 {Z : State} {a0 : Array Value} (hw : ∀ d ∈ tables_1, d.before a0 Z = true) : (Jvm.Cond.fieldLink "com/example/kleinmaschine/kleinmaschine/Statements" (77 : Nat) "com/example/kleinmaschine/kleinmaschine/Statements" "CHECKPOINT_BITS" "I").before a0 Z = true := hw _ (List.mem_of_getElem? (i := 105) rfl)
theorem d_prog_52_method_3_187 : decode prog_52_method_3_code 187 = .ok (.iushr, 1) := by decide +kernel
theorem d_prog_52_method_3_188 : decode prog_52_method_3_code 188 = .ok (.istore 8, 2) := by decide +kernel
theorem d_prog_52_method_3_190 : decode prog_52_method_3_code 190 = .ok (.iload 8, 2) := by decide +kernel
theorem d_prog_52_method_3_192 : decode prog_52_method_3_code 192 = .ok (.aload_n 0, 1) := by decide +kernel
theorem d_prog_52_method_3_193 : decode prog_52_method_3_code 193 = .ok (.getfield 28, 3) := by decide +kernel
theorem d_prog_52_method_3_196 : decode prog_52_method_3_code 196 = .ok (.arraylength, 1) := by decide +kernel
theorem d_prog_52_method_3_197 : decode prog_52_method_3_code 197 = .ok (.if_icmp .ne 48, 3) := by decide +kernel
theorem d_prog_52_method_3_245 : decode prog_52_method_3_code 245 = .ok (.aload_n 0, 1) := by decide +kernel
theorem d_prog_52_method_3_246 : decode prog_52_method_3_code 246 = .ok (.getfield 28, 3) := by decide +kernel
theorem d_prog_52_method_3_249 : decode prog_52_method_3_code 249 = .ok (.iload 8, 2) := by decide +kernel
theorem d_prog_52_method_3_251 : decode prog_52_method_3_code 251 = .ok (.aload_n 0, 1) := by decide +kernel
theorem d_prog_52_method_3_252 : decode prog_52_method_3_code 252 = .ok (.getfield 24, 3) := by decide +kernel
theorem d_prog_52_method_3_255 : decode prog_52_method_3_code 255 = .ok (.invokevirtual 83, 3) := by decide +kernel
theorem d_prog_33_method_10_0 : decode prog_33_method_10_code 0 = .ok (.aload_n 0, 1) := by decide +kernel
theorem d_prog_33_method_10_1 : decode prog_33_method_10_code 1 = .ok (.getfield 64, 3) := by decide +kernel
theorem w_112 {Z : State} {a0 : Array Value} (hw : ∀ d ∈ tables_1, d.before a0 Z = true) : (Jvm.Cond.fieldLink "com/example/kleinmaschine/kleinmaschine/PagedBytes" (64 : Nat) "com/example/kleinmaschine/kleinmaschine/PagedBytes" "size" "J").before a0 Z = true := hw _ (List.mem_of_getElem? (i := 112) rfl)
theorem d_prog_33_method_10_4 : decode prog_33_method_10_code 4 = .ok (.lreturn, 1) := by decide +kernel
def Q_PagedBytes_size_1 (Z : State) (a1 : Addr) (a2 : Addr) (h0 : Heap) (n0 : Nat) (v : Option Value) (h : Heap) (L : List Loc) : Prop := v = some (.long 0) ∧ Fr n0 L ∧ h = h0
set_option maxRecDepth 65536 in
set_option maxHeartbeats 40000000 in
theorem rm_PagedBytes_size_1 (l : Launch) (Z : State) (a0 : Array Value) (hw : ∀ d ∈ tables_1, d.before a0 Z = true) (ws : List Jvm.Cond) (a1 : Addr) (a2 : Addr) (h0 : Heap) (n0 : Nat) (O0 : Old Z n0 h0) (pr1 : Ob Z h0 a1 "com/example/kleinmaschine/kleinmaschine/PagedBytes" [("com/example/kleinmaschine/kleinmaschine/PagedBytes", "pages", "Ljava/util/List;", (.ref a2)), ("com/example/kleinmaschine/kleinmaschine/PagedBytes", "lastUsed", "I", (.int 65536)), ("com/example/kleinmaschine/kleinmaschine/PagedBytes", "size", "J", (.long 0)), ("com/example/kleinmaschine/kleinmaschine/PagedBytes", "last", "[B", .null)]) :
    MetFree l (⟨"com/example/kleinmaschine/kleinmaschine/PagedBytes", "size", "()J"⟩ : MethodName) (head1 (Jvm.Cond.code (⟨"com/example/kleinmaschine/kleinmaschine/PagedBytes", "size", "()J"⟩ : MethodName) prog_33_method_10_code 1 (some .long) :: ws) ({ frames := 0, cells := 0, slots := 0, locals := 0 } : Room)) (fun a U => a = #[(.ref a1)] ∧ Z.Warmed39 U.vm ∧ U.heap = h0) (fun _ _ _ _ _ => True) (fun _ U o U' => ∃ v L, o = .returned v ∧ Q_PagedBytes_size_1 Z a1 a2 h0 n0 v U'.heap L ∧ FrameEnd U o U' L ({ frames := 0, cells := 0, slots := 0, locals := 0 } : Room).cells ({ frames := 0, cells := 0, slots := 0, locals := 0 } : Room).slots) := by
  refine MetFree.of_bodySF (plainFor_of_name pn_PagedBytes) hisR ?_
  intro p e s m args below meth c s₁ Bd hml0 hP hK
  obtain ⟨rfl, hZ, hh⟩ := hP
  have hx := Bd.exec
  have hby := Bd.bytes
  have hml : c.maxLocals = 1 := hml0
  have hown : s.vm.findClass "com/example/kleinmaschine/kleinmaschine/PagedBytes" = some m.cls := findClass_of_methodNamed Bd.named
  have hnm := (name_of_methodNamed Bd.named Bd.method).1
  have X0 : Stand p l e ({ frames := 0, cells := 0, slots := 0, locals := 0 } : Room) s m #[(.ref a1)] below meth c s₁ [] 0 0 := Stand.of_body Bd
  have e0 : s₁.heap = h0 := by rw [← hh, Bd.state]; rfl
  have N0 := Fr.nil n0
  obtain ⟨G0, hG0⟩ : ∃ z, z = (mkF m 0 #[.val (.ref a1)] []) := ⟨_, rfl⟩
  have pre0 : ∀ t, Steps p.tables e below (s₁.setTop G0) t → Steps p.tables e below (s₁.setTop (entryFrame m #[(.ref a1)] 1)) t := fun t k => castTop (ef_R_1 m a1) (hG0 ▸ k)
  have k : Goes p e below s₁ G0 s₁ (mkF m 0 #[.val (.ref a1)] []) := fun t q => hG0 ▸ q
  replace k := Fw.aloadN k X0 hx (hb hby d_prog_33_method_10_0) rfl rfl (pc' := 1) rfl
  obtain ⟨T1, X1, e1, st1⟩ := getF X0 hx hZ hown (host := "") (Or.inl (w_112 hw)) Via.refl e0 (Ob.at pr1 2 rfl) (g := (mkF m 1 #[.val (.ref a1)] [(.ref a1)])) rfl rfl (hb hby d_prog_33_method_10_1)
  replace k : Goes p e below s₁ G0 T1 (mkF m 4 #[.val (.ref a1)] [(.long 0)]) := fun t q => k t (st1 _ q)
  obtain ⟨fs, hr, hrun, hended, hW, hsame⟩ := X1.leave (v := some (.long 0)) (fun h => by rw [Bd.returns] at h; cases h)
  refine ⟨_, _, pre0 _ (k _ ?_), hrun, hended, _, _, rfl, ?_, ⟨_, rfl⟩, hW, hsame.mono (by decide) (by decide)⟩
  · exact X1.lreturnOut hx Bd.returns (hb hby d_prog_33_method_10_4) hr
  · show Q_PagedBytes_size_1 Z a1 a2 h0 n0 _ T1.heap _
    rw [e1]
    exact ⟨rfl, N0, rfl⟩
theorem w_107 {Z : State} {a0 : Array Value} (hw : ∀ d ∈ tables_1, d.before a0 Z = true) : (Jvm.Cond.methodLink "com/example/kleinmaschine/kleinmaschine/Statements" (83 : Nat) ({ cls := "com/example/kleinmaschine/kleinmaschine/PagedBytes", name := "size", desc := "()J" } : Jvm.MethodName)).before a0 Z = true := hw _ (List.mem_of_getElem? (i := 107) rfl)
theorem w_111 {Z : State} {a0 : Array Value} (hw : ∀ d ∈ tables_1, d.before a0 Z = true) : (Jvm.Cond.code ({ cls := "com/example/kleinmaschine/kleinmaschine/PagedBytes", name := "size", desc := "()J" } : Jvm.MethodName) prog_33_method_10_code (1 : Nat) (Option.some Jvm.ClassFile.FieldType.long)).before a0 Z = true := hw _ (List.mem_of_getElem? (i := 111) rfl)
theorem pd__r_J : parseMethodDescriptor "()J" = some ⟨[], some .long⟩ := by decide +kernel
theorem w_110 {Z : State} {a0 : Array Value} (hw : ∀ d ∈ tables_1, d.before a0 Z = true) : (Jvm.Cond.selects "com/example/kleinmaschine/kleinmaschine/PagedBytes" ({ cls := "com/example/kleinmaschine/kleinmaschine/PagedBytes", name := "size", desc := "()J" } : Jvm.MethodName) ({ cls := "com/example/kleinmaschine/kleinmaschine/PagedBytes", name := "size", desc := "()J" } : Jvm.MethodName)).before a0 Z = true := hw _ (List.mem_of_getElem? (i := 110) rfl)
theorem w_108 {Z : State} {a0 : Array Value} (hw : ∀ d ∈ tables_1, d.before a0 Z = true) : (Jvm.Cond.declares ({ cls := "com/example/kleinmaschine/kleinmaschine/PagedBytes", name := "size", desc := "()J" } : Jvm.MethodName)).before a0 Z = true := hw _ (List.mem_of_getElem? (i := 108) rfl)
theorem w_109 {Z : State} {a0 : Array Value} (hw : ∀ d ∈ tables_1, d.before a0 Z = true) : (Jvm.Cond.instanceMethod ({ cls := "com/example/kleinmaschine/kleinmaschine/PagedBytes", name := "size", desc := "()J" } : Jvm.MethodName)).before a0 Z = true := hw _ (List.mem_of_getElem? (i := 109) rfl)
theorem d_prog_52_method_3_258 : decode prog_52_method_3_code 258 = .ok (.lastore, 1) := by decide +kernel
theorem d_prog_52_method_3_259 : decode prog_52_method_3_code 259 = .ok (.aload_n 0, 1) := by decide +kernel
theorem d_prog_52_method_3_260 : decode prog_52_method_3_code 260 = .ok (.getfield 32, 3) := by decide +kernel
theorem d_prog_52_method_3_263 : decode prog_52_method_3_code 263 = .ok (.iload 8, 2) := by decide +kernel
theorem d_prog_52_method_3_265 : decode prog_52_method_3_code 265 = .ok (.aload_n 0, 1) := by decide +kernel
theorem d_prog_52_method_3_266 : decode prog_52_method_3_code 266 = .ok (.getfield 86, 3) := by decide +kernel
theorem w_114 {Z : State} {a0 : Array Value} (hw : ∀ d ∈ tables_1, d.before a0 Z = true) : (Jvm.Cond.fieldLink "com/example/kleinmaschine/kleinmaschine/Statements" (86 : Nat) "com/example/kleinmaschine/kleinmaschine/Statements" "lastLine" "J").before a0 Z = true := hw _ (List.mem_of_getElem? (i := 114) rfl)
theorem d_prog_52_method_3_269 : decode prog_52_method_3_code 269 = .ok (.lastore, 1) := by decide +kernel
theorem d_prog_52_method_3_270 : decode prog_52_method_3_code 270 = .ok (.aload_n 0, 1) := by decide +kernel
theorem d_prog_52_method_3_271 : decode prog_52_method_3_code 271 = .ok (.getfield 35, 3) := by decide +kernel
theorem d_prog_52_method_3_274 : decode prog_52_method_3_code 274 = .ok (.iload 8, 2) := by decide +kernel
theorem d_prog_52_method_3_276 : decode prog_52_method_3_code 276 = .ok (.aload_n 0, 1) := by decide +kernel
theorem d_prog_52_method_3_277 : decode prog_52_method_3_code 277 = .ok (.getfield 90, 3) := by decide +kernel
theorem w_116 {Z : State} {a0 : Array Value} (hw : ∀ d ∈ tables_1, d.before a0 Z = true) : (Jvm.Cond.fieldLink "com/example/kleinmaschine/kleinmaschine/Statements" (90 : Nat) "com/example/kleinmaschine/kleinmaschine/Statements" "lastColumn" "J").before a0 Z = true := hw _ (List.mem_of_getElem? (i := 116) rfl)
theorem d_prog_52_method_3_280 : decode prog_52_method_3_code 280 = .ok (.lastore, 1) := by decide +kernel
theorem d_prog_52_method_3_281 : decode prog_52_method_3_code 281 = .ok (.aload 4, 2) := by decide +kernel
theorem d_prog_52_method_3_283 : decode prog_52_method_3_code 283 = .ok (.invokevirtual 93, 3) := by decide +kernel
theorem d_prog_35_method_6_0 : decode prog_35_method_6_code 0 = .ok (.aload_n 0, 1) := by decide +kernel
theorem d_prog_35_method_6_1 : decode prog_35_method_6_code 1 = .ok (.getfield 7, 3) := by decide +kernel
theorem d_prog_35_method_6_4 : decode prog_35_method_6_code 4 = .ok (.lreturn, 1) := by decide +kernel
def Q_Position_line_1 (Z : State) (a1 : Addr) (h0 : Heap) (n0 : Nat) (v : Option Value) (h : Heap) (L : List Loc) : Prop := v = some (.long 1) ∧ Fr n0 L ∧ h = h0
set_option maxRecDepth 65536 in
set_option maxHeartbeats 40000000 in
theorem rm_Position_line_1 (l : Launch) (Z : State) (a0 : Array Value) (hw : ∀ d ∈ tables_1, d.before a0 Z = true) (ws : List Jvm.Cond) (a1 : Addr) (h0 : Heap) (n0 : Nat) (O0 : Old Z n0 h0) (pr1 : Ob Z h0 a1 "com/example/kleinmaschine/kleinmaschine/Position" [("com/example/kleinmaschine/kleinmaschine/Position", "line", "J", (.long 1)), ("com/example/kleinmaschine/kleinmaschine/Position", "column", "J", (.long 1))]) :
    MetFree l (⟨"com/example/kleinmaschine/kleinmaschine/Position", "line", "()J"⟩ : MethodName) (head1 (Jvm.Cond.code (⟨"com/example/kleinmaschine/kleinmaschine/Position", "line", "()J"⟩ : MethodName) prog_35_method_6_code 1 (some .long) :: ws) ({ frames := 0, cells := 0, slots := 0, locals := 0 } : Room)) (fun a U => a = #[(.ref a1)] ∧ Z.Warmed39 U.vm ∧ U.heap = h0) (fun _ _ _ _ _ => True) (fun _ U o U' => ∃ v L, o = .returned v ∧ Q_Position_line_1 Z a1 h0 n0 v U'.heap L ∧ FrameEnd U o U' L ({ frames := 0, cells := 0, slots := 0, locals := 0 } : Room).cells ({ frames := 0, cells := 0, slots := 0, locals := 0 } : Room).slots) := by
  refine MetFree.of_bodySF (plainFor_of_name pn_Position) hisR ?_
  intro p e s m args below meth c s₁ Bd hml0 hP hK
  obtain ⟨rfl, hZ, hh⟩ := hP
  have hx := Bd.exec
  have hby := Bd.bytes
  have hml : c.maxLocals = 1 := hml0
  have hown : s.vm.findClass "com/example/kleinmaschine/kleinmaschine/Position" = some m.cls := findClass_of_methodNamed Bd.named
  have hnm := (name_of_methodNamed Bd.named Bd.method).1
  have X0 : Stand p l e ({ frames := 0, cells := 0, slots := 0, locals := 0 } : Room) s m #[(.ref a1)] below meth c s₁ [] 0 0 := Stand.of_body Bd
  have e0 : s₁.heap = h0 := by rw [← hh, Bd.state]; rfl
  have N0 := Fr.nil n0
  obtain ⟨G0, hG0⟩ : ∃ z, z = (mkF m 0 #[.val (.ref a1)] []) := ⟨_, rfl⟩
  have pre0 : ∀ t, Steps p.tables e below (s₁.setTop G0) t → Steps p.tables e below (s₁.setTop (entryFrame m #[(.ref a1)] 1)) t := fun t k => castTop (ef_R_1 m a1) (hG0 ▸ k)
  have k : Goes p e below s₁ G0 s₁ (mkF m 0 #[.val (.ref a1)] []) := fun t q => hG0 ▸ q
  replace k := Fw.aloadN k X0 hx (hb hby d_prog_35_method_6_0) rfl rfl (pc' := 1) rfl
  obtain ⟨T1, X1, e1, st1⟩ := getF X0 hx hZ hown (host := "") (Or.inl (w_79 hw)) Via.refl e0 (Ob.at pr1 0 rfl) (g := (mkF m 1 #[.val (.ref a1)] [(.ref a1)])) rfl rfl (hb hby d_prog_35_method_6_1)
  replace k : Goes p e below s₁ G0 T1 (mkF m 4 #[.val (.ref a1)] [(.long 1)]) := fun t q => k t (st1 _ q)
  obtain ⟨fs, hr, hrun, hended, hW, hsame⟩ := X1.leave (v := some (.long 1)) (fun h => by rw [Bd.returns] at h; cases h)
  refine ⟨_, _, pre0 _ (k _ ?_), hrun, hended, _, _, rfl, ?_, ⟨_, rfl⟩, hW, hsame.mono (by decide) (by decide)⟩
  · exact X1.lreturnOut hx Bd.returns (hb hby d_prog_35_method_6_4) hr
  · show Q_Position_line_1 Z a1 h0 n0 _ T1.heap _
    rw [e1]
    exact ⟨rfl, N0, rfl⟩
theorem w_118 {Z : State} {a0 : Array Value} (hw : ∀ d ∈ tables_1, d.before a0 Z = true) : (Jvm.Cond.methodLink "com/example/kleinmaschine/kleinmaschine/Statements" (93 : Nat) ({ cls := "com/example/kleinmaschine/kleinmaschine/Position", name := "line", desc := "()J" } : Jvm.MethodName)).before a0 Z = true := hw _ (List.mem_of_getElem? (i := 118) rfl)
theorem w_122 {Z : State} {a0 : Array Value} (hw : ∀ d ∈ tables_1, d.before a0 Z = true) : (Jvm.Cond.code ({ cls := "com/example/kleinmaschine/kleinmaschine/Position", name := "line", desc := "()J" } : Jvm.MethodName) prog_35_method_6_code (1 : Nat) (Option.some Jvm.ClassFile.FieldType.long)).before a0 Z = true := hw _ (List.mem_of_getElem? (i := 122) rfl)
theorem w_121 {Z : State} {a0 : Array Value} (hw : ∀ d ∈ tables_1, d.before a0 Z = true) : (Jvm.Cond.selects "com/example/kleinmaschine/kleinmaschine/Position" ({ cls := "com/example/kleinmaschine/kleinmaschine/Position", name := "line", desc := "()J" } : Jvm.MethodName) ({ cls := "com/example/kleinmaschine/kleinmaschine/Position", name := "line", desc := "()J" } : Jvm.MethodName)).before a0 Z = true := hw _ (List.mem_of_getElem? (i := 121) rfl)
theorem w_119 {Z : State} {a0 : Array Value} (hw : ∀ d ∈ tables_1, d.before a0 Z = true) : (Jvm.Cond.declares ({ cls := "com/example/kleinmaschine/kleinmaschine/Position", name := "line", desc := "()J" } : Jvm.MethodName)).before a0 Z = true := hw _ (List.mem_of_getElem? (i := 119) rfl)
theorem w_120 {Z : State} {a0 : Array Value} (hw : ∀ d ∈ tables_1, d.before a0 Z = true) : (Jvm.Cond.instanceMethod ({ cls := "com/example/kleinmaschine/kleinmaschine/Position", name := "line", desc := "()J" } : Jvm.MethodName)).before a0 Z = true := hw _ (List.mem_of_getElem? (i := 120) rfl)
theorem d_prog_52_method_3_286 : decode prog_52_method_3_code 286 = .ok (.aload_n 0, 1) := by decide +kernel
theorem d_prog_52_method_3_287 : decode prog_52_method_3_code 287 = .ok (.getfield 86, 3) := by decide +kernel
theorem d_prog_52_method_3_290 : decode prog_52_method_3_code 290 = .ok (.lsub, 1) := by decide +kernel
theorem d_prog_52_method_3_291 : decode prog_52_method_3_code 291 = .ok (.lstore 8, 2) := by decide +kernel
theorem d_prog_52_method_3_293 : decode prog_52_method_3_code 293 = .ok (.aload_n 0, 1) := by decide +kernel
theorem d_prog_52_method_3_294 : decode prog_52_method_3_code 294 = .ok (.getfield 24, 3) := by decide +kernel
theorem d_prog_52_method_3_297 : decode prog_52_method_3_code 297 = .ok (.lload 8, 2) := by decide +kernel
theorem d_prog_52_method_3_299 : decode prog_52_method_3_code 299 = .ok (.invokevirtual 98, 3) := by decide +kernel
theorem d_prog_33_method_9_0 : decode prog_33_method_9_code 0 = .ok (.lload_n 1, 1) := by decide +kernel
theorem d_prog_33_method_9_1 : decode prog_33_method_9_code 1 = .ok (.aload_n 0, 1) := by decide +kernel
theorem d_prog_33_method_9_2 : decode prog_33_method_9_code 2 = .ok (.invokestatic 80, 3) := by decide +kernel
theorem d_prog_33_method_2_0 : decode prog_33_method_2_code 0 = .ok (.lload_n 0, 1) := by decide +kernel
theorem d_prog_33_method_2_1 : decode prog_33_method_2_code 1 = .ok (.lstore_n 3, 1) := by decide +kernel
theorem d_prog_33_method_2_2 : decode prog_33_method_2_code 2 = .ok (.lload_n 3, 1) := by decide +kernel
theorem d_prog_33_method_2_3 : decode prog_33_method_2_code 3 = .ok (.ldc2_w 21, 3) := by decide +kernel
theorem w_131 {Z : State} {a0 : Array Value} (hw : ∀ d ∈ tables_1, d.before a0 Z = true) : (Jvm.Cond.constantLong "com/example/kleinmaschine/kleinmaschine/PagedBytes" (21 : Nat) (-128 : Int64)).before a0 Z = true := hw _ (List.mem_of_getElem? (i := 131) rfl)
theorem d_prog_33_method_2_6 : decode prog_33_method_2_code 6 = .ok (.land, 1) := by decide +kernel
theorem d_prog_33_method_2_7 : decode prog_33_method_2_code 7 = .ok (.lconst 0, 1) := by decide +kernel
theorem d_prog_33_method_2_8 : decode prog_33_method_2_code 8 = .ok (.lcmp, 1) := by decide +kernel
theorem d_prog_33_method_2_9 : decode prog_33_method_2_code 9 = .ok (.ifCond .eq 27, 3) := by decide +kernel
theorem d_prog_33_method_2_36 : decode prog_33_method_2_code 36 = .ok (.aload_n 2, 1) := by decide +kernel
theorem d_prog_33_method_2_37 : decode prog_33_method_2_code 37 = .ok (.lload_n 3, 1) := by decide +kernel
theorem d_prog_33_method_2_38 : decode prog_33_method_2_code 38 = .ok (.l2i, 1) := by decide +kernel
theorem d_prog_33_method_2_39 : decode prog_33_method_2_code 39 = .ok (.invokeinterface 25 2, 5) := by decide +kernel
theorem d_prog_33_method_6_0 : decode prog_33_method_6_code 0 = .ok (.aload_n 0, 1) := by decide +kernel
theorem d_prog_33_method_6_1 : decode prog_33_method_6_code 1 = .ok (.iload_n 1, 1) := by decide +kernel
theorem d_prog_33_method_6_2 : decode prog_33_method_6_code 2 = .ok (.invokevirtual 51, 3) := by decide +kernel
theorem d_prog_33_method_7_0 : decode prog_33_method_7_code 0 = .ok (.aload_n 0, 1) := by decide +kernel
theorem d_prog_33_method_7_1 : decode prog_33_method_7_code 1 = .ok (.getfield 17, 3) := by decide +kernel
theorem d_prog_33_method_7_4 : decode prog_33_method_7_code 4 = .ok (.ldc 16, 2) := by decide +kernel
theorem d_prog_33_method_7_6 : decode prog_33_method_7_code 6 = .ok (.if_icmp .ne 30, 3) := by decide +kernel
theorem d_prog_33_method_7_9 : decode prog_33_method_7_code 9 = .ok (.aload_n 0, 1) := by decide +kernel
theorem d_prog_33_method_7_10 : decode prog_33_method_7_code 10 = .ok (.ldc 16, 2) := by decide +kernel
theorem d_prog_33_method_7_12 : decode prog_33_method_7_code 12 = .ok (.newarray .byte, 2) := by decide +kernel
theorem w_146 {Z : State} {a0 : Array Value} (hw : ∀ d ∈ tables_1, d.before a0 Z = true) : (Jvm.Cond.arrayClass Jvm.ClassFile.FieldType.byte).before a0 Z = true := hw _ (List.mem_of_getElem? (i := 146) rfl)
theorem d_prog_33_method_7_14 : decode prog_33_method_7_code 14 = .ok (.putfield 54, 3) := by decide +kernel
theorem w_147 {Z : State} {a0 : Array Value} (hw : ∀ d ∈ tables_1, d.before a0 Z = true) : (Jvm.Cond.fieldLink "com/example/kleinmaschine/kleinmaschine/PagedBytes" (54 : Nat) "com/example/kleinmaschine/kleinmaschine/PagedBytes" "last" "[B").before a0 Z = true := hw _ (List.mem_of_getElem? (i := 147) rfl)
theorem d_prog_33_method_7_17 : decode prog_33_method_7_code 17 = .ok (.aload_n 0, 1) := by decide +kernel
theorem d_prog_33_method_7_18 : decode prog_33_method_7_code 18 = .ok (.getfield 12, 3) := by decide +kernel
theorem d_prog_33_method_7_21 : decode prog_33_method_7_code 21 = .ok (.aload_n 0, 1) := by decide +kernel
theorem d_prog_33_method_7_22 : decode prog_33_method_7_code 22 = .ok (.getfield 54, 3) := by decide +kernel
theorem d_prog_33_method_7_25 : decode prog_33_method_7_code 25 = .ok (.invokeinterface 58 2, 5) := by decide +kernel
theorem d_jdk_38_method_25_0 : decode jdk_38_method_25_code 0 = .ok (.aload_n 0, 1) := by decide +kernel
theorem d_jdk_38_method_25_1 : decode jdk_38_method_25_code 1 = .ok (.dup, 1) := by decide +kernel
theorem d_jdk_38_method_25_2 : decode jdk_38_method_25_code 2 = .ok (.getfield 63, 3) := by decide +kernel
theorem w_158 {Z : State} {a0 : Array Value} (hw : ∀ d ∈ tables_1, d.before a0 Z = true) : (Jvm.Cond.fieldLink "java/util/ArrayList" (63 : Nat) "java/util/ArrayList" "modCount" "I").before a0 Z = true := hw _ (List.mem_of_getElem? (i := 158) rfl)
theorem w_159 {Z : State} {a0 : Array Value} (hw : ∀ d ∈ tables_1, d.before a0 Z = true) : (Jvm.Cond.sameField "java/util/ArrayList" "java/util/AbstractList" "modCount" "I").before a0 Z = true := hw _ (List.mem_of_getElem? (i := 159) rfl)
theorem d_jdk_38_method_25_5 : decode jdk_38_method_25_code 5 = .ok (.iconst 1, 1) := by decide +kernel
theorem d_jdk_38_method_25_6 : decode jdk_38_method_25_code 6 = .ok (.iadd, 1) := by decide +kernel
theorem d_jdk_38_method_25_7 : decode jdk_38_method_25_code 7 = .ok (.putfield 63, 3) := by decide +kernel
theorem d_jdk_38_method_25_10 : decode jdk_38_method_25_code 10 = .ok (.aload_n 0, 1) := by decide +kernel
theorem d_jdk_38_method_25_11 : decode jdk_38_method_25_code 11 = .ok (.aload_n 1, 1) := by decide +kernel
theorem d_jdk_38_method_25_12 : decode jdk_38_method_25_code 12 = .ok (.aload_n 0, 1) := by decide +kernel
theorem d_jdk_38_method_25_13 : decode jdk_38_method_25_code 13 = .ok (.getfield 9, 3) := by decide +kernel
theorem d_jdk_38_method_25_16 : decode jdk_38_method_25_code 16 = .ok (.aload_n 0, 1) := by decide +kernel
theorem d_jdk_38_method_25_17 : decode jdk_38_method_25_code 17 = .ok (.getfield 48, 3) := by decide +kernel
theorem w_160 {Z : State} {a0 : Array Value} (hw : ∀ d ∈ tables_1, d.before a0 Z = true) : (Jvm.Cond.fieldLink "java/util/ArrayList" (48 : Nat) "java/util/ArrayList" "size" "I").before a0 Z = true := hw _ (List.mem_of_getElem? (i := 160) rfl)
theorem d_jdk_38_method_25_20 : decode jdk_38_method_25_code 20 = .ok (.invokevirtual 131, 3) := by decide +kernel
theorem d_jdk_38_method_24_0 : decode jdk_38_method_24_code 0 = .ok (.iload_n 3, 1) := by decide +kernel
theorem d_jdk_38_method_24_1 : decode jdk_38_method_24_code 1 = .ok (.aload_n 2, 1) := by decide +kernel
theorem d_jdk_38_method_24_2 : decode jdk_38_method_24_code 2 = .ok (.arraylength, 1) := by decide +kernel
theorem d_jdk_38_method_24_3 : decode jdk_38_method_24_code 3 = .ok (.if_icmp .ne 8, 3) := by decide +kernel
theorem d_jdk_38_method_24_6 : decode jdk_38_method_24_code 6 = .ok (.aload_n 0, 1) := by decide +kernel
theorem d_jdk_38_method_24_7 : decode jdk_38_method_24_code 7 = .ok (.invokevirtual 129, 3) := by decide +kernel
theorem d_jdk_38_method_7_0 : decode jdk_38_method_7_code 0 = .ok (.aload_n 0, 1) := by decide +kernel
theorem d_jdk_38_method_7_1 : decode jdk_38_method_7_code 1 = .ok (.aload_n 0, 1) := by decide +kernel
theorem d_jdk_38_method_7_2 : decode jdk_38_method_7_code 2 = .ok (.getfield 48, 3) := by decide +kernel
theorem d_jdk_38_method_7_5 : decode jdk_38_method_7_code 5 = .ok (.iconst 1, 1) := by decide +kernel
theorem d_jdk_38_method_7_6 : decode jdk_38_method_7_code 6 = .ok (.iadd, 1) := by decide +kernel
theorem d_jdk_38_method_7_7 : decode jdk_38_method_7_code 7 = .ok (.invokevirtual 69, 3) := by decide +kernel
theorem d_jdk_38_method_6_0 : decode jdk_38_method_6_code 0 = .ok (.aload_n 0, 1) := by decide +kernel
theorem d_jdk_38_method_6_1 : decode jdk_38_method_6_code 1 = .ok (.getfield 9, 3) := by decide +kernel
theorem d_jdk_38_method_6_4 : decode jdk_38_method_6_code 4 = .ok (.arraylength, 1) := by decide +kernel
theorem d_jdk_38_method_6_5 : decode jdk_38_method_6_code 5 = .ok (.istore_n 2, 1) := by decide +kernel
theorem d_jdk_38_method_6_6 : decode jdk_38_method_6_code 6 = .ok (.iload_n 2, 1) := by decide +kernel
theorem d_jdk_38_method_6_7 : decode jdk_38_method_6_code 7 = .ok (.ifCond .gt 13, 3) := by decide +kernel
theorem d_jdk_38_method_6_10 : decode jdk_38_method_6_code 10 = .ok (.aload_n 0, 1) := by decide +kernel
theorem d_jdk_38_method_6_11 : decode jdk_38_method_6_code 11 = .ok (.getfield 9, 3) := by decide +kernel
theorem d_jdk_38_method_6_14 : decode jdk_38_method_6_code 14 = .ok (.getstatic 39, 3) := by decide +kernel
theorem d_jdk_38_method_6_17 : decode jdk_38_method_6_code 17 = .ok (.if_acmp .eq 28, 3) := by decide +kernel
theorem d_jdk_38_method_6_45 : decode jdk_38_method_6_code 45 = .ok (.aload_n 0, 1) := by decide +kernel
theorem d_jdk_38_method_6_46 : decode jdk_38_method_6_code 46 = .ok (.bipush 10, 2) := by decide +kernel
theorem d_jdk_38_method_6_48 : decode jdk_38_method_6_code 48 = .ok (.iload_n 1, 1) := by decide +kernel
theorem d_jdk_38_method_6_49 : decode jdk_38_method_6_code 49 = .ok (.invokestatic 79, 3) := by decide +kernel
theorem d_jdk_29_method_65_0 : decode jdk_29_method_65_code 0 = .ok (.iload_n 0, 1) := by decide +kernel
theorem d_jdk_29_method_65_1 : decode jdk_29_method_65_code 1 = .ok (.iload_n 1, 1) := by decide +kernel
theorem d_jdk_29_method_65_2 : decode jdk_29_method_65_code 2 = .ok (.if_icmp .lt 7, 3) := by decide +kernel
theorem d_jdk_29_method_65_5 : decode jdk_29_method_65_code 5 = .ok (.iload_n 0, 1) := by decide +kernel
theorem d_jdk_29_method_65_6 : decode jdk_29_method_65_code 6 = .ok (.goto 4, 3) := by decide +kernel
theorem d_jdk_29_method_65_10 : decode jdk_29_method_65_code 10 = .ok (.ireturn, 1) := by decide +kernel
theorem ef_II_2 (m : MethodId) (x0 : Int32) (x1 : Int32) : entryFrame m #[(.int x0), (.int x1)] 2 = mkF m 0 #[.val (.int x0), .val (.int x1)] [] := by first | (simp [entryFrame, mkF, argsToLocals, Value.category]; done) | rfl
def Q_Math_max_1 (Z : State)  (h0 : Heap) (n0 : Nat) (v : Option Value) (h : Heap) (L : List Loc) : Prop := v = some (.int 10) ∧ Fr n0 L ∧ h = h0
set_option maxRecDepth 65536 in
set_option maxHeartbeats 40000000 in
theorem rm_Math_max_1 (l : Launch) (Z : State) (a0 : Array Value) (hw : ∀ d ∈ tables_1, d.before a0 Z = true) (ws : List Jvm.Cond)  (h0 : Heap) (n0 : Nat) (O0 : Old Z n0 h0) :
    MetFree l (⟨"java/lang/Math", "max", "(II)I"⟩ : MethodName) (head1 (Jvm.Cond.code (⟨"java/lang/Math", "max", "(II)I"⟩ : MethodName) jdk_29_method_65_code 2 (some .int) :: ws) ({ frames := 0, cells := 0, slots := 0, locals := 0 } : Room)) (fun a U => a = #[(.int 10), (.int 1)] ∧ Z.Warmed39 U.vm ∧ U.heap = h0) (fun _ _ _ _ _ => True) (fun _ U o U' => ∃ v L, o = .returned v ∧ Q_Math_max_1 Z  h0 n0 v U'.heap L ∧ FrameEnd U o U' L ({ frames := 0, cells := 0, slots := 0, locals := 0 } : Room).cells ({ frames := 0, cells := 0, slots := 0, locals := 0 } : Room).slots) := by
  refine MetFree.of_bodySF (Jvm.Free.JP.mathPlain rfl (by decide +kernel)) hisR ?_
  intro p e s m args below meth c s₁ Bd hml0 hP hK
  obtain ⟨rfl, hZ, hh⟩ := hP
  have hx := Bd.exec
  have hby := Bd.bytes
  have hml : c.maxLocals = 2 := hml0
  have hown : s.vm.findClass "java/lang/Math" = some m.cls := findClass_of_methodNamed Bd.named
  have hnm := (name_of_methodNamed Bd.named Bd.method).1
  have X0 : Stand p l e ({ frames := 0, cells := 0, slots := 0, locals := 0 } : Room) s m #[(.int 10), (.int 1)] below meth c s₁ [] 0 0 := Stand.of_body Bd
  have e0 : s₁.heap = h0 := by rw [← hh, Bd.state]; rfl
  have N0 := Fr.nil n0
  obtain ⟨G0, hG0⟩ : ∃ z, z = (mkF m 0 #[.val (.int 10), .val (.int 1)] []) := ⟨_, rfl⟩
  have pre0 : ∀ t, Steps p.tables e below (s₁.setTop G0) t → Steps p.tables e below (s₁.setTop (entryFrame m #[(.int 10), (.int 1)] 2)) t := fun t k => castTop (ef_II_2 m ((10 : Int32)) ((1 : Int32))) (hG0 ▸ k)
  have k : Goes p e below s₁ G0 s₁ (mkF m 0 #[.val (.int 10), .val (.int 1)] []) := fun t q => hG0 ▸ q
  replace k := Fw.iloadN k X0 hx (hb hby d_jdk_29_method_65_0) rfl (pc' := 1) rfl
  replace k := Fw.iloadN k X0 hx (hb hby d_jdk_29_method_65_1) rfl (pc' := 2) rfl
  replace k := Fw.icmpNo k X0 hx (hb hby d_jdk_29_method_65_2) (flt (show ¬ ((10 : Int32) < (1 : Int32)) from by decide)).1 (pc' := 5) rfl
  replace k := Fw.iloadN k X0 hx (hb hby d_jdk_29_method_65_5) rfl (pc' := 6) rfl
  replace k := Fw.goto k X0 hx (hb hby d_jdk_29_method_65_6) (by decide) (pc' := 10) rfl
  obtain ⟨fs, hr, hrun, hended, hW, hsame⟩ := X0.leave (v := some (.int 10)) (fun h => by rw [Bd.returns] at h; cases h)
  refine ⟨_, _, pre0 _ (k _ ?_), hrun, hended, _, _, rfl, ?_, ⟨_, rfl⟩, hW, hsame.mono (by decide) (by decide)⟩
  · exact retI X0 hx Bd.returns (hb hby d_jdk_29_method_65_10) hr
  · show Q_Math_max_1 Z  h0 n0 _ s₁.heap _
    rw [e0]
    exact ⟨rfl, N0, rfl⟩
theorem w_177 {Z : State} {a0 : Array Value} (hw : ∀ d ∈ tables_1, d.before a0 Z = true) : (Jvm.Cond.methodLink "java/util/ArrayList" (79 : Nat) ({ cls := "java/lang/Math", name := "max", desc := "(II)I" } : Jvm.MethodName)).before a0 Z = true := hw _ (List.mem_of_getElem? (i := 177) rfl)
theorem w_180 {Z : State} {a0 : Array Value} (hw : ∀ d ∈ tables_1, d.before a0 Z = true) : (Jvm.Cond.code ({ cls := "java/lang/Math", name := "max", desc := "(II)I" } : Jvm.MethodName) jdk_29_method_65_code (2 : Nat) (Option.some Jvm.ClassFile.FieldType.int)).before a0 Z = true := hw _ (List.mem_of_getElem? (i := 180) rfl)
theorem w_179 {Z : State} {a0 : Array Value} (hw : ∀ d ∈ tables_1, d.before a0 Z = true) : (Jvm.Cond.initialized "java/lang/Math").before a0 Z = true := hw _ (List.mem_of_getElem? (i := 179) rfl)
theorem pd_II_r_I : parseMethodDescriptor "(II)I" = some ⟨[.int, .int], some .int⟩ := by decide +kernel
theorem w_178 {Z : State} {a0 : Array Value} (hw : ∀ d ∈ tables_1, d.before a0 Z = true) : (Jvm.Cond.static ({ cls := "java/lang/Math", name := "max", desc := "(II)I" } : Jvm.MethodName)).before a0 Z = true := hw _ (List.mem_of_getElem? (i := 178) rfl)
theorem d_jdk_38_method_6_52 : decode jdk_38_method_6_code 52 = .ok (.anewarray 7, 3) := by decide +kernel
theorem w_182 {Z : State} {a0 : Array Value} (hw : ∀ d ∈ tables_1, d.before a0 Z = true) : (Jvm.Cond.arrayOver (Jvm.ClassFile.FieldType.object "java/lang/Object")).before a0 Z = true := hw _ (List.mem_of_getElem? (i := 182) rfl)
theorem w_181 {Z : State} {a0 : Array Value} (hw : ∀ d ∈ tables_1, d.before a0 Z = true) : (Jvm.Cond.classLink "java/util/ArrayList" (7 : Nat) "java/lang/Object").before a0 Z = true := hw _ (List.mem_of_getElem? (i := 181) rfl)
theorem d_jdk_38_method_6_55 : decode jdk_38_method_6_code 55 = .ok (.dup_x1, 1) := by decide +kernel
theorem d_jdk_38_method_6_56 : decode jdk_38_method_6_code 56 = .ok (.putfield 9, 3) := by decide +kernel
theorem d_jdk_38_method_6_59 : decode jdk_38_method_6_code 59 = .ok (.areturn, 1) := by decide +kernel
theorem ef_RI_4 (m : MethodId) (x0 : Addr) (x1 : Int32) : entryFrame m #[(.ref x0), (.int x1)] 4 = mkF m 0 #[.val (.ref x0), .val (.int x1), .unset, .unset] [] := by first | (simp [entryFrame, mkF, argsToLocals, Value.category]; done) | rfl
def Q_ArrayList_grow_2 (Z : State) (a1 : Addr) (w_DE : Addr) (kW_DE : ClassId) (h0 : Heap) (n0 : Nat) (v : Option Value) (h : Heap) (L : List Loc) : Prop := ∃ (b6 : Addr) (kA6 : ClassId), v = some (.ref b6) ∧ Fr n0 L ∧ Keep h0 h [a1] ∧ h0.size ≤ b6 ∧ Ob Z h a1 "java/util/ArrayList" [("java/util/AbstractList", "modCount", "I", (.int 1)), ("java/util/ArrayList", "elementData", "[Ljava/lang/Object;", (.ref b6)), ("java/util/ArrayList", "size", "I", (.int 0))] ∧ Ovr Z kA6 "java/lang/Object" ∧ Aw Z h b6 "[Ljava/lang/Object;" kA6 (.object "java/lang/Object") 10 (fun _ => .null)
set_option maxRecDepth 65536 in
set_option maxHeartbeats 40000000 in
theorem rm_ArrayList_grow_2 (l : Launch) (Z : State) (a0 : Array Value) (hw : ∀ d ∈ tables_1, d.before a0 Z = true) (ws : List Jvm.Cond) (a1 : Addr) (w_DE : Addr) (kW_DE : ClassId) (h0 : Heap) (n0 : Nat) (O0 : Old Z n0 h0) (pr1 : Ob Z h0 a1 "java/util/ArrayList" [("java/util/AbstractList", "modCount", "I", (.int 1)), ("java/util/ArrayList", "elementData", "[Ljava/lang/Object;", (.ref w_DE)), ("java/util/ArrayList", "size", "I", (.int 0))]) (pr2 : Aw Z Z.heap w_DE "[Ljava/lang/Object;" kW_DE (.object "java/lang/Object") 0 (fun _ => .null)) (pr3 : Sta Z Z.heap "java/util/ArrayList" "DEFAULTCAPACITY_EMPTY_ELEMENTDATA" "[Ljava/lang/Object;" (.ref w_DE)) (pr4 : n0 ≤ a1) :
    MetFree l (⟨"java/util/ArrayList", "grow", "(I)[Ljava/lang/Object;"⟩ : MethodName) (head1 (Jvm.Cond.code (⟨"java/util/ArrayList", "grow", "(I)[Ljava/lang/Object;"⟩ : MethodName) jdk_38_method_6_code 4 (some (.array (.object "java/lang/Object"))) :: ws) ({ frames := 1, cells := 1, slots := 10, locals := 14 } : Room)) (fun a U => a = #[(.ref a1), (.int 1)] ∧ Z.Warmed39 U.vm ∧ U.heap = h0) (fun _ _ _ _ _ => True) (fun _ U o U' => ∃ v L, o = .returned v ∧ Q_ArrayList_grow_2 Z a1 w_DE kW_DE h0 n0 v U'.heap L ∧ FrameEnd U o U' L ({ frames := 1, cells := 1, slots := 10, locals := 14 } : Room).cells ({ frames := 1, cells := 1, slots := 10, locals := 14 } : Room).slots) := by
  refine MetFree.of_bodySF (plainFor_of_name pn_ArrayList) hisR ?_
  intro p e s m args below meth c s₁ Bd hml0 hP hK
  obtain ⟨rfl, hZ, hh⟩ := hP
  have hx := Bd.exec
  have hby := Bd.bytes
  have hml : c.maxLocals = 4 := hml0
  have hown : s.vm.findClass "java/util/ArrayList" = some m.cls := findClass_of_methodNamed Bd.named
  have hnm := (name_of_methodNamed Bd.named Bd.method).1
  have X0 : Stand p l e ({ frames := 1, cells := 1, slots := 10, locals := 14 } : Room) s m #[(.ref a1), (.int 1)] below meth c s₁ [] 0 0 := Stand.of_body Bd
  have e0 : s₁.heap = h0 := by rw [← hh, Bd.state]; rfl
  have N0 := Fr.nil n0
  obtain ⟨G0, hG0⟩ : ∃ z, z = (mkF m 0 #[.val (.ref a1), .val (.int 1), .unset, .unset] []) := ⟨_, rfl⟩
  have pre0 : ∀ t, Steps p.tables e below (s₁.setTop G0) t → Steps p.tables e below (s₁.setTop (entryFrame m #[(.ref a1), (.int 1)] 4)) t := fun t k => castTop (ef_RI_4 m a1 ((1 : Int32))) (hG0 ▸ k)
  have k : Goes p e below s₁ G0 s₁ (mkF m 0 #[.val (.ref a1), .val (.int 1), .unset, .unset] []) := fun t q => hG0 ▸ q
  replace k := Fw.aloadN k X0 hx (hb hby d_jdk_38_method_6_0) rfl rfl (pc' := 1) rfl
  obtain ⟨T1, X1, e1, st1⟩ := getF X0 hx hZ hown (host := "") (Or.inl (w_51 hw)) Via.refl e0 (Ob.at pr1 1 rfl) (g := (mkF m 1 #[.val (.ref a1), .val (.int 1), .unset, .unset] [(.ref a1)])) rfl rfl (hb hby d_jdk_38_method_6_1)
  replace k : Goes p e below s₁ G0 T1 (mkF m 4 #[.val (.ref a1), .val (.int 1), .unset, .unset] [(.ref w_DE)]) := fun t q => k t (st1 _ q)
  obtain ⟨cl2, Ar2, hl2⟩ := Aw.len (pr2.ext O0.2) (0 : Int32) (by decide)
  replace k : Goes p e below s₁ G0 T1 (mkF m 5 #[.val (.ref a1), .val (.int 1), .unset, .unset] [(.int 0)]) := fun t q => k t (X1.arraylength hx (by rw [e1]; exact Ar2.1) (State.isArrayOf_alike hZ.alike Ar2.2.1) (g := (mkF m 4 #[.val (.ref a1), .val (.int 1), .unset, .unset] [(.ref w_DE)])) rfl rfl (hb hby d_jdk_38_method_6_4) _ (by rw [hl2]; exact q))
  replace k := Fw.istoreN k X1 hx (hb hby d_jdk_38_method_6_5)  (Ls' := #[.val (.ref a1), .val (.int 1), .val (.int 0), .unset]) rfl (pc' := 6) rfl
  replace k := Fw.iloadN k X1 hx (hb hby d_jdk_38_method_6_6) rfl (pc' := 7) rfl
  replace k := Fw.ifNo k X1 hx (hb hby d_jdk_38_method_6_7) ((if0 _ _).trans (flt (show ¬ ((0 : Int32) < (0 : Int32)) from by decide)).2.2.1) (pc' := 10) rfl
  replace k := Fw.aloadN k X1 hx (hb hby d_jdk_38_method_6_10) rfl rfl (pc' := 11) rfl
  obtain ⟨T3, X3, e3, st3⟩ := getF X1 hx hZ hown (host := "") (Or.inl (w_51 hw)) Via.refl e1 (Ob.at pr1 1 rfl) (g := (mkF m 11 #[.val (.ref a1), .val (.int 1), .val (.int 0), .unset] [(.ref a1)])) rfl rfl (hb hby d_jdk_38_method_6_11)
  replace k : Goes p e below s₁ G0 T3 (mkF m 14 #[.val (.ref a1), .val (.int 1), .val (.int 0), .unset] [(.ref w_DE)]) := fun t q => k t (st3 _ q)
  obtain ⟨T4, X4, e4, st4⟩ := getS2 X3 hx hZ hown (host := "") (Or.inl (w_50 hw)) Via.refl e3 (pr3.ext O0.2) (g := (mkF m 14 #[.val (.ref a1), .val (.int 1), .val (.int 0), .unset] [(.ref w_DE)])) rfl (hb hby d_jdk_38_method_6_14)
  replace k : Goes p e below s₁ G0 T4 (mkF m 17 #[.val (.ref a1), .val (.int 1), .val (.int 0), .unset] [(.ref w_DE), (.ref w_DE)]) := fun t q => k t (st4 _ q)
  replace k := Fw.acmp k X4 hx (hb hby d_jdk_38_method_6_17) rfl rfl true (decide_eq_true rfl) (by decide) (pc' := 45) (by decide)
  replace k := Fw.aloadN k X4 hx (hb hby d_jdk_38_method_6_45) rfl rfl (pc' := 46) rfl
  replace k := Fw.bipush k X4 hx (hb hby d_jdk_38_method_6_46) (z := (10 : Int32)) (by decide) (pc' := 48) rfl
  replace k := Fw.iloadN k X4 hx (hb hby d_jdk_38_method_6_48) rfl (pc' := 49) rfl
  obtain ⟨_, _, ⟨T5, L5, kz5, nz5⟩, -, X5, ⟨Lc5, hQ5, l5, y5, z5⟩, st5⟩ := Jvm.LawKit.callS X4 hx (y := (⟨"java/lang/Math", "max", "(II)I"⟩ : MethodName)) hown (mvT hZ (w_177 hw)) (mvT hZ (w_178 hw)) (mvT hZ (w_179 hw)) (mvT hZ (w_180 hw)) (by decide) (backOf (W := 1) (rm_Math_max_1 l Z a0 hw []  h0 n0 O0 ) hZ (w_180 hw) (w_179 hw) (by decide) (by decide)) (g := (mkF m 49 #[.val (.ref a1), .val (.int 1), .val (.int 0), .unset] [(.int 1), (.int 10), (.ref a1)])) rfl (by rw [hml]; rfl) (argsL := [(.int 10), (.int 1)]) (rest := [(.ref a1)]) (lenOf pd_II_r_I rfl) rfl (by show 2 * 0 + _ ≤ _; exact Nat.le_of_eq rfl) (hb hby d_jdk_38_method_6_49) (fun _ _ => ⟨rfl, e4, (by decide : 0 + 0 ≤ _), (by decide : 0 + 0 ≤ _)⟩)
  dsimp only [Pt.U, Pt.locs, Pt.cells, Pt.slots] at X5 l5 y5 z5 st5 hQ5
  subst l5 y5 z5
  obtain ⟨hv5, N5q, e5⟩ := hQ5
  subst hv5
  have N5 := Fr.app N0 N5q
  replace k : Goes p e below s₁ G0 T5 (mkF m 52 #[.val (.ref a1), .val (.int 1), .val (.int 0), .unset] [(.int 10), (.ref a1)]) := fun t q => k t (st5 _ q)
  obtain ⟨T6, h6, kA6, X6, e6, E6, A6, U6, O6, st6⟩ := newRE X5 hx hZ hown (w_181 hw) (w_182 hw) e5 (g := (mkF m 52 #[.val (.ref a1), .val (.int 1), .val (.int 0), .unset] [(.int 10), (.ref a1)])) rfl (hb hby d_jdk_38_method_6_52) rfl (by decide) (cap := 10) (by decide) (by decide) (by decide) (by decide) (ad := "[Ljava/lang/Object;") (by decide)
  obtain ⟨b6, g6⟩ : ∃ z, z = h0.size := ⟨_, rfl⟩
  rw [← g6] at A6 U6 st6
  have gz_b6 : h0.size ≤ b6 := Nat.le_trans (Nat.le_refl h0.size) (Nat.le_of_eq g6.symm)
  have V6 : Aw Z h6 b6 "[Ljava/lang/Object;" kA6 (.object "java/lang/Object") 10 (fun _ => .null) := Aw.new A6 U6 (by decide) 10 (by decide)
  replace k : Goes p e below s₁ G0 T6 (mkF m 55 #[.val (.ref a1), .val (.int 1), .val (.int 0), .unset] [(.ref b6), (.ref a1)]) := fun t q => k t (st6 _ q)
  replace k := Fw.dupX1 k X6 hx (hb hby d_jdk_38_method_6_55) rfl rfl (pc' := 56) rfl
  have fc7 := (pr1.ext E6)
  obtain ⟨T8, h8, X8, e8, W8, st8⟩ := putF X6 hx hZ hown (host := "") (Or.inl (w_51 hw)) Via.refl e6 (Ob.at fc7 1 rfl) fc7.exa (Or.inl (w_52 hw)) (w_30 hw) (ty := (.array (.object "java/lang/Object"))) (by decide +kernel) rfl rfl (g := (mkF m 56 #[.val (.ref a1), .val (.int 1), .val (.int 0), .unset] [(.ref b6), (.ref a1), (.ref b6)])) rfl rfl (hb hby d_jdk_38_method_6_56)
  have N8 := Fr.snoc X8 N5 pr4
  have O8 : Ob Z h8 a1 "java/util/ArrayList" [("java/util/AbstractList", "modCount", "I", (.int 1)), ("java/util/ArrayList", "elementData", "[Ljava/lang/Object;", (.ref b6)), ("java/util/ArrayList", "size", "I", (.int 0))] := Ob.put fc7 (lay_ArrayList hw) 1 rfl W8
  replace k : Goes p e below s₁ G0 T8 (mkF m 59 #[.val (.ref a1), .val (.int 1), .val (.int 0), .unset] [(.ref b6)]) := fun t q => k t (st8 _ q)
  obtain ⟨fs, hr, hrun, hended, hW, hsame⟩ := X8.leave (v := some (.ref b6)) (fun h => by rw [Bd.returns] at h; cases h)
  refine ⟨_, _, pre0 _ (k _ ?_), hrun, hended, _, _, rfl, ?_, ⟨_, rfl⟩, hW, hsame.mono (by decide) (by decide)⟩
  · show Steps p.tables e below (T8.setTop (mkF m 59 #[.val (.ref a1), .val (.int 1), .val (.int 0), .unset] [(.ref b6)])) _
    jvm_step X8.here [X8.here.top, hx, (hb hby d_jdk_38_method_6_59), X8.method', Bd.returns, Value.isRef, FieldType.isReference]
    first | (intro acts; rw [hr _ acts rfl rfl rfl]) | rw [hr _ _ rfl rfl rfl]
    exact Steps.refl _
  · show Q_ArrayList_grow_2 Z a1 w_DE kW_DE h0 n0 _ T8.heap _
    rw [e8]
    exact ⟨b6, kA6, rfl, N8, (((Keep.refl h0 [a1]).ext E6).wr W8 (Or.inl (List.mem_of_getElem? (i := 0) rfl))), gz_b6, O8, O6, (V6.other W8 (Ne.symm (Nat.ne_of_lt (Nat.lt_of_lt_of_le pr1.lt gz_b6))))⟩
theorem w_172 {Z : State} {a0 : Array Value} (hw : ∀ d ∈ tables_1, d.before a0 Z = true) : (Jvm.Cond.methodLink "java/util/ArrayList" (69 : Nat) ({ cls := "java/util/ArrayList", name := "grow", desc := "(I)[Ljava/lang/Object;" } : Jvm.MethodName)).before a0 Z = true := hw _ (List.mem_of_getElem? (i := 172) rfl)
theorem w_176 {Z : State} {a0 : Array Value} (hw : ∀ d ∈ tables_1, d.before a0 Z = true) : (Jvm.Cond.code ({ cls := "java/util/ArrayList", name := "grow", desc := "(I)[Ljava/lang/Object;" } : Jvm.MethodName) jdk_38_method_6_code (4 : Nat) (Option.some (Jvm.ClassFile.FieldType.array (Jvm.ClassFile.FieldType.object "java/lang/Object")))).before a0 Z = true := hw _ (List.mem_of_getElem? (i := 176) rfl)
theorem pd_I_r_ALjava_lang_Object : parseMethodDescriptor "(I)[Ljava/lang/Object;" = some ⟨[.int], some (.array (.object "java/lang/Object"))⟩ := by decide +kernel
theorem w_175 {Z : State} {a0 : Array Value} (hw : ∀ d ∈ tables_1, d.before a0 Z = true) : (Jvm.Cond.selects "java/util/ArrayList" ({ cls := "java/util/ArrayList", name := "grow", desc := "(I)[Ljava/lang/Object;" } : Jvm.MethodName) ({ cls := "java/util/ArrayList", name := "grow", desc := "(I)[Ljava/lang/Object;" } : Jvm.MethodName)).before a0 Z = true := hw _ (List.mem_of_getElem? (i := 175) rfl)
theorem w_173 {Z : State} {a0 : Array Value} (hw : ∀ d ∈ tables_1, d.before a0 Z = true) : (Jvm.Cond.instanceMethod ({ cls := "java/util/ArrayList", name := "grow", desc := "(I)[Ljava/lang/Object;" } : Jvm.MethodName)).before a0 Z = true := hw _ (List.mem_of_getElem? (i := 173) rfl)
theorem w_174 {Z : State} {a0 : Array Value} (hw : ∀ d ∈ tables_1, d.before a0 Z = true) : (Jvm.Cond.privateMethod ({ cls := "java/util/ArrayList", name := "grow", desc := "(I)[Ljava/lang/Object;" } : Jvm.MethodName)).before a0 Z = true := hw _ (List.mem_of_getElem? (i := 174) rfl)
theorem d_jdk_38_method_7_10 : decode jdk_38_method_7_code 10 = .ok (.areturn, 1) := by decide +kernel
def Q_ArrayList_grow_1 (Z : State) (a1 : Addr) (w_DE : Addr) (kW_DE : ClassId) (h0 : Heap) (n0 : Nat) (v : Option Value) (h : Heap) (L : List Loc) : Prop := ∃ (b6_2 : Addr) (kA6_2 : ClassId), v = some (.ref b6_2) ∧ Fr n0 L ∧ Keep h0 h [a1] ∧ h0.size ≤ b6_2 ∧ Ob Z h a1 "java/util/ArrayList" [("java/util/AbstractList", "modCount", "I", (.int 1)), ("java/util/ArrayList", "elementData", "[Ljava/lang/Object;", (.ref b6_2)), ("java/util/ArrayList", "size", "I", (.int 0))] ∧ Ovr Z kA6_2 "java/lang/Object" ∧ Aw Z h b6_2 "[Ljava/lang/Object;" kA6_2 (.object "java/lang/Object") 10 (fun _ => .null)
set_option maxRecDepth 65536 in
set_option maxHeartbeats 40000000 in
theorem rm_ArrayList_grow_1 (l : Launch) (Z : State) (a0 : Array Value) (hw : ∀ d ∈ tables_1, d.before a0 Z = true) (ws : List Jvm.Cond) (a1 : Addr) (w_DE : Addr) (kW_DE : ClassId) (h0 : Heap) (n0 : Nat) (O0 : Old Z n0 h0) (pr1 : Ob Z h0 a1 "java/util/ArrayList" [("java/util/AbstractList", "modCount", "I", (.int 1)), ("java/util/ArrayList", "elementData", "[Ljava/lang/Object;", (.ref w_DE)), ("java/util/ArrayList", "size", "I", (.int 0))]) (pr2 : n0 ≤ a1) (pr3 : Aw Z Z.heap w_DE "[Ljava/lang/Object;" kW_DE (.object "java/lang/Object") 0 (fun _ => .null)) (pr4 : Sta Z Z.heap "java/util/ArrayList" "DEFAULTCAPACITY_EMPTY_ELEMENTDATA" "[Ljava/lang/Object;" (.ref w_DE)) :
    MetFree l (⟨"java/util/ArrayList", "grow", "()[Ljava/lang/Object;"⟩ : MethodName) (head1 (Jvm.Cond.code (⟨"java/util/ArrayList", "grow", "()[Ljava/lang/Object;"⟩ : MethodName) jdk_38_method_7_code 1 (some (.array (.object "java/lang/Object"))) :: ws) ({ frames := 2, cells := 1, slots := 10, locals := 29 } : Room)) (fun a U => a = #[(.ref a1)] ∧ Z.Warmed39 U.vm ∧ U.heap = h0) (fun _ _ _ _ _ => True) (fun _ U o U' => ∃ v L, o = .returned v ∧ Q_ArrayList_grow_1 Z a1 w_DE kW_DE h0 n0 v U'.heap L ∧ FrameEnd U o U' L ({ frames := 2, cells := 1, slots := 10, locals := 29 } : Room).cells ({ frames := 2, cells := 1, slots := 10, locals := 29 } : Room).slots) := by
  refine MetFree.of_bodySF (plainFor_of_name pn_ArrayList) hisR ?_
  intro p e s m args below meth c s₁ Bd hml0 hP hK
  obtain ⟨rfl, hZ, hh⟩ := hP
  have hx := Bd.exec
  have hby := Bd.bytes
  have hml : c.maxLocals = 1 := hml0
  have hown : s.vm.findClass "java/util/ArrayList" = some m.cls := findClass_of_methodNamed Bd.named
  have hnm := (name_of_methodNamed Bd.named Bd.method).1
  have X0 : Stand p l e ({ frames := 2, cells := 1, slots := 10, locals := 29 } : Room) s m #[(.ref a1)] below meth c s₁ [] 0 0 := Stand.of_body Bd
  have e0 : s₁.heap = h0 := by rw [← hh, Bd.state]; rfl
  have N0 := Fr.nil n0
  obtain ⟨G0, hG0⟩ : ∃ z, z = (mkF m 0 #[.val (.ref a1)] []) := ⟨_, rfl⟩
  have pre0 : ∀ t, Steps p.tables e below (s₁.setTop G0) t → Steps p.tables e below (s₁.setTop (entryFrame m #[(.ref a1)] 1)) t := fun t k => castTop (ef_R_1 m a1) (hG0 ▸ k)
  have k : Goes p e below s₁ G0 s₁ (mkF m 0 #[.val (.ref a1)] []) := fun t q => hG0 ▸ q
  replace k := Fw.aloadN k X0 hx (hb hby d_jdk_38_method_7_0) rfl rfl (pc' := 1) rfl
  replace k := Fw.aloadN k X0 hx (hb hby d_jdk_38_method_7_1) rfl rfl (pc' := 2) rfl
  obtain ⟨T1, X1, e1, st1⟩ := getF X0 hx hZ hown (host := "") (Or.inl (w_160 hw)) Via.refl e0 (Ob.at pr1 2 rfl) (g := (mkF m 2 #[.val (.ref a1)] [(.ref a1), (.ref a1)])) rfl rfl (hb hby d_jdk_38_method_7_2)
  replace k : Goes p e below s₁ G0 T1 (mkF m 5 #[.val (.ref a1)] [(.int 0), (.ref a1)]) := fun t q => k t (st1 _ q)
  replace k := Fw.iconst k X1 hx (hb hby d_jdk_38_method_7_5) (z := (1 : Int32)) (by decide) (pc' := 6) rfl
  replace k := Fw.iadd k X1 hx (hb hby d_jdk_38_method_7_6) (z := (1 : Int32)) (by decide) (pc' := 7) rfl
  obtain ⟨cq2, q2, q2'⟩ := Exa.cell pr1.exa
  obtain ⟨_, _, ⟨T2, L2, kz2, nz2⟩, -, X2, ⟨Lc2, hQ2, l2, y2, z2⟩, st2⟩ := X1.privateBack hx (y := (⟨"java/util/ArrayList", "grow", "(I)[Ljava/lang/Object;"⟩ : MethodName)) hown (mvT hZ (w_172 hw)) (mvT hZ (w_173 hw)) (mvT hZ (w_175 hw)) (Cond.privateMethod_at (mvP hZ (w_174 hw) (args := #[]))) (mvT hZ (w_176 hw)) (by decide) (backOf (W := 0) (rm_ArrayList_grow_2 l Z a0 hw [] a1 w_DE kW_DE h0 n0 O0 pr1 pr3 pr4 pr2) hZ (w_176 hw) (w_31 hw) (by decide) (by decide)) (g := (mkF m 7 #[.val (.ref a1)] [(.int 1), (.ref a1)])) rfl (by rw [hml]; rfl) (Steps.refl _) (a := a1) (by rw [e1]; exact q2) q2' (argsL := [(.int 1)]) (rest := []) (lenOf pd_I_r_ALjava_lang_Object rfl) rfl (by show 2 * 0 + _ ≤ _; exact Nat.le_of_eq rfl) (hb hby d_jdk_38_method_7_7) (fun _ _ => ⟨rfl, e1, (by decide : 0 + 1 ≤ _), (by decide : 0 + 10 ≤ _)⟩)
  dsimp only [Pt.U, Pt.locs, Pt.cells, Pt.slots] at X2 l2 y2 z2 st2 hQ2
  subst l2 y2 z2
  obtain ⟨b6_2, kA6_2, hv2, N2q, K2, f2_0, f2_1, f2_2, f2_3⟩ := hQ2
  subst hv2
  have N2 := Fr.app N0 N2q
  have gz_b6_2 : h0.size ≤ b6_2 := Nat.le_trans (Nat.le_refl h0.size) f2_0
  replace k : Goes p e below s₁ G0 T2 (mkF m 10 #[.val (.ref a1)] [(.ref b6_2)]) := fun t q => k t (st2.trans q)
  obtain ⟨fs, hr, hrun, hended, hW, hsame⟩ := X2.leave (v := some (.ref b6_2)) (fun h => by rw [Bd.returns] at h; cases h)
  refine ⟨_, _, pre0 _ (k _ ?_), hrun, hended, _, _, rfl, ?_, ⟨_, rfl⟩, hW, hsame.mono (by decide) (by decide)⟩
  · show Steps p.tables e below (T2.setTop (mkF m 10 #[.val (.ref a1)] [(.ref b6_2)])) _
    jvm_step X2.here [X2.here.top, hx, (hb hby d_jdk_38_method_7_10), X2.method', Bd.returns, Value.isRef, FieldType.isReference]
    first | (intro acts; rw [hr _ acts rfl rfl rfl]) | rw [hr _ _ rfl rfl rfl]
    exact Steps.refl _
  · show Q_ArrayList_grow_1 Z a1 w_DE kW_DE h0 n0 _ T2.heap _
    exact ⟨b6_2, kA6_2, rfl, N2, ((Keep.refl h0 [a1]).trans K2 (allS (Or.inl (List.mem_of_getElem? (i := 0) rfl)) all0)), gz_b6_2, f2_1, f2_2, f2_3⟩
theorem w_167 {Z : State} {a0 : Array Value} (hw : ∀ d ∈ tables_1, d.before a0 Z = true) : (Jvm.Cond.methodLink "java/util/ArrayList" (129 : Nat) ({ cls := "java/util/ArrayList", name := "grow", desc := "()[Ljava/lang/Object;" } : Jvm.MethodName)).before a0 Z = true := hw _ (List.mem_of_getElem? (i := 167) rfl)
theorem w_171 {Z : State} {a0 : Array Value} (hw : ∀ d ∈ tables_1, d.before a0 Z = true) : (Jvm.Cond.code ({ cls := "java/util/ArrayList", name := "grow", desc := "()[Ljava/lang/Object;" } : Jvm.MethodName) jdk_38_method_7_code (1 : Nat) (Option.some (Jvm.ClassFile.FieldType.array (Jvm.ClassFile.FieldType.object "java/lang/Object")))).before a0 Z = true := hw _ (List.mem_of_getElem? (i := 171) rfl)
theorem pd__r_ALjava_lang_Object : parseMethodDescriptor "()[Ljava/lang/Object;" = some ⟨[], some (.array (.object "java/lang/Object"))⟩ := by decide +kernel
theorem w_170 {Z : State} {a0 : Array Value} (hw : ∀ d ∈ tables_1, d.before a0 Z = true) : (Jvm.Cond.selects "java/util/ArrayList" ({ cls := "java/util/ArrayList", name := "grow", desc := "()[Ljava/lang/Object;" } : Jvm.MethodName) ({ cls := "java/util/ArrayList", name := "grow", desc := "()[Ljava/lang/Object;" } : Jvm.MethodName)).before a0 Z = true := hw _ (List.mem_of_getElem? (i := 170) rfl)
theorem w_168 {Z : State} {a0 : Array Value} (hw : ∀ d ∈ tables_1, d.before a0 Z = true) : (Jvm.Cond.instanceMethod ({ cls := "java/util/ArrayList", name := "grow", desc := "()[Ljava/lang/Object;" } : Jvm.MethodName)).before a0 Z = true := hw _ (List.mem_of_getElem? (i := 168) rfl)
theorem w_169 {Z : State} {a0 : Array Value} (hw : ∀ d ∈ tables_1, d.before a0 Z = true) : (Jvm.Cond.privateMethod ({ cls := "java/util/ArrayList", name := "grow", desc := "()[Ljava/lang/Object;" } : Jvm.MethodName)).before a0 Z = true := hw _ (List.mem_of_getElem? (i := 169) rfl)
theorem d_jdk_38_method_24_10 : decode jdk_38_method_24_code 10 = .ok (.astore_n 2, 1) := by decide +kernel
theorem d_jdk_38_method_24_11 : decode jdk_38_method_24_code 11 = .ok (.aload_n 2, 1) := by decide +kernel
theorem d_jdk_38_method_24_12 : decode jdk_38_method_24_code 12 = .ok (.iload_n 3, 1) := by decide +kernel
theorem d_jdk_38_method_24_13 : decode jdk_38_method_24_code 13 = .ok (.aload_n 1, 1) := by decide +kernel
theorem d_jdk_38_method_24_14 : decode jdk_38_method_24_code 14 = .ok (.aastore, 1) := by decide +kernel
theorem w_183 {Z : State} {a0 : Array Value} (hw : ∀ d ∈ tables_1, d.before a0 Z = true) : (Jvm.Cond.castable "[B" "java/lang/Object").before a0 Z = true := hw _ (List.mem_of_getElem? (i := 183) rfl)
theorem d_jdk_38_method_24_15 : decode jdk_38_method_24_code 15 = .ok (.aload_n 0, 1) := by decide +kernel
theorem d_jdk_38_method_24_16 : decode jdk_38_method_24_code 16 = .ok (.iload_n 3, 1) := by decide +kernel
theorem d_jdk_38_method_24_17 : decode jdk_38_method_24_code 17 = .ok (.iconst 1, 1) := by decide +kernel
theorem d_jdk_38_method_24_18 : decode jdk_38_method_24_code 18 = .ok (.iadd, 1) := by decide +kernel
theorem d_jdk_38_method_24_19 : decode jdk_38_method_24_code 19 = .ok (.putfield 48, 3) := by decide +kernel
theorem d_jdk_38_method_24_22 : decode jdk_38_method_24_code 22 = .ok (.return_, 1) := by decide +kernel
theorem ef_RRRI_4 (m : MethodId) (x0 : Addr) (x1 : Addr) (x2 : Addr) (x3 : Int32) : entryFrame m #[(.ref x0), (.ref x1), (.ref x2), (.int x3)] 4 = mkF m 0 #[.val (.ref x0), .val (.ref x1), .val (.ref x2), .val (.int x3)] [] := by first | (simp [entryFrame, mkF, argsToLocals, Value.category]; done) | rfl
def Q_ArrayList_add_2 (Z : State) (a1 : Addr) (a2 : Addr) (w_DE : Addr) (kW_DE : ClassId) (k3 : ClassId) (h0 : Heap) (n0 : Nat) (v : Option Value) (h : Heap) (L : List Loc) : Prop := ∃ (b6_2_2 : Addr) (kA6_2_2 : ClassId), v = none ∧ Fr n0 L ∧ Keep h0 h [a1] ∧ h0.size ≤ b6_2_2 ∧ Ob Z h a1 "java/util/ArrayList" [("java/util/AbstractList", "modCount", "I", (.int 1)), ("java/util/ArrayList", "elementData", "[Ljava/lang/Object;", (.ref b6_2_2)), ("java/util/ArrayList", "size", "I", (.int 1))] ∧ Ovr Z kA6_2_2 "java/lang/Object" ∧ Aw Z h b6_2_2 "[Ljava/lang/Object;" kA6_2_2 (.object "java/lang/Object") 10 (updv (fun _ => .null) 0 (.ref a2))
set_option maxRecDepth 65536 in
set_option maxHeartbeats 40000000 in
theorem rm_ArrayList_add_2 (l : Launch) (Z : State) (a0 : Array Value) (hw : ∀ d ∈ tables_1, d.before a0 Z = true) (ws : List Jvm.Cond) (a1 : Addr) (a2 : Addr) (w_DE : Addr) (kW_DE : ClassId) (k3 : ClassId) (h0 : Heap) (n0 : Nat) (O0 : Old Z n0 h0) (pr1 : Aw Z Z.heap w_DE "[Ljava/lang/Object;" kW_DE (.object "java/lang/Object") 0 (fun _ => .null)) (pr2 : Ob Z h0 a1 "java/util/ArrayList" [("java/util/AbstractList", "modCount", "I", (.int 1)), ("java/util/ArrayList", "elementData", "[Ljava/lang/Object;", (.ref w_DE)), ("java/util/ArrayList", "size", "I", (.int 0))]) (pr3 : n0 ≤ a1) (pr4 : Sta Z Z.heap "java/util/ArrayList" "DEFAULTCAPACITY_EMPTY_ELEMENTDATA" "[Ljava/lang/Object;" (.ref w_DE)) (pr5 : Aw Z h0 a2 "[B" k3 .byte 65536 (fun _ => (.int 0))) (pr6 : a2 ≠ a1) :
    MetFree l (⟨"java/util/ArrayList", "add", "(Ljava/lang/Object;[Ljava/lang/Object;I)V"⟩ : MethodName) (head1 (Jvm.Cond.code (⟨"java/util/ArrayList", "add", "(Ljava/lang/Object;[Ljava/lang/Object;I)V"⟩ : MethodName) jdk_38_method_24_code 4 none :: ws) ({ frames := 3, cells := 1, slots := 10, locals := 41 } : Room)) (fun a U => a = #[(.ref a1), (.ref a2), (.ref w_DE), (.int 0)] ∧ Z.Warmed39 U.vm ∧ U.heap = h0) (fun _ _ _ _ _ => True) (fun _ U o U' => ∃ v L, o = .returned v ∧ Q_ArrayList_add_2 Z a1 a2 w_DE kW_DE k3 h0 n0 v U'.heap L ∧ FrameEnd U o U' L ({ frames := 3, cells := 1, slots := 10, locals := 41 } : Room).cells ({ frames := 3, cells := 1, slots := 10, locals := 41 } : Room).slots) := by
  refine MetFree.of_bodySF (plainFor_of_name pn_ArrayList) hisR ?_
  intro p e s m args below meth c s₁ Bd hml0 hP hK
  obtain ⟨rfl, hZ, hh⟩ := hP
  have hx := Bd.exec
  have hby := Bd.bytes
  have hml : c.maxLocals = 4 := hml0
  have hown : s.vm.findClass "java/util/ArrayList" = some m.cls := findClass_of_methodNamed Bd.named
  have hnm := (name_of_methodNamed Bd.named Bd.method).1
  have X0 : Stand p l e ({ frames := 3, cells := 1, slots := 10, locals := 41 } : Room) s m #[(.ref a1), (.ref a2), (.ref w_DE), (.int 0)] below meth c s₁ [] 0 0 := Stand.of_body Bd
  have e0 : s₁.heap = h0 := by rw [← hh, Bd.state]; rfl
  have N0 := Fr.nil n0
  obtain ⟨G0, hG0⟩ : ∃ z, z = (mkF m 0 #[.val (.ref a1), .val (.ref a2), .val (.ref w_DE), .val (.int 0)] []) := ⟨_, rfl⟩
  have pre0 : ∀ t, Steps p.tables e below (s₁.setTop G0) t → Steps p.tables e below (s₁.setTop (entryFrame m #[(.ref a1), (.ref a2), (.ref w_DE), (.int 0)] 4)) t := fun t k => castTop (ef_RRRI_4 m a1 a2 w_DE ((0 : Int32))) (hG0 ▸ k)
  have k : Goes p e below s₁ G0 s₁ (mkF m 0 #[.val (.ref a1), .val (.ref a2), .val (.ref w_DE), .val (.int 0)] []) := fun t q => hG0 ▸ q
  replace k := Fw.iloadN k X0 hx (hb hby d_jdk_38_method_24_0) rfl (pc' := 1) rfl
  replace k := Fw.aloadN k X0 hx (hb hby d_jdk_38_method_24_1) rfl rfl (pc' := 2) rfl
  obtain ⟨cl1, Ar1, hl1⟩ := Aw.len (pr1.ext O0.2) (0 : Int32) (by decide)
  replace k : Goes p e below s₁ G0 s₁ (mkF m 3 #[.val (.ref a1), .val (.ref a2), .val (.ref w_DE), .val (.int 0)] [(.int 0), (.int 0)]) := fun t q => k t (X0.arraylength hx (by rw [e0]; exact Ar1.1) (State.isArrayOf_alike hZ.alike Ar1.2.1) (g := (mkF m 2 #[.val (.ref a1), .val (.ref a2), .val (.ref w_DE), .val (.int 0)] [(.ref w_DE), (.int 0)])) rfl rfl (hb hby d_jdk_38_method_24_2) _ (by rw [hl1]; exact q))
  replace k := Fw.icmpNo k X0 hx (hb hby d_jdk_38_method_24_3) (teq (show (0 : Int32) = (0 : Int32) from by decide)).2 (pc' := 6) rfl
  replace k := Fw.aloadN k X0 hx (hb hby d_jdk_38_method_24_6) rfl rfl (pc' := 7) rfl
  obtain ⟨cq2, q2, q2'⟩ := Exa.cell pr2.exa
  obtain ⟨_, _, ⟨T2, L2, kz2, nz2⟩, -, X2, ⟨Lc2, hQ2, l2, y2, z2⟩, st2⟩ := X0.privateBack hx (y := (⟨"java/util/ArrayList", "grow", "()[Ljava/lang/Object;"⟩ : MethodName)) hown (mvT hZ (w_167 hw)) (mvT hZ (w_168 hw)) (mvT hZ (w_170 hw)) (Cond.privateMethod_at (mvP hZ (w_169 hw) (args := #[]))) (mvT hZ (w_171 hw)) (by decide) (backOf (W := 0) (rm_ArrayList_grow_1 l Z a0 hw [] a1 w_DE kW_DE h0 n0 O0 pr2 pr3 pr1 pr4) hZ (w_171 hw) (w_31 hw) (by decide) (by decide)) (g := (mkF m 7 #[.val (.ref a1), .val (.ref a2), .val (.ref w_DE), .val (.int 0)] [(.ref a1)])) rfl (by rw [hml]; rfl) (Steps.refl _) (a := a1) (by rw [e0]; exact q2) q2' (argsL := []) (rest := []) (lenOf pd__r_ALjava_lang_Object rfl) rfl (by show 2 * 0 + _ ≤ _; exact Nat.le_of_eq rfl) (hb hby d_jdk_38_method_24_7) (fun _ _ => ⟨rfl, e0, (by decide : 0 + 1 ≤ _), (by decide : 0 + 10 ≤ _)⟩)
  dsimp only [Pt.U, Pt.locs, Pt.cells, Pt.slots] at X2 l2 y2 z2 st2 hQ2
  subst l2 y2 z2
  obtain ⟨b6_2_2, kA6_2_2, hv2, N2q, K2, f2_0, f2_1, f2_2, f2_3⟩ := hQ2
  subst hv2
  have N2 := Fr.app N0 N2q
  have gz_b6_2_2 : h0.size ≤ b6_2_2 := Nat.le_trans (Nat.le_refl h0.size) f2_0
  replace k : Goes p e below s₁ G0 T2 (mkF m 10 #[.val (.ref a1), .val (.ref a2), .val (.ref w_DE), .val (.int 0)] [(.ref b6_2_2)]) := fun t q => k t (st2.trans q)
  replace k := Fw.astoreN k X2 hx (hb hby d_jdk_38_method_24_10)  rfl (Ls' := #[.val (.ref a1), .val (.ref a2), .val (.ref b6_2_2), .val (.int 0)]) rfl (pc' := 11) rfl
  replace k := Fw.aloadN k X2 hx (hb hby d_jdk_38_method_24_11) rfl rfl (pc' := 12) rfl
  replace k := Fw.iloadN k X2 hx (hb hby d_jdk_38_method_24_12) rfl (pc' := 13) rfl
  replace k := Fw.aloadN k X2 hx (hb hby d_jdk_38_method_24_13) rfl rfl (pc' := 14) rfl
  obtain ⟨cl3, Ar3, hin3, -, kq3, -⟩ := Aw.open f2_3 (j := (0 : Int32)) 0 (by decide) (by decide) (by decide)
  have fc4 := (pr5.keep K2 (ninS pr6 nin0))
  obtain ⟨T3, h3, X3, e3, W3, st3⟩ := stR X2 hx hZ rfl Ar3 (j := (0 : Int32)) hin3 rfl (Sto.ofV Ar3 kq3 f2_2 (Ins.of_exa fc4.exa (w_183 hw))) (g := (mkF m 14 #[.val (.ref a1), .val (.ref a2), .val (.ref b6_2_2), .val (.int 0)] [(.ref a2), (.int 0), (.ref b6_2_2)])) rfl rfl (hb hby d_jdk_38_method_24_14)
  have N3 := Fr.snoc X3 N2 (Nat.le_trans (old_le O0) gz_b6_2_2)
  have V3 : Aw Z h3 b6_2_2 "[Ljava/lang/Object;" kA6_2_2 (.object "java/lang/Object") 10 (updv (fun _ => .null) 0 (.ref a2)) := Aw.set f2_3 W3 0 (by decide) rfl
  replace k : Goes p e below s₁ G0 T3 (mkF m 15 #[.val (.ref a1), .val (.ref a2), .val (.ref b6_2_2), .val (.int 0)] []) := fun t q => k t (st3 _ q)
  replace k := Fw.aloadN k X3 hx (hb hby d_jdk_38_method_24_15) rfl rfl (pc' := 16) rfl
  replace k := Fw.iloadN k X3 hx (hb hby d_jdk_38_method_24_16) rfl (pc' := 17) rfl
  replace k := Fw.iconst k X3 hx (hb hby d_jdk_38_method_24_17) (z := (1 : Int32)) (by decide) (pc' := 18) rfl
  replace k := Fw.iadd k X3 hx (hb hby d_jdk_38_method_24_18) (z := (1 : Int32)) (by decide) (pc' := 19) rfl
  have fc5 := (f2_1.other W3 (Nat.ne_of_lt (Nat.lt_of_lt_of_le pr2.lt gz_b6_2_2)))
  obtain ⟨T6, h6, X6, e6, W6, st6⟩ := putF X3 hx hZ hown (host := "") (Or.inl (w_160 hw)) Via.refl e3 (Ob.at fc5 2 rfl) fc5.exa (Or.inl (w_161 hw)) (w_30 hw) (ty := .int) (by decide +kernel) rfl rfl (g := (mkF m 19 #[.val (.ref a1), .val (.ref a2), .val (.ref b6_2_2), .val (.int 0)] [(.int 1), (.ref a1)])) rfl rfl (hb hby d_jdk_38_method_24_19)
  have N6 := Fr.snoc X6 N3 pr3
  have O6 : Ob Z h6 a1 "java/util/ArrayList" [("java/util/AbstractList", "modCount", "I", (.int 1)), ("java/util/ArrayList", "elementData", "[Ljava/lang/Object;", (.ref b6_2_2)), ("java/util/ArrayList", "size", "I", (.int 1))] := Ob.put fc5 (lay_ArrayList hw) 2 rfl W6
  replace k : Goes p e below s₁ G0 T6 (mkF m 22 #[.val (.ref a1), .val (.ref a2), .val (.ref b6_2_2), .val (.int 0)] []) := fun t q => k t (st6 _ q)
  obtain ⟨fs, hr, hrun, hended, hW, hsame⟩ := X6.leave (v := none) (fun _ => rfl)
  refine ⟨_, _, pre0 _ (k _ ?_), hrun, hended, _, _, rfl, ?_, ⟨_, rfl⟩, hW, hsame.mono (by decide) (by decide)⟩
  · exact X6.returnOut hx Bd.returns (hb hby d_jdk_38_method_24_22) hr
  · show Q_ArrayList_add_2 Z a1 a2 w_DE kW_DE k3 h0 n0 _ T6.heap _
    rw [e6]
    exact ⟨b6_2_2, kA6_2_2, rfl, N6, ((((Keep.refl h0 [a1]).trans K2 (allS (Or.inl (List.mem_of_getElem? (i := 0) rfl)) all0)).wr W3 (Or.inr gz_b6_2_2)).wr W6 (Or.inl (List.mem_of_getElem? (i := 0) rfl))), gz_b6_2_2, O6, f2_2, (V3.other W6 (Ne.symm (Nat.ne_of_lt (Nat.lt_of_lt_of_le pr2.lt gz_b6_2_2))))⟩
theorem w_162 {Z : State} {a0 : Array Value} (hw : ∀ d ∈ tables_1, d.before a0 Z = true) : (Jvm.Cond.methodLink "java/util/ArrayList" (131 : Nat) ({ cls := "java/util/ArrayList", name := "add", desc := "(Ljava/lang/Object;[Ljava/lang/Object;I)V" } : Jvm.MethodName)).before a0 Z = true := hw _ (List.mem_of_getElem? (i := 162) rfl)
theorem w_166 {Z : State} {a0 : Array Value} (hw : ∀ d ∈ tables_1, d.before a0 Z = true) : (Jvm.Cond.code ({ cls := "java/util/ArrayList", name := "add", desc := "(Ljava/lang/Object;[Ljava/lang/Object;I)V" } : Jvm.MethodName) jdk_38_method_24_code (4 : Nat) (Option.none : Option Jvm.ClassFile.FieldType)).before a0 Z = true := hw _ (List.mem_of_getElem? (i := 166) rfl)
theorem pd_Ljava_lang_ObjectALjava_lang_ObjectI_r_V : parseMethodDescriptor "(Ljava/lang/Object;[Ljava/lang/Object;I)V" = some ⟨[(.object "java/lang/Object"), (.array (.object "java/lang/Object")), .int], none⟩ := by decide +kernel
theorem w_165 {Z : State} {a0 : Array Value} (hw : ∀ d ∈ tables_1, d.before a0 Z = true) : (Jvm.Cond.selects "java/util/ArrayList" ({ cls := "java/util/ArrayList", name := "add", desc := "(Ljava/lang/Object;[Ljava/lang/Object;I)V" } : Jvm.MethodName) ({ cls := "java/util/ArrayList", name := "add", desc := "(Ljava/lang/Object;[Ljava/lang/Object;I)V" } : Jvm.MethodName)).before a0 Z = true := hw _ (List.mem_of_getElem? (i := 165) rfl)
theorem w_163 {Z : State} {a0 : Array Value} (hw : ∀ d ∈ tables_1, d.before a0 Z = true) : (Jvm.Cond.instanceMethod ({ cls := "java/util/ArrayList", name := "add", desc := "(Ljava/lang/Object;[Ljava/lang/Object;I)V" } : Jvm.MethodName)).before a0 Z = true := hw _ (List.mem_of_getElem? (i := 163) rfl)
theorem w_164 {Z : State} {a0 : Array Value} (hw : ∀ d ∈ tables_1, d.before a0 Z = true) : (Jvm.Cond.privateMethod ({ cls := "java/util/ArrayList", name := "add", desc := "(Ljava/lang/Object;[Ljava/lang/Object;I)V" } : Jvm.MethodName)).before a0 Z = true := hw _ (List.mem_of_getElem? (i := 164) rfl)
theorem d_jdk_38_method_25_23 : decode jdk_38_method_25_code 23 = .ok (.iconst 1, 1) := by decide +kernel
theorem d_jdk_38_method_25_24 : decode jdk_38_method_25_code 24 = .ok (.ireturn, 1) := by decide +kernel
theorem ef_RR_2 (m : MethodId) (x0 : Addr) (x1 : Addr) : entryFrame m #[(.ref x0), (.ref x1)] 2 = mkF m 0 #[.val (.ref x0), .val (.ref x1)] [] := by first | (simp [entryFrame, mkF, argsToLocals, Value.category]; done) | rfl
def Q_ArrayList_add_1 (Z : State) (a1 : Addr) (a2 : Addr) (w_DE : Addr) (k3 : ClassId) (kW_DE : ClassId) (h0 : Heap) (n0 : Nat) (v : Option Value) (h : Heap) (L : List Loc) : Prop := ∃ (b6_2_2_5 : Addr) (kA6_2_2_5 : ClassId), v = some (.int 1) ∧ Fr n0 L ∧ Keep h0 h [a1] ∧ h0.size ≤ b6_2_2_5 ∧ Ob Z h a1 "java/util/ArrayList" [("java/util/AbstractList", "modCount", "I", (.int 1)), ("java/util/ArrayList", "elementData", "[Ljava/lang/Object;", (.ref b6_2_2_5)), ("java/util/ArrayList", "size", "I", (.int 1))] ∧ Ovr Z kA6_2_2_5 "java/lang/Object" ∧ Aw Z h b6_2_2_5 "[Ljava/lang/Object;" kA6_2_2_5 (.object "java/lang/Object") 10 (updv (fun _ => .null) 0 (.ref a2))
set_option maxRecDepth 65536 in
set_option maxHeartbeats 40000000 in
theorem rm_ArrayList_add_1 (l : Launch) (Z : State) (a0 : Array Value) (hw : ∀ d ∈ tables_1, d.before a0 Z = true) (ws : List Jvm.Cond) (a1 : Addr) (a2 : Addr) (w_DE : Addr) (k3 : ClassId) (kW_DE : ClassId) (h0 : Heap) (n0 : Nat) (O0 : Old Z n0 h0) (pr1 : Ob Z h0 a1 "java/util/ArrayList" [("java/util/AbstractList", "modCount", "I", (.int 0)), ("java/util/ArrayList", "elementData", "[Ljava/lang/Object;", (.ref w_DE)), ("java/util/ArrayList", "size", "I", (.int 0))]) (pr2 : n0 ≤ a1) (pr3 : Aw Z h0 a2 "[B" k3 .byte 65536 (fun _ => (.int 0))) (pr4 : a2 ≠ a1) (pr5 : Aw Z Z.heap w_DE "[Ljava/lang/Object;" kW_DE (.object "java/lang/Object") 0 (fun _ => .null)) (pr6 : Sta Z Z.heap "java/util/ArrayList" "DEFAULTCAPACITY_EMPTY_ELEMENTDATA" "[Ljava/lang/Object;" (.ref w_DE)) :
    MetFree l (⟨"java/util/ArrayList", "add", "(Ljava/lang/Object;)Z"⟩ : MethodName) (head1 (Jvm.Cond.code (⟨"java/util/ArrayList", "add", "(Ljava/lang/Object;)Z"⟩ : MethodName) jdk_38_method_25_code 2 (some .boolean) :: ws) ({ frames := 4, cells := 1, slots := 10, locals := 56 } : Room)) (fun a U => a = #[(.ref a1), (.ref a2)] ∧ Z.Warmed39 U.vm ∧ U.heap = h0) (fun _ _ _ _ _ => True) (fun _ U o U' => ∃ v L, o = .returned v ∧ Q_ArrayList_add_1 Z a1 a2 w_DE k3 kW_DE h0 n0 v U'.heap L ∧ FrameEnd U o U' L ({ frames := 4, cells := 1, slots := 10, locals := 56 } : Room).cells ({ frames := 4, cells := 1, slots := 10, locals := 56 } : Room).slots) := by
  refine MetFree.of_bodySF (plainFor_of_name pn_ArrayList) hisR ?_
  intro p e s m args below meth c s₁ Bd hml0 hP hK
  obtain ⟨rfl, hZ, hh⟩ := hP
  have hx := Bd.exec
  have hby := Bd.bytes
  have hml : c.maxLocals = 2 := hml0
  have hown : s.vm.findClass "java/util/ArrayList" = some m.cls := findClass_of_methodNamed Bd.named
  have hnm := (name_of_methodNamed Bd.named Bd.method).1
  have X0 : Stand p l e ({ frames := 4, cells := 1, slots := 10, locals := 56 } : Room) s m #[(.ref a1), (.ref a2)] below meth c s₁ [] 0 0 := Stand.of_body Bd
  have e0 : s₁.heap = h0 := by rw [← hh, Bd.state]; rfl
  have N0 := Fr.nil n0
  obtain ⟨G0, hG0⟩ : ∃ z, z = (mkF m 0 #[.val (.ref a1), .val (.ref a2)] []) := ⟨_, rfl⟩
  have pre0 : ∀ t, Steps p.tables e below (s₁.setTop G0) t → Steps p.tables e below (s₁.setTop (entryFrame m #[(.ref a1), (.ref a2)] 2)) t := fun t k => castTop (ef_RR_2 m a1 a2) (hG0 ▸ k)
  have k : Goes p e below s₁ G0 s₁ (mkF m 0 #[.val (.ref a1), .val (.ref a2)] []) := fun t q => hG0 ▸ q
  replace k := Fw.aloadN k X0 hx (hb hby d_jdk_38_method_25_0) rfl rfl (pc' := 1) rfl
  replace k := Fw.dup k X0 hx (hb hby d_jdk_38_method_25_1) rfl (pc' := 2) rfl
  obtain ⟨T1, X1, e1, st1⟩ := getF X0 hx hZ hown (host := "") (Or.inl (w_158 hw)) (Via.of (w_159 hw)) e0 (Ob.at pr1 0 rfl) (g := (mkF m 2 #[.val (.ref a1), .val (.ref a2)] [(.ref a1), (.ref a1)])) rfl rfl (hb hby d_jdk_38_method_25_2)
  replace k : Goes p e below s₁ G0 T1 (mkF m 5 #[.val (.ref a1), .val (.ref a2)] [(.int 0), (.ref a1)]) := fun t q => k t (st1 _ q)
  replace k := Fw.iconst k X1 hx (hb hby d_jdk_38_method_25_5) (z := (1 : Int32)) (by decide) (pc' := 6) rfl
  replace k := Fw.iadd k X1 hx (hb hby d_jdk_38_method_25_6) (z := (1 : Int32)) (by decide) (pc' := 7) rfl
  obtain ⟨T2, h2, X2, e2, W2, st2⟩ := putF X1 hx hZ hown (host := "") (Or.inl (w_158 hw)) (Via.of (w_159 hw)) e1 (Ob.at pr1 0 rfl) pr1.exa (Or.inl (w_49 hw)) (w_30 hw) (ty := .int) (by decide +kernel) rfl rfl (g := (mkF m 7 #[.val (.ref a1), .val (.ref a2)] [(.int 1), (.ref a1)])) rfl rfl (hb hby d_jdk_38_method_25_7)
  have N2 := Fr.snoc X2 N0 pr2
  have O2 : Ob Z h2 a1 "java/util/ArrayList" [("java/util/AbstractList", "modCount", "I", (.int 1)), ("java/util/ArrayList", "elementData", "[Ljava/lang/Object;", (.ref w_DE)), ("java/util/ArrayList", "size", "I", (.int 0))] := Ob.put pr1 (lay_ArrayList hw) 0 rfl W2
  replace k : Goes p e below s₁ G0 T2 (mkF m 10 #[.val (.ref a1), .val (.ref a2)] []) := fun t q => k t (st2 _ q)
  replace k := Fw.aloadN k X2 hx (hb hby d_jdk_38_method_25_10) rfl rfl (pc' := 11) rfl
  replace k := Fw.aloadN k X2 hx (hb hby d_jdk_38_method_25_11) rfl rfl (pc' := 12) rfl
  replace k := Fw.aloadN k X2 hx (hb hby d_jdk_38_method_25_12) rfl rfl (pc' := 13) rfl
  obtain ⟨T3, X3, e3, st3⟩ := getF X2 hx hZ hown (host := "") (Or.inl (w_51 hw)) Via.refl e2 (Ob.at O2 1 rfl) (g := (mkF m 13 #[.val (.ref a1), .val (.ref a2)] [(.ref a1), (.ref a2), (.ref a1)])) rfl rfl (hb hby d_jdk_38_method_25_13)
  replace k : Goes p e below s₁ G0 T3 (mkF m 16 #[.val (.ref a1), .val (.ref a2)] [(.ref w_DE), (.ref a2), (.ref a1)]) := fun t q => k t (st3 _ q)
  replace k := Fw.aloadN k X3 hx (hb hby d_jdk_38_method_25_16) rfl rfl (pc' := 17) rfl
  obtain ⟨T4, X4, e4, st4⟩ := getF X3 hx hZ hown (host := "") (Or.inl (w_160 hw)) Via.refl e3 (Ob.at O2 2 rfl) (g := (mkF m 17 #[.val (.ref a1), .val (.ref a2)] [(.ref a1), (.ref w_DE), (.ref a2), (.ref a1)])) rfl rfl (hb hby d_jdk_38_method_25_17)
  replace k : Goes p e below s₁ G0 T4 (mkF m 20 #[.val (.ref a1), .val (.ref a2)] [(.int 0), (.ref w_DE), (.ref a2), (.ref a1)]) := fun t q => k t (st4 _ q)
  have fc6 := (pr3.other W2 pr4)
  have fc7 := (O0.wr W2 pr2)
  obtain ⟨cq5, q5, q5'⟩ := Exa.cell O2.exa
  obtain ⟨_, _, ⟨T5, L5, kz5, nz5⟩, -, X5, ⟨Lc5, hQ5, l5, y5, z5⟩, st5⟩ := X4.privateBack hx (y := (⟨"java/util/ArrayList", "add", "(Ljava/lang/Object;[Ljava/lang/Object;I)V"⟩ : MethodName)) hown (mvT hZ (w_162 hw)) (mvT hZ (w_163 hw)) (mvT hZ (w_165 hw)) (Cond.privateMethod_at (mvP hZ (w_164 hw) (args := #[]))) (mvT hZ (w_166 hw)) (by decide) (backOf (W := 0) (rm_ArrayList_add_2 l Z a0 hw [] a1 a2 w_DE kW_DE k3 h2 n0 fc7 pr5 O2 pr2 pr6 fc6 pr4) hZ (w_166 hw) (w_31 hw) (by decide) (by decide)) (g := (mkF m 20 #[.val (.ref a1), .val (.ref a2)] [(.int 0), (.ref w_DE), (.ref a2), (.ref a1)])) rfl (by rw [hml]; rfl) (Steps.refl _) (a := a1) (by rw [e4]; exact q5) q5' (argsL := [(.ref a2), (.ref w_DE), (.int 0)]) (rest := []) (lenOf pd_Ljava_lang_ObjectALjava_lang_ObjectI_r_V rfl) rfl (by show 2 * 0 + _ ≤ _; exact Nat.le_of_eq rfl) (hb hby d_jdk_38_method_25_20) (fun _ _ => ⟨rfl, e4, (by decide : 0 + 1 ≤ _), (by decide : 0 + 10 ≤ _)⟩)
  dsimp only [Pt.U, Pt.locs, Pt.cells, Pt.slots] at X5 l5 y5 z5 st5 hQ5
  subst l5 y5 z5
  obtain ⟨b6_2_2_5, kA6_2_2_5, hv5, N5q, K5, f5_0, f5_1, f5_2, f5_3⟩ := hQ5
  subst hv5
  have N5 := Fr.app N2 N5q
  have fc8 := (Nat.le_trans (Nat.le_refl h0.size) (Nat.le_of_eq (Wr.size W2).symm))
  have gz_b6_2_2_5 : h0.size ≤ b6_2_2_5 := Nat.le_trans fc8 f5_0
  replace k : Goes p e below s₁ G0 T5 (mkF m 23 #[.val (.ref a1), .val (.ref a2)] []) := fun t q => k t (st5.trans q)
  replace k := Fw.iconst k X5 hx (hb hby d_jdk_38_method_25_23) (z := (1 : Int32)) (by decide) (pc' := 24) rfl
  obtain ⟨fs, hr, hrun, hended, hW, hsame⟩ := X5.leave (v := some (.int 1)) (fun h => by rw [Bd.returns] at h; cases h)
  refine ⟨_, _, pre0 _ (k _ ?_), hrun, hended, _, _, rfl, ?_, ⟨_, rfl⟩, hW, hsame.mono (by decide) (by decide)⟩
  · exact retN X5 hx (t := .boolean) Bd.returns (by simp) (hb hby d_jdk_38_method_25_24) hr
  · show Q_ArrayList_add_1 Z a1 a2 w_DE k3 kW_DE h0 n0 _ T5.heap _
    exact ⟨b6_2_2_5, kA6_2_2_5, rfl, N5, (((Keep.refl h0 [a1]).wr W2 (Or.inl (List.mem_of_getElem? (i := 0) rfl))).trans K5 (allS (Or.inl (List.mem_of_getElem? (i := 0) rfl)) all0)), gz_b6_2_2_5, f5_1, f5_2, f5_3⟩
theorem w_149 {Z : State} {a0 : Array Value} (hw : ∀ d ∈ tables_1, d.before a0 Z = true) : (Jvm.Cond.methodLink "com/example/kleinmaschine/kleinmaschine/PagedBytes" (58 : Nat) ({ cls := "java/util/List", name := "add", desc := "(Ljava/lang/Object;)Z" } : Jvm.MethodName)).before a0 Z = true := hw _ (List.mem_of_getElem? (i := 149) rfl)
theorem w_157 {Z : State} {a0 : Array Value} (hw : ∀ d ∈ tables_1, d.before a0 Z = true) : (Jvm.Cond.code ({ cls := "java/util/ArrayList", name := "add", desc := "(Ljava/lang/Object;)Z" } : Jvm.MethodName) jdk_38_method_25_code (2 : Nat) (Option.some Jvm.ClassFile.FieldType.boolean)).before a0 Z = true := hw _ (List.mem_of_getElem? (i := 157) rfl)
theorem pd_Ljava_lang_Object_r_Z : parseMethodDescriptor "(Ljava/lang/Object;)Z" = some ⟨[(.object "java/lang/Object")], some .boolean⟩ := by decide +kernel
theorem w_152 {Z : State} {a0 : Array Value} (hw : ∀ d ∈ tables_1, d.before a0 Z = true) : (Jvm.Cond.selects "java/util/ArrayList" ({ cls := "java/util/List", name := "add", desc := "(Ljava/lang/Object;)Z" } : Jvm.MethodName) ({ cls := "java/util/ArrayList", name := "add", desc := "(Ljava/lang/Object;)Z" } : Jvm.MethodName)).before a0 Z = true := hw _ (List.mem_of_getElem? (i := 152) rfl)
theorem w_150 {Z : State} {a0 : Array Value} (hw : ∀ d ∈ tables_1, d.before a0 Z = true) : (Jvm.Cond.declares ({ cls := "java/util/List", name := "add", desc := "(Ljava/lang/Object;)Z" } : Jvm.MethodName)).before a0 Z = true := hw _ (List.mem_of_getElem? (i := 150) rfl)
theorem w_151 {Z : State} {a0 : Array Value} (hw : ∀ d ∈ tables_1, d.before a0 Z = true) : (Jvm.Cond.interfaceMethod "java/util/List" "java/util/List" "add" "(Ljava/lang/Object;)Z").before a0 Z = true := hw _ (List.mem_of_getElem? (i := 151) rfl)
theorem w_153 {Z : State} {a0 : Array Value} (hw : ∀ d ∈ tables_1, d.before a0 Z = true) : (Jvm.Cond.instanceMethod ({ cls := "java/util/ArrayList", name := "add", desc := "(Ljava/lang/Object;)Z" } : Jvm.MethodName)).before a0 Z = true := hw _ (List.mem_of_getElem? (i := 153) rfl)
theorem w_154 {Z : State} {a0 : Array Value} (hw : ∀ d ∈ tables_1, d.before a0 Z = true) : (Jvm.Cond.publicMethod ({ cls := "java/util/ArrayList", name := "add", desc := "(Ljava/lang/Object;)Z" } : Jvm.MethodName)).before a0 Z = true := hw _ (List.mem_of_getElem? (i := 154) rfl)
theorem w_155 {Z : State} {a0 : Array Value} (hw : ∀ d ∈ tables_1, d.before a0 Z = true) : (Jvm.Cond.unhidden "java/util/ArrayList" "add" "(Ljava/lang/Object;)Z").before a0 Z = true := hw _ (List.mem_of_getElem? (i := 155) rfl)
theorem w_156 {Z : State} {a0 : Array Value} (hw : ∀ d ∈ tables_1, d.before a0 Z = true) : (Jvm.Cond.castable "java/util/ArrayList" "java/util/List").before a0 Z = true := hw _ (List.mem_of_getElem? (i := 156) rfl)
theorem d_prog_33_method_7_30 : decode prog_33_method_7_code 30 = .ok (.pop, 1) := by decide +kernel
theorem d_prog_33_method_7_31 : decode prog_33_method_7_code 31 = .ok (.aload_n 0, 1) := by decide +kernel
theorem d_prog_33_method_7_32 : decode prog_33_method_7_code 32 = .ok (.iconst 0, 1) := by decide +kernel
theorem d_prog_33_method_7_33 : decode prog_33_method_7_code 33 = .ok (.putfield 17, 3) := by decide +kernel
theorem d_prog_33_method_7_36 : decode prog_33_method_7_code 36 = .ok (.aload_n 0, 1) := by decide +kernel
theorem d_prog_33_method_7_37 : decode prog_33_method_7_code 37 = .ok (.getfield 54, 3) := by decide +kernel
theorem d_prog_33_method_7_40 : decode prog_33_method_7_code 40 = .ok (.aload_n 0, 1) := by decide +kernel
theorem d_prog_33_method_7_41 : decode prog_33_method_7_code 41 = .ok (.dup, 1) := by decide +kernel
theorem d_prog_33_method_7_42 : decode prog_33_method_7_code 42 = .ok (.getfield 17, 3) := by decide +kernel
theorem d_prog_33_method_7_45 : decode prog_33_method_7_code 45 = .ok (.dup_x1, 1) := by decide +kernel
theorem d_prog_33_method_7_46 : decode prog_33_method_7_code 46 = .ok (.iconst 1, 1) := by decide +kernel
theorem d_prog_33_method_7_47 : decode prog_33_method_7_code 47 = .ok (.iadd, 1) := by decide +kernel
theorem d_prog_33_method_7_48 : decode prog_33_method_7_code 48 = .ok (.putfield 17, 3) := by decide +kernel
theorem d_prog_33_method_7_51 : decode prog_33_method_7_code 51 = .ok (.iload_n 1, 1) := by decide +kernel
theorem d_prog_33_method_7_52 : decode prog_33_method_7_code 52 = .ok (.i2b, 1) := by decide +kernel
theorem d_prog_33_method_7_53 : decode prog_33_method_7_code 53 = .ok (.bastore, 1) := by decide +kernel
theorem d_prog_33_method_7_54 : decode prog_33_method_7_code 54 = .ok (.aload_n 0, 1) := by decide +kernel
theorem d_prog_33_method_7_55 : decode prog_33_method_7_code 55 = .ok (.dup, 1) := by decide +kernel
theorem d_prog_33_method_7_56 : decode prog_33_method_7_code 56 = .ok (.getfield 64, 3) := by decide +kernel
theorem d_prog_33_method_7_59 : decode prog_33_method_7_code 59 = .ok (.lconst 1, 1) := by decide +kernel
theorem d_prog_33_method_7_60 : decode prog_33_method_7_code 60 = .ok (.ladd, 1) := by decide +kernel
theorem d_prog_33_method_7_61 : decode prog_33_method_7_code 61 = .ok (.putfield 64, 3) := by decide +kernel
theorem d_prog_33_method_7_64 : decode prog_33_method_7_code 64 = .ok (.return_, 1) := by decide +kernel
theorem ef_RI_2 (m : MethodId) (x0 : Addr) (x1 : Int32) : entryFrame m #[(.ref x0), (.int x1)] 2 = mkF m 0 #[.val (.ref x0), .val (.int x1)] [] := by first | (simp [entryFrame, mkF, argsToLocals, Value.category]; done) | rfl
def Q_PagedBytes_write_1 (Z : State) (a1 : Addr) (a2 : Addr) (w_DE : Addr) (kW_DE : ClassId) (h0 : Heap) (n0 : Nat) (v : Option Value) (h : Heap) (L : List Loc) : Prop := ∃ (b6_2_2_5_7 : Addr) (b2 : Addr) (kA6_2_2_5_7 : ClassId) (kA2 : ClassId), v = none ∧ Fr n0 L ∧ Keep h0 h [a2, a1] ∧ h0.size ≤ b6_2_2_5_7 ∧ h0.size ≤ b2 ∧ b2 ≠ b6_2_2_5_7 ∧ Ob Z h a2 "java/util/ArrayList" [("java/util/AbstractList", "modCount", "I", (.int 1)), ("java/util/ArrayList", "elementData", "[Ljava/lang/Object;", (.ref b6_2_2_5_7)), ("java/util/ArrayList", "size", "I", (.int 1))] ∧ Ob Z h a1 "com/example/kleinmaschine/kleinmaschine/PagedBytes" [("com/example/kleinmaschine/kleinmaschine/PagedBytes", "pages", "Ljava/util/List;", (.ref a2)), ("com/example/kleinmaschine/kleinmaschine/PagedBytes", "lastUsed", "I", (.int 1)), ("com/example/kleinmaschine/kleinmaschine/PagedBytes", "size", "J", (.long 1)), ("com/example/kleinmaschine/kleinmaschine/PagedBytes", "last", "[B", (.ref b2))] ∧ Ovr Z kA6_2_2_5_7 "java/lang/Object" ∧ Aw Z h b6_2_2_5_7 "[Ljava/lang/Object;" kA6_2_2_5_7 (.object "java/lang/Object") 10 (updv (fun _ => .null) 0 (.ref b2)) ∧ Aw Z h b2 "[B" kA2 .byte 65536 (updv (fun _ => (.int 0)) 0 (.int 1))
set_option maxRecDepth 65536 in
set_option maxHeartbeats 40000000 in
theorem rm_PagedBytes_write_1 (l : Launch) (Z : State) (a0 : Array Value) (hw : ∀ d ∈ tables_1, d.before a0 Z = true) (ws : List Jvm.Cond) (a1 : Addr) (a2 : Addr) (w_DE : Addr) (kW_DE : ClassId) (h0 : Heap) (n0 : Nat) (O0 : Old Z n0 h0) (pr1 : Ob Z h0 a1 "com/example/kleinmaschine/kleinmaschine/PagedBytes" [("com/example/kleinmaschine/kleinmaschine/PagedBytes", "pages", "Ljava/util/List;", (.ref a2)), ("com/example/kleinmaschine/kleinmaschine/PagedBytes", "lastUsed", "I", (.int 65536)), ("com/example/kleinmaschine/kleinmaschine/PagedBytes", "size", "J", (.long 0)), ("com/example/kleinmaschine/kleinmaschine/PagedBytes", "last", "[B", .null)]) (pr2 : n0 ≤ a1) (pr3 : Ob Z h0 a2 "java/util/ArrayList" [("java/util/AbstractList", "modCount", "I", (.int 0)), ("java/util/ArrayList", "elementData", "[Ljava/lang/Object;", (.ref w_DE)), ("java/util/ArrayList", "size", "I", (.int 0))]) (pr4 : n0 ≤ a2) (pr5 : a2 ≠ a1) (pr6 : Aw Z Z.heap w_DE "[Ljava/lang/Object;" kW_DE (.object "java/lang/Object") 0 (fun _ => .null)) (pr7 : Sta Z Z.heap "java/util/ArrayList" "DEFAULTCAPACITY_EMPTY_ELEMENTDATA" "[Ljava/lang/Object;" (.ref w_DE)) :
    MetFree l (⟨"com/example/kleinmaschine/kleinmaschine/PagedBytes", "write", "(I)V"⟩ : MethodName) (head1 (Jvm.Cond.code (⟨"com/example/kleinmaschine/kleinmaschine/PagedBytes", "write", "(I)V"⟩ : MethodName) prog_33_method_7_code 2 none :: ws) ({ frames := 5, cells := 2, slots := 65546, locals := 69 } : Room)) (fun a U => a = #[(.ref a1), (.int 1)] ∧ Z.Warmed39 U.vm ∧ U.heap = h0) (fun _ _ _ _ _ => True) (fun _ U o U' => ∃ v L, o = .returned v ∧ Q_PagedBytes_write_1 Z a1 a2 w_DE kW_DE h0 n0 v U'.heap L ∧ FrameEnd U o U' L ({ frames := 5, cells := 2, slots := 65546, locals := 69 } : Room).cells ({ frames := 5, cells := 2, slots := 65546, locals := 69 } : Room).slots) := by
  refine MetFree.of_bodySF (plainFor_of_name pn_PagedBytes) hisR ?_
  intro p e s m args below meth c s₁ Bd hml0 hP hK
  obtain ⟨rfl, hZ, hh⟩ := hP
  have hx := Bd.exec
  have hby := Bd.bytes
  have hml : c.maxLocals = 2 := hml0
  have hown : s.vm.findClass "com/example/kleinmaschine/kleinmaschine/PagedBytes" = some m.cls := findClass_of_methodNamed Bd.named
  have hnm := (name_of_methodNamed Bd.named Bd.method).1
  have X0 : Stand p l e ({ frames := 5, cells := 2, slots := 65546, locals := 69 } : Room) s m #[(.ref a1), (.int 1)] below meth c s₁ [] 0 0 := Stand.of_body Bd
  have e0 : s₁.heap = h0 := by rw [← hh, Bd.state]; rfl
  have N0 := Fr.nil n0
  obtain ⟨G0, hG0⟩ : ∃ z, z = (mkF m 0 #[.val (.ref a1), .val (.int 1)] []) := ⟨_, rfl⟩
  have pre0 : ∀ t, Steps p.tables e below (s₁.setTop G0) t → Steps p.tables e below (s₁.setTop (entryFrame m #[(.ref a1), (.int 1)] 2)) t := fun t k => castTop (ef_RI_2 m a1 ((1 : Int32))) (hG0 ▸ k)
  have k : Goes p e below s₁ G0 s₁ (mkF m 0 #[.val (.ref a1), .val (.int 1)] []) := fun t q => hG0 ▸ q
  replace k := Fw.aloadN k X0 hx (hb hby d_prog_33_method_7_0) rfl rfl (pc' := 1) rfl
  obtain ⟨T1, X1, e1, st1⟩ := getF X0 hx hZ hown (host := "") (Or.inl (w_56 hw)) Via.refl e0 (Ob.at pr1 1 rfl) (g := (mkF m 1 #[.val (.ref a1), .val (.int 1)] [(.ref a1)])) rfl rfl (hb hby d_prog_33_method_7_1)
  replace k : Goes p e below s₁ G0 T1 (mkF m 4 #[.val (.ref a1), .val (.int 1)] [(.int 65536)]) := fun t q => k t (st1 _ q)
  replace k : Goes p e below s₁ G0 T1 (mkF m 6 #[.val (.ref a1), .val (.int 1)] [(.int 65536), (.int 65536)]) := fun t q => k t (X1.ldcInt hx hown (mvT hZ (w_55 hw)) (g := (mkF m 4 #[.val (.ref a1), .val (.int 1)] [(.int 65536)])) rfl (hb hby d_prog_33_method_7_4) _ q)
  replace k := Fw.icmpNo k X1 hx (hb hby d_prog_33_method_7_6) (teq (show (65536 : Int32) = (65536 : Int32) from by decide)).2 (pc' := 9) rfl
  replace k := Fw.aloadN k X1 hx (hb hby d_prog_33_method_7_9) rfl rfl (pc' := 10) rfl
  replace k : Goes p e below s₁ G0 T1 (mkF m 12 #[.val (.ref a1), .val (.int 1)] [(.int 65536), (.ref a1)]) := fun t q => k t (X1.ldcInt hx hown (mvT hZ (w_55 hw)) (g := (mkF m 10 #[.val (.ref a1), .val (.int 1)] [(.ref a1)])) rfl (hb hby d_prog_33_method_7_10) _ q)
  obtain ⟨T2, h2, kA2, X2, e2, E2, A2, U2, st2⟩ := newPE (aty := .byte) X1 hx hZ (w_146 hw) e1 (g := (mkF m 12 #[.val (.ref a1), .val (.int 1)] [(.int 65536), (.ref a1)])) rfl (hb hby d_prog_33_method_7_12) rfl (by decide) (cap := 65536) (by decide) (by decide) (by decide) (by decide) (ad := "[B") (by decide)
  obtain ⟨b2, g2⟩ : ∃ z, z = h0.size := ⟨_, rfl⟩
  rw [← g2] at A2 U2 st2
  have gz_b2 : h0.size ≤ b2 := Nat.le_trans (Nat.le_refl h0.size) (Nat.le_of_eq g2.symm)
  have V2 : Aw Z h2 b2 "[B" kA2 .byte 65536 (fun _ => (.int 0)) := Aw.new A2 U2 (by decide) 65536 (by decide)
  replace k : Goes p e below s₁ G0 T2 (mkF m 14 #[.val (.ref a1), .val (.int 1)] [(.ref b2), (.ref a1)]) := fun t q => k t (st2 _ q)
  have fc3 := (pr1.ext E2)
  obtain ⟨T4, h4, X4, e4, W4, st4⟩ := putF X2 hx hZ hown (host := "") (Or.inl (w_147 hw)) Via.refl e2 (Ob.at fc3 3 rfl) fc3.exa (Or.inl (w_148 hw)) (w_18 hw) (ty := (.array .byte)) (by decide +kernel) rfl rfl (g := (mkF m 14 #[.val (.ref a1), .val (.int 1)] [(.ref b2), (.ref a1)])) rfl rfl (hb hby d_prog_33_method_7_14)
  have N4 := Fr.snoc X4 N0 pr2
  have O4 : Ob Z h4 a1 "com/example/kleinmaschine/kleinmaschine/PagedBytes" [("com/example/kleinmaschine/kleinmaschine/PagedBytes", "pages", "Ljava/util/List;", (.ref a2)), ("com/example/kleinmaschine/kleinmaschine/PagedBytes", "lastUsed", "I", (.int 65536)), ("com/example/kleinmaschine/kleinmaschine/PagedBytes", "size", "J", (.long 0)), ("com/example/kleinmaschine/kleinmaschine/PagedBytes", "last", "[B", (.ref b2))] := Ob.put fc3 (lay_PagedBytes hw) 3 rfl W4
  replace k : Goes p e below s₁ G0 T4 (mkF m 17 #[.val (.ref a1), .val (.int 1)] []) := fun t q => k t (st4 _ q)
  replace k := Fw.aloadN k X4 hx (hb hby d_prog_33_method_7_17) rfl rfl (pc' := 18) rfl
  obtain ⟨T5, X5, e5, st5⟩ := getF X4 hx hZ hown (host := "") (Or.inl (w_53 hw)) Via.refl e4 (Ob.at O4 0 rfl) (g := (mkF m 18 #[.val (.ref a1), .val (.int 1)] [(.ref a1)])) rfl rfl (hb hby d_prog_33_method_7_18)
  replace k : Goes p e below s₁ G0 T5 (mkF m 21 #[.val (.ref a1), .val (.int 1)] [(.ref a2)]) := fun t q => k t (st5 _ q)
  replace k := Fw.aloadN k X5 hx (hb hby d_prog_33_method_7_21) rfl rfl (pc' := 22) rfl
  obtain ⟨T6, X6, e6, st6⟩ := getF X5 hx hZ hown (host := "") (Or.inl (w_147 hw)) Via.refl e5 (Ob.at O4 3 rfl) (g := (mkF m 22 #[.val (.ref a1), .val (.int 1)] [(.ref a1), (.ref a2)])) rfl rfl (hb hby d_prog_33_method_7_22)
  replace k : Goes p e below s₁ G0 T6 (mkF m 25 #[.val (.ref a1), .val (.int 1)] [(.ref b2), (.ref a2)]) := fun t q => k t (st6 _ q)
  have fc8 := ((pr3.ext E2).other W4 pr5)
  have fc9 := (V2.other W4 (Ne.symm (Nat.ne_of_lt (Nat.lt_of_lt_of_le pr1.lt gz_b2))))
  have fc10 := ((O0.ext E2).wr W4 pr2)
  obtain ⟨cq7, kq7, q7a, q7b, q7c⟩ := isOf hZ e6 fc8.exa
  obtain ⟨_, _, ⟨T7, L7, kz7, nz7⟩, -, X7, ⟨Lc7, hQ7, l7, y7, z7⟩, st7⟩ := X6.interfaceBack hx (xi := (⟨"java/util/List", "add", "(Ljava/lang/Object;)Z"⟩ : MethodName)) (y := (⟨"java/util/ArrayList", "add", "(Ljava/lang/Object;)Z"⟩ : MethodName)) hown (mvT hZ (w_149 hw)) (mvT hZ (w_150 hw)) (mvT hZ (w_151 hw)) (mvT hZ (w_152 hw)) (mvT hZ (w_153 hw)) (mvT hZ (w_154 hw)) (mvT hZ (w_155 hw)) (mvT hZ (w_156 hw)) (by decide) (backOf (W := 0) (rm_ArrayList_add_1 l Z a0 hw [] a2 b2 w_DE kA2 kW_DE h4 n0 fc10 fc8 pr4 fc9 (Ne.symm (Nat.ne_of_lt (Nat.lt_of_lt_of_le pr3.lt gz_b2))) pr6 pr7) hZ (w_157 hw) (w_31 hw) (by decide) (by decide)) q7a q7b q7c (g := (mkF m 25 #[.val (.ref a1), .val (.int 1)] [(.ref b2), (.ref a2)])) rfl (by rw [hml]; rfl) (Steps.refl _) (argsL := [(.ref b2)]) (rest := []) (lenOf pd_Ljava_lang_Object_r_Z rfl) rfl (by show 2 * 0 + _ ≤ _; exact Nat.le_of_eq rfl) (hb hby d_prog_33_method_7_25) (fun _ _ => ⟨rfl, e6, (by decide : 1 + 1 ≤ _), (by decide : 65536 + 10 ≤ _)⟩)
  dsimp only [Pt.U, Pt.locs, Pt.cells, Pt.slots] at X7 l7 y7 z7 st7 hQ7
  subst l7 y7 z7
  obtain ⟨b6_2_2_5_7, kA6_2_2_5_7, hv7, N7q, K7, f7_0, f7_1, f7_2, f7_3⟩ := hQ7
  subst hv7
  have N7 := Fr.app N4 N7q
  have fc11 := (Nat.le_trans (Nat.le_trans (Nat.le_refl h0.size) E2.1) (Nat.le_of_eq (Wr.size W4).symm))
  have gz_b6_2_2_5_7 : h0.size ≤ b6_2_2_5_7 := Nat.le_trans fc11 f7_0
  replace k : Goes p e below s₁ G0 T7 (mkF m 30 #[.val (.ref a1), .val (.int 1)] [(.int 1)]) := fun t q => k t (st7.trans q)
  replace k := Fw.pop k X7 hx (hb hby d_prog_33_method_7_30) rfl (pc' := 31) rfl
  replace k := Fw.aloadN k X7 hx (hb hby d_prog_33_method_7_31) rfl rfl (pc' := 32) rfl
  replace k := Fw.iconst k X7 hx (hb hby d_prog_33_method_7_32) (z := (0 : Int32)) (by decide) (pc' := 33) rfl
  have fc12 := (O4.keep K7 (ninS (Ne.symm pr5) nin0))
  obtain ⟨T13, h13, X13, e13, W13, st13⟩ := putF X7 hx hZ hown (host := "") (Or.inl (w_56 hw)) Via.refl rfl (Ob.at fc12 1 rfl) fc12.exa (Or.inl (w_57 hw)) (w_18 hw) (ty := .int) (by decide +kernel) rfl rfl (g := (mkF m 33 #[.val (.ref a1), .val (.int 1)] [(.int 0), (.ref a1)])) rfl rfl (hb hby d_prog_33_method_7_33)
  have N13 := Fr.snoc X13 N7 pr2
  have O13 : Ob Z h13 a1 "com/example/kleinmaschine/kleinmaschine/PagedBytes" [("com/example/kleinmaschine/kleinmaschine/PagedBytes", "pages", "Ljava/util/List;", (.ref a2)), ("com/example/kleinmaschine/kleinmaschine/PagedBytes", "lastUsed", "I", (.int 0)), ("com/example/kleinmaschine/kleinmaschine/PagedBytes", "size", "J", (.long 0)), ("com/example/kleinmaschine/kleinmaschine/PagedBytes", "last", "[B", (.ref b2))] := Ob.put fc12 (lay_PagedBytes hw) 1 rfl W13
  replace k : Goes p e below s₁ G0 T13 (mkF m 36 #[.val (.ref a1), .val (.int 1)] []) := fun t q => k t (st13 _ q)
  replace k := Fw.aloadN k X13 hx (hb hby d_prog_33_method_7_36) rfl rfl (pc' := 37) rfl
  obtain ⟨T14, X14, e14, st14⟩ := getF X13 hx hZ hown (host := "") (Or.inl (w_147 hw)) Via.refl e13 (Ob.at O13 3 rfl) (g := (mkF m 37 #[.val (.ref a1), .val (.int 1)] [(.ref a1)])) rfl rfl (hb hby d_prog_33_method_7_37)
  replace k : Goes p e below s₁ G0 T14 (mkF m 40 #[.val (.ref a1), .val (.int 1)] [(.ref b2)]) := fun t q => k t (st14 _ q)
  replace k := Fw.aloadN k X14 hx (hb hby d_prog_33_method_7_40) rfl rfl (pc' := 41) rfl
  replace k := Fw.dup k X14 hx (hb hby d_prog_33_method_7_41) rfl (pc' := 42) rfl
  obtain ⟨T15, X15, e15, st15⟩ := getF X14 hx hZ hown (host := "") (Or.inl (w_56 hw)) Via.refl e14 (Ob.at O13 1 rfl) (g := (mkF m 42 #[.val (.ref a1), .val (.int 1)] [(.ref a1), (.ref a1), (.ref b2)])) rfl rfl (hb hby d_prog_33_method_7_42)
  replace k : Goes p e below s₁ G0 T15 (mkF m 45 #[.val (.ref a1), .val (.int 1)] [(.int 0), (.ref a1), (.ref b2)]) := fun t q => k t (st15 _ q)
  replace k := Fw.dupX1 k X15 hx (hb hby d_prog_33_method_7_45) rfl rfl (pc' := 46) rfl
  replace k := Fw.iconst k X15 hx (hb hby d_prog_33_method_7_46) (z := (1 : Int32)) (by decide) (pc' := 47) rfl
  replace k := Fw.iadd k X15 hx (hb hby d_prog_33_method_7_47) (z := (1 : Int32)) (by decide) (pc' := 48) rfl
  obtain ⟨T16, h16, X16, e16, W16, st16⟩ := putF X15 hx hZ hown (host := "") (Or.inl (w_56 hw)) Via.refl e15 (Ob.at O13 1 rfl) O13.exa (Or.inl (w_57 hw)) (w_18 hw) (ty := .int) (by decide +kernel) rfl rfl (g := (mkF m 48 #[.val (.ref a1), .val (.int 1)] [(.int 1), (.ref a1), (.int 0), (.ref b2)])) rfl rfl (hb hby d_prog_33_method_7_48)
  have N16 := Fr.snoc X16 N13 pr2
  have O16 : Ob Z h16 a1 "com/example/kleinmaschine/kleinmaschine/PagedBytes" [("com/example/kleinmaschine/kleinmaschine/PagedBytes", "pages", "Ljava/util/List;", (.ref a2)), ("com/example/kleinmaschine/kleinmaschine/PagedBytes", "lastUsed", "I", (.int 1)), ("com/example/kleinmaschine/kleinmaschine/PagedBytes", "size", "J", (.long 0)), ("com/example/kleinmaschine/kleinmaschine/PagedBytes", "last", "[B", (.ref b2))] := Ob.put O13 (lay_PagedBytes hw) 1 rfl W16
  replace k : Goes p e below s₁ G0 T16 (mkF m 51 #[.val (.ref a1), .val (.int 1)] [(.int 0), (.ref b2)]) := fun t q => k t (st16 _ q)
  replace k := Fw.iloadN k X16 hx (hb hby d_prog_33_method_7_51) rfl (pc' := 52) rfl
  replace k := Fw.i2b k X16 hx (hb hby d_prog_33_method_7_52) (z := (1 : Int32)) (by decide) (pc' := 53) rfl
  have fc17 := (((fc9.keep K7 (ninS (Ne.symm (Nat.ne_of_lt (Nat.lt_of_lt_of_le pr3.lt gz_b2))) nin0)).other W13 (Ne.symm (Nat.ne_of_lt (Nat.lt_of_lt_of_le pr1.lt gz_b2)))).other W16 (Ne.symm (Nat.ne_of_lt (Nat.lt_of_lt_of_le pr1.lt gz_b2))))
  obtain ⟨cl18, Ar18, hin18, -, kq18, -⟩ := Aw.open fc17 (j := (0 : Int32)) 0 (by decide) (by decide) (by decide)
  obtain ⟨T18, h18, X18, e18, W18, st18⟩ := stB X16 hx hZ e16 Ar18 (j := (0 : Int32)) hin18 (g := (mkF m 53 #[.val (.ref a1), .val (.int 1)] [(.int 1), (.int 0), (.ref b2)])) rfl rfl (hb hby d_prog_33_method_7_53)
  have N18 := Fr.snoc X18 N16 (Nat.le_trans (old_le O0) gz_b2)
  have V18 : Aw Z h18 b2 "[B" kA2 .byte 65536 (updv (fun _ => (.int 0)) 0 (.int 1)) := Aw.set fc17 W18 0 (by decide) (by decide)
  replace k : Goes p e below s₁ G0 T18 (mkF m 54 #[.val (.ref a1), .val (.int 1)] []) := fun t q => k t (st18 _ q)
  replace k := Fw.aloadN k X18 hx (hb hby d_prog_33_method_7_54) rfl rfl (pc' := 55) rfl
  replace k := Fw.dup k X18 hx (hb hby d_prog_33_method_7_55) rfl (pc' := 56) rfl
  have fc19 := (O16.other W18 (Nat.ne_of_lt (Nat.lt_of_lt_of_le pr1.lt gz_b2)))
  obtain ⟨T20, X20, e20, st20⟩ := getF X18 hx hZ hown (host := "") (Or.inl (w_112 hw)) Via.refl e18 (Ob.at fc19 2 rfl) (g := (mkF m 56 #[.val (.ref a1), .val (.int 1)] [(.ref a1), (.ref a1)])) rfl rfl (hb hby d_prog_33_method_7_56)
  replace k : Goes p e below s₁ G0 T20 (mkF m 59 #[.val (.ref a1), .val (.int 1)] [(.long 0), (.ref a1)]) := fun t q => k t (st20 _ q)
  replace k := Fw.lconst k X20 hx (hb hby d_prog_33_method_7_59) (z := (1 : Int64)) (by decide) (pc' := 60) rfl
  replace k := Fw.ladd k X20 hx (hb hby d_prog_33_method_7_60) (z := (1 : Int64)) (by decide) (pc' := 61) rfl
  obtain ⟨T21, h21, X21, e21, W21, st21⟩ := putF X20 hx hZ hown (host := "") (Or.inl (w_112 hw)) Via.refl e20 (Ob.at fc19 2 rfl) fc19.exa (Or.inl (w_113 hw)) (w_18 hw) (ty := .long) (by decide +kernel) rfl rfl (g := (mkF m 61 #[.val (.ref a1), .val (.int 1)] [(.long 1), (.ref a1)])) rfl rfl (hb hby d_prog_33_method_7_61)
  have N21 := Fr.snoc X21 N18 pr2
  have O21 : Ob Z h21 a1 "com/example/kleinmaschine/kleinmaschine/PagedBytes" [("com/example/kleinmaschine/kleinmaschine/PagedBytes", "pages", "Ljava/util/List;", (.ref a2)), ("com/example/kleinmaschine/kleinmaschine/PagedBytes", "lastUsed", "I", (.int 1)), ("com/example/kleinmaschine/kleinmaschine/PagedBytes", "size", "J", (.long 1)), ("com/example/kleinmaschine/kleinmaschine/PagedBytes", "last", "[B", (.ref b2))] := Ob.put fc19 (lay_PagedBytes hw) 2 rfl W21
  replace k : Goes p e below s₁ G0 T21 (mkF m 64 #[.val (.ref a1), .val (.int 1)] []) := fun t q => k t (st21 _ q)
  obtain ⟨fs, hr, hrun, hended, hW, hsame⟩ := X21.leave (v := none) (fun _ => rfl)
  refine ⟨_, _, pre0 _ (k _ ?_), hrun, hended, _, _, rfl, ?_, ⟨_, rfl⟩, hW, hsame.mono (by decide) (by decide)⟩
  · exact X21.returnOut hx Bd.returns (hb hby d_prog_33_method_7_64) hr
  · show Q_PagedBytes_write_1 Z a1 a2 w_DE kW_DE h0 n0 _ T21.heap _
    rw [e21]
    exact ⟨b6_2_2_5_7, b2, kA6_2_2_5_7, kA2, rfl, N21, ((((((((Keep.refl h0 [a2, a1]).ext E2).wr W4 (Or.inl (List.mem_of_getElem? (i := 1) rfl))).trans K7 (allS (Or.inl (List.mem_of_getElem? (i := 0) rfl)) all0)).wr W13 (Or.inl (List.mem_of_getElem? (i := 1) rfl))).wr W16 (Or.inl (List.mem_of_getElem? (i := 1) rfl))).wr W18 (Or.inr gz_b2)).wr W21 (Or.inl (List.mem_of_getElem? (i := 1) rfl))), gz_b6_2_2_5_7, gz_b2, (Nat.ne_of_lt (Nat.lt_of_lt_of_le fc9.lt f7_0)), ((((f7_1.other W13 pr5).other W16 pr5).other W18 (Nat.ne_of_lt (Nat.lt_of_lt_of_le pr3.lt gz_b2))).other W21 pr5), O21, f7_2, ((((f7_3.other W13 (Ne.symm (Nat.ne_of_lt (Nat.lt_of_lt_of_le pr1.lt gz_b6_2_2_5_7)))).other W16 (Ne.symm (Nat.ne_of_lt (Nat.lt_of_lt_of_le pr1.lt gz_b6_2_2_5_7)))).other W18 (Ne.symm (Nat.ne_of_lt (Nat.lt_of_lt_of_le fc9.lt f7_0)))).other W21 (Ne.symm (Nat.ne_of_lt (Nat.lt_of_lt_of_le pr1.lt gz_b6_2_2_5_7)))), (V18.other W21 (Ne.symm (Nat.ne_of_lt (Nat.lt_of_lt_of_le pr1.lt gz_b2))))⟩
theorem w_141 {Z : State} {a0 : Array Value} (hw : ∀ d ∈ tables_1, d.before a0 Z = true) : (Jvm.Cond.methodLink "com/example/kleinmaschine/kleinmaschine/PagedBytes" (51 : Nat) ({ cls := "com/example/kleinmaschine/kleinmaschine/PagedBytes", name := "write", desc := "(I)V" } : Jvm.MethodName)).before a0 Z = true := hw _ (List.mem_of_getElem? (i := 141) rfl)
theorem w_145 {Z : State} {a0 : Array Value} (hw : ∀ d ∈ tables_1, d.before a0 Z = true) : (Jvm.Cond.code ({ cls := "com/example/kleinmaschine/kleinmaschine/PagedBytes", name := "write", desc := "(I)V" } : Jvm.MethodName) prog_33_method_7_code (2 : Nat) (Option.none : Option Jvm.ClassFile.FieldType)).before a0 Z = true := hw _ (List.mem_of_getElem? (i := 145) rfl)
theorem pd_I_r_V : parseMethodDescriptor "(I)V" = some ⟨[.int], none⟩ := by decide +kernel
theorem w_144 {Z : State} {a0 : Array Value} (hw : ∀ d ∈ tables_1, d.before a0 Z = true) : (Jvm.Cond.selects "com/example/kleinmaschine/kleinmaschine/PagedBytes" ({ cls := "com/example/kleinmaschine/kleinmaschine/PagedBytes", name := "write", desc := "(I)V" } : Jvm.MethodName) ({ cls := "com/example/kleinmaschine/kleinmaschine/PagedBytes", name := "write", desc := "(I)V" } : Jvm.MethodName)).before a0 Z = true := hw _ (List.mem_of_getElem? (i := 144) rfl)
theorem w_142 {Z : State} {a0 : Array Value} (hw : ∀ d ∈ tables_1, d.before a0 Z = true) : (Jvm.Cond.declares ({ cls := "com/example/kleinmaschine/kleinmaschine/PagedBytes", name := "write", desc := "(I)V" } : Jvm.MethodName)).before a0 Z = true := hw _ (List.mem_of_getElem? (i := 142) rfl)
theorem w_143 {Z : State} {a0 : Array Value} (hw : ∀ d ∈ tables_1, d.before a0 Z = true) : (Jvm.Cond.instanceMethod ({ cls := "com/example/kleinmaschine/kleinmaschine/PagedBytes", name := "write", desc := "(I)V" } : Jvm.MethodName)).before a0 Z = true := hw _ (List.mem_of_getElem? (i := 143) rfl)
theorem d_prog_33_method_6_5 : decode prog_33_method_6_code 5 = .ok (.return_, 1) := by decide +kernel
def Q_PagedBytes_accept_1 (Z : State) (a1 : Addr) (a2 : Addr) (w_DE : Addr) (kW_DE : ClassId) (h0 : Heap) (n0 : Nat) (v : Option Value) (h : Heap) (L : List Loc) : Prop := ∃ (b6_2_2_5_7_1 : Addr) (b2_1 : Addr) (kA6_2_2_5_7_1 : ClassId) (kA2_1 : ClassId), v = none ∧ Fr n0 L ∧ Keep h0 h [a2, a1] ∧ h0.size ≤ b6_2_2_5_7_1 ∧ h0.size ≤ b2_1 ∧ b2_1 ≠ b6_2_2_5_7_1 ∧ Ob Z h a2 "java/util/ArrayList" [("java/util/AbstractList", "modCount", "I", (.int 1)), ("java/util/ArrayList", "elementData", "[Ljava/lang/Object;", (.ref b6_2_2_5_7_1)), ("java/util/ArrayList", "size", "I", (.int 1))] ∧ Ob Z h a1 "com/example/kleinmaschine/kleinmaschine/PagedBytes" [("com/example/kleinmaschine/kleinmaschine/PagedBytes", "pages", "Ljava/util/List;", (.ref a2)), ("com/example/kleinmaschine/kleinmaschine/PagedBytes", "lastUsed", "I", (.int 1)), ("com/example/kleinmaschine/kleinmaschine/PagedBytes", "size", "J", (.long 1)), ("com/example/kleinmaschine/kleinmaschine/PagedBytes", "last", "[B", (.ref b2_1))] ∧ Ovr Z kA6_2_2_5_7_1 "java/lang/Object" ∧ Aw Z h b6_2_2_5_7_1 "[Ljava/lang/Object;" kA6_2_2_5_7_1 (.object "java/lang/Object") 10 (updv (fun _ => .null) 0 (.ref b2_1)) ∧ Aw Z h b2_1 "[B" kA2_1 .byte 65536 (updv (fun _ => (.int 0)) 0 (.int 1))
set_option maxRecDepth 65536 in
set_option maxHeartbeats 40000000 in
theorem rm_PagedBytes_accept_1 (l : Launch) (Z : State) (a0 : Array Value) (hw : ∀ d ∈ tables_1, d.before a0 Z = true) (ws : List Jvm.Cond) (a1 : Addr) (a2 : Addr) (w_DE : Addr) (kW_DE : ClassId) (h0 : Heap) (n0 : Nat) (O0 : Old Z n0 h0) (pr1 : Ob Z h0 a1 "com/example/kleinmaschine/kleinmaschine/PagedBytes" [("com/example/kleinmaschine/kleinmaschine/PagedBytes", "pages", "Ljava/util/List;", (.ref a2)), ("com/example/kleinmaschine/kleinmaschine/PagedBytes", "lastUsed", "I", (.int 65536)), ("com/example/kleinmaschine/kleinmaschine/PagedBytes", "size", "J", (.long 0)), ("com/example/kleinmaschine/kleinmaschine/PagedBytes", "last", "[B", .null)]) (pr2 : n0 ≤ a1) (pr3 : Ob Z h0 a2 "java/util/ArrayList" [("java/util/AbstractList", "modCount", "I", (.int 0)), ("java/util/ArrayList", "elementData", "[Ljava/lang/Object;", (.ref w_DE)), ("java/util/ArrayList", "size", "I", (.int 0))]) (pr4 : n0 ≤ a2) (pr5 : a2 ≠ a1) (pr6 : Aw Z Z.heap w_DE "[Ljava/lang/Object;" kW_DE (.object "java/lang/Object") 0 (fun _ => .null)) (pr7 : Sta Z Z.heap "java/util/ArrayList" "DEFAULTCAPACITY_EMPTY_ELEMENTDATA" "[Ljava/lang/Object;" (.ref w_DE)) :
    MetFree l (⟨"com/example/kleinmaschine/kleinmaschine/PagedBytes", "accept", "(I)V"⟩ : MethodName) (head1 (Jvm.Cond.code (⟨"com/example/kleinmaschine/kleinmaschine/PagedBytes", "accept", "(I)V"⟩ : MethodName) prog_33_method_6_code 2 none :: ws) ({ frames := 6, cells := 2, slots := 65546, locals := 82 } : Room)) (fun a U => a = #[(.ref a1), (.int 1)] ∧ Z.Warmed39 U.vm ∧ U.heap = h0) (fun _ _ _ _ _ => True) (fun _ U o U' => ∃ v L, o = .returned v ∧ Q_PagedBytes_accept_1 Z a1 a2 w_DE kW_DE h0 n0 v U'.heap L ∧ FrameEnd U o U' L ({ frames := 6, cells := 2, slots := 65546, locals := 82 } : Room).cells ({ frames := 6, cells := 2, slots := 65546, locals := 82 } : Room).slots) := by
  refine MetFree.of_bodySF (plainFor_of_name pn_PagedBytes) hisR ?_
  intro p e s m args below meth c s₁ Bd hml0 hP hK
  obtain ⟨rfl, hZ, hh⟩ := hP
  have hx := Bd.exec
  have hby := Bd.bytes
  have hml : c.maxLocals = 2 := hml0
  have hown : s.vm.findClass "com/example/kleinmaschine/kleinmaschine/PagedBytes" = some m.cls := findClass_of_methodNamed Bd.named
  have hnm := (name_of_methodNamed Bd.named Bd.method).1
  have X0 : Stand p l e ({ frames := 6, cells := 2, slots := 65546, locals := 82 } : Room) s m #[(.ref a1), (.int 1)] below meth c s₁ [] 0 0 := Stand.of_body Bd
  have e0 : s₁.heap = h0 := by rw [← hh, Bd.state]; rfl
  have N0 := Fr.nil n0
  obtain ⟨G0, hG0⟩ : ∃ z, z = (mkF m 0 #[.val (.ref a1), .val (.int 1)] []) := ⟨_, rfl⟩
  have pre0 : ∀ t, Steps p.tables e below (s₁.setTop G0) t → Steps p.tables e below (s₁.setTop (entryFrame m #[(.ref a1), (.int 1)] 2)) t := fun t k => castTop (ef_RI_2 m a1 ((1 : Int32))) (hG0 ▸ k)
  have k : Goes p e below s₁ G0 s₁ (mkF m 0 #[.val (.ref a1), .val (.int 1)] []) := fun t q => hG0 ▸ q
  replace k := Fw.aloadN k X0 hx (hb hby d_prog_33_method_6_0) rfl rfl (pc' := 1) rfl
  replace k := Fw.iloadN k X0 hx (hb hby d_prog_33_method_6_1) rfl (pc' := 2) rfl
  obtain ⟨cq1, kq1, q1a, q1b, q1c⟩ := isOf hZ e0 pr1.exa
  obtain ⟨_, _, ⟨T1, L1, kz1, nz1⟩, -, X1, ⟨Lc1, hQ1, l1, y1, z1⟩, st1⟩ := X0.virtualBack hx (y := (⟨"com/example/kleinmaschine/kleinmaschine/PagedBytes", "write", "(I)V"⟩ : MethodName)) (z := (⟨"com/example/kleinmaschine/kleinmaschine/PagedBytes", "write", "(I)V"⟩ : MethodName)) hown (mvT hZ (w_141 hw)) (mvT hZ (w_142 hw)) (notFace_of_selects (args := #[]) (mvT hZ (w_144 hw))) (mvT hZ (w_144 hw)) (mvT hZ (w_143 hw)) (by decide) (backOf (W := 0) (rm_PagedBytes_write_1 l Z a0 hw [] a1 a2 w_DE kW_DE h0 n0 O0 pr1 pr2 pr3 pr4 pr5 pr6 pr7) hZ (w_145 hw) (w_19 hw) (by decide) (by decide)) q1a q1c (g := (mkF m 2 #[.val (.ref a1), .val (.int 1)] [(.int 1), (.ref a1)])) rfl (by rw [hml]; rfl) (Steps.refl _) (argsL := [(.int 1)]) (rest := []) (lenOf pd_I_r_V rfl) rfl (by show 2 * 0 + _ ≤ _; exact Nat.le_of_eq rfl) (hb hby d_prog_33_method_6_2) (fun _ _ => ⟨rfl, e0, (by decide : 0 + 2 ≤ _), (by decide : 0 + 65546 ≤ _)⟩)
  dsimp only [Pt.U, Pt.locs, Pt.cells, Pt.slots] at X1 l1 y1 z1 st1 hQ1
  subst l1 y1 z1
  obtain ⟨b6_2_2_5_7_1, b2_1, kA6_2_2_5_7_1, kA2_1, hv1, N1q, K1, f1_0, f1_1, f1_2, f1_3, f1_4, f1_5, f1_6, f1_7⟩ := hQ1
  subst hv1
  have N1 := Fr.app N0 N1q
  have gz_b6_2_2_5_7_1 : h0.size ≤ b6_2_2_5_7_1 := Nat.le_trans (Nat.le_refl h0.size) f1_0
  have gz_b2_1 : h0.size ≤ b2_1 := Nat.le_trans (Nat.le_refl h0.size) f1_1
  replace k : Goes p e below s₁ G0 T1 (mkF m 5 #[.val (.ref a1), .val (.int 1)] []) := fun t q => k t (st1.trans q)
  obtain ⟨fs, hr, hrun, hended, hW, hsame⟩ := X1.leave (v := none) (fun _ => rfl)
  refine ⟨_, _, pre0 _ (k _ ?_), hrun, hended, _, _, rfl, ?_, ⟨_, rfl⟩, hW, hsame.mono (by decide) (by decide)⟩
  · exact X1.returnOut hx Bd.returns (hb hby d_prog_33_method_6_5) hr
  · show Q_PagedBytes_accept_1 Z a1 a2 w_DE kW_DE h0 n0 _ T1.heap _
    exact ⟨b6_2_2_5_7_1, b2_1, kA6_2_2_5_7_1, kA2_1, rfl, N1, ((Keep.refl h0 [a2, a1]).trans K1 (allS (Or.inl (List.mem_of_getElem? (i := 0) rfl)) (allS (Or.inl (List.mem_of_getElem? (i := 1) rfl)) all0))), gz_b6_2_2_5_7_1, gz_b2_1, f1_2, f1_3, f1_4, f1_5, f1_6, f1_7⟩
theorem w_132 {Z : State} {a0 : Array Value} (hw : ∀ d ∈ tables_1, d.before a0 Z = true) : (Jvm.Cond.methodLink "com/example/kleinmaschine/kleinmaschine/PagedBytes" (25 : Nat) ({ cls := "java/util/function/IntConsumer", name := "accept", desc := "(I)V" } : Jvm.MethodName)).before a0 Z = true := hw _ (List.mem_of_getElem? (i := 132) rfl)
theorem w_140 {Z : State} {a0 : Array Value} (hw : ∀ d ∈ tables_1, d.before a0 Z = true) : (Jvm.Cond.code ({ cls := "com/example/kleinmaschine/kleinmaschine/PagedBytes", name := "accept", desc := "(I)V" } : Jvm.MethodName) prog_33_method_6_code (2 : Nat) (Option.none : Option Jvm.ClassFile.FieldType)).before a0 Z = true := hw _ (List.mem_of_getElem? (i := 140) rfl)
theorem w_135 {Z : State} {a0 : Array Value} (hw : ∀ d ∈ tables_1, d.before a0 Z = true) : (Jvm.Cond.selects "com/example/kleinmaschine/kleinmaschine/PagedBytes" ({ cls := "java/util/function/IntConsumer", name := "accept", desc := "(I)V" } : Jvm.MethodName) ({ cls := "com/example/kleinmaschine/kleinmaschine/PagedBytes", name := "accept", desc := "(I)V" } : Jvm.MethodName)).before a0 Z = true := hw _ (List.mem_of_getElem? (i := 135) rfl)
theorem w_133 {Z : State} {a0 : Array Value} (hw : ∀ d ∈ tables_1, d.before a0 Z = true) : (Jvm.Cond.declares ({ cls := "java/util/function/IntConsumer", name := "accept", desc := "(I)V" } : Jvm.MethodName)).before a0 Z = true := hw _ (List.mem_of_getElem? (i := 133) rfl)
theorem w_134 {Z : State} {a0 : Array Value} (hw : ∀ d ∈ tables_1, d.before a0 Z = true) : (Jvm.Cond.interfaceMethod "java/util/function/IntConsumer" "java/util/function/IntConsumer" "accept" "(I)V").before a0 Z = true := hw _ (List.mem_of_getElem? (i := 134) rfl)
theorem w_136 {Z : State} {a0 : Array Value} (hw : ∀ d ∈ tables_1, d.before a0 Z = true) : (Jvm.Cond.instanceMethod ({ cls := "com/example/kleinmaschine/kleinmaschine/PagedBytes", name := "accept", desc := "(I)V" } : Jvm.MethodName)).before a0 Z = true := hw _ (List.mem_of_getElem? (i := 136) rfl)
theorem w_137 {Z : State} {a0 : Array Value} (hw : ∀ d ∈ tables_1, d.before a0 Z = true) : (Jvm.Cond.publicMethod ({ cls := "com/example/kleinmaschine/kleinmaschine/PagedBytes", name := "accept", desc := "(I)V" } : Jvm.MethodName)).before a0 Z = true := hw _ (List.mem_of_getElem? (i := 137) rfl)
theorem w_138 {Z : State} {a0 : Array Value} (hw : ∀ d ∈ tables_1, d.before a0 Z = true) : (Jvm.Cond.unhidden "com/example/kleinmaschine/kleinmaschine/PagedBytes" "accept" "(I)V").before a0 Z = true := hw _ (List.mem_of_getElem? (i := 138) rfl)
theorem w_139 {Z : State} {a0 : Array Value} (hw : ∀ d ∈ tables_1, d.before a0 Z = true) : (Jvm.Cond.castable "com/example/kleinmaschine/kleinmaschine/PagedBytes" "java/util/function/IntConsumer").before a0 Z = true := hw _ (List.mem_of_getElem? (i := 139) rfl)
theorem d_prog_33_method_2_44 : decode prog_33_method_2_code 44 = .ok (.return_, 1) := by decide +kernel
theorem ef_JR_5 (m : MethodId) (x0 : Int64) (x1 : Addr) : entryFrame m #[(.long x0), (.ref x1)] 5 = mkF m 0 #[.val (.long x0), .second, .val (.ref x1), .unset, .unset] [] := by first | (simp [entryFrame, mkF, argsToLocals, Value.category]; done) | rfl
def Q_PagedBytes_writeNumber_2 (Z : State) (a1 : Addr) (a2 : Addr) (w_DE : Addr) (kW_DE : ClassId) (h0 : Heap) (n0 : Nat) (v : Option Value) (h : Heap) (L : List Loc) : Prop := ∃ (b6_2_2_5_7_1_1 : Addr) (b2_1_1 : Addr) (kA6_2_2_5_7_1_1 : ClassId) (kA2_1_1 : ClassId), v = none ∧ Fr n0 L ∧ Keep h0 h [a2, a1] ∧ h0.size ≤ b6_2_2_5_7_1_1 ∧ h0.size ≤ b2_1_1 ∧ b2_1_1 ≠ b6_2_2_5_7_1_1 ∧ Ob Z h a2 "java/util/ArrayList" [("java/util/AbstractList", "modCount", "I", (.int 1)), ("java/util/ArrayList", "elementData", "[Ljava/lang/Object;", (.ref b6_2_2_5_7_1_1)), ("java/util/ArrayList", "size", "I", (.int 1))] ∧ Ob Z h a1 "com/example/kleinmaschine/kleinmaschine/PagedBytes" [("com/example/kleinmaschine/kleinmaschine/PagedBytes", "pages", "Ljava/util/List;", (.ref a2)), ("com/example/kleinmaschine/kleinmaschine/PagedBytes", "lastUsed", "I", (.int 1)), ("com/example/kleinmaschine/kleinmaschine/PagedBytes", "size", "J", (.long 1)), ("com/example/kleinmaschine/kleinmaschine/PagedBytes", "last", "[B", (.ref b2_1_1))] ∧ Ovr Z kA6_2_2_5_7_1_1 "java/lang/Object" ∧ Aw Z h b6_2_2_5_7_1_1 "[Ljava/lang/Object;" kA6_2_2_5_7_1_1 (.object "java/lang/Object") 10 (updv (fun _ => .null) 0 (.ref b2_1_1)) ∧ Aw Z h b2_1_1 "[B" kA2_1_1 .byte 65536 (updv (fun _ => (.int 0)) 0 (.int 1))
set_option maxRecDepth 65536 in
set_option maxHeartbeats 40000000 in
theorem rm_PagedBytes_writeNumber_2 (l : Launch) (Z : State) (a0 : Array Value) (hw : ∀ d ∈ tables_1, d.before a0 Z = true) (ws : List Jvm.Cond) (a1 : Addr) (a2 : Addr) (w_DE : Addr) (kW_DE : ClassId) (h0 : Heap) (n0 : Nat) (O0 : Old Z n0 h0) (pr1 : Ob Z h0 a1 "com/example/kleinmaschine/kleinmaschine/PagedBytes" [("com/example/kleinmaschine/kleinmaschine/PagedBytes", "pages", "Ljava/util/List;", (.ref a2)), ("com/example/kleinmaschine/kleinmaschine/PagedBytes", "lastUsed", "I", (.int 65536)), ("com/example/kleinmaschine/kleinmaschine/PagedBytes", "size", "J", (.long 0)), ("com/example/kleinmaschine/kleinmaschine/PagedBytes", "last", "[B", .null)]) (pr2 : n0 ≤ a1) (pr3 : Ob Z h0 a2 "java/util/ArrayList" [("java/util/AbstractList", "modCount", "I", (.int 0)), ("java/util/ArrayList", "elementData", "[Ljava/lang/Object;", (.ref w_DE)), ("java/util/ArrayList", "size", "I", (.int 0))]) (pr4 : n0 ≤ a2) (pr5 : a2 ≠ a1) (pr6 : Aw Z Z.heap w_DE "[Ljava/lang/Object;" kW_DE (.object "java/lang/Object") 0 (fun _ => .null)) (pr7 : Sta Z Z.heap "java/util/ArrayList" "DEFAULTCAPACITY_EMPTY_ELEMENTDATA" "[Ljava/lang/Object;" (.ref w_DE)) :
    MetFree l (⟨"com/example/kleinmaschine/kleinmaschine/PagedBytes", "writeNumber", "(JLjava/util/function/IntConsumer;)V"⟩ : MethodName) (head1 (Jvm.Cond.code (⟨"com/example/kleinmaschine/kleinmaschine/PagedBytes", "writeNumber", "(JLjava/util/function/IntConsumer;)V"⟩ : MethodName) prog_33_method_2_code 5 none :: ws) ({ frames := 7, cells := 2, slots := 65546, locals := 95 } : Room)) (fun a U => a = #[(.long 1), (.ref a1)] ∧ Z.Warmed39 U.vm ∧ U.heap = h0) (fun _ _ _ _ _ => True) (fun _ U o U' => ∃ v L, o = .returned v ∧ Q_PagedBytes_writeNumber_2 Z a1 a2 w_DE kW_DE h0 n0 v U'.heap L ∧ FrameEnd U o U' L ({ frames := 7, cells := 2, slots := 65546, locals := 95 } : Room).cells ({ frames := 7, cells := 2, slots := 65546, locals := 95 } : Room).slots) := by
  refine MetFree.of_bodySF (plainFor_of_name pn_PagedBytes) hisR ?_
  intro p e s m args below meth c s₁ Bd hml0 hP hK
  obtain ⟨rfl, hZ, hh⟩ := hP
  have hx := Bd.exec
  have hby := Bd.bytes
  have hml : c.maxLocals = 5 := hml0
  have hown : s.vm.findClass "com/example/kleinmaschine/kleinmaschine/PagedBytes" = some m.cls := findClass_of_methodNamed Bd.named
  have hnm := (name_of_methodNamed Bd.named Bd.method).1
  have X0 : Stand p l e ({ frames := 7, cells := 2, slots := 65546, locals := 95 } : Room) s m #[(.long 1), (.ref a1)] below meth c s₁ [] 0 0 := Stand.of_body Bd
  have e0 : s₁.heap = h0 := by rw [← hh, Bd.state]; rfl
  have N0 := Fr.nil n0
  obtain ⟨G0, hG0⟩ : ∃ z, z = (mkF m 0 #[.val (.long 1), .second, .val (.ref a1), .unset, .unset] []) := ⟨_, rfl⟩
  have pre0 : ∀ t, Steps p.tables e below (s₁.setTop G0) t → Steps p.tables e below (s₁.setTop (entryFrame m #[(.long 1), (.ref a1)] 5)) t := fun t k => castTop (ef_JR_5 m ((1 : Int64)) a1) (hG0 ▸ k)
  have k : Goes p e below s₁ G0 s₁ (mkF m 0 #[.val (.long 1), .second, .val (.ref a1), .unset, .unset] []) := fun t q => hG0 ▸ q
  replace k := Fw.lloadN k X0 hx (hb hby d_prog_33_method_2_0) rfl (pc' := 1) rfl
  replace k := Fw.lstoreN k X0 hx (hb hby d_prog_33_method_2_1)  (Ls' := #[.val (.long 1), .second, .val (.ref a1), .val (.long 1), .second]) rfl (pc' := 2) rfl
  replace k := Fw.lloadN k X0 hx (hb hby d_prog_33_method_2_2) rfl (pc' := 3) rfl
  replace k : Goes p e below s₁ G0 s₁ (mkF m 6 #[.val (.long 1), .second, .val (.ref a1), .val (.long 1), .second] [(.long (-128)), (.long 1)]) := fun t q => k t (X0.ldc2Long hx hown (mvT hZ (w_131 hw)) (g := (mkF m 3 #[.val (.long 1), .second, .val (.ref a1), .val (.long 1), .second] [(.long 1)])) rfl (hb hby d_prog_33_method_2_3) _ q)
  replace k := Fw.land k X0 hx (hb hby d_prog_33_method_2_6) (z := (0 : Int64)) (by decide) (pc' := 7) rfl
  replace k := Fw.lconst k X0 hx (hb hby d_prog_33_method_2_7) (z := (0 : Int64)) (by decide) (pc' := 8) rfl
  replace k : Goes p e below s₁ G0 s₁ (mkF m 9 #[.val (.long 1), .second, .val (.ref a1), .val (.long 1), .second] [(.int 0)]) := Fw.lcmp k X0 hx (hb hby d_prog_33_method_2_8) rfl
  replace k := Fw.ifYes k X0 hx (hb hby d_prog_33_method_2_9) ((if0 _ _).trans (teq (show (0 : Int32) = (0 : Int32) from by decide)).1) (by decide) (pc' := 36) rfl
  replace k := Fw.aloadN k X0 hx (hb hby d_prog_33_method_2_36) rfl rfl (pc' := 37) rfl
  replace k := Fw.lloadN k X0 hx (hb hby d_prog_33_method_2_37) rfl (pc' := 38) rfl
  replace k := Fw.l2i k X0 hx (hb hby d_prog_33_method_2_38) (z := (1 : Int32)) (by decide) (pc' := 39) rfl
  obtain ⟨cq1, kq1, q1a, q1b, q1c⟩ := isOf hZ e0 pr1.exa
  obtain ⟨_, _, ⟨T1, L1, kz1, nz1⟩, -, X1, ⟨Lc1, hQ1, l1, y1, z1⟩, st1⟩ := X0.interfaceBack hx (xi := (⟨"java/util/function/IntConsumer", "accept", "(I)V"⟩ : MethodName)) (y := (⟨"com/example/kleinmaschine/kleinmaschine/PagedBytes", "accept", "(I)V"⟩ : MethodName)) hown (mvT hZ (w_132 hw)) (mvT hZ (w_133 hw)) (mvT hZ (w_134 hw)) (mvT hZ (w_135 hw)) (mvT hZ (w_136 hw)) (mvT hZ (w_137 hw)) (mvT hZ (w_138 hw)) (mvT hZ (w_139 hw)) (by decide) (backOf (W := 0) (rm_PagedBytes_accept_1 l Z a0 hw [] a1 a2 w_DE kW_DE h0 n0 O0 pr1 pr2 pr3 pr4 pr5 pr6 pr7) hZ (w_140 hw) (w_19 hw) (by decide) (by decide)) q1a q1b q1c (g := (mkF m 39 #[.val (.long 1), .second, .val (.ref a1), .val (.long 1), .second] [(.int 1), (.ref a1)])) rfl (by rw [hml]; rfl) (Steps.refl _) (argsL := [(.int 1)]) (rest := []) (lenOf pd_I_r_V rfl) rfl (by show 2 * 0 + _ ≤ _; exact Nat.le_of_eq rfl) (hb hby d_prog_33_method_2_39) (fun _ _ => ⟨rfl, e0, (by decide : 0 + 2 ≤ _), (by decide : 0 + 65546 ≤ _)⟩)
  dsimp only [Pt.U, Pt.locs, Pt.cells, Pt.slots] at X1 l1 y1 z1 st1 hQ1
  subst l1 y1 z1
  obtain ⟨b6_2_2_5_7_1_1, b2_1_1, kA6_2_2_5_7_1_1, kA2_1_1, hv1, N1q, K1, f1_0, f1_1, f1_2, f1_3, f1_4, f1_5, f1_6, f1_7⟩ := hQ1
  subst hv1
  have N1 := Fr.app N0 N1q
  have gz_b6_2_2_5_7_1_1 : h0.size ≤ b6_2_2_5_7_1_1 := Nat.le_trans (Nat.le_refl h0.size) f1_0
  have gz_b2_1_1 : h0.size ≤ b2_1_1 := Nat.le_trans (Nat.le_refl h0.size) f1_1
  replace k : Goes p e below s₁ G0 T1 (mkF m 44 #[.val (.long 1), .second, .val (.ref a1), .val (.long 1), .second] []) := fun t q => k t (st1.trans q)
  obtain ⟨fs, hr, hrun, hended, hW, hsame⟩ := X1.leave (v := none) (fun _ => rfl)
  refine ⟨_, _, pre0 _ (k _ ?_), hrun, hended, _, _, rfl, ?_, ⟨_, rfl⟩, hW, hsame.mono (by decide) (by decide)⟩
  · exact X1.returnOut hx Bd.returns (hb hby d_prog_33_method_2_44) hr
  · show Q_PagedBytes_writeNumber_2 Z a1 a2 w_DE kW_DE h0 n0 _ T1.heap _
    exact ⟨b6_2_2_5_7_1_1, b2_1_1, kA6_2_2_5_7_1_1, kA2_1_1, rfl, N1, ((Keep.refl h0 [a2, a1]).trans K1 (allS (Or.inl (List.mem_of_getElem? (i := 0) rfl)) (allS (Or.inl (List.mem_of_getElem? (i := 1) rfl)) all0))), gz_b6_2_2_5_7_1_1, gz_b2_1_1, f1_2, f1_3, f1_4, f1_5, f1_6, f1_7⟩
theorem w_128 {Z : State} {a0 : Array Value} (hw : ∀ d ∈ tables_1, d.before a0 Z = true) : (Jvm.Cond.methodLink "com/example/kleinmaschine/kleinmaschine/PagedBytes" (80 : Nat) ({ cls := "com/example/kleinmaschine/kleinmaschine/PagedBytes", name := "writeNumber", desc := "(JLjava/util/function/IntConsumer;)V" } : Jvm.MethodName)).before a0 Z = true := hw _ (List.mem_of_getElem? (i := 128) rfl)
theorem w_130 {Z : State} {a0 : Array Value} (hw : ∀ d ∈ tables_1, d.before a0 Z = true) : (Jvm.Cond.code ({ cls := "com/example/kleinmaschine/kleinmaschine/PagedBytes", name := "writeNumber", desc := "(JLjava/util/function/IntConsumer;)V" } : Jvm.MethodName) prog_33_method_2_code (5 : Nat) (Option.none : Option Jvm.ClassFile.FieldType)).before a0 Z = true := hw _ (List.mem_of_getElem? (i := 130) rfl)
theorem pd_JLjava_util_function_IntConsumer_r_V : parseMethodDescriptor "(JLjava/util/function/IntConsumer;)V" = some ⟨[.long, (.object "java/util/function/IntConsumer")], none⟩ := by decide +kernel
theorem w_129 {Z : State} {a0 : Array Value} (hw : ∀ d ∈ tables_1, d.before a0 Z = true) : (Jvm.Cond.static ({ cls := "com/example/kleinmaschine/kleinmaschine/PagedBytes", name := "writeNumber", desc := "(JLjava/util/function/IntConsumer;)V" } : Jvm.MethodName)).before a0 Z = true := hw _ (List.mem_of_getElem? (i := 129) rfl)
theorem d_prog_33_method_9_5 : decode prog_33_method_9_code 5 = .ok (.return_, 1) := by decide +kernel
theorem ef_RJ_3 (m : MethodId) (x0 : Addr) (x1 : Int64) : entryFrame m #[(.ref x0), (.long x1)] 3 = mkF m 0 #[.val (.ref x0), .val (.long x1), .second] [] := by first | (simp [entryFrame, mkF, argsToLocals, Value.category]; done) | rfl
def Q_PagedBytes_writeNumber_1 (Z : State) (a1 : Addr) (a2 : Addr) (w_DE : Addr) (kW_DE : ClassId) (h0 : Heap) (n0 : Nat) (v : Option Value) (h : Heap) (L : List Loc) : Prop := ∃ (b6_2_2_5_7_1_1_1 : Addr) (b2_1_1_1 : Addr) (kA6_2_2_5_7_1_1_1 : ClassId) (kA2_1_1_1 : ClassId), v = none ∧ Fr n0 L ∧ Keep h0 h [a2, a1] ∧ h0.size ≤ b6_2_2_5_7_1_1_1 ∧ h0.size ≤ b2_1_1_1 ∧ b2_1_1_1 ≠ b6_2_2_5_7_1_1_1 ∧ Ob Z h a2 "java/util/ArrayList" [("java/util/AbstractList", "modCount", "I", (.int 1)), ("java/util/ArrayList", "elementData", "[Ljava/lang/Object;", (.ref b6_2_2_5_7_1_1_1)), ("java/util/ArrayList", "size", "I", (.int 1))] ∧ Ob Z h a1 "com/example/kleinmaschine/kleinmaschine/PagedBytes" [("com/example/kleinmaschine/kleinmaschine/PagedBytes", "pages", "Ljava/util/List;", (.ref a2)), ("com/example/kleinmaschine/kleinmaschine/PagedBytes", "lastUsed", "I", (.int 1)), ("com/example/kleinmaschine/kleinmaschine/PagedBytes", "size", "J", (.long 1)), ("com/example/kleinmaschine/kleinmaschine/PagedBytes", "last", "[B", (.ref b2_1_1_1))] ∧ Ovr Z kA6_2_2_5_7_1_1_1 "java/lang/Object" ∧ Aw Z h b6_2_2_5_7_1_1_1 "[Ljava/lang/Object;" kA6_2_2_5_7_1_1_1 (.object "java/lang/Object") 10 (updv (fun _ => .null) 0 (.ref b2_1_1_1)) ∧ Aw Z h b2_1_1_1 "[B" kA2_1_1_1 .byte 65536 (updv (fun _ => (.int 0)) 0 (.int 1))
set_option maxRecDepth 65536 in
set_option maxHeartbeats 40000000 in
theorem rm_PagedBytes_writeNumber_1 (l : Launch) (Z : State) (a0 : Array Value) (hw : ∀ d ∈ tables_1, d.before a0 Z = true) (ws : List Jvm.Cond) (a1 : Addr) (a2 : Addr) (w_DE : Addr) (kW_DE : ClassId) (h0 : Heap) (n0 : Nat) (O0 : Old Z n0 h0) (pr1 : Ob Z h0 a1 "com/example/kleinmaschine/kleinmaschine/PagedBytes" [("com/example/kleinmaschine/kleinmaschine/PagedBytes", "pages", "Ljava/util/List;", (.ref a2)), ("com/example/kleinmaschine/kleinmaschine/PagedBytes", "lastUsed", "I", (.int 65536)), ("com/example/kleinmaschine/kleinmaschine/PagedBytes", "size", "J", (.long 0)), ("com/example/kleinmaschine/kleinmaschine/PagedBytes", "last", "[B", .null)]) (pr2 : n0 ≤ a1) (pr3 : Ob Z h0 a2 "java/util/ArrayList" [("java/util/AbstractList", "modCount", "I", (.int 0)), ("java/util/ArrayList", "elementData", "[Ljava/lang/Object;", (.ref w_DE)), ("java/util/ArrayList", "size", "I", (.int 0))]) (pr4 : n0 ≤ a2) (pr5 : a2 ≠ a1) (pr6 : Aw Z Z.heap w_DE "[Ljava/lang/Object;" kW_DE (.object "java/lang/Object") 0 (fun _ => .null)) (pr7 : Sta Z Z.heap "java/util/ArrayList" "DEFAULTCAPACITY_EMPTY_ELEMENTDATA" "[Ljava/lang/Object;" (.ref w_DE)) :
    MetFree l (⟨"com/example/kleinmaschine/kleinmaschine/PagedBytes", "writeNumber", "(J)V"⟩ : MethodName) (head1 (Jvm.Cond.code (⟨"com/example/kleinmaschine/kleinmaschine/PagedBytes", "writeNumber", "(J)V"⟩ : MethodName) prog_33_method_9_code 3 none :: ws) ({ frames := 8, cells := 2, slots := 65546, locals := 111 } : Room)) (fun a U => a = #[(.ref a1), (.long 1)] ∧ Z.Warmed39 U.vm ∧ U.heap = h0) (fun _ _ _ _ _ => True) (fun _ U o U' => ∃ v L, o = .returned v ∧ Q_PagedBytes_writeNumber_1 Z a1 a2 w_DE kW_DE h0 n0 v U'.heap L ∧ FrameEnd U o U' L ({ frames := 8, cells := 2, slots := 65546, locals := 111 } : Room).cells ({ frames := 8, cells := 2, slots := 65546, locals := 111 } : Room).slots) := by
  refine MetFree.of_bodySF (plainFor_of_name pn_PagedBytes) hisR ?_
  intro p e s m args below meth c s₁ Bd hml0 hP hK
  obtain ⟨rfl, hZ, hh⟩ := hP
  have hx := Bd.exec
  have hby := Bd.bytes
  have hml : c.maxLocals = 3 := hml0
  have hown : s.vm.findClass "com/example/kleinmaschine/kleinmaschine/PagedBytes" = some m.cls := findClass_of_methodNamed Bd.named
  have hnm := (name_of_methodNamed Bd.named Bd.method).1
  have X0 : Stand p l e ({ frames := 8, cells := 2, slots := 65546, locals := 111 } : Room) s m #[(.ref a1), (.long 1)] below meth c s₁ [] 0 0 := Stand.of_body Bd
  have e0 : s₁.heap = h0 := by rw [← hh, Bd.state]; rfl
  have N0 := Fr.nil n0
  obtain ⟨G0, hG0⟩ : ∃ z, z = (mkF m 0 #[.val (.ref a1), .val (.long 1), .second] []) := ⟨_, rfl⟩
  have pre0 : ∀ t, Steps p.tables e below (s₁.setTop G0) t → Steps p.tables e below (s₁.setTop (entryFrame m #[(.ref a1), (.long 1)] 3)) t := fun t k => castTop (ef_RJ_3 m a1 ((1 : Int64))) (hG0 ▸ k)
  have k : Goes p e below s₁ G0 s₁ (mkF m 0 #[.val (.ref a1), .val (.long 1), .second] []) := fun t q => hG0 ▸ q
  replace k := Fw.lloadN k X0 hx (hb hby d_prog_33_method_9_0) rfl (pc' := 1) rfl
  replace k := Fw.aloadN k X0 hx (hb hby d_prog_33_method_9_1) rfl rfl (pc' := 2) rfl
  obtain ⟨_, _, ⟨T1, L1, kz1, nz1⟩, -, X1, ⟨Lc1, hQ1, l1, y1, z1⟩, st1⟩ := Jvm.LawKit.callS X0 hx (y := (⟨"com/example/kleinmaschine/kleinmaschine/PagedBytes", "writeNumber", "(JLjava/util/function/IntConsumer;)V"⟩ : MethodName)) hown (mvT hZ (w_128 hw)) (mvT hZ (w_129 hw)) (mvT hZ (w_19 hw)) (mvT hZ (w_130 hw)) (by decide) (backOf (W := 0) (rm_PagedBytes_writeNumber_2 l Z a0 hw [] a1 a2 w_DE kW_DE h0 n0 O0 pr1 pr2 pr3 pr4 pr5 pr6 pr7) hZ (w_130 hw) (w_19 hw) (by decide) (by decide)) (g := (mkF m 2 #[.val (.ref a1), .val (.long 1), .second] [(.ref a1), (.long 1)])) rfl (by rw [hml]; rfl) (argsL := [(.long 1), (.ref a1)]) (rest := []) (lenOf pd_JLjava_util_function_IntConsumer_r_V rfl) rfl (by show 2 * 0 + _ ≤ _; exact Nat.le_of_eq rfl) (hb hby d_prog_33_method_9_2) (fun _ _ => ⟨rfl, e0, (by decide : 0 + 2 ≤ _), (by decide : 0 + 65546 ≤ _)⟩)
  dsimp only [Pt.U, Pt.locs, Pt.cells, Pt.slots] at X1 l1 y1 z1 st1 hQ1
  subst l1 y1 z1
  obtain ⟨b6_2_2_5_7_1_1_1, b2_1_1_1, kA6_2_2_5_7_1_1_1, kA2_1_1_1, hv1, N1q, K1, f1_0, f1_1, f1_2, f1_3, f1_4, f1_5, f1_6, f1_7⟩ := hQ1
  subst hv1
  have N1 := Fr.app N0 N1q
  have gz_b6_2_2_5_7_1_1_1 : h0.size ≤ b6_2_2_5_7_1_1_1 := Nat.le_trans (Nat.le_refl h0.size) f1_0
  have gz_b2_1_1_1 : h0.size ≤ b2_1_1_1 := Nat.le_trans (Nat.le_refl h0.size) f1_1
  replace k : Goes p e below s₁ G0 T1 (mkF m 5 #[.val (.ref a1), .val (.long 1), .second] []) := fun t q => k t (st1 _ q)
  obtain ⟨fs, hr, hrun, hended, hW, hsame⟩ := X1.leave (v := none) (fun _ => rfl)
  refine ⟨_, _, pre0 _ (k _ ?_), hrun, hended, _, _, rfl, ?_, ⟨_, rfl⟩, hW, hsame.mono (by decide) (by decide)⟩
  · exact X1.returnOut hx Bd.returns (hb hby d_prog_33_method_9_5) hr
  · show Q_PagedBytes_writeNumber_1 Z a1 a2 w_DE kW_DE h0 n0 _ T1.heap _
    exact ⟨b6_2_2_5_7_1_1_1, b2_1_1_1, kA6_2_2_5_7_1_1_1, kA2_1_1_1, rfl, N1, ((Keep.refl h0 [a2, a1]).trans K1 (allS (Or.inl (List.mem_of_getElem? (i := 0) rfl)) (allS (Or.inl (List.mem_of_getElem? (i := 1) rfl)) all0))), gz_b6_2_2_5_7_1_1_1, gz_b2_1_1_1, f1_2, f1_3, f1_4, f1_5, f1_6, f1_7⟩
theorem w_123 {Z : State} {a0 : Array Value} (hw : ∀ d ∈ tables_1, d.before a0 Z = true) : (Jvm.Cond.methodLink "com/example/kleinmaschine/kleinmaschine/Statements" (98 : Nat) ({ cls := "com/example/kleinmaschine/kleinmaschine/PagedBytes", name := "writeNumber", desc := "(J)V" } : Jvm.MethodName)).before a0 Z = true := hw _ (List.mem_of_getElem? (i := 123) rfl)
theorem w_127 {Z : State} {a0 : Array Value} (hw : ∀ d ∈ tables_1, d.before a0 Z = true) : (Jvm.Cond.code ({ cls := "com/example/kleinmaschine/kleinmaschine/PagedBytes", name := "writeNumber", desc := "(J)V" } : Jvm.MethodName) prog_33_method_9_code (3 : Nat) (Option.none : Option Jvm.ClassFile.FieldType)).before a0 Z = true := hw _ (List.mem_of_getElem? (i := 127) rfl)
theorem pd_J_r_V : parseMethodDescriptor "(J)V" = some ⟨[.long], none⟩ := by decide +kernel
theorem w_126 {Z : State} {a0 : Array Value} (hw : ∀ d ∈ tables_1, d.before a0 Z = true) : (Jvm.Cond.selects "com/example/kleinmaschine/kleinmaschine/PagedBytes" ({ cls := "com/example/kleinmaschine/kleinmaschine/PagedBytes", name := "writeNumber", desc := "(J)V" } : Jvm.MethodName) ({ cls := "com/example/kleinmaschine/kleinmaschine/PagedBytes", name := "writeNumber", desc := "(J)V" } : Jvm.MethodName)).before a0 Z = true := hw _ (List.mem_of_getElem? (i := 126) rfl)
theorem w_124 {Z : State} {a0 : Array Value} (hw : ∀ d ∈ tables_1, d.before a0 Z = true) : (Jvm.Cond.declares ({ cls := "com/example/kleinmaschine/kleinmaschine/PagedBytes", name := "writeNumber", desc := "(J)V" } : Jvm.MethodName)).before a0 Z = true := hw _ (List.mem_of_getElem? (i := 124) rfl)
theorem w_125 {Z : State} {a0 : Array Value} (hw : ∀ d ∈ tables_1, d.before a0 Z = true) : (Jvm.Cond.instanceMethod ({ cls := "com/example/kleinmaschine/kleinmaschine/PagedBytes", name := "writeNumber", desc := "(J)V" } : Jvm.MethodName)).before a0 Z = true := hw _ (List.mem_of_getElem? (i := 125) rfl)
theorem d_prog_52_method_3_302 : decode prog_52_method_3_code 302 = .ok (.aload_n 0, 1) := by decide +kernel
theorem d_prog_52_method_3_303 : decode prog_52_method_3_code 303 = .ok (.getfield 24, 3) := by decide +kernel
theorem d_prog_52_method_3_306 : decode prog_52_method_3_code 306 = .ok (.lload 8, 2) := by decide +kernel
theorem d_prog_52_method_3_308 : decode prog_52_method_3_code 308 = .ok (.lconst 0, 1) := by decide +kernel
theorem d_prog_52_method_3_309 : decode prog_52_method_3_code 309 = .ok (.lcmp, 1) := by decide +kernel
theorem d_prog_52_method_3_310 : decode prog_52_method_3_code 310 = .ok (.ifCond .ne 16, 3) := by decide +kernel
theorem d_prog_52_method_3_326 : decode prog_52_method_3_code 326 = .ok (.aload 4, 2) := by decide +kernel
theorem d_prog_52_method_3_328 : decode prog_52_method_3_code 328 = .ok (.invokevirtual 102, 3) := by decide +kernel
theorem d_prog_35_method_7_0 : decode prog_35_method_7_code 0 = .ok (.aload_n 0, 1) := by decide +kernel
theorem d_prog_35_method_7_1 : decode prog_35_method_7_code 1 = .ok (.getfield 13, 3) := by decide +kernel
theorem d_prog_35_method_7_4 : decode prog_35_method_7_code 4 = .ok (.lreturn, 1) := by decide +kernel
def Q_Position_column_1 (Z : State) (a1 : Addr) (h0 : Heap) (n0 : Nat) (v : Option Value) (h : Heap) (L : List Loc) : Prop := v = some (.long 1) ∧ Fr n0 L ∧ h = h0
set_option maxRecDepth 65536 in
set_option maxHeartbeats 40000000 in
theorem rm_Position_column_1 (l : Launch) (Z : State) (a0 : Array Value) (hw : ∀ d ∈ tables_1, d.before a0 Z = true) (ws : List Jvm.Cond) (a1 : Addr) (h0 : Heap) (n0 : Nat) (O0 : Old Z n0 h0) (pr1 : Ob Z h0 a1 "com/example/kleinmaschine/kleinmaschine/Position" [("com/example/kleinmaschine/kleinmaschine/Position", "line", "J", (.long 1)), ("com/example/kleinmaschine/kleinmaschine/Position", "column", "J", (.long 1))]) :
    MetFree l (⟨"com/example/kleinmaschine/kleinmaschine/Position", "column", "()J"⟩ : MethodName) (head1 (Jvm.Cond.code (⟨"com/example/kleinmaschine/kleinmaschine/Position", "column", "()J"⟩ : MethodName) prog_35_method_7_code 1 (some .long) :: ws) ({ frames := 0, cells := 0, slots := 0, locals := 0 } : Room)) (fun a U => a = #[(.ref a1)] ∧ Z.Warmed39 U.vm ∧ U.heap = h0) (fun _ _ _ _ _ => True) (fun _ U o U' => ∃ v L, o = .returned v ∧ Q_Position_column_1 Z a1 h0 n0 v U'.heap L ∧ FrameEnd U o U' L ({ frames := 0, cells := 0, slots := 0, locals := 0 } : Room).cells ({ frames := 0, cells := 0, slots := 0, locals := 0 } : Room).slots) := by
  refine MetFree.of_bodySF (plainFor_of_name pn_Position) hisR ?_
  intro p e s m args below meth c s₁ Bd hml0 hP hK
  obtain ⟨rfl, hZ, hh⟩ := hP
  have hx := Bd.exec
  have hby := Bd.bytes
  have hml : c.maxLocals = 1 := hml0
  have hown : s.vm.findClass "com/example/kleinmaschine/kleinmaschine/Position" = some m.cls := findClass_of_methodNamed Bd.named
  have hnm := (name_of_methodNamed Bd.named Bd.method).1
  have X0 : Stand p l e ({ frames := 0, cells := 0, slots := 0, locals := 0 } : Room) s m #[(.ref a1)] below meth c s₁ [] 0 0 := Stand.of_body Bd
  have e0 : s₁.heap = h0 := by rw [← hh, Bd.state]; rfl
  have N0 := Fr.nil n0
  obtain ⟨G0, hG0⟩ : ∃ z, z = (mkF m 0 #[.val (.ref a1)] []) := ⟨_, rfl⟩
  have pre0 : ∀ t, Steps p.tables e below (s₁.setTop G0) t → Steps p.tables e below (s₁.setTop (entryFrame m #[(.ref a1)] 1)) t := fun t k => castTop (ef_R_1 m a1) (hG0 ▸ k)
  have k : Goes p e below s₁ G0 s₁ (mkF m 0 #[.val (.ref a1)] []) := fun t q => hG0 ▸ q
  replace k := Fw.aloadN k X0 hx (hb hby d_prog_35_method_7_0) rfl rfl (pc' := 1) rfl
  obtain ⟨T1, X1, e1, st1⟩ := getF X0 hx hZ hown (host := "") (Or.inl (w_81 hw)) Via.refl e0 (Ob.at pr1 1 rfl) (g := (mkF m 1 #[.val (.ref a1)] [(.ref a1)])) rfl rfl (hb hby d_prog_35_method_7_1)
  replace k : Goes p e below s₁ G0 T1 (mkF m 4 #[.val (.ref a1)] [(.long 1)]) := fun t q => k t (st1 _ q)
  obtain ⟨fs, hr, hrun, hended, hW, hsame⟩ := X1.leave (v := some (.long 1)) (fun h => by rw [Bd.returns] at h; cases h)
  refine ⟨_, _, pre0 _ (k _ ?_), hrun, hended, _, _, rfl, ?_, ⟨_, rfl⟩, hW, hsame.mono (by decide) (by decide)⟩
  · exact X1.lreturnOut hx Bd.returns (hb hby d_prog_35_method_7_4) hr
  · show Q_Position_column_1 Z a1 h0 n0 _ T1.heap _
    rw [e1]
    exact ⟨rfl, N0, rfl⟩
theorem w_184 {Z : State} {a0 : Array Value} (hw : ∀ d ∈ tables_1, d.before a0 Z = true) : (Jvm.Cond.methodLink "com/example/kleinmaschine/kleinmaschine/Statements" (102 : Nat) ({ cls := "com/example/kleinmaschine/kleinmaschine/Position", name := "column", desc := "()J" } : Jvm.MethodName)).before a0 Z = true := hw _ (List.mem_of_getElem? (i := 184) rfl)
theorem w_188 {Z : State} {a0 : Array Value} (hw : ∀ d ∈ tables_1, d.before a0 Z = true) : (Jvm.Cond.code ({ cls := "com/example/kleinmaschine/kleinmaschine/Position", name := "column", desc := "()J" } : Jvm.MethodName) prog_35_method_7_code (1 : Nat) (Option.some Jvm.ClassFile.FieldType.long)).before a0 Z = true := hw _ (List.mem_of_getElem? (i := 188) rfl)
theorem w_187 {Z : State} {a0 : Array Value} (hw : ∀ d ∈ tables_1, d.before a0 Z = true) : (Jvm.Cond.selects "com/example/kleinmaschine/kleinmaschine/Position" ({ cls := "com/example/kleinmaschine/kleinmaschine/Position", name := "column", desc := "()J" } : Jvm.MethodName) ({ cls := "com/example/kleinmaschine/kleinmaschine/Position", name := "column", desc := "()J" } : Jvm.MethodName)).before a0 Z = true := hw _ (List.mem_of_getElem? (i := 187) rfl)
theorem w_185 {Z : State} {a0 : Array Value} (hw : ∀ d ∈ tables_1, d.before a0 Z = true) : (Jvm.Cond.declares ({ cls := "com/example/kleinmaschine/kleinmaschine/Position", name := "column", desc := "()J" } : Jvm.MethodName)).before a0 Z = true := hw _ (List.mem_of_getElem? (i := 185) rfl)
theorem w_186 {Z : State} {a0 : Array Value} (hw : ∀ d ∈ tables_1, d.before a0 Z = true) : (Jvm.Cond.instanceMethod ({ cls := "com/example/kleinmaschine/kleinmaschine/Position", name := "column", desc := "()J" } : Jvm.MethodName)).before a0 Z = true := hw _ (List.mem_of_getElem? (i := 186) rfl)
theorem d_prog_52_method_3_331 : decode prog_52_method_3_code 331 = .ok (.invokevirtual 98, 3) := by decide +kernel
def Q_PagedBytes_write_2 (Z : State) (a1 : Addr) (a2 : Addr) (a3 : Addr) (k4 : ClassId) (h0 : Heap) (n0 : Nat) (v : Option Value) (h : Heap) (L : List Loc) : Prop := v = none ∧ Fr n0 L ∧ Keep h0 h [a3, a1] ∧ Aw Z h a3 "[B" k4 .byte 65536 (updv (updv (fun _ => (.int 0)) 0 (.int 1)) 1 (.int 1)) ∧ Ob Z h a1 "com/example/kleinmaschine/kleinmaschine/PagedBytes" [("com/example/kleinmaschine/kleinmaschine/PagedBytes", "pages", "Ljava/util/List;", (.ref a2)), ("com/example/kleinmaschine/kleinmaschine/PagedBytes", "lastUsed", "I", (.int 2)), ("com/example/kleinmaschine/kleinmaschine/PagedBytes", "size", "J", (.long 2)), ("com/example/kleinmaschine/kleinmaschine/PagedBytes", "last", "[B", (.ref a3))]
set_option maxRecDepth 65536 in
set_option maxHeartbeats 40000000 in
theorem rm_PagedBytes_write_2 (l : Launch) (Z : State) (a0 : Array Value) (hw : ∀ d ∈ tables_1, d.before a0 Z = true) (ws : List Jvm.Cond) (a1 : Addr) (a2 : Addr) (a3 : Addr) (k4 : ClassId) (h0 : Heap) (n0 : Nat) (O0 : Old Z n0 h0) (pr1 : Ob Z h0 a1 "com/example/kleinmaschine/kleinmaschine/PagedBytes" [("com/example/kleinmaschine/kleinmaschine/PagedBytes", "pages", "Ljava/util/List;", (.ref a2)), ("com/example/kleinmaschine/kleinmaschine/PagedBytes", "lastUsed", "I", (.int 1)), ("com/example/kleinmaschine/kleinmaschine/PagedBytes", "size", "J", (.long 1)), ("com/example/kleinmaschine/kleinmaschine/PagedBytes", "last", "[B", (.ref a3))]) (pr2 : n0 ≤ a1) (pr3 : Aw Z h0 a3 "[B" k4 .byte 65536 (updv (fun _ => (.int 0)) 0 (.int 1))) (pr4 : a3 ≠ a1) (pr5 : n0 ≤ a3) :
    MetFree l (⟨"com/example/kleinmaschine/kleinmaschine/PagedBytes", "write", "(I)V"⟩ : MethodName) (head1 (Jvm.Cond.code (⟨"com/example/kleinmaschine/kleinmaschine/PagedBytes", "write", "(I)V"⟩ : MethodName) prog_33_method_7_code 2 none :: ws) ({ frames := 0, cells := 0, slots := 0, locals := 0 } : Room)) (fun a U => a = #[(.ref a1), (.int 1)] ∧ Z.Warmed39 U.vm ∧ U.heap = h0) (fun _ _ _ _ _ => True) (fun _ U o U' => ∃ v L, o = .returned v ∧ Q_PagedBytes_write_2 Z a1 a2 a3 k4 h0 n0 v U'.heap L ∧ FrameEnd U o U' L ({ frames := 0, cells := 0, slots := 0, locals := 0 } : Room).cells ({ frames := 0, cells := 0, slots := 0, locals := 0 } : Room).slots) := by
  refine MetFree.of_bodySF (plainFor_of_name pn_PagedBytes) hisR ?_
  intro p e s m args below meth c s₁ Bd hml0 hP hK
  obtain ⟨rfl, hZ, hh⟩ := hP
  have hx := Bd.exec
  have hby := Bd.bytes
  have hml : c.maxLocals = 2 := hml0
  have hown : s.vm.findClass "com/example/kleinmaschine/kleinmaschine/PagedBytes" = some m.cls := findClass_of_methodNamed Bd.named
  have hnm := (name_of_methodNamed Bd.named Bd.method).1
  have X0 : Stand p l e ({ frames := 0, cells := 0, slots := 0, locals := 0 } : Room) s m #[(.ref a1), (.int 1)] below meth c s₁ [] 0 0 := Stand.of_body Bd
  have e0 : s₁.heap = h0 := by rw [← hh, Bd.state]; rfl
  have N0 := Fr.nil n0
  obtain ⟨G0, hG0⟩ : ∃ z, z = (mkF m 0 #[.val (.ref a1), .val (.int 1)] []) := ⟨_, rfl⟩
  have pre0 : ∀ t, Steps p.tables e below (s₁.setTop G0) t → Steps p.tables e below (s₁.setTop (entryFrame m #[(.ref a1), (.int 1)] 2)) t := fun t k => castTop (ef_RI_2 m a1 ((1 : Int32))) (hG0 ▸ k)
  have k : Goes p e below s₁ G0 s₁ (mkF m 0 #[.val (.ref a1), .val (.int 1)] []) := fun t q => hG0 ▸ q
  replace k := Fw.aloadN k X0 hx (hb hby d_prog_33_method_7_0) rfl rfl (pc' := 1) rfl
  obtain ⟨T1, X1, e1, st1⟩ := getF X0 hx hZ hown (host := "") (Or.inl (w_56 hw)) Via.refl e0 (Ob.at pr1 1 rfl) (g := (mkF m 1 #[.val (.ref a1), .val (.int 1)] [(.ref a1)])) rfl rfl (hb hby d_prog_33_method_7_1)
  replace k : Goes p e below s₁ G0 T1 (mkF m 4 #[.val (.ref a1), .val (.int 1)] [(.int 1)]) := fun t q => k t (st1 _ q)
  replace k : Goes p e below s₁ G0 T1 (mkF m 6 #[.val (.ref a1), .val (.int 1)] [(.int 65536), (.int 1)]) := fun t q => k t (X1.ldcInt hx hown (mvT hZ (w_55 hw)) (g := (mkF m 4 #[.val (.ref a1), .val (.int 1)] [(.int 1)])) rfl (hb hby d_prog_33_method_7_4) _ q)
  replace k := Fw.icmpYes k X1 hx (hb hby d_prog_33_method_7_6) (feq (show ¬ ((1 : Int32) = (65536 : Int32)) from by decide)).2 (by decide) (pc' := 36) rfl
  replace k := Fw.aloadN k X1 hx (hb hby d_prog_33_method_7_36) rfl rfl (pc' := 37) rfl
  obtain ⟨T2, X2, e2, st2⟩ := getF X1 hx hZ hown (host := "") (Or.inl (w_147 hw)) Via.refl e1 (Ob.at pr1 3 rfl) (g := (mkF m 37 #[.val (.ref a1), .val (.int 1)] [(.ref a1)])) rfl rfl (hb hby d_prog_33_method_7_37)
  replace k : Goes p e below s₁ G0 T2 (mkF m 40 #[.val (.ref a1), .val (.int 1)] [(.ref a3)]) := fun t q => k t (st2 _ q)
  replace k := Fw.aloadN k X2 hx (hb hby d_prog_33_method_7_40) rfl rfl (pc' := 41) rfl
  replace k := Fw.dup k X2 hx (hb hby d_prog_33_method_7_41) rfl (pc' := 42) rfl
  obtain ⟨T3, X3, e3, st3⟩ := getF X2 hx hZ hown (host := "") (Or.inl (w_56 hw)) Via.refl e2 (Ob.at pr1 1 rfl) (g := (mkF m 42 #[.val (.ref a1), .val (.int 1)] [(.ref a1), (.ref a1), (.ref a3)])) rfl rfl (hb hby d_prog_33_method_7_42)
  replace k : Goes p e below s₁ G0 T3 (mkF m 45 #[.val (.ref a1), .val (.int 1)] [(.int 1), (.ref a1), (.ref a3)]) := fun t q => k t (st3 _ q)
  replace k := Fw.dupX1 k X3 hx (hb hby d_prog_33_method_7_45) rfl rfl (pc' := 46) rfl
  replace k := Fw.iconst k X3 hx (hb hby d_prog_33_method_7_46) (z := (1 : Int32)) (by decide) (pc' := 47) rfl
  replace k := Fw.iadd k X3 hx (hb hby d_prog_33_method_7_47) (z := (2 : Int32)) (by decide) (pc' := 48) rfl
  obtain ⟨T4, h4, X4, e4, W4, st4⟩ := putF X3 hx hZ hown (host := "") (Or.inl (w_56 hw)) Via.refl e3 (Ob.at pr1 1 rfl) pr1.exa (Or.inl (w_57 hw)) (w_18 hw) (ty := .int) (by decide +kernel) rfl rfl (g := (mkF m 48 #[.val (.ref a1), .val (.int 1)] [(.int 2), (.ref a1), (.int 1), (.ref a3)])) rfl rfl (hb hby d_prog_33_method_7_48)
  have N4 := Fr.snoc X4 N0 pr2
  have O4 : Ob Z h4 a1 "com/example/kleinmaschine/kleinmaschine/PagedBytes" [("com/example/kleinmaschine/kleinmaschine/PagedBytes", "pages", "Ljava/util/List;", (.ref a2)), ("com/example/kleinmaschine/kleinmaschine/PagedBytes", "lastUsed", "I", (.int 2)), ("com/example/kleinmaschine/kleinmaschine/PagedBytes", "size", "J", (.long 1)), ("com/example/kleinmaschine/kleinmaschine/PagedBytes", "last", "[B", (.ref a3))] := Ob.put pr1 (lay_PagedBytes hw) 1 rfl W4
  replace k : Goes p e below s₁ G0 T4 (mkF m 51 #[.val (.ref a1), .val (.int 1)] [(.int 1), (.ref a3)]) := fun t q => k t (st4 _ q)
  replace k := Fw.iloadN k X4 hx (hb hby d_prog_33_method_7_51) rfl (pc' := 52) rfl
  replace k := Fw.i2b k X4 hx (hb hby d_prog_33_method_7_52) (z := (1 : Int32)) (by decide) (pc' := 53) rfl
  have fc5 := (pr3.other W4 pr4)
  obtain ⟨cl6, Ar6, hin6, -, kq6, -⟩ := Aw.open fc5 (j := (1 : Int32)) 1 (by decide) (by decide) (by decide)
  obtain ⟨T6, h6, X6, e6, W6, st6⟩ := stB X4 hx hZ e4 Ar6 (j := (1 : Int32)) hin6 (g := (mkF m 53 #[.val (.ref a1), .val (.int 1)] [(.int 1), (.int 1), (.ref a3)])) rfl rfl (hb hby d_prog_33_method_7_53)
  have N6 := Fr.snoc X6 N4 pr5
  have V6 : Aw Z h6 a3 "[B" k4 .byte 65536 (updv (updv (fun _ => (.int 0)) 0 (.int 1)) 1 (.int 1)) := Aw.set fc5 W6 1 (by decide) (by decide)
  replace k : Goes p e below s₁ G0 T6 (mkF m 54 #[.val (.ref a1), .val (.int 1)] []) := fun t q => k t (st6 _ q)
  replace k := Fw.aloadN k X6 hx (hb hby d_prog_33_method_7_54) rfl rfl (pc' := 55) rfl
  replace k := Fw.dup k X6 hx (hb hby d_prog_33_method_7_55) rfl (pc' := 56) rfl
  have fc7 := (O4.other W6 (Ne.symm pr4))
  obtain ⟨T8, X8, e8, st8⟩ := getF X6 hx hZ hown (host := "") (Or.inl (w_112 hw)) Via.refl e6 (Ob.at fc7 2 rfl) (g := (mkF m 56 #[.val (.ref a1), .val (.int 1)] [(.ref a1), (.ref a1)])) rfl rfl (hb hby d_prog_33_method_7_56)
  replace k : Goes p e below s₁ G0 T8 (mkF m 59 #[.val (.ref a1), .val (.int 1)] [(.long 1), (.ref a1)]) := fun t q => k t (st8 _ q)
  replace k := Fw.lconst k X8 hx (hb hby d_prog_33_method_7_59) (z := (1 : Int64)) (by decide) (pc' := 60) rfl
  replace k := Fw.ladd k X8 hx (hb hby d_prog_33_method_7_60) (z := (2 : Int64)) (by decide) (pc' := 61) rfl
  obtain ⟨T9, h9, X9, e9, W9, st9⟩ := putF X8 hx hZ hown (host := "") (Or.inl (w_112 hw)) Via.refl e8 (Ob.at fc7 2 rfl) fc7.exa (Or.inl (w_113 hw)) (w_18 hw) (ty := .long) (by decide +kernel) rfl rfl (g := (mkF m 61 #[.val (.ref a1), .val (.int 1)] [(.long 2), (.ref a1)])) rfl rfl (hb hby d_prog_33_method_7_61)
  have N9 := Fr.snoc X9 N6 pr2
  have O9 : Ob Z h9 a1 "com/example/kleinmaschine/kleinmaschine/PagedBytes" [("com/example/kleinmaschine/kleinmaschine/PagedBytes", "pages", "Ljava/util/List;", (.ref a2)), ("com/example/kleinmaschine/kleinmaschine/PagedBytes", "lastUsed", "I", (.int 2)), ("com/example/kleinmaschine/kleinmaschine/PagedBytes", "size", "J", (.long 2)), ("com/example/kleinmaschine/kleinmaschine/PagedBytes", "last", "[B", (.ref a3))] := Ob.put fc7 (lay_PagedBytes hw) 2 rfl W9
  replace k : Goes p e below s₁ G0 T9 (mkF m 64 #[.val (.ref a1), .val (.int 1)] []) := fun t q => k t (st9 _ q)
  obtain ⟨fs, hr, hrun, hended, hW, hsame⟩ := X9.leave (v := none) (fun _ => rfl)
  refine ⟨_, _, pre0 _ (k _ ?_), hrun, hended, _, _, rfl, ?_, ⟨_, rfl⟩, hW, hsame.mono (by decide) (by decide)⟩
  · exact X9.returnOut hx Bd.returns (hb hby d_prog_33_method_7_64) hr
  · show Q_PagedBytes_write_2 Z a1 a2 a3 k4 h0 n0 _ T9.heap _
    rw [e9]
    exact ⟨rfl, N9, ((((Keep.refl h0 [a3, a1]).wr W4 (Or.inl (List.mem_of_getElem? (i := 1) rfl))).wr W6 (Or.inl (List.mem_of_getElem? (i := 0) rfl))).wr W9 (Or.inl (List.mem_of_getElem? (i := 1) rfl))), (V6.other W9 pr4), O9⟩
def Q_PagedBytes_accept_2 (Z : State) (a1 : Addr) (a2 : Addr) (a3 : Addr) (k4 : ClassId) (h0 : Heap) (n0 : Nat) (v : Option Value) (h : Heap) (L : List Loc) : Prop := v = none ∧ Fr n0 L ∧ Keep h0 h [a3, a1] ∧ Aw Z h a3 "[B" k4 .byte 65536 (updv (updv (fun _ => (.int 0)) 0 (.int 1)) 1 (.int 1)) ∧ Ob Z h a1 "com/example/kleinmaschine/kleinmaschine/PagedBytes" [("com/example/kleinmaschine/kleinmaschine/PagedBytes", "pages", "Ljava/util/List;", (.ref a2)), ("com/example/kleinmaschine/kleinmaschine/PagedBytes", "lastUsed", "I", (.int 2)), ("com/example/kleinmaschine/kleinmaschine/PagedBytes", "size", "J", (.long 2)), ("com/example/kleinmaschine/kleinmaschine/PagedBytes", "last", "[B", (.ref a3))]
set_option maxRecDepth 65536 in
set_option maxHeartbeats 40000000 in
theorem rm_PagedBytes_accept_2 (l : Launch) (Z : State) (a0 : Array Value) (hw : ∀ d ∈ tables_1, d.before a0 Z = true) (ws : List Jvm.Cond) (a1 : Addr) (a2 : Addr) (a3 : Addr) (k4 : ClassId) (h0 : Heap) (n0 : Nat) (O0 : Old Z n0 h0) (pr1 : Ob Z h0 a1 "com/example/kleinmaschine/kleinmaschine/PagedBytes" [("com/example/kleinmaschine/kleinmaschine/PagedBytes", "pages", "Ljava/util/List;", (.ref a2)), ("com/example/kleinmaschine/kleinmaschine/PagedBytes", "lastUsed", "I", (.int 1)), ("com/example/kleinmaschine/kleinmaschine/PagedBytes", "size", "J", (.long 1)), ("com/example/kleinmaschine/kleinmaschine/PagedBytes", "last", "[B", (.ref a3))]) (pr2 : n0 ≤ a1) (pr3 : Aw Z h0 a3 "[B" k4 .byte 65536 (updv (fun _ => (.int 0)) 0 (.int 1))) (pr4 : a3 ≠ a1) (pr5 : n0 ≤ a3) :
    MetFree l (⟨"com/example/kleinmaschine/kleinmaschine/PagedBytes", "accept", "(I)V"⟩ : MethodName) (head1 (Jvm.Cond.code (⟨"com/example/kleinmaschine/kleinmaschine/PagedBytes", "accept", "(I)V"⟩ : MethodName) prog_33_method_6_code 2 none :: ws) ({ frames := 1, cells := 0, slots := 0, locals := 13 } : Room)) (fun a U => a = #[(.ref a1), (.int 1)] ∧ Z.Warmed39 U.vm ∧ U.heap = h0) (fun _ _ _ _ _ => True) (fun _ U o U' => ∃ v L, o = .returned v ∧ Q_PagedBytes_accept_2 Z a1 a2 a3 k4 h0 n0 v U'.heap L ∧ FrameEnd U o U' L ({ frames := 1, cells := 0, slots := 0, locals := 13 } : Room).cells ({ frames := 1, cells := 0, slots := 0, locals := 13 } : Room).slots) := by
  refine MetFree.of_bodySF (plainFor_of_name pn_PagedBytes) hisR ?_
  intro p e s m args below meth c s₁ Bd hml0 hP hK
  obtain ⟨rfl, hZ, hh⟩ := hP
  have hx := Bd.exec
  have hby := Bd.bytes
  have hml : c.maxLocals = 2 := hml0
  have hown : s.vm.findClass "com/example/kleinmaschine/kleinmaschine/PagedBytes" = some m.cls := findClass_of_methodNamed Bd.named
  have hnm := (name_of_methodNamed Bd.named Bd.method).1
  have X0 : Stand p l e ({ frames := 1, cells := 0, slots := 0, locals := 13 } : Room) s m #[(.ref a1), (.int 1)] below meth c s₁ [] 0 0 := Stand.of_body Bd
  have e0 : s₁.heap = h0 := by rw [← hh, Bd.state]; rfl
  have N0 := Fr.nil n0
  obtain ⟨G0, hG0⟩ : ∃ z, z = (mkF m 0 #[.val (.ref a1), .val (.int 1)] []) := ⟨_, rfl⟩
  have pre0 : ∀ t, Steps p.tables e below (s₁.setTop G0) t → Steps p.tables e below (s₁.setTop (entryFrame m #[(.ref a1), (.int 1)] 2)) t := fun t k => castTop (ef_RI_2 m a1 ((1 : Int32))) (hG0 ▸ k)
  have k : Goes p e below s₁ G0 s₁ (mkF m 0 #[.val (.ref a1), .val (.int 1)] []) := fun t q => hG0 ▸ q
  replace k := Fw.aloadN k X0 hx (hb hby d_prog_33_method_6_0) rfl rfl (pc' := 1) rfl
  replace k := Fw.iloadN k X0 hx (hb hby d_prog_33_method_6_1) rfl (pc' := 2) rfl
  obtain ⟨cq1, kq1, q1a, q1b, q1c⟩ := isOf hZ e0 pr1.exa
  obtain ⟨_, _, ⟨T1, L1, kz1, nz1⟩, -, X1, ⟨Lc1, hQ1, l1, y1, z1⟩, st1⟩ := X0.virtualBack hx (y := (⟨"com/example/kleinmaschine/kleinmaschine/PagedBytes", "write", "(I)V"⟩ : MethodName)) (z := (⟨"com/example/kleinmaschine/kleinmaschine/PagedBytes", "write", "(I)V"⟩ : MethodName)) hown (mvT hZ (w_141 hw)) (mvT hZ (w_142 hw)) (notFace_of_selects (args := #[]) (mvT hZ (w_144 hw))) (mvT hZ (w_144 hw)) (mvT hZ (w_143 hw)) (by decide) (backOf (W := 0) (rm_PagedBytes_write_2 l Z a0 hw [] a1 a2 a3 k4 h0 n0 O0 pr1 pr2 pr3 pr4 pr5) hZ (w_145 hw) (w_19 hw) (by decide) (by decide)) q1a q1c (g := (mkF m 2 #[.val (.ref a1), .val (.int 1)] [(.int 1), (.ref a1)])) rfl (by rw [hml]; rfl) (Steps.refl _) (argsL := [(.int 1)]) (rest := []) (lenOf pd_I_r_V rfl) rfl (by show 2 * 0 + _ ≤ _; exact Nat.le_of_eq rfl) (hb hby d_prog_33_method_6_2) (fun _ _ => ⟨rfl, e0, (by decide : 0 + 0 ≤ _), (by decide : 0 + 0 ≤ _)⟩)
  dsimp only [Pt.U, Pt.locs, Pt.cells, Pt.slots] at X1 l1 y1 z1 st1 hQ1
  subst l1 y1 z1
  obtain ⟨hv1, N1q, K1, f1_0, f1_1⟩ := hQ1
  subst hv1
  have N1 := Fr.app N0 N1q
  replace k : Goes p e below s₁ G0 T1 (mkF m 5 #[.val (.ref a1), .val (.int 1)] []) := fun t q => k t (st1.trans q)
  obtain ⟨fs, hr, hrun, hended, hW, hsame⟩ := X1.leave (v := none) (fun _ => rfl)
  refine ⟨_, _, pre0 _ (k _ ?_), hrun, hended, _, _, rfl, ?_, ⟨_, rfl⟩, hW, hsame.mono (by decide) (by decide)⟩
  · exact X1.returnOut hx Bd.returns (hb hby d_prog_33_method_6_5) hr
  · show Q_PagedBytes_accept_2 Z a1 a2 a3 k4 h0 n0 _ T1.heap _
    exact ⟨rfl, N1, ((Keep.refl h0 [a3, a1]).trans K1 (allS (Or.inl (List.mem_of_getElem? (i := 0) rfl)) (allS (Or.inl (List.mem_of_getElem? (i := 1) rfl)) all0))), f1_0, f1_1⟩
def Q_PagedBytes_writeNumber_4 (Z : State) (a1 : Addr) (a2 : Addr) (a3 : Addr) (k4 : ClassId) (h0 : Heap) (n0 : Nat) (v : Option Value) (h : Heap) (L : List Loc) : Prop := v = none ∧ Fr n0 L ∧ Keep h0 h [a3, a1] ∧ Aw Z h a3 "[B" k4 .byte 65536 (updv (updv (fun _ => (.int 0)) 0 (.int 1)) 1 (.int 1)) ∧ Ob Z h a1 "com/example/kleinmaschine/kleinmaschine/PagedBytes" [("com/example/kleinmaschine/kleinmaschine/PagedBytes", "pages", "Ljava/util/List;", (.ref a2)), ("com/example/kleinmaschine/kleinmaschine/PagedBytes", "lastUsed", "I", (.int 2)), ("com/example/kleinmaschine/kleinmaschine/PagedBytes", "size", "J", (.long 2)), ("com/example/kleinmaschine/kleinmaschine/PagedBytes", "last", "[B", (.ref a3))]
set_option maxRecDepth 65536 in
set_option maxHeartbeats 40000000 in
theorem rm_PagedBytes_writeNumber_4 (l : Launch) (Z : State) (a0 : Array Value) (hw : ∀ d ∈ tables_1, d.before a0 Z = true) (ws : List Jvm.Cond) (a1 : Addr) (a2 : Addr) (a3 : Addr) (k4 : ClassId) (h0 : Heap) (n0 : Nat) (O0 : Old Z n0 h0) (pr1 : Ob Z h0 a1 "com/example/kleinmaschine/kleinmaschine/PagedBytes" [("com/example/kleinmaschine/kleinmaschine/PagedBytes", "pages", "Ljava/util/List;", (.ref a2)), ("com/example/kleinmaschine/kleinmaschine/PagedBytes", "lastUsed", "I", (.int 1)), ("com/example/kleinmaschine/kleinmaschine/PagedBytes", "size", "J", (.long 1)), ("com/example/kleinmaschine/kleinmaschine/PagedBytes", "last", "[B", (.ref a3))]) (pr2 : n0 ≤ a1) (pr3 : Aw Z h0 a3 "[B" k4 .byte 65536 (updv (fun _ => (.int 0)) 0 (.int 1))) (pr4 : a3 ≠ a1) (pr5 : n0 ≤ a3) :
    MetFree l (⟨"com/example/kleinmaschine/kleinmaschine/PagedBytes", "writeNumber", "(JLjava/util/function/IntConsumer;)V"⟩ : MethodName) (head1 (Jvm.Cond.code (⟨"com/example/kleinmaschine/kleinmaschine/PagedBytes", "writeNumber", "(JLjava/util/function/IntConsumer;)V"⟩ : MethodName) prog_33_method_2_code 5 none :: ws) ({ frames := 2, cells := 0, slots := 0, locals := 26 } : Room)) (fun a U => a = #[(.long 1), (.ref a1)] ∧ Z.Warmed39 U.vm ∧ U.heap = h0) (fun _ _ _ _ _ => True) (fun _ U o U' => ∃ v L, o = .returned v ∧ Q_PagedBytes_writeNumber_4 Z a1 a2 a3 k4 h0 n0 v U'.heap L ∧ FrameEnd U o U' L ({ frames := 2, cells := 0, slots := 0, locals := 26 } : Room).cells ({ frames := 2, cells := 0, slots := 0, locals := 26 } : Room).slots) := by
  refine MetFree.of_bodySF (plainFor_of_name pn_PagedBytes) hisR ?_
  intro p e s m args below meth c s₁ Bd hml0 hP hK
  obtain ⟨rfl, hZ, hh⟩ := hP
  have hx := Bd.exec
  have hby := Bd.bytes
  have hml : c.maxLocals = 5 := hml0
  have hown : s.vm.findClass "com/example/kleinmaschine/kleinmaschine/PagedBytes" = some m.cls := findClass_of_methodNamed Bd.named
  have hnm := (name_of_methodNamed Bd.named Bd.method).1
  have X0 : Stand p l e ({ frames := 2, cells := 0, slots := 0, locals := 26 } : Room) s m #[(.long 1), (.ref a1)] below meth c s₁ [] 0 0 := Stand.of_body Bd
  have e0 : s₁.heap = h0 := by rw [← hh, Bd.state]; rfl
  have N0 := Fr.nil n0
  obtain ⟨G0, hG0⟩ : ∃ z, z = (mkF m 0 #[.val (.long 1), .second, .val (.ref a1), .unset, .unset] []) := ⟨_, rfl⟩
  have pre0 : ∀ t, Steps p.tables e below (s₁.setTop G0) t → Steps p.tables e below (s₁.setTop (entryFrame m #[(.long 1), (.ref a1)] 5)) t := fun t k => castTop (ef_JR_5 m ((1 : Int64)) a1) (hG0 ▸ k)
  have k : Goes p e below s₁ G0 s₁ (mkF m 0 #[.val (.long 1), .second, .val (.ref a1), .unset, .unset] []) := fun t q => hG0 ▸ q
  replace k := Fw.lloadN k X0 hx (hb hby d_prog_33_method_2_0) rfl (pc' := 1) rfl
  replace k := Fw.lstoreN k X0 hx (hb hby d_prog_33_method_2_1)  (Ls' := #[.val (.long 1), .second, .val (.ref a1), .val (.long 1), .second]) rfl (pc' := 2) rfl
  replace k := Fw.lloadN k X0 hx (hb hby d_prog_33_method_2_2) rfl (pc' := 3) rfl
  replace k : Goes p e below s₁ G0 s₁ (mkF m 6 #[.val (.long 1), .second, .val (.ref a1), .val (.long 1), .second] [(.long (-128)), (.long 1)]) := fun t q => k t (X0.ldc2Long hx hown (mvT hZ (w_131 hw)) (g := (mkF m 3 #[.val (.long 1), .second, .val (.ref a1), .val (.long 1), .second] [(.long 1)])) rfl (hb hby d_prog_33_method_2_3) _ q)
  replace k := Fw.land k X0 hx (hb hby d_prog_33_method_2_6) (z := (0 : Int64)) (by decide) (pc' := 7) rfl
  replace k := Fw.lconst k X0 hx (hb hby d_prog_33_method_2_7) (z := (0 : Int64)) (by decide) (pc' := 8) rfl
  replace k : Goes p e below s₁ G0 s₁ (mkF m 9 #[.val (.long 1), .second, .val (.ref a1), .val (.long 1), .second] [(.int 0)]) := Fw.lcmp k X0 hx (hb hby d_prog_33_method_2_8) rfl
  replace k := Fw.ifYes k X0 hx (hb hby d_prog_33_method_2_9) ((if0 _ _).trans (teq (show (0 : Int32) = (0 : Int32) from by decide)).1) (by decide) (pc' := 36) rfl
  replace k := Fw.aloadN k X0 hx (hb hby d_prog_33_method_2_36) rfl rfl (pc' := 37) rfl
  replace k := Fw.lloadN k X0 hx (hb hby d_prog_33_method_2_37) rfl (pc' := 38) rfl
  replace k := Fw.l2i k X0 hx (hb hby d_prog_33_method_2_38) (z := (1 : Int32)) (by decide) (pc' := 39) rfl
  obtain ⟨cq1, kq1, q1a, q1b, q1c⟩ := isOf hZ e0 pr1.exa
  obtain ⟨_, _, ⟨T1, L1, kz1, nz1⟩, -, X1, ⟨Lc1, hQ1, l1, y1, z1⟩, st1⟩ := X0.interfaceBack hx (xi := (⟨"java/util/function/IntConsumer", "accept", "(I)V"⟩ : MethodName)) (y := (⟨"com/example/kleinmaschine/kleinmaschine/PagedBytes", "accept", "(I)V"⟩ : MethodName)) hown (mvT hZ (w_132 hw)) (mvT hZ (w_133 hw)) (mvT hZ (w_134 hw)) (mvT hZ (w_135 hw)) (mvT hZ (w_136 hw)) (mvT hZ (w_137 hw)) (mvT hZ (w_138 hw)) (mvT hZ (w_139 hw)) (by decide) (backOf (W := 0) (rm_PagedBytes_accept_2 l Z a0 hw [] a1 a2 a3 k4 h0 n0 O0 pr1 pr2 pr3 pr4 pr5) hZ (w_140 hw) (w_19 hw) (by decide) (by decide)) q1a q1b q1c (g := (mkF m 39 #[.val (.long 1), .second, .val (.ref a1), .val (.long 1), .second] [(.int 1), (.ref a1)])) rfl (by rw [hml]; rfl) (Steps.refl _) (argsL := [(.int 1)]) (rest := []) (lenOf pd_I_r_V rfl) rfl (by show 2 * 0 + _ ≤ _; exact Nat.le_of_eq rfl) (hb hby d_prog_33_method_2_39) (fun _ _ => ⟨rfl, e0, (by decide : 0 + 0 ≤ _), (by decide : 0 + 0 ≤ _)⟩)
  dsimp only [Pt.U, Pt.locs, Pt.cells, Pt.slots] at X1 l1 y1 z1 st1 hQ1
  subst l1 y1 z1
  obtain ⟨hv1, N1q, K1, f1_0, f1_1⟩ := hQ1
  subst hv1
  have N1 := Fr.app N0 N1q
  replace k : Goes p e below s₁ G0 T1 (mkF m 44 #[.val (.long 1), .second, .val (.ref a1), .val (.long 1), .second] []) := fun t q => k t (st1.trans q)
  obtain ⟨fs, hr, hrun, hended, hW, hsame⟩ := X1.leave (v := none) (fun _ => rfl)
  refine ⟨_, _, pre0 _ (k _ ?_), hrun, hended, _, _, rfl, ?_, ⟨_, rfl⟩, hW, hsame.mono (by decide) (by decide)⟩
  · exact X1.returnOut hx Bd.returns (hb hby d_prog_33_method_2_44) hr
  · show Q_PagedBytes_writeNumber_4 Z a1 a2 a3 k4 h0 n0 _ T1.heap _
    exact ⟨rfl, N1, ((Keep.refl h0 [a3, a1]).trans K1 (allS (Or.inl (List.mem_of_getElem? (i := 0) rfl)) (allS (Or.inl (List.mem_of_getElem? (i := 1) rfl)) all0))), f1_0, f1_1⟩
def Q_PagedBytes_writeNumber_3 (Z : State) (a1 : Addr) (a2 : Addr) (a3 : Addr) (k4 : ClassId) (h0 : Heap) (n0 : Nat) (v : Option Value) (h : Heap) (L : List Loc) : Prop := v = none ∧ Fr n0 L ∧ Keep h0 h [a3, a1] ∧ Aw Z h a3 "[B" k4 .byte 65536 (updv (updv (fun _ => (.int 0)) 0 (.int 1)) 1 (.int 1)) ∧ Ob Z h a1 "com/example/kleinmaschine/kleinmaschine/PagedBytes" [("com/example/kleinmaschine/kleinmaschine/PagedBytes", "pages", "Ljava/util/List;", (.ref a2)), ("com/example/kleinmaschine/kleinmaschine/PagedBytes", "lastUsed", "I", (.int 2)), ("com/example/kleinmaschine/kleinmaschine/PagedBytes", "size", "J", (.long 2)), ("com/example/kleinmaschine/kleinmaschine/PagedBytes", "last", "[B", (.ref a3))]
set_option maxRecDepth 65536 in
set_option maxHeartbeats 40000000 in
theorem rm_PagedBytes_writeNumber_3 (l : Launch) (Z : State) (a0 : Array Value) (hw : ∀ d ∈ tables_1, d.before a0 Z = true) (ws : List Jvm.Cond) (a1 : Addr) (a2 : Addr) (a3 : Addr) (k4 : ClassId) (h0 : Heap) (n0 : Nat) (O0 : Old Z n0 h0) (pr1 : Ob Z h0 a1 "com/example/kleinmaschine/kleinmaschine/PagedBytes" [("com/example/kleinmaschine/kleinmaschine/PagedBytes", "pages", "Ljava/util/List;", (.ref a2)), ("com/example/kleinmaschine/kleinmaschine/PagedBytes", "lastUsed", "I", (.int 1)), ("com/example/kleinmaschine/kleinmaschine/PagedBytes", "size", "J", (.long 1)), ("com/example/kleinmaschine/kleinmaschine/PagedBytes", "last", "[B", (.ref a3))]) (pr2 : n0 ≤ a1) (pr3 : Aw Z h0 a3 "[B" k4 .byte 65536 (updv (fun _ => (.int 0)) 0 (.int 1))) (pr4 : a3 ≠ a1) (pr5 : n0 ≤ a3) :
    MetFree l (⟨"com/example/kleinmaschine/kleinmaschine/PagedBytes", "writeNumber", "(J)V"⟩ : MethodName) (head1 (Jvm.Cond.code (⟨"com/example/kleinmaschine/kleinmaschine/PagedBytes", "writeNumber", "(J)V"⟩ : MethodName) prog_33_method_9_code 3 none :: ws) ({ frames := 3, cells := 0, slots := 0, locals := 42 } : Room)) (fun a U => a = #[(.ref a1), (.long 1)] ∧ Z.Warmed39 U.vm ∧ U.heap = h0) (fun _ _ _ _ _ => True) (fun _ U o U' => ∃ v L, o = .returned v ∧ Q_PagedBytes_writeNumber_3 Z a1 a2 a3 k4 h0 n0 v U'.heap L ∧ FrameEnd U o U' L ({ frames := 3, cells := 0, slots := 0, locals := 42 } : Room).cells ({ frames := 3, cells := 0, slots := 0, locals := 42 } : Room).slots) := by
  refine MetFree.of_bodySF (plainFor_of_name pn_PagedBytes) hisR ?_
  intro p e s m args below meth c s₁ Bd hml0 hP hK
  obtain ⟨rfl, hZ, hh⟩ := hP
  have hx := Bd.exec
  have hby := Bd.bytes
  have hml : c.maxLocals = 3 := hml0
  have hown : s.vm.findClass "com/example/kleinmaschine/kleinmaschine/PagedBytes" = some m.cls := findClass_of_methodNamed Bd.named
  have hnm := (name_of_methodNamed Bd.named Bd.method).1
  have X0 : Stand p l e ({ frames := 3, cells := 0, slots := 0, locals := 42 } : Room) s m #[(.ref a1), (.long 1)] below meth c s₁ [] 0 0 := Stand.of_body Bd
  have e0 : s₁.heap = h0 := by rw [← hh, Bd.state]; rfl
  have N0 := Fr.nil n0
  obtain ⟨G0, hG0⟩ : ∃ z, z = (mkF m 0 #[.val (.ref a1), .val (.long 1), .second] []) := ⟨_, rfl⟩
  have pre0 : ∀ t, Steps p.tables e below (s₁.setTop G0) t → Steps p.tables e below (s₁.setTop (entryFrame m #[(.ref a1), (.long 1)] 3)) t := fun t k => castTop (ef_RJ_3 m a1 ((1 : Int64))) (hG0 ▸ k)
  have k : Goes p e below s₁ G0 s₁ (mkF m 0 #[.val (.ref a1), .val (.long 1), .second] []) := fun t q => hG0 ▸ q
  replace k := Fw.lloadN k X0 hx (hb hby d_prog_33_method_9_0) rfl (pc' := 1) rfl
  replace k := Fw.aloadN k X0 hx (hb hby d_prog_33_method_9_1) rfl rfl (pc' := 2) rfl
  obtain ⟨_, _, ⟨T1, L1, kz1, nz1⟩, -, X1, ⟨Lc1, hQ1, l1, y1, z1⟩, st1⟩ := Jvm.LawKit.callS X0 hx (y := (⟨"com/example/kleinmaschine/kleinmaschine/PagedBytes", "writeNumber", "(JLjava/util/function/IntConsumer;)V"⟩ : MethodName)) hown (mvT hZ (w_128 hw)) (mvT hZ (w_129 hw)) (mvT hZ (w_19 hw)) (mvT hZ (w_130 hw)) (by decide) (backOf (W := 0) (rm_PagedBytes_writeNumber_4 l Z a0 hw [] a1 a2 a3 k4 h0 n0 O0 pr1 pr2 pr3 pr4 pr5) hZ (w_130 hw) (w_19 hw) (by decide) (by decide)) (g := (mkF m 2 #[.val (.ref a1), .val (.long 1), .second] [(.ref a1), (.long 1)])) rfl (by rw [hml]; rfl) (argsL := [(.long 1), (.ref a1)]) (rest := []) (lenOf pd_JLjava_util_function_IntConsumer_r_V rfl) rfl (by show 2 * 0 + _ ≤ _; exact Nat.le_of_eq rfl) (hb hby d_prog_33_method_9_2) (fun _ _ => ⟨rfl, e0, (by decide : 0 + 0 ≤ _), (by decide : 0 + 0 ≤ _)⟩)
  dsimp only [Pt.U, Pt.locs, Pt.cells, Pt.slots] at X1 l1 y1 z1 st1 hQ1
  subst l1 y1 z1
  obtain ⟨hv1, N1q, K1, f1_0, f1_1⟩ := hQ1
  subst hv1
  have N1 := Fr.app N0 N1q
  replace k : Goes p e below s₁ G0 T1 (mkF m 5 #[.val (.ref a1), .val (.long 1), .second] []) := fun t q => k t (st1 _ q)
  obtain ⟨fs, hr, hrun, hended, hW, hsame⟩ := X1.leave (v := none) (fun _ => rfl)
  refine ⟨_, _, pre0 _ (k _ ?_), hrun, hended, _, _, rfl, ?_, ⟨_, rfl⟩, hW, hsame.mono (by decide) (by decide)⟩
  · exact X1.returnOut hx Bd.returns (hb hby d_prog_33_method_9_5) hr
  · show Q_PagedBytes_writeNumber_3 Z a1 a2 a3 k4 h0 n0 _ T1.heap _
    exact ⟨rfl, N1, ((Keep.refl h0 [a3, a1]).trans K1 (allS (Or.inl (List.mem_of_getElem? (i := 0) rfl)) (allS (Or.inl (List.mem_of_getElem? (i := 1) rfl)) all0))), f1_0, f1_1⟩
theorem d_prog_52_method_3_334 : decode prog_52_method_3_code 334 = .ok (.aload_n 0, 1) := by decide +kernel
theorem d_prog_52_method_3_335 : decode prog_52_method_3_code 335 = .ok (.getfield 24, 3) := by decide +kernel
theorem d_prog_52_method_3_338 : decode prog_52_method_3_code 338 = .ok (.lload 5, 2) := by decide +kernel
theorem d_prog_52_method_3_340 : decode prog_52_method_3_code 340 = .ok (.invokevirtual 98, 3) := by decide +kernel
def Q_PagedBytes_write_3 (Z : State) (a1 : Addr) (a2 : Addr) (a3 : Addr) (k4 : ClassId) (h0 : Heap) (n0 : Nat) (v : Option Value) (h : Heap) (L : List Loc) : Prop := v = none ∧ Fr n0 L ∧ Keep h0 h [a3, a1] ∧ Aw Z h a3 "[B" k4 .byte 65536 (updv (updv (updv (fun _ => (.int 0)) 0 (.int 1)) 1 (.int 1)) 2 (.int 0)) ∧ Ob Z h a1 "com/example/kleinmaschine/kleinmaschine/PagedBytes" [("com/example/kleinmaschine/kleinmaschine/PagedBytes", "pages", "Ljava/util/List;", (.ref a2)), ("com/example/kleinmaschine/kleinmaschine/PagedBytes", "lastUsed", "I", (.int 3)), ("com/example/kleinmaschine/kleinmaschine/PagedBytes", "size", "J", (.long 3)), ("com/example/kleinmaschine/kleinmaschine/PagedBytes", "last", "[B", (.ref a3))]
set_option maxRecDepth 65536 in
set_option maxHeartbeats 40000000 in
theorem rm_PagedBytes_write_3 (l : Launch) (Z : State) (a0 : Array Value) (hw : ∀ d ∈ tables_1, d.before a0 Z = true) (ws : List Jvm.Cond) (a1 : Addr) (a2 : Addr) (a3 : Addr) (k4 : ClassId) (h0 : Heap) (n0 : Nat) (O0 : Old Z n0 h0) (pr1 : Ob Z h0 a1 "com/example/kleinmaschine/kleinmaschine/PagedBytes" [("com/example/kleinmaschine/kleinmaschine/PagedBytes", "pages", "Ljava/util/List;", (.ref a2)), ("com/example/kleinmaschine/kleinmaschine/PagedBytes", "lastUsed", "I", (.int 2)), ("com/example/kleinmaschine/kleinmaschine/PagedBytes", "size", "J", (.long 2)), ("com/example/kleinmaschine/kleinmaschine/PagedBytes", "last", "[B", (.ref a3))]) (pr2 : n0 ≤ a1) (pr3 : Aw Z h0 a3 "[B" k4 .byte 65536 (updv (updv (fun _ => (.int 0)) 0 (.int 1)) 1 (.int 1))) (pr4 : a3 ≠ a1) (pr5 : n0 ≤ a3) :
    MetFree l (⟨"com/example/kleinmaschine/kleinmaschine/PagedBytes", "write", "(I)V"⟩ : MethodName) (head1 (Jvm.Cond.code (⟨"com/example/kleinmaschine/kleinmaschine/PagedBytes", "write", "(I)V"⟩ : MethodName) prog_33_method_7_code 2 none :: ws) ({ frames := 0, cells := 0, slots := 0, locals := 0 } : Room)) (fun a U => a = #[(.ref a1), (.int 0)] ∧ Z.Warmed39 U.vm ∧ U.heap = h0) (fun _ _ _ _ _ => True) (fun _ U o U' => ∃ v L, o = .returned v ∧ Q_PagedBytes_write_3 Z a1 a2 a3 k4 h0 n0 v U'.heap L ∧ FrameEnd U o U' L ({ frames := 0, cells := 0, slots := 0, locals := 0 } : Room).cells ({ frames := 0, cells := 0, slots := 0, locals := 0 } : Room).slots) := by
  refine MetFree.of_bodySF (plainFor_of_name pn_PagedBytes) hisR ?_
  intro p e s m args below meth c s₁ Bd hml0 hP hK
  obtain ⟨rfl, hZ, hh⟩ := hP
  have hx := Bd.exec
  have hby := Bd.bytes
  have hml : c.maxLocals = 2 := hml0
  have hown : s.vm.findClass "com/example/kleinmaschine/kleinmaschine/PagedBytes" = some m.cls := findClass_of_methodNamed Bd.named
  have hnm := (name_of_methodNamed Bd.named Bd.method).1
  have X0 : Stand p l e ({ frames := 0, cells := 0, slots := 0, locals := 0 } : Room) s m #[(.ref a1), (.int 0)] below meth c s₁ [] 0 0 := Stand.of_body Bd
  have e0 : s₁.heap = h0 := by rw [← hh, Bd.state]; rfl
  have N0 := Fr.nil n0
  obtain ⟨G0, hG0⟩ : ∃ z, z = (mkF m 0 #[.val (.ref a1), .val (.int 0)] []) := ⟨_, rfl⟩
  have pre0 : ∀ t, Steps p.tables e below (s₁.setTop G0) t → Steps p.tables e below (s₁.setTop (entryFrame m #[(.ref a1), (.int 0)] 2)) t := fun t k => castTop (ef_RI_2 m a1 ((0 : Int32))) (hG0 ▸ k)
  have k : Goes p e below s₁ G0 s₁ (mkF m 0 #[.val (.ref a1), .val (.int 0)] []) := fun t q => hG0 ▸ q
  replace k := Fw.aloadN k X0 hx (hb hby d_prog_33_method_7_0) rfl rfl (pc' := 1) rfl
  obtain ⟨T1, X1, e1, st1⟩ := getF X0 hx hZ hown (host := "") (Or.inl (w_56 hw)) Via.refl e0 (Ob.at pr1 1 rfl) (g := (mkF m 1 #[.val (.ref a1), .val (.int 0)] [(.ref a1)])) rfl rfl (hb hby d_prog_33_method_7_1)
  replace k : Goes p e below s₁ G0 T1 (mkF m 4 #[.val (.ref a1), .val (.int 0)] [(.int 2)]) := fun t q => k t (st1 _ q)
  replace k : Goes p e below s₁ G0 T1 (mkF m 6 #[.val (.ref a1), .val (.int 0)] [(.int 65536), (.int 2)]) := fun t q => k t (X1.ldcInt hx hown (mvT hZ (w_55 hw)) (g := (mkF m 4 #[.val (.ref a1), .val (.int 0)] [(.int 2)])) rfl (hb hby d_prog_33_method_7_4) _ q)
  replace k := Fw.icmpYes k X1 hx (hb hby d_prog_33_method_7_6) (feq (show ¬ ((2 : Int32) = (65536 : Int32)) from by decide)).2 (by decide) (pc' := 36) rfl
  replace k := Fw.aloadN k X1 hx (hb hby d_prog_33_method_7_36) rfl rfl (pc' := 37) rfl
  obtain ⟨T2, X2, e2, st2⟩ := getF X1 hx hZ hown (host := "") (Or.inl (w_147 hw)) Via.refl e1 (Ob.at pr1 3 rfl) (g := (mkF m 37 #[.val (.ref a1), .val (.int 0)] [(.ref a1)])) rfl rfl (hb hby d_prog_33_method_7_37)
  replace k : Goes p e below s₁ G0 T2 (mkF m 40 #[.val (.ref a1), .val (.int 0)] [(.ref a3)]) := fun t q => k t (st2 _ q)
  replace k := Fw.aloadN k X2 hx (hb hby d_prog_33_method_7_40) rfl rfl (pc' := 41) rfl
  replace k := Fw.dup k X2 hx (hb hby d_prog_33_method_7_41) rfl (pc' := 42) rfl
  obtain ⟨T3, X3, e3, st3⟩ := getF X2 hx hZ hown (host := "") (Or.inl (w_56 hw)) Via.refl e2 (Ob.at pr1 1 rfl) (g := (mkF m 42 #[.val (.ref a1), .val (.int 0)] [(.ref a1), (.ref a1), (.ref a3)])) rfl rfl (hb hby d_prog_33_method_7_42)
  replace k : Goes p e below s₁ G0 T3 (mkF m 45 #[.val (.ref a1), .val (.int 0)] [(.int 2), (.ref a1), (.ref a3)]) := fun t q => k t (st3 _ q)
  replace k := Fw.dupX1 k X3 hx (hb hby d_prog_33_method_7_45) rfl rfl (pc' := 46) rfl
  replace k := Fw.iconst k X3 hx (hb hby d_prog_33_method_7_46) (z := (1 : Int32)) (by decide) (pc' := 47) rfl
  replace k := Fw.iadd k X3 hx (hb hby d_prog_33_method_7_47) (z := (3 : Int32)) (by decide) (pc' := 48) rfl
  obtain ⟨T4, h4, X4, e4, W4, st4⟩ := putF X3 hx hZ hown (host := "") (Or.inl (w_56 hw)) Via.refl e3 (Ob.at pr1 1 rfl) pr1.exa (Or.inl (w_57 hw)) (w_18 hw) (ty := .int) (by decide +kernel) rfl rfl (g := (mkF m 48 #[.val (.ref a1), .val (.int 0)] [(.int 3), (.ref a1), (.int 2), (.ref a3)])) rfl rfl (hb hby d_prog_33_method_7_48)
  have N4 := Fr.snoc X4 N0 pr2
  have O4 : Ob Z h4 a1 "com/example/kleinmaschine/kleinmaschine/PagedBytes" [("com/example/kleinmaschine/kleinmaschine/PagedBytes", "pages", "Ljava/util/List;", (.ref a2)), ("com/example/kleinmaschine/kleinmaschine/PagedBytes", "lastUsed", "I", (.int 3)), ("com/example/kleinmaschine/kleinmaschine/PagedBytes", "size", "J", (.long 2)), ("com/example/kleinmaschine/kleinmaschine/PagedBytes", "last", "[B", (.ref a3))] := Ob.put pr1 (lay_PagedBytes hw) 1 rfl W4
  replace k : Goes p e below s₁ G0 T4 (mkF m 51 #[.val (.ref a1), .val (.int 0)] [(.int 2), (.ref a3)]) := fun t q => k t (st4 _ q)
  replace k := Fw.iloadN k X4 hx (hb hby d_prog_33_method_7_51) rfl (pc' := 52) rfl
  replace k := Fw.i2b k X4 hx (hb hby d_prog_33_method_7_52) (z := (0 : Int32)) (by decide) (pc' := 53) rfl
  have fc5 := (pr3.other W4 pr4)
  obtain ⟨cl6, Ar6, hin6, -, kq6, -⟩ := Aw.open fc5 (j := (2 : Int32)) 2 (by decide) (by decide) (by decide)
  obtain ⟨T6, h6, X6, e6, W6, st6⟩ := stB X4 hx hZ e4 Ar6 (j := (2 : Int32)) hin6 (g := (mkF m 53 #[.val (.ref a1), .val (.int 0)] [(.int 0), (.int 2), (.ref a3)])) rfl rfl (hb hby d_prog_33_method_7_53)
  have N6 := Fr.snoc X6 N4 pr5
  have V6 : Aw Z h6 a3 "[B" k4 .byte 65536 (updv (updv (updv (fun _ => (.int 0)) 0 (.int 1)) 1 (.int 1)) 2 (.int 0)) := Aw.set fc5 W6 2 (by decide) (by decide)
  replace k : Goes p e below s₁ G0 T6 (mkF m 54 #[.val (.ref a1), .val (.int 0)] []) := fun t q => k t (st6 _ q)
  replace k := Fw.aloadN k X6 hx (hb hby d_prog_33_method_7_54) rfl rfl (pc' := 55) rfl
  replace k := Fw.dup k X6 hx (hb hby d_prog_33_method_7_55) rfl (pc' := 56) rfl
  have fc7 := (O4.other W6 (Ne.symm pr4))
  obtain ⟨T8, X8, e8, st8⟩ := getF X6 hx hZ hown (host := "") (Or.inl (w_112 hw)) Via.refl e6 (Ob.at fc7 2 rfl) (g := (mkF m 56 #[.val (.ref a1), .val (.int 0)] [(.ref a1), (.ref a1)])) rfl rfl (hb hby d_prog_33_method_7_56)
  replace k : Goes p e below s₁ G0 T8 (mkF m 59 #[.val (.ref a1), .val (.int 0)] [(.long 2), (.ref a1)]) := fun t q => k t (st8 _ q)
  replace k := Fw.lconst k X8 hx (hb hby d_prog_33_method_7_59) (z := (1 : Int64)) (by decide) (pc' := 60) rfl
  replace k := Fw.ladd k X8 hx (hb hby d_prog_33_method_7_60) (z := (3 : Int64)) (by decide) (pc' := 61) rfl
  obtain ⟨T9, h9, X9, e9, W9, st9⟩ := putF X8 hx hZ hown (host := "") (Or.inl (w_112 hw)) Via.refl e8 (Ob.at fc7 2 rfl) fc7.exa (Or.inl (w_113 hw)) (w_18 hw) (ty := .long) (by decide +kernel) rfl rfl (g := (mkF m 61 #[.val (.ref a1), .val (.int 0)] [(.long 3), (.ref a1)])) rfl rfl (hb hby d_prog_33_method_7_61)
  have N9 := Fr.snoc X9 N6 pr2
  have O9 : Ob Z h9 a1 "com/example/kleinmaschine/kleinmaschine/PagedBytes" [("com/example/kleinmaschine/kleinmaschine/PagedBytes", "pages", "Ljava/util/List;", (.ref a2)), ("com/example/kleinmaschine/kleinmaschine/PagedBytes", "lastUsed", "I", (.int 3)), ("com/example/kleinmaschine/kleinmaschine/PagedBytes", "size", "J", (.long 3)), ("com/example/kleinmaschine/kleinmaschine/PagedBytes", "last", "[B", (.ref a3))] := Ob.put fc7 (lay_PagedBytes hw) 2 rfl W9
  replace k : Goes p e below s₁ G0 T9 (mkF m 64 #[.val (.ref a1), .val (.int 0)] []) := fun t q => k t (st9 _ q)
  obtain ⟨fs, hr, hrun, hended, hW, hsame⟩ := X9.leave (v := none) (fun _ => rfl)
  refine ⟨_, _, pre0 _ (k _ ?_), hrun, hended, _, _, rfl, ?_, ⟨_, rfl⟩, hW, hsame.mono (by decide) (by decide)⟩
  · exact X9.returnOut hx Bd.returns (hb hby d_prog_33_method_7_64) hr
  · show Q_PagedBytes_write_3 Z a1 a2 a3 k4 h0 n0 _ T9.heap _
    rw [e9]
    exact ⟨rfl, N9, ((((Keep.refl h0 [a3, a1]).wr W4 (Or.inl (List.mem_of_getElem? (i := 1) rfl))).wr W6 (Or.inl (List.mem_of_getElem? (i := 0) rfl))).wr W9 (Or.inl (List.mem_of_getElem? (i := 1) rfl))), (V6.other W9 pr4), O9⟩
def Q_PagedBytes_accept_3 (Z : State) (a1 : Addr) (a2 : Addr) (a3 : Addr) (k4 : ClassId) (h0 : Heap) (n0 : Nat) (v : Option Value) (h : Heap) (L : List Loc) : Prop := v = none ∧ Fr n0 L ∧ Keep h0 h [a3, a1] ∧ Aw Z h a3 "[B" k4 .byte 65536 (updv (updv (updv (fun _ => (.int 0)) 0 (.int 1)) 1 (.int 1)) 2 (.int 0)) ∧ Ob Z h a1 "com/example/kleinmaschine/kleinmaschine/PagedBytes" [("com/example/kleinmaschine/kleinmaschine/PagedBytes", "pages", "Ljava/util/List;", (.ref a2)), ("com/example/kleinmaschine/kleinmaschine/PagedBytes", "lastUsed", "I", (.int 3)), ("com/example/kleinmaschine/kleinmaschine/PagedBytes", "size", "J", (.long 3)), ("com/example/kleinmaschine/kleinmaschine/PagedBytes", "last", "[B", (.ref a3))]
set_option maxRecDepth 65536 in
set_option maxHeartbeats 40000000 in
theorem rm_PagedBytes_accept_3 (l : Launch) (Z : State) (a0 : Array Value) (hw : ∀ d ∈ tables_1, d.before a0 Z = true) (ws : List Jvm.Cond) (a1 : Addr) (a2 : Addr) (a3 : Addr) (k4 : ClassId) (h0 : Heap) (n0 : Nat) (O0 : Old Z n0 h0) (pr1 : Ob Z h0 a1 "com/example/kleinmaschine/kleinmaschine/PagedBytes" [("com/example/kleinmaschine/kleinmaschine/PagedBytes", "pages", "Ljava/util/List;", (.ref a2)), ("com/example/kleinmaschine/kleinmaschine/PagedBytes", "lastUsed", "I", (.int 2)), ("com/example/kleinmaschine/kleinmaschine/PagedBytes", "size", "J", (.long 2)), ("com/example/kleinmaschine/kleinmaschine/PagedBytes", "last", "[B", (.ref a3))]) (pr2 : n0 ≤ a1) (pr3 : Aw Z h0 a3 "[B" k4 .byte 65536 (updv (updv (fun _ => (.int 0)) 0 (.int 1)) 1 (.int 1))) (pr4 : a3 ≠ a1) (pr5 : n0 ≤ a3) :
    MetFree l (⟨"com/example/kleinmaschine/kleinmaschine/PagedBytes", "accept", "(I)V"⟩ : MethodName) (head1 (Jvm.Cond.code (⟨"com/example/kleinmaschine/kleinmaschine/PagedBytes", "accept", "(I)V"⟩ : MethodName) prog_33_method_6_code 2 none :: ws) ({ frames := 1, cells := 0, slots := 0, locals := 13 } : Room)) (fun a U => a = #[(.ref a1), (.int 0)] ∧ Z.Warmed39 U.vm ∧ U.heap = h0) (fun _ _ _ _ _ => True) (fun _ U o U' => ∃ v L, o = .returned v ∧ Q_PagedBytes_accept_3 Z a1 a2 a3 k4 h0 n0 v U'.heap L ∧ FrameEnd U o U' L ({ frames := 1, cells := 0, slots := 0, locals := 13 } : Room).cells ({ frames := 1, cells := 0, slots := 0, locals := 13 } : Room).slots) := by
  refine MetFree.of_bodySF (plainFor_of_name pn_PagedBytes) hisR ?_
  intro p e s m args below meth c s₁ Bd hml0 hP hK
  obtain ⟨rfl, hZ, hh⟩ := hP
  have hx := Bd.exec
  have hby := Bd.bytes
  have hml : c.maxLocals = 2 := hml0
  have hown : s.vm.findClass "com/example/kleinmaschine/kleinmaschine/PagedBytes" = some m.cls := findClass_of_methodNamed Bd.named
  have hnm := (name_of_methodNamed Bd.named Bd.method).1
  have X0 : Stand p l e ({ frames := 1, cells := 0, slots := 0, locals := 13 } : Room) s m #[(.ref a1), (.int 0)] below meth c s₁ [] 0 0 := Stand.of_body Bd
  have e0 : s₁.heap = h0 := by rw [← hh, Bd.state]; rfl
  have N0 := Fr.nil n0
  obtain ⟨G0, hG0⟩ : ∃ z, z = (mkF m 0 #[.val (.ref a1), .val (.int 0)] []) := ⟨_, rfl⟩
  have pre0 : ∀ t, Steps p.tables e below (s₁.setTop G0) t → Steps p.tables e below (s₁.setTop (entryFrame m #[(.ref a1), (.int 0)] 2)) t := fun t k => castTop (ef_RI_2 m a1 ((0 : Int32))) (hG0 ▸ k)
  have k : Goes p e below s₁ G0 s₁ (mkF m 0 #[.val (.ref a1), .val (.int 0)] []) := fun t q => hG0 ▸ q
  replace k := Fw.aloadN k X0 hx (hb hby d_prog_33_method_6_0) rfl rfl (pc' := 1) rfl
  replace k := Fw.iloadN k X0 hx (hb hby d_prog_33_method_6_1) rfl (pc' := 2) rfl
  obtain ⟨cq1, kq1, q1a, q1b, q1c⟩ := isOf hZ e0 pr1.exa
  obtain ⟨_, _, ⟨T1, L1, kz1, nz1⟩, -, X1, ⟨Lc1, hQ1, l1, y1, z1⟩, st1⟩ := X0.virtualBack hx (y := (⟨"com/example/kleinmaschine/kleinmaschine/PagedBytes", "write", "(I)V"⟩ : MethodName)) (z := (⟨"com/example/kleinmaschine/kleinmaschine/PagedBytes", "write", "(I)V"⟩ : MethodName)) hown (mvT hZ (w_141 hw)) (mvT hZ (w_142 hw)) (notFace_of_selects (args := #[]) (mvT hZ (w_144 hw))) (mvT hZ (w_144 hw)) (mvT hZ (w_143 hw)) (by decide) (backOf (W := 0) (rm_PagedBytes_write_3 l Z a0 hw [] a1 a2 a3 k4 h0 n0 O0 pr1 pr2 pr3 pr4 pr5) hZ (w_145 hw) (w_19 hw) (by decide) (by decide)) q1a q1c (g := (mkF m 2 #[.val (.ref a1), .val (.int 0)] [(.int 0), (.ref a1)])) rfl (by rw [hml]; rfl) (Steps.refl _) (argsL := [(.int 0)]) (rest := []) (lenOf pd_I_r_V rfl) rfl (by show 2 * 0 + _ ≤ _; exact Nat.le_of_eq rfl) (hb hby d_prog_33_method_6_2) (fun _ _ => ⟨rfl, e0, (by decide : 0 + 0 ≤ _), (by decide : 0 + 0 ≤ _)⟩)
  dsimp only [Pt.U, Pt.locs, Pt.cells, Pt.slots] at X1 l1 y1 z1 st1 hQ1
  subst l1 y1 z1
  obtain ⟨hv1, N1q, K1, f1_0, f1_1⟩ := hQ1
  subst hv1
  have N1 := Fr.app N0 N1q
  replace k : Goes p e below s₁ G0 T1 (mkF m 5 #[.val (.ref a1), .val (.int 0)] []) := fun t q => k t (st1.trans q)
  obtain ⟨fs, hr, hrun, hended, hW, hsame⟩ := X1.leave (v := none) (fun _ => rfl)
  refine ⟨_, _, pre0 _ (k _ ?_), hrun, hended, _, _, rfl, ?_, ⟨_, rfl⟩, hW, hsame.mono (by decide) (by decide)⟩
  · exact X1.returnOut hx Bd.returns (hb hby d_prog_33_method_6_5) hr
  · show Q_PagedBytes_accept_3 Z a1 a2 a3 k4 h0 n0 _ T1.heap _
    exact ⟨rfl, N1, ((Keep.refl h0 [a3, a1]).trans K1 (allS (Or.inl (List.mem_of_getElem? (i := 0) rfl)) (allS (Or.inl (List.mem_of_getElem? (i := 1) rfl)) all0))), f1_0, f1_1⟩
def Q_PagedBytes_writeNumber_6 (Z : State) (a1 : Addr) (a2 : Addr) (a3 : Addr) (k4 : ClassId) (h0 : Heap) (n0 : Nat) (v : Option Value) (h : Heap) (L : List Loc) : Prop := v = none ∧ Fr n0 L ∧ Keep h0 h [a3, a1] ∧ Aw Z h a3 "[B" k4 .byte 65536 (updv (updv (updv (fun _ => (.int 0)) 0 (.int 1)) 1 (.int 1)) 2 (.int 0)) ∧ Ob Z h a1 "com/example/kleinmaschine/kleinmaschine/PagedBytes" [("com/example/kleinmaschine/kleinmaschine/PagedBytes", "pages", "Ljava/util/List;", (.ref a2)), ("com/example/kleinmaschine/kleinmaschine/PagedBytes", "lastUsed", "I", (.int 3)), ("com/example/kleinmaschine/kleinmaschine/PagedBytes", "size", "J", (.long 3)), ("com/example/kleinmaschine/kleinmaschine/PagedBytes", "last", "[B", (.ref a3))]
set_option maxRecDepth 65536 in
set_option maxHeartbeats 40000000 in
theorem rm_PagedBytes_writeNumber_6 (l : Launch) (Z : State) (a0 : Array Value) (hw : ∀ d ∈ tables_1, d.before a0 Z = true) (ws : List Jvm.Cond) (a1 : Addr) (a2 : Addr) (a3 : Addr) (k4 : ClassId) (h0 : Heap) (n0 : Nat) (O0 : Old Z n0 h0) (pr1 : Ob Z h0 a1 "com/example/kleinmaschine/kleinmaschine/PagedBytes" [("com/example/kleinmaschine/kleinmaschine/PagedBytes", "pages", "Ljava/util/List;", (.ref a2)), ("com/example/kleinmaschine/kleinmaschine/PagedBytes", "lastUsed", "I", (.int 2)), ("com/example/kleinmaschine/kleinmaschine/PagedBytes", "size", "J", (.long 2)), ("com/example/kleinmaschine/kleinmaschine/PagedBytes", "last", "[B", (.ref a3))]) (pr2 : n0 ≤ a1) (pr3 : Aw Z h0 a3 "[B" k4 .byte 65536 (updv (updv (fun _ => (.int 0)) 0 (.int 1)) 1 (.int 1))) (pr4 : a3 ≠ a1) (pr5 : n0 ≤ a3) :
    MetFree l (⟨"com/example/kleinmaschine/kleinmaschine/PagedBytes", "writeNumber", "(JLjava/util/function/IntConsumer;)V"⟩ : MethodName) (head1 (Jvm.Cond.code (⟨"com/example/kleinmaschine/kleinmaschine/PagedBytes", "writeNumber", "(JLjava/util/function/IntConsumer;)V"⟩ : MethodName) prog_33_method_2_code 5 none :: ws) ({ frames := 2, cells := 0, slots := 0, locals := 26 } : Room)) (fun a U => a = #[(.long 0), (.ref a1)] ∧ Z.Warmed39 U.vm ∧ U.heap = h0) (fun _ _ _ _ _ => True) (fun _ U o U' => ∃ v L, o = .returned v ∧ Q_PagedBytes_writeNumber_6 Z a1 a2 a3 k4 h0 n0 v U'.heap L ∧ FrameEnd U o U' L ({ frames := 2, cells := 0, slots := 0, locals := 26 } : Room).cells ({ frames := 2, cells := 0, slots := 0, locals := 26 } : Room).slots) := by
  refine MetFree.of_bodySF (plainFor_of_name pn_PagedBytes) hisR ?_
  intro p e s m args below meth c s₁ Bd hml0 hP hK
  obtain ⟨rfl, hZ, hh⟩ := hP
  have hx := Bd.exec
  have hby := Bd.bytes
  have hml : c.maxLocals = 5 := hml0
  have hown : s.vm.findClass "com/example/kleinmaschine/kleinmaschine/PagedBytes" = some m.cls := findClass_of_methodNamed Bd.named
  have hnm := (name_of_methodNamed Bd.named Bd.method).1
  have X0 : Stand p l e ({ frames := 2, cells := 0, slots := 0, locals := 26 } : Room) s m #[(.long 0), (.ref a1)] below meth c s₁ [] 0 0 := Stand.of_body Bd
  have e0 : s₁.heap = h0 := by rw [← hh, Bd.state]; rfl
  have N0 := Fr.nil n0
  obtain ⟨G0, hG0⟩ : ∃ z, z = (mkF m 0 #[.val (.long 0), .second, .val (.ref a1), .unset, .unset] []) := ⟨_, rfl⟩
  have pre0 : ∀ t, Steps p.tables e below (s₁.setTop G0) t → Steps p.tables e below (s₁.setTop (entryFrame m #[(.long 0), (.ref a1)] 5)) t := fun t k => castTop (ef_JR_5 m ((0 : Int64)) a1) (hG0 ▸ k)
  have k : Goes p e below s₁ G0 s₁ (mkF m 0 #[.val (.long 0), .second, .val (.ref a1), .unset, .unset] []) := fun t q => hG0 ▸ q
  replace k := Fw.lloadN k X0 hx (hb hby d_prog_33_method_2_0) rfl (pc' := 1) rfl
  replace k := Fw.lstoreN k X0 hx (hb hby d_prog_33_method_2_1)  (Ls' := #[.val (.long 0), .second, .val (.ref a1), .val (.long 0), .second]) rfl (pc' := 2) rfl
  replace k := Fw.lloadN k X0 hx (hb hby d_prog_33_method_2_2) rfl (pc' := 3) rfl
  replace k : Goes p e below s₁ G0 s₁ (mkF m 6 #[.val (.long 0), .second, .val (.ref a1), .val (.long 0), .second] [(.long (-128)), (.long 0)]) := fun t q => k t (X0.ldc2Long hx hown (mvT hZ (w_131 hw)) (g := (mkF m 3 #[.val (.long 0), .second, .val (.ref a1), .val (.long 0), .second] [(.long 0)])) rfl (hb hby d_prog_33_method_2_3) _ q)
  replace k := Fw.land k X0 hx (hb hby d_prog_33_method_2_6) (z := (0 : Int64)) (by decide) (pc' := 7) rfl
  replace k := Fw.lconst k X0 hx (hb hby d_prog_33_method_2_7) (z := (0 : Int64)) (by decide) (pc' := 8) rfl
  replace k : Goes p e below s₁ G0 s₁ (mkF m 9 #[.val (.long 0), .second, .val (.ref a1), .val (.long 0), .second] [(.int 0)]) := Fw.lcmp k X0 hx (hb hby d_prog_33_method_2_8) rfl
  replace k := Fw.ifYes k X0 hx (hb hby d_prog_33_method_2_9) ((if0 _ _).trans (teq (show (0 : Int32) = (0 : Int32) from by decide)).1) (by decide) (pc' := 36) rfl
  replace k := Fw.aloadN k X0 hx (hb hby d_prog_33_method_2_36) rfl rfl (pc' := 37) rfl
  replace k := Fw.lloadN k X0 hx (hb hby d_prog_33_method_2_37) rfl (pc' := 38) rfl
  replace k := Fw.l2i k X0 hx (hb hby d_prog_33_method_2_38) (z := (0 : Int32)) (by decide) (pc' := 39) rfl
  obtain ⟨cq1, kq1, q1a, q1b, q1c⟩ := isOf hZ e0 pr1.exa
  obtain ⟨_, _, ⟨T1, L1, kz1, nz1⟩, -, X1, ⟨Lc1, hQ1, l1, y1, z1⟩, st1⟩ := X0.interfaceBack hx (xi := (⟨"java/util/function/IntConsumer", "accept", "(I)V"⟩ : MethodName)) (y := (⟨"com/example/kleinmaschine/kleinmaschine/PagedBytes", "accept", "(I)V"⟩ : MethodName)) hown (mvT hZ (w_132 hw)) (mvT hZ (w_133 hw)) (mvT hZ (w_134 hw)) (mvT hZ (w_135 hw)) (mvT hZ (w_136 hw)) (mvT hZ (w_137 hw)) (mvT hZ (w_138 hw)) (mvT hZ (w_139 hw)) (by decide) (backOf (W := 0) (rm_PagedBytes_accept_3 l Z a0 hw [] a1 a2 a3 k4 h0 n0 O0 pr1 pr2 pr3 pr4 pr5) hZ (w_140 hw) (w_19 hw) (by decide) (by decide)) q1a q1b q1c (g := (mkF m 39 #[.val (.long 0), .second, .val (.ref a1), .val (.long 0), .second] [(.int 0), (.ref a1)])) rfl (by rw [hml]; rfl) (Steps.refl _) (argsL := [(.int 0)]) (rest := []) (lenOf pd_I_r_V rfl) rfl (by show 2 * 0 + _ ≤ _; exact Nat.le_of_eq rfl) (hb hby d_prog_33_method_2_39) (fun _ _ => ⟨rfl, e0, (by decide : 0 + 0 ≤ _), (by decide : 0 + 0 ≤ _)⟩)
  dsimp only [Pt.U, Pt.locs, Pt.cells, Pt.slots] at X1 l1 y1 z1 st1 hQ1
  subst l1 y1 z1
  obtain ⟨hv1, N1q, K1, f1_0, f1_1⟩ := hQ1
  subst hv1
  have N1 := Fr.app N0 N1q
  replace k : Goes p e below s₁ G0 T1 (mkF m 44 #[.val (.long 0), .second, .val (.ref a1), .val (.long 0), .second] []) := fun t q => k t (st1.trans q)
  obtain ⟨fs, hr, hrun, hended, hW, hsame⟩ := X1.leave (v := none) (fun _ => rfl)
  refine ⟨_, _, pre0 _ (k _ ?_), hrun, hended, _, _, rfl, ?_, ⟨_, rfl⟩, hW, hsame.mono (by decide) (by decide)⟩
  · exact X1.returnOut hx Bd.returns (hb hby d_prog_33_method_2_44) hr
  · show Q_PagedBytes_writeNumber_6 Z a1 a2 a3 k4 h0 n0 _ T1.heap _
    exact ⟨rfl, N1, ((Keep.refl h0 [a3, a1]).trans K1 (allS (Or.inl (List.mem_of_getElem? (i := 0) rfl)) (allS (Or.inl (List.mem_of_getElem? (i := 1) rfl)) all0))), f1_0, f1_1⟩
def Q_PagedBytes_writeNumber_5 (Z : State) (a1 : Addr) (a2 : Addr) (a3 : Addr) (k4 : ClassId) (h0 : Heap) (n0 : Nat) (v : Option Value) (h : Heap) (L : List Loc) : Prop := v = none ∧ Fr n0 L ∧ Keep h0 h [a3, a1] ∧ Aw Z h a3 "[B" k4 .byte 65536 (updv (updv (updv (fun _ => (.int 0)) 0 (.int 1)) 1 (.int 1)) 2 (.int 0)) ∧ Ob Z h a1 "com/example/kleinmaschine/kleinmaschine/PagedBytes" [("com/example/kleinmaschine/kleinmaschine/PagedBytes", "pages", "Ljava/util/List;", (.ref a2)), ("com/example/kleinmaschine/kleinmaschine/PagedBytes", "lastUsed", "I", (.int 3)), ("com/example/kleinmaschine/kleinmaschine/PagedBytes", "size", "J", (.long 3)), ("com/example/kleinmaschine/kleinmaschine/PagedBytes", "last", "[B", (.ref a3))]
set_option maxRecDepth 65536 in
set_option maxHeartbeats 40000000 in
theorem rm_PagedBytes_writeNumber_5 (l : Launch) (Z : State) (a0 : Array Value) (hw : ∀ d ∈ tables_1, d.before a0 Z = true) (ws : List Jvm.Cond) (a1 : Addr) (a2 : Addr) (a3 : Addr) (k4 : ClassId) (h0 : Heap) (n0 : Nat) (O0 : Old Z n0 h0) (pr1 : Ob Z h0 a1 "com/example/kleinmaschine/kleinmaschine/PagedBytes" [("com/example/kleinmaschine/kleinmaschine/PagedBytes", "pages", "Ljava/util/List;", (.ref a2)), ("com/example/kleinmaschine/kleinmaschine/PagedBytes", "lastUsed", "I", (.int 2)), ("com/example/kleinmaschine/kleinmaschine/PagedBytes", "size", "J", (.long 2)), ("com/example/kleinmaschine/kleinmaschine/PagedBytes", "last", "[B", (.ref a3))]) (pr2 : n0 ≤ a1) (pr3 : Aw Z h0 a3 "[B" k4 .byte 65536 (updv (updv (fun _ => (.int 0)) 0 (.int 1)) 1 (.int 1))) (pr4 : a3 ≠ a1) (pr5 : n0 ≤ a3) :
    MetFree l (⟨"com/example/kleinmaschine/kleinmaschine/PagedBytes", "writeNumber", "(J)V"⟩ : MethodName) (head1 (Jvm.Cond.code (⟨"com/example/kleinmaschine/kleinmaschine/PagedBytes", "writeNumber", "(J)V"⟩ : MethodName) prog_33_method_9_code 3 none :: ws) ({ frames := 3, cells := 0, slots := 0, locals := 42 } : Room)) (fun a U => a = #[(.ref a1), (.long 0)] ∧ Z.Warmed39 U.vm ∧ U.heap = h0) (fun _ _ _ _ _ => True) (fun _ U o U' => ∃ v L, o = .returned v ∧ Q_PagedBytes_writeNumber_5 Z a1 a2 a3 k4 h0 n0 v U'.heap L ∧ FrameEnd U o U' L ({ frames := 3, cells := 0, slots := 0, locals := 42 } : Room).cells ({ frames := 3, cells := 0, slots := 0, locals := 42 } : Room).slots) := by
  refine MetFree.of_bodySF (plainFor_of_name pn_PagedBytes) hisR ?_
  intro p e s m args below meth c s₁ Bd hml0 hP hK
  obtain ⟨rfl, hZ, hh⟩ := hP
  have hx := Bd.exec
  have hby := Bd.bytes
  have hml : c.maxLocals = 3 := hml0
  have hown : s.vm.findClass "com/example/kleinmaschine/kleinmaschine/PagedBytes" = some m.cls := findClass_of_methodNamed Bd.named
  have hnm := (name_of_methodNamed Bd.named Bd.method).1
  have X0 : Stand p l e ({ frames := 3, cells := 0, slots := 0, locals := 42 } : Room) s m #[(.ref a1), (.long 0)] below meth c s₁ [] 0 0 := Stand.of_body Bd
  have e0 : s₁.heap = h0 := by rw [← hh, Bd.state]; rfl
  have N0 := Fr.nil n0
  obtain ⟨G0, hG0⟩ : ∃ z, z = (mkF m 0 #[.val (.ref a1), .val (.long 0), .second] []) := ⟨_, rfl⟩
  have pre0 : ∀ t, Steps p.tables e below (s₁.setTop G0) t → Steps p.tables e below (s₁.setTop (entryFrame m #[(.ref a1), (.long 0)] 3)) t := fun t k => castTop (ef_RJ_3 m a1 ((0 : Int64))) (hG0 ▸ k)
  have k : Goes p e below s₁ G0 s₁ (mkF m 0 #[.val (.ref a1), .val (.long 0), .second] []) := fun t q => hG0 ▸ q
  replace k := Fw.lloadN k X0 hx (hb hby d_prog_33_method_9_0) rfl (pc' := 1) rfl
  replace k := Fw.aloadN k X0 hx (hb hby d_prog_33_method_9_1) rfl rfl (pc' := 2) rfl
  obtain ⟨_, _, ⟨T1, L1, kz1, nz1⟩, -, X1, ⟨Lc1, hQ1, l1, y1, z1⟩, st1⟩ := Jvm.LawKit.callS X0 hx (y := (⟨"com/example/kleinmaschine/kleinmaschine/PagedBytes", "writeNumber", "(JLjava/util/function/IntConsumer;)V"⟩ : MethodName)) hown (mvT hZ (w_128 hw)) (mvT hZ (w_129 hw)) (mvT hZ (w_19 hw)) (mvT hZ (w_130 hw)) (by decide) (backOf (W := 0) (rm_PagedBytes_writeNumber_6 l Z a0 hw [] a1 a2 a3 k4 h0 n0 O0 pr1 pr2 pr3 pr4 pr5) hZ (w_130 hw) (w_19 hw) (by decide) (by decide)) (g := (mkF m 2 #[.val (.ref a1), .val (.long 0), .second] [(.ref a1), (.long 0)])) rfl (by rw [hml]; rfl) (argsL := [(.long 0), (.ref a1)]) (rest := []) (lenOf pd_JLjava_util_function_IntConsumer_r_V rfl) rfl (by show 2 * 0 + _ ≤ _; exact Nat.le_of_eq rfl) (hb hby d_prog_33_method_9_2) (fun _ _ => ⟨rfl, e0, (by decide : 0 + 0 ≤ _), (by decide : 0 + 0 ≤ _)⟩)
  dsimp only [Pt.U, Pt.locs, Pt.cells, Pt.slots] at X1 l1 y1 z1 st1 hQ1
  subst l1 y1 z1
  obtain ⟨hv1, N1q, K1, f1_0, f1_1⟩ := hQ1
  subst hv1
  have N1 := Fr.app N0 N1q
  replace k : Goes p e below s₁ G0 T1 (mkF m 5 #[.val (.ref a1), .val (.long 0), .second] []) := fun t q => k t (st1 _ q)
  obtain ⟨fs, hr, hrun, hended, hW, hsame⟩ := X1.leave (v := none) (fun _ => rfl)
  refine ⟨_, _, pre0 _ (k _ ?_), hrun, hended, _, _, rfl, ?_, ⟨_, rfl⟩, hW, hsame.mono (by decide) (by decide)⟩
  · exact X1.returnOut hx Bd.returns (hb hby d_prog_33_method_9_5) hr
  · show Q_PagedBytes_writeNumber_5 Z a1 a2 a3 k4 h0 n0 _ T1.heap _
    exact ⟨rfl, N1, ((Keep.refl h0 [a3, a1]).trans K1 (allS (Or.inl (List.mem_of_getElem? (i := 0) rfl)) (allS (Or.inl (List.mem_of_getElem? (i := 1) rfl)) all0))), f1_0, f1_1⟩
theorem d_prog_52_method_3_343 : decode prog_52_method_3_code 343 = .ok (.aload_n 0, 1) := by decide +kernel
theorem d_prog_52_method_3_344 : decode prog_52_method_3_code 344 = .ok (.aload 4, 2) := by decide +kernel
theorem d_prog_52_method_3_346 : decode prog_52_method_3_code 346 = .ok (.invokevirtual 93, 3) := by decide +kernel
theorem d_prog_52_method_3_349 : decode prog_52_method_3_code 349 = .ok (.putfield 86, 3) := by decide +kernel
theorem d_prog_52_method_3_352 : decode prog_52_method_3_code 352 = .ok (.aload_n 0, 1) := by decide +kernel
theorem d_prog_52_method_3_353 : decode prog_52_method_3_code 353 = .ok (.aload 4, 2) := by decide +kernel
theorem d_prog_52_method_3_355 : decode prog_52_method_3_code 355 = .ok (.invokevirtual 102, 3) := by decide +kernel
theorem d_prog_52_method_3_358 : decode prog_52_method_3_code 358 = .ok (.putfield 90, 3) := by decide +kernel
theorem d_prog_52_method_3_361 : decode prog_52_method_3_code 361 = .ok (.aload_n 0, 1) := by decide +kernel
theorem d_prog_52_method_3_362 : decode prog_52_method_3_code 362 = .ok (.dup, 1) := by decide +kernel
theorem d_prog_52_method_3_363 : decode prog_52_method_3_code 363 = .ok (.getfield 52, 3) := by decide +kernel
theorem d_prog_52_method_3_366 : decode prog_52_method_3_code 366 = .ok (.dup_x1, 1) := by decide +kernel
theorem d_prog_52_method_3_367 : decode prog_52_method_3_code 367 = .ok (.iconst 1, 1) := by decide +kernel
theorem d_prog_52_method_3_368 : decode prog_52_method_3_code 368 = .ok (.iadd, 1) := by decide +kernel
theorem d_prog_52_method_3_369 : decode prog_52_method_3_code 369 = .ok (.putfield 52, 3) := by decide +kernel
theorem d_prog_52_method_3_372 : decode prog_52_method_3_code 372 = .ok (.ireturn, 1) := by decide +kernel
theorem ef_RIJRJ_10 (m : MethodId) (x0 : Addr) (x1 : Int32) (x2 : Int64) (x3 : Addr) (x4 : Int64) : entryFrame m #[(.ref x0), (.int x1), (.long x2), (.ref x3), (.long x4)] 10 = mkF m 0 #[.val (.ref x0), .val (.int x1), .val (.long x2), .second, .val (.ref x3), .val (.long x4), .second, .unset, .unset, .unset] [] := by first | (simp [entryFrame, mkF, argsToLocals, Value.category]; done) | rfl
def Q_Statements_add_1 (Z : State) (a1 : Addr) (q2 : Int64) (a3 : Addr) (a4 : Addr) (a5 : Addr) (a6 : Addr) (a7 : Addr) (a8 : Addr) (a9 : Addr) (a10 : Addr) (k11 : ClassId) (k12 : ClassId) (k13 : ClassId) (k14 : ClassId) (a15 : Addr) (k16 : ClassId) (k17 : ClassId) (w_DE : Addr) (kW_DE : ClassId) (h0 : Heap) (n0 : Nat) (v : Option Value) (h : Heap) (L : List Loc) : Prop := ∃ (b14 : Addr) (b2_1_1_1_68 : Addr) (b20 : Addr) (b6_2_2_5_7_1_1_1_68 : Addr) (b9 : Addr) (kA14 : ClassId) (kA2_1_1_1_68 : ClassId) (kA20 : ClassId) (kA6_2_2_5_7_1_1_1_68 : ClassId) (kA9 : ClassId), v = some (.int 0) ∧ Fr n0 L ∧ Keep h0 h [a8, a10, a5, a7, a9, a6, a15, a1, a4] ∧ h0.size ≤ b14 ∧ h0.size ≤ b2_1_1_1_68 ∧ h0.size ≤ b20 ∧ h0.size ≤ b6_2_2_5_7_1_1_1_68 ∧ h0.size ≤ b9 ∧ b2_1_1_1_68 ≠ b14 ∧ b20 ≠ b14 ∧ b20 ≠ b2_1_1_1_68 ∧ b6_2_2_5_7_1_1_1_68 ≠ b14 ∧ b6_2_2_5_7_1_1_1_68 ≠ b2_1_1_1_68 ∧ b6_2_2_5_7_1_1_1_68 ≠ b20 ∧ b9 ≠ b14 ∧ b9 ≠ b2_1_1_1_68 ∧ b9 ≠ b20 ∧ b9 ≠ b6_2_2_5_7_1_1_1_68 ∧ Aw Z h a8 "[J" k14 .long 16 (updv (fun _ => (.long 0)) 0 (.long 0)) ∧ Aw Z h a10 "[J" k17 .long 16 (updv (fun _ => (.long 0)) 0 (.long 0)) ∧ Aw Z h a5 "[[I" k12 (.array .int) 16 (updv (fun _ => .null) 0 (.ref b14)) ∧ Ob Z h a7 "com/example/kleinmaschine/kleinmaschine/PagedBytes" [("com/example/kleinmaschine/kleinmaschine/PagedBytes", "pages", "Ljava/util/List;", (.ref a15)), ("com/example/kleinmaschine/kleinmaschine/PagedBytes", "lastUsed", "I", (.int 3)), ("com/example/kleinmaschine/kleinmaschine/PagedBytes", "size", "J", (.long 3)), ("com/example/kleinmaschine/kleinmaschine/PagedBytes", "last", "[B", (.ref b2_1_1_1_68))] ∧ Aw Z h a9 "[J" k16 .long 16 (updv (fun _ => (.long 0)) 0 (.long 0)) ∧ Aw Z h a6 "[[I" k13 (.array .int) 16 (updv (fun _ => .null) 0 (.ref b20)) ∧ Ob Z h a15 "java/util/ArrayList" [("java/util/AbstractList", "modCount", "I", (.int 1)), ("java/util/ArrayList", "elementData", "[Ljava/lang/Object;", (.ref b6_2_2_5_7_1_1_1_68)), ("java/util/ArrayList", "size", "I", (.int 1))] ∧ Ob Z h a1 "com/example/kleinmaschine/kleinmaschine/Statements" [("com/example/kleinmaschine/kleinmaschine/Statements", "headPages", "[[I", (.ref a4)), ("com/example/kleinmaschine/kleinmaschine/Statements", "upperPages", "[[I", (.ref a5)), ("com/example/kleinmaschine/kleinmaschine/Statements", "lowerPages", "[[I", (.ref a6)), ("com/example/kleinmaschine/kleinmaschine/Statements", "records", "Lcom/example/kleinmaschine/kleinmaschine/PagedBytes;", (.ref a7)), ("com/example/kleinmaschine/kleinmaschine/Statements", "checkpointPlaces", "[J", (.ref a8)), ("com/example/kleinmaschine/kleinmaschine/Statements", "checkpointLines", "[J", (.ref a9)), ("com/example/kleinmaschine/kleinmaschine/Statements", "checkpointColumns", "[J", (.ref a10)), ("com/example/kleinmaschine/kleinmaschine/Statements", "heads", "[I", .null), ("com/example/kleinmaschine/kleinmaschine/Statements", "size", "I", (.int 1)), ("com/example/kleinmaschine/kleinmaschine/Statements", "lastLine", "J", (.long 1)), ("com/example/kleinmaschine/kleinmaschine/Statements", "lastColumn", "J", (.long 1)), ("com/example/kleinmaschine/kleinmaschine/Statements", "uppers", "[I", .null), ("com/example/kleinmaschine/kleinmaschine/Statements", "lowers", "[I", .null)] ∧ Aw Z h a4 "[[I" k11 (.array .int) 16 (updv (fun _ => .null) 0 (.ref b9)) ∧ Aw Z h b14 "[I" kA14 .int 16384 (updv (fun _ => (.int 0)) 0 (.int (((q2.toUInt64 >>> ((32 : Int32) &&& 0x3f).toInt64.toUInt64).toInt64).toInt32))) ∧ Aw Z h b2_1_1_1_68 "[B" kA2_1_1_1_68 .byte 65536 (updv (updv (updv (fun _ => (.int 0)) 0 (.int 1)) 1 (.int 1)) 2 (.int 0)) ∧ Aw Z h b20 "[I" kA20 .int 16384 (updv (fun _ => (.int 0)) 0 (.int (q2.toInt32))) ∧ Ovr Z kA6_2_2_5_7_1_1_1_68 "java/lang/Object" ∧ Aw Z h b6_2_2_5_7_1_1_1_68 "[Ljava/lang/Object;" kA6_2_2_5_7_1_1_1_68 (.object "java/lang/Object") 10 (updv (fun _ => .null) 0 (.ref b2_1_1_1_68)) ∧ Aw Z h b9 "[I" kA9 .int 16384 (updv (fun _ => (.int 0)) 0 (.int 0))
set_option maxRecDepth 65536 in
set_option maxHeartbeats 40000000 in
theorem rm_Statements_add_1 (l : Launch) (Z : State) (a0 : Array Value) (hw : ∀ d ∈ tables_1, d.before a0 Z = true) (ws : List Jvm.Cond) (a1 : Addr) (q2 : Int64) (a3 : Addr) (a4 : Addr) (a5 : Addr) (a6 : Addr) (a7 : Addr) (a8 : Addr) (a9 : Addr) (a10 : Addr) (k11 : ClassId) (k12 : ClassId) (k13 : ClassId) (k14 : ClassId) (a15 : Addr) (k16 : ClassId) (k17 : ClassId) (w_DE : Addr) (kW_DE : ClassId) (h0 : Heap) (n0 : Nat) (O0 : Old Z n0 h0) (pr1 : Ob Z h0 a1 "com/example/kleinmaschine/kleinmaschine/Statements" [("com/example/kleinmaschine/kleinmaschine/Statements", "headPages", "[[I", (.ref a4)), ("com/example/kleinmaschine/kleinmaschine/Statements", "upperPages", "[[I", (.ref a5)), ("com/example/kleinmaschine/kleinmaschine/Statements", "lowerPages", "[[I", (.ref a6)), ("com/example/kleinmaschine/kleinmaschine/Statements", "records", "Lcom/example/kleinmaschine/kleinmaschine/PagedBytes;", (.ref a7)), ("com/example/kleinmaschine/kleinmaschine/Statements", "checkpointPlaces", "[J", (.ref a8)), ("com/example/kleinmaschine/kleinmaschine/Statements", "checkpointLines", "[J", (.ref a9)), ("com/example/kleinmaschine/kleinmaschine/Statements", "checkpointColumns", "[J", (.ref a10)), ("com/example/kleinmaschine/kleinmaschine/Statements", "heads", "[I", .null), ("com/example/kleinmaschine/kleinmaschine/Statements", "size", "I", (.int 0)), ("com/example/kleinmaschine/kleinmaschine/Statements", "lastLine", "J", (.long 0)), ("com/example/kleinmaschine/kleinmaschine/Statements", "lastColumn", "J", (.long 0)), ("com/example/kleinmaschine/kleinmaschine/Statements", "uppers", "[I", .null), ("com/example/kleinmaschine/kleinmaschine/Statements", "lowers", "[I", .null)]) (pr2 : Sta Z Z.heap "com/example/kleinmaschine/kleinmaschine/Statements" "PAGE_BITS" "I" (.int (14 : Int32))) (pr3 : OvrA Z k11 .int "[I") (pr4 : Aw Z h0 a4 "[[I" k11 (.array .int) 16 (fun _ => .null)) (pr5 : n0 ≤ a4) (pr6 : a1 ≠ a4) (pr7 : OvrA Z k12 .int "[I") (pr8 : Aw Z h0 a5 "[[I" k12 (.array .int) 16 (fun _ => .null)) (pr9 : a5 ≠ a4) (pr10 : n0 ≤ a5) (pr11 : a1 ≠ a5) (pr12 : OvrA Z k13 .int "[I") (pr13 : Aw Z h0 a6 "[[I" k13 (.array .int) 16 (fun _ => .null)) (pr14 : a6 ≠ a4) (pr15 : a6 ≠ a5) (pr16 : n0 ≤ a6) (pr17 : a1 ≠ a6) (pr18 : Sta Z Z.heap "com/example/kleinmaschine/kleinmaschine/Statements" "CHECKPOINT_BITS" "I" (.int (6 : Int32))) (pr19 : Aw Z h0 a8 "[J" k14 .long 16 (fun _ => (.long 0))) (pr20 : a8 ≠ a4) (pr21 : a8 ≠ a5) (pr22 : a8 ≠ a6) (pr23 : Ob Z h0 a7 "com/example/kleinmaschine/kleinmaschine/PagedBytes" [("com/example/kleinmaschine/kleinmaschine/PagedBytes", "pages", "Ljava/util/List;", (.ref a15)), ("com/example/kleinmaschine/kleinmaschine/PagedBytes", "lastUsed", "I", (.int 65536)), ("com/example/kleinmaschine/kleinmaschine/PagedBytes", "size", "J", (.long 0)), ("com/example/kleinmaschine/kleinmaschine/PagedBytes", "last", "[B", .null)]) (pr24 : a7 ≠ a4) (pr25 : a7 ≠ a5) (pr26 : a7 ≠ a6) (pr27 : n0 ≤ a8) (pr28 : a1 ≠ a8) (pr29 : Aw Z h0 a9 "[J" k16 .long 16 (fun _ => (.long 0))) (pr30 : a9 ≠ a4) (pr31 : a9 ≠ a5) (pr32 : a9 ≠ a6) (pr33 : a9 ≠ a8) (pr34 : n0 ≤ a9) (pr35 : a1 ≠ a9) (pr36 : Aw Z h0 a10 "[J" k17 .long 16 (fun _ => (.long 0))) (pr37 : a10 ≠ a4) (pr38 : a10 ≠ a5) (pr39 : a10 ≠ a6) (pr40 : a10 ≠ a8) (pr41 : a10 ≠ a9) (pr42 : n0 ≤ a10) (pr43 : Ob Z h0 a3 "com/example/kleinmaschine/kleinmaschine/Position" [("com/example/kleinmaschine/kleinmaschine/Position", "line", "J", (.long 1)), ("com/example/kleinmaschine/kleinmaschine/Position", "column", "J", (.long 1))]) (pr44 : a3 ≠ a4) (pr45 : a3 ≠ a5) (pr46 : a3 ≠ a6) (pr47 : a3 ≠ a8) (pr48 : a3 ≠ a9) (pr49 : a3 ≠ a10) (pr50 : a1 ≠ a10) (pr51 : n0 ≤ a7) (pr52 : Ob Z h0 a15 "java/util/ArrayList" [("java/util/AbstractList", "modCount", "I", (.int 0)), ("java/util/ArrayList", "elementData", "[Ljava/lang/Object;", (.ref w_DE)), ("java/util/ArrayList", "size", "I", (.int 0))]) (pr53 : n0 ≤ a15) (pr54 : a15 ≠ a7) (pr55 : a7 ≠ a8) (pr56 : a7 ≠ a9) (pr57 : a7 ≠ a10) (pr58 : a15 ≠ a4) (pr59 : a15 ≠ a5) (pr60 : a15 ≠ a6) (pr61 : a15 ≠ a8) (pr62 : a15 ≠ a9) (pr63 : a15 ≠ a10) (pr64 : Aw Z Z.heap w_DE "[Ljava/lang/Object;" kW_DE (.object "java/lang/Object") 0 (fun _ => .null)) (pr65 : Sta Z Z.heap "java/util/ArrayList" "DEFAULTCAPACITY_EMPTY_ELEMENTDATA" "[Ljava/lang/Object;" (.ref w_DE)) (pr66 : a1 ≠ a15) (pr67 : a1 ≠ a7) (pr68 : a3 ≠ a15) (pr69 : a3 ≠ a7) (pr70 : n0 ≤ a1) (pr71 : a3 ≠ a1) :
    MetFree l (⟨"com/example/kleinmaschine/kleinmaschine/Statements", "add", "(IJLcom/example/kleinmaschine/kleinmaschine/Position;J)I"⟩ : MethodName) (head1 (Jvm.Cond.code (⟨"com/example/kleinmaschine/kleinmaschine/Statements", "add", "(IJLcom/example/kleinmaschine/kleinmaschine/Position;J)I"⟩ : MethodName) prog_52_method_3_code 10 (some .int) :: ws) ({ frames := 9, cells := 5, slots := 114698, locals := 125 } : Room)) (fun a U => a = #[(.ref a1), (.int 0), (.long q2), (.ref a3), (.long 0)] ∧ Z.Warmed39 U.vm ∧ U.heap = h0) (fun _ _ _ _ _ => True) (fun _ U o U' => ∃ v L, o = .returned v ∧ Q_Statements_add_1 Z a1 q2 a3 a4 a5 a6 a7 a8 a9 a10 k11 k12 k13 k14 a15 k16 k17 w_DE kW_DE h0 n0 v U'.heap L ∧ FrameEnd U o U' L ({ frames := 9, cells := 5, slots := 114698, locals := 125 } : Room).cells ({ frames := 9, cells := 5, slots := 114698, locals := 125 } : Room).slots) := by
  refine MetFree.of_bodySF (plainFor_of_name pn_Statements) hisR ?_
  intro p e s m args below meth c s₁ Bd hml0 hP hK
  obtain ⟨rfl, hZ, hh⟩ := hP
  have hx := Bd.exec
  have hby := Bd.bytes
  have hml : c.maxLocals = 10 := hml0
  have hown : s.vm.findClass "com/example/kleinmaschine/kleinmaschine/Statements" = some m.cls := findClass_of_methodNamed Bd.named
  have hnm := (name_of_methodNamed Bd.named Bd.method).1
  have X0 : Stand p l e ({ frames := 9, cells := 5, slots := 114698, locals := 125 } : Room) s m #[(.ref a1), (.int 0), (.long q2), (.ref a3), (.long 0)] below meth c s₁ [] 0 0 := Stand.of_body Bd
  have e0 : s₁.heap = h0 := by rw [← hh, Bd.state]; rfl
  have N0 := Fr.nil n0
  obtain ⟨G0, hG0⟩ : ∃ z, z = (mkF m 0 #[.val (.ref a1), .val (.int 0), .val (.long q2), .second, .val (.ref a3), .val (.long 0), .second, .unset, .unset, .unset] []) := ⟨_, rfl⟩
  have pre0 : ∀ t, Steps p.tables e below (s₁.setTop G0) t → Steps p.tables e below (s₁.setTop (entryFrame m #[(.ref a1), (.int 0), (.long q2), (.ref a3), (.long 0)] 10)) t := fun t k => castTop (ef_RIJRJ_10 m a1 ((0 : Int32)) q2 a3 ((0 : Int64))) (hG0 ▸ k)
  have k : Goes p e below s₁ G0 s₁ (mkF m 0 #[.val (.ref a1), .val (.int 0), .val (.long q2), .second, .val (.ref a3), .val (.long 0), .second, .unset, .unset, .unset] []) := fun t q => hG0 ▸ q
  replace k := Fw.aloadN k X0 hx (hb hby d_prog_52_method_3_0) rfl rfl (pc' := 1) rfl
  obtain ⟨cq1, q1, q1'⟩ := Exa.cell pr1.exa
  obtain ⟨_, _, ⟨T1, L1, kz1, nz1⟩, -, X1, ⟨Lc1, hQ1, l1, y1, z1⟩, st1⟩ := X0.privateBack hx (y := (⟨"com/example/kleinmaschine/kleinmaschine/Statements", "checkAdding", "()V"⟩ : MethodName)) hown (mvT hZ (w_88 hw)) (mvT hZ (w_89 hw)) (Jvm.Kit.selects_private (by decide) (mvT hZ (w_1 hw)) (mvP hZ (w_90 hw)) (mvT hZ (w_89 hw))) (Cond.privateMethod_at (mvP hZ (w_90 hw) (args := #[]))) (mvT hZ (w_91 hw)) (by decide) (backOf (W := 0) (rm_Statements_checkAdding_1 l Z a0 hw [] a1 a4 a5 a6 a7 a8 a9 a10 h0 n0 O0 pr1) hZ (w_91 hw) (w_2 hw) (by decide) (by decide)) (g := (mkF m 1 #[.val (.ref a1), .val (.int 0), .val (.long q2), .second, .val (.ref a3), .val (.long 0), .second, .unset, .unset, .unset] [(.ref a1)])) rfl (by rw [hml]; rfl) (Steps.refl _) (a := a1) (by rw [e0]; exact q1) q1' (argsL := []) (rest := []) (lenOf pd__r_V rfl) rfl (by show 2 * 0 + _ ≤ _; exact Nat.le_of_eq rfl) (hb hby d_prog_52_method_3_1) (fun _ _ => ⟨rfl, e0, (by decide : 0 + 0 ≤ _), (by decide : 0 + 0 ≤ _)⟩)
  dsimp only [Pt.U, Pt.locs, Pt.cells, Pt.slots] at X1 l1 y1 z1 st1 hQ1
  subst l1 y1 z1
  obtain ⟨hv1, N1q, e1⟩ := hQ1
  subst hv1
  have N1 := Fr.app N0 N1q
  replace k : Goes p e below s₁ G0 T1 (mkF m 4 #[.val (.ref a1), .val (.int 0), .val (.long q2), .second, .val (.ref a3), .val (.long 0), .second, .unset, .unset, .unset] []) := fun t q => k t (st1.trans q)
  replace k := Fw.aloadN k X1 hx (hb hby d_prog_52_method_3_4) rfl rfl (pc' := 5) rfl
  obtain ⟨T2, X2, e2, st2⟩ := getF X1 hx hZ hown (host := "") (Or.inl (w_94 hw)) Via.refl e1 (Ob.at pr1 8 rfl) (g := (mkF m 5 #[.val (.ref a1), .val (.int 0), .val (.long q2), .second, .val (.ref a3), .val (.long 0), .second, .unset, .unset, .unset] [(.ref a1)])) rfl rfl (hb hby d_prog_52_method_3_5)
  replace k : Goes p e below s₁ G0 T2 (mkF m 8 #[.val (.ref a1), .val (.int 0), .val (.long q2), .second, .val (.ref a3), .val (.long 0), .second, .unset, .unset, .unset] [(.int 0)]) := fun t q => k t (st2 _ q)
  replace k : Goes p e below s₁ G0 T2 (mkF m 10 #[.val (.ref a1), .val (.int 0), .val (.long q2), .second, .val (.ref a3), .val (.long 0), .second, .unset, .unset, .unset] [(.int 8388608), (.int 0)]) := fun t q => k t (X2.ldcInt hx hown (mvT hZ (w_96 hw)) (g := (mkF m 8 #[.val (.ref a1), .val (.int 0), .val (.long q2), .second, .val (.ref a3), .val (.long 0), .second, .unset, .unset, .unset] [(.int 0)])) rfl (hb hby d_prog_52_method_3_8) _ q)
  replace k := Fw.icmpYes k X2 hx (hb hby d_prog_52_method_3_10) (feq (show ¬ ((0 : Int32) = (8388608 : Int32)) from by decide)).2 (by decide) (pc' := 23) rfl
  replace k := Fw.aloadN k X2 hx (hb hby d_prog_52_method_3_23) rfl rfl (pc' := 24) rfl
  obtain ⟨T3, X3, e3, st3⟩ := getF X2 hx hZ hown (host := "") (Or.inl (w_94 hw)) Via.refl e2 (Ob.at pr1 8 rfl) (g := (mkF m 24 #[.val (.ref a1), .val (.int 0), .val (.long q2), .second, .val (.ref a3), .val (.long 0), .second, .unset, .unset, .unset] [(.ref a1)])) rfl rfl (hb hby d_prog_52_method_3_24)
  replace k : Goes p e below s₁ G0 T3 (mkF m 27 #[.val (.ref a1), .val (.int 0), .val (.long q2), .second, .val (.ref a3), .val (.long 0), .second, .unset, .unset, .unset] [(.int 0)]) := fun t q => k t (st3 _ q)
  obtain ⟨T4, X4, e4, st4⟩ := getS2 X3 hx hZ hown (host := "") (Or.inl (w_97 hw)) Via.refl e3 (pr2.ext O0.2) (g := (mkF m 27 #[.val (.ref a1), .val (.int 0), .val (.long q2), .second, .val (.ref a3), .val (.long 0), .second, .unset, .unset, .unset] [(.int 0)])) rfl (hb hby d_prog_52_method_3_27)
  replace k : Goes p e below s₁ G0 T4 (mkF m 30 #[.val (.ref a1), .val (.int 0), .val (.long q2), .second, .val (.ref a3), .val (.long 0), .second, .unset, .unset, .unset] [(.int 14), (.int 0)]) := fun t q => k t (st4 _ q)
  replace k := Fw.iushr k X4 hx (hb hby d_prog_52_method_3_30) (z := (0 : Int32)) (by decide) (pc' := 31) rfl
  replace k := Fw.istore k X4 hx (hb hby d_prog_52_method_3_31)  (Ls' := #[.val (.ref a1), .val (.int 0), .val (.long q2), .second, .val (.ref a3), .val (.long 0), .second, .val (.int 0), .unset, .unset]) rfl (pc' := 33) rfl
  replace k := Fw.aloadN k X4 hx (hb hby d_prog_52_method_3_33) rfl rfl (pc' := 34) rfl
  obtain ⟨T5, X5, e5, st5⟩ := getF X4 hx hZ hown (host := "") (Or.inl (w_94 hw)) Via.refl e4 (Ob.at pr1 8 rfl) (g := (mkF m 34 #[.val (.ref a1), .val (.int 0), .val (.long q2), .second, .val (.ref a3), .val (.long 0), .second, .val (.int 0), .unset, .unset] [(.ref a1)])) rfl rfl (hb hby d_prog_52_method_3_34)
  replace k : Goes p e below s₁ G0 T5 (mkF m 37 #[.val (.ref a1), .val (.int 0), .val (.long q2), .second, .val (.ref a3), .val (.long 0), .second, .val (.int 0), .unset, .unset] [(.int 0)]) := fun t q => k t (st5 _ q)
  replace k := Fw.sipush k X5 hx (hb hby d_prog_52_method_3_37) (z := (16383 : Int32)) (by decide) (pc' := 40) rfl
  replace k := Fw.iand k X5 hx (hb hby d_prog_52_method_3_40) (z := (0 : Int32)) (by decide) (pc' := 41) rfl
  replace k := Fw.ifNo k X5 hx (hb hby d_prog_52_method_3_41) ((if0 _ _).trans (teq (show (0 : Int32) = (0 : Int32) from by decide)).2) (pc' := 44) rfl
  replace k := Fw.iload k X5 hx (hb hby d_prog_52_method_3_44) rfl (pc' := 46) rfl
  replace k := Fw.aloadN k X5 hx (hb hby d_prog_52_method_3_46) rfl rfl (pc' := 47) rfl
  obtain ⟨T6, X6, e6, st6⟩ := getF X5 hx hZ hown (host := "") (Or.inl (w_11 hw)) Via.refl e5 (Ob.at pr1 0 rfl) (g := (mkF m 47 #[.val (.ref a1), .val (.int 0), .val (.long q2), .second, .val (.ref a3), .val (.long 0), .second, .val (.int 0), .unset, .unset] [(.ref a1), (.int 0)])) rfl rfl (hb hby d_prog_52_method_3_47)
  replace k : Goes p e below s₁ G0 T6 (mkF m 50 #[.val (.ref a1), .val (.int 0), .val (.long q2), .second, .val (.ref a3), .val (.long 0), .second, .val (.int 0), .unset, .unset] [(.ref a4), (.int 0)]) := fun t q => k t (st6 _ q)
  obtain ⟨cl7, Ar7, hl7⟩ := Aw.len pr4 (16 : Int32) (by decide)
  replace k : Goes p e below s₁ G0 T6 (mkF m 51 #[.val (.ref a1), .val (.int 0), .val (.long q2), .second, .val (.ref a3), .val (.long 0), .second, .val (.int 0), .unset, .unset] [(.int 16), (.int 0)]) := fun t q => k t (X6.arraylength hx (by rw [e6]; exact Ar7.1) (State.isArrayOf_alike hZ.alike Ar7.2.1) (g := (mkF m 50 #[.val (.ref a1), .val (.int 0), .val (.long q2), .second, .val (.ref a3), .val (.long 0), .second, .val (.int 0), .unset, .unset] [(.ref a4), (.int 0)])) rfl rfl (hb hby d_prog_52_method_3_50) _ (by rw [hl7]; exact q))
  replace k := Fw.icmpYes k X6 hx (hb hby d_prog_52_method_3_51) (feq (show ¬ ((0 : Int32) = (16 : Int32)) from by decide)).2 (by decide) (pc' := 108) rfl
  replace k := Fw.aloadN k X6 hx (hb hby d_prog_52_method_3_108) rfl rfl (pc' := 109) rfl
  obtain ⟨T8, X8, e8, st8⟩ := getF X6 hx hZ hown (host := "") (Or.inl (w_11 hw)) Via.refl e6 (Ob.at pr1 0 rfl) (g := (mkF m 109 #[.val (.ref a1), .val (.int 0), .val (.long q2), .second, .val (.ref a3), .val (.long 0), .second, .val (.int 0), .unset, .unset] [(.ref a1)])) rfl rfl (hb hby d_prog_52_method_3_109)
  replace k : Goes p e below s₁ G0 T8 (mkF m 112 #[.val (.ref a1), .val (.int 0), .val (.long q2), .second, .val (.ref a3), .val (.long 0), .second, .val (.int 0), .unset, .unset] [(.ref a4)]) := fun t q => k t (st8 _ q)
  replace k := Fw.iload k X8 hx (hb hby d_prog_52_method_3_112) rfl (pc' := 114) rfl
  replace k := Fw.sipush k X8 hx (hb hby d_prog_52_method_3_114) (z := (16384 : Int32)) (by decide) (pc' := 117) rfl
  obtain ⟨T9, h9, kA9, X9, e9, E9, A9, U9, st9⟩ := newPE (aty := .int) X8 hx hZ (w_99 hw) e8 (g := (mkF m 117 #[.val (.ref a1), .val (.int 0), .val (.long q2), .second, .val (.ref a3), .val (.long 0), .second, .val (.int 0), .unset, .unset] [(.int 16384), (.int 0), (.ref a4)])) rfl (hb hby d_prog_52_method_3_117) rfl (by decide) (cap := 16384) (by decide) (by decide) (by decide) (by decide) (ad := "[I") (by decide)
  obtain ⟨b9, g9⟩ : ∃ z, z = h0.size := ⟨_, rfl⟩
  rw [← g9] at A9 U9 st9
  have gz_b9 : h0.size ≤ b9 := Nat.le_trans (Nat.le_refl h0.size) (Nat.le_of_eq g9.symm)
  have V9 : Aw Z h9 b9 "[I" kA9 .int 16384 (fun _ => (.int 0)) := Aw.new A9 U9 (by decide) 16384 (by decide)
  replace k : Goes p e below s₁ G0 T9 (mkF m 119 #[.val (.ref a1), .val (.int 0), .val (.long q2), .second, .val (.ref a3), .val (.long 0), .second, .val (.int 0), .unset, .unset] [(.ref b9), (.int 0), (.ref a4)]) := fun t q => k t (st9 _ q)
  have fc10 := (pr4.ext E9)
  obtain ⟨cl11, Ar11, hin11, -, kq11, -⟩ := Aw.open fc10 (j := (0 : Int32)) 0 (by decide) (by decide) (by decide)
  obtain ⟨T11, h11, X11, e11, W11, st11⟩ := stR X9 hx hZ e9 Ar11 (j := (0 : Int32)) hin11 rfl (Sto.ofVA Ar11 kq11 pr3 (Ins.self V9.exa)) (g := (mkF m 119 #[.val (.ref a1), .val (.int 0), .val (.long q2), .second, .val (.ref a3), .val (.long 0), .second, .val (.int 0), .unset, .unset] [(.ref b9), (.int 0), (.ref a4)])) rfl rfl (hb hby d_prog_52_method_3_119)
  have N11 := Fr.snoc X11 N1 pr5
  have V11 : Aw Z h11 a4 "[[I" k11 (.array .int) 16 (updv (fun _ => .null) 0 (.ref b9)) := Aw.set fc10 W11 0 (by decide) rfl
  replace k : Goes p e below s₁ G0 T11 (mkF m 120 #[.val (.ref a1), .val (.int 0), .val (.long q2), .second, .val (.ref a3), .val (.long 0), .second, .val (.int 0), .unset, .unset] []) := fun t q => k t (st11 _ q)
  replace k := Fw.aloadN k X11 hx (hb hby d_prog_52_method_3_120) rfl rfl (pc' := 121) rfl
  have fc12 := ((pr1.ext E9).other W11 pr6)
  obtain ⟨T13, X13, e13, st13⟩ := getF X11 hx hZ hown (host := "") (Or.inl (w_13 hw)) Via.refl e11 (Ob.at fc12 1 rfl) (g := (mkF m 121 #[.val (.ref a1), .val (.int 0), .val (.long q2), .second, .val (.ref a3), .val (.long 0), .second, .val (.int 0), .unset, .unset] [(.ref a1)])) rfl rfl (hb hby d_prog_52_method_3_121)
  replace k : Goes p e below s₁ G0 T13 (mkF m 124 #[.val (.ref a1), .val (.int 0), .val (.long q2), .second, .val (.ref a3), .val (.long 0), .second, .val (.int 0), .unset, .unset] [(.ref a5)]) := fun t q => k t (st13 _ q)
  replace k := Fw.iload k X13 hx (hb hby d_prog_52_method_3_124) rfl (pc' := 126) rfl
  replace k := Fw.sipush k X13 hx (hb hby d_prog_52_method_3_126) (z := (16384 : Int32)) (by decide) (pc' := 129) rfl
  obtain ⟨T14, h14, kA14, X14, e14, E14, A14, U14, st14⟩ := newPE (aty := .int) X13 hx hZ (w_99 hw) e13 (g := (mkF m 129 #[.val (.ref a1), .val (.int 0), .val (.long q2), .second, .val (.ref a3), .val (.long 0), .second, .val (.int 0), .unset, .unset] [(.int 16384), (.int 0), (.ref a5)])) rfl (hb hby d_prog_52_method_3_129) rfl (by decide) (cap := 16384) (by decide) (by decide) (by decide) (by decide) (ad := "[I") (by decide)
  obtain ⟨b14, g14⟩ : ∃ z, z = h11.size := ⟨_, rfl⟩
  rw [← g14] at A14 U14 st14
  have fc15 := (Nat.le_trans (Nat.le_trans (Nat.le_refl h0.size) E9.1) (Nat.le_of_eq (Wr.size W11).symm))
  have gz_b14 : h0.size ≤ b14 := Nat.le_trans fc15 (Nat.le_of_eq g14.symm)
  have V14 : Aw Z h14 b14 "[I" kA14 .int 16384 (fun _ => (.int 0)) := Aw.new A14 U14 (by decide) 16384 (by decide)
  replace k : Goes p e below s₁ G0 T14 (mkF m 131 #[.val (.ref a1), .val (.int 0), .val (.long q2), .second, .val (.ref a3), .val (.long 0), .second, .val (.int 0), .unset, .unset] [(.ref b14), (.int 0), (.ref a5)]) := fun t q => k t (st14 _ q)
  have fc16 := (((pr8.ext E9).other W11 pr9).ext E14)
  obtain ⟨cl17, Ar17, hin17, -, kq17, -⟩ := Aw.open fc16 (j := (0 : Int32)) 0 (by decide) (by decide) (by decide)
  obtain ⟨T17, h17, X17, e17, W17, st17⟩ := stR X14 hx hZ e14 Ar17 (j := (0 : Int32)) hin17 rfl (Sto.ofVA Ar17 kq17 pr7 (Ins.self V14.exa)) (g := (mkF m 131 #[.val (.ref a1), .val (.int 0), .val (.long q2), .second, .val (.ref a3), .val (.long 0), .second, .val (.int 0), .unset, .unset] [(.ref b14), (.int 0), (.ref a5)])) rfl rfl (hb hby d_prog_52_method_3_131)
  have N17 := Fr.snoc X17 N11 pr10
  have V17 : Aw Z h17 a5 "[[I" k12 (.array .int) 16 (updv (fun _ => .null) 0 (.ref b14)) := Aw.set fc16 W17 0 (by decide) rfl
  replace k : Goes p e below s₁ G0 T17 (mkF m 132 #[.val (.ref a1), .val (.int 0), .val (.long q2), .second, .val (.ref a3), .val (.long 0), .second, .val (.int 0), .unset, .unset] []) := fun t q => k t (st17 _ q)
  replace k := Fw.aloadN k X17 hx (hb hby d_prog_52_method_3_132) rfl rfl (pc' := 133) rfl
  have fc18 := ((fc12.ext E14).other W17 pr11)
  obtain ⟨T19, X19, e19, st19⟩ := getF X17 hx hZ hown (host := "") (Or.inl (w_15 hw)) Via.refl e17 (Ob.at fc18 2 rfl) (g := (mkF m 133 #[.val (.ref a1), .val (.int 0), .val (.long q2), .second, .val (.ref a3), .val (.long 0), .second, .val (.int 0), .unset, .unset] [(.ref a1)])) rfl rfl (hb hby d_prog_52_method_3_133)
  replace k : Goes p e below s₁ G0 T19 (mkF m 136 #[.val (.ref a1), .val (.int 0), .val (.long q2), .second, .val (.ref a3), .val (.long 0), .second, .val (.int 0), .unset, .unset] [(.ref a6)]) := fun t q => k t (st19 _ q)
  replace k := Fw.iload k X19 hx (hb hby d_prog_52_method_3_136) rfl (pc' := 138) rfl
  replace k := Fw.sipush k X19 hx (hb hby d_prog_52_method_3_138) (z := (16384 : Int32)) (by decide) (pc' := 141) rfl
  obtain ⟨T20, h20, kA20, X20, e20, E20, A20, U20, st20⟩ := newPE (aty := .int) X19 hx hZ (w_99 hw) e19 (g := (mkF m 141 #[.val (.ref a1), .val (.int 0), .val (.long q2), .second, .val (.ref a3), .val (.long 0), .second, .val (.int 0), .unset, .unset] [(.int 16384), (.int 0), (.ref a6)])) rfl (hb hby d_prog_52_method_3_141) rfl (by decide) (cap := 16384) (by decide) (by decide) (by decide) (by decide) (ad := "[I") (by decide)
  obtain ⟨b20, g20⟩ : ∃ z, z = h17.size := ⟨_, rfl⟩
  rw [← g20] at A20 U20 st20
  have fc21 := (Nat.le_trans (Nat.le_trans fc15 E14.1) (Nat.le_of_eq (Wr.size W17).symm))
  have gz_b20 : h0.size ≤ b20 := Nat.le_trans fc21 (Nat.le_of_eq g20.symm)
  have V20 : Aw Z h20 b20 "[I" kA20 .int 16384 (fun _ => (.int 0)) := Aw.new A20 U20 (by decide) 16384 (by decide)
  replace k : Goes p e below s₁ G0 T20 (mkF m 143 #[.val (.ref a1), .val (.int 0), .val (.long q2), .second, .val (.ref a3), .val (.long 0), .second, .val (.int 0), .unset, .unset] [(.ref b20), (.int 0), (.ref a6)]) := fun t q => k t (st20 _ q)
  have fc22 := (((((pr13.ext E9).other W11 pr14).ext E14).other W17 pr15).ext E20)
  obtain ⟨cl23, Ar23, hin23, -, kq23, -⟩ := Aw.open fc22 (j := (0 : Int32)) 0 (by decide) (by decide) (by decide)
  obtain ⟨T23, h23, X23, e23, W23, st23⟩ := stR X20 hx hZ e20 Ar23 (j := (0 : Int32)) hin23 rfl (Sto.ofVA Ar23 kq23 pr12 (Ins.self V20.exa)) (g := (mkF m 143 #[.val (.ref a1), .val (.int 0), .val (.long q2), .second, .val (.ref a3), .val (.long 0), .second, .val (.int 0), .unset, .unset] [(.ref b20), (.int 0), (.ref a6)])) rfl rfl (hb hby d_prog_52_method_3_143)
  have N23 := Fr.snoc X23 N17 pr16
  have V23 : Aw Z h23 a6 "[[I" k13 (.array .int) 16 (updv (fun _ => .null) 0 (.ref b20)) := Aw.set fc22 W23 0 (by decide) rfl
  replace k : Goes p e below s₁ G0 T23 (mkF m 144 #[.val (.ref a1), .val (.int 0), .val (.long q2), .second, .val (.ref a3), .val (.long 0), .second, .val (.int 0), .unset, .unset] []) := fun t q => k t (st23 _ q)
  replace k := Fw.aloadN k X23 hx (hb hby d_prog_52_method_3_144) rfl rfl (pc' := 145) rfl
  have fc24 := ((fc18.ext E20).other W23 pr17)
  obtain ⟨T25, X25, e25, st25⟩ := getF X23 hx hZ hown (host := "") (Or.inl (w_11 hw)) Via.refl e23 (Ob.at fc24 0 rfl) (g := (mkF m 145 #[.val (.ref a1), .val (.int 0), .val (.long q2), .second, .val (.ref a3), .val (.long 0), .second, .val (.int 0), .unset, .unset] [(.ref a1)])) rfl rfl (hb hby d_prog_52_method_3_145)
  replace k : Goes p e below s₁ G0 T25 (mkF m 148 #[.val (.ref a1), .val (.int 0), .val (.long q2), .second, .val (.ref a3), .val (.long 0), .second, .val (.int 0), .unset, .unset] [(.ref a4)]) := fun t q => k t (st25 _ q)
  replace k := Fw.iload k X25 hx (hb hby d_prog_52_method_3_148) rfl (pc' := 150) rfl
  have fc27 := ((((V11.ext E14).other W17 (Ne.symm pr9)).ext E20).other W23 (Ne.symm pr14))
  obtain ⟨cl26, Ar26, hin26, hat26, -, -⟩ := Aw.open fc27 (j := (0 : Int32)) 0 (by decide) (by decide) (by decide)
  replace hat26 : cl26.slots[((0 : Int32)).toNatClampNeg]? = some (.ref b9) := hat26
  replace k : Goes p e below s₁ G0 T25 (mkF m 151 #[.val (.ref a1), .val (.int 0), .val (.long q2), .second, .val (.ref a3), .val (.long 0), .second, .val (.int 0), .unset, .unset] [(.ref b9)]) := fun t q => k t (X25.aaload hx (j := (0 : Int32)) (v := (.ref b9)) (by rw [e25]; exact Ar26.1) (State.isArrayOf_alike hZ.alike Ar26.2.1) rfl Ar26.2.2 hin26 hat26 (g := (mkF m 150 #[.val (.ref a1), .val (.int 0), .val (.long q2), .second, .val (.ref a3), .val (.long 0), .second, .val (.int 0), .unset, .unset] [(.int 0), (.ref a4)])) rfl rfl (hb hby d_prog_52_method_3_150) _ q)
  replace k := Fw.aloadN k X25 hx (hb hby d_prog_52_method_3_151) rfl rfl (pc' := 152) rfl
  obtain ⟨T28, X28, e28, st28⟩ := getF X25 hx hZ hown (host := "") (Or.inl (w_94 hw)) Via.refl e25 (Ob.at fc24 8 rfl) (g := (mkF m 152 #[.val (.ref a1), .val (.int 0), .val (.long q2), .second, .val (.ref a3), .val (.long 0), .second, .val (.int 0), .unset, .unset] [(.ref a1), (.ref b9)])) rfl rfl (hb hby d_prog_52_method_3_152)
  replace k : Goes p e below s₁ G0 T28 (mkF m 155 #[.val (.ref a1), .val (.int 0), .val (.long q2), .second, .val (.ref a3), .val (.long 0), .second, .val (.int 0), .unset, .unset] [(.int 0), (.ref b9)]) := fun t q => k t (st28 _ q)
  replace k := Fw.sipush k X28 hx (hb hby d_prog_52_method_3_155) (z := (16383 : Int32)) (by decide) (pc' := 158) rfl
  replace k := Fw.iand k X28 hx (hb hby d_prog_52_method_3_158) (z := (0 : Int32)) (by decide) (pc' := 159) rfl
  replace k := Fw.iloadN k X28 hx (hb hby d_prog_52_method_3_159) rfl (pc' := 160) rfl
  have fc29 := (((((V9.other W11 (Ne.symm (Nat.ne_of_lt (Nat.lt_of_lt_of_le pr4.lt gz_b9)))).ext E14).other W17 (Ne.symm (Nat.ne_of_lt (Nat.lt_of_lt_of_le pr8.lt gz_b9)))).ext E20).other W23 (Ne.symm (Nat.ne_of_lt (Nat.lt_of_lt_of_le pr13.lt gz_b9))))
  obtain ⟨cl30, Ar30, hin30, -, kq30, -⟩ := Aw.open fc29 (j := (0 : Int32)) 0 (by decide) (by decide) (by decide)
  obtain ⟨T30, h30, X30, e30, W30, st30⟩ := stI X28 hx hZ e28 Ar30 (j := (0 : Int32)) hin30 (g := (mkF m 160 #[.val (.ref a1), .val (.int 0), .val (.long q2), .second, .val (.ref a3), .val (.long 0), .second, .val (.int 0), .unset, .unset] [(.int 0), (.int 0), (.ref b9)])) rfl rfl (hb hby d_prog_52_method_3_160)
  have N30 := Fr.snoc X30 N23 (Nat.le_trans (old_le O0) gz_b9)
  have V30 : Aw Z h30 b9 "[I" kA9 .int 16384 (updv (fun _ => (.int 0)) 0 (.int 0)) := Aw.set fc29 W30 0 (by decide) rfl
  replace k : Goes p e below s₁ G0 T30 (mkF m 161 #[.val (.ref a1), .val (.int 0), .val (.long q2), .second, .val (.ref a3), .val (.long 0), .second, .val (.int 0), .unset, .unset] []) := fun t q => k t (st30 _ q)
  replace k := Fw.aloadN k X30 hx (hb hby d_prog_52_method_3_161) rfl rfl (pc' := 162) rfl
  replace k := Fw.aloadN k X30 hx (hb hby d_prog_52_method_3_162) rfl rfl (pc' := 163) rfl
  have fc31 := (fc24.other W30 (Nat.ne_of_lt (Nat.lt_of_lt_of_le pr1.lt gz_b9)))
  obtain ⟨T32, X32, e32, st32⟩ := getF X30 hx hZ hown (host := "") (Or.inl (w_94 hw)) Via.refl e30 (Ob.at fc31 8 rfl) (g := (mkF m 163 #[.val (.ref a1), .val (.int 0), .val (.long q2), .second, .val (.ref a3), .val (.long 0), .second, .val (.int 0), .unset, .unset] [(.ref a1), (.ref a1)])) rfl rfl (hb hby d_prog_52_method_3_163)
  replace k : Goes p e below s₁ G0 T32 (mkF m 166 #[.val (.ref a1), .val (.int 0), .val (.long q2), .second, .val (.ref a3), .val (.long 0), .second, .val (.int 0), .unset, .unset] [(.int 0), (.ref a1)]) := fun t q => k t (st32 _ q)
  replace k := Fw.lloadN k X32 hx (hb hby d_prog_52_method_3_166) rfl (pc' := 167) rfl
  have fc34 := (((V17.ext E20).other W23 (Ne.symm pr15)).other W30 (Nat.ne_of_lt (Nat.lt_of_lt_of_le pr8.lt gz_b9)))
  have fc35 := ((((V14.other W17 (Ne.symm (Nat.ne_of_lt (Nat.lt_of_lt_of_le pr8.lt gz_b14)))).ext E20).other W23 (Ne.symm (Nat.ne_of_lt (Nat.lt_of_lt_of_le pr13.lt gz_b14)))).other W30 (Ne.symm (Nat.ne_of_lt (Nat.lt_of_lt_of_le (V9.other W11 (Ne.symm (Nat.ne_of_lt (Nat.lt_of_lt_of_le pr4.lt gz_b9)))).lt (Nat.le_of_eq g14.symm)))))
  have fc36 := (V23.other W30 (Nat.ne_of_lt (Nat.lt_of_lt_of_le pr13.lt gz_b9)))
  have fc37 := ((V20.other W23 (Ne.symm (Nat.ne_of_lt (Nat.lt_of_lt_of_le pr13.lt gz_b20)))).other W30 (Ne.symm (Nat.ne_of_lt (Nat.lt_of_lt_of_le (((V9.other W11 (Ne.symm (Nat.ne_of_lt (Nat.lt_of_lt_of_le pr4.lt gz_b9)))).ext E14).other W17 (Ne.symm (Nat.ne_of_lt (Nat.lt_of_lt_of_le pr8.lt gz_b9)))).lt (Nat.le_of_eq g20.symm)))))
  have fc38 := (((((((O0.ext E9).wr W11 pr5).ext E14).wr W17 pr10).ext E20).wr W23 pr16).wr W30 (Nat.le_trans (old_le O0) gz_b9))
  obtain ⟨cq33, q33, q33'⟩ := Exa.cell fc31.exa
  obtain ⟨_, _, ⟨T33, L33, kz33, nz33⟩, -, X33, ⟨Lc33, hQ33, l33, y33, z33⟩, st33⟩ := X32.privateBack hx (y := (⟨"com/example/kleinmaschine/kleinmaschine/Statements", "setOperandAt", "(IJ)V"⟩ : MethodName)) hown (mvT hZ (w_101 hw)) (mvT hZ (w_102 hw)) (Jvm.Kit.selects_private (by decide) (mvT hZ (w_1 hw)) (mvP hZ (w_103 hw)) (mvT hZ (w_102 hw))) (Cond.privateMethod_at (mvP hZ (w_103 hw) (args := #[]))) (mvT hZ (w_104 hw)) (by decide) (backOf (W := 0) (rm_Statements_setOperandAt_1 l Z a0 hw [] a1 q2 a4 a5 a6 a7 a8 a9 a10 k12 b14 kA14 k13 b20 kA20 h30 n0 fc38 fc31 pr2 pr7 fc34 fc35 (Nat.le_trans (old_le O0) gz_b14) (Nat.ne_of_lt (Nat.lt_of_lt_of_le pr1.lt gz_b14)) pr12 fc36 (Nat.ne_of_lt (Nat.lt_of_lt_of_le pr13.lt gz_b14)) fc37 (Ne.symm (Nat.ne_of_lt (Nat.lt_of_lt_of_le (V14.other W17 (Ne.symm (Nat.ne_of_lt (Nat.lt_of_lt_of_le pr8.lt gz_b14)))).lt (Nat.le_of_eq g20.symm)))) (Nat.le_trans (old_le O0) gz_b20)) hZ (w_104 hw) (w_2 hw) (by decide) (by decide)) (g := (mkF m 167 #[.val (.ref a1), .val (.int 0), .val (.long q2), .second, .val (.ref a3), .val (.long 0), .second, .val (.int 0), .unset, .unset] [(.long q2), (.int 0), (.ref a1)])) rfl (by rw [hml]; rfl) (Steps.refl _) (a := a1) (by rw [e32]; exact q33) q33' (argsL := [(.int 0), (.long q2)]) (rest := []) (lenOf pd_IJ_r_V rfl) rfl (by show 2 * 0 + _ ≤ _; exact Nat.le_of_eq rfl) (hb hby d_prog_52_method_3_167) (fun _ _ => ⟨rfl, e32, (by decide : 3 + 0 ≤ _), (by decide : 49152 + 0 ≤ _)⟩)
  dsimp only [Pt.U, Pt.locs, Pt.cells, Pt.slots] at X33 l33 y33 z33 st33 hQ33
  subst l33 y33 z33
  obtain ⟨hv33, N33q, K33, f33_0, f33_1⟩ := hQ33
  subst hv33
  have N33 := Fr.app N30 N33q
  replace k : Goes p e below s₁ G0 T33 (mkF m 170 #[.val (.ref a1), .val (.int 0), .val (.long q2), .second, .val (.ref a3), .val (.long 0), .second, .val (.int 0), .unset, .unset] []) := fun t q => k t (st33.trans q)
  replace k := Fw.aloadN k X33 hx (hb hby d_prog_52_method_3_170) rfl rfl (pc' := 171) rfl
  have fc39 := (fc31.keep K33 (ninS (Nat.ne_of_lt (Nat.lt_of_lt_of_le pr1.lt gz_b20)) (ninS (Nat.ne_of_lt (Nat.lt_of_lt_of_le pr1.lt gz_b14)) nin0)))
  obtain ⟨T40, X40, e40, st40⟩ := getF X33 hx hZ hown (host := "") (Or.inl (w_94 hw)) Via.refl rfl (Ob.at fc39 8 rfl) (g := (mkF m 171 #[.val (.ref a1), .val (.int 0), .val (.long q2), .second, .val (.ref a3), .val (.long 0), .second, .val (.int 0), .unset, .unset] [(.ref a1)])) rfl rfl (hb hby d_prog_52_method_3_171)
  replace k : Goes p e below s₁ G0 T40 (mkF m 174 #[.val (.ref a1), .val (.int 0), .val (.long q2), .second, .val (.ref a3), .val (.long 0), .second, .val (.int 0), .unset, .unset] [(.int 0)]) := fun t q => k t (st40 _ q)
  replace k := Fw.bipush k X40 hx (hb hby d_prog_52_method_3_174) (z := (63 : Int32)) (by decide) (pc' := 176) rfl
  replace k := Fw.iand k X40 hx (hb hby d_prog_52_method_3_176) (z := (0 : Int32)) (by decide) (pc' := 177) rfl
  replace k := Fw.ifNo k X40 hx (hb hby d_prog_52_method_3_177) ((if0 _ _).trans (teq (show (0 : Int32) = (0 : Int32) from by decide)).2) (pc' := 180) rfl
  replace k := Fw.aloadN k X40 hx (hb hby d_prog_52_method_3_180) rfl rfl (pc' := 181) rfl
  obtain ⟨T41, X41, e41, st41⟩ := getF X40 hx hZ hown (host := "") (Or.inl (w_94 hw)) Via.refl e40 (Ob.at fc39 8 rfl) (g := (mkF m 181 #[.val (.ref a1), .val (.int 0), .val (.long q2), .second, .val (.ref a3), .val (.long 0), .second, .val (.int 0), .unset, .unset] [(.ref a1)])) rfl rfl (hb hby d_prog_52_method_3_181)
  replace k : Goes p e below s₁ G0 T41 (mkF m 184 #[.val (.ref a1), .val (.int 0), .val (.long q2), .second, .val (.ref a3), .val (.long 0), .second, .val (.int 0), .unset, .unset] [(.int 0)]) := fun t q => k t (st41 _ q)
  have fc42 := (fc38.keep K33 (allS (Nat.le_trans (old_le O0) gz_b20) (allS (Nat.le_trans (old_le O0) gz_b14) all0)))
  obtain ⟨T43, X43, e43, st43⟩ := getS2 X41 hx hZ hown (host := "") (Or.inl (w_105 hw)) Via.refl e41 (pr18.ext fc42.2) (g := (mkF m 184 #[.val (.ref a1), .val (.int 0), .val (.long q2), .second, .val (.ref a3), .val (.long 0), .second, .val (.int 0), .unset, .unset] [(.int 0)])) rfl (hb hby d_prog_52_method_3_184)
  replace k : Goes p e below s₁ G0 T43 (mkF m 187 #[.val (.ref a1), .val (.int 0), .val (.long q2), .second, .val (.ref a3), .val (.long 0), .second, .val (.int 0), .unset, .unset] [(.int 6), (.int 0)]) := fun t q => k t (st43 _ q)
  replace k := Fw.iushr k X43 hx (hb hby d_prog_52_method_3_187) (z := (0 : Int32)) (by decide) (pc' := 188) rfl
  replace k := Fw.istore k X43 hx (hb hby d_prog_52_method_3_188)  (Ls' := #[.val (.ref a1), .val (.int 0), .val (.long q2), .second, .val (.ref a3), .val (.long 0), .second, .val (.int 0), .val (.int 0), .unset]) rfl (pc' := 190) rfl
  replace k := Fw.iload k X43 hx (hb hby d_prog_52_method_3_190) rfl (pc' := 192) rfl
  replace k := Fw.aloadN k X43 hx (hb hby d_prog_52_method_3_192) rfl rfl (pc' := 193) rfl
  obtain ⟨T44, X44, e44, st44⟩ := getF X43 hx hZ hown (host := "") (Or.inl (w_61 hw)) Via.refl e43 (Ob.at fc39 4 rfl) (g := (mkF m 193 #[.val (.ref a1), .val (.int 0), .val (.long q2), .second, .val (.ref a3), .val (.long 0), .second, .val (.int 0), .val (.int 0), .unset] [(.ref a1), (.int 0)])) rfl rfl (hb hby d_prog_52_method_3_193)
  replace k : Goes p e below s₁ G0 T44 (mkF m 196 #[.val (.ref a1), .val (.int 0), .val (.long q2), .second, .val (.ref a3), .val (.long 0), .second, .val (.int 0), .val (.int 0), .unset] [(.ref a8), (.int 0)]) := fun t q => k t (st44 _ q)
  have fc46 := ((((((((pr19.ext E9).other W11 pr20).ext E14).other W17 pr21).ext E20).other W23 pr22).other W30 (Nat.ne_of_lt (Nat.lt_of_lt_of_le pr19.lt gz_b9))).keep K33 (ninS (Nat.ne_of_lt (Nat.lt_of_lt_of_le pr19.lt gz_b20)) (ninS (Nat.ne_of_lt (Nat.lt_of_lt_of_le pr19.lt gz_b14)) nin0)))
  obtain ⟨cl45, Ar45, hl45⟩ := Aw.len fc46 (16 : Int32) (by decide)
  replace k : Goes p e below s₁ G0 T44 (mkF m 197 #[.val (.ref a1), .val (.int 0), .val (.long q2), .second, .val (.ref a3), .val (.long 0), .second, .val (.int 0), .val (.int 0), .unset] [(.int 16), (.int 0)]) := fun t q => k t (X44.arraylength hx (by rw [e44]; exact Ar45.1) (State.isArrayOf_alike hZ.alike Ar45.2.1) (g := (mkF m 196 #[.val (.ref a1), .val (.int 0), .val (.long q2), .second, .val (.ref a3), .val (.long 0), .second, .val (.int 0), .val (.int 0), .unset] [(.ref a8), (.int 0)])) rfl rfl (hb hby d_prog_52_method_3_196) _ (by rw [hl45]; exact q))
  replace k := Fw.icmpYes k X44 hx (hb hby d_prog_52_method_3_197) (feq (show ¬ ((0 : Int32) = (16 : Int32)) from by decide)).2 (by decide) (pc' := 245) rfl
  replace k := Fw.aloadN k X44 hx (hb hby d_prog_52_method_3_245) rfl rfl (pc' := 246) rfl
  obtain ⟨T47, X47, e47, st47⟩ := getF X44 hx hZ hown (host := "") (Or.inl (w_61 hw)) Via.refl e44 (Ob.at fc39 4 rfl) (g := (mkF m 246 #[.val (.ref a1), .val (.int 0), .val (.long q2), .second, .val (.ref a3), .val (.long 0), .second, .val (.int 0), .val (.int 0), .unset] [(.ref a1)])) rfl rfl (hb hby d_prog_52_method_3_246)
  replace k : Goes p e below s₁ G0 T47 (mkF m 249 #[.val (.ref a1), .val (.int 0), .val (.long q2), .second, .val (.ref a3), .val (.long 0), .second, .val (.int 0), .val (.int 0), .unset] [(.ref a8)]) := fun t q => k t (st47 _ q)
  replace k := Fw.iload k X47 hx (hb hby d_prog_52_method_3_249) rfl (pc' := 251) rfl
  replace k := Fw.aloadN k X47 hx (hb hby d_prog_52_method_3_251) rfl rfl (pc' := 252) rfl
  obtain ⟨T48, X48, e48, st48⟩ := getF X47 hx hZ hown (host := "") (Or.inl (w_58 hw)) Via.refl e47 (Ob.at fc39 3 rfl) (g := (mkF m 252 #[.val (.ref a1), .val (.int 0), .val (.long q2), .second, .val (.ref a3), .val (.long 0), .second, .val (.int 0), .val (.int 0), .unset] [(.ref a1), (.int 0), (.ref a8)])) rfl rfl (hb hby d_prog_52_method_3_252)
  replace k : Goes p e below s₁ G0 T48 (mkF m 255 #[.val (.ref a1), .val (.int 0), .val (.long q2), .second, .val (.ref a3), .val (.long 0), .second, .val (.int 0), .val (.int 0), .unset] [(.ref a7), (.int 0), (.ref a8)]) := fun t q => k t (st48 _ q)
  have fc50 := ((((((((pr23.ext E9).other W11 pr24).ext E14).other W17 pr25).ext E20).other W23 pr26).other W30 (Nat.ne_of_lt (Nat.lt_of_lt_of_le pr23.lt gz_b9))).keep K33 (ninS (Nat.ne_of_lt (Nat.lt_of_lt_of_le pr23.lt gz_b20)) (ninS (Nat.ne_of_lt (Nat.lt_of_lt_of_le pr23.lt gz_b14)) nin0)))
  obtain ⟨cq49, kq49, q49a, q49b, q49c⟩ := isOf hZ e48 fc50.exa
  obtain ⟨_, _, ⟨T49, L49, kz49, nz49⟩, -, X49, ⟨Lc49, hQ49, l49, y49, z49⟩, st49⟩ := X48.virtualBack hx (y := (⟨"com/example/kleinmaschine/kleinmaschine/PagedBytes", "size", "()J"⟩ : MethodName)) (z := (⟨"com/example/kleinmaschine/kleinmaschine/PagedBytes", "size", "()J"⟩ : MethodName)) hown (mvT hZ (w_107 hw)) (mvT hZ (w_108 hw)) (notFace_of_selects (args := #[]) (mvT hZ (w_110 hw))) (mvT hZ (w_110 hw)) (mvT hZ (w_109 hw)) (by decide) (backOf (W := 2) (rm_PagedBytes_size_1 l Z a0 hw [] a7 a15 T33.heap n0 fc42 fc50) hZ (w_111 hw) (w_19 hw) (by decide) (by decide)) q49a q49c (g := (mkF m 255 #[.val (.ref a1), .val (.int 0), .val (.long q2), .second, .val (.ref a3), .val (.long 0), .second, .val (.int 0), .val (.int 0), .unset] [(.ref a7), (.int 0), (.ref a8)])) rfl (by rw [hml]; rfl) (Steps.refl _) (argsL := []) (rest := [(.int 0), (.ref a8)]) (lenOf pd__r_J rfl) rfl (by show 2 * 0 + _ ≤ _; exact Nat.le_of_eq rfl) (hb hby d_prog_52_method_3_255) (fun _ _ => ⟨rfl, e48, (by decide : 3 + 0 ≤ _), (by decide : 49152 + 0 ≤ _)⟩)
  dsimp only [Pt.U, Pt.locs, Pt.cells, Pt.slots] at X49 l49 y49 z49 st49 hQ49
  subst l49 y49 z49
  obtain ⟨hv49, N49q, e49⟩ := hQ49
  subst hv49
  have N49 := Fr.app N33 N49q
  replace k : Goes p e below s₁ G0 T49 (mkF m 258 #[.val (.ref a1), .val (.int 0), .val (.long q2), .second, .val (.ref a3), .val (.long 0), .second, .val (.int 0), .val (.int 0), .unset] [(.long 0), (.int 0), (.ref a8)]) := fun t q => k t (st49.trans q)
  obtain ⟨cl51, Ar51, hin51, -, kq51, -⟩ := Aw.open fc46 (j := (0 : Int32)) 0 (by decide) (by decide) (by decide)
  obtain ⟨T51, h51, X51, e51, W51, st51⟩ := stJ X49 hx hZ e49 Ar51 (j := (0 : Int32)) hin51 (g := (mkF m 258 #[.val (.ref a1), .val (.int 0), .val (.long q2), .second, .val (.ref a3), .val (.long 0), .second, .val (.int 0), .val (.int 0), .unset] [(.long 0), (.int 0), (.ref a8)])) rfl rfl (hb hby d_prog_52_method_3_258)
  have N51 := Fr.snoc X51 N49 pr27
  have V51 : Aw Z h51 a8 "[J" k14 .long 16 (updv (fun _ => (.long 0)) 0 (.long 0)) := Aw.set fc46 W51 0 (by decide) rfl
  replace k : Goes p e below s₁ G0 T51 (mkF m 259 #[.val (.ref a1), .val (.int 0), .val (.long q2), .second, .val (.ref a3), .val (.long 0), .second, .val (.int 0), .val (.int 0), .unset] []) := fun t q => k t (st51 _ q)
  replace k := Fw.aloadN k X51 hx (hb hby d_prog_52_method_3_259) rfl rfl (pc' := 260) rfl
  have fc52 := (fc39.other W51 pr28)
  obtain ⟨T53, X53, e53, st53⟩ := getF X51 hx hZ hown (host := "") (Or.inl (w_63 hw)) Via.refl e51 (Ob.at fc52 5 rfl) (g := (mkF m 260 #[.val (.ref a1), .val (.int 0), .val (.long q2), .second, .val (.ref a3), .val (.long 0), .second, .val (.int 0), .val (.int 0), .unset] [(.ref a1)])) rfl rfl (hb hby d_prog_52_method_3_260)
  replace k : Goes p e below s₁ G0 T53 (mkF m 263 #[.val (.ref a1), .val (.int 0), .val (.long q2), .second, .val (.ref a3), .val (.long 0), .second, .val (.int 0), .val (.int 0), .unset] [(.ref a9)]) := fun t q => k t (st53 _ q)
  replace k := Fw.iload k X53 hx (hb hby d_prog_52_method_3_263) rfl (pc' := 265) rfl
  replace k := Fw.aloadN k X53 hx (hb hby d_prog_52_method_3_265) rfl rfl (pc' := 266) rfl
  obtain ⟨T54, X54, e54, st54⟩ := getF X53 hx hZ hown (host := "") (Or.inl (w_114 hw)) Via.refl e53 (Ob.at fc52 9 rfl) (g := (mkF m 266 #[.val (.ref a1), .val (.int 0), .val (.long q2), .second, .val (.ref a3), .val (.long 0), .second, .val (.int 0), .val (.int 0), .unset] [(.ref a1), (.int 0), (.ref a9)])) rfl rfl (hb hby d_prog_52_method_3_266)
  replace k : Goes p e below s₁ G0 T54 (mkF m 269 #[.val (.ref a1), .val (.int 0), .val (.long q2), .second, .val (.ref a3), .val (.long 0), .second, .val (.int 0), .val (.int 0), .unset] [(.long 0), (.int 0), (.ref a9)]) := fun t q => k t (st54 _ q)
  have fc55 := (((((((((pr29.ext E9).other W11 pr30).ext E14).other W17 pr31).ext E20).other W23 pr32).other W30 (Nat.ne_of_lt (Nat.lt_of_lt_of_le pr29.lt gz_b9))).keep K33 (ninS (Nat.ne_of_lt (Nat.lt_of_lt_of_le pr29.lt gz_b20)) (ninS (Nat.ne_of_lt (Nat.lt_of_lt_of_le pr29.lt gz_b14)) nin0))).other W51 pr33)
  obtain ⟨cl56, Ar56, hin56, -, kq56, -⟩ := Aw.open fc55 (j := (0 : Int32)) 0 (by decide) (by decide) (by decide)
  obtain ⟨T56, h56, X56, e56, W56, st56⟩ := stJ X54 hx hZ e54 Ar56 (j := (0 : Int32)) hin56 (g := (mkF m 269 #[.val (.ref a1), .val (.int 0), .val (.long q2), .second, .val (.ref a3), .val (.long 0), .second, .val (.int 0), .val (.int 0), .unset] [(.long 0), (.int 0), (.ref a9)])) rfl rfl (hb hby d_prog_52_method_3_269)
  have N56 := Fr.snoc X56 N51 pr34
  have V56 : Aw Z h56 a9 "[J" k16 .long 16 (updv (fun _ => (.long 0)) 0 (.long 0)) := Aw.set fc55 W56 0 (by decide) rfl
  replace k : Goes p e below s₁ G0 T56 (mkF m 270 #[.val (.ref a1), .val (.int 0), .val (.long q2), .second, .val (.ref a3), .val (.long 0), .second, .val (.int 0), .val (.int 0), .unset] []) := fun t q => k t (st56 _ q)
  replace k := Fw.aloadN k X56 hx (hb hby d_prog_52_method_3_270) rfl rfl (pc' := 271) rfl
  have fc57 := (fc52.other W56 pr35)
  obtain ⟨T58, X58, e58, st58⟩ := getF X56 hx hZ hown (host := "") (Or.inl (w_65 hw)) Via.refl e56 (Ob.at fc57 6 rfl) (g := (mkF m 271 #[.val (.ref a1), .val (.int 0), .val (.long q2), .second, .val (.ref a3), .val (.long 0), .second, .val (.int 0), .val (.int 0), .unset] [(.ref a1)])) rfl rfl (hb hby d_prog_52_method_3_271)
  replace k : Goes p e below s₁ G0 T58 (mkF m 274 #[.val (.ref a1), .val (.int 0), .val (.long q2), .second, .val (.ref a3), .val (.long 0), .second, .val (.int 0), .val (.int 0), .unset] [(.ref a10)]) := fun t q => k t (st58 _ q)
  replace k := Fw.iload k X58 hx (hb hby d_prog_52_method_3_274) rfl (pc' := 276) rfl
  replace k := Fw.aloadN k X58 hx (hb hby d_prog_52_method_3_276) rfl rfl (pc' := 277) rfl
  obtain ⟨T59, X59, e59, st59⟩ := getF X58 hx hZ hown (host := "") (Or.inl (w_116 hw)) Via.refl e58 (Ob.at fc57 10 rfl) (g := (mkF m 277 #[.val (.ref a1), .val (.int 0), .val (.long q2), .second, .val (.ref a3), .val (.long 0), .second, .val (.int 0), .val (.int 0), .unset] [(.ref a1), (.int 0), (.ref a10)])) rfl rfl (hb hby d_prog_52_method_3_277)
  replace k : Goes p e below s₁ G0 T59 (mkF m 280 #[.val (.ref a1), .val (.int 0), .val (.long q2), .second, .val (.ref a3), .val (.long 0), .second, .val (.int 0), .val (.int 0), .unset] [(.long 0), (.int 0), (.ref a10)]) := fun t q => k t (st59 _ q)
  have fc60 := ((((((((((pr36.ext E9).other W11 pr37).ext E14).other W17 pr38).ext E20).other W23 pr39).other W30 (Nat.ne_of_lt (Nat.lt_of_lt_of_le pr36.lt gz_b9))).keep K33 (ninS (Nat.ne_of_lt (Nat.lt_of_lt_of_le pr36.lt gz_b20)) (ninS (Nat.ne_of_lt (Nat.lt_of_lt_of_le pr36.lt gz_b14)) nin0))).other W51 pr40).other W56 pr41)
  obtain ⟨cl61, Ar61, hin61, -, kq61, -⟩ := Aw.open fc60 (j := (0 : Int32)) 0 (by decide) (by decide) (by decide)
  obtain ⟨T61, h61, X61, e61, W61, st61⟩ := stJ X59 hx hZ e59 Ar61 (j := (0 : Int32)) hin61 (g := (mkF m 280 #[.val (.ref a1), .val (.int 0), .val (.long q2), .second, .val (.ref a3), .val (.long 0), .second, .val (.int 0), .val (.int 0), .unset] [(.long 0), (.int 0), (.ref a10)])) rfl rfl (hb hby d_prog_52_method_3_280)
  have N61 := Fr.snoc X61 N56 pr42
  have V61 : Aw Z h61 a10 "[J" k17 .long 16 (updv (fun _ => (.long 0)) 0 (.long 0)) := Aw.set fc60 W61 0 (by decide) rfl
  replace k : Goes p e below s₁ G0 T61 (mkF m 281 #[.val (.ref a1), .val (.int 0), .val (.long q2), .second, .val (.ref a3), .val (.long 0), .second, .val (.int 0), .val (.int 0), .unset] []) := fun t q => k t (st61 _ q)
  replace k := Fw.aload k X61 hx (hb hby d_prog_52_method_3_281) rfl rfl (pc' := 283) rfl
  have fc63 := (((((((((((pr43.ext E9).other W11 pr44).ext E14).other W17 pr45).ext E20).other W23 pr46).other W30 (Nat.ne_of_lt (Nat.lt_of_lt_of_le pr43.lt gz_b9))).keep K33 (ninS (Nat.ne_of_lt (Nat.lt_of_lt_of_le pr43.lt gz_b20)) (ninS (Nat.ne_of_lt (Nat.lt_of_lt_of_le pr43.lt gz_b14)) nin0))).other W51 pr47).other W56 pr48).other W61 pr49)
  have fc64 := (((fc42.wr W51 pr27).wr W56 pr34).wr W61 pr42)
  obtain ⟨cq62, kq62, q62a, q62b, q62c⟩ := isOf hZ e61 fc63.exa
  obtain ⟨_, _, ⟨T62, L62, kz62, nz62⟩, -, X62, ⟨Lc62, hQ62, l62, y62, z62⟩, st62⟩ := X61.virtualBack hx (y := (⟨"com/example/kleinmaschine/kleinmaschine/Position", "line", "()J"⟩ : MethodName)) (z := (⟨"com/example/kleinmaschine/kleinmaschine/Position", "line", "()J"⟩ : MethodName)) hown (mvT hZ (w_118 hw)) (mvT hZ (w_119 hw)) (notFace_of_selects (args := #[]) (mvT hZ (w_121 hw))) (mvT hZ (w_121 hw)) (mvT hZ (w_120 hw)) (by decide) (backOf (W := 0) (rm_Position_line_1 l Z a0 hw [] a3 h61 n0 fc64 fc63) hZ (w_122 hw) (w_69 hw) (by decide) (by decide)) q62a q62c (g := (mkF m 283 #[.val (.ref a1), .val (.int 0), .val (.long q2), .second, .val (.ref a3), .val (.long 0), .second, .val (.int 0), .val (.int 0), .unset] [(.ref a3)])) rfl (by rw [hml]; rfl) (Steps.refl _) (argsL := []) (rest := []) (lenOf pd__r_J rfl) rfl (by show 2 * 0 + _ ≤ _; exact Nat.le_of_eq rfl) (hb hby d_prog_52_method_3_283) (fun _ _ => ⟨rfl, e61, (by decide : 3 + 0 ≤ _), (by decide : 49152 + 0 ≤ _)⟩)
  dsimp only [Pt.U, Pt.locs, Pt.cells, Pt.slots] at X62 l62 y62 z62 st62 hQ62
  subst l62 y62 z62
  obtain ⟨hv62, N62q, e62⟩ := hQ62
  subst hv62
  have N62 := Fr.app N61 N62q
  replace k : Goes p e below s₁ G0 T62 (mkF m 286 #[.val (.ref a1), .val (.int 0), .val (.long q2), .second, .val (.ref a3), .val (.long 0), .second, .val (.int 0), .val (.int 0), .unset] [(.long 1)]) := fun t q => k t (st62.trans q)
  replace k := Fw.aloadN k X62 hx (hb hby d_prog_52_method_3_286) rfl rfl (pc' := 287) rfl
  have fc65 := (fc57.other W61 pr50)
  obtain ⟨T66, X66, e66, st66⟩ := getF X62 hx hZ hown (host := "") (Or.inl (w_114 hw)) Via.refl e62 (Ob.at fc65 9 rfl) (g := (mkF m 287 #[.val (.ref a1), .val (.int 0), .val (.long q2), .second, .val (.ref a3), .val (.long 0), .second, .val (.int 0), .val (.int 0), .unset] [(.ref a1), (.long 1)])) rfl rfl (hb hby d_prog_52_method_3_287)
  replace k : Goes p e below s₁ G0 T66 (mkF m 290 #[.val (.ref a1), .val (.int 0), .val (.long q2), .second, .val (.ref a3), .val (.long 0), .second, .val (.int 0), .val (.int 0), .unset] [(.long 0), (.long 1)]) := fun t q => k t (st66 _ q)
  replace k := Fw.lsub k X66 hx (hb hby d_prog_52_method_3_290) (z := (1 : Int64)) (by decide) (pc' := 291) rfl
  replace k := Fw.lstore k X66 hx (hb hby d_prog_52_method_3_291)  (Ls' := #[.val (.ref a1), .val (.int 0), .val (.long q2), .second, .val (.ref a3), .val (.long 0), .second, .val (.int 0), .val (.long 1), .second]) rfl (pc' := 293) rfl
  replace k := Fw.aloadN k X66 hx (hb hby d_prog_52_method_3_293) rfl rfl (pc' := 294) rfl
  obtain ⟨T67, X67, e67, st67⟩ := getF X66 hx hZ hown (host := "") (Or.inl (w_58 hw)) Via.refl e66 (Ob.at fc65 3 rfl) (g := (mkF m 294 #[.val (.ref a1), .val (.int 0), .val (.long q2), .second, .val (.ref a3), .val (.long 0), .second, .val (.int 0), .val (.long 1), .second] [(.ref a1)])) rfl rfl (hb hby d_prog_52_method_3_294)
  replace k : Goes p e below s₁ G0 T67 (mkF m 297 #[.val (.ref a1), .val (.int 0), .val (.long q2), .second, .val (.ref a3), .val (.long 0), .second, .val (.int 0), .val (.long 1), .second] [(.ref a7)]) := fun t q => k t (st67 _ q)
  replace k := Fw.lload k X67 hx (hb hby d_prog_52_method_3_297) rfl (pc' := 299) rfl
  have fc69 := (((fc50.other W51 pr55).other W56 pr56).other W61 pr57)
  have fc70 := (((((((((((pr52.ext E9).other W11 pr58).ext E14).other W17 pr59).ext E20).other W23 pr60).other W30 (Nat.ne_of_lt (Nat.lt_of_lt_of_le pr52.lt gz_b9))).keep K33 (ninS (Nat.ne_of_lt (Nat.lt_of_lt_of_le pr52.lt gz_b20)) (ninS (Nat.ne_of_lt (Nat.lt_of_lt_of_le pr52.lt gz_b14)) nin0))).other W51 pr61).other W56 pr62).other W61 pr63)
  obtain ⟨cq68, kq68, q68a, q68b, q68c⟩ := isOf hZ e67 fc69.exa
  obtain ⟨_, _, ⟨T68, L68, kz68, nz68⟩, -, X68, ⟨Lc68, hQ68, l68, y68, z68⟩, st68⟩ := X67.virtualBack hx (y := (⟨"com/example/kleinmaschine/kleinmaschine/PagedBytes", "writeNumber", "(J)V"⟩ : MethodName)) (z := (⟨"com/example/kleinmaschine/kleinmaschine/PagedBytes", "writeNumber", "(J)V"⟩ : MethodName)) hown (mvT hZ (w_123 hw)) (mvT hZ (w_124 hw)) (notFace_of_selects (args := #[]) (mvT hZ (w_126 hw))) (mvT hZ (w_126 hw)) (mvT hZ (w_125 hw)) (by decide) (backOf (W := 0) (rm_PagedBytes_writeNumber_1 l Z a0 hw [] a7 a15 w_DE kW_DE h61 n0 fc64 fc69 pr51 fc70 pr53 pr54 pr64 pr65) hZ (w_127 hw) (w_19 hw) (by decide) (by decide)) q68a q68c (g := (mkF m 299 #[.val (.ref a1), .val (.int 0), .val (.long q2), .second, .val (.ref a3), .val (.long 0), .second, .val (.int 0), .val (.long 1), .second] [(.long 1), (.ref a7)])) rfl (by rw [hml]; rfl) (Steps.refl _) (argsL := [(.long 1)]) (rest := []) (lenOf pd_J_r_V rfl) rfl (by show 2 * 0 + _ ≤ _; exact Nat.le_of_eq rfl) (hb hby d_prog_52_method_3_299) (fun _ _ => ⟨rfl, e67, (by decide : 3 + 2 ≤ _), (by decide : 49152 + 65546 ≤ _)⟩)
  dsimp only [Pt.U, Pt.locs, Pt.cells, Pt.slots] at X68 l68 y68 z68 st68 hQ68
  subst l68 y68 z68
  obtain ⟨b6_2_2_5_7_1_1_1_68, b2_1_1_1_68, kA6_2_2_5_7_1_1_1_68, kA2_1_1_1_68, hv68, N68q, K68, f68_0, f68_1, f68_2, f68_3, f68_4, f68_5, f68_6, f68_7⟩ := hQ68
  subst hv68
  have N68 := Fr.app N62 N68q
  have fc71 := (Nat.le_trans (Nat.le_trans (Nat.le_trans (Nat.le_trans (Nat.le_trans (Nat.le_trans (Nat.le_trans fc21 E20.1) (Nat.le_of_eq (Wr.size W23).symm)) (Nat.le_of_eq (Wr.size W30).symm)) K33.1) (Nat.le_of_eq (Wr.size W51).symm)) (Nat.le_of_eq (Wr.size W56).symm)) (Nat.le_of_eq (Wr.size W61).symm))
  have gz_b6_2_2_5_7_1_1_1_68 : h0.size ≤ b6_2_2_5_7_1_1_1_68 := Nat.le_trans fc71 f68_0
  have gz_b2_1_1_1_68 : h0.size ≤ b2_1_1_1_68 := Nat.le_trans fc71 f68_1
  replace k : Goes p e below s₁ G0 T68 (mkF m 302 #[.val (.ref a1), .val (.int 0), .val (.long q2), .second, .val (.ref a3), .val (.long 0), .second, .val (.int 0), .val (.long 1), .second] []) := fun t q => k t (st68.trans q)
  replace k := Fw.aloadN k X68 hx (hb hby d_prog_52_method_3_302) rfl rfl (pc' := 303) rfl
  have fc72 := (fc65.keep K68 (ninS pr66 (ninS pr67 nin0)))
  obtain ⟨T73, X73, e73, st73⟩ := getF X68 hx hZ hown (host := "") (Or.inl (w_58 hw)) Via.refl rfl (Ob.at fc72 3 rfl) (g := (mkF m 303 #[.val (.ref a1), .val (.int 0), .val (.long q2), .second, .val (.ref a3), .val (.long 0), .second, .val (.int 0), .val (.long 1), .second] [(.ref a1)])) rfl rfl (hb hby d_prog_52_method_3_303)
  replace k : Goes p e below s₁ G0 T73 (mkF m 306 #[.val (.ref a1), .val (.int 0), .val (.long q2), .second, .val (.ref a3), .val (.long 0), .second, .val (.int 0), .val (.long 1), .second] [(.ref a7)]) := fun t q => k t (st73 _ q)
  replace k := Fw.lload k X73 hx (hb hby d_prog_52_method_3_306) rfl (pc' := 308) rfl
  replace k := Fw.lconst k X73 hx (hb hby d_prog_52_method_3_308) (z := (0 : Int64)) (by decide) (pc' := 309) rfl
  replace k : Goes p e below s₁ G0 T73 (mkF m 310 #[.val (.ref a1), .val (.int 0), .val (.long q2), .second, .val (.ref a3), .val (.long 0), .second, .val (.int 0), .val (.long 1), .second] [(.int 1), (.ref a7)]) := Fw.lcmp k X73 hx (hb hby d_prog_52_method_3_309) rfl
  replace k := Fw.ifYes k X73 hx (hb hby d_prog_52_method_3_310) ((if0 _ _).trans (feq (show ¬ ((1 : Int32) = (0 : Int32)) from by decide)).2) (by decide) (pc' := 326) rfl
  replace k := Fw.aload k X73 hx (hb hby d_prog_52_method_3_326) rfl rfl (pc' := 328) rfl
  have fc75 := (fc63.keep K68 (ninS pr68 (ninS pr69 nin0)))
  have fc76 := (fc64.keep K68 (allS pr53 (allS pr51 all0)))
  obtain ⟨cq74, kq74, q74a, q74b, q74c⟩ := isOf hZ e73 fc75.exa
  obtain ⟨_, _, ⟨T74, L74, kz74, nz74⟩, -, X74, ⟨Lc74, hQ74, l74, y74, z74⟩, st74⟩ := X73.virtualBack hx (y := (⟨"com/example/kleinmaschine/kleinmaschine/Position", "column", "()J"⟩ : MethodName)) (z := (⟨"com/example/kleinmaschine/kleinmaschine/Position", "column", "()J"⟩ : MethodName)) hown (mvT hZ (w_184 hw)) (mvT hZ (w_185 hw)) (notFace_of_selects (args := #[]) (mvT hZ (w_187 hw))) (mvT hZ (w_187 hw)) (mvT hZ (w_186 hw)) (by decide) (backOf (W := 1) (rm_Position_column_1 l Z a0 hw [] a3 T68.heap n0 fc76 fc75) hZ (w_188 hw) (w_69 hw) (by decide) (by decide)) q74a q74c (g := (mkF m 328 #[.val (.ref a1), .val (.int 0), .val (.long q2), .second, .val (.ref a3), .val (.long 0), .second, .val (.int 0), .val (.long 1), .second] [(.ref a3), (.ref a7)])) rfl (by rw [hml]; rfl) (Steps.refl _) (argsL := []) (rest := [(.ref a7)]) (lenOf pd__r_J rfl) rfl (by show 2 * 0 + _ ≤ _; exact Nat.le_of_eq rfl) (hb hby d_prog_52_method_3_328) (fun _ _ => ⟨rfl, e73, (by decide : 5 + 0 ≤ _), (by decide : 114698 + 0 ≤ _)⟩)
  dsimp only [Pt.U, Pt.locs, Pt.cells, Pt.slots] at X74 l74 y74 z74 st74 hQ74
  subst l74 y74 z74
  obtain ⟨hv74, N74q, e74⟩ := hQ74
  subst hv74
  have N74 := Fr.app N68 N74q
  replace k : Goes p e below s₁ G0 T74 (mkF m 331 #[.val (.ref a1), .val (.int 0), .val (.long q2), .second, .val (.ref a3), .val (.long 0), .second, .val (.int 0), .val (.long 1), .second] [(.long 1), (.ref a7)]) := fun t q => k t (st74.trans q)
  obtain ⟨cq77, kq77, q77a, q77b, q77c⟩ := isOf hZ e74 f68_4.exa
  obtain ⟨_, _, ⟨T77, L77, kz77, nz77⟩, -, X77, ⟨Lc77, hQ77, l77, y77, z77⟩, st77⟩ := X74.virtualBack hx (y := (⟨"com/example/kleinmaschine/kleinmaschine/PagedBytes", "writeNumber", "(J)V"⟩ : MethodName)) (z := (⟨"com/example/kleinmaschine/kleinmaschine/PagedBytes", "writeNumber", "(J)V"⟩ : MethodName)) hown (mvT hZ (w_123 hw)) (mvT hZ (w_124 hw)) (notFace_of_selects (args := #[]) (mvT hZ (w_126 hw))) (mvT hZ (w_126 hw)) (mvT hZ (w_125 hw)) (by decide) (backOf (W := 0) (rm_PagedBytes_writeNumber_3 l Z a0 hw [] a7 a15 b2_1_1_1_68 kA2_1_1_1_68 T68.heap n0 fc76 f68_4 pr51 f68_7 (Ne.symm (Nat.ne_of_lt (Nat.lt_of_lt_of_le pr23.lt gz_b2_1_1_1_68))) (Nat.le_trans (old_le O0) gz_b2_1_1_1_68)) hZ (w_127 hw) (w_19 hw) (by decide) (by decide)) q77a q77c (g := (mkF m 331 #[.val (.ref a1), .val (.int 0), .val (.long q2), .second, .val (.ref a3), .val (.long 0), .second, .val (.int 0), .val (.long 1), .second] [(.long 1), (.ref a7)])) rfl (by rw [hml]; rfl) (Steps.refl _) (argsL := [(.long 1)]) (rest := []) (lenOf pd_J_r_V rfl) rfl (by show 2 * 0 + _ ≤ _; exact Nat.le_of_eq rfl) (hb hby d_prog_52_method_3_331) (fun _ _ => ⟨rfl, e74, (by decide : 5 + 0 ≤ _), (by decide : 114698 + 0 ≤ _)⟩)
  dsimp only [Pt.U, Pt.locs, Pt.cells, Pt.slots] at X77 l77 y77 z77 st77 hQ77
  subst l77 y77 z77
  obtain ⟨hv77, N77q, K77, f77_0, f77_1⟩ := hQ77
  subst hv77
  have N77 := Fr.app N74 N77q
  replace k : Goes p e below s₁ G0 T77 (mkF m 334 #[.val (.ref a1), .val (.int 0), .val (.long q2), .second, .val (.ref a3), .val (.long 0), .second, .val (.int 0), .val (.long 1), .second] []) := fun t q => k t (st77.trans q)
  replace k := Fw.aloadN k X77 hx (hb hby d_prog_52_method_3_334) rfl rfl (pc' := 335) rfl
  have fc78 := (fc72.keep K77 (ninS (Nat.ne_of_lt (Nat.lt_of_lt_of_le pr1.lt gz_b2_1_1_1_68)) (ninS pr67 nin0)))
  obtain ⟨T79, X79, e79, st79⟩ := getF X77 hx hZ hown (host := "") (Or.inl (w_58 hw)) Via.refl rfl (Ob.at fc78 3 rfl) (g := (mkF m 335 #[.val (.ref a1), .val (.int 0), .val (.long q2), .second, .val (.ref a3), .val (.long 0), .second, .val (.int 0), .val (.long 1), .second] [(.ref a1)])) rfl rfl (hb hby d_prog_52_method_3_335)
  replace k : Goes p e below s₁ G0 T79 (mkF m 338 #[.val (.ref a1), .val (.int 0), .val (.long q2), .second, .val (.ref a3), .val (.long 0), .second, .val (.int 0), .val (.long 1), .second] [(.ref a7)]) := fun t q => k t (st79 _ q)
  replace k := Fw.lload k X79 hx (hb hby d_prog_52_method_3_338) rfl (pc' := 340) rfl
  have fc81 := (fc76.keep K77 (allS (Nat.le_trans (old_le O0) gz_b2_1_1_1_68) (allS pr51 all0)))
  obtain ⟨cq80, kq80, q80a, q80b, q80c⟩ := isOf hZ e79 f77_1.exa
  obtain ⟨_, _, ⟨T80, L80, kz80, nz80⟩, -, X80, ⟨Lc80, hQ80, l80, y80, z80⟩, st80⟩ := X79.virtualBack hx (y := (⟨"com/example/kleinmaschine/kleinmaschine/PagedBytes", "writeNumber", "(J)V"⟩ : MethodName)) (z := (⟨"com/example/kleinmaschine/kleinmaschine/PagedBytes", "writeNumber", "(J)V"⟩ : MethodName)) hown (mvT hZ (w_123 hw)) (mvT hZ (w_124 hw)) (notFace_of_selects (args := #[]) (mvT hZ (w_126 hw))) (mvT hZ (w_126 hw)) (mvT hZ (w_125 hw)) (by decide) (backOf (W := 0) (rm_PagedBytes_writeNumber_5 l Z a0 hw [] a7 a15 b2_1_1_1_68 kA2_1_1_1_68 T77.heap n0 fc81 f77_1 pr51 f77_0 (Ne.symm (Nat.ne_of_lt (Nat.lt_of_lt_of_le pr23.lt gz_b2_1_1_1_68))) (Nat.le_trans (old_le O0) gz_b2_1_1_1_68)) hZ (w_127 hw) (w_19 hw) (by decide) (by decide)) q80a q80c (g := (mkF m 340 #[.val (.ref a1), .val (.int 0), .val (.long q2), .second, .val (.ref a3), .val (.long 0), .second, .val (.int 0), .val (.long 1), .second] [(.long 0), (.ref a7)])) rfl (by rw [hml]; rfl) (Steps.refl _) (argsL := [(.long 0)]) (rest := []) (lenOf pd_J_r_V rfl) rfl (by show 2 * 0 + _ ≤ _; exact Nat.le_of_eq rfl) (hb hby d_prog_52_method_3_340) (fun _ _ => ⟨rfl, e79, (by decide : 5 + 0 ≤ _), (by decide : 114698 + 0 ≤ _)⟩)
  dsimp only [Pt.U, Pt.locs, Pt.cells, Pt.slots] at X80 l80 y80 z80 st80 hQ80
  subst l80 y80 z80
  obtain ⟨hv80, N80q, K80, f80_0, f80_1⟩ := hQ80
  subst hv80
  have N80 := Fr.app N77 N80q
  replace k : Goes p e below s₁ G0 T80 (mkF m 343 #[.val (.ref a1), .val (.int 0), .val (.long q2), .second, .val (.ref a3), .val (.long 0), .second, .val (.int 0), .val (.long 1), .second] []) := fun t q => k t (st80.trans q)
  replace k := Fw.aloadN k X80 hx (hb hby d_prog_52_method_3_343) rfl rfl (pc' := 344) rfl
  replace k := Fw.aload k X80 hx (hb hby d_prog_52_method_3_344) rfl rfl (pc' := 346) rfl
  have fc83 := ((fc75.keep K77 (ninS (Nat.ne_of_lt (Nat.lt_of_lt_of_le pr43.lt gz_b2_1_1_1_68)) (ninS pr69 nin0))).keep K80 (ninS (Nat.ne_of_lt (Nat.lt_of_lt_of_le pr43.lt gz_b2_1_1_1_68)) (ninS pr69 nin0)))
  have fc84 := (fc81.keep K80 (allS (Nat.le_trans (old_le O0) gz_b2_1_1_1_68) (allS pr51 all0)))
  obtain ⟨cq82, kq82, q82a, q82b, q82c⟩ := isOf hZ rfl fc83.exa
  obtain ⟨_, _, ⟨T82, L82, kz82, nz82⟩, -, X82, ⟨Lc82, hQ82, l82, y82, z82⟩, st82⟩ := X80.virtualBack hx (y := (⟨"com/example/kleinmaschine/kleinmaschine/Position", "line", "()J"⟩ : MethodName)) (z := (⟨"com/example/kleinmaschine/kleinmaschine/Position", "line", "()J"⟩ : MethodName)) hown (mvT hZ (w_118 hw)) (mvT hZ (w_119 hw)) (notFace_of_selects (args := #[]) (mvT hZ (w_121 hw))) (mvT hZ (w_121 hw)) (mvT hZ (w_120 hw)) (by decide) (backOf (W := 1) (rm_Position_line_1 l Z a0 hw [] a3 T80.heap n0 fc84 fc83) hZ (w_122 hw) (w_69 hw) (by decide) (by decide)) q82a q82c (g := (mkF m 346 #[.val (.ref a1), .val (.int 0), .val (.long q2), .second, .val (.ref a3), .val (.long 0), .second, .val (.int 0), .val (.long 1), .second] [(.ref a3), (.ref a1)])) rfl (by rw [hml]; rfl) (Steps.refl _) (argsL := []) (rest := [(.ref a1)]) (lenOf pd__r_J rfl) rfl (by show 2 * 0 + _ ≤ _; exact Nat.le_of_eq rfl) (hb hby d_prog_52_method_3_346) (fun _ _ => ⟨rfl, rfl, (by decide : 5 + 0 ≤ _), (by decide : 114698 + 0 ≤ _)⟩)
  dsimp only [Pt.U, Pt.locs, Pt.cells, Pt.slots] at X82 l82 y82 z82 st82 hQ82
  subst l82 y82 z82
  obtain ⟨hv82, N82q, e82⟩ := hQ82
  subst hv82
  have N82 := Fr.app N80 N82q
  replace k : Goes p e below s₁ G0 T82 (mkF m 349 #[.val (.ref a1), .val (.int 0), .val (.long q2), .second, .val (.ref a3), .val (.long 0), .second, .val (.int 0), .val (.long 1), .second] [(.long 1), (.ref a1)]) := fun t q => k t (st82.trans q)
  have fc85 := (fc78.keep K80 (ninS (Nat.ne_of_lt (Nat.lt_of_lt_of_le pr1.lt gz_b2_1_1_1_68)) (ninS pr67 nin0)))
  obtain ⟨T86, h86, X86, e86, W86, st86⟩ := putF X82 hx hZ hown (host := "") (Or.inl (w_114 hw)) Via.refl e82 (Ob.at fc85 9 rfl) fc85.exa (Or.inl (w_115 hw)) (w_1 hw) (ty := .long) (by decide +kernel) rfl rfl (g := (mkF m 349 #[.val (.ref a1), .val (.int 0), .val (.long q2), .second, .val (.ref a3), .val (.long 0), .second, .val (.int 0), .val (.long 1), .second] [(.long 1), (.ref a1)])) rfl rfl (hb hby d_prog_52_method_3_349)
  have N86 := Fr.snoc X86 N82 pr70
  have O86 : Ob Z h86 a1 "com/example/kleinmaschine/kleinmaschine/Statements" [("com/example/kleinmaschine/kleinmaschine/Statements", "headPages", "[[I", (.ref a4)), ("com/example/kleinmaschine/kleinmaschine/Statements", "upperPages", "[[I", (.ref a5)), ("com/example/kleinmaschine/kleinmaschine/Statements", "lowerPages", "[[I", (.ref a6)), ("com/example/kleinmaschine/kleinmaschine/Statements", "records", "Lcom/example/kleinmaschine/kleinmaschine/PagedBytes;", (.ref a7)), ("com/example/kleinmaschine/kleinmaschine/Statements", "checkpointPlaces", "[J", (.ref a8)), ("com/example/kleinmaschine/kleinmaschine/Statements", "checkpointLines", "[J", (.ref a9)), ("com/example/kleinmaschine/kleinmaschine/Statements", "checkpointColumns", "[J", (.ref a10)), ("com/example/kleinmaschine/kleinmaschine/Statements", "heads", "[I", .null), ("com/example/kleinmaschine/kleinmaschine/Statements", "size", "I", (.int 0)), ("com/example/kleinmaschine/kleinmaschine/Statements", "lastLine", "J", (.long 1)), ("com/example/kleinmaschine/kleinmaschine/Statements", "lastColumn", "J", (.long 0)), ("com/example/kleinmaschine/kleinmaschine/Statements", "uppers", "[I", .null), ("com/example/kleinmaschine/kleinmaschine/Statements", "lowers", "[I", .null)] := Ob.put fc85 (lay_Statements hw) 9 rfl W86
  replace k : Goes p e below s₁ G0 T86 (mkF m 352 #[.val (.ref a1), .val (.int 0), .val (.long q2), .second, .val (.ref a3), .val (.long 0), .second, .val (.int 0), .val (.long 1), .second] []) := fun t q => k t (st86 _ q)
  replace k := Fw.aloadN k X86 hx (hb hby d_prog_52_method_3_352) rfl rfl (pc' := 353) rfl
  replace k := Fw.aload k X86 hx (hb hby d_prog_52_method_3_353) rfl rfl (pc' := 355) rfl
  have fc88 := (fc83.other W86 pr71)
  have fc89 := (fc84.wr W86 pr70)
  obtain ⟨cq87, kq87, q87a, q87b, q87c⟩ := isOf hZ e86 fc88.exa
  obtain ⟨_, _, ⟨T87, L87, kz87, nz87⟩, -, X87, ⟨Lc87, hQ87, l87, y87, z87⟩, st87⟩ := X86.virtualBack hx (y := (⟨"com/example/kleinmaschine/kleinmaschine/Position", "column", "()J"⟩ : MethodName)) (z := (⟨"com/example/kleinmaschine/kleinmaschine/Position", "column", "()J"⟩ : MethodName)) hown (mvT hZ (w_184 hw)) (mvT hZ (w_185 hw)) (notFace_of_selects (args := #[]) (mvT hZ (w_187 hw))) (mvT hZ (w_187 hw)) (mvT hZ (w_186 hw)) (by decide) (backOf (W := 1) (rm_Position_column_1 l Z a0 hw [] a3 h86 n0 fc89 fc88) hZ (w_188 hw) (w_69 hw) (by decide) (by decide)) q87a q87c (g := (mkF m 355 #[.val (.ref a1), .val (.int 0), .val (.long q2), .second, .val (.ref a3), .val (.long 0), .second, .val (.int 0), .val (.long 1), .second] [(.ref a3), (.ref a1)])) rfl (by rw [hml]; rfl) (Steps.refl _) (argsL := []) (rest := [(.ref a1)]) (lenOf pd__r_J rfl) rfl (by show 2 * 0 + _ ≤ _; exact Nat.le_of_eq rfl) (hb hby d_prog_52_method_3_355) (fun _ _ => ⟨rfl, e86, (by decide : 5 + 0 ≤ _), (by decide : 114698 + 0 ≤ _)⟩)
  dsimp only [Pt.U, Pt.locs, Pt.cells, Pt.slots] at X87 l87 y87 z87 st87 hQ87
  subst l87 y87 z87
  obtain ⟨hv87, N87q, e87⟩ := hQ87
  subst hv87
  have N87 := Fr.app N86 N87q
  replace k : Goes p e below s₁ G0 T87 (mkF m 358 #[.val (.ref a1), .val (.int 0), .val (.long q2), .second, .val (.ref a3), .val (.long 0), .second, .val (.int 0), .val (.long 1), .second] [(.long 1), (.ref a1)]) := fun t q => k t (st87.trans q)
  obtain ⟨T90, h90, X90, e90, W90, st90⟩ := putF X87 hx hZ hown (host := "") (Or.inl (w_116 hw)) Via.refl e87 (Ob.at O86 10 rfl) O86.exa (Or.inl (w_117 hw)) (w_1 hw) (ty := .long) (by decide +kernel) rfl rfl (g := (mkF m 358 #[.val (.ref a1), .val (.int 0), .val (.long q2), .second, .val (.ref a3), .val (.long 0), .second, .val (.int 0), .val (.long 1), .second] [(.long 1), (.ref a1)])) rfl rfl (hb hby d_prog_52_method_3_358)
  have N90 := Fr.snoc X90 N87 pr70
  have O90 : Ob Z h90 a1 "com/example/kleinmaschine/kleinmaschine/Statements" [("com/example/kleinmaschine/kleinmaschine/Statements", "headPages", "[[I", (.ref a4)), ("com/example/kleinmaschine/kleinmaschine/Statements", "upperPages", "[[I", (.ref a5)), ("com/example/kleinmaschine/kleinmaschine/Statements", "lowerPages", "[[I", (.ref a6)), ("com/example/kleinmaschine/kleinmaschine/Statements", "records", "Lcom/example/kleinmaschine/kleinmaschine/PagedBytes;", (.ref a7)), ("com/example/kleinmaschine/kleinmaschine/Statements", "checkpointPlaces", "[J", (.ref a8)), ("com/example/kleinmaschine/kleinmaschine/Statements", "checkpointLines", "[J", (.ref a9)), ("com/example/kleinmaschine/kleinmaschine/Statements", "checkpointColumns", "[J", (.ref a10)), ("com/example/kleinmaschine/kleinmaschine/Statements", "heads", "[I", .null), ("com/example/kleinmaschine/kleinmaschine/Statements", "size", "I", (.int 0)), ("com/example/kleinmaschine/kleinmaschine/Statements", "lastLine", "J", (.long 1)), ("com/example/kleinmaschine/kleinmaschine/Statements", "lastColumn", "J", (.long 1)), ("com/example/kleinmaschine/kleinmaschine/Statements", "uppers", "[I", .null), ("com/example/kleinmaschine/kleinmaschine/Statements", "lowers", "[I", .null)] := Ob.put O86 (lay_Statements hw) 10 rfl W90
  replace k : Goes p e below s₁ G0 T90 (mkF m 361 #[.val (.ref a1), .val (.int 0), .val (.long q2), .second, .val (.ref a3), .val (.long 0), .second, .val (.int 0), .val (.long 1), .second] []) := fun t q => k t (st90 _ q)
  replace k := Fw.aloadN k X90 hx (hb hby d_prog_52_method_3_361) rfl rfl (pc' := 362) rfl
  replace k := Fw.dup k X90 hx (hb hby d_prog_52_method_3_362) rfl (pc' := 363) rfl
  obtain ⟨T91, X91, e91, st91⟩ := getF X90 hx hZ hown (host := "") (Or.inl (w_94 hw)) Via.refl e90 (Ob.at O90 8 rfl) (g := (mkF m 363 #[.val (.ref a1), .val (.int 0), .val (.long q2), .second, .val (.ref a3), .val (.long 0), .second, .val (.int 0), .val (.long 1), .second] [(.ref a1), (.ref a1)])) rfl rfl (hb hby d_prog_52_method_3_363)
  replace k : Goes p e below s₁ G0 T91 (mkF m 366 #[.val (.ref a1), .val (.int 0), .val (.long q2), .second, .val (.ref a3), .val (.long 0), .second, .val (.int 0), .val (.long 1), .second] [(.int 0), (.ref a1)]) := fun t q => k t (st91 _ q)
  replace k := Fw.dupX1 k X91 hx (hb hby d_prog_52_method_3_366) rfl rfl (pc' := 367) rfl
  replace k := Fw.iconst k X91 hx (hb hby d_prog_52_method_3_367) (z := (1 : Int32)) (by decide) (pc' := 368) rfl
  replace k := Fw.iadd k X91 hx (hb hby d_prog_52_method_3_368) (z := (1 : Int32)) (by decide) (pc' := 369) rfl
  obtain ⟨T92, h92, X92, e92, W92, st92⟩ := putF X91 hx hZ hown (host := "") (Or.inl (w_94 hw)) Via.refl e91 (Ob.at O90 8 rfl) O90.exa (Or.inl (w_95 hw)) (w_1 hw) (ty := .int) (by decide +kernel) rfl rfl (g := (mkF m 369 #[.val (.ref a1), .val (.int 0), .val (.long q2), .second, .val (.ref a3), .val (.long 0), .second, .val (.int 0), .val (.long 1), .second] [(.int 1), (.ref a1), (.int 0)])) rfl rfl (hb hby d_prog_52_method_3_369)
  have N92 := Fr.snoc X92 N90 pr70
  have O92 : Ob Z h92 a1 "com/example/kleinmaschine/kleinmaschine/Statements" [("com/example/kleinmaschine/kleinmaschine/Statements", "headPages", "[[I", (.ref a4)), ("com/example/kleinmaschine/kleinmaschine/Statements", "upperPages", "[[I", (.ref a5)), ("com/example/kleinmaschine/kleinmaschine/Statements", "lowerPages", "[[I", (.ref a6)), ("com/example/kleinmaschine/kleinmaschine/Statements", "records", "Lcom/example/kleinmaschine/kleinmaschine/PagedBytes;", (.ref a7)), ("com/example/kleinmaschine/kleinmaschine/Statements", "checkpointPlaces", "[J", (.ref a8)), ("com/example/kleinmaschine/kleinmaschine/Statements", "checkpointLines", "[J", (.ref a9)), ("com/example/kleinmaschine/kleinmaschine/Statements", "checkpointColumns", "[J", (.ref a10)), ("com/example/kleinmaschine/kleinmaschine/Statements", "heads", "[I", .null), ("com/example/kleinmaschine/kleinmaschine/Statements", "size", "I", (.int 1)), ("com/example/kleinmaschine/kleinmaschine/Statements", "lastLine", "J", (.long 1)), ("com/example/kleinmaschine/kleinmaschine/Statements", "lastColumn", "J", (.long 1)), ("com/example/kleinmaschine/kleinmaschine/Statements", "uppers", "[I", .null), ("com/example/kleinmaschine/kleinmaschine/Statements", "lowers", "[I", .null)] := Ob.put O90 (lay_Statements hw) 8 rfl W92
  replace k : Goes p e below s₁ G0 T92 (mkF m 372 #[.val (.ref a1), .val (.int 0), .val (.long q2), .second, .val (.ref a3), .val (.long 0), .second, .val (.int 0), .val (.long 1), .second] [(.int 0)]) := fun t q => k t (st92 _ q)
  obtain ⟨fs, hr, hrun, hended, hW, hsame⟩ := X92.leave (v := some (.int 0)) (fun h => by rw [Bd.returns] at h; cases h)
  refine ⟨_, _, pre0 _ (k _ ?_), hrun, hended, _, _, rfl, ?_, ⟨_, rfl⟩, hW, hsame.mono (by decide) (by decide)⟩
  · exact retI X92 hx Bd.returns (hb hby d_prog_52_method_3_372) hr
  · show Q_Statements_add_1 Z a1 q2 a3 a4 a5 a6 a7 a8 a9 a10 k11 k12 k13 k14 a15 k16 k17 w_DE kW_DE h0 n0 _ T92.heap _
    rw [e92]
    exact ⟨b14, b2_1_1_1_68, b20, b6_2_2_5_7_1_1_1_68, b9, kA14, kA2_1_1_1_68, kA20, kA6_2_2_5_7_1_1_1_68, kA9, rfl, N92, ((((((((((((((((((Keep.refl h0 [a8, a10, a5, a7, a9, a6, a15, a1, a4]).ext E9).wr W11 (Or.inl (List.mem_of_getElem? (i := 8) rfl))).ext E14).wr W17 (Or.inl (List.mem_of_getElem? (i := 2) rfl))).ext E20).wr W23 (Or.inl (List.mem_of_getElem? (i := 5) rfl))).wr W30 (Or.inr gz_b9)).trans K33 (allS (Or.inr gz_b20) (allS (Or.inr gz_b14) all0))).wr W51 (Or.inl (List.mem_of_getElem? (i := 0) rfl))).wr W56 (Or.inl (List.mem_of_getElem? (i := 4) rfl))).wr W61 (Or.inl (List.mem_of_getElem? (i := 1) rfl))).trans K68 (allS (Or.inl (List.mem_of_getElem? (i := 6) rfl)) (allS (Or.inl (List.mem_of_getElem? (i := 3) rfl)) all0))).trans K77 (allS (Or.inr gz_b2_1_1_1_68) (allS (Or.inl (List.mem_of_getElem? (i := 3) rfl)) all0))).trans K80 (allS (Or.inr gz_b2_1_1_1_68) (allS (Or.inl (List.mem_of_getElem? (i := 3) rfl)) all0))).wr W86 (Or.inl (List.mem_of_getElem? (i := 7) rfl))).wr W90 (Or.inl (List.mem_of_getElem? (i := 7) rfl))).wr W92 (Or.inl (List.mem_of_getElem? (i := 7) rfl))), gz_b14, gz_b2_1_1_1_68, gz_b20, gz_b6_2_2_5_7_1_1_1_68, gz_b9, (Ne.symm (Nat.ne_of_lt (Nat.lt_of_lt_of_le (((f33_1.other W51 (Ne.symm (Nat.ne_of_lt (Nat.lt_of_lt_of_le pr19.lt gz_b14)))).other W56 (Ne.symm (Nat.ne_of_lt (Nat.lt_of_lt_of_le pr29.lt gz_b14)))).other W61 (Ne.symm (Nat.ne_of_lt (Nat.lt_of_lt_of_le pr36.lt gz_b14)))).lt f68_1))), (Ne.symm (Nat.ne_of_lt (Nat.lt_of_lt_of_le (V14.other W17 (Ne.symm (Nat.ne_of_lt (Nat.lt_of_lt_of_le pr8.lt gz_b14)))).lt (Nat.le_of_eq g20.symm)))), (Nat.ne_of_lt (Nat.lt_of_lt_of_le (((f33_0.other W51 (Ne.symm (Nat.ne_of_lt (Nat.lt_of_lt_of_le pr19.lt gz_b20)))).other W56 (Ne.symm (Nat.ne_of_lt (Nat.lt_of_lt_of_le pr29.lt gz_b20)))).other W61 (Ne.symm (Nat.ne_of_lt (Nat.lt_of_lt_of_le pr36.lt gz_b20)))).lt f68_1)), (Ne.symm (Nat.ne_of_lt (Nat.lt_of_lt_of_le (((f33_1.other W51 (Ne.symm (Nat.ne_of_lt (Nat.lt_of_lt_of_le pr19.lt gz_b14)))).other W56 (Ne.symm (Nat.ne_of_lt (Nat.lt_of_lt_of_le pr29.lt gz_b14)))).other W61 (Ne.symm (Nat.ne_of_lt (Nat.lt_of_lt_of_le pr36.lt gz_b14)))).lt f68_0))), (Ne.symm f68_2), (Ne.symm (Nat.ne_of_lt (Nat.lt_of_lt_of_le (((f33_0.other W51 (Ne.symm (Nat.ne_of_lt (Nat.lt_of_lt_of_le pr19.lt gz_b20)))).other W56 (Ne.symm (Nat.ne_of_lt (Nat.lt_of_lt_of_le pr29.lt gz_b20)))).other W61 (Ne.symm (Nat.ne_of_lt (Nat.lt_of_lt_of_le pr36.lt gz_b20)))).lt f68_0))), (Nat.ne_of_lt (Nat.lt_of_lt_of_le (V9.other W11 (Ne.symm (Nat.ne_of_lt (Nat.lt_of_lt_of_le pr4.lt gz_b9)))).lt (Nat.le_of_eq g14.symm))), (Nat.ne_of_lt (Nat.lt_of_lt_of_le ((((V30.keep K33 (ninS (Nat.ne_of_lt (Nat.lt_of_lt_of_le (((V9.other W11 (Ne.symm (Nat.ne_of_lt (Nat.lt_of_lt_of_le pr4.lt gz_b9)))).ext E14).other W17 (Ne.symm (Nat.ne_of_lt (Nat.lt_of_lt_of_le pr8.lt gz_b9)))).lt (Nat.le_of_eq g20.symm))) (ninS (Nat.ne_of_lt (Nat.lt_of_lt_of_le (V9.other W11 (Ne.symm (Nat.ne_of_lt (Nat.lt_of_lt_of_le pr4.lt gz_b9)))).lt (Nat.le_of_eq g14.symm))) nin0))).other W51 (Ne.symm (Nat.ne_of_lt (Nat.lt_of_lt_of_le pr19.lt gz_b9)))).other W56 (Ne.symm (Nat.ne_of_lt (Nat.lt_of_lt_of_le pr29.lt gz_b9)))).other W61 (Ne.symm (Nat.ne_of_lt (Nat.lt_of_lt_of_le pr36.lt gz_b9)))).lt f68_1)), (Nat.ne_of_lt (Nat.lt_of_lt_of_le (((V9.other W11 (Ne.symm (Nat.ne_of_lt (Nat.lt_of_lt_of_le pr4.lt gz_b9)))).ext E14).other W17 (Ne.symm (Nat.ne_of_lt (Nat.lt_of_lt_of_le pr8.lt gz_b9)))).lt (Nat.le_of_eq g20.symm))), (Nat.ne_of_lt (Nat.lt_of_lt_of_le ((((V30.keep K33 (ninS (Nat.ne_of_lt (Nat.lt_of_lt_of_le (((V9.other W11 (Ne.symm (Nat.ne_of_lt (Nat.lt_of_lt_of_le pr4.lt gz_b9)))).ext E14).other W17 (Ne.symm (Nat.ne_of_lt (Nat.lt_of_lt_of_le pr8.lt gz_b9)))).lt (Nat.le_of_eq g20.symm))) (ninS (Nat.ne_of_lt (Nat.lt_of_lt_of_le (V9.other W11 (Ne.symm (Nat.ne_of_lt (Nat.lt_of_lt_of_le pr4.lt gz_b9)))).lt (Nat.le_of_eq g14.symm))) nin0))).other W51 (Ne.symm (Nat.ne_of_lt (Nat.lt_of_lt_of_le pr19.lt gz_b9)))).other W56 (Ne.symm (Nat.ne_of_lt (Nat.lt_of_lt_of_le pr29.lt gz_b9)))).other W61 (Ne.symm (Nat.ne_of_lt (Nat.lt_of_lt_of_le pr36.lt gz_b9)))).lt f68_0)), ((((((((V51.other W56 (Ne.symm pr33)).other W61 (Ne.symm pr40)).keep K68 (ninS (Ne.symm pr61) (ninS (Ne.symm pr55) nin0))).keep K77 (ninS (Nat.ne_of_lt (Nat.lt_of_lt_of_le pr19.lt gz_b2_1_1_1_68)) (ninS (Ne.symm pr55) nin0))).keep K80 (ninS (Nat.ne_of_lt (Nat.lt_of_lt_of_le pr19.lt gz_b2_1_1_1_68)) (ninS (Ne.symm pr55) nin0))).other W86 (Ne.symm pr28)).other W90 (Ne.symm pr28)).other W92 (Ne.symm pr28)), ((((((V61.keep K68 (ninS (Ne.symm pr63) (ninS (Ne.symm pr57) nin0))).keep K77 (ninS (Nat.ne_of_lt (Nat.lt_of_lt_of_le pr36.lt gz_b2_1_1_1_68)) (ninS (Ne.symm pr57) nin0))).keep K80 (ninS (Nat.ne_of_lt (Nat.lt_of_lt_of_le pr36.lt gz_b2_1_1_1_68)) (ninS (Ne.symm pr57) nin0))).other W86 (Ne.symm pr50)).other W90 (Ne.symm pr50)).other W92 (Ne.symm pr50)), ((((((((((fc34.keep K33 (ninS (Nat.ne_of_lt (Nat.lt_of_lt_of_le pr8.lt gz_b20)) (ninS (Nat.ne_of_lt (Nat.lt_of_lt_of_le pr8.lt gz_b14)) nin0))).other W51 (Ne.symm pr21)).other W56 (Ne.symm pr31)).other W61 (Ne.symm pr38)).keep K68 (ninS (Ne.symm pr59) (ninS (Ne.symm pr25) nin0))).keep K77 (ninS (Nat.ne_of_lt (Nat.lt_of_lt_of_le pr8.lt gz_b2_1_1_1_68)) (ninS (Ne.symm pr25) nin0))).keep K80 (ninS (Nat.ne_of_lt (Nat.lt_of_lt_of_le pr8.lt gz_b2_1_1_1_68)) (ninS (Ne.symm pr25) nin0))).other W86 (Ne.symm pr11)).other W90 (Ne.symm pr11)).other W92 (Ne.symm pr11)), (((f80_1.other W86 (Ne.symm pr67)).other W90 (Ne.symm pr67)).other W92 (Ne.symm pr67)), (((((((V56.other W61 (Ne.symm pr41)).keep K68 (ninS (Ne.symm pr62) (ninS (Ne.symm pr56) nin0))).keep K77 (ninS (Nat.ne_of_lt (Nat.lt_of_lt_of_le pr29.lt gz_b2_1_1_1_68)) (ninS (Ne.symm pr56) nin0))).keep K80 (ninS (Nat.ne_of_lt (Nat.lt_of_lt_of_le pr29.lt gz_b2_1_1_1_68)) (ninS (Ne.symm pr56) nin0))).other W86 (Ne.symm pr35)).other W90 (Ne.symm pr35)).other W92 (Ne.symm pr35)), ((((((((((fc36.keep K33 (ninS (Nat.ne_of_lt (Nat.lt_of_lt_of_le pr13.lt gz_b20)) (ninS (Nat.ne_of_lt (Nat.lt_of_lt_of_le pr13.lt gz_b14)) nin0))).other W51 (Ne.symm pr22)).other W56 (Ne.symm pr32)).other W61 (Ne.symm pr39)).keep K68 (ninS (Ne.symm pr60) (ninS (Ne.symm pr26) nin0))).keep K77 (ninS (Nat.ne_of_lt (Nat.lt_of_lt_of_le pr13.lt gz_b2_1_1_1_68)) (ninS (Ne.symm pr26) nin0))).keep K80 (ninS (Nat.ne_of_lt (Nat.lt_of_lt_of_le pr13.lt gz_b2_1_1_1_68)) (ninS (Ne.symm pr26) nin0))).other W86 (Ne.symm pr17)).other W90 (Ne.symm pr17)).other W92 (Ne.symm pr17)), (((((f68_3.keep K77 (ninS (Nat.ne_of_lt (Nat.lt_of_lt_of_le pr52.lt gz_b2_1_1_1_68)) (ninS pr54 nin0))).keep K80 (ninS (Nat.ne_of_lt (Nat.lt_of_lt_of_le pr52.lt gz_b2_1_1_1_68)) (ninS pr54 nin0))).other W86 (Ne.symm pr66)).other W90 (Ne.symm pr66)).other W92 (Ne.symm pr66)), O92, (((((((((((fc27.other W30 (Nat.ne_of_lt (Nat.lt_of_lt_of_le pr4.lt gz_b9))).keep K33 (ninS (Nat.ne_of_lt (Nat.lt_of_lt_of_le pr4.lt gz_b20)) (ninS (Nat.ne_of_lt (Nat.lt_of_lt_of_le pr4.lt gz_b14)) nin0))).other W51 (Ne.symm pr20)).other W56 (Ne.symm pr30)).other W61 (Ne.symm pr37)).keep K68 (ninS (Ne.symm pr58) (ninS (Ne.symm pr24) nin0))).keep K77 (ninS (Nat.ne_of_lt (Nat.lt_of_lt_of_le pr4.lt gz_b2_1_1_1_68)) (ninS (Ne.symm pr24) nin0))).keep K80 (ninS (Nat.ne_of_lt (Nat.lt_of_lt_of_le pr4.lt gz_b2_1_1_1_68)) (ninS (Ne.symm pr24) nin0))).other W86 (Ne.symm pr6)).other W90 (Ne.symm pr6)).other W92 (Ne.symm pr6)), (((((((((f33_1.other W51 (Ne.symm (Nat.ne_of_lt (Nat.lt_of_lt_of_le pr19.lt gz_b14)))).other W56 (Ne.symm (Nat.ne_of_lt (Nat.lt_of_lt_of_le pr29.lt gz_b14)))).other W61 (Ne.symm (Nat.ne_of_lt (Nat.lt_of_lt_of_le pr36.lt gz_b14)))).keep K68 (ninS (Ne.symm (Nat.ne_of_lt (Nat.lt_of_lt_of_le pr52.lt gz_b14))) (ninS (Ne.symm (Nat.ne_of_lt (Nat.lt_of_lt_of_le pr23.lt gz_b14))) nin0))).keep K77 (ninS (Nat.ne_of_lt (Nat.lt_of_lt_of_le (((f33_1.other W51 (Ne.symm (Nat.ne_of_lt (Nat.lt_of_lt_of_le pr19.lt gz_b14)))).other W56 (Ne.symm (Nat.ne_of_lt (Nat.lt_of_lt_of_le pr29.lt gz_b14)))).other W61 (Ne.symm (Nat.ne_of_lt (Nat.lt_of_lt_of_le pr36.lt gz_b14)))).lt f68_1)) (ninS (Ne.symm (Nat.ne_of_lt (Nat.lt_of_lt_of_le pr23.lt gz_b14))) nin0))).keep K80 (ninS (Nat.ne_of_lt (Nat.lt_of_lt_of_le (((f33_1.other W51 (Ne.symm (Nat.ne_of_lt (Nat.lt_of_lt_of_le pr19.lt gz_b14)))).other W56 (Ne.symm (Nat.ne_of_lt (Nat.lt_of_lt_of_le pr29.lt gz_b14)))).other W61 (Ne.symm (Nat.ne_of_lt (Nat.lt_of_lt_of_le pr36.lt gz_b14)))).lt f68_1)) (ninS (Ne.symm (Nat.ne_of_lt (Nat.lt_of_lt_of_le pr23.lt gz_b14))) nin0))).other W86 (Ne.symm (Nat.ne_of_lt (Nat.lt_of_lt_of_le pr1.lt gz_b14)))).other W90 (Ne.symm (Nat.ne_of_lt (Nat.lt_of_lt_of_le pr1.lt gz_b14)))).other W92 (Ne.symm (Nat.ne_of_lt (Nat.lt_of_lt_of_le pr1.lt gz_b14)))), (((f80_0.other W86 (Ne.symm (Nat.ne_of_lt (Nat.lt_of_lt_of_le pr1.lt gz_b2_1_1_1_68)))).other W90 (Ne.symm (Nat.ne_of_lt (Nat.lt_of_lt_of_le pr1.lt gz_b2_1_1_1_68)))).other W92 (Ne.symm (Nat.ne_of_lt (Nat.lt_of_lt_of_le pr1.lt gz_b2_1_1_1_68)))), (((((((((f33_0.other W51 (Ne.symm (Nat.ne_of_lt (Nat.lt_of_lt_of_le pr19.lt gz_b20)))).other W56 (Ne.symm (Nat.ne_of_lt (Nat.lt_of_lt_of_le pr29.lt gz_b20)))).other W61 (Ne.symm (Nat.ne_of_lt (Nat.lt_of_lt_of_le pr36.lt gz_b20)))).keep K68 (ninS (Ne.symm (Nat.ne_of_lt (Nat.lt_of_lt_of_le pr52.lt gz_b20))) (ninS (Ne.symm (Nat.ne_of_lt (Nat.lt_of_lt_of_le pr23.lt gz_b20))) nin0))).keep K77 (ninS (Nat.ne_of_lt (Nat.lt_of_lt_of_le (((f33_0.other W51 (Ne.symm (Nat.ne_of_lt (Nat.lt_of_lt_of_le pr19.lt gz_b20)))).other W56 (Ne.symm (Nat.ne_of_lt (Nat.lt_of_lt_of_le pr29.lt gz_b20)))).other W61 (Ne.symm (Nat.ne_of_lt (Nat.lt_of_lt_of_le pr36.lt gz_b20)))).lt f68_1)) (ninS (Ne.symm (Nat.ne_of_lt (Nat.lt_of_lt_of_le pr23.lt gz_b20))) nin0))).keep K80 (ninS (Nat.ne_of_lt (Nat.lt_of_lt_of_le (((f33_0.other W51 (Ne.symm (Nat.ne_of_lt (Nat.lt_of_lt_of_le pr19.lt gz_b20)))).other W56 (Ne.symm (Nat.ne_of_lt (Nat.lt_of_lt_of_le pr29.lt gz_b20)))).other W61 (Ne.symm (Nat.ne_of_lt (Nat.lt_of_lt_of_le pr36.lt gz_b20)))).lt f68_1)) (ninS (Ne.symm (Nat.ne_of_lt (Nat.lt_of_lt_of_le pr23.lt gz_b20))) nin0))).other W86 (Ne.symm (Nat.ne_of_lt (Nat.lt_of_lt_of_le pr1.lt gz_b20)))).other W90 (Ne.symm (Nat.ne_of_lt (Nat.lt_of_lt_of_le pr1.lt gz_b20)))).other W92 (Ne.symm (Nat.ne_of_lt (Nat.lt_of_lt_of_le pr1.lt gz_b20)))), f68_5, (((((f68_6.keep K77 (ninS (Ne.symm f68_2) (ninS (Ne.symm (Nat.ne_of_lt (Nat.lt_of_lt_of_le pr23.lt gz_b6_2_2_5_7_1_1_1_68))) nin0))).keep K80 (ninS (Ne.symm f68_2) (ninS (Ne.symm (Nat.ne_of_lt (Nat.lt_of_lt_of_le pr23.lt gz_b6_2_2_5_7_1_1_1_68))) nin0))).other W86 (Ne.symm (Nat.ne_of_lt (Nat.lt_of_lt_of_le pr1.lt gz_b6_2_2_5_7_1_1_1_68)))).other W90 (Ne.symm (Nat.ne_of_lt (Nat.lt_of_lt_of_le pr1.lt gz_b6_2_2_5_7_1_1_1_68)))).other W92 (Ne.symm (Nat.ne_of_lt (Nat.lt_of_lt_of_le pr1.lt gz_b6_2_2_5_7_1_1_1_68)))), ((((((((((V30.keep K33 (ninS (Nat.ne_of_lt (Nat.lt_of_lt_of_le (((V9.other W11 (Ne.symm (Nat.ne_of_lt (Nat.lt_of_lt_of_le pr4.lt gz_b9)))).ext E14).other W17 (Ne.symm (Nat.ne_of_lt (Nat.lt_of_lt_of_le pr8.lt gz_b9)))).lt (Nat.le_of_eq g20.symm))) (ninS (Nat.ne_of_lt (Nat.lt_of_lt_of_le (V9.other W11 (Ne.symm (Nat.ne_of_lt (Nat.lt_of_lt_of_le pr4.lt gz_b9)))).lt (Nat.le_of_eq g14.symm))) nin0))).other W51 (Ne.symm (Nat.ne_of_lt (Nat.lt_of_lt_of_le pr19.lt gz_b9)))).other W56 (Ne.symm (Nat.ne_of_lt (Nat.lt_of_lt_of_le pr29.lt gz_b9)))).other W61 (Ne.symm (Nat.ne_of_lt (Nat.lt_of_lt_of_le pr36.lt gz_b9)))).keep K68 (ninS (Ne.symm (Nat.ne_of_lt (Nat.lt_of_lt_of_le pr52.lt gz_b9))) (ninS (Ne.symm (Nat.ne_of_lt (Nat.lt_of_lt_of_le pr23.lt gz_b9))) nin0))).keep K77 (ninS (Nat.ne_of_lt (Nat.lt_of_lt_of_le ((((V30.keep K33 (ninS (Nat.ne_of_lt (Nat.lt_of_lt_of_le (((V9.other W11 (Ne.symm (Nat.ne_of_lt (Nat.lt_of_lt_of_le pr4.lt gz_b9)))).ext E14).other W17 (Ne.symm (Nat.ne_of_lt (Nat.lt_of_lt_of_le pr8.lt gz_b9)))).lt (Nat.le_of_eq g20.symm))) (ninS (Nat.ne_of_lt (Nat.lt_of_lt_of_le (V9.other W11 (Ne.symm (Nat.ne_of_lt (Nat.lt_of_lt_of_le pr4.lt gz_b9)))).lt (Nat.le_of_eq g14.symm))) nin0))).other W51 (Ne.symm (Nat.ne_of_lt (Nat.lt_of_lt_of_le pr19.lt gz_b9)))).other W56 (Ne.symm (Nat.ne_of_lt (Nat.lt_of_lt_of_le pr29.lt gz_b9)))).other W61 (Ne.symm (Nat.ne_of_lt (Nat.lt_of_lt_of_le pr36.lt gz_b9)))).lt f68_1)) (ninS (Ne.symm (Nat.ne_of_lt (Nat.lt_of_lt_of_le pr23.lt gz_b9))) nin0))).keep K80 (ninS (Nat.ne_of_lt (Nat.lt_of_lt_of_le ((((V30.keep K33 (ninS (Nat.ne_of_lt (Nat.lt_of_lt_of_le (((V9.other W11 (Ne.symm (Nat.ne_of_lt (Nat.lt_of_lt_of_le pr4.lt gz_b9)))).ext E14).other W17 (Ne.symm (Nat.ne_of_lt (Nat.lt_of_lt_of_le pr8.lt gz_b9)))).lt (Nat.le_of_eq g20.symm))) (ninS (Nat.ne_of_lt (Nat.lt_of_lt_of_le (V9.other W11 (Ne.symm (Nat.ne_of_lt (Nat.lt_of_lt_of_le pr4.lt gz_b9)))).lt (Nat.le_of_eq g14.symm))) nin0))).other W51 (Ne.symm (Nat.ne_of_lt (Nat.lt_of_lt_of_le pr19.lt gz_b9)))).other W56 (Ne.symm (Nat.ne_of_lt (Nat.lt_of_lt_of_le pr29.lt gz_b9)))).other W61 (Ne.symm (Nat.ne_of_lt (Nat.lt_of_lt_of_le pr36.lt gz_b9)))).lt f68_1)) (ninS (Ne.symm (Nat.ne_of_lt (Nat.lt_of_lt_of_le pr23.lt gz_b9))) nin0))).other W86 (Ne.symm (Nat.ne_of_lt (Nat.lt_of_lt_of_le pr1.lt gz_b9)))).other W90 (Ne.symm (Nat.ne_of_lt (Nat.lt_of_lt_of_le pr1.lt gz_b9)))).other W92 (Ne.symm (Nat.ne_of_lt (Nat.lt_of_lt_of_le pr1.lt gz_b9))))⟩
theorem w_83 {Z : State} {a0 : Array Value} (hw : ∀ d ∈ tables_1, d.before a0 Z = true) : (Jvm.Cond.methodLink "com/example/kleinmaschine/kleinmaschine/StatementsOperandPinLaw" (15 : Nat) ({ cls := "com/example/kleinmaschine/kleinmaschine/Statements", name := "add", desc := "(IJLcom/example/kleinmaschine/kleinmaschine/Position;J)I" } : Jvm.MethodName)).before a0 Z = true := hw _ (List.mem_of_getElem? (i := 83) rfl)
theorem w_87 {Z : State} {a0 : Array Value} (hw : ∀ d ∈ tables_1, d.before a0 Z = true) : (Jvm.Cond.code ({ cls := "com/example/kleinmaschine/kleinmaschine/Statements", name := "add", desc := "(IJLcom/example/kleinmaschine/kleinmaschine/Position;J)I" } : Jvm.MethodName) prog_52_method_3_code (10 : Nat) (Option.some Jvm.ClassFile.FieldType.int)).before a0 Z = true := hw _ (List.mem_of_getElem? (i := 87) rfl)
theorem pd_IJLcom_example_kleinmaschine_kleinmaschine_PositionJ_r_I : parseMethodDescriptor "(IJLcom/example/kleinmaschine/kleinmaschine/Position;J)I" = some ⟨[.int, .long, (.object "com/example/kleinmaschine/kleinmaschine/Position"), .long], some .int⟩ := by decide +kernel
theorem w_86 {Z : State} {a0 : Array Value} (hw : ∀ d ∈ tables_1, d.before a0 Z = true) : (Jvm.Cond.selects "com/example/kleinmaschine/kleinmaschine/Statements" ({ cls := "com/example/kleinmaschine/kleinmaschine/Statements", name := "add", desc := "(IJLcom/example/kleinmaschine/kleinmaschine/Position;J)I" } : Jvm.MethodName) ({ cls := "com/example/kleinmaschine/kleinmaschine/Statements", name := "add", desc := "(IJLcom/example/kleinmaschine/kleinmaschine/Position;J)I" } : Jvm.MethodName)).before a0 Z = true := hw _ (List.mem_of_getElem? (i := 86) rfl)
theorem w_84 {Z : State} {a0 : Array Value} (hw : ∀ d ∈ tables_1, d.before a0 Z = true) : (Jvm.Cond.declares ({ cls := "com/example/kleinmaschine/kleinmaschine/Statements", name := "add", desc := "(IJLcom/example/kleinmaschine/kleinmaschine/Position;J)I" } : Jvm.MethodName)).before a0 Z = true := hw _ (List.mem_of_getElem? (i := 84) rfl)
theorem w_85 {Z : State} {a0 : Array Value} (hw : ∀ d ∈ tables_1, d.before a0 Z = true) : (Jvm.Cond.instanceMethod ({ cls := "com/example/kleinmaschine/kleinmaschine/Statements", name := "add", desc := "(IJLcom/example/kleinmaschine/kleinmaschine/Position;J)I" } : Jvm.MethodName)).before a0 Z = true := hw _ (List.mem_of_getElem? (i := 85) rfl)
def Q_Statements_checkAdding_2 (Z : State) (a1 : Addr) (a2 : Addr) (a3 : Addr) (a4 : Addr) (a5 : Addr) (a6 : Addr) (a7 : Addr) (a8 : Addr) (h0 : Heap) (n0 : Nat) (v : Option Value) (h : Heap) (L : List Loc) : Prop := v = none ∧ Fr n0 L ∧ h = h0
set_option maxRecDepth 65536 in
set_option maxHeartbeats 40000000 in
theorem rm_Statements_checkAdding_2 (l : Launch) (Z : State) (a0 : Array Value) (hw : ∀ d ∈ tables_1, d.before a0 Z = true) (ws : List Jvm.Cond) (a1 : Addr) (a2 : Addr) (a3 : Addr) (a4 : Addr) (a5 : Addr) (a6 : Addr) (a7 : Addr) (a8 : Addr) (h0 : Heap) (n0 : Nat) (O0 : Old Z n0 h0) (pr1 : Ob Z h0 a1 "com/example/kleinmaschine/kleinmaschine/Statements" [("com/example/kleinmaschine/kleinmaschine/Statements", "headPages", "[[I", (.ref a2)), ("com/example/kleinmaschine/kleinmaschine/Statements", "upperPages", "[[I", (.ref a3)), ("com/example/kleinmaschine/kleinmaschine/Statements", "lowerPages", "[[I", (.ref a4)), ("com/example/kleinmaschine/kleinmaschine/Statements", "records", "Lcom/example/kleinmaschine/kleinmaschine/PagedBytes;", (.ref a5)), ("com/example/kleinmaschine/kleinmaschine/Statements", "checkpointPlaces", "[J", (.ref a6)), ("com/example/kleinmaschine/kleinmaschine/Statements", "checkpointLines", "[J", (.ref a7)), ("com/example/kleinmaschine/kleinmaschine/Statements", "checkpointColumns", "[J", (.ref a8)), ("com/example/kleinmaschine/kleinmaschine/Statements", "heads", "[I", .null), ("com/example/kleinmaschine/kleinmaschine/Statements", "size", "I", (.int 1)), ("com/example/kleinmaschine/kleinmaschine/Statements", "lastLine", "J", (.long 1)), ("com/example/kleinmaschine/kleinmaschine/Statements", "lastColumn", "J", (.long 1)), ("com/example/kleinmaschine/kleinmaschine/Statements", "uppers", "[I", .null), ("com/example/kleinmaschine/kleinmaschine/Statements", "lowers", "[I", .null)]) :
    MetFree l (⟨"com/example/kleinmaschine/kleinmaschine/Statements", "checkAdding", "()V"⟩ : MethodName) (head1 (Jvm.Cond.code (⟨"com/example/kleinmaschine/kleinmaschine/Statements", "checkAdding", "()V"⟩ : MethodName) prog_52_method_15_code 1 none :: ws) ({ frames := 0, cells := 0, slots := 0, locals := 0 } : Room)) (fun a U => a = #[(.ref a1)] ∧ Z.Warmed39 U.vm ∧ U.heap = h0) (fun _ _ _ _ _ => True) (fun _ U o U' => ∃ v L, o = .returned v ∧ Q_Statements_checkAdding_2 Z a1 a2 a3 a4 a5 a6 a7 a8 h0 n0 v U'.heap L ∧ FrameEnd U o U' L ({ frames := 0, cells := 0, slots := 0, locals := 0 } : Room).cells ({ frames := 0, cells := 0, slots := 0, locals := 0 } : Room).slots) := by
  refine MetFree.of_bodySF (plainFor_of_name pn_Statements) hisR ?_
  intro p e s m args below meth c s₁ Bd hml0 hP hK
  obtain ⟨rfl, hZ, hh⟩ := hP
  have hx := Bd.exec
  have hby := Bd.bytes
  have hml : c.maxLocals = 1 := hml0
  have hown : s.vm.findClass "com/example/kleinmaschine/kleinmaschine/Statements" = some m.cls := findClass_of_methodNamed Bd.named
  have hnm := (name_of_methodNamed Bd.named Bd.method).1
  have X0 : Stand p l e ({ frames := 0, cells := 0, slots := 0, locals := 0 } : Room) s m #[(.ref a1)] below meth c s₁ [] 0 0 := Stand.of_body Bd
  have e0 : s₁.heap = h0 := by rw [← hh, Bd.state]; rfl
  have N0 := Fr.nil n0
  obtain ⟨G0, hG0⟩ : ∃ z, z = (mkF m 0 #[.val (.ref a1)] []) := ⟨_, rfl⟩
  have pre0 : ∀ t, Steps p.tables e below (s₁.setTop G0) t → Steps p.tables e below (s₁.setTop (entryFrame m #[(.ref a1)] 1)) t := fun t k => castTop (ef_R_1 m a1) (hG0 ▸ k)
  have k : Goes p e below s₁ G0 s₁ (mkF m 0 #[.val (.ref a1)] []) := fun t q => hG0 ▸ q
  replace k := Fw.aloadN k X0 hx (hb hby d_prog_52_method_15_0) rfl rfl (pc' := 1) rfl
  obtain ⟨T1, X1, e1, st1⟩ := getF X0 hx hZ hown (host := "") (Or.inl (w_92 hw)) Via.refl e0 (Ob.at pr1 7 rfl) (g := (mkF m 1 #[.val (.ref a1)] [(.ref a1)])) rfl rfl (hb hby d_prog_52_method_15_1)
  replace k : Goes p e below s₁ G0 T1 (mkF m 4 #[.val (.ref a1)] [.null]) := fun t q => k t (st1 _ q)
  replace k := Fw.ifnullYes k X1 hx (hb hby d_prog_52_method_15_4) (by decide) (pc' := 17) rfl
  obtain ⟨fs, hr, hrun, hended, hW, hsame⟩ := X1.leave (v := none) (fun _ => rfl)
  refine ⟨_, _, pre0 _ (k _ ?_), hrun, hended, _, _, rfl, ?_, ⟨_, rfl⟩, hW, hsame.mono (by decide) (by decide)⟩
  · exact X1.returnOut hx Bd.returns (hb hby d_prog_52_method_15_17) hr
  · show Q_Statements_checkAdding_2 Z a1 a2 a3 a4 a5 a6 a7 a8 h0 n0 _ T1.heap _
    rw [e1]
    exact ⟨rfl, N0, rfl⟩
def Q_Statements_setOperandAt_2 (Z : State) (a1 : Addr) (q2 : Int64) (a3 : Addr) (a4 : Addr) (a5 : Addr) (a6 : Addr) (a7 : Addr) (a8 : Addr) (a9 : Addr) (k10 : ClassId) (a11 : Addr) (k12 : ClassId) (p13 : Int32) (k14 : ClassId) (a15 : Addr) (k16 : ClassId) (p17 : Int32) (h0 : Heap) (n0 : Nat) (v : Option Value) (h : Heap) (L : List Loc) : Prop := v = none ∧ Fr n0 L ∧ Keep h0 h [a15, a11] ∧ Aw Z h a15 "[I" k16 .int 16384 (updv (updv (fun _ => (.int 0)) 0 (.int p17)) 1 (.int (q2.toInt32))) ∧ Aw Z h a11 "[I" k12 .int 16384 (updv (updv (fun _ => (.int 0)) 0 (.int p13)) 1 (.int (((q2.toUInt64 >>> ((32 : Int32) &&& 0x3f).toInt64.toUInt64).toInt64).toInt32)))
set_option maxRecDepth 65536 in
set_option maxHeartbeats 40000000 in
theorem rm_Statements_setOperandAt_2 (l : Launch) (Z : State) (a0 : Array Value) (hw : ∀ d ∈ tables_1, d.before a0 Z = true) (ws : List Jvm.Cond) (a1 : Addr) (q2 : Int64) (a3 : Addr) (a4 : Addr) (a5 : Addr) (a6 : Addr) (a7 : Addr) (a8 : Addr) (a9 : Addr) (k10 : ClassId) (a11 : Addr) (k12 : ClassId) (p13 : Int32) (k14 : ClassId) (a15 : Addr) (k16 : ClassId) (p17 : Int32) (h0 : Heap) (n0 : Nat) (O0 : Old Z n0 h0) (pr1 : Ob Z h0 a1 "com/example/kleinmaschine/kleinmaschine/Statements" [("com/example/kleinmaschine/kleinmaschine/Statements", "headPages", "[[I", (.ref a3)), ("com/example/kleinmaschine/kleinmaschine/Statements", "upperPages", "[[I", (.ref a4)), ("com/example/kleinmaschine/kleinmaschine/Statements", "lowerPages", "[[I", (.ref a5)), ("com/example/kleinmaschine/kleinmaschine/Statements", "records", "Lcom/example/kleinmaschine/kleinmaschine/PagedBytes;", (.ref a6)), ("com/example/kleinmaschine/kleinmaschine/Statements", "checkpointPlaces", "[J", (.ref a7)), ("com/example/kleinmaschine/kleinmaschine/Statements", "checkpointLines", "[J", (.ref a8)), ("com/example/kleinmaschine/kleinmaschine/Statements", "checkpointColumns", "[J", (.ref a9)), ("com/example/kleinmaschine/kleinmaschine/Statements", "heads", "[I", .null), ("com/example/kleinmaschine/kleinmaschine/Statements", "size", "I", (.int 1)), ("com/example/kleinmaschine/kleinmaschine/Statements", "lastLine", "J", (.long 1)), ("com/example/kleinmaschine/kleinmaschine/Statements", "lastColumn", "J", (.long 1)), ("com/example/kleinmaschine/kleinmaschine/Statements", "uppers", "[I", .null), ("com/example/kleinmaschine/kleinmaschine/Statements", "lowers", "[I", .null)]) (pr2 : Sta Z Z.heap "com/example/kleinmaschine/kleinmaschine/Statements" "PAGE_BITS" "I" (.int (14 : Int32))) (pr3 : OvrA Z k10 .int "[I") (pr4 : Aw Z h0 a4 "[[I" k10 (.array .int) 16 (updv (fun _ => .null) 0 (.ref a11))) (pr5 : Aw Z h0 a11 "[I" k12 .int 16384 (updv (fun _ => (.int 0)) 0 (.int p13))) (pr6 : n0 ≤ a11) (pr7 : a1 ≠ a11) (pr8 : OvrA Z k14 .int "[I") (pr9 : Aw Z h0 a5 "[[I" k14 (.array .int) 16 (updv (fun _ => .null) 0 (.ref a15))) (pr10 : a5 ≠ a11) (pr11 : Aw Z h0 a15 "[I" k16 .int 16384 (updv (fun _ => (.int 0)) 0 (.int p17))) (pr12 : a15 ≠ a11) (pr13 : n0 ≤ a15) :
    MetFree l (⟨"com/example/kleinmaschine/kleinmaschine/Statements", "setOperandAt", "(IJ)V"⟩ : MethodName) (head1 (Jvm.Cond.code (⟨"com/example/kleinmaschine/kleinmaschine/Statements", "setOperandAt", "(IJ)V"⟩ : MethodName) prog_52_method_5_code 4 none :: ws) ({ frames := 0, cells := 0, slots := 0, locals := 0 } : Room)) (fun a U => a = #[(.ref a1), (.int 1), (.long q2)] ∧ Z.Warmed39 U.vm ∧ U.heap = h0) (fun _ _ _ _ _ => True) (fun _ U o U' => ∃ v L, o = .returned v ∧ Q_Statements_setOperandAt_2 Z a1 q2 a3 a4 a5 a6 a7 a8 a9 k10 a11 k12 p13 k14 a15 k16 p17 h0 n0 v U'.heap L ∧ FrameEnd U o U' L ({ frames := 0, cells := 0, slots := 0, locals := 0 } : Room).cells ({ frames := 0, cells := 0, slots := 0, locals := 0 } : Room).slots) := by
  refine MetFree.of_bodySF (plainFor_of_name pn_Statements) hisR ?_
  intro p e s m args below meth c s₁ Bd hml0 hP hK
  obtain ⟨rfl, hZ, hh⟩ := hP
  have hx := Bd.exec
  have hby := Bd.bytes
  have hml : c.maxLocals = 4 := hml0
  have hown : s.vm.findClass "com/example/kleinmaschine/kleinmaschine/Statements" = some m.cls := findClass_of_methodNamed Bd.named
  have hnm := (name_of_methodNamed Bd.named Bd.method).1
  have X0 : Stand p l e ({ frames := 0, cells := 0, slots := 0, locals := 0 } : Room) s m #[(.ref a1), (.int 1), (.long q2)] below meth c s₁ [] 0 0 := Stand.of_body Bd
  have e0 : s₁.heap = h0 := by rw [← hh, Bd.state]; rfl
  have N0 := Fr.nil n0
  obtain ⟨G0, hG0⟩ : ∃ z, z = (mkF m 0 #[.val (.ref a1), .val (.int 1), .val (.long q2), .second] []) := ⟨_, rfl⟩
  have pre0 : ∀ t, Steps p.tables e below (s₁.setTop G0) t → Steps p.tables e below (s₁.setTop (entryFrame m #[(.ref a1), (.int 1), (.long q2)] 4)) t := fun t k => castTop (ef_RIJ_4 m a1 ((1 : Int32)) q2) (hG0 ▸ k)
  have k : Goes p e below s₁ G0 s₁ (mkF m 0 #[.val (.ref a1), .val (.int 1), .val (.long q2), .second] []) := fun t q => hG0 ▸ q
  replace k := Fw.aloadN k X0 hx (hb hby d_prog_52_method_5_0) rfl rfl (pc' := 1) rfl
  obtain ⟨T1, X1, e1, st1⟩ := getF X0 hx hZ hown (host := "") (Or.inl (w_13 hw)) Via.refl e0 (Ob.at pr1 1 rfl) (g := (mkF m 1 #[.val (.ref a1), .val (.int 1), .val (.long q2), .second] [(.ref a1)])) rfl rfl (hb hby d_prog_52_method_5_1)
  replace k : Goes p e below s₁ G0 T1 (mkF m 4 #[.val (.ref a1), .val (.int 1), .val (.long q2), .second] [(.ref a4)]) := fun t q => k t (st1 _ q)
  replace k := Fw.iloadN k X1 hx (hb hby d_prog_52_method_5_4) rfl (pc' := 5) rfl
  obtain ⟨T2, X2, e2, st2⟩ := getS2 X1 hx hZ hown (host := "") (Or.inl (w_97 hw)) Via.refl e1 (pr2.ext O0.2) (g := (mkF m 5 #[.val (.ref a1), .val (.int 1), .val (.long q2), .second] [(.int 1), (.ref a4)])) rfl (hb hby d_prog_52_method_5_5)
  replace k : Goes p e below s₁ G0 T2 (mkF m 8 #[.val (.ref a1), .val (.int 1), .val (.long q2), .second] [(.int 14), (.int 1), (.ref a4)]) := fun t q => k t (st2 _ q)
  replace k := Fw.iushr k X2 hx (hb hby d_prog_52_method_5_8) (z := (0 : Int32)) (by decide) (pc' := 9) rfl
  obtain ⟨cl3, Ar3, hin3, hat3, -, -⟩ := Aw.open pr4 (j := (0 : Int32)) 0 (by decide) (by decide) (by decide)
  replace hat3 : cl3.slots[((0 : Int32)).toNatClampNeg]? = some (.ref a11) := hat3
  replace k : Goes p e below s₁ G0 T2 (mkF m 10 #[.val (.ref a1), .val (.int 1), .val (.long q2), .second] [(.ref a11)]) := fun t q => k t (X2.aaload hx (j := (0 : Int32)) (v := (.ref a11)) (by rw [e2]; exact Ar3.1) (State.isArrayOf_alike hZ.alike Ar3.2.1) rfl Ar3.2.2 hin3 hat3 (g := (mkF m 9 #[.val (.ref a1), .val (.int 1), .val (.long q2), .second] [(.int 0), (.ref a4)])) rfl rfl (hb hby d_prog_52_method_5_9) _ q)
  replace k := Fw.iloadN k X2 hx (hb hby d_prog_52_method_5_10) rfl (pc' := 11) rfl
  replace k := Fw.sipush k X2 hx (hb hby d_prog_52_method_5_11) (z := (16383 : Int32)) (by decide) (pc' := 14) rfl
  replace k := Fw.iand k X2 hx (hb hby d_prog_52_method_5_14) (z := (1 : Int32)) (by decide) (pc' := 15) rfl
  replace k := Fw.lloadN k X2 hx (hb hby d_prog_52_method_5_15) rfl (pc' := 16) rfl
  replace k := Fw.bipush k X2 hx (hb hby d_prog_52_method_5_16) (z := (32 : Int32)) (by decide) (pc' := 18) rfl
  replace k := Fw.lushr k X2 hx (hb hby d_prog_52_method_5_18) rfl (pc' := 19) rfl
  replace k := Fw.l2i k X2 hx (hb hby d_prog_52_method_5_19) rfl (pc' := 20) rfl
  obtain ⟨cl4, Ar4, hin4, -, kq4, -⟩ := Aw.open pr5 (j := (1 : Int32)) 1 (by decide) (by decide) (by decide)
  obtain ⟨T4, h4, X4, e4, W4, st4⟩ := stI X2 hx hZ e2 Ar4 (j := (1 : Int32)) hin4 (g := (mkF m 20 #[.val (.ref a1), .val (.int 1), .val (.long q2), .second] [(.int (((q2.toUInt64 >>> ((32 : Int32) &&& 0x3f).toInt64.toUInt64).toInt64).toInt32)), (.int 1), (.ref a11)])) rfl rfl (hb hby d_prog_52_method_5_20)
  have N4 := Fr.snoc X4 N0 pr6
  have V4 : Aw Z h4 a11 "[I" k12 .int 16384 (updv (updv (fun _ => (.int 0)) 0 (.int p13)) 1 (.int (((q2.toUInt64 >>> ((32 : Int32) &&& 0x3f).toInt64.toUInt64).toInt64).toInt32))) := Aw.set pr5 W4 1 (by decide) rfl
  replace k : Goes p e below s₁ G0 T4 (mkF m 21 #[.val (.ref a1), .val (.int 1), .val (.long q2), .second] []) := fun t q => k t (st4 _ q)
  replace k := Fw.aloadN k X4 hx (hb hby d_prog_52_method_5_21) rfl rfl (pc' := 22) rfl
  have fc5 := (pr1.other W4 pr7)
  obtain ⟨T6, X6, e6, st6⟩ := getF X4 hx hZ hown (host := "") (Or.inl (w_15 hw)) Via.refl e4 (Ob.at fc5 2 rfl) (g := (mkF m 22 #[.val (.ref a1), .val (.int 1), .val (.long q2), .second] [(.ref a1)])) rfl rfl (hb hby d_prog_52_method_5_22)
  replace k : Goes p e below s₁ G0 T6 (mkF m 25 #[.val (.ref a1), .val (.int 1), .val (.long q2), .second] [(.ref a5)]) := fun t q => k t (st6 _ q)
  replace k := Fw.iloadN k X6 hx (hb hby d_prog_52_method_5_25) rfl (pc' := 26) rfl
  have fc7 := (O0.wr W4 pr6)
  obtain ⟨T8, X8, e8, st8⟩ := getS2 X6 hx hZ hown (host := "") (Or.inl (w_97 hw)) Via.refl e6 (pr2.ext fc7.2) (g := (mkF m 26 #[.val (.ref a1), .val (.int 1), .val (.long q2), .second] [(.int 1), (.ref a5)])) rfl (hb hby d_prog_52_method_5_26)
  replace k : Goes p e below s₁ G0 T8 (mkF m 29 #[.val (.ref a1), .val (.int 1), .val (.long q2), .second] [(.int 14), (.int 1), (.ref a5)]) := fun t q => k t (st8 _ q)
  replace k := Fw.iushr k X8 hx (hb hby d_prog_52_method_5_29) (z := (0 : Int32)) (by decide) (pc' := 30) rfl
  have fc10 := (pr9.other W4 pr10)
  obtain ⟨cl9, Ar9, hin9, hat9, -, -⟩ := Aw.open fc10 (j := (0 : Int32)) 0 (by decide) (by decide) (by decide)
  replace hat9 : cl9.slots[((0 : Int32)).toNatClampNeg]? = some (.ref a15) := hat9
  replace k : Goes p e below s₁ G0 T8 (mkF m 31 #[.val (.ref a1), .val (.int 1), .val (.long q2), .second] [(.ref a15)]) := fun t q => k t (X8.aaload hx (j := (0 : Int32)) (v := (.ref a15)) (by rw [e8]; exact Ar9.1) (State.isArrayOf_alike hZ.alike Ar9.2.1) rfl Ar9.2.2 hin9 hat9 (g := (mkF m 30 #[.val (.ref a1), .val (.int 1), .val (.long q2), .second] [(.int 0), (.ref a5)])) rfl rfl (hb hby d_prog_52_method_5_30) _ q)
  replace k := Fw.iloadN k X8 hx (hb hby d_prog_52_method_5_31) rfl (pc' := 32) rfl
  replace k := Fw.sipush k X8 hx (hb hby d_prog_52_method_5_32) (z := (16383 : Int32)) (by decide) (pc' := 35) rfl
  replace k := Fw.iand k X8 hx (hb hby d_prog_52_method_5_35) (z := (1 : Int32)) (by decide) (pc' := 36) rfl
  replace k := Fw.lloadN k X8 hx (hb hby d_prog_52_method_5_36) rfl (pc' := 37) rfl
  replace k := Fw.l2i k X8 hx (hb hby d_prog_52_method_5_37) rfl (pc' := 38) rfl
  have fc11 := (pr11.other W4 pr12)
  obtain ⟨cl12, Ar12, hin12, -, kq12, -⟩ := Aw.open fc11 (j := (1 : Int32)) 1 (by decide) (by decide) (by decide)
  obtain ⟨T12, h12, X12, e12, W12, st12⟩ := stI X8 hx hZ e8 Ar12 (j := (1 : Int32)) hin12 (g := (mkF m 38 #[.val (.ref a1), .val (.int 1), .val (.long q2), .second] [(.int (q2.toInt32)), (.int 1), (.ref a15)])) rfl rfl (hb hby d_prog_52_method_5_38)
  have N12 := Fr.snoc X12 N4 pr13
  have V12 : Aw Z h12 a15 "[I" k16 .int 16384 (updv (updv (fun _ => (.int 0)) 0 (.int p17)) 1 (.int (q2.toInt32))) := Aw.set fc11 W12 1 (by decide) rfl
  replace k : Goes p e below s₁ G0 T12 (mkF m 39 #[.val (.ref a1), .val (.int 1), .val (.long q2), .second] []) := fun t q => k t (st12 _ q)
  obtain ⟨fs, hr, hrun, hended, hW, hsame⟩ := X12.leave (v := none) (fun _ => rfl)
  refine ⟨_, _, pre0 _ (k _ ?_), hrun, hended, _, _, rfl, ?_, ⟨_, rfl⟩, hW, hsame.mono (by decide) (by decide)⟩
  · exact X12.returnOut hx Bd.returns (hb hby d_prog_52_method_5_39) hr
  · show Q_Statements_setOperandAt_2 Z a1 q2 a3 a4 a5 a6 a7 a8 a9 k10 a11 k12 p13 k14 a15 k16 p17 h0 n0 _ T12.heap _
    rw [e12]
    exact ⟨rfl, N12, (((Keep.refl h0 [a15, a11]).wr W4 (Or.inl (List.mem_of_getElem? (i := 1) rfl))).wr W12 (Or.inl (List.mem_of_getElem? (i := 0) rfl))), V12, (V4.other W12 (Ne.symm pr12))⟩
def Q_PagedBytes_write_4 (Z : State) (a1 : Addr) (a2 : Addr) (a3 : Addr) (k4 : ClassId) (h0 : Heap) (n0 : Nat) (v : Option Value) (h : Heap) (L : List Loc) : Prop := v = none ∧ Fr n0 L ∧ Keep h0 h [a3, a1] ∧ Aw Z h a3 "[B" k4 .byte 65536 (updv (updv (updv (updv (fun _ => (.int 0)) 0 (.int 1)) 1 (.int 1)) 2 (.int 0)) 3 (.int 0)) ∧ Ob Z h a1 "com/example/kleinmaschine/kleinmaschine/PagedBytes" [("com/example/kleinmaschine/kleinmaschine/PagedBytes", "pages", "Ljava/util/List;", (.ref a2)), ("com/example/kleinmaschine/kleinmaschine/PagedBytes", "lastUsed", "I", (.int 4)), ("com/example/kleinmaschine/kleinmaschine/PagedBytes", "size", "J", (.long 4)), ("com/example/kleinmaschine/kleinmaschine/PagedBytes", "last", "[B", (.ref a3))]
set_option maxRecDepth 65536 in
set_option maxHeartbeats 40000000 in
theorem rm_PagedBytes_write_4 (l : Launch) (Z : State) (a0 : Array Value) (hw : ∀ d ∈ tables_1, d.before a0 Z = true) (ws : List Jvm.Cond) (a1 : Addr) (a2 : Addr) (a3 : Addr) (k4 : ClassId) (h0 : Heap) (n0 : Nat) (O0 : Old Z n0 h0) (pr1 : Ob Z h0 a1 "com/example/kleinmaschine/kleinmaschine/PagedBytes" [("com/example/kleinmaschine/kleinmaschine/PagedBytes", "pages", "Ljava/util/List;", (.ref a2)), ("com/example/kleinmaschine/kleinmaschine/PagedBytes", "lastUsed", "I", (.int 3)), ("com/example/kleinmaschine/kleinmaschine/PagedBytes", "size", "J", (.long 3)), ("com/example/kleinmaschine/kleinmaschine/PagedBytes", "last", "[B", (.ref a3))]) (pr2 : n0 ≤ a1) (pr3 : Aw Z h0 a3 "[B" k4 .byte 65536 (updv (updv (updv (fun _ => (.int 0)) 0 (.int 1)) 1 (.int 1)) 2 (.int 0))) (pr4 : a3 ≠ a1) (pr5 : n0 ≤ a3) :
    MetFree l (⟨"com/example/kleinmaschine/kleinmaschine/PagedBytes", "write", "(I)V"⟩ : MethodName) (head1 (Jvm.Cond.code (⟨"com/example/kleinmaschine/kleinmaschine/PagedBytes", "write", "(I)V"⟩ : MethodName) prog_33_method_7_code 2 none :: ws) ({ frames := 0, cells := 0, slots := 0, locals := 0 } : Room)) (fun a U => a = #[(.ref a1), (.int 0)] ∧ Z.Warmed39 U.vm ∧ U.heap = h0) (fun _ _ _ _ _ => True) (fun _ U o U' => ∃ v L, o = .returned v ∧ Q_PagedBytes_write_4 Z a1 a2 a3 k4 h0 n0 v U'.heap L ∧ FrameEnd U o U' L ({ frames := 0, cells := 0, slots := 0, locals := 0 } : Room).cells ({ frames := 0, cells := 0, slots := 0, locals := 0 } : Room).slots) := by
  refine MetFree.of_bodySF (plainFor_of_name pn_PagedBytes) hisR ?_
  intro p e s m args below meth c s₁ Bd hml0 hP hK
  obtain ⟨rfl, hZ, hh⟩ := hP
  have hx := Bd.exec
  have hby := Bd.bytes
  have hml : c.maxLocals = 2 := hml0
  have hown : s.vm.findClass "com/example/kleinmaschine/kleinmaschine/PagedBytes" = some m.cls := findClass_of_methodNamed Bd.named
  have hnm := (name_of_methodNamed Bd.named Bd.method).1
  have X0 : Stand p l e ({ frames := 0, cells := 0, slots := 0, locals := 0 } : Room) s m #[(.ref a1), (.int 0)] below meth c s₁ [] 0 0 := Stand.of_body Bd
  have e0 : s₁.heap = h0 := by rw [← hh, Bd.state]; rfl
  have N0 := Fr.nil n0
  obtain ⟨G0, hG0⟩ : ∃ z, z = (mkF m 0 #[.val (.ref a1), .val (.int 0)] []) := ⟨_, rfl⟩
  have pre0 : ∀ t, Steps p.tables e below (s₁.setTop G0) t → Steps p.tables e below (s₁.setTop (entryFrame m #[(.ref a1), (.int 0)] 2)) t := fun t k => castTop (ef_RI_2 m a1 ((0 : Int32))) (hG0 ▸ k)
  have k : Goes p e below s₁ G0 s₁ (mkF m 0 #[.val (.ref a1), .val (.int 0)] []) := fun t q => hG0 ▸ q
  replace k := Fw.aloadN k X0 hx (hb hby d_prog_33_method_7_0) rfl rfl (pc' := 1) rfl
  obtain ⟨T1, X1, e1, st1⟩ := getF X0 hx hZ hown (host := "") (Or.inl (w_56 hw)) Via.refl e0 (Ob.at pr1 1 rfl) (g := (mkF m 1 #[.val (.ref a1), .val (.int 0)] [(.ref a1)])) rfl rfl (hb hby d_prog_33_method_7_1)
  replace k : Goes p e below s₁ G0 T1 (mkF m 4 #[.val (.ref a1), .val (.int 0)] [(.int 3)]) := fun t q => k t (st1 _ q)
  replace k : Goes p e below s₁ G0 T1 (mkF m 6 #[.val (.ref a1), .val (.int 0)] [(.int 65536), (.int 3)]) := fun t q => k t (X1.ldcInt hx hown (mvT hZ (w_55 hw)) (g := (mkF m 4 #[.val (.ref a1), .val (.int 0)] [(.int 3)])) rfl (hb hby d_prog_33_method_7_4) _ q)
  replace k := Fw.icmpYes k X1 hx (hb hby d_prog_33_method_7_6) (feq (show ¬ ((3 : Int32) = (65536 : Int32)) from by decide)).2 (by decide) (pc' := 36) rfl
  replace k := Fw.aloadN k X1 hx (hb hby d_prog_33_method_7_36) rfl rfl (pc' := 37) rfl
  obtain ⟨T2, X2, e2, st2⟩ := getF X1 hx hZ hown (host := "") (Or.inl (w_147 hw)) Via.refl e1 (Ob.at pr1 3 rfl) (g := (mkF m 37 #[.val (.ref a1), .val (.int 0)] [(.ref a1)])) rfl rfl (hb hby d_prog_33_method_7_37)
  replace k : Goes p e below s₁ G0 T2 (mkF m 40 #[.val (.ref a1), .val (.int 0)] [(.ref a3)]) := fun t q => k t (st2 _ q)
  replace k := Fw.aloadN k X2 hx (hb hby d_prog_33_method_7_40) rfl rfl (pc' := 41) rfl
  replace k := Fw.dup k X2 hx (hb hby d_prog_33_method_7_41) rfl (pc' := 42) rfl
  obtain ⟨T3, X3, e3, st3⟩ := getF X2 hx hZ hown (host := "") (Or.inl (w_56 hw)) Via.refl e2 (Ob.at pr1 1 rfl) (g := (mkF m 42 #[.val (.ref a1), .val (.int 0)] [(.ref a1), (.ref a1), (.ref a3)])) rfl rfl (hb hby d_prog_33_method_7_42)
  replace k : Goes p e below s₁ G0 T3 (mkF m 45 #[.val (.ref a1), .val (.int 0)] [(.int 3), (.ref a1), (.ref a3)]) := fun t q => k t (st3 _ q)
  replace k := Fw.dupX1 k X3 hx (hb hby d_prog_33_method_7_45) rfl rfl (pc' := 46) rfl
  replace k := Fw.iconst k X3 hx (hb hby d_prog_33_method_7_46) (z := (1 : Int32)) (by decide) (pc' := 47) rfl
  replace k := Fw.iadd k X3 hx (hb hby d_prog_33_method_7_47) (z := (4 : Int32)) (by decide) (pc' := 48) rfl
  obtain ⟨T4, h4, X4, e4, W4, st4⟩ := putF X3 hx hZ hown (host := "") (Or.inl (w_56 hw)) Via.refl e3 (Ob.at pr1 1 rfl) pr1.exa (Or.inl (w_57 hw)) (w_18 hw) (ty := .int) (by decide +kernel) rfl rfl (g := (mkF m 48 #[.val (.ref a1), .val (.int 0)] [(.int 4), (.ref a1), (.int 3), (.ref a3)])) rfl rfl (hb hby d_prog_33_method_7_48)
  have N4 := Fr.snoc X4 N0 pr2
  have O4 : Ob Z h4 a1 "com/example/kleinmaschine/kleinmaschine/PagedBytes" [("com/example/kleinmaschine/kleinmaschine/PagedBytes", "pages", "Ljava/util/List;", (.ref a2)), ("com/example/kleinmaschine/kleinmaschine/PagedBytes", "lastUsed", "I", (.int 4)), ("com/example/kleinmaschine/kleinmaschine/PagedBytes", "size", "J", (.long 3)), ("com/example/kleinmaschine/kleinmaschine/PagedBytes", "last", "[B", (.ref a3))] := Ob.put pr1 (lay_PagedBytes hw) 1 rfl W4
  replace k : Goes p e below s₁ G0 T4 (mkF m 51 #[.val (.ref a1), .val (.int 0)] [(.int 3), (.ref a3)]) := fun t q => k t (st4 _ q)
  replace k := Fw.iloadN k X4 hx (hb hby d_prog_33_method_7_51) rfl (pc' := 52) rfl
  replace k := Fw.i2b k X4 hx (hb hby d_prog_33_method_7_52) (z := (0 : Int32)) (by decide) (pc' := 53) rfl
  have fc5 := (pr3.other W4 pr4)
  obtain ⟨cl6, Ar6, hin6, -, kq6, -⟩ := Aw.open fc5 (j := (3 : Int32)) 3 (by decide) (by decide) (by decide)
  obtain ⟨T6, h6, X6, e6, W6, st6⟩ := stB X4 hx hZ e4 Ar6 (j := (3 : Int32)) hin6 (g := (mkF m 53 #[.val (.ref a1), .val (.int 0)] [(.int 0), (.int 3), (.ref a3)])) rfl rfl (hb hby d_prog_33_method_7_53)
  have N6 := Fr.snoc X6 N4 pr5
  have V6 : Aw Z h6 a3 "[B" k4 .byte 65536 (updv (updv (updv (updv (fun _ => (.int 0)) 0 (.int 1)) 1 (.int 1)) 2 (.int 0)) 3 (.int 0)) := Aw.set fc5 W6 3 (by decide) (by decide)
  replace k : Goes p e below s₁ G0 T6 (mkF m 54 #[.val (.ref a1), .val (.int 0)] []) := fun t q => k t (st6 _ q)
  replace k := Fw.aloadN k X6 hx (hb hby d_prog_33_method_7_54) rfl rfl (pc' := 55) rfl
  replace k := Fw.dup k X6 hx (hb hby d_prog_33_method_7_55) rfl (pc' := 56) rfl
  have fc7 := (O4.other W6 (Ne.symm pr4))
  obtain ⟨T8, X8, e8, st8⟩ := getF X6 hx hZ hown (host := "") (Or.inl (w_112 hw)) Via.refl e6 (Ob.at fc7 2 rfl) (g := (mkF m 56 #[.val (.ref a1), .val (.int 0)] [(.ref a1), (.ref a1)])) rfl rfl (hb hby d_prog_33_method_7_56)
  replace k : Goes p e below s₁ G0 T8 (mkF m 59 #[.val (.ref a1), .val (.int 0)] [(.long 3), (.ref a1)]) := fun t q => k t (st8 _ q)
  replace k := Fw.lconst k X8 hx (hb hby d_prog_33_method_7_59) (z := (1 : Int64)) (by decide) (pc' := 60) rfl
  replace k := Fw.ladd k X8 hx (hb hby d_prog_33_method_7_60) (z := (4 : Int64)) (by decide) (pc' := 61) rfl
  obtain ⟨T9, h9, X9, e9, W9, st9⟩ := putF X8 hx hZ hown (host := "") (Or.inl (w_112 hw)) Via.refl e8 (Ob.at fc7 2 rfl) fc7.exa (Or.inl (w_113 hw)) (w_18 hw) (ty := .long) (by decide +kernel) rfl rfl (g := (mkF m 61 #[.val (.ref a1), .val (.int 0)] [(.long 4), (.ref a1)])) rfl rfl (hb hby d_prog_33_method_7_61)
  have N9 := Fr.snoc X9 N6 pr2
  have O9 : Ob Z h9 a1 "com/example/kleinmaschine/kleinmaschine/PagedBytes" [("com/example/kleinmaschine/kleinmaschine/PagedBytes", "pages", "Ljava/util/List;", (.ref a2)), ("com/example/kleinmaschine/kleinmaschine/PagedBytes", "lastUsed", "I", (.int 4)), ("com/example/kleinmaschine/kleinmaschine/PagedBytes", "size", "J", (.long 4)), ("com/example/kleinmaschine/kleinmaschine/PagedBytes", "last", "[B", (.ref a3))] := Ob.put fc7 (lay_PagedBytes hw) 2 rfl W9
  replace k : Goes p e below s₁ G0 T9 (mkF m 64 #[.val (.ref a1), .val (.int 0)] []) := fun t q => k t (st9 _ q)
  obtain ⟨fs, hr, hrun, hended, hW, hsame⟩ := X9.leave (v := none) (fun _ => rfl)
  refine ⟨_, _, pre0 _ (k _ ?_), hrun, hended, _, _, rfl, ?_, ⟨_, rfl⟩, hW, hsame.mono (by decide) (by decide)⟩
  · exact X9.returnOut hx Bd.returns (hb hby d_prog_33_method_7_64) hr
  · show Q_PagedBytes_write_4 Z a1 a2 a3 k4 h0 n0 _ T9.heap _
    rw [e9]
    exact ⟨rfl, N9, ((((Keep.refl h0 [a3, a1]).wr W4 (Or.inl (List.mem_of_getElem? (i := 1) rfl))).wr W6 (Or.inl (List.mem_of_getElem? (i := 0) rfl))).wr W9 (Or.inl (List.mem_of_getElem? (i := 1) rfl))), (V6.other W9 pr4), O9⟩
def Q_PagedBytes_accept_4 (Z : State) (a1 : Addr) (a2 : Addr) (a3 : Addr) (k4 : ClassId) (h0 : Heap) (n0 : Nat) (v : Option Value) (h : Heap) (L : List Loc) : Prop := v = none ∧ Fr n0 L ∧ Keep h0 h [a3, a1] ∧ Aw Z h a3 "[B" k4 .byte 65536 (updv (updv (updv (updv (fun _ => (.int 0)) 0 (.int 1)) 1 (.int 1)) 2 (.int 0)) 3 (.int 0)) ∧ Ob Z h a1 "com/example/kleinmaschine/kleinmaschine/PagedBytes" [("com/example/kleinmaschine/kleinmaschine/PagedBytes", "pages", "Ljava/util/List;", (.ref a2)), ("com/example/kleinmaschine/kleinmaschine/PagedBytes", "lastUsed", "I", (.int 4)), ("com/example/kleinmaschine/kleinmaschine/PagedBytes", "size", "J", (.long 4)), ("com/example/kleinmaschine/kleinmaschine/PagedBytes", "last", "[B", (.ref a3))]
set_option maxRecDepth 65536 in
set_option maxHeartbeats 40000000 in
theorem rm_PagedBytes_accept_4 (l : Launch) (Z : State) (a0 : Array Value) (hw : ∀ d ∈ tables_1, d.before a0 Z = true) (ws : List Jvm.Cond) (a1 : Addr) (a2 : Addr) (a3 : Addr) (k4 : ClassId) (h0 : Heap) (n0 : Nat) (O0 : Old Z n0 h0) (pr1 : Ob Z h0 a1 "com/example/kleinmaschine/kleinmaschine/PagedBytes" [("com/example/kleinmaschine/kleinmaschine/PagedBytes", "pages", "Ljava/util/List;", (.ref a2)), ("com/example/kleinmaschine/kleinmaschine/PagedBytes", "lastUsed", "I", (.int 3)), ("com/example/kleinmaschine/kleinmaschine/PagedBytes", "size", "J", (.long 3)), ("com/example/kleinmaschine/kleinmaschine/PagedBytes", "last", "[B", (.ref a3))]) (pr2 : n0 ≤ a1) (pr3 : Aw Z h0 a3 "[B" k4 .byte 65536 (updv (updv (updv (fun _ => (.int 0)) 0 (.int 1)) 1 (.int 1)) 2 (.int 0))) (pr4 : a3 ≠ a1) (pr5 : n0 ≤ a3) :
    MetFree l (⟨"com/example/kleinmaschine/kleinmaschine/PagedBytes", "accept", "(I)V"⟩ : MethodName) (head1 (Jvm.Cond.code (⟨"com/example/kleinmaschine/kleinmaschine/PagedBytes", "accept", "(I)V"⟩ : MethodName) prog_33_method_6_code 2 none :: ws) ({ frames := 1, cells := 0, slots := 0, locals := 13 } : Room)) (fun a U => a = #[(.ref a1), (.int 0)] ∧ Z.Warmed39 U.vm ∧ U.heap = h0) (fun _ _ _ _ _ => True) (fun _ U o U' => ∃ v L, o = .returned v ∧ Q_PagedBytes_accept_4 Z a1 a2 a3 k4 h0 n0 v U'.heap L ∧ FrameEnd U o U' L ({ frames := 1, cells := 0, slots := 0, locals := 13 } : Room).cells ({ frames := 1, cells := 0, slots := 0, locals := 13 } : Room).slots) := by
  refine MetFree.of_bodySF (plainFor_of_name pn_PagedBytes) hisR ?_
  intro p e s m args below meth c s₁ Bd hml0 hP hK
  obtain ⟨rfl, hZ, hh⟩ := hP
  have hx := Bd.exec
  have hby := Bd.bytes
  have hml : c.maxLocals = 2 := hml0
  have hown : s.vm.findClass "com/example/kleinmaschine/kleinmaschine/PagedBytes" = some m.cls := findClass_of_methodNamed Bd.named
  have hnm := (name_of_methodNamed Bd.named Bd.method).1
  have X0 : Stand p l e ({ frames := 1, cells := 0, slots := 0, locals := 13 } : Room) s m #[(.ref a1), (.int 0)] below meth c s₁ [] 0 0 := Stand.of_body Bd
  have e0 : s₁.heap = h0 := by rw [← hh, Bd.state]; rfl
  have N0 := Fr.nil n0
  obtain ⟨G0, hG0⟩ : ∃ z, z = (mkF m 0 #[.val (.ref a1), .val (.int 0)] []) := ⟨_, rfl⟩
  have pre0 : ∀ t, Steps p.tables e below (s₁.setTop G0) t → Steps p.tables e below (s₁.setTop (entryFrame m #[(.ref a1), (.int 0)] 2)) t := fun t k => castTop (ef_RI_2 m a1 ((0 : Int32))) (hG0 ▸ k)
  have k : Goes p e below s₁ G0 s₁ (mkF m 0 #[.val (.ref a1), .val (.int 0)] []) := fun t q => hG0 ▸ q
  replace k := Fw.aloadN k X0 hx (hb hby d_prog_33_method_6_0) rfl rfl (pc' := 1) rfl
  replace k := Fw.iloadN k X0 hx (hb hby d_prog_33_method_6_1) rfl (pc' := 2) rfl
  obtain ⟨cq1, kq1, q1a, q1b, q1c⟩ := isOf hZ e0 pr1.exa
  obtain ⟨_, _, ⟨T1, L1, kz1, nz1⟩, -, X1, ⟨Lc1, hQ1, l1, y1, z1⟩, st1⟩ := X0.virtualBack hx (y := (⟨"com/example/kleinmaschine/kleinmaschine/PagedBytes", "write", "(I)V"⟩ : MethodName)) (z := (⟨"com/example/kleinmaschine/kleinmaschine/PagedBytes", "write", "(I)V"⟩ : MethodName)) hown (mvT hZ (w_141 hw)) (mvT hZ (w_142 hw)) (notFace_of_selects (args := #[]) (mvT hZ (w_144 hw))) (mvT hZ (w_144 hw)) (mvT hZ (w_143 hw)) (by decide) (backOf (W := 0) (rm_PagedBytes_write_4 l Z a0 hw [] a1 a2 a3 k4 h0 n0 O0 pr1 pr2 pr3 pr4 pr5) hZ (w_145 hw) (w_19 hw) (by decide) (by decide)) q1a q1c (g := (mkF m 2 #[.val (.ref a1), .val (.int 0)] [(.int 0), (.ref a1)])) rfl (by rw [hml]; rfl) (Steps.refl _) (argsL := [(.int 0)]) (rest := []) (lenOf pd_I_r_V rfl) rfl (by show 2 * 0 + _ ≤ _; exact Nat.le_of_eq rfl) (hb hby d_prog_33_method_6_2) (fun _ _ => ⟨rfl, e0, (by decide : 0 + 0 ≤ _), (by decide : 0 + 0 ≤ _)⟩)
  dsimp only [Pt.U, Pt.locs, Pt.cells, Pt.slots] at X1 l1 y1 z1 st1 hQ1
  subst l1 y1 z1
  obtain ⟨hv1, N1q, K1, f1_0, f1_1⟩ := hQ1
  subst hv1
  have N1 := Fr.app N0 N1q
  replace k : Goes p e below s₁ G0 T1 (mkF m 5 #[.val (.ref a1), .val (.int 0)] []) := fun t q => k t (st1.trans q)
  obtain ⟨fs, hr, hrun, hended, hW, hsame⟩ := X1.leave (v := none) (fun _ => rfl)
  refine ⟨_, _, pre0 _ (k _ ?_), hrun, hended, _, _, rfl, ?_, ⟨_, rfl⟩, hW, hsame.mono (by decide) (by decide)⟩
  · exact X1.returnOut hx Bd.returns (hb hby d_prog_33_method_6_5) hr
  · show Q_PagedBytes_accept_4 Z a1 a2 a3 k4 h0 n0 _ T1.heap _
    exact ⟨rfl, N1, ((Keep.refl h0 [a3, a1]).trans K1 (allS (Or.inl (List.mem_of_getElem? (i := 0) rfl)) (allS (Or.inl (List.mem_of_getElem? (i := 1) rfl)) all0))), f1_0, f1_1⟩
def Q_PagedBytes_writeNumber_8 (Z : State) (a1 : Addr) (a2 : Addr) (a3 : Addr) (k4 : ClassId) (h0 : Heap) (n0 : Nat) (v : Option Value) (h : Heap) (L : List Loc) : Prop := v = none ∧ Fr n0 L ∧ Keep h0 h [a3, a1] ∧ Aw Z h a3 "[B" k4 .byte 65536 (updv (updv (updv (updv (fun _ => (.int 0)) 0 (.int 1)) 1 (.int 1)) 2 (.int 0)) 3 (.int 0)) ∧ Ob Z h a1 "com/example/kleinmaschine/kleinmaschine/PagedBytes" [("com/example/kleinmaschine/kleinmaschine/PagedBytes", "pages", "Ljava/util/List;", (.ref a2)), ("com/example/kleinmaschine/kleinmaschine/PagedBytes", "lastUsed", "I", (.int 4)), ("com/example/kleinmaschine/kleinmaschine/PagedBytes", "size", "J", (.long 4)), ("com/example/kleinmaschine/kleinmaschine/PagedBytes", "last", "[B", (.ref a3))]
set_option maxRecDepth 65536 in
set_option maxHeartbeats 40000000 in
theorem rm_PagedBytes_writeNumber_8 (l : Launch) (Z : State) (a0 : Array Value) (hw : ∀ d ∈ tables_1, d.before a0 Z = true) (ws : List Jvm.Cond) (a1 : Addr) (a2 : Addr) (a3 : Addr) (k4 : ClassId) (h0 : Heap) (n0 : Nat) (O0 : Old Z n0 h0) (pr1 : Ob Z h0 a1 "com/example/kleinmaschine/kleinmaschine/PagedBytes" [("com/example/kleinmaschine/kleinmaschine/PagedBytes", "pages", "Ljava/util/List;", (.ref a2)), ("com/example/kleinmaschine/kleinmaschine/PagedBytes", "lastUsed", "I", (.int 3)), ("com/example/kleinmaschine/kleinmaschine/PagedBytes", "size", "J", (.long 3)), ("com/example/kleinmaschine/kleinmaschine/PagedBytes", "last", "[B", (.ref a3))]) (pr2 : n0 ≤ a1) (pr3 : Aw Z h0 a3 "[B" k4 .byte 65536 (updv (updv (updv (fun _ => (.int 0)) 0 (.int 1)) 1 (.int 1)) 2 (.int 0))) (pr4 : a3 ≠ a1) (pr5 : n0 ≤ a3) :
    MetFree l (⟨"com/example/kleinmaschine/kleinmaschine/PagedBytes", "writeNumber", "(JLjava/util/function/IntConsumer;)V"⟩ : MethodName) (head1 (Jvm.Cond.code (⟨"com/example/kleinmaschine/kleinmaschine/PagedBytes", "writeNumber", "(JLjava/util/function/IntConsumer;)V"⟩ : MethodName) prog_33_method_2_code 5 none :: ws) ({ frames := 2, cells := 0, slots := 0, locals := 26 } : Room)) (fun a U => a = #[(.long 0), (.ref a1)] ∧ Z.Warmed39 U.vm ∧ U.heap = h0) (fun _ _ _ _ _ => True) (fun _ U o U' => ∃ v L, o = .returned v ∧ Q_PagedBytes_writeNumber_8 Z a1 a2 a3 k4 h0 n0 v U'.heap L ∧ FrameEnd U o U' L ({ frames := 2, cells := 0, slots := 0, locals := 26 } : Room).cells ({ frames := 2, cells := 0, slots := 0, locals := 26 } : Room).slots) := by
  refine MetFree.of_bodySF (plainFor_of_name pn_PagedBytes) hisR ?_
  intro p e s m args below meth c s₁ Bd hml0 hP hK
  obtain ⟨rfl, hZ, hh⟩ := hP
  have hx := Bd.exec
  have hby := Bd.bytes
  have hml : c.maxLocals = 5 := hml0
  have hown : s.vm.findClass "com/example/kleinmaschine/kleinmaschine/PagedBytes" = some m.cls := findClass_of_methodNamed Bd.named
  have hnm := (name_of_methodNamed Bd.named Bd.method).1
  have X0 : Stand p l e ({ frames := 2, cells := 0, slots := 0, locals := 26 } : Room) s m #[(.long 0), (.ref a1)] below meth c s₁ [] 0 0 := Stand.of_body Bd
  have e0 : s₁.heap = h0 := by rw [← hh, Bd.state]; rfl
  have N0 := Fr.nil n0
  obtain ⟨G0, hG0⟩ : ∃ z, z = (mkF m 0 #[.val (.long 0), .second, .val (.ref a1), .unset, .unset] []) := ⟨_, rfl⟩
  have pre0 : ∀ t, Steps p.tables e below (s₁.setTop G0) t → Steps p.tables e below (s₁.setTop (entryFrame m #[(.long 0), (.ref a1)] 5)) t := fun t k => castTop (ef_JR_5 m ((0 : Int64)) a1) (hG0 ▸ k)
  have k : Goes p e below s₁ G0 s₁ (mkF m 0 #[.val (.long 0), .second, .val (.ref a1), .unset, .unset] []) := fun t q => hG0 ▸ q
  replace k := Fw.lloadN k X0 hx (hb hby d_prog_33_method_2_0) rfl (pc' := 1) rfl
  replace k := Fw.lstoreN k X0 hx (hb hby d_prog_33_method_2_1)  (Ls' := #[.val (.long 0), .second, .val (.ref a1), .val (.long 0), .second]) rfl (pc' := 2) rfl
  replace k := Fw.lloadN k X0 hx (hb hby d_prog_33_method_2_2) rfl (pc' := 3) rfl
  replace k : Goes p e below s₁ G0 s₁ (mkF m 6 #[.val (.long 0), .second, .val (.ref a1), .val (.long 0), .second] [(.long (-128)), (.long 0)]) := fun t q => k t (X0.ldc2Long hx hown (mvT hZ (w_131 hw)) (g := (mkF m 3 #[.val (.long 0), .second, .val (.ref a1), .val (.long 0), .second] [(.long 0)])) rfl (hb hby d_prog_33_method_2_3) _ q)
  replace k := Fw.land k X0 hx (hb hby d_prog_33_method_2_6) (z := (0 : Int64)) (by decide) (pc' := 7) rfl
  replace k := Fw.lconst k X0 hx (hb hby d_prog_33_method_2_7) (z := (0 : Int64)) (by decide) (pc' := 8) rfl
  replace k : Goes p e below s₁ G0 s₁ (mkF m 9 #[.val (.long 0), .second, .val (.ref a1), .val (.long 0), .second] [(.int 0)]) := Fw.lcmp k X0 hx (hb hby d_prog_33_method_2_8) rfl
  replace k := Fw.ifYes k X0 hx (hb hby d_prog_33_method_2_9) ((if0 _ _).trans (teq (show (0 : Int32) = (0 : Int32) from by decide)).1) (by decide) (pc' := 36) rfl
  replace k := Fw.aloadN k X0 hx (hb hby d_prog_33_method_2_36) rfl rfl (pc' := 37) rfl
  replace k := Fw.lloadN k X0 hx (hb hby d_prog_33_method_2_37) rfl (pc' := 38) rfl
  replace k := Fw.l2i k X0 hx (hb hby d_prog_33_method_2_38) (z := (0 : Int32)) (by decide) (pc' := 39) rfl
  obtain ⟨cq1, kq1, q1a, q1b, q1c⟩ := isOf hZ e0 pr1.exa
  obtain ⟨_, _, ⟨T1, L1, kz1, nz1⟩, -, X1, ⟨Lc1, hQ1, l1, y1, z1⟩, st1⟩ := X0.interfaceBack hx (xi := (⟨"java/util/function/IntConsumer", "accept", "(I)V"⟩ : MethodName)) (y := (⟨"com/example/kleinmaschine/kleinmaschine/PagedBytes", "accept", "(I)V"⟩ : MethodName)) hown (mvT hZ (w_132 hw)) (mvT hZ (w_133 hw)) (mvT hZ (w_134 hw)) (mvT hZ (w_135 hw)) (mvT hZ (w_136 hw)) (mvT hZ (w_137 hw)) (mvT hZ (w_138 hw)) (mvT hZ (w_139 hw)) (by decide) (backOf (W := 0) (rm_PagedBytes_accept_4 l Z a0 hw [] a1 a2 a3 k4 h0 n0 O0 pr1 pr2 pr3 pr4 pr5) hZ (w_140 hw) (w_19 hw) (by decide) (by decide)) q1a q1b q1c (g := (mkF m 39 #[.val (.long 0), .second, .val (.ref a1), .val (.long 0), .second] [(.int 0), (.ref a1)])) rfl (by rw [hml]; rfl) (Steps.refl _) (argsL := [(.int 0)]) (rest := []) (lenOf pd_I_r_V rfl) rfl (by show 2 * 0 + _ ≤ _; exact Nat.le_of_eq rfl) (hb hby d_prog_33_method_2_39) (fun _ _ => ⟨rfl, e0, (by decide : 0 + 0 ≤ _), (by decide : 0 + 0 ≤ _)⟩)
  dsimp only [Pt.U, Pt.locs, Pt.cells, Pt.slots] at X1 l1 y1 z1 st1 hQ1
  subst l1 y1 z1
  obtain ⟨hv1, N1q, K1, f1_0, f1_1⟩ := hQ1
  subst hv1
  have N1 := Fr.app N0 N1q
  replace k : Goes p e below s₁ G0 T1 (mkF m 44 #[.val (.long 0), .second, .val (.ref a1), .val (.long 0), .second] []) := fun t q => k t (st1.trans q)
  obtain ⟨fs, hr, hrun, hended, hW, hsame⟩ := X1.leave (v := none) (fun _ => rfl)
  refine ⟨_, _, pre0 _ (k _ ?_), hrun, hended, _, _, rfl, ?_, ⟨_, rfl⟩, hW, hsame.mono (by decide) (by decide)⟩
  · exact X1.returnOut hx Bd.returns (hb hby d_prog_33_method_2_44) hr
  · show Q_PagedBytes_writeNumber_8 Z a1 a2 a3 k4 h0 n0 _ T1.heap _
    exact ⟨rfl, N1, ((Keep.refl h0 [a3, a1]).trans K1 (allS (Or.inl (List.mem_of_getElem? (i := 0) rfl)) (allS (Or.inl (List.mem_of_getElem? (i := 1) rfl)) all0))), f1_0, f1_1⟩
def Q_PagedBytes_writeNumber_7 (Z : State) (a1 : Addr) (a2 : Addr) (a3 : Addr) (k4 : ClassId) (h0 : Heap) (n0 : Nat) (v : Option Value) (h : Heap) (L : List Loc) : Prop := v = none ∧ Fr n0 L ∧ Keep h0 h [a3, a1] ∧ Aw Z h a3 "[B" k4 .byte 65536 (updv (updv (updv (updv (fun _ => (.int 0)) 0 (.int 1)) 1 (.int 1)) 2 (.int 0)) 3 (.int 0)) ∧ Ob Z h a1 "com/example/kleinmaschine/kleinmaschine/PagedBytes" [("com/example/kleinmaschine/kleinmaschine/PagedBytes", "pages", "Ljava/util/List;", (.ref a2)), ("com/example/kleinmaschine/kleinmaschine/PagedBytes", "lastUsed", "I", (.int 4)), ("com/example/kleinmaschine/kleinmaschine/PagedBytes", "size", "J", (.long 4)), ("com/example/kleinmaschine/kleinmaschine/PagedBytes", "last", "[B", (.ref a3))]
set_option maxRecDepth 65536 in
set_option maxHeartbeats 40000000 in
theorem rm_PagedBytes_writeNumber_7 (l : Launch) (Z : State) (a0 : Array Value) (hw : ∀ d ∈ tables_1, d.before a0 Z = true) (ws : List Jvm.Cond) (a1 : Addr) (a2 : Addr) (a3 : Addr) (k4 : ClassId) (h0 : Heap) (n0 : Nat) (O0 : Old Z n0 h0) (pr1 : Ob Z h0 a1 "com/example/kleinmaschine/kleinmaschine/PagedBytes" [("com/example/kleinmaschine/kleinmaschine/PagedBytes", "pages", "Ljava/util/List;", (.ref a2)), ("com/example/kleinmaschine/kleinmaschine/PagedBytes", "lastUsed", "I", (.int 3)), ("com/example/kleinmaschine/kleinmaschine/PagedBytes", "size", "J", (.long 3)), ("com/example/kleinmaschine/kleinmaschine/PagedBytes", "last", "[B", (.ref a3))]) (pr2 : n0 ≤ a1) (pr3 : Aw Z h0 a3 "[B" k4 .byte 65536 (updv (updv (updv (fun _ => (.int 0)) 0 (.int 1)) 1 (.int 1)) 2 (.int 0))) (pr4 : a3 ≠ a1) (pr5 : n0 ≤ a3) :
    MetFree l (⟨"com/example/kleinmaschine/kleinmaschine/PagedBytes", "writeNumber", "(J)V"⟩ : MethodName) (head1 (Jvm.Cond.code (⟨"com/example/kleinmaschine/kleinmaschine/PagedBytes", "writeNumber", "(J)V"⟩ : MethodName) prog_33_method_9_code 3 none :: ws) ({ frames := 3, cells := 0, slots := 0, locals := 42 } : Room)) (fun a U => a = #[(.ref a1), (.long 0)] ∧ Z.Warmed39 U.vm ∧ U.heap = h0) (fun _ _ _ _ _ => True) (fun _ U o U' => ∃ v L, o = .returned v ∧ Q_PagedBytes_writeNumber_7 Z a1 a2 a3 k4 h0 n0 v U'.heap L ∧ FrameEnd U o U' L ({ frames := 3, cells := 0, slots := 0, locals := 42 } : Room).cells ({ frames := 3, cells := 0, slots := 0, locals := 42 } : Room).slots) := by
  refine MetFree.of_bodySF (plainFor_of_name pn_PagedBytes) hisR ?_
  intro p e s m args below meth c s₁ Bd hml0 hP hK
  obtain ⟨rfl, hZ, hh⟩ := hP
  have hx := Bd.exec
  have hby := Bd.bytes
  have hml : c.maxLocals = 3 := hml0
  have hown : s.vm.findClass "com/example/kleinmaschine/kleinmaschine/PagedBytes" = some m.cls := findClass_of_methodNamed Bd.named
  have hnm := (name_of_methodNamed Bd.named Bd.method).1
  have X0 : Stand p l e ({ frames := 3, cells := 0, slots := 0, locals := 42 } : Room) s m #[(.ref a1), (.long 0)] below meth c s₁ [] 0 0 := Stand.of_body Bd
  have e0 : s₁.heap = h0 := by rw [← hh, Bd.state]; rfl
  have N0 := Fr.nil n0
  obtain ⟨G0, hG0⟩ : ∃ z, z = (mkF m 0 #[.val (.ref a1), .val (.long 0), .second] []) := ⟨_, rfl⟩
  have pre0 : ∀ t, Steps p.tables e below (s₁.setTop G0) t → Steps p.tables e below (s₁.setTop (entryFrame m #[(.ref a1), (.long 0)] 3)) t := fun t k => castTop (ef_RJ_3 m a1 ((0 : Int64))) (hG0 ▸ k)
  have k : Goes p e below s₁ G0 s₁ (mkF m 0 #[.val (.ref a1), .val (.long 0), .second] []) := fun t q => hG0 ▸ q
  replace k := Fw.lloadN k X0 hx (hb hby d_prog_33_method_9_0) rfl (pc' := 1) rfl
  replace k := Fw.aloadN k X0 hx (hb hby d_prog_33_method_9_1) rfl rfl (pc' := 2) rfl
  obtain ⟨_, _, ⟨T1, L1, kz1, nz1⟩, -, X1, ⟨Lc1, hQ1, l1, y1, z1⟩, st1⟩ := Jvm.LawKit.callS X0 hx (y := (⟨"com/example/kleinmaschine/kleinmaschine/PagedBytes", "writeNumber", "(JLjava/util/function/IntConsumer;)V"⟩ : MethodName)) hown (mvT hZ (w_128 hw)) (mvT hZ (w_129 hw)) (mvT hZ (w_19 hw)) (mvT hZ (w_130 hw)) (by decide) (backOf (W := 0) (rm_PagedBytes_writeNumber_8 l Z a0 hw [] a1 a2 a3 k4 h0 n0 O0 pr1 pr2 pr3 pr4 pr5) hZ (w_130 hw) (w_19 hw) (by decide) (by decide)) (g := (mkF m 2 #[.val (.ref a1), .val (.long 0), .second] [(.ref a1), (.long 0)])) rfl (by rw [hml]; rfl) (argsL := [(.long 0), (.ref a1)]) (rest := []) (lenOf pd_JLjava_util_function_IntConsumer_r_V rfl) rfl (by show 2 * 0 + _ ≤ _; exact Nat.le_of_eq rfl) (hb hby d_prog_33_method_9_2) (fun _ _ => ⟨rfl, e0, (by decide : 0 + 0 ≤ _), (by decide : 0 + 0 ≤ _)⟩)
  dsimp only [Pt.U, Pt.locs, Pt.cells, Pt.slots] at X1 l1 y1 z1 st1 hQ1
  subst l1 y1 z1
  obtain ⟨hv1, N1q, K1, f1_0, f1_1⟩ := hQ1
  subst hv1
  have N1 := Fr.app N0 N1q
  replace k : Goes p e below s₁ G0 T1 (mkF m 5 #[.val (.ref a1), .val (.long 0), .second] []) := fun t q => k t (st1 _ q)
  obtain ⟨fs, hr, hrun, hended, hW, hsame⟩ := X1.leave (v := none) (fun _ => rfl)
  refine ⟨_, _, pre0 _ (k _ ?_), hrun, hended, _, _, rfl, ?_, ⟨_, rfl⟩, hW, hsame.mono (by decide) (by decide)⟩
  · exact X1.returnOut hx Bd.returns (hb hby d_prog_33_method_9_5) hr
  · show Q_PagedBytes_writeNumber_7 Z a1 a2 a3 k4 h0 n0 _ T1.heap _
    exact ⟨rfl, N1, ((Keep.refl h0 [a3, a1]).trans K1 (allS (Or.inl (List.mem_of_getElem? (i := 0) rfl)) (allS (Or.inl (List.mem_of_getElem? (i := 1) rfl)) all0))), f1_0, f1_1⟩
theorem d_prog_52_method_3_313 : decode prog_52_method_3_code 313 = .ok (.aload 4, 2) := by decide +kernel
theorem d_prog_52_method_3_315 : decode prog_52_method_3_code 315 = .ok (.invokevirtual 102, 3) := by decide +kernel
theorem d_prog_52_method_3_318 : decode prog_52_method_3_code 318 = .ok (.aload_n 0, 1) := by decide +kernel
theorem d_prog_52_method_3_319 : decode prog_52_method_3_code 319 = .ok (.getfield 90, 3) := by decide +kernel
theorem d_prog_52_method_3_322 : decode prog_52_method_3_code 322 = .ok (.lsub, 1) := by decide +kernel
theorem d_prog_52_method_3_323 : decode prog_52_method_3_code 323 = .ok (.goto 8, 3) := by decide +kernel
def Q_PagedBytes_write_5 (Z : State) (a1 : Addr) (a2 : Addr) (a3 : Addr) (k4 : ClassId) (h0 : Heap) (n0 : Nat) (v : Option Value) (h : Heap) (L : List Loc) : Prop := v = none ∧ Fr n0 L ∧ Keep h0 h [a3, a1] ∧ Aw Z h a3 "[B" k4 .byte 65536 (updv (updv (updv (updv (updv (fun _ => (.int 0)) 0 (.int 1)) 1 (.int 1)) 2 (.int 0)) 3 (.int 0)) 4 (.int 0)) ∧ Ob Z h a1 "com/example/kleinmaschine/kleinmaschine/PagedBytes" [("com/example/kleinmaschine/kleinmaschine/PagedBytes", "pages", "Ljava/util/List;", (.ref a2)), ("com/example/kleinmaschine/kleinmaschine/PagedBytes", "lastUsed", "I", (.int 5)), ("com/example/kleinmaschine/kleinmaschine/PagedBytes", "size", "J", (.long 5)), ("com/example/kleinmaschine/kleinmaschine/PagedBytes", "last", "[B", (.ref a3))]
set_option maxRecDepth 65536 in
set_option maxHeartbeats 40000000 in
theorem rm_PagedBytes_write_5 (l : Launch) (Z : State) (a0 : Array Value) (hw : ∀ d ∈ tables_1, d.before a0 Z = true) (ws : List Jvm.Cond) (a1 : Addr) (a2 : Addr) (a3 : Addr) (k4 : ClassId) (h0 : Heap) (n0 : Nat) (O0 : Old Z n0 h0) (pr1 : Ob Z h0 a1 "com/example/kleinmaschine/kleinmaschine/PagedBytes" [("com/example/kleinmaschine/kleinmaschine/PagedBytes", "pages", "Ljava/util/List;", (.ref a2)), ("com/example/kleinmaschine/kleinmaschine/PagedBytes", "lastUsed", "I", (.int 4)), ("com/example/kleinmaschine/kleinmaschine/PagedBytes", "size", "J", (.long 4)), ("com/example/kleinmaschine/kleinmaschine/PagedBytes", "last", "[B", (.ref a3))]) (pr2 : n0 ≤ a1) (pr3 : Aw Z h0 a3 "[B" k4 .byte 65536 (updv (updv (updv (updv (fun _ => (.int 0)) 0 (.int 1)) 1 (.int 1)) 2 (.int 0)) 3 (.int 0))) (pr4 : a3 ≠ a1) (pr5 : n0 ≤ a3) :
    MetFree l (⟨"com/example/kleinmaschine/kleinmaschine/PagedBytes", "write", "(I)V"⟩ : MethodName) (head1 (Jvm.Cond.code (⟨"com/example/kleinmaschine/kleinmaschine/PagedBytes", "write", "(I)V"⟩ : MethodName) prog_33_method_7_code 2 none :: ws) ({ frames := 0, cells := 0, slots := 0, locals := 0 } : Room)) (fun a U => a = #[(.ref a1), (.int 0)] ∧ Z.Warmed39 U.vm ∧ U.heap = h0) (fun _ _ _ _ _ => True) (fun _ U o U' => ∃ v L, o = .returned v ∧ Q_PagedBytes_write_5 Z a1 a2 a3 k4 h0 n0 v U'.heap L ∧ FrameEnd U o U' L ({ frames := 0, cells := 0, slots := 0, locals := 0 } : Room).cells ({ frames := 0, cells := 0, slots := 0, locals := 0 } : Room).slots) := by
  refine MetFree.of_bodySF (plainFor_of_name pn_PagedBytes) hisR ?_
  intro p e s m args below meth c s₁ Bd hml0 hP hK
  obtain ⟨rfl, hZ, hh⟩ := hP
  have hx := Bd.exec
  have hby := Bd.bytes
  have hml : c.maxLocals = 2 := hml0
  have hown : s.vm.findClass "com/example/kleinmaschine/kleinmaschine/PagedBytes" = some m.cls := findClass_of_methodNamed Bd.named
  have hnm := (name_of_methodNamed Bd.named Bd.method).1
  have X0 : Stand p l e ({ frames := 0, cells := 0, slots := 0, locals := 0 } : Room) s m #[(.ref a1), (.int 0)] below meth c s₁ [] 0 0 := Stand.of_body Bd
  have e0 : s₁.heap = h0 := by rw [← hh, Bd.state]; rfl
  have N0 := Fr.nil n0
  obtain ⟨G0, hG0⟩ : ∃ z, z = (mkF m 0 #[.val (.ref a1), .val (.int 0)] []) := ⟨_, rfl⟩
  have pre0 : ∀ t, Steps p.tables e below (s₁.setTop G0) t → Steps p.tables e below (s₁.setTop (entryFrame m #[(.ref a1), (.int 0)] 2)) t := fun t k => castTop (ef_RI_2 m a1 ((0 : Int32))) (hG0 ▸ k)
  have k : Goes p e below s₁ G0 s₁ (mkF m 0 #[.val (.ref a1), .val (.int 0)] []) := fun t q => hG0 ▸ q
  replace k := Fw.aloadN k X0 hx (hb hby d_prog_33_method_7_0) rfl rfl (pc' := 1) rfl
  obtain ⟨T1, X1, e1, st1⟩ := getF X0 hx hZ hown (host := "") (Or.inl (w_56 hw)) Via.refl e0 (Ob.at pr1 1 rfl) (g := (mkF m 1 #[.val (.ref a1), .val (.int 0)] [(.ref a1)])) rfl rfl (hb hby d_prog_33_method_7_1)
  replace k : Goes p e below s₁ G0 T1 (mkF m 4 #[.val (.ref a1), .val (.int 0)] [(.int 4)]) := fun t q => k t (st1 _ q)
  replace k : Goes p e below s₁ G0 T1 (mkF m 6 #[.val (.ref a1), .val (.int 0)] [(.int 65536), (.int 4)]) := fun t q => k t (X1.ldcInt hx hown (mvT hZ (w_55 hw)) (g := (mkF m 4 #[.val (.ref a1), .val (.int 0)] [(.int 4)])) rfl (hb hby d_prog_33_method_7_4) _ q)
  replace k := Fw.icmpYes k X1 hx (hb hby d_prog_33_method_7_6) (feq (show ¬ ((4 : Int32) = (65536 : Int32)) from by decide)).2 (by decide) (pc' := 36) rfl
  replace k := Fw.aloadN k X1 hx (hb hby d_prog_33_method_7_36) rfl rfl (pc' := 37) rfl
  obtain ⟨T2, X2, e2, st2⟩ := getF X1 hx hZ hown (host := "") (Or.inl (w_147 hw)) Via.refl e1 (Ob.at pr1 3 rfl) (g := (mkF m 37 #[.val (.ref a1), .val (.int 0)] [(.ref a1)])) rfl rfl (hb hby d_prog_33_method_7_37)
  replace k : Goes p e below s₁ G0 T2 (mkF m 40 #[.val (.ref a1), .val (.int 0)] [(.ref a3)]) := fun t q => k t (st2 _ q)
  replace k := Fw.aloadN k X2 hx (hb hby d_prog_33_method_7_40) rfl rfl (pc' := 41) rfl
  replace k := Fw.dup k X2 hx (hb hby d_prog_33_method_7_41) rfl (pc' := 42) rfl
  obtain ⟨T3, X3, e3, st3⟩ := getF X2 hx hZ hown (host := "") (Or.inl (w_56 hw)) Via.refl e2 (Ob.at pr1 1 rfl) (g := (mkF m 42 #[.val (.ref a1), .val (.int 0)] [(.ref a1), (.ref a1), (.ref a3)])) rfl rfl (hb hby d_prog_33_method_7_42)
  replace k : Goes p e below s₁ G0 T3 (mkF m 45 #[.val (.ref a1), .val (.int 0)] [(.int 4), (.ref a1), (.ref a3)]) := fun t q => k t (st3 _ q)
  replace k := Fw.dupX1 k X3 hx (hb hby d_prog_33_method_7_45) rfl rfl (pc' := 46) rfl
  replace k := Fw.iconst k X3 hx (hb hby d_prog_33_method_7_46) (z := (1 : Int32)) (by decide) (pc' := 47) rfl
  replace k := Fw.iadd k X3 hx (hb hby d_prog_33_method_7_47) (z := (5 : Int32)) (by decide) (pc' := 48) rfl
  obtain ⟨T4, h4, X4, e4, W4, st4⟩ := putF X3 hx hZ hown (host := "") (Or.inl (w_56 hw)) Via.refl e3 (Ob.at pr1 1 rfl) pr1.exa (Or.inl (w_57 hw)) (w_18 hw) (ty := .int) (by decide +kernel) rfl rfl (g := (mkF m 48 #[.val (.ref a1), .val (.int 0)] [(.int 5), (.ref a1), (.int 4), (.ref a3)])) rfl rfl (hb hby d_prog_33_method_7_48)
  have N4 := Fr.snoc X4 N0 pr2
  have O4 : Ob Z h4 a1 "com/example/kleinmaschine/kleinmaschine/PagedBytes" [("com/example/kleinmaschine/kleinmaschine/PagedBytes", "pages", "Ljava/util/List;", (.ref a2)), ("com/example/kleinmaschine/kleinmaschine/PagedBytes", "lastUsed", "I", (.int 5)), ("com/example/kleinmaschine/kleinmaschine/PagedBytes", "size", "J", (.long 4)), ("com/example/kleinmaschine/kleinmaschine/PagedBytes", "last", "[B", (.ref a3))] := Ob.put pr1 (lay_PagedBytes hw) 1 rfl W4
  replace k : Goes p e below s₁ G0 T4 (mkF m 51 #[.val (.ref a1), .val (.int 0)] [(.int 4), (.ref a3)]) := fun t q => k t (st4 _ q)
  replace k := Fw.iloadN k X4 hx (hb hby d_prog_33_method_7_51) rfl (pc' := 52) rfl
  replace k := Fw.i2b k X4 hx (hb hby d_prog_33_method_7_52) (z := (0 : Int32)) (by decide) (pc' := 53) rfl
  have fc5 := (pr3.other W4 pr4)
  obtain ⟨cl6, Ar6, hin6, -, kq6, -⟩ := Aw.open fc5 (j := (4 : Int32)) 4 (by decide) (by decide) (by decide)
  obtain ⟨T6, h6, X6, e6, W6, st6⟩ := stB X4 hx hZ e4 Ar6 (j := (4 : Int32)) hin6 (g := (mkF m 53 #[.val (.ref a1), .val (.int 0)] [(.int 0), (.int 4), (.ref a3)])) rfl rfl (hb hby d_prog_33_method_7_53)
  have N6 := Fr.snoc X6 N4 pr5
  have V6 : Aw Z h6 a3 "[B" k4 .byte 65536 (updv (updv (updv (updv (updv (fun _ => (.int 0)) 0 (.int 1)) 1 (.int 1)) 2 (.int 0)) 3 (.int 0)) 4 (.int 0)) := Aw.set fc5 W6 4 (by decide) (by decide)
  replace k : Goes p e below s₁ G0 T6 (mkF m 54 #[.val (.ref a1), .val (.int 0)] []) := fun t q => k t (st6 _ q)
  replace k := Fw.aloadN k X6 hx (hb hby d_prog_33_method_7_54) rfl rfl (pc' := 55) rfl
  replace k := Fw.dup k X6 hx (hb hby d_prog_33_method_7_55) rfl (pc' := 56) rfl
  have fc7 := (O4.other W6 (Ne.symm pr4))
  obtain ⟨T8, X8, e8, st8⟩ := getF X6 hx hZ hown (host := "") (Or.inl (w_112 hw)) Via.refl e6 (Ob.at fc7 2 rfl) (g := (mkF m 56 #[.val (.ref a1), .val (.int 0)] [(.ref a1), (.ref a1)])) rfl rfl (hb hby d_prog_33_method_7_56)
  replace k : Goes p e below s₁ G0 T8 (mkF m 59 #[.val (.ref a1), .val (.int 0)] [(.long 4), (.ref a1)]) := fun t q => k t (st8 _ q)
  replace k := Fw.lconst k X8 hx (hb hby d_prog_33_method_7_59) (z := (1 : Int64)) (by decide) (pc' := 60) rfl
  replace k := Fw.ladd k X8 hx (hb hby d_prog_33_method_7_60) (z := (5 : Int64)) (by decide) (pc' := 61) rfl
  obtain ⟨T9, h9, X9, e9, W9, st9⟩ := putF X8 hx hZ hown (host := "") (Or.inl (w_112 hw)) Via.refl e8 (Ob.at fc7 2 rfl) fc7.exa (Or.inl (w_113 hw)) (w_18 hw) (ty := .long) (by decide +kernel) rfl rfl (g := (mkF m 61 #[.val (.ref a1), .val (.int 0)] [(.long 5), (.ref a1)])) rfl rfl (hb hby d_prog_33_method_7_61)
  have N9 := Fr.snoc X9 N6 pr2
  have O9 : Ob Z h9 a1 "com/example/kleinmaschine/kleinmaschine/PagedBytes" [("com/example/kleinmaschine/kleinmaschine/PagedBytes", "pages", "Ljava/util/List;", (.ref a2)), ("com/example/kleinmaschine/kleinmaschine/PagedBytes", "lastUsed", "I", (.int 5)), ("com/example/kleinmaschine/kleinmaschine/PagedBytes", "size", "J", (.long 5)), ("com/example/kleinmaschine/kleinmaschine/PagedBytes", "last", "[B", (.ref a3))] := Ob.put fc7 (lay_PagedBytes hw) 2 rfl W9
  replace k : Goes p e below s₁ G0 T9 (mkF m 64 #[.val (.ref a1), .val (.int 0)] []) := fun t q => k t (st9 _ q)
  obtain ⟨fs, hr, hrun, hended, hW, hsame⟩ := X9.leave (v := none) (fun _ => rfl)
  refine ⟨_, _, pre0 _ (k _ ?_), hrun, hended, _, _, rfl, ?_, ⟨_, rfl⟩, hW, hsame.mono (by decide) (by decide)⟩
  · exact X9.returnOut hx Bd.returns (hb hby d_prog_33_method_7_64) hr
  · show Q_PagedBytes_write_5 Z a1 a2 a3 k4 h0 n0 _ T9.heap _
    rw [e9]
    exact ⟨rfl, N9, ((((Keep.refl h0 [a3, a1]).wr W4 (Or.inl (List.mem_of_getElem? (i := 1) rfl))).wr W6 (Or.inl (List.mem_of_getElem? (i := 0) rfl))).wr W9 (Or.inl (List.mem_of_getElem? (i := 1) rfl))), (V6.other W9 pr4), O9⟩
def Q_PagedBytes_accept_5 (Z : State) (a1 : Addr) (a2 : Addr) (a3 : Addr) (k4 : ClassId) (h0 : Heap) (n0 : Nat) (v : Option Value) (h : Heap) (L : List Loc) : Prop := v = none ∧ Fr n0 L ∧ Keep h0 h [a3, a1] ∧ Aw Z h a3 "[B" k4 .byte 65536 (updv (updv (updv (updv (updv (fun _ => (.int 0)) 0 (.int 1)) 1 (.int 1)) 2 (.int 0)) 3 (.int 0)) 4 (.int 0)) ∧ Ob Z h a1 "com/example/kleinmaschine/kleinmaschine/PagedBytes" [("com/example/kleinmaschine/kleinmaschine/PagedBytes", "pages", "Ljava/util/List;", (.ref a2)), ("com/example/kleinmaschine/kleinmaschine/PagedBytes", "lastUsed", "I", (.int 5)), ("com/example/kleinmaschine/kleinmaschine/PagedBytes", "size", "J", (.long 5)), ("com/example/kleinmaschine/kleinmaschine/PagedBytes", "last", "[B", (.ref a3))]
set_option maxRecDepth 65536 in
set_option maxHeartbeats 40000000 in
theorem rm_PagedBytes_accept_5 (l : Launch) (Z : State) (a0 : Array Value) (hw : ∀ d ∈ tables_1, d.before a0 Z = true) (ws : List Jvm.Cond) (a1 : Addr) (a2 : Addr) (a3 : Addr) (k4 : ClassId) (h0 : Heap) (n0 : Nat) (O0 : Old Z n0 h0) (pr1 : Ob Z h0 a1 "com/example/kleinmaschine/kleinmaschine/PagedBytes" [("com/example/kleinmaschine/kleinmaschine/PagedBytes", "pages", "Ljava/util/List;", (.ref a2)), ("com/example/kleinmaschine/kleinmaschine/PagedBytes", "lastUsed", "I", (.int 4)), ("com/example/kleinmaschine/kleinmaschine/PagedBytes", "size", "J", (.long 4)), ("com/example/kleinmaschine/kleinmaschine/PagedBytes", "last", "[B", (.ref a3))]) (pr2 : n0 ≤ a1) (pr3 : Aw Z h0 a3 "[B" k4 .byte 65536 (updv (updv (updv (updv (fun _ => (.int 0)) 0 (.int 1)) 1 (.int 1)) 2 (.int 0)) 3 (.int 0))) (pr4 : a3 ≠ a1) (pr5 : n0 ≤ a3) :
    MetFree l (⟨"com/example/kleinmaschine/kleinmaschine/PagedBytes", "accept", "(I)V"⟩ : MethodName) (head1 (Jvm.Cond.code (⟨"com/example/kleinmaschine/kleinmaschine/PagedBytes", "accept", "(I)V"⟩ : MethodName) prog_33_method_6_code 2 none :: ws) ({ frames := 1, cells := 0, slots := 0, locals := 13 } : Room)) (fun a U => a = #[(.ref a1), (.int 0)] ∧ Z.Warmed39 U.vm ∧ U.heap = h0) (fun _ _ _ _ _ => True) (fun _ U o U' => ∃ v L, o = .returned v ∧ Q_PagedBytes_accept_5 Z a1 a2 a3 k4 h0 n0 v U'.heap L ∧ FrameEnd U o U' L ({ frames := 1, cells := 0, slots := 0, locals := 13 } : Room).cells ({ frames := 1, cells := 0, slots := 0, locals := 13 } : Room).slots) := by
  refine MetFree.of_bodySF (plainFor_of_name pn_PagedBytes) hisR ?_
  intro p e s m args below meth c s₁ Bd hml0 hP hK
  obtain ⟨rfl, hZ, hh⟩ := hP
  have hx := Bd.exec
  have hby := Bd.bytes
  have hml : c.maxLocals = 2 := hml0
  have hown : s.vm.findClass "com/example/kleinmaschine/kleinmaschine/PagedBytes" = some m.cls := findClass_of_methodNamed Bd.named
  have hnm := (name_of_methodNamed Bd.named Bd.method).1
  have X0 : Stand p l e ({ frames := 1, cells := 0, slots := 0, locals := 13 } : Room) s m #[(.ref a1), (.int 0)] below meth c s₁ [] 0 0 := Stand.of_body Bd
  have e0 : s₁.heap = h0 := by rw [← hh, Bd.state]; rfl
  have N0 := Fr.nil n0
  obtain ⟨G0, hG0⟩ : ∃ z, z = (mkF m 0 #[.val (.ref a1), .val (.int 0)] []) := ⟨_, rfl⟩
  have pre0 : ∀ t, Steps p.tables e below (s₁.setTop G0) t → Steps p.tables e below (s₁.setTop (entryFrame m #[(.ref a1), (.int 0)] 2)) t := fun t k => castTop (ef_RI_2 m a1 ((0 : Int32))) (hG0 ▸ k)
  have k : Goes p e below s₁ G0 s₁ (mkF m 0 #[.val (.ref a1), .val (.int 0)] []) := fun t q => hG0 ▸ q
  replace k := Fw.aloadN k X0 hx (hb hby d_prog_33_method_6_0) rfl rfl (pc' := 1) rfl
  replace k := Fw.iloadN k X0 hx (hb hby d_prog_33_method_6_1) rfl (pc' := 2) rfl
  obtain ⟨cq1, kq1, q1a, q1b, q1c⟩ := isOf hZ e0 pr1.exa
  obtain ⟨_, _, ⟨T1, L1, kz1, nz1⟩, -, X1, ⟨Lc1, hQ1, l1, y1, z1⟩, st1⟩ := X0.virtualBack hx (y := (⟨"com/example/kleinmaschine/kleinmaschine/PagedBytes", "write", "(I)V"⟩ : MethodName)) (z := (⟨"com/example/kleinmaschine/kleinmaschine/PagedBytes", "write", "(I)V"⟩ : MethodName)) hown (mvT hZ (w_141 hw)) (mvT hZ (w_142 hw)) (notFace_of_selects (args := #[]) (mvT hZ (w_144 hw))) (mvT hZ (w_144 hw)) (mvT hZ (w_143 hw)) (by decide) (backOf (W := 0) (rm_PagedBytes_write_5 l Z a0 hw [] a1 a2 a3 k4 h0 n0 O0 pr1 pr2 pr3 pr4 pr5) hZ (w_145 hw) (w_19 hw) (by decide) (by decide)) q1a q1c (g := (mkF m 2 #[.val (.ref a1), .val (.int 0)] [(.int 0), (.ref a1)])) rfl (by rw [hml]; rfl) (Steps.refl _) (argsL := [(.int 0)]) (rest := []) (lenOf pd_I_r_V rfl) rfl (by show 2 * 0 + _ ≤ _; exact Nat.le_of_eq rfl) (hb hby d_prog_33_method_6_2) (fun _ _ => ⟨rfl, e0, (by decide : 0 + 0 ≤ _), (by decide : 0 + 0 ≤ _)⟩)
  dsimp only [Pt.U, Pt.locs, Pt.cells, Pt.slots] at X1 l1 y1 z1 st1 hQ1
  subst l1 y1 z1
  obtain ⟨hv1, N1q, K1, f1_0, f1_1⟩ := hQ1
  subst hv1
  have N1 := Fr.app N0 N1q
  replace k : Goes p e below s₁ G0 T1 (mkF m 5 #[.val (.ref a1), .val (.int 0)] []) := fun t q => k t (st1.trans q)
  obtain ⟨fs, hr, hrun, hended, hW, hsame⟩ := X1.leave (v := none) (fun _ => rfl)
  refine ⟨_, _, pre0 _ (k _ ?_), hrun, hended, _, _, rfl, ?_, ⟨_, rfl⟩, hW, hsame.mono (by decide) (by decide)⟩
  · exact X1.returnOut hx Bd.returns (hb hby d_prog_33_method_6_5) hr
  · show Q_PagedBytes_accept_5 Z a1 a2 a3 k4 h0 n0 _ T1.heap _
    exact ⟨rfl, N1, ((Keep.refl h0 [a3, a1]).trans K1 (allS (Or.inl (List.mem_of_getElem? (i := 0) rfl)) (allS (Or.inl (List.mem_of_getElem? (i := 1) rfl)) all0))), f1_0, f1_1⟩
def Q_PagedBytes_writeNumber_10 (Z : State) (a1 : Addr) (a2 : Addr) (a3 : Addr) (k4 : ClassId) (h0 : Heap) (n0 : Nat) (v : Option Value) (h : Heap) (L : List Loc) : Prop := v = none ∧ Fr n0 L ∧ Keep h0 h [a3, a1] ∧ Aw Z h a3 "[B" k4 .byte 65536 (updv (updv (updv (updv (updv (fun _ => (.int 0)) 0 (.int 1)) 1 (.int 1)) 2 (.int 0)) 3 (.int 0)) 4 (.int 0)) ∧ Ob Z h a1 "com/example/kleinmaschine/kleinmaschine/PagedBytes" [("com/example/kleinmaschine/kleinmaschine/PagedBytes", "pages", "Ljava/util/List;", (.ref a2)), ("com/example/kleinmaschine/kleinmaschine/PagedBytes", "lastUsed", "I", (.int 5)), ("com/example/kleinmaschine/kleinmaschine/PagedBytes", "size", "J", (.long 5)), ("com/example/kleinmaschine/kleinmaschine/PagedBytes", "last", "[B", (.ref a3))]
set_option maxRecDepth 65536 in
set_option maxHeartbeats 40000000 in
theorem rm_PagedBytes_writeNumber_10 (l : Launch) (Z : State) (a0 : Array Value) (hw : ∀ d ∈ tables_1, d.before a0 Z = true) (ws : List Jvm.Cond) (a1 : Addr) (a2 : Addr) (a3 : Addr) (k4 : ClassId) (h0 : Heap) (n0 : Nat) (O0 : Old Z n0 h0) (pr1 : Ob Z h0 a1 "com/example/kleinmaschine/kleinmaschine/PagedBytes" [("com/example/kleinmaschine/kleinmaschine/PagedBytes", "pages", "Ljava/util/List;", (.ref a2)), ("com/example/kleinmaschine/kleinmaschine/PagedBytes", "lastUsed", "I", (.int 4)), ("com/example/kleinmaschine/kleinmaschine/PagedBytes", "size", "J", (.long 4)), ("com/example/kleinmaschine/kleinmaschine/PagedBytes", "last", "[B", (.ref a3))]) (pr2 : n0 ≤ a1) (pr3 : Aw Z h0 a3 "[B" k4 .byte 65536 (updv (updv (updv (updv (fun _ => (.int 0)) 0 (.int 1)) 1 (.int 1)) 2 (.int 0)) 3 (.int 0))) (pr4 : a3 ≠ a1) (pr5 : n0 ≤ a3) :
    MetFree l (⟨"com/example/kleinmaschine/kleinmaschine/PagedBytes", "writeNumber", "(JLjava/util/function/IntConsumer;)V"⟩ : MethodName) (head1 (Jvm.Cond.code (⟨"com/example/kleinmaschine/kleinmaschine/PagedBytes", "writeNumber", "(JLjava/util/function/IntConsumer;)V"⟩ : MethodName) prog_33_method_2_code 5 none :: ws) ({ frames := 2, cells := 0, slots := 0, locals := 26 } : Room)) (fun a U => a = #[(.long 0), (.ref a1)] ∧ Z.Warmed39 U.vm ∧ U.heap = h0) (fun _ _ _ _ _ => True) (fun _ U o U' => ∃ v L, o = .returned v ∧ Q_PagedBytes_writeNumber_10 Z a1 a2 a3 k4 h0 n0 v U'.heap L ∧ FrameEnd U o U' L ({ frames := 2, cells := 0, slots := 0, locals := 26 } : Room).cells ({ frames := 2, cells := 0, slots := 0, locals := 26 } : Room).slots) := by
  refine MetFree.of_bodySF (plainFor_of_name pn_PagedBytes) hisR ?_
  intro p e s m args below meth c s₁ Bd hml0 hP hK
  obtain ⟨rfl, hZ, hh⟩ := hP
  have hx := Bd.exec
  have hby := Bd.bytes
  have hml : c.maxLocals = 5 := hml0
  have hown : s.vm.findClass "com/example/kleinmaschine/kleinmaschine/PagedBytes" = some m.cls := findClass_of_methodNamed Bd.named
  have hnm := (name_of_methodNamed Bd.named Bd.method).1
  have X0 : Stand p l e ({ frames := 2, cells := 0, slots := 0, locals := 26 } : Room) s m #[(.long 0), (.ref a1)] below meth c s₁ [] 0 0 := Stand.of_body Bd
  have e0 : s₁.heap = h0 := by rw [← hh, Bd.state]; rfl
  have N0 := Fr.nil n0
  obtain ⟨G0, hG0⟩ : ∃ z, z = (mkF m 0 #[.val (.long 0), .second, .val (.ref a1), .unset, .unset] []) := ⟨_, rfl⟩
  have pre0 : ∀ t, Steps p.tables e below (s₁.setTop G0) t → Steps p.tables e below (s₁.setTop (entryFrame m #[(.long 0), (.ref a1)] 5)) t := fun t k => castTop (ef_JR_5 m ((0 : Int64)) a1) (hG0 ▸ k)
  have k : Goes p e below s₁ G0 s₁ (mkF m 0 #[.val (.long 0), .second, .val (.ref a1), .unset, .unset] []) := fun t q => hG0 ▸ q
  replace k := Fw.lloadN k X0 hx (hb hby d_prog_33_method_2_0) rfl (pc' := 1) rfl
  replace k := Fw.lstoreN k X0 hx (hb hby d_prog_33_method_2_1)  (Ls' := #[.val (.long 0), .second, .val (.ref a1), .val (.long 0), .second]) rfl (pc' := 2) rfl
  replace k := Fw.lloadN k X0 hx (hb hby d_prog_33_method_2_2) rfl (pc' := 3) rfl
  replace k : Goes p e below s₁ G0 s₁ (mkF m 6 #[.val (.long 0), .second, .val (.ref a1), .val (.long 0), .second] [(.long (-128)), (.long 0)]) := fun t q => k t (X0.ldc2Long hx hown (mvT hZ (w_131 hw)) (g := (mkF m 3 #[.val (.long 0), .second, .val (.ref a1), .val (.long 0), .second] [(.long 0)])) rfl (hb hby d_prog_33_method_2_3) _ q)
  replace k := Fw.land k X0 hx (hb hby d_prog_33_method_2_6) (z := (0 : Int64)) (by decide) (pc' := 7) rfl
  replace k := Fw.lconst k X0 hx (hb hby d_prog_33_method_2_7) (z := (0 : Int64)) (by decide) (pc' := 8) rfl
  replace k : Goes p e below s₁ G0 s₁ (mkF m 9 #[.val (.long 0), .second, .val (.ref a1), .val (.long 0), .second] [(.int 0)]) := Fw.lcmp k X0 hx (hb hby d_prog_33_method_2_8) rfl
  replace k := Fw.ifYes k X0 hx (hb hby d_prog_33_method_2_9) ((if0 _ _).trans (teq (show (0 : Int32) = (0 : Int32) from by decide)).1) (by decide) (pc' := 36) rfl
  replace k := Fw.aloadN k X0 hx (hb hby d_prog_33_method_2_36) rfl rfl (pc' := 37) rfl
  replace k := Fw.lloadN k X0 hx (hb hby d_prog_33_method_2_37) rfl (pc' := 38) rfl
  replace k := Fw.l2i k X0 hx (hb hby d_prog_33_method_2_38) (z := (0 : Int32)) (by decide) (pc' := 39) rfl
  obtain ⟨cq1, kq1, q1a, q1b, q1c⟩ := isOf hZ e0 pr1.exa
  obtain ⟨_, _, ⟨T1, L1, kz1, nz1⟩, -, X1, ⟨Lc1, hQ1, l1, y1, z1⟩, st1⟩ := X0.interfaceBack hx (xi := (⟨"java/util/function/IntConsumer", "accept", "(I)V"⟩ : MethodName)) (y := (⟨"com/example/kleinmaschine/kleinmaschine/PagedBytes", "accept", "(I)V"⟩ : MethodName)) hown (mvT hZ (w_132 hw)) (mvT hZ (w_133 hw)) (mvT hZ (w_134 hw)) (mvT hZ (w_135 hw)) (mvT hZ (w_136 hw)) (mvT hZ (w_137 hw)) (mvT hZ (w_138 hw)) (mvT hZ (w_139 hw)) (by decide) (backOf (W := 0) (rm_PagedBytes_accept_5 l Z a0 hw [] a1 a2 a3 k4 h0 n0 O0 pr1 pr2 pr3 pr4 pr5) hZ (w_140 hw) (w_19 hw) (by decide) (by decide)) q1a q1b q1c (g := (mkF m 39 #[.val (.long 0), .second, .val (.ref a1), .val (.long 0), .second] [(.int 0), (.ref a1)])) rfl (by rw [hml]; rfl) (Steps.refl _) (argsL := [(.int 0)]) (rest := []) (lenOf pd_I_r_V rfl) rfl (by show 2 * 0 + _ ≤ _; exact Nat.le_of_eq rfl) (hb hby d_prog_33_method_2_39) (fun _ _ => ⟨rfl, e0, (by decide : 0 + 0 ≤ _), (by decide : 0 + 0 ≤ _)⟩)
  dsimp only [Pt.U, Pt.locs, Pt.cells, Pt.slots] at X1 l1 y1 z1 st1 hQ1
  subst l1 y1 z1
  obtain ⟨hv1, N1q, K1, f1_0, f1_1⟩ := hQ1
  subst hv1
  have N1 := Fr.app N0 N1q
  replace k : Goes p e below s₁ G0 T1 (mkF m 44 #[.val (.long 0), .second, .val (.ref a1), .val (.long 0), .second] []) := fun t q => k t (st1.trans q)
  obtain ⟨fs, hr, hrun, hended, hW, hsame⟩ := X1.leave (v := none) (fun _ => rfl)
  refine ⟨_, _, pre0 _ (k _ ?_), hrun, hended, _, _, rfl, ?_, ⟨_, rfl⟩, hW, hsame.mono (by decide) (by decide)⟩
  · exact X1.returnOut hx Bd.returns (hb hby d_prog_33_method_2_44) hr
  · show Q_PagedBytes_writeNumber_10 Z a1 a2 a3 k4 h0 n0 _ T1.heap _
    exact ⟨rfl, N1, ((Keep.refl h0 [a3, a1]).trans K1 (allS (Or.inl (List.mem_of_getElem? (i := 0) rfl)) (allS (Or.inl (List.mem_of_getElem? (i := 1) rfl)) all0))), f1_0, f1_1⟩
def Q_PagedBytes_writeNumber_9 (Z : State) (a1 : Addr) (a2 : Addr) (a3 : Addr) (k4 : ClassId) (h0 : Heap) (n0 : Nat) (v : Option Value) (h : Heap) (L : List Loc) : Prop := v = none ∧ Fr n0 L ∧ Keep h0 h [a3, a1] ∧ Aw Z h a3 "[B" k4 .byte 65536 (updv (updv (updv (updv (updv (fun _ => (.int 0)) 0 (.int 1)) 1 (.int 1)) 2 (.int 0)) 3 (.int 0)) 4 (.int 0)) ∧ Ob Z h a1 "com/example/kleinmaschine/kleinmaschine/PagedBytes" [("com/example/kleinmaschine/kleinmaschine/PagedBytes", "pages", "Ljava/util/List;", (.ref a2)), ("com/example/kleinmaschine/kleinmaschine/PagedBytes", "lastUsed", "I", (.int 5)), ("com/example/kleinmaschine/kleinmaschine/PagedBytes", "size", "J", (.long 5)), ("com/example/kleinmaschine/kleinmaschine/PagedBytes", "last", "[B", (.ref a3))]
set_option maxRecDepth 65536 in
set_option maxHeartbeats 40000000 in
theorem rm_PagedBytes_writeNumber_9 (l : Launch) (Z : State) (a0 : Array Value) (hw : ∀ d ∈ tables_1, d.before a0 Z = true) (ws : List Jvm.Cond) (a1 : Addr) (a2 : Addr) (a3 : Addr) (k4 : ClassId) (h0 : Heap) (n0 : Nat) (O0 : Old Z n0 h0) (pr1 : Ob Z h0 a1 "com/example/kleinmaschine/kleinmaschine/PagedBytes" [("com/example/kleinmaschine/kleinmaschine/PagedBytes", "pages", "Ljava/util/List;", (.ref a2)), ("com/example/kleinmaschine/kleinmaschine/PagedBytes", "lastUsed", "I", (.int 4)), ("com/example/kleinmaschine/kleinmaschine/PagedBytes", "size", "J", (.long 4)), ("com/example/kleinmaschine/kleinmaschine/PagedBytes", "last", "[B", (.ref a3))]) (pr2 : n0 ≤ a1) (pr3 : Aw Z h0 a3 "[B" k4 .byte 65536 (updv (updv (updv (updv (fun _ => (.int 0)) 0 (.int 1)) 1 (.int 1)) 2 (.int 0)) 3 (.int 0))) (pr4 : a3 ≠ a1) (pr5 : n0 ≤ a3) :
    MetFree l (⟨"com/example/kleinmaschine/kleinmaschine/PagedBytes", "writeNumber", "(J)V"⟩ : MethodName) (head1 (Jvm.Cond.code (⟨"com/example/kleinmaschine/kleinmaschine/PagedBytes", "writeNumber", "(J)V"⟩ : MethodName) prog_33_method_9_code 3 none :: ws) ({ frames := 3, cells := 0, slots := 0, locals := 42 } : Room)) (fun a U => a = #[(.ref a1), (.long 0)] ∧ Z.Warmed39 U.vm ∧ U.heap = h0) (fun _ _ _ _ _ => True) (fun _ U o U' => ∃ v L, o = .returned v ∧ Q_PagedBytes_writeNumber_9 Z a1 a2 a3 k4 h0 n0 v U'.heap L ∧ FrameEnd U o U' L ({ frames := 3, cells := 0, slots := 0, locals := 42 } : Room).cells ({ frames := 3, cells := 0, slots := 0, locals := 42 } : Room).slots) := by
  refine MetFree.of_bodySF (plainFor_of_name pn_PagedBytes) hisR ?_
  intro p e s m args below meth c s₁ Bd hml0 hP hK
  obtain ⟨rfl, hZ, hh⟩ := hP
  have hx := Bd.exec
  have hby := Bd.bytes
  have hml : c.maxLocals = 3 := hml0
  have hown : s.vm.findClass "com/example/kleinmaschine/kleinmaschine/PagedBytes" = some m.cls := findClass_of_methodNamed Bd.named
  have hnm := (name_of_methodNamed Bd.named Bd.method).1
  have X0 : Stand p l e ({ frames := 3, cells := 0, slots := 0, locals := 42 } : Room) s m #[(.ref a1), (.long 0)] below meth c s₁ [] 0 0 := Stand.of_body Bd
  have e0 : s₁.heap = h0 := by rw [← hh, Bd.state]; rfl
  have N0 := Fr.nil n0
  obtain ⟨G0, hG0⟩ : ∃ z, z = (mkF m 0 #[.val (.ref a1), .val (.long 0), .second] []) := ⟨_, rfl⟩
  have pre0 : ∀ t, Steps p.tables e below (s₁.setTop G0) t → Steps p.tables e below (s₁.setTop (entryFrame m #[(.ref a1), (.long 0)] 3)) t := fun t k => castTop (ef_RJ_3 m a1 ((0 : Int64))) (hG0 ▸ k)
  have k : Goes p e below s₁ G0 s₁ (mkF m 0 #[.val (.ref a1), .val (.long 0), .second] []) := fun t q => hG0 ▸ q
  replace k := Fw.lloadN k X0 hx (hb hby d_prog_33_method_9_0) rfl (pc' := 1) rfl
  replace k := Fw.aloadN k X0 hx (hb hby d_prog_33_method_9_1) rfl rfl (pc' := 2) rfl
  obtain ⟨_, _, ⟨T1, L1, kz1, nz1⟩, -, X1, ⟨Lc1, hQ1, l1, y1, z1⟩, st1⟩ := Jvm.LawKit.callS X0 hx (y := (⟨"com/example/kleinmaschine/kleinmaschine/PagedBytes", "writeNumber", "(JLjava/util/function/IntConsumer;)V"⟩ : MethodName)) hown (mvT hZ (w_128 hw)) (mvT hZ (w_129 hw)) (mvT hZ (w_19 hw)) (mvT hZ (w_130 hw)) (by decide) (backOf (W := 0) (rm_PagedBytes_writeNumber_10 l Z a0 hw [] a1 a2 a3 k4 h0 n0 O0 pr1 pr2 pr3 pr4 pr5) hZ (w_130 hw) (w_19 hw) (by decide) (by decide)) (g := (mkF m 2 #[.val (.ref a1), .val (.long 0), .second] [(.ref a1), (.long 0)])) rfl (by rw [hml]; rfl) (argsL := [(.long 0), (.ref a1)]) (rest := []) (lenOf pd_JLjava_util_function_IntConsumer_r_V rfl) rfl (by show 2 * 0 + _ ≤ _; exact Nat.le_of_eq rfl) (hb hby d_prog_33_method_9_2) (fun _ _ => ⟨rfl, e0, (by decide : 0 + 0 ≤ _), (by decide : 0 + 0 ≤ _)⟩)
  dsimp only [Pt.U, Pt.locs, Pt.cells, Pt.slots] at X1 l1 y1 z1 st1 hQ1
  subst l1 y1 z1
  obtain ⟨hv1, N1q, K1, f1_0, f1_1⟩ := hQ1
  subst hv1
  have N1 := Fr.app N0 N1q
  replace k : Goes p e below s₁ G0 T1 (mkF m 5 #[.val (.ref a1), .val (.long 0), .second] []) := fun t q => k t (st1 _ q)
  obtain ⟨fs, hr, hrun, hended, hW, hsame⟩ := X1.leave (v := none) (fun _ => rfl)
  refine ⟨_, _, pre0 _ (k _ ?_), hrun, hended, _, _, rfl, ?_, ⟨_, rfl⟩, hW, hsame.mono (by decide) (by decide)⟩
  · exact X1.returnOut hx Bd.returns (hb hby d_prog_33_method_9_5) hr
  · show Q_PagedBytes_writeNumber_9 Z a1 a2 a3 k4 h0 n0 _ T1.heap _
    exact ⟨rfl, N1, ((Keep.refl h0 [a3, a1]).trans K1 (allS (Or.inl (List.mem_of_getElem? (i := 0) rfl)) (allS (Or.inl (List.mem_of_getElem? (i := 1) rfl)) all0))), f1_0, f1_1⟩
def Q_PagedBytes_write_6 (Z : State) (a1 : Addr) (a2 : Addr) (a3 : Addr) (k4 : ClassId) (h0 : Heap) (n0 : Nat) (v : Option Value) (h : Heap) (L : List Loc) : Prop := v = none ∧ Fr n0 L ∧ Keep h0 h [a3, a1] ∧ Aw Z h a3 "[B" k4 .byte 65536 (updv (updv (updv (updv (updv (updv (fun _ => (.int 0)) 0 (.int 1)) 1 (.int 1)) 2 (.int 0)) 3 (.int 0)) 4 (.int 0)) 5 (.int 0)) ∧ Ob Z h a1 "com/example/kleinmaschine/kleinmaschine/PagedBytes" [("com/example/kleinmaschine/kleinmaschine/PagedBytes", "pages", "Ljava/util/List;", (.ref a2)), ("com/example/kleinmaschine/kleinmaschine/PagedBytes", "lastUsed", "I", (.int 6)), ("com/example/kleinmaschine/kleinmaschine/PagedBytes", "size", "J", (.long 6)), ("com/example/kleinmaschine/kleinmaschine/PagedBytes", "last", "[B", (.ref a3))]
set_option maxRecDepth 65536 in
set_option maxHeartbeats 40000000 in
theorem rm_PagedBytes_write_6 (l : Launch) (Z : State) (a0 : Array Value) (hw : ∀ d ∈ tables_1, d.before a0 Z = true) (ws : List Jvm.Cond) (a1 : Addr) (a2 : Addr) (a3 : Addr) (k4 : ClassId) (h0 : Heap) (n0 : Nat) (O0 : Old Z n0 h0) (pr1 : Ob Z h0 a1 "com/example/kleinmaschine/kleinmaschine/PagedBytes" [("com/example/kleinmaschine/kleinmaschine/PagedBytes", "pages", "Ljava/util/List;", (.ref a2)), ("com/example/kleinmaschine/kleinmaschine/PagedBytes", "lastUsed", "I", (.int 5)), ("com/example/kleinmaschine/kleinmaschine/PagedBytes", "size", "J", (.long 5)), ("com/example/kleinmaschine/kleinmaschine/PagedBytes", "last", "[B", (.ref a3))]) (pr2 : n0 ≤ a1) (pr3 : Aw Z h0 a3 "[B" k4 .byte 65536 (updv (updv (updv (updv (updv (fun _ => (.int 0)) 0 (.int 1)) 1 (.int 1)) 2 (.int 0)) 3 (.int 0)) 4 (.int 0))) (pr4 : a3 ≠ a1) (pr5 : n0 ≤ a3) :
    MetFree l (⟨"com/example/kleinmaschine/kleinmaschine/PagedBytes", "write", "(I)V"⟩ : MethodName) (head1 (Jvm.Cond.code (⟨"com/example/kleinmaschine/kleinmaschine/PagedBytes", "write", "(I)V"⟩ : MethodName) prog_33_method_7_code 2 none :: ws) ({ frames := 0, cells := 0, slots := 0, locals := 0 } : Room)) (fun a U => a = #[(.ref a1), (.int 0)] ∧ Z.Warmed39 U.vm ∧ U.heap = h0) (fun _ _ _ _ _ => True) (fun _ U o U' => ∃ v L, o = .returned v ∧ Q_PagedBytes_write_6 Z a1 a2 a3 k4 h0 n0 v U'.heap L ∧ FrameEnd U o U' L ({ frames := 0, cells := 0, slots := 0, locals := 0 } : Room).cells ({ frames := 0, cells := 0, slots := 0, locals := 0 } : Room).slots) := by
  refine MetFree.of_bodySF (plainFor_of_name pn_PagedBytes) hisR ?_
  intro p e s m args below meth c s₁ Bd hml0 hP hK
  obtain ⟨rfl, hZ, hh⟩ := hP
  have hx := Bd.exec
  have hby := Bd.bytes
  have hml : c.maxLocals = 2 := hml0
  have hown : s.vm.findClass "com/example/kleinmaschine/kleinmaschine/PagedBytes" = some m.cls := findClass_of_methodNamed Bd.named
  have hnm := (name_of_methodNamed Bd.named Bd.method).1
  have X0 : Stand p l e ({ frames := 0, cells := 0, slots := 0, locals := 0 } : Room) s m #[(.ref a1), (.int 0)] below meth c s₁ [] 0 0 := Stand.of_body Bd
  have e0 : s₁.heap = h0 := by rw [← hh, Bd.state]; rfl
  have N0 := Fr.nil n0
  obtain ⟨G0, hG0⟩ : ∃ z, z = (mkF m 0 #[.val (.ref a1), .val (.int 0)] []) := ⟨_, rfl⟩
  have pre0 : ∀ t, Steps p.tables e below (s₁.setTop G0) t → Steps p.tables e below (s₁.setTop (entryFrame m #[(.ref a1), (.int 0)] 2)) t := fun t k => castTop (ef_RI_2 m a1 ((0 : Int32))) (hG0 ▸ k)
  have k : Goes p e below s₁ G0 s₁ (mkF m 0 #[.val (.ref a1), .val (.int 0)] []) := fun t q => hG0 ▸ q
  replace k := Fw.aloadN k X0 hx (hb hby d_prog_33_method_7_0) rfl rfl (pc' := 1) rfl
  obtain ⟨T1, X1, e1, st1⟩ := getF X0 hx hZ hown (host := "") (Or.inl (w_56 hw)) Via.refl e0 (Ob.at pr1 1 rfl) (g := (mkF m 1 #[.val (.ref a1), .val (.int 0)] [(.ref a1)])) rfl rfl (hb hby d_prog_33_method_7_1)
  replace k : Goes p e below s₁ G0 T1 (mkF m 4 #[.val (.ref a1), .val (.int 0)] [(.int 5)]) := fun t q => k t (st1 _ q)
  replace k : Goes p e below s₁ G0 T1 (mkF m 6 #[.val (.ref a1), .val (.int 0)] [(.int 65536), (.int 5)]) := fun t q => k t (X1.ldcInt hx hown (mvT hZ (w_55 hw)) (g := (mkF m 4 #[.val (.ref a1), .val (.int 0)] [(.int 5)])) rfl (hb hby d_prog_33_method_7_4) _ q)
  replace k := Fw.icmpYes k X1 hx (hb hby d_prog_33_method_7_6) (feq (show ¬ ((5 : Int32) = (65536 : Int32)) from by decide)).2 (by decide) (pc' := 36) rfl
  replace k := Fw.aloadN k X1 hx (hb hby d_prog_33_method_7_36) rfl rfl (pc' := 37) rfl
  obtain ⟨T2, X2, e2, st2⟩ := getF X1 hx hZ hown (host := "") (Or.inl (w_147 hw)) Via.refl e1 (Ob.at pr1 3 rfl) (g := (mkF m 37 #[.val (.ref a1), .val (.int 0)] [(.ref a1)])) rfl rfl (hb hby d_prog_33_method_7_37)
  replace k : Goes p e below s₁ G0 T2 (mkF m 40 #[.val (.ref a1), .val (.int 0)] [(.ref a3)]) := fun t q => k t (st2 _ q)
  replace k := Fw.aloadN k X2 hx (hb hby d_prog_33_method_7_40) rfl rfl (pc' := 41) rfl
  replace k := Fw.dup k X2 hx (hb hby d_prog_33_method_7_41) rfl (pc' := 42) rfl
  obtain ⟨T3, X3, e3, st3⟩ := getF X2 hx hZ hown (host := "") (Or.inl (w_56 hw)) Via.refl e2 (Ob.at pr1 1 rfl) (g := (mkF m 42 #[.val (.ref a1), .val (.int 0)] [(.ref a1), (.ref a1), (.ref a3)])) rfl rfl (hb hby d_prog_33_method_7_42)
  replace k : Goes p e below s₁ G0 T3 (mkF m 45 #[.val (.ref a1), .val (.int 0)] [(.int 5), (.ref a1), (.ref a3)]) := fun t q => k t (st3 _ q)
  replace k := Fw.dupX1 k X3 hx (hb hby d_prog_33_method_7_45) rfl rfl (pc' := 46) rfl
  replace k := Fw.iconst k X3 hx (hb hby d_prog_33_method_7_46) (z := (1 : Int32)) (by decide) (pc' := 47) rfl
  replace k := Fw.iadd k X3 hx (hb hby d_prog_33_method_7_47) (z := (6 : Int32)) (by decide) (pc' := 48) rfl
  obtain ⟨T4, h4, X4, e4, W4, st4⟩ := putF X3 hx hZ hown (host := "") (Or.inl (w_56 hw)) Via.refl e3 (Ob.at pr1 1 rfl) pr1.exa (Or.inl (w_57 hw)) (w_18 hw) (ty := .int) (by decide +kernel) rfl rfl (g := (mkF m 48 #[.val (.ref a1), .val (.int 0)] [(.int 6), (.ref a1), (.int 5), (.ref a3)])) rfl rfl (hb hby d_prog_33_method_7_48)
  have N4 := Fr.snoc X4 N0 pr2
  have O4 : Ob Z h4 a1 "com/example/kleinmaschine/kleinmaschine/PagedBytes" [("com/example/kleinmaschine/kleinmaschine/PagedBytes", "pages", "Ljava/util/List;", (.ref a2)), ("com/example/kleinmaschine/kleinmaschine/PagedBytes", "lastUsed", "I", (.int 6)), ("com/example/kleinmaschine/kleinmaschine/PagedBytes", "size", "J", (.long 5)), ("com/example/kleinmaschine/kleinmaschine/PagedBytes", "last", "[B", (.ref a3))] := Ob.put pr1 (lay_PagedBytes hw) 1 rfl W4
  replace k : Goes p e below s₁ G0 T4 (mkF m 51 #[.val (.ref a1), .val (.int 0)] [(.int 5), (.ref a3)]) := fun t q => k t (st4 _ q)
  replace k := Fw.iloadN k X4 hx (hb hby d_prog_33_method_7_51) rfl (pc' := 52) rfl
  replace k := Fw.i2b k X4 hx (hb hby d_prog_33_method_7_52) (z := (0 : Int32)) (by decide) (pc' := 53) rfl
  have fc5 := (pr3.other W4 pr4)
  obtain ⟨cl6, Ar6, hin6, -, kq6, -⟩ := Aw.open fc5 (j := (5 : Int32)) 5 (by decide) (by decide) (by decide)
  obtain ⟨T6, h6, X6, e6, W6, st6⟩ := stB X4 hx hZ e4 Ar6 (j := (5 : Int32)) hin6 (g := (mkF m 53 #[.val (.ref a1), .val (.int 0)] [(.int 0), (.int 5), (.ref a3)])) rfl rfl (hb hby d_prog_33_method_7_53)
  have N6 := Fr.snoc X6 N4 pr5
  have V6 : Aw Z h6 a3 "[B" k4 .byte 65536 (updv (updv (updv (updv (updv (updv (fun _ => (.int 0)) 0 (.int 1)) 1 (.int 1)) 2 (.int 0)) 3 (.int 0)) 4 (.int 0)) 5 (.int 0)) := Aw.set fc5 W6 5 (by decide) (by decide)
  replace k : Goes p e below s₁ G0 T6 (mkF m 54 #[.val (.ref a1), .val (.int 0)] []) := fun t q => k t (st6 _ q)
  replace k := Fw.aloadN k X6 hx (hb hby d_prog_33_method_7_54) rfl rfl (pc' := 55) rfl
  replace k := Fw.dup k X6 hx (hb hby d_prog_33_method_7_55) rfl (pc' := 56) rfl
  have fc7 := (O4.other W6 (Ne.symm pr4))
  obtain ⟨T8, X8, e8, st8⟩ := getF X6 hx hZ hown (host := "") (Or.inl (w_112 hw)) Via.refl e6 (Ob.at fc7 2 rfl) (g := (mkF m 56 #[.val (.ref a1), .val (.int 0)] [(.ref a1), (.ref a1)])) rfl rfl (hb hby d_prog_33_method_7_56)
  replace k : Goes p e below s₁ G0 T8 (mkF m 59 #[.val (.ref a1), .val (.int 0)] [(.long 5), (.ref a1)]) := fun t q => k t (st8 _ q)
  replace k := Fw.lconst k X8 hx (hb hby d_prog_33_method_7_59) (z := (1 : Int64)) (by decide) (pc' := 60) rfl
  replace k := Fw.ladd k X8 hx (hb hby d_prog_33_method_7_60) (z := (6 : Int64)) (by decide) (pc' := 61) rfl
  obtain ⟨T9, h9, X9, e9, W9, st9⟩ := putF X8 hx hZ hown (host := "") (Or.inl (w_112 hw)) Via.refl e8 (Ob.at fc7 2 rfl) fc7.exa (Or.inl (w_113 hw)) (w_18 hw) (ty := .long) (by decide +kernel) rfl rfl (g := (mkF m 61 #[.val (.ref a1), .val (.int 0)] [(.long 6), (.ref a1)])) rfl rfl (hb hby d_prog_33_method_7_61)
  have N9 := Fr.snoc X9 N6 pr2
  have O9 : Ob Z h9 a1 "com/example/kleinmaschine/kleinmaschine/PagedBytes" [("com/example/kleinmaschine/kleinmaschine/PagedBytes", "pages", "Ljava/util/List;", (.ref a2)), ("com/example/kleinmaschine/kleinmaschine/PagedBytes", "lastUsed", "I", (.int 6)), ("com/example/kleinmaschine/kleinmaschine/PagedBytes", "size", "J", (.long 6)), ("com/example/kleinmaschine/kleinmaschine/PagedBytes", "last", "[B", (.ref a3))] := Ob.put fc7 (lay_PagedBytes hw) 2 rfl W9
  replace k : Goes p e below s₁ G0 T9 (mkF m 64 #[.val (.ref a1), .val (.int 0)] []) := fun t q => k t (st9 _ q)
  obtain ⟨fs, hr, hrun, hended, hW, hsame⟩ := X9.leave (v := none) (fun _ => rfl)
  refine ⟨_, _, pre0 _ (k _ ?_), hrun, hended, _, _, rfl, ?_, ⟨_, rfl⟩, hW, hsame.mono (by decide) (by decide)⟩
  · exact X9.returnOut hx Bd.returns (hb hby d_prog_33_method_7_64) hr
  · show Q_PagedBytes_write_6 Z a1 a2 a3 k4 h0 n0 _ T9.heap _
    rw [e9]
    exact ⟨rfl, N9, ((((Keep.refl h0 [a3, a1]).wr W4 (Or.inl (List.mem_of_getElem? (i := 1) rfl))).wr W6 (Or.inl (List.mem_of_getElem? (i := 0) rfl))).wr W9 (Or.inl (List.mem_of_getElem? (i := 1) rfl))), (V6.other W9 pr4), O9⟩
def Q_PagedBytes_accept_6 (Z : State) (a1 : Addr) (a2 : Addr) (a3 : Addr) (k4 : ClassId) (h0 : Heap) (n0 : Nat) (v : Option Value) (h : Heap) (L : List Loc) : Prop := v = none ∧ Fr n0 L ∧ Keep h0 h [a3, a1] ∧ Aw Z h a3 "[B" k4 .byte 65536 (updv (updv (updv (updv (updv (updv (fun _ => (.int 0)) 0 (.int 1)) 1 (.int 1)) 2 (.int 0)) 3 (.int 0)) 4 (.int 0)) 5 (.int 0)) ∧ Ob Z h a1 "com/example/kleinmaschine/kleinmaschine/PagedBytes" [("com/example/kleinmaschine/kleinmaschine/PagedBytes", "pages", "Ljava/util/List;", (.ref a2)), ("com/example/kleinmaschine/kleinmaschine/PagedBytes", "lastUsed", "I", (.int 6)), ("com/example/kleinmaschine/kleinmaschine/PagedBytes", "size", "J", (.long 6)), ("com/example/kleinmaschine/kleinmaschine/PagedBytes", "last", "[B", (.ref a3))]
set_option maxRecDepth 65536 in
set_option maxHeartbeats 40000000 in
theorem rm_PagedBytes_accept_6 (l : Launch) (Z : State) (a0 : Array Value) (hw : ∀ d ∈ tables_1, d.before a0 Z = true) (ws : List Jvm.Cond) (a1 : Addr) (a2 : Addr) (a3 : Addr) (k4 : ClassId) (h0 : Heap) (n0 : Nat) (O0 : Old Z n0 h0) (pr1 : Ob Z h0 a1 "com/example/kleinmaschine/kleinmaschine/PagedBytes" [("com/example/kleinmaschine/kleinmaschine/PagedBytes", "pages", "Ljava/util/List;", (.ref a2)), ("com/example/kleinmaschine/kleinmaschine/PagedBytes", "lastUsed", "I", (.int 5)), ("com/example/kleinmaschine/kleinmaschine/PagedBytes", "size", "J", (.long 5)), ("com/example/kleinmaschine/kleinmaschine/PagedBytes", "last", "[B", (.ref a3))]) (pr2 : n0 ≤ a1) (pr3 : Aw Z h0 a3 "[B" k4 .byte 65536 (updv (updv (updv (updv (updv (fun _ => (.int 0)) 0 (.int 1)) 1 (.int 1)) 2 (.int 0)) 3 (.int 0)) 4 (.int 0))) (pr4 : a3 ≠ a1) (pr5 : n0 ≤ a3) :
    MetFree l (⟨"com/example/kleinmaschine/kleinmaschine/PagedBytes", "accept", "(I)V"⟩ : MethodName) (head1 (Jvm.Cond.code (⟨"com/example/kleinmaschine/kleinmaschine/PagedBytes", "accept", "(I)V"⟩ : MethodName) prog_33_method_6_code 2 none :: ws) ({ frames := 1, cells := 0, slots := 0, locals := 13 } : Room)) (fun a U => a = #[(.ref a1), (.int 0)] ∧ Z.Warmed39 U.vm ∧ U.heap = h0) (fun _ _ _ _ _ => True) (fun _ U o U' => ∃ v L, o = .returned v ∧ Q_PagedBytes_accept_6 Z a1 a2 a3 k4 h0 n0 v U'.heap L ∧ FrameEnd U o U' L ({ frames := 1, cells := 0, slots := 0, locals := 13 } : Room).cells ({ frames := 1, cells := 0, slots := 0, locals := 13 } : Room).slots) := by
  refine MetFree.of_bodySF (plainFor_of_name pn_PagedBytes) hisR ?_
  intro p e s m args below meth c s₁ Bd hml0 hP hK
  obtain ⟨rfl, hZ, hh⟩ := hP
  have hx := Bd.exec
  have hby := Bd.bytes
  have hml : c.maxLocals = 2 := hml0
  have hown : s.vm.findClass "com/example/kleinmaschine/kleinmaschine/PagedBytes" = some m.cls := findClass_of_methodNamed Bd.named
  have hnm := (name_of_methodNamed Bd.named Bd.method).1
  have X0 : Stand p l e ({ frames := 1, cells := 0, slots := 0, locals := 13 } : Room) s m #[(.ref a1), (.int 0)] below meth c s₁ [] 0 0 := Stand.of_body Bd
  have e0 : s₁.heap = h0 := by rw [← hh, Bd.state]; rfl
  have N0 := Fr.nil n0
  obtain ⟨G0, hG0⟩ : ∃ z, z = (mkF m 0 #[.val (.ref a1), .val (.int 0)] []) := ⟨_, rfl⟩
  have pre0 : ∀ t, Steps p.tables e below (s₁.setTop G0) t → Steps p.tables e below (s₁.setTop (entryFrame m #[(.ref a1), (.int 0)] 2)) t := fun t k => castTop (ef_RI_2 m a1 ((0 : Int32))) (hG0 ▸ k)
  have k : Goes p e below s₁ G0 s₁ (mkF m 0 #[.val (.ref a1), .val (.int 0)] []) := fun t q => hG0 ▸ q
  replace k := Fw.aloadN k X0 hx (hb hby d_prog_33_method_6_0) rfl rfl (pc' := 1) rfl
  replace k := Fw.iloadN k X0 hx (hb hby d_prog_33_method_6_1) rfl (pc' := 2) rfl
  obtain ⟨cq1, kq1, q1a, q1b, q1c⟩ := isOf hZ e0 pr1.exa
  obtain ⟨_, _, ⟨T1, L1, kz1, nz1⟩, -, X1, ⟨Lc1, hQ1, l1, y1, z1⟩, st1⟩ := X0.virtualBack hx (y := (⟨"com/example/kleinmaschine/kleinmaschine/PagedBytes", "write", "(I)V"⟩ : MethodName)) (z := (⟨"com/example/kleinmaschine/kleinmaschine/PagedBytes", "write", "(I)V"⟩ : MethodName)) hown (mvT hZ (w_141 hw)) (mvT hZ (w_142 hw)) (notFace_of_selects (args := #[]) (mvT hZ (w_144 hw))) (mvT hZ (w_144 hw)) (mvT hZ (w_143 hw)) (by decide) (backOf (W := 0) (rm_PagedBytes_write_6 l Z a0 hw [] a1 a2 a3 k4 h0 n0 O0 pr1 pr2 pr3 pr4 pr5) hZ (w_145 hw) (w_19 hw) (by decide) (by decide)) q1a q1c (g := (mkF m 2 #[.val (.ref a1), .val (.int 0)] [(.int 0), (.ref a1)])) rfl (by rw [hml]; rfl) (Steps.refl _) (argsL := [(.int 0)]) (rest := []) (lenOf pd_I_r_V rfl) rfl (by show 2 * 0 + _ ≤ _; exact Nat.le_of_eq rfl) (hb hby d_prog_33_method_6_2) (fun _ _ => ⟨rfl, e0, (by decide : 0 + 0 ≤ _), (by decide : 0 + 0 ≤ _)⟩)
  dsimp only [Pt.U, Pt.locs, Pt.cells, Pt.slots] at X1 l1 y1 z1 st1 hQ1
  subst l1 y1 z1
  obtain ⟨hv1, N1q, K1, f1_0, f1_1⟩ := hQ1
  subst hv1
  have N1 := Fr.app N0 N1q
  replace k : Goes p e below s₁ G0 T1 (mkF m 5 #[.val (.ref a1), .val (.int 0)] []) := fun t q => k t (st1.trans q)
  obtain ⟨fs, hr, hrun, hended, hW, hsame⟩ := X1.leave (v := none) (fun _ => rfl)
  refine ⟨_, _, pre0 _ (k _ ?_), hrun, hended, _, _, rfl, ?_, ⟨_, rfl⟩, hW, hsame.mono (by decide) (by decide)⟩
  · exact X1.returnOut hx Bd.returns (hb hby d_prog_33_method_6_5) hr
  · show Q_PagedBytes_accept_6 Z a1 a2 a3 k4 h0 n0 _ T1.heap _
    exact ⟨rfl, N1, ((Keep.refl h0 [a3, a1]).trans K1 (allS (Or.inl (List.mem_of_getElem? (i := 0) rfl)) (allS (Or.inl (List.mem_of_getElem? (i := 1) rfl)) all0))), f1_0, f1_1⟩
def Q_PagedBytes_writeNumber_12 (Z : State) (a1 : Addr) (a2 : Addr) (a3 : Addr) (k4 : ClassId) (h0 : Heap) (n0 : Nat) (v : Option Value) (h : Heap) (L : List Loc) : Prop := v = none ∧ Fr n0 L ∧ Keep h0 h [a3, a1] ∧ Aw Z h a3 "[B" k4 .byte 65536 (updv (updv (updv (updv (updv (updv (fun _ => (.int 0)) 0 (.int 1)) 1 (.int 1)) 2 (.int 0)) 3 (.int 0)) 4 (.int 0)) 5 (.int 0)) ∧ Ob Z h a1 "com/example/kleinmaschine/kleinmaschine/PagedBytes" [("com/example/kleinmaschine/kleinmaschine/PagedBytes", "pages", "Ljava/util/List;", (.ref a2)), ("com/example/kleinmaschine/kleinmaschine/PagedBytes", "lastUsed", "I", (.int 6)), ("com/example/kleinmaschine/kleinmaschine/PagedBytes", "size", "J", (.long 6)), ("com/example/kleinmaschine/kleinmaschine/PagedBytes", "last", "[B", (.ref a3))]
set_option maxRecDepth 65536 in
set_option maxHeartbeats 40000000 in
theorem rm_PagedBytes_writeNumber_12 (l : Launch) (Z : State) (a0 : Array Value) (hw : ∀ d ∈ tables_1, d.before a0 Z = true) (ws : List Jvm.Cond) (a1 : Addr) (a2 : Addr) (a3 : Addr) (k4 : ClassId) (h0 : Heap) (n0 : Nat) (O0 : Old Z n0 h0) (pr1 : Ob Z h0 a1 "com/example/kleinmaschine/kleinmaschine/PagedBytes" [("com/example/kleinmaschine/kleinmaschine/PagedBytes", "pages", "Ljava/util/List;", (.ref a2)), ("com/example/kleinmaschine/kleinmaschine/PagedBytes", "lastUsed", "I", (.int 5)), ("com/example/kleinmaschine/kleinmaschine/PagedBytes", "size", "J", (.long 5)), ("com/example/kleinmaschine/kleinmaschine/PagedBytes", "last", "[B", (.ref a3))]) (pr2 : n0 ≤ a1) (pr3 : Aw Z h0 a3 "[B" k4 .byte 65536 (updv (updv (updv (updv (updv (fun _ => (.int 0)) 0 (.int 1)) 1 (.int 1)) 2 (.int 0)) 3 (.int 0)) 4 (.int 0))) (pr4 : a3 ≠ a1) (pr5 : n0 ≤ a3) :
    MetFree l (⟨"com/example/kleinmaschine/kleinmaschine/PagedBytes", "writeNumber", "(JLjava/util/function/IntConsumer;)V"⟩ : MethodName) (head1 (Jvm.Cond.code (⟨"com/example/kleinmaschine/kleinmaschine/PagedBytes", "writeNumber", "(JLjava/util/function/IntConsumer;)V"⟩ : MethodName) prog_33_method_2_code 5 none :: ws) ({ frames := 2, cells := 0, slots := 0, locals := 26 } : Room)) (fun a U => a = #[(.long 0), (.ref a1)] ∧ Z.Warmed39 U.vm ∧ U.heap = h0) (fun _ _ _ _ _ => True) (fun _ U o U' => ∃ v L, o = .returned v ∧ Q_PagedBytes_writeNumber_12 Z a1 a2 a3 k4 h0 n0 v U'.heap L ∧ FrameEnd U o U' L ({ frames := 2, cells := 0, slots := 0, locals := 26 } : Room).cells ({ frames := 2, cells := 0, slots := 0, locals := 26 } : Room).slots) := by
  refine MetFree.of_bodySF (plainFor_of_name pn_PagedBytes) hisR ?_
  intro p e s m args below meth c s₁ Bd hml0 hP hK
  obtain ⟨rfl, hZ, hh⟩ := hP
  have hx := Bd.exec
  have hby := Bd.bytes
  have hml : c.maxLocals = 5 := hml0
  have hown : s.vm.findClass "com/example/kleinmaschine/kleinmaschine/PagedBytes" = some m.cls := findClass_of_methodNamed Bd.named
  have hnm := (name_of_methodNamed Bd.named Bd.method).1
  have X0 : Stand p l e ({ frames := 2, cells := 0, slots := 0, locals := 26 } : Room) s m #[(.long 0), (.ref a1)] below meth c s₁ [] 0 0 := Stand.of_body Bd
  have e0 : s₁.heap = h0 := by rw [← hh, Bd.state]; rfl
  have N0 := Fr.nil n0
  obtain ⟨G0, hG0⟩ : ∃ z, z = (mkF m 0 #[.val (.long 0), .second, .val (.ref a1), .unset, .unset] []) := ⟨_, rfl⟩
  have pre0 : ∀ t, Steps p.tables e below (s₁.setTop G0) t → Steps p.tables e below (s₁.setTop (entryFrame m #[(.long 0), (.ref a1)] 5)) t := fun t k => castTop (ef_JR_5 m ((0 : Int64)) a1) (hG0 ▸ k)
  have k : Goes p e below s₁ G0 s₁ (mkF m 0 #[.val (.long 0), .second, .val (.ref a1), .unset, .unset] []) := fun t q => hG0 ▸ q
  replace k := Fw.lloadN k X0 hx (hb hby d_prog_33_method_2_0) rfl (pc' := 1) rfl
  replace k := Fw.lstoreN k X0 hx (hb hby d_prog_33_method_2_1)  (Ls' := #[.val (.long 0), .second, .val (.ref a1), .val (.long 0), .second]) rfl (pc' := 2) rfl
  replace k := Fw.lloadN k X0 hx (hb hby d_prog_33_method_2_2) rfl (pc' := 3) rfl
  replace k : Goes p e below s₁ G0 s₁ (mkF m 6 #[.val (.long 0), .second, .val (.ref a1), .val (.long 0), .second] [(.long (-128)), (.long 0)]) := fun t q => k t (X0.ldc2Long hx hown (mvT hZ (w_131 hw)) (g := (mkF m 3 #[.val (.long 0), .second, .val (.ref a1), .val (.long 0), .second] [(.long 0)])) rfl (hb hby d_prog_33_method_2_3) _ q)
  replace k := Fw.land k X0 hx (hb hby d_prog_33_method_2_6) (z := (0 : Int64)) (by decide) (pc' := 7) rfl
  replace k := Fw.lconst k X0 hx (hb hby d_prog_33_method_2_7) (z := (0 : Int64)) (by decide) (pc' := 8) rfl
  replace k : Goes p e below s₁ G0 s₁ (mkF m 9 #[.val (.long 0), .second, .val (.ref a1), .val (.long 0), .second] [(.int 0)]) := Fw.lcmp k X0 hx (hb hby d_prog_33_method_2_8) rfl
  replace k := Fw.ifYes k X0 hx (hb hby d_prog_33_method_2_9) ((if0 _ _).trans (teq (show (0 : Int32) = (0 : Int32) from by decide)).1) (by decide) (pc' := 36) rfl
  replace k := Fw.aloadN k X0 hx (hb hby d_prog_33_method_2_36) rfl rfl (pc' := 37) rfl
  replace k := Fw.lloadN k X0 hx (hb hby d_prog_33_method_2_37) rfl (pc' := 38) rfl
  replace k := Fw.l2i k X0 hx (hb hby d_prog_33_method_2_38) (z := (0 : Int32)) (by decide) (pc' := 39) rfl
  obtain ⟨cq1, kq1, q1a, q1b, q1c⟩ := isOf hZ e0 pr1.exa
  obtain ⟨_, _, ⟨T1, L1, kz1, nz1⟩, -, X1, ⟨Lc1, hQ1, l1, y1, z1⟩, st1⟩ := X0.interfaceBack hx (xi := (⟨"java/util/function/IntConsumer", "accept", "(I)V"⟩ : MethodName)) (y := (⟨"com/example/kleinmaschine/kleinmaschine/PagedBytes", "accept", "(I)V"⟩ : MethodName)) hown (mvT hZ (w_132 hw)) (mvT hZ (w_133 hw)) (mvT hZ (w_134 hw)) (mvT hZ (w_135 hw)) (mvT hZ (w_136 hw)) (mvT hZ (w_137 hw)) (mvT hZ (w_138 hw)) (mvT hZ (w_139 hw)) (by decide) (backOf (W := 0) (rm_PagedBytes_accept_6 l Z a0 hw [] a1 a2 a3 k4 h0 n0 O0 pr1 pr2 pr3 pr4 pr5) hZ (w_140 hw) (w_19 hw) (by decide) (by decide)) q1a q1b q1c (g := (mkF m 39 #[.val (.long 0), .second, .val (.ref a1), .val (.long 0), .second] [(.int 0), (.ref a1)])) rfl (by rw [hml]; rfl) (Steps.refl _) (argsL := [(.int 0)]) (rest := []) (lenOf pd_I_r_V rfl) rfl (by show 2 * 0 + _ ≤ _; exact Nat.le_of_eq rfl) (hb hby d_prog_33_method_2_39) (fun _ _ => ⟨rfl, e0, (by decide : 0 + 0 ≤ _), (by decide : 0 + 0 ≤ _)⟩)
  dsimp only [Pt.U, Pt.locs, Pt.cells, Pt.slots] at X1 l1 y1 z1 st1 hQ1
  subst l1 y1 z1
  obtain ⟨hv1, N1q, K1, f1_0, f1_1⟩ := hQ1
  subst hv1
  have N1 := Fr.app N0 N1q
  replace k : Goes p e below s₁ G0 T1 (mkF m 44 #[.val (.long 0), .second, .val (.ref a1), .val (.long 0), .second] []) := fun t q => k t (st1.trans q)
  obtain ⟨fs, hr, hrun, hended, hW, hsame⟩ := X1.leave (v := none) (fun _ => rfl)
  refine ⟨_, _, pre0 _ (k _ ?_), hrun, hended, _, _, rfl, ?_, ⟨_, rfl⟩, hW, hsame.mono (by decide) (by decide)⟩
  · exact X1.returnOut hx Bd.returns (hb hby d_prog_33_method_2_44) hr
  · show Q_PagedBytes_writeNumber_12 Z a1 a2 a3 k4 h0 n0 _ T1.heap _
    exact ⟨rfl, N1, ((Keep.refl h0 [a3, a1]).trans K1 (allS (Or.inl (List.mem_of_getElem? (i := 0) rfl)) (allS (Or.inl (List.mem_of_getElem? (i := 1) rfl)) all0))), f1_0, f1_1⟩
def Q_PagedBytes_writeNumber_11 (Z : State) (a1 : Addr) (a2 : Addr) (a3 : Addr) (k4 : ClassId) (h0 : Heap) (n0 : Nat) (v : Option Value) (h : Heap) (L : List Loc) : Prop := v = none ∧ Fr n0 L ∧ Keep h0 h [a3, a1] ∧ Aw Z h a3 "[B" k4 .byte 65536 (updv (updv (updv (updv (updv (updv (fun _ => (.int 0)) 0 (.int 1)) 1 (.int 1)) 2 (.int 0)) 3 (.int 0)) 4 (.int 0)) 5 (.int 0)) ∧ Ob Z h a1 "com/example/kleinmaschine/kleinmaschine/PagedBytes" [("com/example/kleinmaschine/kleinmaschine/PagedBytes", "pages", "Ljava/util/List;", (.ref a2)), ("com/example/kleinmaschine/kleinmaschine/PagedBytes", "lastUsed", "I", (.int 6)), ("com/example/kleinmaschine/kleinmaschine/PagedBytes", "size", "J", (.long 6)), ("com/example/kleinmaschine/kleinmaschine/PagedBytes", "last", "[B", (.ref a3))]
set_option maxRecDepth 65536 in
set_option maxHeartbeats 40000000 in
theorem rm_PagedBytes_writeNumber_11 (l : Launch) (Z : State) (a0 : Array Value) (hw : ∀ d ∈ tables_1, d.before a0 Z = true) (ws : List Jvm.Cond) (a1 : Addr) (a2 : Addr) (a3 : Addr) (k4 : ClassId) (h0 : Heap) (n0 : Nat) (O0 : Old Z n0 h0) (pr1 : Ob Z h0 a1 "com/example/kleinmaschine/kleinmaschine/PagedBytes" [("com/example/kleinmaschine/kleinmaschine/PagedBytes", "pages", "Ljava/util/List;", (.ref a2)), ("com/example/kleinmaschine/kleinmaschine/PagedBytes", "lastUsed", "I", (.int 5)), ("com/example/kleinmaschine/kleinmaschine/PagedBytes", "size", "J", (.long 5)), ("com/example/kleinmaschine/kleinmaschine/PagedBytes", "last", "[B", (.ref a3))]) (pr2 : n0 ≤ a1) (pr3 : Aw Z h0 a3 "[B" k4 .byte 65536 (updv (updv (updv (updv (updv (fun _ => (.int 0)) 0 (.int 1)) 1 (.int 1)) 2 (.int 0)) 3 (.int 0)) 4 (.int 0))) (pr4 : a3 ≠ a1) (pr5 : n0 ≤ a3) :
    MetFree l (⟨"com/example/kleinmaschine/kleinmaschine/PagedBytes", "writeNumber", "(J)V"⟩ : MethodName) (head1 (Jvm.Cond.code (⟨"com/example/kleinmaschine/kleinmaschine/PagedBytes", "writeNumber", "(J)V"⟩ : MethodName) prog_33_method_9_code 3 none :: ws) ({ frames := 3, cells := 0, slots := 0, locals := 42 } : Room)) (fun a U => a = #[(.ref a1), (.long 0)] ∧ Z.Warmed39 U.vm ∧ U.heap = h0) (fun _ _ _ _ _ => True) (fun _ U o U' => ∃ v L, o = .returned v ∧ Q_PagedBytes_writeNumber_11 Z a1 a2 a3 k4 h0 n0 v U'.heap L ∧ FrameEnd U o U' L ({ frames := 3, cells := 0, slots := 0, locals := 42 } : Room).cells ({ frames := 3, cells := 0, slots := 0, locals := 42 } : Room).slots) := by
  refine MetFree.of_bodySF (plainFor_of_name pn_PagedBytes) hisR ?_
  intro p e s m args below meth c s₁ Bd hml0 hP hK
  obtain ⟨rfl, hZ, hh⟩ := hP
  have hx := Bd.exec
  have hby := Bd.bytes
  have hml : c.maxLocals = 3 := hml0
  have hown : s.vm.findClass "com/example/kleinmaschine/kleinmaschine/PagedBytes" = some m.cls := findClass_of_methodNamed Bd.named
  have hnm := (name_of_methodNamed Bd.named Bd.method).1
  have X0 : Stand p l e ({ frames := 3, cells := 0, slots := 0, locals := 42 } : Room) s m #[(.ref a1), (.long 0)] below meth c s₁ [] 0 0 := Stand.of_body Bd
  have e0 : s₁.heap = h0 := by rw [← hh, Bd.state]; rfl
  have N0 := Fr.nil n0
  obtain ⟨G0, hG0⟩ : ∃ z, z = (mkF m 0 #[.val (.ref a1), .val (.long 0), .second] []) := ⟨_, rfl⟩
  have pre0 : ∀ t, Steps p.tables e below (s₁.setTop G0) t → Steps p.tables e below (s₁.setTop (entryFrame m #[(.ref a1), (.long 0)] 3)) t := fun t k => castTop (ef_RJ_3 m a1 ((0 : Int64))) (hG0 ▸ k)
  have k : Goes p e below s₁ G0 s₁ (mkF m 0 #[.val (.ref a1), .val (.long 0), .second] []) := fun t q => hG0 ▸ q
  replace k := Fw.lloadN k X0 hx (hb hby d_prog_33_method_9_0) rfl (pc' := 1) rfl
  replace k := Fw.aloadN k X0 hx (hb hby d_prog_33_method_9_1) rfl rfl (pc' := 2) rfl
  obtain ⟨_, _, ⟨T1, L1, kz1, nz1⟩, -, X1, ⟨Lc1, hQ1, l1, y1, z1⟩, st1⟩ := Jvm.LawKit.callS X0 hx (y := (⟨"com/example/kleinmaschine/kleinmaschine/PagedBytes", "writeNumber", "(JLjava/util/function/IntConsumer;)V"⟩ : MethodName)) hown (mvT hZ (w_128 hw)) (mvT hZ (w_129 hw)) (mvT hZ (w_19 hw)) (mvT hZ (w_130 hw)) (by decide) (backOf (W := 0) (rm_PagedBytes_writeNumber_12 l Z a0 hw [] a1 a2 a3 k4 h0 n0 O0 pr1 pr2 pr3 pr4 pr5) hZ (w_130 hw) (w_19 hw) (by decide) (by decide)) (g := (mkF m 2 #[.val (.ref a1), .val (.long 0), .second] [(.ref a1), (.long 0)])) rfl (by rw [hml]; rfl) (argsL := [(.long 0), (.ref a1)]) (rest := []) (lenOf pd_JLjava_util_function_IntConsumer_r_V rfl) rfl (by show 2 * 0 + _ ≤ _; exact Nat.le_of_eq rfl) (hb hby d_prog_33_method_9_2) (fun _ _ => ⟨rfl, e0, (by decide : 0 + 0 ≤ _), (by decide : 0 + 0 ≤ _)⟩)
  dsimp only [Pt.U, Pt.locs, Pt.cells, Pt.slots] at X1 l1 y1 z1 st1 hQ1
  subst l1 y1 z1
  obtain ⟨hv1, N1q, K1, f1_0, f1_1⟩ := hQ1
  subst hv1
  have N1 := Fr.app N0 N1q
  replace k : Goes p e below s₁ G0 T1 (mkF m 5 #[.val (.ref a1), .val (.long 0), .second] []) := fun t q => k t (st1 _ q)
  obtain ⟨fs, hr, hrun, hended, hW, hsame⟩ := X1.leave (v := none) (fun _ => rfl)
  refine ⟨_, _, pre0 _ (k _ ?_), hrun, hended, _, _, rfl, ?_, ⟨_, rfl⟩, hW, hsame.mono (by decide) (by decide)⟩
  · exact X1.returnOut hx Bd.returns (hb hby d_prog_33_method_9_5) hr
  · show Q_PagedBytes_writeNumber_11 Z a1 a2 a3 k4 h0 n0 _ T1.heap _
    exact ⟨rfl, N1, ((Keep.refl h0 [a3, a1]).trans K1 (allS (Or.inl (List.mem_of_getElem? (i := 0) rfl)) (allS (Or.inl (List.mem_of_getElem? (i := 1) rfl)) all0))), f1_0, f1_1⟩
def Q_Statements_add_2 (Z : State) (a1 : Addr) (q2 : Int64) (a3 : Addr) (a4 : Addr) (a5 : Addr) (a6 : Addr) (a7 : Addr) (a8 : Addr) (a9 : Addr) (a10 : Addr) (k11 : ClassId) (a12 : Addr) (k13 : ClassId) (k14 : ClassId) (a15 : Addr) (k16 : ClassId) (p17 : Int32) (k18 : ClassId) (a19 : Addr) (k20 : ClassId) (p21 : Int32) (a22 : Addr) (a23 : Addr) (k24 : ClassId) (h0 : Heap) (n0 : Nat) (v : Option Value) (h : Heap) (L : List Loc) : Prop := v = some (.int 1) ∧ Fr n0 L ∧ Keep h0 h [a19, a7, a15, a23, a1, a12] ∧ Aw Z h a19 "[I" k20 .int 16384 (updv (updv (fun _ => (.int 0)) 0 (.int p21)) 1 (.int (q2.toInt32))) ∧ Ob Z h a7 "com/example/kleinmaschine/kleinmaschine/PagedBytes" [("com/example/kleinmaschine/kleinmaschine/PagedBytes", "pages", "Ljava/util/List;", (.ref a22)), ("com/example/kleinmaschine/kleinmaschine/PagedBytes", "lastUsed", "I", (.int 6)), ("com/example/kleinmaschine/kleinmaschine/PagedBytes", "size", "J", (.long 6)), ("com/example/kleinmaschine/kleinmaschine/PagedBytes", "last", "[B", (.ref a23))] ∧ Aw Z h a15 "[I" k16 .int 16384 (updv (updv (fun _ => (.int 0)) 0 (.int p17)) 1 (.int (((q2.toUInt64 >>> ((32 : Int32) &&& 0x3f).toInt64.toUInt64).toInt64).toInt32))) ∧ Aw Z h a23 "[B" k24 .byte 65536 (updv (updv (updv (updv (updv (updv (fun _ => (.int 0)) 0 (.int 1)) 1 (.int 1)) 2 (.int 0)) 3 (.int 0)) 4 (.int 0)) 5 (.int 0)) ∧ Ob Z h a1 "com/example/kleinmaschine/kleinmaschine/Statements" [("com/example/kleinmaschine/kleinmaschine/Statements", "headPages", "[[I", (.ref a4)), ("com/example/kleinmaschine/kleinmaschine/Statements", "upperPages", "[[I", (.ref a5)), ("com/example/kleinmaschine/kleinmaschine/Statements", "lowerPages", "[[I", (.ref a6)), ("com/example/kleinmaschine/kleinmaschine/Statements", "records", "Lcom/example/kleinmaschine/kleinmaschine/PagedBytes;", (.ref a7)), ("com/example/kleinmaschine/kleinmaschine/Statements", "checkpointPlaces", "[J", (.ref a8)), ("com/example/kleinmaschine/kleinmaschine/Statements", "checkpointLines", "[J", (.ref a9)), ("com/example/kleinmaschine/kleinmaschine/Statements", "checkpointColumns", "[J", (.ref a10)), ("com/example/kleinmaschine/kleinmaschine/Statements", "heads", "[I", .null), ("com/example/kleinmaschine/kleinmaschine/Statements", "size", "I", (.int 2)), ("com/example/kleinmaschine/kleinmaschine/Statements", "lastLine", "J", (.long 1)), ("com/example/kleinmaschine/kleinmaschine/Statements", "lastColumn", "J", (.long 1)), ("com/example/kleinmaschine/kleinmaschine/Statements", "uppers", "[I", .null), ("com/example/kleinmaschine/kleinmaschine/Statements", "lowers", "[I", .null)] ∧ Aw Z h a12 "[I" k13 .int 16384 (updv (updv (fun _ => (.int 0)) 0 (.int 0)) 1 (.int 0))
set_option maxRecDepth 65536 in
set_option maxHeartbeats 40000000 in
theorem rm_Statements_add_2 (l : Launch) (Z : State) (a0 : Array Value) (hw : ∀ d ∈ tables_1, d.before a0 Z = true) (ws : List Jvm.Cond) (a1 : Addr) (q2 : Int64) (a3 : Addr) (a4 : Addr) (a5 : Addr) (a6 : Addr) (a7 : Addr) (a8 : Addr) (a9 : Addr) (a10 : Addr) (k11 : ClassId) (a12 : Addr) (k13 : ClassId) (k14 : ClassId) (a15 : Addr) (k16 : ClassId) (p17 : Int32) (k18 : ClassId) (a19 : Addr) (k20 : ClassId) (p21 : Int32) (a22 : Addr) (a23 : Addr) (k24 : ClassId) (h0 : Heap) (n0 : Nat) (O0 : Old Z n0 h0) (pr1 : Ob Z h0 a1 "com/example/kleinmaschine/kleinmaschine/Statements" [("com/example/kleinmaschine/kleinmaschine/Statements", "headPages", "[[I", (.ref a4)), ("com/example/kleinmaschine/kleinmaschine/Statements", "upperPages", "[[I", (.ref a5)), ("com/example/kleinmaschine/kleinmaschine/Statements", "lowerPages", "[[I", (.ref a6)), ("com/example/kleinmaschine/kleinmaschine/Statements", "records", "Lcom/example/kleinmaschine/kleinmaschine/PagedBytes;", (.ref a7)), ("com/example/kleinmaschine/kleinmaschine/Statements", "checkpointPlaces", "[J", (.ref a8)), ("com/example/kleinmaschine/kleinmaschine/Statements", "checkpointLines", "[J", (.ref a9)), ("com/example/kleinmaschine/kleinmaschine/Statements", "checkpointColumns", "[J", (.ref a10)), ("com/example/kleinmaschine/kleinmaschine/Statements", "heads", "[I", .null), ("com/example/kleinmaschine/kleinmaschine/Statements", "size", "I", (.int 1)), ("com/example/kleinmaschine/kleinmaschine/Statements", "lastLine", "J", (.long 1)), ("com/example/kleinmaschine/kleinmaschine/Statements", "lastColumn", "J", (.long 1)), ("com/example/kleinmaschine/kleinmaschine/Statements", "uppers", "[I", .null), ("com/example/kleinmaschine/kleinmaschine/Statements", "lowers", "[I", .null)]) (pr2 : Sta Z Z.heap "com/example/kleinmaschine/kleinmaschine/Statements" "PAGE_BITS" "I" (.int (14 : Int32))) (pr3 : OvrA Z k11 .int "[I") (pr4 : Aw Z h0 a4 "[[I" k11 (.array .int) 16 (updv (fun _ => .null) 0 (.ref a12))) (pr5 : Aw Z h0 a12 "[I" k13 .int 16384 (updv (fun _ => (.int 0)) 0 (.int 0))) (pr6 : n0 ≤ a12) (pr7 : a1 ≠ a12) (pr8 : OvrA Z k14 .int "[I") (pr9 : Aw Z h0 a5 "[[I" k14 (.array .int) 16 (updv (fun _ => .null) 0 (.ref a15))) (pr10 : Aw Z h0 a15 "[I" k16 .int 16384 (updv (fun _ => (.int 0)) 0 (.int p17))) (pr11 : n0 ≤ a15) (pr12 : a1 ≠ a15) (pr13 : OvrA Z k18 .int "[I") (pr14 : Aw Z h0 a6 "[[I" k18 (.array .int) 16 (updv (fun _ => .null) 0 (.ref a19))) (pr15 : a6 ≠ a15) (pr16 : Aw Z h0 a19 "[I" k20 .int 16384 (updv (fun _ => (.int 0)) 0 (.int p21))) (pr17 : a19 ≠ a15) (pr18 : n0 ≤ a19) (pr19 : a5 ≠ a12) (pr20 : a15 ≠ a12) (pr21 : a6 ≠ a12) (pr22 : a19 ≠ a12) (pr23 : a1 ≠ a19) (pr24 : Ob Z h0 a3 "com/example/kleinmaschine/kleinmaschine/Position" [("com/example/kleinmaschine/kleinmaschine/Position", "line", "J", (.long 1)), ("com/example/kleinmaschine/kleinmaschine/Position", "column", "J", (.long 1))]) (pr25 : a3 ≠ a12) (pr26 : a3 ≠ a19) (pr27 : a3 ≠ a15) (pr28 : Ob Z h0 a7 "com/example/kleinmaschine/kleinmaschine/PagedBytes" [("com/example/kleinmaschine/kleinmaschine/PagedBytes", "pages", "Ljava/util/List;", (.ref a22)), ("com/example/kleinmaschine/kleinmaschine/PagedBytes", "lastUsed", "I", (.int 3)), ("com/example/kleinmaschine/kleinmaschine/PagedBytes", "size", "J", (.long 3)), ("com/example/kleinmaschine/kleinmaschine/PagedBytes", "last", "[B", (.ref a23))]) (pr29 : n0 ≤ a7) (pr30 : Aw Z h0 a23 "[B" k24 .byte 65536 (updv (updv (updv (fun _ => (.int 0)) 0 (.int 1)) 1 (.int 1)) 2 (.int 0))) (pr31 : a23 ≠ a7) (pr32 : n0 ≤ a23) (pr33 : a7 ≠ a12) (pr34 : a7 ≠ a19) (pr35 : a7 ≠ a15) (pr36 : a23 ≠ a12) (pr37 : a23 ≠ a19) (pr38 : a23 ≠ a15) (pr39 : a1 ≠ a23) (pr40 : a1 ≠ a7) (pr41 : a3 ≠ a23) (pr42 : a3 ≠ a7) (pr43 : n0 ≤ a1) (pr44 : a3 ≠ a1) :
    MetFree l (⟨"com/example/kleinmaschine/kleinmaschine/Statements", "add", "(IJLcom/example/kleinmaschine/kleinmaschine/Position;J)I"⟩ : MethodName) (head1 (Jvm.Cond.code (⟨"com/example/kleinmaschine/kleinmaschine/Statements", "add", "(IJLcom/example/kleinmaschine/kleinmaschine/Position;J)I"⟩ : MethodName) prog_52_method_3_code 10 (some .int) :: ws) ({ frames := 4, cells := 0, slots := 0, locals := 56 } : Room)) (fun a U => a = #[(.ref a1), (.int 0), (.long q2), (.ref a3), (.long 0)] ∧ Z.Warmed39 U.vm ∧ U.heap = h0) (fun _ _ _ _ _ => True) (fun _ U o U' => ∃ v L, o = .returned v ∧ Q_Statements_add_2 Z a1 q2 a3 a4 a5 a6 a7 a8 a9 a10 k11 a12 k13 k14 a15 k16 p17 k18 a19 k20 p21 a22 a23 k24 h0 n0 v U'.heap L ∧ FrameEnd U o U' L ({ frames := 4, cells := 0, slots := 0, locals := 56 } : Room).cells ({ frames := 4, cells := 0, slots := 0, locals := 56 } : Room).slots) := by
  refine MetFree.of_bodySF (plainFor_of_name pn_Statements) hisR ?_
  intro p e s m args below meth c s₁ Bd hml0 hP hK
  obtain ⟨rfl, hZ, hh⟩ := hP
  have hx := Bd.exec
  have hby := Bd.bytes
  have hml : c.maxLocals = 10 := hml0
  have hown : s.vm.findClass "com/example/kleinmaschine/kleinmaschine/Statements" = some m.cls := findClass_of_methodNamed Bd.named
  have hnm := (name_of_methodNamed Bd.named Bd.method).1
  have X0 : Stand p l e ({ frames := 4, cells := 0, slots := 0, locals := 56 } : Room) s m #[(.ref a1), (.int 0), (.long q2), (.ref a3), (.long 0)] below meth c s₁ [] 0 0 := Stand.of_body Bd
  have e0 : s₁.heap = h0 := by rw [← hh, Bd.state]; rfl
  have N0 := Fr.nil n0
  obtain ⟨G0, hG0⟩ : ∃ z, z = (mkF m 0 #[.val (.ref a1), .val (.int 0), .val (.long q2), .second, .val (.ref a3), .val (.long 0), .second, .unset, .unset, .unset] []) := ⟨_, rfl⟩
  have pre0 : ∀ t, Steps p.tables e below (s₁.setTop G0) t → Steps p.tables e below (s₁.setTop (entryFrame m #[(.ref a1), (.int 0), (.long q2), (.ref a3), (.long 0)] 10)) t := fun t k => castTop (ef_RIJRJ_10 m a1 ((0 : Int32)) q2 a3 ((0 : Int64))) (hG0 ▸ k)
  have k : Goes p e below s₁ G0 s₁ (mkF m 0 #[.val (.ref a1), .val (.int 0), .val (.long q2), .second, .val (.ref a3), .val (.long 0), .second, .unset, .unset, .unset] []) := fun t q => hG0 ▸ q
  replace k := Fw.aloadN k X0 hx (hb hby d_prog_52_method_3_0) rfl rfl (pc' := 1) rfl
  obtain ⟨cq1, q1, q1'⟩ := Exa.cell pr1.exa
  obtain ⟨_, _, ⟨T1, L1, kz1, nz1⟩, -, X1, ⟨Lc1, hQ1, l1, y1, z1⟩, st1⟩ := X0.privateBack hx (y := (⟨"com/example/kleinmaschine/kleinmaschine/Statements", "checkAdding", "()V"⟩ : MethodName)) hown (mvT hZ (w_88 hw)) (mvT hZ (w_89 hw)) (Jvm.Kit.selects_private (by decide) (mvT hZ (w_1 hw)) (mvP hZ (w_90 hw)) (mvT hZ (w_89 hw))) (Cond.privateMethod_at (mvP hZ (w_90 hw) (args := #[]))) (mvT hZ (w_91 hw)) (by decide) (backOf (W := 0) (rm_Statements_checkAdding_2 l Z a0 hw [] a1 a4 a5 a6 a7 a8 a9 a10 h0 n0 O0 pr1) hZ (w_91 hw) (w_2 hw) (by decide) (by decide)) (g := (mkF m 1 #[.val (.ref a1), .val (.int 0), .val (.long q2), .second, .val (.ref a3), .val (.long 0), .second, .unset, .unset, .unset] [(.ref a1)])) rfl (by rw [hml]; rfl) (Steps.refl _) (a := a1) (by rw [e0]; exact q1) q1' (argsL := []) (rest := []) (lenOf pd__r_V rfl) rfl (by show 2 * 0 + _ ≤ _; exact Nat.le_of_eq rfl) (hb hby d_prog_52_method_3_1) (fun _ _ => ⟨rfl, e0, (by decide : 0 + 0 ≤ _), (by decide : 0 + 0 ≤ _)⟩)
  dsimp only [Pt.U, Pt.locs, Pt.cells, Pt.slots] at X1 l1 y1 z1 st1 hQ1
  subst l1 y1 z1
  obtain ⟨hv1, N1q, e1⟩ := hQ1
  subst hv1
  have N1 := Fr.app N0 N1q
  replace k : Goes p e below s₁ G0 T1 (mkF m 4 #[.val (.ref a1), .val (.int 0), .val (.long q2), .second, .val (.ref a3), .val (.long 0), .second, .unset, .unset, .unset] []) := fun t q => k t (st1.trans q)
  replace k := Fw.aloadN k X1 hx (hb hby d_prog_52_method_3_4) rfl rfl (pc' := 5) rfl
  obtain ⟨T2, X2, e2, st2⟩ := getF X1 hx hZ hown (host := "") (Or.inl (w_94 hw)) Via.refl e1 (Ob.at pr1 8 rfl) (g := (mkF m 5 #[.val (.ref a1), .val (.int 0), .val (.long q2), .second, .val (.ref a3), .val (.long 0), .second, .unset, .unset, .unset] [(.ref a1)])) rfl rfl (hb hby d_prog_52_method_3_5)
  replace k : Goes p e below s₁ G0 T2 (mkF m 8 #[.val (.ref a1), .val (.int 0), .val (.long q2), .second, .val (.ref a3), .val (.long 0), .second, .unset, .unset, .unset] [(.int 1)]) := fun t q => k t (st2 _ q)
  replace k : Goes p e below s₁ G0 T2 (mkF m 10 #[.val (.ref a1), .val (.int 0), .val (.long q2), .second, .val (.ref a3), .val (.long 0), .second, .unset, .unset, .unset] [(.int 8388608), (.int 1)]) := fun t q => k t (X2.ldcInt hx hown (mvT hZ (w_96 hw)) (g := (mkF m 8 #[.val (.ref a1), .val (.int 0), .val (.long q2), .second, .val (.ref a3), .val (.long 0), .second, .unset, .unset, .unset] [(.int 1)])) rfl (hb hby d_prog_52_method_3_8) _ q)
  replace k := Fw.icmpYes k X2 hx (hb hby d_prog_52_method_3_10) (feq (show ¬ ((1 : Int32) = (8388608 : Int32)) from by decide)).2 (by decide) (pc' := 23) rfl
  replace k := Fw.aloadN k X2 hx (hb hby d_prog_52_method_3_23) rfl rfl (pc' := 24) rfl
  obtain ⟨T3, X3, e3, st3⟩ := getF X2 hx hZ hown (host := "") (Or.inl (w_94 hw)) Via.refl e2 (Ob.at pr1 8 rfl) (g := (mkF m 24 #[.val (.ref a1), .val (.int 0), .val (.long q2), .second, .val (.ref a3), .val (.long 0), .second, .unset, .unset, .unset] [(.ref a1)])) rfl rfl (hb hby d_prog_52_method_3_24)
  replace k : Goes p e below s₁ G0 T3 (mkF m 27 #[.val (.ref a1), .val (.int 0), .val (.long q2), .second, .val (.ref a3), .val (.long 0), .second, .unset, .unset, .unset] [(.int 1)]) := fun t q => k t (st3 _ q)
  obtain ⟨T4, X4, e4, st4⟩ := getS2 X3 hx hZ hown (host := "") (Or.inl (w_97 hw)) Via.refl e3 (pr2.ext O0.2) (g := (mkF m 27 #[.val (.ref a1), .val (.int 0), .val (.long q2), .second, .val (.ref a3), .val (.long 0), .second, .unset, .unset, .unset] [(.int 1)])) rfl (hb hby d_prog_52_method_3_27)
  replace k : Goes p e below s₁ G0 T4 (mkF m 30 #[.val (.ref a1), .val (.int 0), .val (.long q2), .second, .val (.ref a3), .val (.long 0), .second, .unset, .unset, .unset] [(.int 14), (.int 1)]) := fun t q => k t (st4 _ q)
  replace k := Fw.iushr k X4 hx (hb hby d_prog_52_method_3_30) (z := (0 : Int32)) (by decide) (pc' := 31) rfl
  replace k := Fw.istore k X4 hx (hb hby d_prog_52_method_3_31)  (Ls' := #[.val (.ref a1), .val (.int 0), .val (.long q2), .second, .val (.ref a3), .val (.long 0), .second, .val (.int 0), .unset, .unset]) rfl (pc' := 33) rfl
  replace k := Fw.aloadN k X4 hx (hb hby d_prog_52_method_3_33) rfl rfl (pc' := 34) rfl
  obtain ⟨T5, X5, e5, st5⟩ := getF X4 hx hZ hown (host := "") (Or.inl (w_94 hw)) Via.refl e4 (Ob.at pr1 8 rfl) (g := (mkF m 34 #[.val (.ref a1), .val (.int 0), .val (.long q2), .second, .val (.ref a3), .val (.long 0), .second, .val (.int 0), .unset, .unset] [(.ref a1)])) rfl rfl (hb hby d_prog_52_method_3_34)
  replace k : Goes p e below s₁ G0 T5 (mkF m 37 #[.val (.ref a1), .val (.int 0), .val (.long q2), .second, .val (.ref a3), .val (.long 0), .second, .val (.int 0), .unset, .unset] [(.int 1)]) := fun t q => k t (st5 _ q)
  replace k := Fw.sipush k X5 hx (hb hby d_prog_52_method_3_37) (z := (16383 : Int32)) (by decide) (pc' := 40) rfl
  replace k := Fw.iand k X5 hx (hb hby d_prog_52_method_3_40) (z := (1 : Int32)) (by decide) (pc' := 41) rfl
  replace k := Fw.ifYes k X5 hx (hb hby d_prog_52_method_3_41) ((if0 _ _).trans (feq (show ¬ ((1 : Int32) = (0 : Int32)) from by decide)).2) (by decide) (pc' := 144) rfl
  replace k := Fw.aloadN k X5 hx (hb hby d_prog_52_method_3_144) rfl rfl (pc' := 145) rfl
  obtain ⟨T6, X6, e6, st6⟩ := getF X5 hx hZ hown (host := "") (Or.inl (w_11 hw)) Via.refl e5 (Ob.at pr1 0 rfl) (g := (mkF m 145 #[.val (.ref a1), .val (.int 0), .val (.long q2), .second, .val (.ref a3), .val (.long 0), .second, .val (.int 0), .unset, .unset] [(.ref a1)])) rfl rfl (hb hby d_prog_52_method_3_145)
  replace k : Goes p e below s₁ G0 T6 (mkF m 148 #[.val (.ref a1), .val (.int 0), .val (.long q2), .second, .val (.ref a3), .val (.long 0), .second, .val (.int 0), .unset, .unset] [(.ref a4)]) := fun t q => k t (st6 _ q)
  replace k := Fw.iload k X6 hx (hb hby d_prog_52_method_3_148) rfl (pc' := 150) rfl
  obtain ⟨cl7, Ar7, hin7, hat7, -, -⟩ := Aw.open pr4 (j := (0 : Int32)) 0 (by decide) (by decide) (by decide)
  replace hat7 : cl7.slots[((0 : Int32)).toNatClampNeg]? = some (.ref a12) := hat7
  replace k : Goes p e below s₁ G0 T6 (mkF m 151 #[.val (.ref a1), .val (.int 0), .val (.long q2), .second, .val (.ref a3), .val (.long 0), .second, .val (.int 0), .unset, .unset] [(.ref a12)]) := fun t q => k t (X6.aaload hx (j := (0 : Int32)) (v := (.ref a12)) (by rw [e6]; exact Ar7.1) (State.isArrayOf_alike hZ.alike Ar7.2.1) rfl Ar7.2.2 hin7 hat7 (g := (mkF m 150 #[.val (.ref a1), .val (.int 0), .val (.long q2), .second, .val (.ref a3), .val (.long 0), .second, .val (.int 0), .unset, .unset] [(.int 0), (.ref a4)])) rfl rfl (hb hby d_prog_52_method_3_150) _ q)
  replace k := Fw.aloadN k X6 hx (hb hby d_prog_52_method_3_151) rfl rfl (pc' := 152) rfl
  obtain ⟨T8, X8, e8, st8⟩ := getF X6 hx hZ hown (host := "") (Or.inl (w_94 hw)) Via.refl e6 (Ob.at pr1 8 rfl) (g := (mkF m 152 #[.val (.ref a1), .val (.int 0), .val (.long q2), .second, .val (.ref a3), .val (.long 0), .second, .val (.int 0), .unset, .unset] [(.ref a1), (.ref a12)])) rfl rfl (hb hby d_prog_52_method_3_152)
  replace k : Goes p e below s₁ G0 T8 (mkF m 155 #[.val (.ref a1), .val (.int 0), .val (.long q2), .second, .val (.ref a3), .val (.long 0), .second, .val (.int 0), .unset, .unset] [(.int 1), (.ref a12)]) := fun t q => k t (st8 _ q)
  replace k := Fw.sipush k X8 hx (hb hby d_prog_52_method_3_155) (z := (16383 : Int32)) (by decide) (pc' := 158) rfl
  replace k := Fw.iand k X8 hx (hb hby d_prog_52_method_3_158) (z := (1 : Int32)) (by decide) (pc' := 159) rfl
  replace k := Fw.iloadN k X8 hx (hb hby d_prog_52_method_3_159) rfl (pc' := 160) rfl
  obtain ⟨cl9, Ar9, hin9, -, kq9, -⟩ := Aw.open pr5 (j := (1 : Int32)) 1 (by decide) (by decide) (by decide)
  obtain ⟨T9, h9, X9, e9, W9, st9⟩ := stI X8 hx hZ e8 Ar9 (j := (1 : Int32)) hin9 (g := (mkF m 160 #[.val (.ref a1), .val (.int 0), .val (.long q2), .second, .val (.ref a3), .val (.long 0), .second, .val (.int 0), .unset, .unset] [(.int 0), (.int 1), (.ref a12)])) rfl rfl (hb hby d_prog_52_method_3_160)
  have N9 := Fr.snoc X9 N1 pr6
  have V9 : Aw Z h9 a12 "[I" k13 .int 16384 (updv (updv (fun _ => (.int 0)) 0 (.int 0)) 1 (.int 0)) := Aw.set pr5 W9 1 (by decide) rfl
  replace k : Goes p e below s₁ G0 T9 (mkF m 161 #[.val (.ref a1), .val (.int 0), .val (.long q2), .second, .val (.ref a3), .val (.long 0), .second, .val (.int 0), .unset, .unset] []) := fun t q => k t (st9 _ q)
  replace k := Fw.aloadN k X9 hx (hb hby d_prog_52_method_3_161) rfl rfl (pc' := 162) rfl
  replace k := Fw.aloadN k X9 hx (hb hby d_prog_52_method_3_162) rfl rfl (pc' := 163) rfl
  have fc10 := (pr1.other W9 pr7)
  obtain ⟨T11, X11, e11, st11⟩ := getF X9 hx hZ hown (host := "") (Or.inl (w_94 hw)) Via.refl e9 (Ob.at fc10 8 rfl) (g := (mkF m 163 #[.val (.ref a1), .val (.int 0), .val (.long q2), .second, .val (.ref a3), .val (.long 0), .second, .val (.int 0), .unset, .unset] [(.ref a1), (.ref a1)])) rfl rfl (hb hby d_prog_52_method_3_163)
  replace k : Goes p e below s₁ G0 T11 (mkF m 166 #[.val (.ref a1), .val (.int 0), .val (.long q2), .second, .val (.ref a3), .val (.long 0), .second, .val (.int 0), .unset, .unset] [(.int 1), (.ref a1)]) := fun t q => k t (st11 _ q)
  replace k := Fw.lloadN k X11 hx (hb hby d_prog_52_method_3_166) rfl (pc' := 167) rfl
  have fc13 := (pr9.other W9 pr19)
  have fc14 := (pr10.other W9 pr20)
  have fc15 := (pr14.other W9 pr21)
  have fc16 := (pr16.other W9 pr22)
  have fc17 := (O0.wr W9 pr6)
  obtain ⟨cq12, q12, q12'⟩ := Exa.cell fc10.exa
  obtain ⟨_, _, ⟨T12, L12, kz12, nz12⟩, -, X12, ⟨Lc12, hQ12, l12, y12, z12⟩, st12⟩ := X11.privateBack hx (y := (⟨"com/example/kleinmaschine/kleinmaschine/Statements", "setOperandAt", "(IJ)V"⟩ : MethodName)) hown (mvT hZ (w_101 hw)) (mvT hZ (w_102 hw)) (Jvm.Kit.selects_private (by decide) (mvT hZ (w_1 hw)) (mvP hZ (w_103 hw)) (mvT hZ (w_102 hw))) (Cond.privateMethod_at (mvP hZ (w_103 hw) (args := #[]))) (mvT hZ (w_104 hw)) (by decide) (backOf (W := 0) (rm_Statements_setOperandAt_2 l Z a0 hw [] a1 q2 a4 a5 a6 a7 a8 a9 a10 k14 a15 k16 p17 k18 a19 k20 p21 h9 n0 fc17 fc10 pr2 pr8 fc13 fc14 pr11 pr12 pr13 fc15 pr15 fc16 pr17 pr18) hZ (w_104 hw) (w_2 hw) (by decide) (by decide)) (g := (mkF m 167 #[.val (.ref a1), .val (.int 0), .val (.long q2), .second, .val (.ref a3), .val (.long 0), .second, .val (.int 0), .unset, .unset] [(.long q2), (.int 1), (.ref a1)])) rfl (by rw [hml]; rfl) (Steps.refl _) (a := a1) (by rw [e11]; exact q12) q12' (argsL := [(.int 1), (.long q2)]) (rest := []) (lenOf pd_IJ_r_V rfl) rfl (by show 2 * 0 + _ ≤ _; exact Nat.le_of_eq rfl) (hb hby d_prog_52_method_3_167) (fun _ _ => ⟨rfl, e11, (by decide : 0 + 0 ≤ _), (by decide : 0 + 0 ≤ _)⟩)
  dsimp only [Pt.U, Pt.locs, Pt.cells, Pt.slots] at X12 l12 y12 z12 st12 hQ12
  subst l12 y12 z12
  obtain ⟨hv12, N12q, K12, f12_0, f12_1⟩ := hQ12
  subst hv12
  have N12 := Fr.app N9 N12q
  replace k : Goes p e below s₁ G0 T12 (mkF m 170 #[.val (.ref a1), .val (.int 0), .val (.long q2), .second, .val (.ref a3), .val (.long 0), .second, .val (.int 0), .unset, .unset] []) := fun t q => k t (st12.trans q)
  replace k := Fw.aloadN k X12 hx (hb hby d_prog_52_method_3_170) rfl rfl (pc' := 171) rfl
  have fc18 := (fc10.keep K12 (ninS pr23 (ninS pr12 nin0)))
  obtain ⟨T19, X19, e19, st19⟩ := getF X12 hx hZ hown (host := "") (Or.inl (w_94 hw)) Via.refl rfl (Ob.at fc18 8 rfl) (g := (mkF m 171 #[.val (.ref a1), .val (.int 0), .val (.long q2), .second, .val (.ref a3), .val (.long 0), .second, .val (.int 0), .unset, .unset] [(.ref a1)])) rfl rfl (hb hby d_prog_52_method_3_171)
  replace k : Goes p e below s₁ G0 T19 (mkF m 174 #[.val (.ref a1), .val (.int 0), .val (.long q2), .second, .val (.ref a3), .val (.long 0), .second, .val (.int 0), .unset, .unset] [(.int 1)]) := fun t q => k t (st19 _ q)
  replace k := Fw.bipush k X19 hx (hb hby d_prog_52_method_3_174) (z := (63 : Int32)) (by decide) (pc' := 176) rfl
  replace k := Fw.iand k X19 hx (hb hby d_prog_52_method_3_176) (z := (1 : Int32)) (by decide) (pc' := 177) rfl
  replace k := Fw.ifYes k X19 hx (hb hby d_prog_52_method_3_177) ((if0 _ _).trans (feq (show ¬ ((1 : Int32) = (0 : Int32)) from by decide)).2) (by decide) (pc' := 281) rfl
  replace k := Fw.aload k X19 hx (hb hby d_prog_52_method_3_281) rfl rfl (pc' := 283) rfl
  have fc21 := ((pr24.other W9 pr25).keep K12 (ninS pr26 (ninS pr27 nin0)))
  have fc22 := (fc17.keep K12 (allS pr18 (allS pr11 all0)))
  obtain ⟨cq20, kq20, q20a, q20b, q20c⟩ := isOf hZ e19 fc21.exa
  obtain ⟨_, _, ⟨T20, L20, kz20, nz20⟩, -, X20, ⟨Lc20, hQ20, l20, y20, z20⟩, st20⟩ := X19.virtualBack hx (y := (⟨"com/example/kleinmaschine/kleinmaschine/Position", "line", "()J"⟩ : MethodName)) (z := (⟨"com/example/kleinmaschine/kleinmaschine/Position", "line", "()J"⟩ : MethodName)) hown (mvT hZ (w_118 hw)) (mvT hZ (w_119 hw)) (notFace_of_selects (args := #[]) (mvT hZ (w_121 hw))) (mvT hZ (w_121 hw)) (mvT hZ (w_120 hw)) (by decide) (backOf (W := 0) (rm_Position_line_1 l Z a0 hw [] a3 T12.heap n0 fc22 fc21) hZ (w_122 hw) (w_69 hw) (by decide) (by decide)) q20a q20c (g := (mkF m 283 #[.val (.ref a1), .val (.int 0), .val (.long q2), .second, .val (.ref a3), .val (.long 0), .second, .val (.int 0), .unset, .unset] [(.ref a3)])) rfl (by rw [hml]; rfl) (Steps.refl _) (argsL := []) (rest := []) (lenOf pd__r_J rfl) rfl (by show 2 * 0 + _ ≤ _; exact Nat.le_of_eq rfl) (hb hby d_prog_52_method_3_283) (fun _ _ => ⟨rfl, e19, (by decide : 0 + 0 ≤ _), (by decide : 0 + 0 ≤ _)⟩)
  dsimp only [Pt.U, Pt.locs, Pt.cells, Pt.slots] at X20 l20 y20 z20 st20 hQ20
  subst l20 y20 z20
  obtain ⟨hv20, N20q, e20⟩ := hQ20
  subst hv20
  have N20 := Fr.app N12 N20q
  replace k : Goes p e below s₁ G0 T20 (mkF m 286 #[.val (.ref a1), .val (.int 0), .val (.long q2), .second, .val (.ref a3), .val (.long 0), .second, .val (.int 0), .unset, .unset] [(.long 1)]) := fun t q => k t (st20.trans q)
  replace k := Fw.aloadN k X20 hx (hb hby d_prog_52_method_3_286) rfl rfl (pc' := 287) rfl
  obtain ⟨T23, X23, e23, st23⟩ := getF X20 hx hZ hown (host := "") (Or.inl (w_114 hw)) Via.refl e20 (Ob.at fc18 9 rfl) (g := (mkF m 287 #[.val (.ref a1), .val (.int 0), .val (.long q2), .second, .val (.ref a3), .val (.long 0), .second, .val (.int 0), .unset, .unset] [(.ref a1), (.long 1)])) rfl rfl (hb hby d_prog_52_method_3_287)
  replace k : Goes p e below s₁ G0 T23 (mkF m 290 #[.val (.ref a1), .val (.int 0), .val (.long q2), .second, .val (.ref a3), .val (.long 0), .second, .val (.int 0), .unset, .unset] [(.long 1), (.long 1)]) := fun t q => k t (st23 _ q)
  replace k := Fw.lsub k X23 hx (hb hby d_prog_52_method_3_290) (z := (0 : Int64)) (by decide) (pc' := 291) rfl
  replace k := Fw.lstore k X23 hx (hb hby d_prog_52_method_3_291)  (Ls' := #[.val (.ref a1), .val (.int 0), .val (.long q2), .second, .val (.ref a3), .val (.long 0), .second, .val (.int 0), .val (.long 0), .second]) rfl (pc' := 293) rfl
  replace k := Fw.aloadN k X23 hx (hb hby d_prog_52_method_3_293) rfl rfl (pc' := 294) rfl
  obtain ⟨T24, X24, e24, st24⟩ := getF X23 hx hZ hown (host := "") (Or.inl (w_58 hw)) Via.refl e23 (Ob.at fc18 3 rfl) (g := (mkF m 294 #[.val (.ref a1), .val (.int 0), .val (.long q2), .second, .val (.ref a3), .val (.long 0), .second, .val (.int 0), .val (.long 0), .second] [(.ref a1)])) rfl rfl (hb hby d_prog_52_method_3_294)
  replace k : Goes p e below s₁ G0 T24 (mkF m 297 #[.val (.ref a1), .val (.int 0), .val (.long q2), .second, .val (.ref a3), .val (.long 0), .second, .val (.int 0), .val (.long 0), .second] [(.ref a7)]) := fun t q => k t (st24 _ q)
  replace k := Fw.lload k X24 hx (hb hby d_prog_52_method_3_297) rfl (pc' := 299) rfl
  have fc26 := ((pr28.other W9 pr33).keep K12 (ninS pr34 (ninS pr35 nin0)))
  have fc27 := ((pr30.other W9 pr36).keep K12 (ninS pr37 (ninS pr38 nin0)))
  obtain ⟨cq25, kq25, q25a, q25b, q25c⟩ := isOf hZ e24 fc26.exa
  obtain ⟨_, _, ⟨T25, L25, kz25, nz25⟩, -, X25, ⟨Lc25, hQ25, l25, y25, z25⟩, st25⟩ := X24.virtualBack hx (y := (⟨"com/example/kleinmaschine/kleinmaschine/PagedBytes", "writeNumber", "(J)V"⟩ : MethodName)) (z := (⟨"com/example/kleinmaschine/kleinmaschine/PagedBytes", "writeNumber", "(J)V"⟩ : MethodName)) hown (mvT hZ (w_123 hw)) (mvT hZ (w_124 hw)) (notFace_of_selects (args := #[]) (mvT hZ (w_126 hw))) (mvT hZ (w_126 hw)) (mvT hZ (w_125 hw)) (by decide) (backOf (W := 0) (rm_PagedBytes_writeNumber_7 l Z a0 hw [] a7 a22 a23 k24 T12.heap n0 fc22 fc26 pr29 fc27 pr31 pr32) hZ (w_127 hw) (w_19 hw) (by decide) (by decide)) q25a q25c (g := (mkF m 299 #[.val (.ref a1), .val (.int 0), .val (.long q2), .second, .val (.ref a3), .val (.long 0), .second, .val (.int 0), .val (.long 0), .second] [(.long 0), (.ref a7)])) rfl (by rw [hml]; rfl) (Steps.refl _) (argsL := [(.long 0)]) (rest := []) (lenOf pd_J_r_V rfl) rfl (by show 2 * 0 + _ ≤ _; exact Nat.le_of_eq rfl) (hb hby d_prog_52_method_3_299) (fun _ _ => ⟨rfl, e24, (by decide : 0 + 0 ≤ _), (by decide : 0 + 0 ≤ _)⟩)
  dsimp only [Pt.U, Pt.locs, Pt.cells, Pt.slots] at X25 l25 y25 z25 st25 hQ25
  subst l25 y25 z25
  obtain ⟨hv25, N25q, K25, f25_0, f25_1⟩ := hQ25
  subst hv25
  have N25 := Fr.app N20 N25q
  replace k : Goes p e below s₁ G0 T25 (mkF m 302 #[.val (.ref a1), .val (.int 0), .val (.long q2), .second, .val (.ref a3), .val (.long 0), .second, .val (.int 0), .val (.long 0), .second] []) := fun t q => k t (st25.trans q)
  replace k := Fw.aloadN k X25 hx (hb hby d_prog_52_method_3_302) rfl rfl (pc' := 303) rfl
  have fc28 := (fc18.keep K25 (ninS pr39 (ninS pr40 nin0)))
  obtain ⟨T29, X29, e29, st29⟩ := getF X25 hx hZ hown (host := "") (Or.inl (w_58 hw)) Via.refl rfl (Ob.at fc28 3 rfl) (g := (mkF m 303 #[.val (.ref a1), .val (.int 0), .val (.long q2), .second, .val (.ref a3), .val (.long 0), .second, .val (.int 0), .val (.long 0), .second] [(.ref a1)])) rfl rfl (hb hby d_prog_52_method_3_303)
  replace k : Goes p e below s₁ G0 T29 (mkF m 306 #[.val (.ref a1), .val (.int 0), .val (.long q2), .second, .val (.ref a3), .val (.long 0), .second, .val (.int 0), .val (.long 0), .second] [(.ref a7)]) := fun t q => k t (st29 _ q)
  replace k := Fw.lload k X29 hx (hb hby d_prog_52_method_3_306) rfl (pc' := 308) rfl
  replace k := Fw.lconst k X29 hx (hb hby d_prog_52_method_3_308) (z := (0 : Int64)) (by decide) (pc' := 309) rfl
  replace k : Goes p e below s₁ G0 T29 (mkF m 310 #[.val (.ref a1), .val (.int 0), .val (.long q2), .second, .val (.ref a3), .val (.long 0), .second, .val (.int 0), .val (.long 0), .second] [(.int 0), (.ref a7)]) := Fw.lcmp k X29 hx (hb hby d_prog_52_method_3_309) rfl
  replace k := Fw.ifNo k X29 hx (hb hby d_prog_52_method_3_310) ((if0 _ _).trans (teq (show (0 : Int32) = (0 : Int32) from by decide)).2) (pc' := 313) rfl
  replace k := Fw.aload k X29 hx (hb hby d_prog_52_method_3_313) rfl rfl (pc' := 315) rfl
  have fc31 := (fc21.keep K25 (ninS pr41 (ninS pr42 nin0)))
  have fc32 := (fc22.keep K25 (allS pr32 (allS pr29 all0)))
  obtain ⟨cq30, kq30, q30a, q30b, q30c⟩ := isOf hZ e29 fc31.exa
  obtain ⟨_, _, ⟨T30, L30, kz30, nz30⟩, -, X30, ⟨Lc30, hQ30, l30, y30, z30⟩, st30⟩ := X29.virtualBack hx (y := (⟨"com/example/kleinmaschine/kleinmaschine/Position", "column", "()J"⟩ : MethodName)) (z := (⟨"com/example/kleinmaschine/kleinmaschine/Position", "column", "()J"⟩ : MethodName)) hown (mvT hZ (w_184 hw)) (mvT hZ (w_185 hw)) (notFace_of_selects (args := #[]) (mvT hZ (w_187 hw))) (mvT hZ (w_187 hw)) (mvT hZ (w_186 hw)) (by decide) (backOf (W := 1) (rm_Position_column_1 l Z a0 hw [] a3 T25.heap n0 fc32 fc31) hZ (w_188 hw) (w_69 hw) (by decide) (by decide)) q30a q30c (g := (mkF m 315 #[.val (.ref a1), .val (.int 0), .val (.long q2), .second, .val (.ref a3), .val (.long 0), .second, .val (.int 0), .val (.long 0), .second] [(.ref a3), (.ref a7)])) rfl (by rw [hml]; rfl) (Steps.refl _) (argsL := []) (rest := [(.ref a7)]) (lenOf pd__r_J rfl) rfl (by show 2 * 0 + _ ≤ _; exact Nat.le_of_eq rfl) (hb hby d_prog_52_method_3_315) (fun _ _ => ⟨rfl, e29, (by decide : 0 + 0 ≤ _), (by decide : 0 + 0 ≤ _)⟩)
  dsimp only [Pt.U, Pt.locs, Pt.cells, Pt.slots] at X30 l30 y30 z30 st30 hQ30
  subst l30 y30 z30
  obtain ⟨hv30, N30q, e30⟩ := hQ30
  subst hv30
  have N30 := Fr.app N25 N30q
  replace k : Goes p e below s₁ G0 T30 (mkF m 318 #[.val (.ref a1), .val (.int 0), .val (.long q2), .second, .val (.ref a3), .val (.long 0), .second, .val (.int 0), .val (.long 0), .second] [(.long 1), (.ref a7)]) := fun t q => k t (st30.trans q)
  replace k := Fw.aloadN k X30 hx (hb hby d_prog_52_method_3_318) rfl rfl (pc' := 319) rfl
  obtain ⟨T33, X33, e33, st33⟩ := getF X30 hx hZ hown (host := "") (Or.inl (w_116 hw)) Via.refl e30 (Ob.at fc28 10 rfl) (g := (mkF m 319 #[.val (.ref a1), .val (.int 0), .val (.long q2), .second, .val (.ref a3), .val (.long 0), .second, .val (.int 0), .val (.long 0), .second] [(.ref a1), (.long 1), (.ref a7)])) rfl rfl (hb hby d_prog_52_method_3_319)
  replace k : Goes p e below s₁ G0 T33 (mkF m 322 #[.val (.ref a1), .val (.int 0), .val (.long q2), .second, .val (.ref a3), .val (.long 0), .second, .val (.int 0), .val (.long 0), .second] [(.long 1), (.long 1), (.ref a7)]) := fun t q => k t (st33 _ q)
  replace k := Fw.lsub k X33 hx (hb hby d_prog_52_method_3_322) (z := (0 : Int64)) (by decide) (pc' := 323) rfl
  replace k := Fw.goto k X33 hx (hb hby d_prog_52_method_3_323) (by decide) (pc' := 331) rfl
  obtain ⟨cq34, kq34, q34a, q34b, q34c⟩ := isOf hZ e33 f25_1.exa
  obtain ⟨_, _, ⟨T34, L34, kz34, nz34⟩, -, X34, ⟨Lc34, hQ34, l34, y34, z34⟩, st34⟩ := X33.virtualBack hx (y := (⟨"com/example/kleinmaschine/kleinmaschine/PagedBytes", "writeNumber", "(J)V"⟩ : MethodName)) (z := (⟨"com/example/kleinmaschine/kleinmaschine/PagedBytes", "writeNumber", "(J)V"⟩ : MethodName)) hown (mvT hZ (w_123 hw)) (mvT hZ (w_124 hw)) (notFace_of_selects (args := #[]) (mvT hZ (w_126 hw))) (mvT hZ (w_126 hw)) (mvT hZ (w_125 hw)) (by decide) (backOf (W := 0) (rm_PagedBytes_writeNumber_9 l Z a0 hw [] a7 a22 a23 k24 T25.heap n0 fc32 f25_1 pr29 f25_0 pr31 pr32) hZ (w_127 hw) (w_19 hw) (by decide) (by decide)) q34a q34c (g := (mkF m 331 #[.val (.ref a1), .val (.int 0), .val (.long q2), .second, .val (.ref a3), .val (.long 0), .second, .val (.int 0), .val (.long 0), .second] [(.long 0), (.ref a7)])) rfl (by rw [hml]; rfl) (Steps.refl _) (argsL := [(.long 0)]) (rest := []) (lenOf pd_J_r_V rfl) rfl (by show 2 * 0 + _ ≤ _; exact Nat.le_of_eq rfl) (hb hby d_prog_52_method_3_331) (fun _ _ => ⟨rfl, e33, (by decide : 0 + 0 ≤ _), (by decide : 0 + 0 ≤ _)⟩)
  dsimp only [Pt.U, Pt.locs, Pt.cells, Pt.slots] at X34 l34 y34 z34 st34 hQ34
  subst l34 y34 z34
  obtain ⟨hv34, N34q, K34, f34_0, f34_1⟩ := hQ34
  subst hv34
  have N34 := Fr.app N30 N34q
  replace k : Goes p e below s₁ G0 T34 (mkF m 334 #[.val (.ref a1), .val (.int 0), .val (.long q2), .second, .val (.ref a3), .val (.long 0), .second, .val (.int 0), .val (.long 0), .second] []) := fun t q => k t (st34.trans q)
  replace k := Fw.aloadN k X34 hx (hb hby d_prog_52_method_3_334) rfl rfl (pc' := 335) rfl
  have fc35 := (fc28.keep K34 (ninS pr39 (ninS pr40 nin0)))
  obtain ⟨T36, X36, e36, st36⟩ := getF X34 hx hZ hown (host := "") (Or.inl (w_58 hw)) Via.refl rfl (Ob.at fc35 3 rfl) (g := (mkF m 335 #[.val (.ref a1), .val (.int 0), .val (.long q2), .second, .val (.ref a3), .val (.long 0), .second, .val (.int 0), .val (.long 0), .second] [(.ref a1)])) rfl rfl (hb hby d_prog_52_method_3_335)
  replace k : Goes p e below s₁ G0 T36 (mkF m 338 #[.val (.ref a1), .val (.int 0), .val (.long q2), .second, .val (.ref a3), .val (.long 0), .second, .val (.int 0), .val (.long 0), .second] [(.ref a7)]) := fun t q => k t (st36 _ q)
  replace k := Fw.lload k X36 hx (hb hby d_prog_52_method_3_338) rfl (pc' := 340) rfl
  have fc38 := (fc32.keep K34 (allS pr32 (allS pr29 all0)))
  obtain ⟨cq37, kq37, q37a, q37b, q37c⟩ := isOf hZ e36 f34_1.exa
  obtain ⟨_, _, ⟨T37, L37, kz37, nz37⟩, -, X37, ⟨Lc37, hQ37, l37, y37, z37⟩, st37⟩ := X36.virtualBack hx (y := (⟨"com/example/kleinmaschine/kleinmaschine/PagedBytes", "writeNumber", "(J)V"⟩ : MethodName)) (z := (⟨"com/example/kleinmaschine/kleinmaschine/PagedBytes", "writeNumber", "(J)V"⟩ : MethodName)) hown (mvT hZ (w_123 hw)) (mvT hZ (w_124 hw)) (notFace_of_selects (args := #[]) (mvT hZ (w_126 hw))) (mvT hZ (w_126 hw)) (mvT hZ (w_125 hw)) (by decide) (backOf (W := 0) (rm_PagedBytes_writeNumber_11 l Z a0 hw [] a7 a22 a23 k24 T34.heap n0 fc38 f34_1 pr29 f34_0 pr31 pr32) hZ (w_127 hw) (w_19 hw) (by decide) (by decide)) q37a q37c (g := (mkF m 340 #[.val (.ref a1), .val (.int 0), .val (.long q2), .second, .val (.ref a3), .val (.long 0), .second, .val (.int 0), .val (.long 0), .second] [(.long 0), (.ref a7)])) rfl (by rw [hml]; rfl) (Steps.refl _) (argsL := [(.long 0)]) (rest := []) (lenOf pd_J_r_V rfl) rfl (by show 2 * 0 + _ ≤ _; exact Nat.le_of_eq rfl) (hb hby d_prog_52_method_3_340) (fun _ _ => ⟨rfl, e36, (by decide : 0 + 0 ≤ _), (by decide : 0 + 0 ≤ _)⟩)
  dsimp only [Pt.U, Pt.locs, Pt.cells, Pt.slots] at X37 l37 y37 z37 st37 hQ37
  subst l37 y37 z37
  obtain ⟨hv37, N37q, K37, f37_0, f37_1⟩ := hQ37
  subst hv37
  have N37 := Fr.app N34 N37q
  replace k : Goes p e below s₁ G0 T37 (mkF m 343 #[.val (.ref a1), .val (.int 0), .val (.long q2), .second, .val (.ref a3), .val (.long 0), .second, .val (.int 0), .val (.long 0), .second] []) := fun t q => k t (st37.trans q)
  replace k := Fw.aloadN k X37 hx (hb hby d_prog_52_method_3_343) rfl rfl (pc' := 344) rfl
  replace k := Fw.aload k X37 hx (hb hby d_prog_52_method_3_344) rfl rfl (pc' := 346) rfl
  have fc40 := ((fc31.keep K34 (ninS pr41 (ninS pr42 nin0))).keep K37 (ninS pr41 (ninS pr42 nin0)))
  have fc41 := (fc38.keep K37 (allS pr32 (allS pr29 all0)))
  obtain ⟨cq39, kq39, q39a, q39b, q39c⟩ := isOf hZ rfl fc40.exa
  obtain ⟨_, _, ⟨T39, L39, kz39, nz39⟩, -, X39, ⟨Lc39, hQ39, l39, y39, z39⟩, st39⟩ := X37.virtualBack hx (y := (⟨"com/example/kleinmaschine/kleinmaschine/Position", "line", "()J"⟩ : MethodName)) (z := (⟨"com/example/kleinmaschine/kleinmaschine/Position", "line", "()J"⟩ : MethodName)) hown (mvT hZ (w_118 hw)) (mvT hZ (w_119 hw)) (notFace_of_selects (args := #[]) (mvT hZ (w_121 hw))) (mvT hZ (w_121 hw)) (mvT hZ (w_120 hw)) (by decide) (backOf (W := 1) (rm_Position_line_1 l Z a0 hw [] a3 T37.heap n0 fc41 fc40) hZ (w_122 hw) (w_69 hw) (by decide) (by decide)) q39a q39c (g := (mkF m 346 #[.val (.ref a1), .val (.int 0), .val (.long q2), .second, .val (.ref a3), .val (.long 0), .second, .val (.int 0), .val (.long 0), .second] [(.ref a3), (.ref a1)])) rfl (by rw [hml]; rfl) (Steps.refl _) (argsL := []) (rest := [(.ref a1)]) (lenOf pd__r_J rfl) rfl (by show 2 * 0 + _ ≤ _; exact Nat.le_of_eq rfl) (hb hby d_prog_52_method_3_346) (fun _ _ => ⟨rfl, rfl, (by decide : 0 + 0 ≤ _), (by decide : 0 + 0 ≤ _)⟩)
  dsimp only [Pt.U, Pt.locs, Pt.cells, Pt.slots] at X39 l39 y39 z39 st39 hQ39
  subst l39 y39 z39
  obtain ⟨hv39, N39q, e39⟩ := hQ39
  subst hv39
  have N39 := Fr.app N37 N39q
  replace k : Goes p e below s₁ G0 T39 (mkF m 349 #[.val (.ref a1), .val (.int 0), .val (.long q2), .second, .val (.ref a3), .val (.long 0), .second, .val (.int 0), .val (.long 0), .second] [(.long 1), (.ref a1)]) := fun t q => k t (st39.trans q)
  have fc42 := (fc35.keep K37 (ninS pr39 (ninS pr40 nin0)))
  obtain ⟨T43, h43, X43, e43, W43, st43⟩ := putF X39 hx hZ hown (host := "") (Or.inl (w_114 hw)) Via.refl e39 (Ob.at fc42 9 rfl) fc42.exa (Or.inl (w_115 hw)) (w_1 hw) (ty := .long) (by decide +kernel) rfl rfl (g := (mkF m 349 #[.val (.ref a1), .val (.int 0), .val (.long q2), .second, .val (.ref a3), .val (.long 0), .second, .val (.int 0), .val (.long 0), .second] [(.long 1), (.ref a1)])) rfl rfl (hb hby d_prog_52_method_3_349)
  have N43 := Fr.snoc X43 N39 pr43
  have O43 : Ob Z h43 a1 "com/example/kleinmaschine/kleinmaschine/Statements" [("com/example/kleinmaschine/kleinmaschine/Statements", "headPages", "[[I", (.ref a4)), ("com/example/kleinmaschine/kleinmaschine/Statements", "upperPages", "[[I", (.ref a5)), ("com/example/kleinmaschine/kleinmaschine/Statements", "lowerPages", "[[I", (.ref a6)), ("com/example/kleinmaschine/kleinmaschine/Statements", "records", "Lcom/example/kleinmaschine/kleinmaschine/PagedBytes;", (.ref a7)), ("com/example/kleinmaschine/kleinmaschine/Statements", "checkpointPlaces", "[J", (.ref a8)), ("com/example/kleinmaschine/kleinmaschine/Statements", "checkpointLines", "[J", (.ref a9)), ("com/example/kleinmaschine/kleinmaschine/Statements", "checkpointColumns", "[J", (.ref a10)), ("com/example/kleinmaschine/kleinmaschine/Statements", "heads", "[I", .null), ("com/example/kleinmaschine/kleinmaschine/Statements", "size", "I", (.int 1)), ("com/example/kleinmaschine/kleinmaschine/Statements", "lastLine", "J", (.long 1)), ("com/example/kleinmaschine/kleinmaschine/Statements", "lastColumn", "J", (.long 1)), ("com/example/kleinmaschine/kleinmaschine/Statements", "uppers", "[I", .null), ("com/example/kleinmaschine/kleinmaschine/Statements", "lowers", "[I", .null)] := Ob.put fc42 (lay_Statements hw) 9 rfl W43
  replace k : Goes p e below s₁ G0 T43 (mkF m 352 #[.val (.ref a1), .val (.int 0), .val (.long q2), .second, .val (.ref a3), .val (.long 0), .second, .val (.int 0), .val (.long 0), .second] []) := fun t q => k t (st43 _ q)
  replace k := Fw.aloadN k X43 hx (hb hby d_prog_52_method_3_352) rfl rfl (pc' := 353) rfl
  replace k := Fw.aload k X43 hx (hb hby d_prog_52_method_3_353) rfl rfl (pc' := 355) rfl
  have fc45 := (fc40.other W43 pr44)
  have fc46 := (fc41.wr W43 pr43)
  obtain ⟨cq44, kq44, q44a, q44b, q44c⟩ := isOf hZ e43 fc45.exa
  obtain ⟨_, _, ⟨T44, L44, kz44, nz44⟩, -, X44, ⟨Lc44, hQ44, l44, y44, z44⟩, st44⟩ := X43.virtualBack hx (y := (⟨"com/example/kleinmaschine/kleinmaschine/Position", "column", "()J"⟩ : MethodName)) (z := (⟨"com/example/kleinmaschine/kleinmaschine/Position", "column", "()J"⟩ : MethodName)) hown (mvT hZ (w_184 hw)) (mvT hZ (w_185 hw)) (notFace_of_selects (args := #[]) (mvT hZ (w_187 hw))) (mvT hZ (w_187 hw)) (mvT hZ (w_186 hw)) (by decide) (backOf (W := 1) (rm_Position_column_1 l Z a0 hw [] a3 h43 n0 fc46 fc45) hZ (w_188 hw) (w_69 hw) (by decide) (by decide)) q44a q44c (g := (mkF m 355 #[.val (.ref a1), .val (.int 0), .val (.long q2), .second, .val (.ref a3), .val (.long 0), .second, .val (.int 0), .val (.long 0), .second] [(.ref a3), (.ref a1)])) rfl (by rw [hml]; rfl) (Steps.refl _) (argsL := []) (rest := [(.ref a1)]) (lenOf pd__r_J rfl) rfl (by show 2 * 0 + _ ≤ _; exact Nat.le_of_eq rfl) (hb hby d_prog_52_method_3_355) (fun _ _ => ⟨rfl, e43, (by decide : 0 + 0 ≤ _), (by decide : 0 + 0 ≤ _)⟩)
  dsimp only [Pt.U, Pt.locs, Pt.cells, Pt.slots] at X44 l44 y44 z44 st44 hQ44
  subst l44 y44 z44
  obtain ⟨hv44, N44q, e44⟩ := hQ44
  subst hv44
  have N44 := Fr.app N43 N44q
  replace k : Goes p e below s₁ G0 T44 (mkF m 358 #[.val (.ref a1), .val (.int 0), .val (.long q2), .second, .val (.ref a3), .val (.long 0), .second, .val (.int 0), .val (.long 0), .second] [(.long 1), (.ref a1)]) := fun t q => k t (st44.trans q)
  obtain ⟨T47, h47, X47, e47, W47, st47⟩ := putF X44 hx hZ hown (host := "") (Or.inl (w_116 hw)) Via.refl e44 (Ob.at O43 10 rfl) O43.exa (Or.inl (w_117 hw)) (w_1 hw) (ty := .long) (by decide +kernel) rfl rfl (g := (mkF m 358 #[.val (.ref a1), .val (.int 0), .val (.long q2), .second, .val (.ref a3), .val (.long 0), .second, .val (.int 0), .val (.long 0), .second] [(.long 1), (.ref a1)])) rfl rfl (hb hby d_prog_52_method_3_358)
  have N47 := Fr.snoc X47 N44 pr43
  have O47 : Ob Z h47 a1 "com/example/kleinmaschine/kleinmaschine/Statements" [("com/example/kleinmaschine/kleinmaschine/Statements", "headPages", "[[I", (.ref a4)), ("com/example/kleinmaschine/kleinmaschine/Statements", "upperPages", "[[I", (.ref a5)), ("com/example/kleinmaschine/kleinmaschine/Statements", "lowerPages", "[[I", (.ref a6)), ("com/example/kleinmaschine/kleinmaschine/Statements", "records", "Lcom/example/kleinmaschine/kleinmaschine/PagedBytes;", (.ref a7)), ("com/example/kleinmaschine/kleinmaschine/Statements", "checkpointPlaces", "[J", (.ref a8)), ("com/example/kleinmaschine/kleinmaschine/Statements", "checkpointLines", "[J", (.ref a9)), ("com/example/kleinmaschine/kleinmaschine/Statements", "checkpointColumns", "[J", (.ref a10)), ("com/example/kleinmaschine/kleinmaschine/Statements", "heads", "[I", .null), ("com/example/kleinmaschine/kleinmaschine/Statements", "size", "I", (.int 1)), ("com/example/kleinmaschine/kleinmaschine/Statements", "lastLine", "J", (.long 1)), ("com/example/kleinmaschine/kleinmaschine/Statements", "lastColumn", "J", (.long 1)), ("com/example/kleinmaschine/kleinmaschine/Statements", "uppers", "[I", .null), ("com/example/kleinmaschine/kleinmaschine/Statements", "lowers", "[I", .null)] := Ob.put O43 (lay_Statements hw) 10 rfl W47
  replace k : Goes p e below s₁ G0 T47 (mkF m 361 #[.val (.ref a1), .val (.int 0), .val (.long q2), .second, .val (.ref a3), .val (.long 0), .second, .val (.int 0), .val (.long 0), .second] []) := fun t q => k t (st47 _ q)
  replace k := Fw.aloadN k X47 hx (hb hby d_prog_52_method_3_361) rfl rfl (pc' := 362) rfl
  replace k := Fw.dup k X47 hx (hb hby d_prog_52_method_3_362) rfl (pc' := 363) rfl
  obtain ⟨T48, X48, e48, st48⟩ := getF X47 hx hZ hown (host := "") (Or.inl (w_94 hw)) Via.refl e47 (Ob.at O47 8 rfl) (g := (mkF m 363 #[.val (.ref a1), .val (.int 0), .val (.long q2), .second, .val (.ref a3), .val (.long 0), .second, .val (.int 0), .val (.long 0), .second] [(.ref a1), (.ref a1)])) rfl rfl (hb hby d_prog_52_method_3_363)
  replace k : Goes p e below s₁ G0 T48 (mkF m 366 #[.val (.ref a1), .val (.int 0), .val (.long q2), .second, .val (.ref a3), .val (.long 0), .second, .val (.int 0), .val (.long 0), .second] [(.int 1), (.ref a1)]) := fun t q => k t (st48 _ q)
  replace k := Fw.dupX1 k X48 hx (hb hby d_prog_52_method_3_366) rfl rfl (pc' := 367) rfl
  replace k := Fw.iconst k X48 hx (hb hby d_prog_52_method_3_367) (z := (1 : Int32)) (by decide) (pc' := 368) rfl
  replace k := Fw.iadd k X48 hx (hb hby d_prog_52_method_3_368) (z := (2 : Int32)) (by decide) (pc' := 369) rfl
  obtain ⟨T49, h49, X49, e49, W49, st49⟩ := putF X48 hx hZ hown (host := "") (Or.inl (w_94 hw)) Via.refl e48 (Ob.at O47 8 rfl) O47.exa (Or.inl (w_95 hw)) (w_1 hw) (ty := .int) (by decide +kernel) rfl rfl (g := (mkF m 369 #[.val (.ref a1), .val (.int 0), .val (.long q2), .second, .val (.ref a3), .val (.long 0), .second, .val (.int 0), .val (.long 0), .second] [(.int 2), (.ref a1), (.int 1)])) rfl rfl (hb hby d_prog_52_method_3_369)
  have N49 := Fr.snoc X49 N47 pr43
  have O49 : Ob Z h49 a1 "com/example/kleinmaschine/kleinmaschine/Statements" [("com/example/kleinmaschine/kleinmaschine/Statements", "headPages", "[[I", (.ref a4)), ("com/example/kleinmaschine/kleinmaschine/Statements", "upperPages", "[[I", (.ref a5)), ("com/example/kleinmaschine/kleinmaschine/Statements", "lowerPages", "[[I", (.ref a6)), ("com/example/kleinmaschine/kleinmaschine/Statements", "records", "Lcom/example/kleinmaschine/kleinmaschine/PagedBytes;", (.ref a7)), ("com/example/kleinmaschine/kleinmaschine/Statements", "checkpointPlaces", "[J", (.ref a8)), ("com/example/kleinmaschine/kleinmaschine/Statements", "checkpointLines", "[J", (.ref a9)), ("com/example/kleinmaschine/kleinmaschine/Statements", "checkpointColumns", "[J", (.ref a10)), ("com/example/kleinmaschine/kleinmaschine/Statements", "heads", "[I", .null), ("com/example/kleinmaschine/kleinmaschine/Statements", "size", "I", (.int 2)), ("com/example/kleinmaschine/kleinmaschine/Statements", "lastLine", "J", (.long 1)), ("com/example/kleinmaschine/kleinmaschine/Statements", "lastColumn", "J", (.long 1)), ("com/example/kleinmaschine/kleinmaschine/Statements", "uppers", "[I", .null), ("com/example/kleinmaschine/kleinmaschine/Statements", "lowers", "[I", .null)] := Ob.put O47 (lay_Statements hw) 8 rfl W49
  replace k : Goes p e below s₁ G0 T49 (mkF m 372 #[.val (.ref a1), .val (.int 0), .val (.long q2), .second, .val (.ref a3), .val (.long 0), .second, .val (.int 0), .val (.long 0), .second] [(.int 1)]) := fun t q => k t (st49 _ q)
  obtain ⟨fs, hr, hrun, hended, hW, hsame⟩ := X49.leave (v := some (.int 1)) (fun h => by rw [Bd.returns] at h; cases h)
  refine ⟨_, _, pre0 _ (k _ ?_), hrun, hended, _, _, rfl, ?_, ⟨_, rfl⟩, hW, hsame.mono (by decide) (by decide)⟩
  · exact retI X49 hx Bd.returns (hb hby d_prog_52_method_3_372) hr
  · show Q_Statements_add_2 Z a1 q2 a3 a4 a5 a6 a7 a8 a9 a10 k11 a12 k13 k14 a15 k16 p17 k18 a19 k20 p21 a22 a23 k24 h0 n0 _ T49.heap _
    rw [e49]
    exact ⟨rfl, N49, (((((((((Keep.refl h0 [a19, a7, a15, a23, a1, a12]).wr W9 (Or.inl (List.mem_of_getElem? (i := 5) rfl))).trans K12 (allS (Or.inl (List.mem_of_getElem? (i := 0) rfl)) (allS (Or.inl (List.mem_of_getElem? (i := 2) rfl)) all0))).trans K25 (allS (Or.inl (List.mem_of_getElem? (i := 3) rfl)) (allS (Or.inl (List.mem_of_getElem? (i := 1) rfl)) all0))).trans K34 (allS (Or.inl (List.mem_of_getElem? (i := 3) rfl)) (allS (Or.inl (List.mem_of_getElem? (i := 1) rfl)) all0))).trans K37 (allS (Or.inl (List.mem_of_getElem? (i := 3) rfl)) (allS (Or.inl (List.mem_of_getElem? (i := 1) rfl)) all0))).wr W43 (Or.inl (List.mem_of_getElem? (i := 4) rfl))).wr W47 (Or.inl (List.mem_of_getElem? (i := 4) rfl))).wr W49 (Or.inl (List.mem_of_getElem? (i := 4) rfl))), ((((((f12_0.keep K25 (ninS (Ne.symm pr37) (ninS (Ne.symm pr34) nin0))).keep K34 (ninS (Ne.symm pr37) (ninS (Ne.symm pr34) nin0))).keep K37 (ninS (Ne.symm pr37) (ninS (Ne.symm pr34) nin0))).other W43 (Ne.symm pr23)).other W47 (Ne.symm pr23)).other W49 (Ne.symm pr23)), (((f37_1.other W43 (Ne.symm pr40)).other W47 (Ne.symm pr40)).other W49 (Ne.symm pr40)), ((((((f12_1.keep K25 (ninS (Ne.symm pr38) (ninS (Ne.symm pr35) nin0))).keep K34 (ninS (Ne.symm pr38) (ninS (Ne.symm pr35) nin0))).keep K37 (ninS (Ne.symm pr38) (ninS (Ne.symm pr35) nin0))).other W43 (Ne.symm pr12)).other W47 (Ne.symm pr12)).other W49 (Ne.symm pr12)), (((f37_0.other W43 (Ne.symm pr39)).other W47 (Ne.symm pr39)).other W49 (Ne.symm pr39)), O49, (((((((V9.keep K12 (ninS (Ne.symm pr22) (ninS (Ne.symm pr20) nin0))).keep K25 (ninS (Ne.symm pr36) (ninS (Ne.symm pr33) nin0))).keep K34 (ninS (Ne.symm pr36) (ninS (Ne.symm pr33) nin0))).keep K37 (ninS (Ne.symm pr36) (ninS (Ne.symm pr33) nin0))).other W43 (Ne.symm pr7)).other W47 (Ne.symm pr7)).other W49 (Ne.symm pr7))⟩
theorem d_prog_52_method_6_0 : decode prog_52_method_6_code 0 = .ok (.aload_n 0, 1) := by decide +kernel
theorem d_prog_52_method_6_1 : decode prog_52_method_6_code 1 = .ok (.invokevirtual 49, 3) := by decide +kernel
def Q_Statements_checkAdding_3 (Z : State) (a1 : Addr) (a2 : Addr) (a3 : Addr) (a4 : Addr) (a5 : Addr) (a6 : Addr) (a7 : Addr) (a8 : Addr) (h0 : Heap) (n0 : Nat) (v : Option Value) (h : Heap) (L : List Loc) : Prop := v = none ∧ Fr n0 L ∧ h = h0
set_option maxRecDepth 65536 in
set_option maxHeartbeats 40000000 in
theorem rm_Statements_checkAdding_3 (l : Launch) (Z : State) (a0 : Array Value) (hw : ∀ d ∈ tables_1, d.before a0 Z = true) (ws : List Jvm.Cond) (a1 : Addr) (a2 : Addr) (a3 : Addr) (a4 : Addr) (a5 : Addr) (a6 : Addr) (a7 : Addr) (a8 : Addr) (h0 : Heap) (n0 : Nat) (O0 : Old Z n0 h0) (pr1 : Ob Z h0 a1 "com/example/kleinmaschine/kleinmaschine/Statements" [("com/example/kleinmaschine/kleinmaschine/Statements", "headPages", "[[I", (.ref a2)), ("com/example/kleinmaschine/kleinmaschine/Statements", "upperPages", "[[I", (.ref a3)), ("com/example/kleinmaschine/kleinmaschine/Statements", "lowerPages", "[[I", (.ref a4)), ("com/example/kleinmaschine/kleinmaschine/Statements", "records", "Lcom/example/kleinmaschine/kleinmaschine/PagedBytes;", (.ref a5)), ("com/example/kleinmaschine/kleinmaschine/Statements", "checkpointPlaces", "[J", (.ref a6)), ("com/example/kleinmaschine/kleinmaschine/Statements", "checkpointLines", "[J", (.ref a7)), ("com/example/kleinmaschine/kleinmaschine/Statements", "checkpointColumns", "[J", (.ref a8)), ("com/example/kleinmaschine/kleinmaschine/Statements", "heads", "[I", .null), ("com/example/kleinmaschine/kleinmaschine/Statements", "size", "I", (.int 2)), ("com/example/kleinmaschine/kleinmaschine/Statements", "lastLine", "J", (.long 1)), ("com/example/kleinmaschine/kleinmaschine/Statements", "lastColumn", "J", (.long 1)), ("com/example/kleinmaschine/kleinmaschine/Statements", "uppers", "[I", .null), ("com/example/kleinmaschine/kleinmaschine/Statements", "lowers", "[I", .null)]) :
    MetFree l (⟨"com/example/kleinmaschine/kleinmaschine/Statements", "checkAdding", "()V"⟩ : MethodName) (head1 (Jvm.Cond.code (⟨"com/example/kleinmaschine/kleinmaschine/Statements", "checkAdding", "()V"⟩ : MethodName) prog_52_method_15_code 1 none :: ws) ({ frames := 0, cells := 0, slots := 0, locals := 0 } : Room)) (fun a U => a = #[(.ref a1)] ∧ Z.Warmed39 U.vm ∧ U.heap = h0) (fun _ _ _ _ _ => True) (fun _ U o U' => ∃ v L, o = .returned v ∧ Q_Statements_checkAdding_3 Z a1 a2 a3 a4 a5 a6 a7 a8 h0 n0 v U'.heap L ∧ FrameEnd U o U' L ({ frames := 0, cells := 0, slots := 0, locals := 0 } : Room).cells ({ frames := 0, cells := 0, slots := 0, locals := 0 } : Room).slots) := by
  refine MetFree.of_bodySF (plainFor_of_name pn_Statements) hisR ?_
  intro p e s m args below meth c s₁ Bd hml0 hP hK
  obtain ⟨rfl, hZ, hh⟩ := hP
  have hx := Bd.exec
  have hby := Bd.bytes
  have hml : c.maxLocals = 1 := hml0
  have hown : s.vm.findClass "com/example/kleinmaschine/kleinmaschine/Statements" = some m.cls := findClass_of_methodNamed Bd.named
  have hnm := (name_of_methodNamed Bd.named Bd.method).1
  have X0 : Stand p l e ({ frames := 0, cells := 0, slots := 0, locals := 0 } : Room) s m #[(.ref a1)] below meth c s₁ [] 0 0 := Stand.of_body Bd
  have e0 : s₁.heap = h0 := by rw [← hh, Bd.state]; rfl
  have N0 := Fr.nil n0
  obtain ⟨G0, hG0⟩ : ∃ z, z = (mkF m 0 #[.val (.ref a1)] []) := ⟨_, rfl⟩
  have pre0 : ∀ t, Steps p.tables e below (s₁.setTop G0) t → Steps p.tables e below (s₁.setTop (entryFrame m #[(.ref a1)] 1)) t := fun t k => castTop (ef_R_1 m a1) (hG0 ▸ k)
  have k : Goes p e below s₁ G0 s₁ (mkF m 0 #[.val (.ref a1)] []) := fun t q => hG0 ▸ q
  replace k := Fw.aloadN k X0 hx (hb hby d_prog_52_method_15_0) rfl rfl (pc' := 1) rfl
  obtain ⟨T1, X1, e1, st1⟩ := getF X0 hx hZ hown (host := "") (Or.inl (w_92 hw)) Via.refl e0 (Ob.at pr1 7 rfl) (g := (mkF m 1 #[.val (.ref a1)] [(.ref a1)])) rfl rfl (hb hby d_prog_52_method_15_1)
  replace k : Goes p e below s₁ G0 T1 (mkF m 4 #[.val (.ref a1)] [.null]) := fun t q => k t (st1 _ q)
  replace k := Fw.ifnullYes k X1 hx (hb hby d_prog_52_method_15_4) (by decide) (pc' := 17) rfl
  obtain ⟨fs, hr, hrun, hended, hW, hsame⟩ := X1.leave (v := none) (fun _ => rfl)
  refine ⟨_, _, pre0 _ (k _ ?_), hrun, hended, _, _, rfl, ?_, ⟨_, rfl⟩, hW, hsame.mono (by decide) (by decide)⟩
  · exact X1.returnOut hx Bd.returns (hb hby d_prog_52_method_15_17) hr
  · show Q_Statements_checkAdding_3 Z a1 a2 a3 a4 a5 a6 a7 a8 h0 n0 _ T1.heap _
    rw [e1]
    exact ⟨rfl, N0, rfl⟩
theorem d_prog_52_method_6_4 : decode prog_52_method_6_code 4 = .ok (.aload_n 0, 1) := by decide +kernel
theorem d_prog_52_method_6_5 : decode prog_52_method_6_code 5 = .ok (.aload_n 0, 1) := by decide +kernel
theorem d_prog_52_method_6_6 : decode prog_52_method_6_code 6 = .ok (.aload_n 0, 1) := by decide +kernel
theorem d_prog_52_method_6_7 : decode prog_52_method_6_code 7 = .ok (.getfield 11, 3) := by decide +kernel
theorem d_prog_52_method_6_10 : decode prog_52_method_6_code 10 = .ok (.invokevirtual 113, 3) := by decide +kernel
theorem d_prog_52_method_7_0 : decode prog_52_method_7_code 0 = .ok (.aload_n 0, 1) := by decide +kernel
theorem d_prog_52_method_7_1 : decode prog_52_method_7_code 1 = .ok (.getfield 52, 3) := by decide +kernel
theorem d_prog_52_method_7_4 : decode prog_52_method_7_code 4 = .ok (.newarray .int, 2) := by decide +kernel
theorem d_prog_52_method_7_6 : decode prog_52_method_7_code 6 = .ok (.astore_n 2, 1) := by decide +kernel
theorem d_prog_52_method_7_7 : decode prog_52_method_7_code 7 = .ok (.iconst 0, 1) := by decide +kernel
theorem d_prog_52_method_7_8 : decode prog_52_method_7_code 8 = .ok (.istore_n 3, 1) := by decide +kernel
theorem d_prog_52_method_7_9 : decode prog_52_method_7_code 9 = .ok (.iload_n 3, 1) := by decide +kernel
theorem d_prog_52_method_7_10 : decode prog_52_method_7_code 10 = .ok (.getstatic 63, 3) := by decide +kernel
theorem d_prog_52_method_7_13 : decode prog_52_method_7_code 13 = .ok (.ishl, 1) := by decide +kernel
theorem d_prog_52_method_7_14 : decode prog_52_method_7_code 14 = .ok (.aload_n 0, 1) := by decide +kernel
theorem d_prog_52_method_7_15 : decode prog_52_method_7_code 15 = .ok (.getfield 52, 3) := by decide +kernel
theorem d_prog_52_method_7_18 : decode prog_52_method_7_code 18 = .ok (.if_icmp .ge 43, 3) := by decide +kernel
theorem d_prog_52_method_7_21 : decode prog_52_method_7_code 21 = .ok (.iload_n 3, 1) := by decide +kernel
theorem d_prog_52_method_7_22 : decode prog_52_method_7_code 22 = .ok (.getstatic 63, 3) := by decide +kernel
theorem d_prog_52_method_7_25 : decode prog_52_method_7_code 25 = .ok (.ishl, 1) := by decide +kernel
theorem d_prog_52_method_7_26 : decode prog_52_method_7_code 26 = .ok (.istore 4, 2) := by decide +kernel
theorem d_prog_52_method_7_28 : decode prog_52_method_7_code 28 = .ok (.aload_n 1, 1) := by decide +kernel
theorem d_prog_52_method_7_29 : decode prog_52_method_7_code 29 = .ok (.iload_n 3, 1) := by decide +kernel
theorem d_prog_52_method_7_30 : decode prog_52_method_7_code 30 = .ok (.aaload, 1) := by decide +kernel
theorem d_prog_52_method_7_31 : decode prog_52_method_7_code 31 = .ok (.iconst 0, 1) := by decide +kernel
theorem d_prog_52_method_7_32 : decode prog_52_method_7_code 32 = .ok (.aload_n 2, 1) := by decide +kernel
theorem d_prog_52_method_7_33 : decode prog_52_method_7_code 33 = .ok (.iload 4, 2) := by decide +kernel
theorem d_prog_52_method_7_35 : decode prog_52_method_7_code 35 = .ok (.sipush 16384, 3) := by decide +kernel
theorem d_prog_52_method_7_38 : decode prog_52_method_7_code 38 = .ok (.aload_n 0, 1) := by decide +kernel
theorem d_prog_52_method_7_39 : decode prog_52_method_7_code 39 = .ok (.getfield 52, 3) := by decide +kernel
theorem d_prog_52_method_7_42 : decode prog_52_method_7_code 42 = .ok (.iload 4, 2) := by decide +kernel
theorem d_prog_52_method_7_44 : decode prog_52_method_7_code 44 = .ok (.isub, 1) := by decide +kernel
theorem d_prog_52_method_7_45 : decode prog_52_method_7_code 45 = .ok (.invokestatic 126, 3) := by decide +kernel
theorem d_jdk_29_method_69_0 : decode jdk_29_method_69_code 0 = .ok (.iload_n 0, 1) := by decide +kernel
theorem d_jdk_29_method_69_1 : decode jdk_29_method_69_code 1 = .ok (.iload_n 1, 1) := by decide +kernel
theorem d_jdk_29_method_69_2 : decode jdk_29_method_69_code 2 = .ok (.if_icmp .gt 7, 3) := by decide +kernel
theorem d_jdk_29_method_69_9 : decode jdk_29_method_69_code 9 = .ok (.iload_n 1, 1) := by decide +kernel
theorem d_jdk_29_method_69_10 : decode jdk_29_method_69_code 10 = .ok (.ireturn, 1) := by decide +kernel
def Q_Math_min_1 (Z : State)  (h0 : Heap) (n0 : Nat) (v : Option Value) (h : Heap) (L : List Loc) : Prop := v = some (.int 2) ∧ Fr n0 L ∧ h = h0
set_option maxRecDepth 65536 in
set_option maxHeartbeats 40000000 in
theorem rm_Math_min_1 (l : Launch) (Z : State) (a0 : Array Value) (hw : ∀ d ∈ tables_1, d.before a0 Z = true) (ws : List Jvm.Cond)  (h0 : Heap) (n0 : Nat) (O0 : Old Z n0 h0) :
    MetFree l (⟨"java/lang/Math", "min", "(II)I"⟩ : MethodName) (head1 (Jvm.Cond.code (⟨"java/lang/Math", "min", "(II)I"⟩ : MethodName) jdk_29_method_69_code 2 (some .int) :: ws) ({ frames := 0, cells := 0, slots := 0, locals := 0 } : Room)) (fun a U => a = #[(.int 16384), (.int 2)] ∧ Z.Warmed39 U.vm ∧ U.heap = h0) (fun _ _ _ _ _ => True) (fun _ U o U' => ∃ v L, o = .returned v ∧ Q_Math_min_1 Z  h0 n0 v U'.heap L ∧ FrameEnd U o U' L ({ frames := 0, cells := 0, slots := 0, locals := 0 } : Room).cells ({ frames := 0, cells := 0, slots := 0, locals := 0 } : Room).slots) := by
  refine MetFree.of_bodySF (Jvm.Free.JP.mathPlain rfl (by decide +kernel)) hisR ?_
  intro p e s m args below meth c s₁ Bd hml0 hP hK
  obtain ⟨rfl, hZ, hh⟩ := hP
  have hx := Bd.exec
  have hby := Bd.bytes
  have hml : c.maxLocals = 2 := hml0
  have hown : s.vm.findClass "java/lang/Math" = some m.cls := findClass_of_methodNamed Bd.named
  have hnm := (name_of_methodNamed Bd.named Bd.method).1
  have X0 : Stand p l e ({ frames := 0, cells := 0, slots := 0, locals := 0 } : Room) s m #[(.int 16384), (.int 2)] below meth c s₁ [] 0 0 := Stand.of_body Bd
  have e0 : s₁.heap = h0 := by rw [← hh, Bd.state]; rfl
  have N0 := Fr.nil n0
  obtain ⟨G0, hG0⟩ : ∃ z, z = (mkF m 0 #[.val (.int 16384), .val (.int 2)] []) := ⟨_, rfl⟩
  have pre0 : ∀ t, Steps p.tables e below (s₁.setTop G0) t → Steps p.tables e below (s₁.setTop (entryFrame m #[(.int 16384), (.int 2)] 2)) t := fun t k => castTop (ef_II_2 m ((16384 : Int32)) ((2 : Int32))) (hG0 ▸ k)
  have k : Goes p e below s₁ G0 s₁ (mkF m 0 #[.val (.int 16384), .val (.int 2)] []) := fun t q => hG0 ▸ q
  replace k := Fw.iloadN k X0 hx (hb hby d_jdk_29_method_69_0) rfl (pc' := 1) rfl
  replace k := Fw.iloadN k X0 hx (hb hby d_jdk_29_method_69_1) rfl (pc' := 2) rfl
  replace k := Fw.icmpYes k X0 hx (hb hby d_jdk_29_method_69_2) (tlt (show (2 : Int32) < (16384 : Int32) from by decide)).2.2.1 (by decide) (pc' := 9) rfl
  replace k := Fw.iloadN k X0 hx (hb hby d_jdk_29_method_69_9) rfl (pc' := 10) rfl
  obtain ⟨fs, hr, hrun, hended, hW, hsame⟩ := X0.leave (v := some (.int 2)) (fun h => by rw [Bd.returns] at h; cases h)
  refine ⟨_, _, pre0 _ (k _ ?_), hrun, hended, _, _, rfl, ?_, ⟨_, rfl⟩, hW, hsame.mono (by decide) (by decide)⟩
  · exact retI X0 hx Bd.returns (hb hby d_jdk_29_method_69_10) hr
  · show Q_Math_min_1 Z  h0 n0 _ s₁.heap _
    rw [e0]
    exact ⟨rfl, N0, rfl⟩
theorem w_198 {Z : State} {a0 : Array Value} (hw : ∀ d ∈ tables_1, d.before a0 Z = true) : (Jvm.Cond.methodLink "com/example/kleinmaschine/kleinmaschine/Statements" (126 : Nat) ({ cls := "java/lang/Math", name := "min", desc := "(II)I" } : Jvm.MethodName)).before a0 Z = true := hw _ (List.mem_of_getElem? (i := 198) rfl)
theorem w_200 {Z : State} {a0 : Array Value} (hw : ∀ d ∈ tables_1, d.before a0 Z = true) : (Jvm.Cond.code ({ cls := "java/lang/Math", name := "min", desc := "(II)I" } : Jvm.MethodName) jdk_29_method_69_code (2 : Nat) (Option.some Jvm.ClassFile.FieldType.int)).before a0 Z = true := hw _ (List.mem_of_getElem? (i := 200) rfl)
theorem w_199 {Z : State} {a0 : Array Value} (hw : ∀ d ∈ tables_1, d.before a0 Z = true) : (Jvm.Cond.static ({ cls := "java/lang/Math", name := "min", desc := "(II)I" } : Jvm.MethodName)).before a0 Z = true := hw _ (List.mem_of_getElem? (i := 199) rfl)
theorem d_prog_52_method_7_48 : decode prog_52_method_7_code 48 = .ok (.invokestatic 131, 3) := by decide +kernel
theorem w_201 {Z : State} {a0 : Array Value} (hw : ∀ d ∈ tables_1, d.before a0 Z = true) : (Jvm.Cond.methodLink "com/example/kleinmaschine/kleinmaschine/Statements" (131 : Nat) ({ cls := "java/lang/System", name := "arraycopy", desc := "(Ljava/lang/Object;ILjava/lang/Object;II)V" } : Jvm.MethodName)).before a0 Z = true := hw _ (List.mem_of_getElem? (i := 201) rfl)
theorem w_204 {Z : State} {a0 : Array Value} (hw : ∀ d ∈ tables_1, d.before a0 Z = true) : (Jvm.Cond.native ({ cls := "java/lang/System", name := "arraycopy", desc := "(Ljava/lang/Object;ILjava/lang/Object;II)V" } : Jvm.MethodName)).before a0 Z = true := hw _ (List.mem_of_getElem? (i := 204) rfl)
theorem w_202 {Z : State} {a0 : Array Value} (hw : ∀ d ∈ tables_1, d.before a0 Z = true) : (Jvm.Cond.static ({ cls := "java/lang/System", name := "arraycopy", desc := "(Ljava/lang/Object;ILjava/lang/Object;II)V" } : Jvm.MethodName)).before a0 Z = true := hw _ (List.mem_of_getElem? (i := 202) rfl)
theorem w_203 {Z : State} {a0 : Array Value} (hw : ∀ d ∈ tables_1, d.before a0 Z = true) : (Jvm.Cond.initialized "java/lang/System").before a0 Z = true := hw _ (List.mem_of_getElem? (i := 203) rfl)
theorem d_prog_52_method_7_51 : decode prog_52_method_7_code 51 = .ok (.aload_n 1, 1) := by decide +kernel
theorem d_prog_52_method_7_52 : decode prog_52_method_7_code 52 = .ok (.iload_n 3, 1) := by decide +kernel
theorem d_prog_52_method_7_53 : decode prog_52_method_7_code 53 = .ok (.aconst_null, 1) := by decide +kernel
theorem d_prog_52_method_7_54 : decode prog_52_method_7_code 54 = .ok (.aastore, 1) := by decide +kernel
theorem d_prog_52_method_7_55 : decode prog_52_method_7_code 55 = .ok (.iinc 3 1, 3) := by decide +kernel
theorem d_prog_52_method_7_58 : decode prog_52_method_7_code 58 = .ok (.goto (-49), 3) := by decide +kernel
theorem d_prog_52_method_7_61 : decode prog_52_method_7_code 61 = .ok (.aload_n 2, 1) := by decide +kernel
theorem d_prog_52_method_7_62 : decode prog_52_method_7_code 62 = .ok (.areturn, 1) := by decide +kernel
theorem ef_RR_5 (m : MethodId) (x0 : Addr) (x1 : Addr) : entryFrame m #[(.ref x0), (.ref x1)] 5 = mkF m 0 #[.val (.ref x0), .val (.ref x1), .unset, .unset, .unset] [] := by first | (simp [entryFrame, mkF, argsToLocals, Value.category]; done) | rfl
def Q_Statements_moveInto_1 (Z : State) (a1 : Addr) (a2 : Addr) (a3 : Addr) (a4 : Addr) (a5 : Addr) (a6 : Addr) (a7 : Addr) (a8 : Addr) (k9 : ClassId) (a10 : Addr) (k11 : ClassId) (h0 : Heap) (n0 : Nat) (v : Option Value) (h : Heap) (L : List Loc) : Prop := ∃ (b2 : Addr) (kA2 : ClassId), v = some (.ref b2) ∧ Fr n0 L ∧ Keep h0 h [a2] ∧ h0.size ≤ b2 ∧ Aw Z h a2 "[[I" k9 (.array .int) 16 (updv (fun _ => .null) 0 .null) ∧ Aw Z h b2 "[I" kA2 .int 2 (updv (updv (fun _ => (.int 0)) 0 (.int 0)) 1 (.int 0))
set_option maxRecDepth 65536 in
set_option maxHeartbeats 40000000 in
theorem rm_Statements_moveInto_1 (l : Launch) (Z : State) (a0 : Array Value) (hw : ∀ d ∈ tables_1, d.before a0 Z = true) (ws : List Jvm.Cond) (a1 : Addr) (a2 : Addr) (a3 : Addr) (a4 : Addr) (a5 : Addr) (a6 : Addr) (a7 : Addr) (a8 : Addr) (k9 : ClassId) (a10 : Addr) (k11 : ClassId) (h0 : Heap) (n0 : Nat) (O0 : Old Z n0 h0) (pr1 : Ob Z h0 a1 "com/example/kleinmaschine/kleinmaschine/Statements" [("com/example/kleinmaschine/kleinmaschine/Statements", "headPages", "[[I", (.ref a2)), ("com/example/kleinmaschine/kleinmaschine/Statements", "upperPages", "[[I", (.ref a3)), ("com/example/kleinmaschine/kleinmaschine/Statements", "lowerPages", "[[I", (.ref a4)), ("com/example/kleinmaschine/kleinmaschine/Statements", "records", "Lcom/example/kleinmaschine/kleinmaschine/PagedBytes;", (.ref a5)), ("com/example/kleinmaschine/kleinmaschine/Statements", "checkpointPlaces", "[J", (.ref a6)), ("com/example/kleinmaschine/kleinmaschine/Statements", "checkpointLines", "[J", (.ref a7)), ("com/example/kleinmaschine/kleinmaschine/Statements", "checkpointColumns", "[J", (.ref a8)), ("com/example/kleinmaschine/kleinmaschine/Statements", "heads", "[I", .null), ("com/example/kleinmaschine/kleinmaschine/Statements", "size", "I", (.int 2)), ("com/example/kleinmaschine/kleinmaschine/Statements", "lastLine", "J", (.long 1)), ("com/example/kleinmaschine/kleinmaschine/Statements", "lastColumn", "J", (.long 1)), ("com/example/kleinmaschine/kleinmaschine/Statements", "uppers", "[I", .null), ("com/example/kleinmaschine/kleinmaschine/Statements", "lowers", "[I", .null)]) (pr2 : Sta Z Z.heap "com/example/kleinmaschine/kleinmaschine/Statements" "PAGE_BITS" "I" (.int (14 : Int32))) (pr3 : OvrA Z k9 .int "[I") (pr4 : Aw Z h0 a2 "[[I" k9 (.array .int) 16 (updv (fun _ => .null) 0 (.ref a10))) (pr5 : Aw Z h0 a10 "[I" k11 .int 16384 (updv (updv (fun _ => (.int 0)) 0 (.int 0)) 1 (.int 0))) (pr6 : n0 ≤ a2) (pr7 : a1 ≠ a2) :
    MetFree l (⟨"com/example/kleinmaschine/kleinmaschine/Statements", "moveInto", "([[I)[I"⟩ : MethodName) (head1 (Jvm.Cond.code (⟨"com/example/kleinmaschine/kleinmaschine/Statements", "moveInto", "([[I)[I"⟩ : MethodName) prog_52_method_7_code 5 (some (.array .int)) :: ws) ({ frames := 1, cells := 1, slots := 2, locals := 18 } : Room)) (fun a U => a = #[(.ref a1), (.ref a2)] ∧ Z.Warmed39 U.vm ∧ U.heap = h0) (fun _ _ _ _ _ => True) (fun _ U o U' => ∃ v L, o = .returned v ∧ Q_Statements_moveInto_1 Z a1 a2 a3 a4 a5 a6 a7 a8 k9 a10 k11 h0 n0 v U'.heap L ∧ FrameEnd U o U' L ({ frames := 1, cells := 1, slots := 2, locals := 18 } : Room).cells ({ frames := 1, cells := 1, slots := 2, locals := 18 } : Room).slots) := by
  refine MetFree.of_bodySF (plainFor_of_name pn_Statements) hisR ?_
  intro p e s m args below meth c s₁ Bd hml0 hP hK
  obtain ⟨rfl, hZ, hh⟩ := hP
  have hx := Bd.exec
  have hby := Bd.bytes
  have hml : c.maxLocals = 5 := hml0
  have hown : s.vm.findClass "com/example/kleinmaschine/kleinmaschine/Statements" = some m.cls := findClass_of_methodNamed Bd.named
  have hnm := (name_of_methodNamed Bd.named Bd.method).1
  have X0 : Stand p l e ({ frames := 1, cells := 1, slots := 2, locals := 18 } : Room) s m #[(.ref a1), (.ref a2)] below meth c s₁ [] 0 0 := Stand.of_body Bd
  have e0 : s₁.heap = h0 := by rw [← hh, Bd.state]; rfl
  have N0 := Fr.nil n0
  obtain ⟨G0, hG0⟩ : ∃ z, z = (mkF m 0 #[.val (.ref a1), .val (.ref a2), .unset, .unset, .unset] []) := ⟨_, rfl⟩
  have pre0 : ∀ t, Steps p.tables e below (s₁.setTop G0) t → Steps p.tables e below (s₁.setTop (entryFrame m #[(.ref a1), (.ref a2)] 5)) t := fun t k => castTop (ef_RR_5 m a1 a2) (hG0 ▸ k)
  have k : Goes p e below s₁ G0 s₁ (mkF m 0 #[.val (.ref a1), .val (.ref a2), .unset, .unset, .unset] []) := fun t q => hG0 ▸ q
  replace k := Fw.aloadN k X0 hx (hb hby d_prog_52_method_7_0) rfl rfl (pc' := 1) rfl
  obtain ⟨T1, X1, e1, st1⟩ := getF X0 hx hZ hown (host := "") (Or.inl (w_94 hw)) Via.refl e0 (Ob.at pr1 8 rfl) (g := (mkF m 1 #[.val (.ref a1), .val (.ref a2), .unset, .unset, .unset] [(.ref a1)])) rfl rfl (hb hby d_prog_52_method_7_1)
  replace k : Goes p e below s₁ G0 T1 (mkF m 4 #[.val (.ref a1), .val (.ref a2), .unset, .unset, .unset] [(.int 2)]) := fun t q => k t (st1 _ q)
  obtain ⟨T2, h2, kA2, X2, e2, E2, A2, U2, st2⟩ := newPE (aty := .int) X1 hx hZ (w_99 hw) e1 (g := (mkF m 4 #[.val (.ref a1), .val (.ref a2), .unset, .unset, .unset] [(.int 2)])) rfl (hb hby d_prog_52_method_7_4) rfl (by decide) (cap := 2) (by decide) (by decide) (by decide) (by decide) (ad := "[I") (by decide)
  obtain ⟨b2, g2⟩ : ∃ z, z = h0.size := ⟨_, rfl⟩
  rw [← g2] at A2 U2 st2
  have gz_b2 : h0.size ≤ b2 := Nat.le_trans (Nat.le_refl h0.size) (Nat.le_of_eq g2.symm)
  have V2 : Aw Z h2 b2 "[I" kA2 .int 2 (fun _ => (.int 0)) := Aw.new A2 U2 (by decide) 2 (by decide)
  replace k : Goes p e below s₁ G0 T2 (mkF m 6 #[.val (.ref a1), .val (.ref a2), .unset, .unset, .unset] [(.ref b2)]) := fun t q => k t (st2 _ q)
  replace k := Fw.astoreN k X2 hx (hb hby d_prog_52_method_7_6)  rfl (Ls' := #[.val (.ref a1), .val (.ref a2), .val (.ref b2), .unset, .unset]) rfl (pc' := 7) rfl
  replace k := Fw.iconst k X2 hx (hb hby d_prog_52_method_7_7) (z := (0 : Int32)) (by decide) (pc' := 8) rfl
  replace k := Fw.istoreN k X2 hx (hb hby d_prog_52_method_7_8)  (Ls' := #[.val (.ref a1), .val (.ref a2), .val (.ref b2), .val (.int 0), .unset]) rfl (pc' := 9) rfl
  replace k := Fw.iloadN k X2 hx (hb hby d_prog_52_method_7_9) rfl (pc' := 10) rfl
  have fc3 := (O0.ext E2)
  obtain ⟨T4, X4, e4, st4⟩ := getS2 X2 hx hZ hown (host := "") (Or.inl (w_97 hw)) Via.refl e2 (pr2.ext fc3.2) (g := (mkF m 10 #[.val (.ref a1), .val (.ref a2), .val (.ref b2), .val (.int 0), .unset] [(.int 0)])) rfl (hb hby d_prog_52_method_7_10)
  replace k : Goes p e below s₁ G0 T4 (mkF m 13 #[.val (.ref a1), .val (.ref a2), .val (.ref b2), .val (.int 0), .unset] [(.int 14), (.int 0)]) := fun t q => k t (st4 _ q)
  replace k := Fw.ishl k X4 hx (hb hby d_prog_52_method_7_13) (z := (0 : Int32)) (by decide) (pc' := 14) rfl
  replace k := Fw.aloadN k X4 hx (hb hby d_prog_52_method_7_14) rfl rfl (pc' := 15) rfl
  have fc5 := (pr1.ext E2)
  obtain ⟨T6, X6, e6, st6⟩ := getF X4 hx hZ hown (host := "") (Or.inl (w_94 hw)) Via.refl e4 (Ob.at fc5 8 rfl) (g := (mkF m 15 #[.val (.ref a1), .val (.ref a2), .val (.ref b2), .val (.int 0), .unset] [(.ref a1), (.int 0)])) rfl rfl (hb hby d_prog_52_method_7_15)
  replace k : Goes p e below s₁ G0 T6 (mkF m 18 #[.val (.ref a1), .val (.ref a2), .val (.ref b2), .val (.int 0), .unset] [(.int 2), (.int 0)]) := fun t q => k t (st6 _ q)
  replace k := Fw.icmpNo k X6 hx (hb hby d_prog_52_method_7_18) (tlt (show (0 : Int32) < (2 : Int32) from by decide)).2.1 (pc' := 21) rfl
  replace k := Fw.iloadN k X6 hx (hb hby d_prog_52_method_7_21) rfl (pc' := 22) rfl
  obtain ⟨T7, X7, e7, st7⟩ := getS2 X6 hx hZ hown (host := "") (Or.inl (w_97 hw)) Via.refl e6 (pr2.ext fc3.2) (g := (mkF m 22 #[.val (.ref a1), .val (.ref a2), .val (.ref b2), .val (.int 0), .unset] [(.int 0)])) rfl (hb hby d_prog_52_method_7_22)
  replace k : Goes p e below s₁ G0 T7 (mkF m 25 #[.val (.ref a1), .val (.ref a2), .val (.ref b2), .val (.int 0), .unset] [(.int 14), (.int 0)]) := fun t q => k t (st7 _ q)
  replace k := Fw.ishl k X7 hx (hb hby d_prog_52_method_7_25) (z := (0 : Int32)) (by decide) (pc' := 26) rfl
  replace k := Fw.istore k X7 hx (hb hby d_prog_52_method_7_26)  (Ls' := #[.val (.ref a1), .val (.ref a2), .val (.ref b2), .val (.int 0), .val (.int 0)]) rfl (pc' := 28) rfl
  replace k := Fw.aloadN k X7 hx (hb hby d_prog_52_method_7_28) rfl rfl (pc' := 29) rfl
  replace k := Fw.iloadN k X7 hx (hb hby d_prog_52_method_7_29) rfl (pc' := 30) rfl
  have fc9 := (pr4.ext E2)
  obtain ⟨cl8, Ar8, hin8, hat8, -, -⟩ := Aw.open fc9 (j := (0 : Int32)) 0 (by decide) (by decide) (by decide)
  replace hat8 : cl8.slots[((0 : Int32)).toNatClampNeg]? = some (.ref a10) := hat8
  replace k : Goes p e below s₁ G0 T7 (mkF m 31 #[.val (.ref a1), .val (.ref a2), .val (.ref b2), .val (.int 0), .val (.int 0)] [(.ref a10)]) := fun t q => k t (X7.aaload hx (j := (0 : Int32)) (v := (.ref a10)) (by rw [e7]; exact Ar8.1) (State.isArrayOf_alike hZ.alike Ar8.2.1) rfl Ar8.2.2 hin8 hat8 (g := (mkF m 30 #[.val (.ref a1), .val (.ref a2), .val (.ref b2), .val (.int 0), .val (.int 0)] [(.int 0), (.ref a2)])) rfl rfl (hb hby d_prog_52_method_7_30) _ q)
  replace k := Fw.iconst k X7 hx (hb hby d_prog_52_method_7_31) (z := (0 : Int32)) (by decide) (pc' := 32) rfl
  replace k := Fw.aloadN k X7 hx (hb hby d_prog_52_method_7_32) rfl rfl (pc' := 33) rfl
  replace k := Fw.iload k X7 hx (hb hby d_prog_52_method_7_33) rfl (pc' := 35) rfl
  replace k := Fw.sipush k X7 hx (hb hby d_prog_52_method_7_35) (z := (16384 : Int32)) (by decide) (pc' := 38) rfl
  replace k := Fw.aloadN k X7 hx (hb hby d_prog_52_method_7_38) rfl rfl (pc' := 39) rfl
  obtain ⟨T10, X10, e10, st10⟩ := getF X7 hx hZ hown (host := "") (Or.inl (w_94 hw)) Via.refl e7 (Ob.at fc5 8 rfl) (g := (mkF m 39 #[.val (.ref a1), .val (.ref a2), .val (.ref b2), .val (.int 0), .val (.int 0)] [(.ref a1), (.int 16384), (.int 0), (.ref b2), (.int 0), (.ref a10)])) rfl rfl (hb hby d_prog_52_method_7_39)
  replace k : Goes p e below s₁ G0 T10 (mkF m 42 #[.val (.ref a1), .val (.ref a2), .val (.ref b2), .val (.int 0), .val (.int 0)] [(.int 2), (.int 16384), (.int 0), (.ref b2), (.int 0), (.ref a10)]) := fun t q => k t (st10 _ q)
  replace k := Fw.iload k X10 hx (hb hby d_prog_52_method_7_42) rfl (pc' := 44) rfl
  replace k := Fw.isub k X10 hx (hb hby d_prog_52_method_7_44) (z := (2 : Int32)) (by decide) (pc' := 45) rfl
  obtain ⟨_, _, ⟨T11, L11, kz11, nz11⟩, -, X11, ⟨Lc11, hQ11, l11, y11, z11⟩, st11⟩ := Jvm.LawKit.callS X10 hx (y := (⟨"java/lang/Math", "min", "(II)I"⟩ : MethodName)) hown (mvT hZ (w_198 hw)) (mvT hZ (w_199 hw)) (mvT hZ (w_179 hw)) (mvT hZ (w_200 hw)) (by decide) (backOf (W := 4) (rm_Math_min_1 l Z a0 hw []  h2 n0 fc3 ) hZ (w_200 hw) (w_179 hw) (by decide) (by decide)) (g := (mkF m 45 #[.val (.ref a1), .val (.ref a2), .val (.ref b2), .val (.int 0), .val (.int 0)] [(.int 2), (.int 16384), (.int 0), (.ref b2), (.int 0), (.ref a10)])) rfl (by rw [hml]; rfl) (argsL := [(.int 16384), (.int 2)]) (rest := [(.int 0), (.ref b2), (.int 0), (.ref a10)]) (lenOf pd_II_r_I rfl) rfl (by show 2 * 0 + _ ≤ _; exact Nat.le_of_eq rfl) (hb hby d_prog_52_method_7_45) (fun _ _ => ⟨rfl, e10, (by decide : 1 + 0 ≤ _), (by decide : 2 + 0 ≤ _)⟩)
  dsimp only [Pt.U, Pt.locs, Pt.cells, Pt.slots] at X11 l11 y11 z11 st11 hQ11
  subst l11 y11 z11
  obtain ⟨hv11, N11q, e11⟩ := hQ11
  subst hv11
  have N11 := Fr.app N0 N11q
  replace k : Goes p e below s₁ G0 T11 (mkF m 48 #[.val (.ref a1), .val (.ref a2), .val (.ref b2), .val (.int 0), .val (.int 0)] [(.int 2), (.int 0), (.ref b2), (.int 0), (.ref a10)]) := fun t q => k t (st11 _ q)
  have fc13 := (pr5.ext E2)
  obtain ⟨T12, h12, L12, X12, e12, N12, K12, V12, st12⟩ := cpW X11 hx hZ hown (w_201 hw) (w_204 hw) (w_202 hw) (w_203 hw) e11 fc13 V2 rfl (sp := (0 : Int32)) (dp := (0 : Int32)) (nn := (2 : Int32)) 0 0 2 (by decide) (by decide) (by decide) (by decide) (by decide) (by decide) (by decide) (by decide) N11 (Nat.le_trans (old_le O0) gz_b2) (g := (mkF m 48 #[.val (.ref a1), .val (.ref a2), .val (.ref b2), .val (.int 0), .val (.int 0)] [(.int 2), (.int 0), (.ref b2), (.int 0), (.ref a10)])) rfl (by rw [hml]; rfl) rfl (hb hby d_prog_52_method_7_48) (by decide) (W := 0) (by show 2 * 0 + _ ≤ _; exact Nat.le_of_eq rfl) (by decide)
  replace V12 : Aw Z h12 b2 "[I" kA2 .int 2 (updv (updv (fun _ => (.int 0)) 0 (.int 0)) 1 (.int 0)) := Aw.norm V12 (ltS rfl (ltS rfl ltZ))
  replace k : Goes p e below s₁ G0 T12 (mkF m 51 #[.val (.ref a1), .val (.ref a2), .val (.ref b2), .val (.int 0), .val (.int 0)] []) := fun t q => k t (st12 _ q)
  replace k := Fw.aloadN k X12 hx (hb hby d_prog_52_method_7_51) rfl rfl (pc' := 52) rfl
  replace k := Fw.iloadN k X12 hx (hb hby d_prog_52_method_7_52) rfl (pc' := 53) rfl
  replace k := Fw.aconstNull k X12 hx (hb hby d_prog_52_method_7_53) (pc' := 54) rfl
  have fc14 := (fc9.keep K12 (ninS (Nat.ne_of_lt (Nat.lt_of_lt_of_le pr4.lt gz_b2)) nin0))
  obtain ⟨cl15, Ar15, hin15, -, kq15, -⟩ := Aw.open fc14 (j := (0 : Int32)) 0 (by decide) (by decide) (by decide)
  obtain ⟨T15, h15, X15, e15, W15, st15⟩ := stR X12 hx hZ e12 Ar15 (j := (0 : Int32)) hin15 rfl (Or.inl rfl) (g := (mkF m 54 #[.val (.ref a1), .val (.ref a2), .val (.ref b2), .val (.int 0), .val (.int 0)] [.null, (.int 0), (.ref a2)])) rfl rfl (hb hby d_prog_52_method_7_54)
  have N15 := Fr.snoc X15 N12 pr6
  have V15 : Aw Z h15 a2 "[[I" k9 (.array .int) 16 (updv (fun _ => .null) 0 .null) := Aw.norm (Aw.set fc14 W15 0 (by decide) rfl) (fun j _ => by simp only [updv]; (repeat' split) <;> first | rfl | omega)
  replace k : Goes p e below s₁ G0 T15 (mkF m 55 #[.val (.ref a1), .val (.ref a2), .val (.ref b2), .val (.int 0), .val (.int 0)] []) := fun t q => k t (st15 _ q)
  replace k := Fw.iinc k X15 hx (hb hby d_prog_52_method_7_55) rfl (z := (1 : Int32)) (by decide) (Ls' := #[.val (.ref a1), .val (.ref a2), .val (.ref b2), .val (.int 1), .val (.int 0)]) rfl (pc' := 58) rfl
  replace k := Fw.goto k X15 hx (hb hby d_prog_52_method_7_58) (by decide) (pc' := 9) rfl
  replace k := Fw.iloadN k X15 hx (hb hby d_prog_52_method_7_9) rfl (pc' := 10) rfl
  have fc16 := ((fc3.keep K12 (allS (Nat.le_trans (old_le O0) gz_b2) all0)).wr W15 pr6)
  obtain ⟨T17, X17, e17, st17⟩ := getS2 X15 hx hZ hown (host := "") (Or.inl (w_97 hw)) Via.refl e15 (pr2.ext fc16.2) (g := (mkF m 10 #[.val (.ref a1), .val (.ref a2), .val (.ref b2), .val (.int 1), .val (.int 0)] [(.int 1)])) rfl (hb hby d_prog_52_method_7_10)
  replace k : Goes p e below s₁ G0 T17 (mkF m 13 #[.val (.ref a1), .val (.ref a2), .val (.ref b2), .val (.int 1), .val (.int 0)] [(.int 14), (.int 1)]) := fun t q => k t (st17 _ q)
  replace k := Fw.ishl k X17 hx (hb hby d_prog_52_method_7_13) (z := (16384 : Int32)) (by decide) (pc' := 14) rfl
  replace k := Fw.aloadN k X17 hx (hb hby d_prog_52_method_7_14) rfl rfl (pc' := 15) rfl
  have fc18 := ((fc5.keep K12 (ninS (Nat.ne_of_lt (Nat.lt_of_lt_of_le pr1.lt gz_b2)) nin0)).other W15 pr7)
  obtain ⟨T19, X19, e19, st19⟩ := getF X17 hx hZ hown (host := "") (Or.inl (w_94 hw)) Via.refl e17 (Ob.at fc18 8 rfl) (g := (mkF m 15 #[.val (.ref a1), .val (.ref a2), .val (.ref b2), .val (.int 1), .val (.int 0)] [(.ref a1), (.int 16384)])) rfl rfl (hb hby d_prog_52_method_7_15)
  replace k : Goes p e below s₁ G0 T19 (mkF m 18 #[.val (.ref a1), .val (.ref a2), .val (.ref b2), .val (.int 1), .val (.int 0)] [(.int 2), (.int 16384)]) := fun t q => k t (st19 _ q)
  replace k := Fw.icmpYes k X19 hx (hb hby d_prog_52_method_7_18) (flt (show ¬ ((16384 : Int32) < (2 : Int32)) from by decide)).2.1 (by decide) (pc' := 61) rfl
  replace k := Fw.aloadN k X19 hx (hb hby d_prog_52_method_7_61) rfl rfl (pc' := 62) rfl
  obtain ⟨fs, hr, hrun, hended, hW, hsame⟩ := X19.leave (v := some (.ref b2)) (fun h => by rw [Bd.returns] at h; cases h)
  refine ⟨_, _, pre0 _ (k _ ?_), hrun, hended, _, _, rfl, ?_, ⟨_, rfl⟩, hW, hsame.mono (by decide) (by decide)⟩
  · show Steps p.tables e below (T19.setTop (mkF m 62 #[.val (.ref a1), .val (.ref a2), .val (.ref b2), .val (.int 1), .val (.int 0)] [(.ref b2)])) _
    jvm_step X19.here [X19.here.top, hx, (hb hby d_prog_52_method_7_62), X19.method', Bd.returns, Value.isRef, FieldType.isReference]
    first | (intro acts; rw [hr _ acts rfl rfl rfl]) | rw [hr _ _ rfl rfl rfl]
    exact Steps.refl _
  · show Q_Statements_moveInto_1 Z a1 a2 a3 a4 a5 a6 a7 a8 k9 a10 k11 h0 n0 _ T19.heap _
    rw [e19]
    exact ⟨b2, kA2, rfl, N15, ((((Keep.refl h0 [a2]).ext E2).trans K12 (allS (Or.inr gz_b2) all0)).wr W15 (Or.inl (List.mem_of_getElem? (i := 0) rfl))), gz_b2, V15, (V12.other W15 (Ne.symm (Nat.ne_of_lt (Nat.lt_of_lt_of_le pr4.lt gz_b2))))⟩
theorem w_194 {Z : State} {a0 : Array Value} (hw : ∀ d ∈ tables_1, d.before a0 Z = true) : (Jvm.Cond.methodLink "com/example/kleinmaschine/kleinmaschine/Statements" (113 : Nat) ({ cls := "com/example/kleinmaschine/kleinmaschine/Statements", name := "moveInto", desc := "([[I)[I" } : Jvm.MethodName)).before a0 Z = true := hw _ (List.mem_of_getElem? (i := 194) rfl)
theorem w_197 {Z : State} {a0 : Array Value} (hw : ∀ d ∈ tables_1, d.before a0 Z = true) : (Jvm.Cond.code ({ cls := "com/example/kleinmaschine/kleinmaschine/Statements", name := "moveInto", desc := "([[I)[I" } : Jvm.MethodName) prog_52_method_7_code (5 : Nat) (Option.some (Jvm.ClassFile.FieldType.array Jvm.ClassFile.FieldType.int))).before a0 Z = true := hw _ (List.mem_of_getElem? (i := 197) rfl)
theorem pd_AAI_r_AI : parseMethodDescriptor "([[I)[I" = some ⟨[(.array (.array .int))], some (.array .int)⟩ := by decide +kernel
theorem w_196 {Z : State} {a0 : Array Value} (hw : ∀ d ∈ tables_1, d.before a0 Z = true) : (Jvm.Cond.privateMethod ({ cls := "com/example/kleinmaschine/kleinmaschine/Statements", name := "moveInto", desc := "([[I)[I" } : Jvm.MethodName)).before a0 Z = true := hw _ (List.mem_of_getElem? (i := 196) rfl)
theorem w_195 {Z : State} {a0 : Array Value} (hw : ∀ d ∈ tables_1, d.before a0 Z = true) : (Jvm.Cond.instanceMethod ({ cls := "com/example/kleinmaschine/kleinmaschine/Statements", name := "moveInto", desc := "([[I)[I" } : Jvm.MethodName)).before a0 Z = true := hw _ (List.mem_of_getElem? (i := 195) rfl)
theorem d_prog_52_method_6_13 : decode prog_52_method_6_code 13 = .ok (.putfield 117, 3) := by decide +kernel
theorem d_prog_52_method_6_16 : decode prog_52_method_6_code 16 = .ok (.aload_n 0, 1) := by decide +kernel
theorem d_prog_52_method_6_17 : decode prog_52_method_6_code 17 = .ok (.aconst_null, 1) := by decide +kernel
theorem d_prog_52_method_6_18 : decode prog_52_method_6_code 18 = .ok (.putfield 11, 3) := by decide +kernel
theorem d_prog_52_method_6_21 : decode prog_52_method_6_code 21 = .ok (.aload_n 0, 1) := by decide +kernel
theorem d_prog_52_method_6_22 : decode prog_52_method_6_code 22 = .ok (.aload_n 0, 1) := by decide +kernel
theorem d_prog_52_method_6_23 : decode prog_52_method_6_code 23 = .ok (.aload_n 0, 1) := by decide +kernel
theorem d_prog_52_method_6_24 : decode prog_52_method_6_code 24 = .ok (.getfield 15, 3) := by decide +kernel
theorem d_prog_52_method_6_27 : decode prog_52_method_6_code 27 = .ok (.invokevirtual 113, 3) := by decide +kernel
def Q_Statements_moveInto_2 (Z : State) (a1 : Addr) (a2 : Addr) (a3 : Addr) (a4 : Addr) (a5 : Addr) (a6 : Addr) (a7 : Addr) (a8 : Addr) (k9 : ClassId) (a10 : Addr) (k11 : ClassId) (p12 : Int32) (p13 : Int32) (h0 : Heap) (n0 : Nat) (v : Option Value) (h : Heap) (L : List Loc) : Prop := ∃ (b2 : Addr) (kA2 : ClassId), v = some (.ref b2) ∧ Fr n0 L ∧ Keep h0 h [a2] ∧ h0.size ≤ b2 ∧ Aw Z h a2 "[[I" k9 (.array .int) 16 (updv (fun _ => .null) 0 .null) ∧ Aw Z h b2 "[I" kA2 .int 2 (updv (updv (fun _ => (.int 0)) 0 (.int p12)) 1 (.int p13))
set_option maxRecDepth 65536 in
set_option maxHeartbeats 40000000 in
theorem rm_Statements_moveInto_2 (l : Launch) (Z : State) (a0 : Array Value) (hw : ∀ d ∈ tables_1, d.before a0 Z = true) (ws : List Jvm.Cond) (a1 : Addr) (a2 : Addr) (a3 : Addr) (a4 : Addr) (a5 : Addr) (a6 : Addr) (a7 : Addr) (a8 : Addr) (k9 : ClassId) (a10 : Addr) (k11 : ClassId) (p12 : Int32) (p13 : Int32) (h0 : Heap) (n0 : Nat) (O0 : Old Z n0 h0) (pr1 : Ob Z h0 a1 "com/example/kleinmaschine/kleinmaschine/Statements" [("com/example/kleinmaschine/kleinmaschine/Statements", "headPages", "[[I", .null), ("com/example/kleinmaschine/kleinmaschine/Statements", "upperPages", "[[I", (.ref a2)), ("com/example/kleinmaschine/kleinmaschine/Statements", "lowerPages", "[[I", (.ref a3)), ("com/example/kleinmaschine/kleinmaschine/Statements", "records", "Lcom/example/kleinmaschine/kleinmaschine/PagedBytes;", (.ref a4)), ("com/example/kleinmaschine/kleinmaschine/Statements", "checkpointPlaces", "[J", (.ref a5)), ("com/example/kleinmaschine/kleinmaschine/Statements", "checkpointLines", "[J", (.ref a6)), ("com/example/kleinmaschine/kleinmaschine/Statements", "checkpointColumns", "[J", (.ref a7)), ("com/example/kleinmaschine/kleinmaschine/Statements", "heads", "[I", (.ref a8)), ("com/example/kleinmaschine/kleinmaschine/Statements", "size", "I", (.int 2)), ("com/example/kleinmaschine/kleinmaschine/Statements", "lastLine", "J", (.long 1)), ("com/example/kleinmaschine/kleinmaschine/Statements", "lastColumn", "J", (.long 1)), ("com/example/kleinmaschine/kleinmaschine/Statements", "uppers", "[I", .null), ("com/example/kleinmaschine/kleinmaschine/Statements", "lowers", "[I", .null)]) (pr2 : Sta Z Z.heap "com/example/kleinmaschine/kleinmaschine/Statements" "PAGE_BITS" "I" (.int (14 : Int32))) (pr3 : OvrA Z k9 .int "[I") (pr4 : Aw Z h0 a2 "[[I" k9 (.array .int) 16 (updv (fun _ => .null) 0 (.ref a10))) (pr5 : Aw Z h0 a10 "[I" k11 .int 16384 (updv (updv (fun _ => (.int 0)) 0 (.int p12)) 1 (.int p13))) (pr6 : n0 ≤ a2) (pr7 : a1 ≠ a2) :
    MetFree l (⟨"com/example/kleinmaschine/kleinmaschine/Statements", "moveInto", "([[I)[I"⟩ : MethodName) (head1 (Jvm.Cond.code (⟨"com/example/kleinmaschine/kleinmaschine/Statements", "moveInto", "([[I)[I"⟩ : MethodName) prog_52_method_7_code 5 (some (.array .int)) :: ws) ({ frames := 1, cells := 1, slots := 2, locals := 18 } : Room)) (fun a U => a = #[(.ref a1), (.ref a2)] ∧ Z.Warmed39 U.vm ∧ U.heap = h0) (fun _ _ _ _ _ => True) (fun _ U o U' => ∃ v L, o = .returned v ∧ Q_Statements_moveInto_2 Z a1 a2 a3 a4 a5 a6 a7 a8 k9 a10 k11 p12 p13 h0 n0 v U'.heap L ∧ FrameEnd U o U' L ({ frames := 1, cells := 1, slots := 2, locals := 18 } : Room).cells ({ frames := 1, cells := 1, slots := 2, locals := 18 } : Room).slots) := by
  refine MetFree.of_bodySF (plainFor_of_name pn_Statements) hisR ?_
  intro p e s m args below meth c s₁ Bd hml0 hP hK
  obtain ⟨rfl, hZ, hh⟩ := hP
  have hx := Bd.exec
  have hby := Bd.bytes
  have hml : c.maxLocals = 5 := hml0
  have hown : s.vm.findClass "com/example/kleinmaschine/kleinmaschine/Statements" = some m.cls := findClass_of_methodNamed Bd.named
  have hnm := (name_of_methodNamed Bd.named Bd.method).1
  have X0 : Stand p l e ({ frames := 1, cells := 1, slots := 2, locals := 18 } : Room) s m #[(.ref a1), (.ref a2)] below meth c s₁ [] 0 0 := Stand.of_body Bd
  have e0 : s₁.heap = h0 := by rw [← hh, Bd.state]; rfl
  have N0 := Fr.nil n0
  obtain ⟨G0, hG0⟩ : ∃ z, z = (mkF m 0 #[.val (.ref a1), .val (.ref a2), .unset, .unset, .unset] []) := ⟨_, rfl⟩
  have pre0 : ∀ t, Steps p.tables e below (s₁.setTop G0) t → Steps p.tables e below (s₁.setTop (entryFrame m #[(.ref a1), (.ref a2)] 5)) t := fun t k => castTop (ef_RR_5 m a1 a2) (hG0 ▸ k)
  have k : Goes p e below s₁ G0 s₁ (mkF m 0 #[.val (.ref a1), .val (.ref a2), .unset, .unset, .unset] []) := fun t q => hG0 ▸ q
  replace k := Fw.aloadN k X0 hx (hb hby d_prog_52_method_7_0) rfl rfl (pc' := 1) rfl
  obtain ⟨T1, X1, e1, st1⟩ := getF X0 hx hZ hown (host := "") (Or.inl (w_94 hw)) Via.refl e0 (Ob.at pr1 8 rfl) (g := (mkF m 1 #[.val (.ref a1), .val (.ref a2), .unset, .unset, .unset] [(.ref a1)])) rfl rfl (hb hby d_prog_52_method_7_1)
  replace k : Goes p e below s₁ G0 T1 (mkF m 4 #[.val (.ref a1), .val (.ref a2), .unset, .unset, .unset] [(.int 2)]) := fun t q => k t (st1 _ q)
  obtain ⟨T2, h2, kA2, X2, e2, E2, A2, U2, st2⟩ := newPE (aty := .int) X1 hx hZ (w_99 hw) e1 (g := (mkF m 4 #[.val (.ref a1), .val (.ref a2), .unset, .unset, .unset] [(.int 2)])) rfl (hb hby d_prog_52_method_7_4) rfl (by decide) (cap := 2) (by decide) (by decide) (by decide) (by decide) (ad := "[I") (by decide)
  obtain ⟨b2, g2⟩ : ∃ z, z = h0.size := ⟨_, rfl⟩
  rw [← g2] at A2 U2 st2
  have gz_b2 : h0.size ≤ b2 := Nat.le_trans (Nat.le_refl h0.size) (Nat.le_of_eq g2.symm)
  have V2 : Aw Z h2 b2 "[I" kA2 .int 2 (fun _ => (.int 0)) := Aw.new A2 U2 (by decide) 2 (by decide)
  replace k : Goes p e below s₁ G0 T2 (mkF m 6 #[.val (.ref a1), .val (.ref a2), .unset, .unset, .unset] [(.ref b2)]) := fun t q => k t (st2 _ q)
  replace k := Fw.astoreN k X2 hx (hb hby d_prog_52_method_7_6)  rfl (Ls' := #[.val (.ref a1), .val (.ref a2), .val (.ref b2), .unset, .unset]) rfl (pc' := 7) rfl
  replace k := Fw.iconst k X2 hx (hb hby d_prog_52_method_7_7) (z := (0 : Int32)) (by decide) (pc' := 8) rfl
  replace k := Fw.istoreN k X2 hx (hb hby d_prog_52_method_7_8)  (Ls' := #[.val (.ref a1), .val (.ref a2), .val (.ref b2), .val (.int 0), .unset]) rfl (pc' := 9) rfl
  replace k := Fw.iloadN k X2 hx (hb hby d_prog_52_method_7_9) rfl (pc' := 10) rfl
  have fc3 := (O0.ext E2)
  obtain ⟨T4, X4, e4, st4⟩ := getS2 X2 hx hZ hown (host := "") (Or.inl (w_97 hw)) Via.refl e2 (pr2.ext fc3.2) (g := (mkF m 10 #[.val (.ref a1), .val (.ref a2), .val (.ref b2), .val (.int 0), .unset] [(.int 0)])) rfl (hb hby d_prog_52_method_7_10)
  replace k : Goes p e below s₁ G0 T4 (mkF m 13 #[.val (.ref a1), .val (.ref a2), .val (.ref b2), .val (.int 0), .unset] [(.int 14), (.int 0)]) := fun t q => k t (st4 _ q)
  replace k := Fw.ishl k X4 hx (hb hby d_prog_52_method_7_13) (z := (0 : Int32)) (by decide) (pc' := 14) rfl
  replace k := Fw.aloadN k X4 hx (hb hby d_prog_52_method_7_14) rfl rfl (pc' := 15) rfl
  have fc5 := (pr1.ext E2)
  obtain ⟨T6, X6, e6, st6⟩ := getF X4 hx hZ hown (host := "") (Or.inl (w_94 hw)) Via.refl e4 (Ob.at fc5 8 rfl) (g := (mkF m 15 #[.val (.ref a1), .val (.ref a2), .val (.ref b2), .val (.int 0), .unset] [(.ref a1), (.int 0)])) rfl rfl (hb hby d_prog_52_method_7_15)
  replace k : Goes p e below s₁ G0 T6 (mkF m 18 #[.val (.ref a1), .val (.ref a2), .val (.ref b2), .val (.int 0), .unset] [(.int 2), (.int 0)]) := fun t q => k t (st6 _ q)
  replace k := Fw.icmpNo k X6 hx (hb hby d_prog_52_method_7_18) (tlt (show (0 : Int32) < (2 : Int32) from by decide)).2.1 (pc' := 21) rfl
  replace k := Fw.iloadN k X6 hx (hb hby d_prog_52_method_7_21) rfl (pc' := 22) rfl
  obtain ⟨T7, X7, e7, st7⟩ := getS2 X6 hx hZ hown (host := "") (Or.inl (w_97 hw)) Via.refl e6 (pr2.ext fc3.2) (g := (mkF m 22 #[.val (.ref a1), .val (.ref a2), .val (.ref b2), .val (.int 0), .unset] [(.int 0)])) rfl (hb hby d_prog_52_method_7_22)
  replace k : Goes p e below s₁ G0 T7 (mkF m 25 #[.val (.ref a1), .val (.ref a2), .val (.ref b2), .val (.int 0), .unset] [(.int 14), (.int 0)]) := fun t q => k t (st7 _ q)
  replace k := Fw.ishl k X7 hx (hb hby d_prog_52_method_7_25) (z := (0 : Int32)) (by decide) (pc' := 26) rfl
  replace k := Fw.istore k X7 hx (hb hby d_prog_52_method_7_26)  (Ls' := #[.val (.ref a1), .val (.ref a2), .val (.ref b2), .val (.int 0), .val (.int 0)]) rfl (pc' := 28) rfl
  replace k := Fw.aloadN k X7 hx (hb hby d_prog_52_method_7_28) rfl rfl (pc' := 29) rfl
  replace k := Fw.iloadN k X7 hx (hb hby d_prog_52_method_7_29) rfl (pc' := 30) rfl
  have fc9 := (pr4.ext E2)
  obtain ⟨cl8, Ar8, hin8, hat8, -, -⟩ := Aw.open fc9 (j := (0 : Int32)) 0 (by decide) (by decide) (by decide)
  replace hat8 : cl8.slots[((0 : Int32)).toNatClampNeg]? = some (.ref a10) := hat8
  replace k : Goes p e below s₁ G0 T7 (mkF m 31 #[.val (.ref a1), .val (.ref a2), .val (.ref b2), .val (.int 0), .val (.int 0)] [(.ref a10)]) := fun t q => k t (X7.aaload hx (j := (0 : Int32)) (v := (.ref a10)) (by rw [e7]; exact Ar8.1) (State.isArrayOf_alike hZ.alike Ar8.2.1) rfl Ar8.2.2 hin8 hat8 (g := (mkF m 30 #[.val (.ref a1), .val (.ref a2), .val (.ref b2), .val (.int 0), .val (.int 0)] [(.int 0), (.ref a2)])) rfl rfl (hb hby d_prog_52_method_7_30) _ q)
  replace k := Fw.iconst k X7 hx (hb hby d_prog_52_method_7_31) (z := (0 : Int32)) (by decide) (pc' := 32) rfl
  replace k := Fw.aloadN k X7 hx (hb hby d_prog_52_method_7_32) rfl rfl (pc' := 33) rfl
  replace k := Fw.iload k X7 hx (hb hby d_prog_52_method_7_33) rfl (pc' := 35) rfl
  replace k := Fw.sipush k X7 hx (hb hby d_prog_52_method_7_35) (z := (16384 : Int32)) (by decide) (pc' := 38) rfl
  replace k := Fw.aloadN k X7 hx (hb hby d_prog_52_method_7_38) rfl rfl (pc' := 39) rfl
  obtain ⟨T10, X10, e10, st10⟩ := getF X7 hx hZ hown (host := "") (Or.inl (w_94 hw)) Via.refl e7 (Ob.at fc5 8 rfl) (g := (mkF m 39 #[.val (.ref a1), .val (.ref a2), .val (.ref b2), .val (.int 0), .val (.int 0)] [(.ref a1), (.int 16384), (.int 0), (.ref b2), (.int 0), (.ref a10)])) rfl rfl (hb hby d_prog_52_method_7_39)
  replace k : Goes p e below s₁ G0 T10 (mkF m 42 #[.val (.ref a1), .val (.ref a2), .val (.ref b2), .val (.int 0), .val (.int 0)] [(.int 2), (.int 16384), (.int 0), (.ref b2), (.int 0), (.ref a10)]) := fun t q => k t (st10 _ q)
  replace k := Fw.iload k X10 hx (hb hby d_prog_52_method_7_42) rfl (pc' := 44) rfl
  replace k := Fw.isub k X10 hx (hb hby d_prog_52_method_7_44) (z := (2 : Int32)) (by decide) (pc' := 45) rfl
  obtain ⟨_, _, ⟨T11, L11, kz11, nz11⟩, -, X11, ⟨Lc11, hQ11, l11, y11, z11⟩, st11⟩ := Jvm.LawKit.callS X10 hx (y := (⟨"java/lang/Math", "min", "(II)I"⟩ : MethodName)) hown (mvT hZ (w_198 hw)) (mvT hZ (w_199 hw)) (mvT hZ (w_179 hw)) (mvT hZ (w_200 hw)) (by decide) (backOf (W := 4) (rm_Math_min_1 l Z a0 hw []  h2 n0 fc3 ) hZ (w_200 hw) (w_179 hw) (by decide) (by decide)) (g := (mkF m 45 #[.val (.ref a1), .val (.ref a2), .val (.ref b2), .val (.int 0), .val (.int 0)] [(.int 2), (.int 16384), (.int 0), (.ref b2), (.int 0), (.ref a10)])) rfl (by rw [hml]; rfl) (argsL := [(.int 16384), (.int 2)]) (rest := [(.int 0), (.ref b2), (.int 0), (.ref a10)]) (lenOf pd_II_r_I rfl) rfl (by show 2 * 0 + _ ≤ _; exact Nat.le_of_eq rfl) (hb hby d_prog_52_method_7_45) (fun _ _ => ⟨rfl, e10, (by decide : 1 + 0 ≤ _), (by decide : 2 + 0 ≤ _)⟩)
  dsimp only [Pt.U, Pt.locs, Pt.cells, Pt.slots] at X11 l11 y11 z11 st11 hQ11
  subst l11 y11 z11
  obtain ⟨hv11, N11q, e11⟩ := hQ11
  subst hv11
  have N11 := Fr.app N0 N11q
  replace k : Goes p e below s₁ G0 T11 (mkF m 48 #[.val (.ref a1), .val (.ref a2), .val (.ref b2), .val (.int 0), .val (.int 0)] [(.int 2), (.int 0), (.ref b2), (.int 0), (.ref a10)]) := fun t q => k t (st11 _ q)
  have fc13 := (pr5.ext E2)
  obtain ⟨T12, h12, L12, X12, e12, N12, K12, V12, st12⟩ := cpW X11 hx hZ hown (w_201 hw) (w_204 hw) (w_202 hw) (w_203 hw) e11 fc13 V2 rfl (sp := (0 : Int32)) (dp := (0 : Int32)) (nn := (2 : Int32)) 0 0 2 (by decide) (by decide) (by decide) (by decide) (by decide) (by decide) (by decide) (by decide) N11 (Nat.le_trans (old_le O0) gz_b2) (g := (mkF m 48 #[.val (.ref a1), .val (.ref a2), .val (.ref b2), .val (.int 0), .val (.int 0)] [(.int 2), (.int 0), (.ref b2), (.int 0), (.ref a10)])) rfl (by rw [hml]; rfl) rfl (hb hby d_prog_52_method_7_48) (by decide) (W := 0) (by show 2 * 0 + _ ≤ _; exact Nat.le_of_eq rfl) (by decide)
  replace V12 : Aw Z h12 b2 "[I" kA2 .int 2 (updv (updv (fun _ => (.int 0)) 0 (.int p12)) 1 (.int p13)) := Aw.norm V12 (ltS rfl (ltS rfl ltZ))
  replace k : Goes p e below s₁ G0 T12 (mkF m 51 #[.val (.ref a1), .val (.ref a2), .val (.ref b2), .val (.int 0), .val (.int 0)] []) := fun t q => k t (st12 _ q)
  replace k := Fw.aloadN k X12 hx (hb hby d_prog_52_method_7_51) rfl rfl (pc' := 52) rfl
  replace k := Fw.iloadN k X12 hx (hb hby d_prog_52_method_7_52) rfl (pc' := 53) rfl
  replace k := Fw.aconstNull k X12 hx (hb hby d_prog_52_method_7_53) (pc' := 54) rfl
  have fc14 := (fc9.keep K12 (ninS (Nat.ne_of_lt (Nat.lt_of_lt_of_le pr4.lt gz_b2)) nin0))
  obtain ⟨cl15, Ar15, hin15, -, kq15, -⟩ := Aw.open fc14 (j := (0 : Int32)) 0 (by decide) (by decide) (by decide)
  obtain ⟨T15, h15, X15, e15, W15, st15⟩ := stR X12 hx hZ e12 Ar15 (j := (0 : Int32)) hin15 rfl (Or.inl rfl) (g := (mkF m 54 #[.val (.ref a1), .val (.ref a2), .val (.ref b2), .val (.int 0), .val (.int 0)] [.null, (.int 0), (.ref a2)])) rfl rfl (hb hby d_prog_52_method_7_54)
  have N15 := Fr.snoc X15 N12 pr6
  have V15 : Aw Z h15 a2 "[[I" k9 (.array .int) 16 (updv (fun _ => .null) 0 .null) := Aw.norm (Aw.set fc14 W15 0 (by decide) rfl) (fun j _ => by simp only [updv]; (repeat' split) <;> first | rfl | omega)
  replace k : Goes p e below s₁ G0 T15 (mkF m 55 #[.val (.ref a1), .val (.ref a2), .val (.ref b2), .val (.int 0), .val (.int 0)] []) := fun t q => k t (st15 _ q)
  replace k := Fw.iinc k X15 hx (hb hby d_prog_52_method_7_55) rfl (z := (1 : Int32)) (by decide) (Ls' := #[.val (.ref a1), .val (.ref a2), .val (.ref b2), .val (.int 1), .val (.int 0)]) rfl (pc' := 58) rfl
  replace k := Fw.goto k X15 hx (hb hby d_prog_52_method_7_58) (by decide) (pc' := 9) rfl
  replace k := Fw.iloadN k X15 hx (hb hby d_prog_52_method_7_9) rfl (pc' := 10) rfl
  have fc16 := ((fc3.keep K12 (allS (Nat.le_trans (old_le O0) gz_b2) all0)).wr W15 pr6)
  obtain ⟨T17, X17, e17, st17⟩ := getS2 X15 hx hZ hown (host := "") (Or.inl (w_97 hw)) Via.refl e15 (pr2.ext fc16.2) (g := (mkF m 10 #[.val (.ref a1), .val (.ref a2), .val (.ref b2), .val (.int 1), .val (.int 0)] [(.int 1)])) rfl (hb hby d_prog_52_method_7_10)
  replace k : Goes p e below s₁ G0 T17 (mkF m 13 #[.val (.ref a1), .val (.ref a2), .val (.ref b2), .val (.int 1), .val (.int 0)] [(.int 14), (.int 1)]) := fun t q => k t (st17 _ q)
  replace k := Fw.ishl k X17 hx (hb hby d_prog_52_method_7_13) (z := (16384 : Int32)) (by decide) (pc' := 14) rfl
  replace k := Fw.aloadN k X17 hx (hb hby d_prog_52_method_7_14) rfl rfl (pc' := 15) rfl
  have fc18 := ((fc5.keep K12 (ninS (Nat.ne_of_lt (Nat.lt_of_lt_of_le pr1.lt gz_b2)) nin0)).other W15 pr7)
  obtain ⟨T19, X19, e19, st19⟩ := getF X17 hx hZ hown (host := "") (Or.inl (w_94 hw)) Via.refl e17 (Ob.at fc18 8 rfl) (g := (mkF m 15 #[.val (.ref a1), .val (.ref a2), .val (.ref b2), .val (.int 1), .val (.int 0)] [(.ref a1), (.int 16384)])) rfl rfl (hb hby d_prog_52_method_7_15)
  replace k : Goes p e below s₁ G0 T19 (mkF m 18 #[.val (.ref a1), .val (.ref a2), .val (.ref b2), .val (.int 1), .val (.int 0)] [(.int 2), (.int 16384)]) := fun t q => k t (st19 _ q)
  replace k := Fw.icmpYes k X19 hx (hb hby d_prog_52_method_7_18) (flt (show ¬ ((16384 : Int32) < (2 : Int32)) from by decide)).2.1 (by decide) (pc' := 61) rfl
  replace k := Fw.aloadN k X19 hx (hb hby d_prog_52_method_7_61) rfl rfl (pc' := 62) rfl
  obtain ⟨fs, hr, hrun, hended, hW, hsame⟩ := X19.leave (v := some (.ref b2)) (fun h => by rw [Bd.returns] at h; cases h)
  refine ⟨_, _, pre0 _ (k _ ?_), hrun, hended, _, _, rfl, ?_, ⟨_, rfl⟩, hW, hsame.mono (by decide) (by decide)⟩
  · show Steps p.tables e below (T19.setTop (mkF m 62 #[.val (.ref a1), .val (.ref a2), .val (.ref b2), .val (.int 1), .val (.int 0)] [(.ref b2)])) _
    jvm_step X19.here [X19.here.top, hx, (hb hby d_prog_52_method_7_62), X19.method', Bd.returns, Value.isRef, FieldType.isReference]
    first | (intro acts; rw [hr _ acts rfl rfl rfl]) | rw [hr _ _ rfl rfl rfl]
    exact Steps.refl _
  · show Q_Statements_moveInto_2 Z a1 a2 a3 a4 a5 a6 a7 a8 k9 a10 k11 p12 p13 h0 n0 _ T19.heap _
    rw [e19]
    exact ⟨b2, kA2, rfl, N15, ((((Keep.refl h0 [a2]).ext E2).trans K12 (allS (Or.inr gz_b2) all0)).wr W15 (Or.inl (List.mem_of_getElem? (i := 0) rfl))), gz_b2, V15, (V12.other W15 (Ne.symm (Nat.ne_of_lt (Nat.lt_of_lt_of_le pr4.lt gz_b2))))⟩
theorem d_prog_52_method_6_30 : decode prog_52_method_6_code 30 = .ok (.putfield 120, 3) := by decide +kernel
theorem w_205 {Z : State} {a0 : Array Value} (hw : ∀ d ∈ tables_1, d.before a0 Z = true) : (Jvm.Cond.fieldLink "com/example/kleinmaschine/kleinmaschine/Statements" (120 : Nat) "com/example/kleinmaschine/kleinmaschine/Statements" "uppers" "[I").before a0 Z = true := hw _ (List.mem_of_getElem? (i := 205) rfl)
theorem d_prog_52_method_6_33 : decode prog_52_method_6_code 33 = .ok (.aload_n 0, 1) := by decide +kernel
theorem d_prog_52_method_6_34 : decode prog_52_method_6_code 34 = .ok (.aconst_null, 1) := by decide +kernel
theorem d_prog_52_method_6_35 : decode prog_52_method_6_code 35 = .ok (.putfield 15, 3) := by decide +kernel
theorem d_prog_52_method_6_38 : decode prog_52_method_6_code 38 = .ok (.aload_n 0, 1) := by decide +kernel
theorem d_prog_52_method_6_39 : decode prog_52_method_6_code 39 = .ok (.aload_n 0, 1) := by decide +kernel
theorem d_prog_52_method_6_40 : decode prog_52_method_6_code 40 = .ok (.aload_n 0, 1) := by decide +kernel
theorem d_prog_52_method_6_41 : decode prog_52_method_6_code 41 = .ok (.getfield 18, 3) := by decide +kernel
theorem d_prog_52_method_6_44 : decode prog_52_method_6_code 44 = .ok (.invokevirtual 113, 3) := by decide +kernel
def Q_Statements_moveInto_3 (Z : State) (a1 : Addr) (a2 : Addr) (a3 : Addr) (a4 : Addr) (a5 : Addr) (a6 : Addr) (a7 : Addr) (a8 : Addr) (k9 : ClassId) (a10 : Addr) (k11 : ClassId) (p12 : Int32) (p13 : Int32) (h0 : Heap) (n0 : Nat) (v : Option Value) (h : Heap) (L : List Loc) : Prop := ∃ (b2 : Addr) (kA2 : ClassId), v = some (.ref b2) ∧ Fr n0 L ∧ Keep h0 h [a2] ∧ h0.size ≤ b2 ∧ Aw Z h a2 "[[I" k9 (.array .int) 16 (updv (fun _ => .null) 0 .null) ∧ Aw Z h b2 "[I" kA2 .int 2 (updv (updv (fun _ => (.int 0)) 0 (.int p12)) 1 (.int p13))
set_option maxRecDepth 65536 in
set_option maxHeartbeats 40000000 in
theorem rm_Statements_moveInto_3 (l : Launch) (Z : State) (a0 : Array Value) (hw : ∀ d ∈ tables_1, d.before a0 Z = true) (ws : List Jvm.Cond) (a1 : Addr) (a2 : Addr) (a3 : Addr) (a4 : Addr) (a5 : Addr) (a6 : Addr) (a7 : Addr) (a8 : Addr) (k9 : ClassId) (a10 : Addr) (k11 : ClassId) (p12 : Int32) (p13 : Int32) (h0 : Heap) (n0 : Nat) (O0 : Old Z n0 h0) (pr1 : Ob Z h0 a1 "com/example/kleinmaschine/kleinmaschine/Statements" [("com/example/kleinmaschine/kleinmaschine/Statements", "headPages", "[[I", .null), ("com/example/kleinmaschine/kleinmaschine/Statements", "upperPages", "[[I", .null), ("com/example/kleinmaschine/kleinmaschine/Statements", "lowerPages", "[[I", (.ref a2)), ("com/example/kleinmaschine/kleinmaschine/Statements", "records", "Lcom/example/kleinmaschine/kleinmaschine/PagedBytes;", (.ref a3)), ("com/example/kleinmaschine/kleinmaschine/Statements", "checkpointPlaces", "[J", (.ref a4)), ("com/example/kleinmaschine/kleinmaschine/Statements", "checkpointLines", "[J", (.ref a5)), ("com/example/kleinmaschine/kleinmaschine/Statements", "checkpointColumns", "[J", (.ref a6)), ("com/example/kleinmaschine/kleinmaschine/Statements", "heads", "[I", (.ref a7)), ("com/example/kleinmaschine/kleinmaschine/Statements", "size", "I", (.int 2)), ("com/example/kleinmaschine/kleinmaschine/Statements", "lastLine", "J", (.long 1)), ("com/example/kleinmaschine/kleinmaschine/Statements", "lastColumn", "J", (.long 1)), ("com/example/kleinmaschine/kleinmaschine/Statements", "uppers", "[I", (.ref a8)), ("com/example/kleinmaschine/kleinmaschine/Statements", "lowers", "[I", .null)]) (pr2 : Sta Z Z.heap "com/example/kleinmaschine/kleinmaschine/Statements" "PAGE_BITS" "I" (.int (14 : Int32))) (pr3 : OvrA Z k9 .int "[I") (pr4 : Aw Z h0 a2 "[[I" k9 (.array .int) 16 (updv (fun _ => .null) 0 (.ref a10))) (pr5 : Aw Z h0 a10 "[I" k11 .int 16384 (updv (updv (fun _ => (.int 0)) 0 (.int p12)) 1 (.int p13))) (pr6 : n0 ≤ a2) (pr7 : a1 ≠ a2) :
    MetFree l (⟨"com/example/kleinmaschine/kleinmaschine/Statements", "moveInto", "([[I)[I"⟩ : MethodName) (head1 (Jvm.Cond.code (⟨"com/example/kleinmaschine/kleinmaschine/Statements", "moveInto", "([[I)[I"⟩ : MethodName) prog_52_method_7_code 5 (some (.array .int)) :: ws) ({ frames := 1, cells := 1, slots := 2, locals := 18 } : Room)) (fun a U => a = #[(.ref a1), (.ref a2)] ∧ Z.Warmed39 U.vm ∧ U.heap = h0) (fun _ _ _ _ _ => True) (fun _ U o U' => ∃ v L, o = .returned v ∧ Q_Statements_moveInto_3 Z a1 a2 a3 a4 a5 a6 a7 a8 k9 a10 k11 p12 p13 h0 n0 v U'.heap L ∧ FrameEnd U o U' L ({ frames := 1, cells := 1, slots := 2, locals := 18 } : Room).cells ({ frames := 1, cells := 1, slots := 2, locals := 18 } : Room).slots) := by
  refine MetFree.of_bodySF (plainFor_of_name pn_Statements) hisR ?_
  intro p e s m args below meth c s₁ Bd hml0 hP hK
  obtain ⟨rfl, hZ, hh⟩ := hP
  have hx := Bd.exec
  have hby := Bd.bytes
  have hml : c.maxLocals = 5 := hml0
  have hown : s.vm.findClass "com/example/kleinmaschine/kleinmaschine/Statements" = some m.cls := findClass_of_methodNamed Bd.named
  have hnm := (name_of_methodNamed Bd.named Bd.method).1
  have X0 : Stand p l e ({ frames := 1, cells := 1, slots := 2, locals := 18 } : Room) s m #[(.ref a1), (.ref a2)] below meth c s₁ [] 0 0 := Stand.of_body Bd
  have e0 : s₁.heap = h0 := by rw [← hh, Bd.state]; rfl
  have N0 := Fr.nil n0
  obtain ⟨G0, hG0⟩ : ∃ z, z = (mkF m 0 #[.val (.ref a1), .val (.ref a2), .unset, .unset, .unset] []) := ⟨_, rfl⟩
  have pre0 : ∀ t, Steps p.tables e below (s₁.setTop G0) t → Steps p.tables e below (s₁.setTop (entryFrame m #[(.ref a1), (.ref a2)] 5)) t := fun t k => castTop (ef_RR_5 m a1 a2) (hG0 ▸ k)
  have k : Goes p e below s₁ G0 s₁ (mkF m 0 #[.val (.ref a1), .val (.ref a2), .unset, .unset, .unset] []) := fun t q => hG0 ▸ q
  replace k := Fw.aloadN k X0 hx (hb hby d_prog_52_method_7_0) rfl rfl (pc' := 1) rfl
  obtain ⟨T1, X1, e1, st1⟩ := getF X0 hx hZ hown (host := "") (Or.inl (w_94 hw)) Via.refl e0 (Ob.at pr1 8 rfl) (g := (mkF m 1 #[.val (.ref a1), .val (.ref a2), .unset, .unset, .unset] [(.ref a1)])) rfl rfl (hb hby d_prog_52_method_7_1)
  replace k : Goes p e below s₁ G0 T1 (mkF m 4 #[.val (.ref a1), .val (.ref a2), .unset, .unset, .unset] [(.int 2)]) := fun t q => k t (st1 _ q)
  obtain ⟨T2, h2, kA2, X2, e2, E2, A2, U2, st2⟩ := newPE (aty := .int) X1 hx hZ (w_99 hw) e1 (g := (mkF m 4 #[.val (.ref a1), .val (.ref a2), .unset, .unset, .unset] [(.int 2)])) rfl (hb hby d_prog_52_method_7_4) rfl (by decide) (cap := 2) (by decide) (by decide) (by decide) (by decide) (ad := "[I") (by decide)
  obtain ⟨b2, g2⟩ : ∃ z, z = h0.size := ⟨_, rfl⟩
  rw [← g2] at A2 U2 st2
  have gz_b2 : h0.size ≤ b2 := Nat.le_trans (Nat.le_refl h0.size) (Nat.le_of_eq g2.symm)
  have V2 : Aw Z h2 b2 "[I" kA2 .int 2 (fun _ => (.int 0)) := Aw.new A2 U2 (by decide) 2 (by decide)
  replace k : Goes p e below s₁ G0 T2 (mkF m 6 #[.val (.ref a1), .val (.ref a2), .unset, .unset, .unset] [(.ref b2)]) := fun t q => k t (st2 _ q)
  replace k := Fw.astoreN k X2 hx (hb hby d_prog_52_method_7_6)  rfl (Ls' := #[.val (.ref a1), .val (.ref a2), .val (.ref b2), .unset, .unset]) rfl (pc' := 7) rfl
  replace k := Fw.iconst k X2 hx (hb hby d_prog_52_method_7_7) (z := (0 : Int32)) (by decide) (pc' := 8) rfl
  replace k := Fw.istoreN k X2 hx (hb hby d_prog_52_method_7_8)  (Ls' := #[.val (.ref a1), .val (.ref a2), .val (.ref b2), .val (.int 0), .unset]) rfl (pc' := 9) rfl
  replace k := Fw.iloadN k X2 hx (hb hby d_prog_52_method_7_9) rfl (pc' := 10) rfl
  have fc3 := (O0.ext E2)
  obtain ⟨T4, X4, e4, st4⟩ := getS2 X2 hx hZ hown (host := "") (Or.inl (w_97 hw)) Via.refl e2 (pr2.ext fc3.2) (g := (mkF m 10 #[.val (.ref a1), .val (.ref a2), .val (.ref b2), .val (.int 0), .unset] [(.int 0)])) rfl (hb hby d_prog_52_method_7_10)
  replace k : Goes p e below s₁ G0 T4 (mkF m 13 #[.val (.ref a1), .val (.ref a2), .val (.ref b2), .val (.int 0), .unset] [(.int 14), (.int 0)]) := fun t q => k t (st4 _ q)
  replace k := Fw.ishl k X4 hx (hb hby d_prog_52_method_7_13) (z := (0 : Int32)) (by decide) (pc' := 14) rfl
  replace k := Fw.aloadN k X4 hx (hb hby d_prog_52_method_7_14) rfl rfl (pc' := 15) rfl
  have fc5 := (pr1.ext E2)
  obtain ⟨T6, X6, e6, st6⟩ := getF X4 hx hZ hown (host := "") (Or.inl (w_94 hw)) Via.refl e4 (Ob.at fc5 8 rfl) (g := (mkF m 15 #[.val (.ref a1), .val (.ref a2), .val (.ref b2), .val (.int 0), .unset] [(.ref a1), (.int 0)])) rfl rfl (hb hby d_prog_52_method_7_15)
  replace k : Goes p e below s₁ G0 T6 (mkF m 18 #[.val (.ref a1), .val (.ref a2), .val (.ref b2), .val (.int 0), .unset] [(.int 2), (.int 0)]) := fun t q => k t (st6 _ q)
  replace k := Fw.icmpNo k X6 hx (hb hby d_prog_52_method_7_18) (tlt (show (0 : Int32) < (2 : Int32) from by decide)).2.1 (pc' := 21) rfl
  replace k := Fw.iloadN k X6 hx (hb hby d_prog_52_method_7_21) rfl (pc' := 22) rfl
  obtain ⟨T7, X7, e7, st7⟩ := getS2 X6 hx hZ hown (host := "") (Or.inl (w_97 hw)) Via.refl e6 (pr2.ext fc3.2) (g := (mkF m 22 #[.val (.ref a1), .val (.ref a2), .val (.ref b2), .val (.int 0), .unset] [(.int 0)])) rfl (hb hby d_prog_52_method_7_22)
  replace k : Goes p e below s₁ G0 T7 (mkF m 25 #[.val (.ref a1), .val (.ref a2), .val (.ref b2), .val (.int 0), .unset] [(.int 14), (.int 0)]) := fun t q => k t (st7 _ q)
  replace k := Fw.ishl k X7 hx (hb hby d_prog_52_method_7_25) (z := (0 : Int32)) (by decide) (pc' := 26) rfl
  replace k := Fw.istore k X7 hx (hb hby d_prog_52_method_7_26)  (Ls' := #[.val (.ref a1), .val (.ref a2), .val (.ref b2), .val (.int 0), .val (.int 0)]) rfl (pc' := 28) rfl
  replace k := Fw.aloadN k X7 hx (hb hby d_prog_52_method_7_28) rfl rfl (pc' := 29) rfl
  replace k := Fw.iloadN k X7 hx (hb hby d_prog_52_method_7_29) rfl (pc' := 30) rfl
  have fc9 := (pr4.ext E2)
  obtain ⟨cl8, Ar8, hin8, hat8, -, -⟩ := Aw.open fc9 (j := (0 : Int32)) 0 (by decide) (by decide) (by decide)
  replace hat8 : cl8.slots[((0 : Int32)).toNatClampNeg]? = some (.ref a10) := hat8
  replace k : Goes p e below s₁ G0 T7 (mkF m 31 #[.val (.ref a1), .val (.ref a2), .val (.ref b2), .val (.int 0), .val (.int 0)] [(.ref a10)]) := fun t q => k t (X7.aaload hx (j := (0 : Int32)) (v := (.ref a10)) (by rw [e7]; exact Ar8.1) (State.isArrayOf_alike hZ.alike Ar8.2.1) rfl Ar8.2.2 hin8 hat8 (g := (mkF m 30 #[.val (.ref a1), .val (.ref a2), .val (.ref b2), .val (.int 0), .val (.int 0)] [(.int 0), (.ref a2)])) rfl rfl (hb hby d_prog_52_method_7_30) _ q)
  replace k := Fw.iconst k X7 hx (hb hby d_prog_52_method_7_31) (z := (0 : Int32)) (by decide) (pc' := 32) rfl
  replace k := Fw.aloadN k X7 hx (hb hby d_prog_52_method_7_32) rfl rfl (pc' := 33) rfl
  replace k := Fw.iload k X7 hx (hb hby d_prog_52_method_7_33) rfl (pc' := 35) rfl
  replace k := Fw.sipush k X7 hx (hb hby d_prog_52_method_7_35) (z := (16384 : Int32)) (by decide) (pc' := 38) rfl
  replace k := Fw.aloadN k X7 hx (hb hby d_prog_52_method_7_38) rfl rfl (pc' := 39) rfl
  obtain ⟨T10, X10, e10, st10⟩ := getF X7 hx hZ hown (host := "") (Or.inl (w_94 hw)) Via.refl e7 (Ob.at fc5 8 rfl) (g := (mkF m 39 #[.val (.ref a1), .val (.ref a2), .val (.ref b2), .val (.int 0), .val (.int 0)] [(.ref a1), (.int 16384), (.int 0), (.ref b2), (.int 0), (.ref a10)])) rfl rfl (hb hby d_prog_52_method_7_39)
  replace k : Goes p e below s₁ G0 T10 (mkF m 42 #[.val (.ref a1), .val (.ref a2), .val (.ref b2), .val (.int 0), .val (.int 0)] [(.int 2), (.int 16384), (.int 0), (.ref b2), (.int 0), (.ref a10)]) := fun t q => k t (st10 _ q)
  replace k := Fw.iload k X10 hx (hb hby d_prog_52_method_7_42) rfl (pc' := 44) rfl
  replace k := Fw.isub k X10 hx (hb hby d_prog_52_method_7_44) (z := (2 : Int32)) (by decide) (pc' := 45) rfl
  obtain ⟨_, _, ⟨T11, L11, kz11, nz11⟩, -, X11, ⟨Lc11, hQ11, l11, y11, z11⟩, st11⟩ := Jvm.LawKit.callS X10 hx (y := (⟨"java/lang/Math", "min", "(II)I"⟩ : MethodName)) hown (mvT hZ (w_198 hw)) (mvT hZ (w_199 hw)) (mvT hZ (w_179 hw)) (mvT hZ (w_200 hw)) (by decide) (backOf (W := 4) (rm_Math_min_1 l Z a0 hw []  h2 n0 fc3 ) hZ (w_200 hw) (w_179 hw) (by decide) (by decide)) (g := (mkF m 45 #[.val (.ref a1), .val (.ref a2), .val (.ref b2), .val (.int 0), .val (.int 0)] [(.int 2), (.int 16384), (.int 0), (.ref b2), (.int 0), (.ref a10)])) rfl (by rw [hml]; rfl) (argsL := [(.int 16384), (.int 2)]) (rest := [(.int 0), (.ref b2), (.int 0), (.ref a10)]) (lenOf pd_II_r_I rfl) rfl (by show 2 * 0 + _ ≤ _; exact Nat.le_of_eq rfl) (hb hby d_prog_52_method_7_45) (fun _ _ => ⟨rfl, e10, (by decide : 1 + 0 ≤ _), (by decide : 2 + 0 ≤ _)⟩)
  dsimp only [Pt.U, Pt.locs, Pt.cells, Pt.slots] at X11 l11 y11 z11 st11 hQ11
  subst l11 y11 z11
  obtain ⟨hv11, N11q, e11⟩ := hQ11
  subst hv11
  have N11 := Fr.app N0 N11q
  replace k : Goes p e below s₁ G0 T11 (mkF m 48 #[.val (.ref a1), .val (.ref a2), .val (.ref b2), .val (.int 0), .val (.int 0)] [(.int 2), (.int 0), (.ref b2), (.int 0), (.ref a10)]) := fun t q => k t (st11 _ q)
  have fc13 := (pr5.ext E2)
  obtain ⟨T12, h12, L12, X12, e12, N12, K12, V12, st12⟩ := cpW X11 hx hZ hown (w_201 hw) (w_204 hw) (w_202 hw) (w_203 hw) e11 fc13 V2 rfl (sp := (0 : Int32)) (dp := (0 : Int32)) (nn := (2 : Int32)) 0 0 2 (by decide) (by decide) (by decide) (by decide) (by decide) (by decide) (by decide) (by decide) N11 (Nat.le_trans (old_le O0) gz_b2) (g := (mkF m 48 #[.val (.ref a1), .val (.ref a2), .val (.ref b2), .val (.int 0), .val (.int 0)] [(.int 2), (.int 0), (.ref b2), (.int 0), (.ref a10)])) rfl (by rw [hml]; rfl) rfl (hb hby d_prog_52_method_7_48) (by decide) (W := 0) (by show 2 * 0 + _ ≤ _; exact Nat.le_of_eq rfl) (by decide)
  replace V12 : Aw Z h12 b2 "[I" kA2 .int 2 (updv (updv (fun _ => (.int 0)) 0 (.int p12)) 1 (.int p13)) := Aw.norm V12 (ltS rfl (ltS rfl ltZ))
  replace k : Goes p e below s₁ G0 T12 (mkF m 51 #[.val (.ref a1), .val (.ref a2), .val (.ref b2), .val (.int 0), .val (.int 0)] []) := fun t q => k t (st12 _ q)
  replace k := Fw.aloadN k X12 hx (hb hby d_prog_52_method_7_51) rfl rfl (pc' := 52) rfl
  replace k := Fw.iloadN k X12 hx (hb hby d_prog_52_method_7_52) rfl (pc' := 53) rfl
  replace k := Fw.aconstNull k X12 hx (hb hby d_prog_52_method_7_53) (pc' := 54) rfl
  have fc14 := (fc9.keep K12 (ninS (Nat.ne_of_lt (Nat.lt_of_lt_of_le pr4.lt gz_b2)) nin0))
  obtain ⟨cl15, Ar15, hin15, -, kq15, -⟩ := Aw.open fc14 (j := (0 : Int32)) 0 (by decide) (by decide) (by decide)
  obtain ⟨T15, h15, X15, e15, W15, st15⟩ := stR X12 hx hZ e12 Ar15 (j := (0 : Int32)) hin15 rfl (Or.inl rfl) (g := (mkF m 54 #[.val (.ref a1), .val (.ref a2), .val (.ref b2), .val (.int 0), .val (.int 0)] [.null, (.int 0), (.ref a2)])) rfl rfl (hb hby d_prog_52_method_7_54)
  have N15 := Fr.snoc X15 N12 pr6
  have V15 : Aw Z h15 a2 "[[I" k9 (.array .int) 16 (updv (fun _ => .null) 0 .null) := Aw.norm (Aw.set fc14 W15 0 (by decide) rfl) (fun j _ => by simp only [updv]; (repeat' split) <;> first | rfl | omega)
  replace k : Goes p e below s₁ G0 T15 (mkF m 55 #[.val (.ref a1), .val (.ref a2), .val (.ref b2), .val (.int 0), .val (.int 0)] []) := fun t q => k t (st15 _ q)
  replace k := Fw.iinc k X15 hx (hb hby d_prog_52_method_7_55) rfl (z := (1 : Int32)) (by decide) (Ls' := #[.val (.ref a1), .val (.ref a2), .val (.ref b2), .val (.int 1), .val (.int 0)]) rfl (pc' := 58) rfl
  replace k := Fw.goto k X15 hx (hb hby d_prog_52_method_7_58) (by decide) (pc' := 9) rfl
  replace k := Fw.iloadN k X15 hx (hb hby d_prog_52_method_7_9) rfl (pc' := 10) rfl
  have fc16 := ((fc3.keep K12 (allS (Nat.le_trans (old_le O0) gz_b2) all0)).wr W15 pr6)
  obtain ⟨T17, X17, e17, st17⟩ := getS2 X15 hx hZ hown (host := "") (Or.inl (w_97 hw)) Via.refl e15 (pr2.ext fc16.2) (g := (mkF m 10 #[.val (.ref a1), .val (.ref a2), .val (.ref b2), .val (.int 1), .val (.int 0)] [(.int 1)])) rfl (hb hby d_prog_52_method_7_10)
  replace k : Goes p e below s₁ G0 T17 (mkF m 13 #[.val (.ref a1), .val (.ref a2), .val (.ref b2), .val (.int 1), .val (.int 0)] [(.int 14), (.int 1)]) := fun t q => k t (st17 _ q)
  replace k := Fw.ishl k X17 hx (hb hby d_prog_52_method_7_13) (z := (16384 : Int32)) (by decide) (pc' := 14) rfl
  replace k := Fw.aloadN k X17 hx (hb hby d_prog_52_method_7_14) rfl rfl (pc' := 15) rfl
  have fc18 := ((fc5.keep K12 (ninS (Nat.ne_of_lt (Nat.lt_of_lt_of_le pr1.lt gz_b2)) nin0)).other W15 pr7)
  obtain ⟨T19, X19, e19, st19⟩ := getF X17 hx hZ hown (host := "") (Or.inl (w_94 hw)) Via.refl e17 (Ob.at fc18 8 rfl) (g := (mkF m 15 #[.val (.ref a1), .val (.ref a2), .val (.ref b2), .val (.int 1), .val (.int 0)] [(.ref a1), (.int 16384)])) rfl rfl (hb hby d_prog_52_method_7_15)
  replace k : Goes p e below s₁ G0 T19 (mkF m 18 #[.val (.ref a1), .val (.ref a2), .val (.ref b2), .val (.int 1), .val (.int 0)] [(.int 2), (.int 16384)]) := fun t q => k t (st19 _ q)
  replace k := Fw.icmpYes k X19 hx (hb hby d_prog_52_method_7_18) (flt (show ¬ ((16384 : Int32) < (2 : Int32)) from by decide)).2.1 (by decide) (pc' := 61) rfl
  replace k := Fw.aloadN k X19 hx (hb hby d_prog_52_method_7_61) rfl rfl (pc' := 62) rfl
  obtain ⟨fs, hr, hrun, hended, hW, hsame⟩ := X19.leave (v := some (.ref b2)) (fun h => by rw [Bd.returns] at h; cases h)
  refine ⟨_, _, pre0 _ (k _ ?_), hrun, hended, _, _, rfl, ?_, ⟨_, rfl⟩, hW, hsame.mono (by decide) (by decide)⟩
  · show Steps p.tables e below (T19.setTop (mkF m 62 #[.val (.ref a1), .val (.ref a2), .val (.ref b2), .val (.int 1), .val (.int 0)] [(.ref b2)])) _
    jvm_step X19.here [X19.here.top, hx, (hb hby d_prog_52_method_7_62), X19.method', Bd.returns, Value.isRef, FieldType.isReference]
    first | (intro acts; rw [hr _ acts rfl rfl rfl]) | rw [hr _ _ rfl rfl rfl]
    exact Steps.refl _
  · show Q_Statements_moveInto_3 Z a1 a2 a3 a4 a5 a6 a7 a8 k9 a10 k11 p12 p13 h0 n0 _ T19.heap _
    rw [e19]
    exact ⟨b2, kA2, rfl, N15, ((((Keep.refl h0 [a2]).ext E2).trans K12 (allS (Or.inr gz_b2) all0)).wr W15 (Or.inl (List.mem_of_getElem? (i := 0) rfl))), gz_b2, V15, (V12.other W15 (Ne.symm (Nat.ne_of_lt (Nat.lt_of_lt_of_le pr4.lt gz_b2))))⟩
theorem d_prog_52_method_6_47 : decode prog_52_method_6_code 47 = .ok (.putfield 123, 3) := by decide +kernel
theorem w_207 {Z : State} {a0 : Array Value} (hw : ∀ d ∈ tables_1, d.before a0 Z = true) : (Jvm.Cond.fieldLink "com/example/kleinmaschine/kleinmaschine/Statements" (123 : Nat) "com/example/kleinmaschine/kleinmaschine/Statements" "lowers" "[I").before a0 Z = true := hw _ (List.mem_of_getElem? (i := 207) rfl)
theorem d_prog_52_method_6_50 : decode prog_52_method_6_code 50 = .ok (.aload_n 0, 1) := by decide +kernel
theorem d_prog_52_method_6_51 : decode prog_52_method_6_code 51 = .ok (.aconst_null, 1) := by decide +kernel
theorem d_prog_52_method_6_52 : decode prog_52_method_6_code 52 = .ok (.putfield 18, 3) := by decide +kernel
theorem d_prog_52_method_6_55 : decode prog_52_method_6_code 55 = .ok (.return_, 1) := by decide +kernel
def Q_Statements_finish_1 (Z : State) (a1 : Addr) (a2 : Addr) (a3 : Addr) (a4 : Addr) (a5 : Addr) (a6 : Addr) (a7 : Addr) (a8 : Addr) (k9 : ClassId) (a10 : Addr) (k11 : ClassId) (k12 : ClassId) (a13 : Addr) (k14 : ClassId) (p15 : Int32) (p16 : Int32) (k17 : ClassId) (a18 : Addr) (k19 : ClassId) (p20 : Int32) (p21 : Int32) (h0 : Heap) (n0 : Nat) (v : Option Value) (h : Heap) (L : List Loc) : Prop := ∃ (b2_3 : Addr) (b2_8 : Addr) (b2_17 : Addr) (kA2_3 : ClassId) (kA2_8 : ClassId) (kA2_17 : ClassId), v = none ∧ Fr n0 L ∧ Keep h0 h [a3, a4, a2, a1] ∧ h0.size ≤ b2_3 ∧ h0.size ≤ b2_8 ∧ h0.size ≤ b2_17 ∧ b2_8 ≠ b2_3 ∧ b2_17 ≠ b2_3 ∧ b2_17 ≠ b2_8 ∧ Aw Z h a3 "[[I" k12 (.array .int) 16 (updv (fun _ => .null) 0 .null) ∧ Aw Z h a4 "[[I" k17 (.array .int) 16 (updv (fun _ => .null) 0 .null) ∧ Aw Z h a2 "[[I" k9 (.array .int) 16 (updv (fun _ => .null) 0 .null) ∧ Ob Z h a1 "com/example/kleinmaschine/kleinmaschine/Statements" [("com/example/kleinmaschine/kleinmaschine/Statements", "headPages", "[[I", .null), ("com/example/kleinmaschine/kleinmaschine/Statements", "upperPages", "[[I", .null), ("com/example/kleinmaschine/kleinmaschine/Statements", "lowerPages", "[[I", .null), ("com/example/kleinmaschine/kleinmaschine/Statements", "records", "Lcom/example/kleinmaschine/kleinmaschine/PagedBytes;", (.ref a5)), ("com/example/kleinmaschine/kleinmaschine/Statements", "checkpointPlaces", "[J", (.ref a6)), ("com/example/kleinmaschine/kleinmaschine/Statements", "checkpointLines", "[J", (.ref a7)), ("com/example/kleinmaschine/kleinmaschine/Statements", "checkpointColumns", "[J", (.ref a8)), ("com/example/kleinmaschine/kleinmaschine/Statements", "heads", "[I", (.ref b2_3)), ("com/example/kleinmaschine/kleinmaschine/Statements", "size", "I", (.int 2)), ("com/example/kleinmaschine/kleinmaschine/Statements", "lastLine", "J", (.long 1)), ("com/example/kleinmaschine/kleinmaschine/Statements", "lastColumn", "J", (.long 1)), ("com/example/kleinmaschine/kleinmaschine/Statements", "uppers", "[I", (.ref b2_8)), ("com/example/kleinmaschine/kleinmaschine/Statements", "lowers", "[I", (.ref b2_17))] ∧ Aw Z h b2_3 "[I" kA2_3 .int 2 (updv (updv (fun _ => (.int 0)) 0 (.int 0)) 1 (.int 0)) ∧ Aw Z h b2_8 "[I" kA2_8 .int 2 (updv (updv (fun _ => (.int 0)) 0 (.int p15)) 1 (.int p16)) ∧ Aw Z h b2_17 "[I" kA2_17 .int 2 (updv (updv (fun _ => (.int 0)) 0 (.int p20)) 1 (.int p21))
set_option maxRecDepth 65536 in
set_option maxHeartbeats 40000000 in
theorem rm_Statements_finish_1 (l : Launch) (Z : State) (a0 : Array Value) (hw : ∀ d ∈ tables_1, d.before a0 Z = true) (ws : List Jvm.Cond) (a1 : Addr) (a2 : Addr) (a3 : Addr) (a4 : Addr) (a5 : Addr) (a6 : Addr) (a7 : Addr) (a8 : Addr) (k9 : ClassId) (a10 : Addr) (k11 : ClassId) (k12 : ClassId) (a13 : Addr) (k14 : ClassId) (p15 : Int32) (p16 : Int32) (k17 : ClassId) (a18 : Addr) (k19 : ClassId) (p20 : Int32) (p21 : Int32) (h0 : Heap) (n0 : Nat) (O0 : Old Z n0 h0) (pr1 : Ob Z h0 a1 "com/example/kleinmaschine/kleinmaschine/Statements" [("com/example/kleinmaschine/kleinmaschine/Statements", "headPages", "[[I", (.ref a2)), ("com/example/kleinmaschine/kleinmaschine/Statements", "upperPages", "[[I", (.ref a3)), ("com/example/kleinmaschine/kleinmaschine/Statements", "lowerPages", "[[I", (.ref a4)), ("com/example/kleinmaschine/kleinmaschine/Statements", "records", "Lcom/example/kleinmaschine/kleinmaschine/PagedBytes;", (.ref a5)), ("com/example/kleinmaschine/kleinmaschine/Statements", "checkpointPlaces", "[J", (.ref a6)), ("com/example/kleinmaschine/kleinmaschine/Statements", "checkpointLines", "[J", (.ref a7)), ("com/example/kleinmaschine/kleinmaschine/Statements", "checkpointColumns", "[J", (.ref a8)), ("com/example/kleinmaschine/kleinmaschine/Statements", "heads", "[I", .null), ("com/example/kleinmaschine/kleinmaschine/Statements", "size", "I", (.int 2)), ("com/example/kleinmaschine/kleinmaschine/Statements", "lastLine", "J", (.long 1)), ("com/example/kleinmaschine/kleinmaschine/Statements", "lastColumn", "J", (.long 1)), ("com/example/kleinmaschine/kleinmaschine/Statements", "uppers", "[I", .null), ("com/example/kleinmaschine/kleinmaschine/Statements", "lowers", "[I", .null)]) (pr2 : OvrA Z k9 .int "[I") (pr3 : Aw Z h0 a2 "[[I" k9 (.array .int) 16 (updv (fun _ => .null) 0 (.ref a10))) (pr4 : Aw Z h0 a10 "[I" k11 .int 16384 (updv (updv (fun _ => (.int 0)) 0 (.int 0)) 1 (.int 0))) (pr5 : n0 ≤ a2) (pr6 : a1 ≠ a2) (pr7 : Sta Z Z.heap "com/example/kleinmaschine/kleinmaschine/Statements" "PAGE_BITS" "I" (.int (14 : Int32))) (pr8 : n0 ≤ a1) (pr9 : OvrA Z k12 .int "[I") (pr10 : Aw Z h0 a3 "[[I" k12 (.array .int) 16 (updv (fun _ => .null) 0 (.ref a13))) (pr11 : Aw Z h0 a13 "[I" k14 .int 16384 (updv (updv (fun _ => (.int 0)) 0 (.int p15)) 1 (.int p16))) (pr12 : n0 ≤ a3) (pr13 : a1 ≠ a3) (pr14 : a3 ≠ a2) (pr15 : a13 ≠ a2) (pr16 : a13 ≠ a1) (pr17 : OvrA Z k17 .int "[I") (pr18 : Aw Z h0 a4 "[[I" k17 (.array .int) 16 (updv (fun _ => .null) 0 (.ref a18))) (pr19 : Aw Z h0 a18 "[I" k19 .int 16384 (updv (updv (fun _ => (.int 0)) 0 (.int p20)) 1 (.int p21))) (pr20 : n0 ≤ a4) (pr21 : a1 ≠ a4) (pr22 : a4 ≠ a2) (pr23 : a4 ≠ a3) (pr24 : a18 ≠ a2) (pr25 : a18 ≠ a1) (pr26 : a18 ≠ a3) :
    MetFree l (⟨"com/example/kleinmaschine/kleinmaschine/Statements", "finish", "()V"⟩ : MethodName) (head1 (Jvm.Cond.code (⟨"com/example/kleinmaschine/kleinmaschine/Statements", "finish", "()V"⟩ : MethodName) prog_52_method_6_code 1 none :: ws) ({ frames := 2, cells := 3, slots := 6, locals := 35 } : Room)) (fun a U => a = #[(.ref a1)] ∧ Z.Warmed39 U.vm ∧ U.heap = h0) (fun _ _ _ _ _ => True) (fun _ U o U' => ∃ v L, o = .returned v ∧ Q_Statements_finish_1 Z a1 a2 a3 a4 a5 a6 a7 a8 k9 a10 k11 k12 a13 k14 p15 p16 k17 a18 k19 p20 p21 h0 n0 v U'.heap L ∧ FrameEnd U o U' L ({ frames := 2, cells := 3, slots := 6, locals := 35 } : Room).cells ({ frames := 2, cells := 3, slots := 6, locals := 35 } : Room).slots) := by
  refine MetFree.of_bodySF (plainFor_of_name pn_Statements) hisR ?_
  intro p e s m args below meth c s₁ Bd hml0 hP hK
  obtain ⟨rfl, hZ, hh⟩ := hP
  have hx := Bd.exec
  have hby := Bd.bytes
  have hml : c.maxLocals = 1 := hml0
  have hown : s.vm.findClass "com/example/kleinmaschine/kleinmaschine/Statements" = some m.cls := findClass_of_methodNamed Bd.named
  have hnm := (name_of_methodNamed Bd.named Bd.method).1
  have X0 : Stand p l e ({ frames := 2, cells := 3, slots := 6, locals := 35 } : Room) s m #[(.ref a1)] below meth c s₁ [] 0 0 := Stand.of_body Bd
  have e0 : s₁.heap = h0 := by rw [← hh, Bd.state]; rfl
  have N0 := Fr.nil n0
  obtain ⟨G0, hG0⟩ : ∃ z, z = (mkF m 0 #[.val (.ref a1)] []) := ⟨_, rfl⟩
  have pre0 : ∀ t, Steps p.tables e below (s₁.setTop G0) t → Steps p.tables e below (s₁.setTop (entryFrame m #[(.ref a1)] 1)) t := fun t k => castTop (ef_R_1 m a1) (hG0 ▸ k)
  have k : Goes p e below s₁ G0 s₁ (mkF m 0 #[.val (.ref a1)] []) := fun t q => hG0 ▸ q
  replace k := Fw.aloadN k X0 hx (hb hby d_prog_52_method_6_0) rfl rfl (pc' := 1) rfl
  obtain ⟨cq1, q1, q1'⟩ := Exa.cell pr1.exa
  obtain ⟨_, _, ⟨T1, L1, kz1, nz1⟩, -, X1, ⟨Lc1, hQ1, l1, y1, z1⟩, st1⟩ := X0.privateBack hx (y := (⟨"com/example/kleinmaschine/kleinmaschine/Statements", "checkAdding", "()V"⟩ : MethodName)) hown (mvT hZ (w_88 hw)) (mvT hZ (w_89 hw)) (Jvm.Kit.selects_private (by decide) (mvT hZ (w_1 hw)) (mvP hZ (w_90 hw)) (mvT hZ (w_89 hw))) (Cond.privateMethod_at (mvP hZ (w_90 hw) (args := #[]))) (mvT hZ (w_91 hw)) (by decide) (backOf (W := 0) (rm_Statements_checkAdding_3 l Z a0 hw [] a1 a2 a3 a4 a5 a6 a7 a8 h0 n0 O0 pr1) hZ (w_91 hw) (w_2 hw) (by decide) (by decide)) (g := (mkF m 1 #[.val (.ref a1)] [(.ref a1)])) rfl (by rw [hml]; rfl) (Steps.refl _) (a := a1) (by rw [e0]; exact q1) q1' (argsL := []) (rest := []) (lenOf pd__r_V rfl) rfl (by show 2 * 0 + _ ≤ _; exact Nat.le_of_eq rfl) (hb hby d_prog_52_method_6_1) (fun _ _ => ⟨rfl, e0, (by decide : 0 + 0 ≤ _), (by decide : 0 + 0 ≤ _)⟩)
  dsimp only [Pt.U, Pt.locs, Pt.cells, Pt.slots] at X1 l1 y1 z1 st1 hQ1
  subst l1 y1 z1
  obtain ⟨hv1, N1q, e1⟩ := hQ1
  subst hv1
  have N1 := Fr.app N0 N1q
  replace k : Goes p e below s₁ G0 T1 (mkF m 4 #[.val (.ref a1)] []) := fun t q => k t (st1.trans q)
  replace k := Fw.aloadN k X1 hx (hb hby d_prog_52_method_6_4) rfl rfl (pc' := 5) rfl
  replace k := Fw.aloadN k X1 hx (hb hby d_prog_52_method_6_5) rfl rfl (pc' := 6) rfl
  replace k := Fw.aloadN k X1 hx (hb hby d_prog_52_method_6_6) rfl rfl (pc' := 7) rfl
  obtain ⟨T2, X2, e2, st2⟩ := getF X1 hx hZ hown (host := "") (Or.inl (w_11 hw)) Via.refl e1 (Ob.at pr1 0 rfl) (g := (mkF m 7 #[.val (.ref a1)] [(.ref a1), (.ref a1), (.ref a1)])) rfl rfl (hb hby d_prog_52_method_6_7)
  replace k : Goes p e below s₁ G0 T2 (mkF m 10 #[.val (.ref a1)] [(.ref a2), (.ref a1), (.ref a1)]) := fun t q => k t (st2 _ q)
  obtain ⟨cq3, q3, q3'⟩ := Exa.cell pr1.exa
  obtain ⟨_, _, ⟨T3, L3, kz3, nz3⟩, -, X3, ⟨Lc3, hQ3, l3, y3, z3⟩, st3⟩ := X2.privateBack hx (y := (⟨"com/example/kleinmaschine/kleinmaschine/Statements", "moveInto", "([[I)[I"⟩ : MethodName)) hown (mvT hZ (w_194 hw)) (mvT hZ (w_195 hw)) (Jvm.Kit.selects_private (by decide) (mvT hZ (w_1 hw)) (mvP hZ (w_196 hw)) (mvT hZ (w_195 hw))) (Cond.privateMethod_at (mvP hZ (w_196 hw) (args := #[]))) (mvT hZ (w_197 hw)) (by decide) (backOf (W := 1) (rm_Statements_moveInto_1 l Z a0 hw [] a1 a2 a3 a4 a5 a6 a7 a8 k9 a10 k11 h0 n0 O0 pr1 pr7 pr2 pr3 pr4 pr5 pr6) hZ (w_197 hw) (w_2 hw) (by decide) (by decide)) (g := (mkF m 10 #[.val (.ref a1)] [(.ref a2), (.ref a1), (.ref a1)])) rfl (by rw [hml]; rfl) (Steps.refl _) (a := a1) (by rw [e2]; exact q3) q3' (argsL := [(.ref a2)]) (rest := [(.ref a1)]) (lenOf pd_AAI_r_AI rfl) rfl (by show 2 * 0 + _ ≤ _; exact Nat.le_of_eq rfl) (hb hby d_prog_52_method_6_10) (fun _ _ => ⟨rfl, e2, (by decide : 0 + 1 ≤ _), (by decide : 0 + 2 ≤ _)⟩)
  dsimp only [Pt.U, Pt.locs, Pt.cells, Pt.slots] at X3 l3 y3 z3 st3 hQ3
  subst l3 y3 z3
  obtain ⟨b2_3, kA2_3, hv3, N3q, K3, f3_0, f3_1, f3_2⟩ := hQ3
  subst hv3
  have N3 := Fr.app N1 N3q
  have gz_b2_3 : h0.size ≤ b2_3 := Nat.le_trans (Nat.le_refl h0.size) f3_0
  replace k : Goes p e below s₁ G0 T3 (mkF m 13 #[.val (.ref a1)] [(.ref b2_3), (.ref a1)]) := fun t q => k t (st3.trans q)
  have fc4 := (pr1.keep K3 (ninS pr6 nin0))
  obtain ⟨T5, h5, X5, e5, W5, st5⟩ := putF X3 hx hZ hown (host := "") (Or.inl (w_92 hw)) Via.refl rfl (Ob.at fc4 7 rfl) fc4.exa (Or.inl (w_93 hw)) (w_1 hw) (ty := (.array .int)) (by decide +kernel) rfl rfl (g := (mkF m 13 #[.val (.ref a1)] [(.ref b2_3), (.ref a1)])) rfl rfl (hb hby d_prog_52_method_6_13)
  have N5 := Fr.snoc X5 N3 pr8
  have O5 : Ob Z h5 a1 "com/example/kleinmaschine/kleinmaschine/Statements" [("com/example/kleinmaschine/kleinmaschine/Statements", "headPages", "[[I", (.ref a2)), ("com/example/kleinmaschine/kleinmaschine/Statements", "upperPages", "[[I", (.ref a3)), ("com/example/kleinmaschine/kleinmaschine/Statements", "lowerPages", "[[I", (.ref a4)), ("com/example/kleinmaschine/kleinmaschine/Statements", "records", "Lcom/example/kleinmaschine/kleinmaschine/PagedBytes;", (.ref a5)), ("com/example/kleinmaschine/kleinmaschine/Statements", "checkpointPlaces", "[J", (.ref a6)), ("com/example/kleinmaschine/kleinmaschine/Statements", "checkpointLines", "[J", (.ref a7)), ("com/example/kleinmaschine/kleinmaschine/Statements", "checkpointColumns", "[J", (.ref a8)), ("com/example/kleinmaschine/kleinmaschine/Statements", "heads", "[I", (.ref b2_3)), ("com/example/kleinmaschine/kleinmaschine/Statements", "size", "I", (.int 2)), ("com/example/kleinmaschine/kleinmaschine/Statements", "lastLine", "J", (.long 1)), ("com/example/kleinmaschine/kleinmaschine/Statements", "lastColumn", "J", (.long 1)), ("com/example/kleinmaschine/kleinmaschine/Statements", "uppers", "[I", .null), ("com/example/kleinmaschine/kleinmaschine/Statements", "lowers", "[I", .null)] := Ob.put fc4 (lay_Statements hw) 7 rfl W5
  replace k : Goes p e below s₁ G0 T5 (mkF m 16 #[.val (.ref a1)] []) := fun t q => k t (st5 _ q)
  replace k := Fw.aloadN k X5 hx (hb hby d_prog_52_method_6_16) rfl rfl (pc' := 17) rfl
  replace k := Fw.aconstNull k X5 hx (hb hby d_prog_52_method_6_17) (pc' := 18) rfl
  obtain ⟨T6, h6, X6, e6, W6, st6⟩ := putF X5 hx hZ hown (host := "") (Or.inl (w_11 hw)) Via.refl e5 (Ob.at O5 0 rfl) O5.exa (Or.inl (w_12 hw)) (w_1 hw) (ty := (.array (.array .int))) (by decide +kernel) rfl rfl (g := (mkF m 18 #[.val (.ref a1)] [.null, (.ref a1)])) rfl rfl (hb hby d_prog_52_method_6_18)
  have N6 := Fr.snoc X6 N5 pr8
  have O6 : Ob Z h6 a1 "com/example/kleinmaschine/kleinmaschine/Statements" [("com/example/kleinmaschine/kleinmaschine/Statements", "headPages", "[[I", .null), ("com/example/kleinmaschine/kleinmaschine/Statements", "upperPages", "[[I", (.ref a3)), ("com/example/kleinmaschine/kleinmaschine/Statements", "lowerPages", "[[I", (.ref a4)), ("com/example/kleinmaschine/kleinmaschine/Statements", "records", "Lcom/example/kleinmaschine/kleinmaschine/PagedBytes;", (.ref a5)), ("com/example/kleinmaschine/kleinmaschine/Statements", "checkpointPlaces", "[J", (.ref a6)), ("com/example/kleinmaschine/kleinmaschine/Statements", "checkpointLines", "[J", (.ref a7)), ("com/example/kleinmaschine/kleinmaschine/Statements", "checkpointColumns", "[J", (.ref a8)), ("com/example/kleinmaschine/kleinmaschine/Statements", "heads", "[I", (.ref b2_3)), ("com/example/kleinmaschine/kleinmaschine/Statements", "size", "I", (.int 2)), ("com/example/kleinmaschine/kleinmaschine/Statements", "lastLine", "J", (.long 1)), ("com/example/kleinmaschine/kleinmaschine/Statements", "lastColumn", "J", (.long 1)), ("com/example/kleinmaschine/kleinmaschine/Statements", "uppers", "[I", .null), ("com/example/kleinmaschine/kleinmaschine/Statements", "lowers", "[I", .null)] := Ob.put O5 (lay_Statements hw) 0 rfl W6
  replace k : Goes p e below s₁ G0 T6 (mkF m 21 #[.val (.ref a1)] []) := fun t q => k t (st6 _ q)
  replace k := Fw.aloadN k X6 hx (hb hby d_prog_52_method_6_21) rfl rfl (pc' := 22) rfl
  replace k := Fw.aloadN k X6 hx (hb hby d_prog_52_method_6_22) rfl rfl (pc' := 23) rfl
  replace k := Fw.aloadN k X6 hx (hb hby d_prog_52_method_6_23) rfl rfl (pc' := 24) rfl
  obtain ⟨T7, X7, e7, st7⟩ := getF X6 hx hZ hown (host := "") (Or.inl (w_13 hw)) Via.refl e6 (Ob.at O6 1 rfl) (g := (mkF m 24 #[.val (.ref a1)] [(.ref a1), (.ref a1), (.ref a1)])) rfl rfl (hb hby d_prog_52_method_6_24)
  replace k : Goes p e below s₁ G0 T7 (mkF m 27 #[.val (.ref a1)] [(.ref a3), (.ref a1), (.ref a1)]) := fun t q => k t (st7 _ q)
  have fc9 := (((pr10.keep K3 (ninS pr14 nin0)).other W5 (Ne.symm pr13)).other W6 (Ne.symm pr13))
  have fc10 := (((pr11.keep K3 (ninS pr15 nin0)).other W5 pr16).other W6 pr16)
  have fc11 := (((O0.keep K3 (allS pr5 all0)).wr W5 pr8).wr W6 pr8)
  obtain ⟨cq8, q8, q8'⟩ := Exa.cell O6.exa
  obtain ⟨_, _, ⟨T8, L8, kz8, nz8⟩, -, X8, ⟨Lc8, hQ8, l8, y8, z8⟩, st8⟩ := X7.privateBack hx (y := (⟨"com/example/kleinmaschine/kleinmaschine/Statements", "moveInto", "([[I)[I"⟩ : MethodName)) hown (mvT hZ (w_194 hw)) (mvT hZ (w_195 hw)) (Jvm.Kit.selects_private (by decide) (mvT hZ (w_1 hw)) (mvP hZ (w_196 hw)) (mvT hZ (w_195 hw))) (Cond.privateMethod_at (mvP hZ (w_196 hw) (args := #[]))) (mvT hZ (w_197 hw)) (by decide) (backOf (W := 1) (rm_Statements_moveInto_2 l Z a0 hw [] a1 a3 a4 a5 a6 a7 a8 b2_3 k12 a13 k14 p15 p16 h6 n0 fc11 O6 pr7 pr9 fc9 fc10 pr12 pr13) hZ (w_197 hw) (w_2 hw) (by decide) (by decide)) (g := (mkF m 27 #[.val (.ref a1)] [(.ref a3), (.ref a1), (.ref a1)])) rfl (by rw [hml]; rfl) (Steps.refl _) (a := a1) (by rw [e7]; exact q8) q8' (argsL := [(.ref a3)]) (rest := [(.ref a1)]) (lenOf pd_AAI_r_AI rfl) rfl (by show 2 * 0 + _ ≤ _; exact Nat.le_of_eq rfl) (hb hby d_prog_52_method_6_27) (fun _ _ => ⟨rfl, e7, (by decide : 1 + 1 ≤ _), (by decide : 2 + 2 ≤ _)⟩)
  dsimp only [Pt.U, Pt.locs, Pt.cells, Pt.slots] at X8 l8 y8 z8 st8 hQ8
  subst l8 y8 z8
  obtain ⟨b2_8, kA2_8, hv8, N8q, K8, f8_0, f8_1, f8_2⟩ := hQ8
  subst hv8
  have N8 := Fr.app N6 N8q
  have fc12 := (Nat.le_trans (Nat.le_trans (Nat.le_trans (Nat.le_refl h0.size) K3.1) (Nat.le_of_eq (Wr.size W5).symm)) (Nat.le_of_eq (Wr.size W6).symm))
  have gz_b2_8 : h0.size ≤ b2_8 := Nat.le_trans fc12 f8_0
  replace k : Goes p e below s₁ G0 T8 (mkF m 30 #[.val (.ref a1)] [(.ref b2_8), (.ref a1)]) := fun t q => k t (st8.trans q)
  have fc13 := (O6.keep K8 (ninS pr13 nin0))
  obtain ⟨T14, h14, X14, e14, W14, st14⟩ := putF X8 hx hZ hown (host := "") (Or.inl (w_205 hw)) Via.refl rfl (Ob.at fc13 11 rfl) fc13.exa (Or.inl (w_206 hw)) (w_1 hw) (ty := (.array .int)) (by decide +kernel) rfl rfl (g := (mkF m 30 #[.val (.ref a1)] [(.ref b2_8), (.ref a1)])) rfl rfl (hb hby d_prog_52_method_6_30)
  have N14 := Fr.snoc X14 N8 pr8
  have O14 : Ob Z h14 a1 "com/example/kleinmaschine/kleinmaschine/Statements" [("com/example/kleinmaschine/kleinmaschine/Statements", "headPages", "[[I", .null), ("com/example/kleinmaschine/kleinmaschine/Statements", "upperPages", "[[I", (.ref a3)), ("com/example/kleinmaschine/kleinmaschine/Statements", "lowerPages", "[[I", (.ref a4)), ("com/example/kleinmaschine/kleinmaschine/Statements", "records", "Lcom/example/kleinmaschine/kleinmaschine/PagedBytes;", (.ref a5)), ("com/example/kleinmaschine/kleinmaschine/Statements", "checkpointPlaces", "[J", (.ref a6)), ("com/example/kleinmaschine/kleinmaschine/Statements", "checkpointLines", "[J", (.ref a7)), ("com/example/kleinmaschine/kleinmaschine/Statements", "checkpointColumns", "[J", (.ref a8)), ("com/example/kleinmaschine/kleinmaschine/Statements", "heads", "[I", (.ref b2_3)), ("com/example/kleinmaschine/kleinmaschine/Statements", "size", "I", (.int 2)), ("com/example/kleinmaschine/kleinmaschine/Statements", "lastLine", "J", (.long 1)), ("com/example/kleinmaschine/kleinmaschine/Statements", "lastColumn", "J", (.long 1)), ("com/example/kleinmaschine/kleinmaschine/Statements", "uppers", "[I", (.ref b2_8)), ("com/example/kleinmaschine/kleinmaschine/Statements", "lowers", "[I", .null)] := Ob.put fc13 (lay_Statements hw) 11 rfl W14
  replace k : Goes p e below s₁ G0 T14 (mkF m 33 #[.val (.ref a1)] []) := fun t q => k t (st14 _ q)
  replace k := Fw.aloadN k X14 hx (hb hby d_prog_52_method_6_33) rfl rfl (pc' := 34) rfl
  replace k := Fw.aconstNull k X14 hx (hb hby d_prog_52_method_6_34) (pc' := 35) rfl
  obtain ⟨T15, h15, X15, e15, W15, st15⟩ := putF X14 hx hZ hown (host := "") (Or.inl (w_13 hw)) Via.refl e14 (Ob.at O14 1 rfl) O14.exa (Or.inl (w_14 hw)) (w_1 hw) (ty := (.array (.array .int))) (by decide +kernel) rfl rfl (g := (mkF m 35 #[.val (.ref a1)] [.null, (.ref a1)])) rfl rfl (hb hby d_prog_52_method_6_35)
  have N15 := Fr.snoc X15 N14 pr8
  have O15 : Ob Z h15 a1 "com/example/kleinmaschine/kleinmaschine/Statements" [("com/example/kleinmaschine/kleinmaschine/Statements", "headPages", "[[I", .null), ("com/example/kleinmaschine/kleinmaschine/Statements", "upperPages", "[[I", .null), ("com/example/kleinmaschine/kleinmaschine/Statements", "lowerPages", "[[I", (.ref a4)), ("com/example/kleinmaschine/kleinmaschine/Statements", "records", "Lcom/example/kleinmaschine/kleinmaschine/PagedBytes;", (.ref a5)), ("com/example/kleinmaschine/kleinmaschine/Statements", "checkpointPlaces", "[J", (.ref a6)), ("com/example/kleinmaschine/kleinmaschine/Statements", "checkpointLines", "[J", (.ref a7)), ("com/example/kleinmaschine/kleinmaschine/Statements", "checkpointColumns", "[J", (.ref a8)), ("com/example/kleinmaschine/kleinmaschine/Statements", "heads", "[I", (.ref b2_3)), ("com/example/kleinmaschine/kleinmaschine/Statements", "size", "I", (.int 2)), ("com/example/kleinmaschine/kleinmaschine/Statements", "lastLine", "J", (.long 1)), ("com/example/kleinmaschine/kleinmaschine/Statements", "lastColumn", "J", (.long 1)), ("com/example/kleinmaschine/kleinmaschine/Statements", "uppers", "[I", (.ref b2_8)), ("com/example/kleinmaschine/kleinmaschine/Statements", "lowers", "[I", .null)] := Ob.put O14 (lay_Statements hw) 1 rfl W15
  replace k : Goes p e below s₁ G0 T15 (mkF m 38 #[.val (.ref a1)] []) := fun t q => k t (st15 _ q)
  replace k := Fw.aloadN k X15 hx (hb hby d_prog_52_method_6_38) rfl rfl (pc' := 39) rfl
  replace k := Fw.aloadN k X15 hx (hb hby d_prog_52_method_6_39) rfl rfl (pc' := 40) rfl
  replace k := Fw.aloadN k X15 hx (hb hby d_prog_52_method_6_40) rfl rfl (pc' := 41) rfl
  obtain ⟨T16, X16, e16, st16⟩ := getF X15 hx hZ hown (host := "") (Or.inl (w_15 hw)) Via.refl e15 (Ob.at O15 2 rfl) (g := (mkF m 41 #[.val (.ref a1)] [(.ref a1), (.ref a1), (.ref a1)])) rfl rfl (hb hby d_prog_52_method_6_41)
  replace k : Goes p e below s₁ G0 T16 (mkF m 44 #[.val (.ref a1)] [(.ref a4), (.ref a1), (.ref a1)]) := fun t q => k t (st16 _ q)
  have fc18 := ((((((pr18.keep K3 (ninS pr22 nin0)).other W5 (Ne.symm pr21)).other W6 (Ne.symm pr21)).keep K8 (ninS pr23 nin0)).other W14 (Ne.symm pr21)).other W15 (Ne.symm pr21))
  have fc19 := ((((((pr19.keep K3 (ninS pr24 nin0)).other W5 pr25).other W6 pr25).keep K8 (ninS pr26 nin0)).other W14 pr25).other W15 pr25)
  have fc20 := (((fc11.keep K8 (allS pr12 all0)).wr W14 pr8).wr W15 pr8)
  obtain ⟨cq17, q17, q17'⟩ := Exa.cell O15.exa
  obtain ⟨_, _, ⟨T17, L17, kz17, nz17⟩, -, X17, ⟨Lc17, hQ17, l17, y17, z17⟩, st17⟩ := X16.privateBack hx (y := (⟨"com/example/kleinmaschine/kleinmaschine/Statements", "moveInto", "([[I)[I"⟩ : MethodName)) hown (mvT hZ (w_194 hw)) (mvT hZ (w_195 hw)) (Jvm.Kit.selects_private (by decide) (mvT hZ (w_1 hw)) (mvP hZ (w_196 hw)) (mvT hZ (w_195 hw))) (Cond.privateMethod_at (mvP hZ (w_196 hw) (args := #[]))) (mvT hZ (w_197 hw)) (by decide) (backOf (W := 1) (rm_Statements_moveInto_3 l Z a0 hw [] a1 a4 a5 a6 a7 a8 b2_3 b2_8 k17 a18 k19 p20 p21 h15 n0 fc20 O15 pr7 pr17 fc18 fc19 pr20 pr21) hZ (w_197 hw) (w_2 hw) (by decide) (by decide)) (g := (mkF m 44 #[.val (.ref a1)] [(.ref a4), (.ref a1), (.ref a1)])) rfl (by rw [hml]; rfl) (Steps.refl _) (a := a1) (by rw [e16]; exact q17) q17' (argsL := [(.ref a4)]) (rest := [(.ref a1)]) (lenOf pd_AAI_r_AI rfl) rfl (by show 2 * 0 + _ ≤ _; exact Nat.le_of_eq rfl) (hb hby d_prog_52_method_6_44) (fun _ _ => ⟨rfl, e16, (by decide : 2 + 1 ≤ _), (by decide : 4 + 2 ≤ _)⟩)
  dsimp only [Pt.U, Pt.locs, Pt.cells, Pt.slots] at X17 l17 y17 z17 st17 hQ17
  subst l17 y17 z17
  obtain ⟨b2_17, kA2_17, hv17, N17q, K17, f17_0, f17_1, f17_2⟩ := hQ17
  subst hv17
  have N17 := Fr.app N15 N17q
  have fc21 := (Nat.le_trans (Nat.le_trans (Nat.le_trans fc12 K8.1) (Nat.le_of_eq (Wr.size W14).symm)) (Nat.le_of_eq (Wr.size W15).symm))
  have gz_b2_17 : h0.size ≤ b2_17 := Nat.le_trans fc21 f17_0
  replace k : Goes p e below s₁ G0 T17 (mkF m 47 #[.val (.ref a1)] [(.ref b2_17), (.ref a1)]) := fun t q => k t (st17.trans q)
  have fc22 := (O15.keep K17 (ninS pr21 nin0))
  obtain ⟨T23, h23, X23, e23, W23, st23⟩ := putF X17 hx hZ hown (host := "") (Or.inl (w_207 hw)) Via.refl rfl (Ob.at fc22 12 rfl) fc22.exa (Or.inl (w_208 hw)) (w_1 hw) (ty := (.array .int)) (by decide +kernel) rfl rfl (g := (mkF m 47 #[.val (.ref a1)] [(.ref b2_17), (.ref a1)])) rfl rfl (hb hby d_prog_52_method_6_47)
  have N23 := Fr.snoc X23 N17 pr8
  have O23 : Ob Z h23 a1 "com/example/kleinmaschine/kleinmaschine/Statements" [("com/example/kleinmaschine/kleinmaschine/Statements", "headPages", "[[I", .null), ("com/example/kleinmaschine/kleinmaschine/Statements", "upperPages", "[[I", .null), ("com/example/kleinmaschine/kleinmaschine/Statements", "lowerPages", "[[I", (.ref a4)), ("com/example/kleinmaschine/kleinmaschine/Statements", "records", "Lcom/example/kleinmaschine/kleinmaschine/PagedBytes;", (.ref a5)), ("com/example/kleinmaschine/kleinmaschine/Statements", "checkpointPlaces", "[J", (.ref a6)), ("com/example/kleinmaschine/kleinmaschine/Statements", "checkpointLines", "[J", (.ref a7)), ("com/example/kleinmaschine/kleinmaschine/Statements", "checkpointColumns", "[J", (.ref a8)), ("com/example/kleinmaschine/kleinmaschine/Statements", "heads", "[I", (.ref b2_3)), ("com/example/kleinmaschine/kleinmaschine/Statements", "size", "I", (.int 2)), ("com/example/kleinmaschine/kleinmaschine/Statements", "lastLine", "J", (.long 1)), ("com/example/kleinmaschine/kleinmaschine/Statements", "lastColumn", "J", (.long 1)), ("com/example/kleinmaschine/kleinmaschine/Statements", "uppers", "[I", (.ref b2_8)), ("com/example/kleinmaschine/kleinmaschine/Statements", "lowers", "[I", (.ref b2_17))] := Ob.put fc22 (lay_Statements hw) 12 rfl W23
  replace k : Goes p e below s₁ G0 T23 (mkF m 50 #[.val (.ref a1)] []) := fun t q => k t (st23 _ q)
  replace k := Fw.aloadN k X23 hx (hb hby d_prog_52_method_6_50) rfl rfl (pc' := 51) rfl
  replace k := Fw.aconstNull k X23 hx (hb hby d_prog_52_method_6_51) (pc' := 52) rfl
  obtain ⟨T24, h24, X24, e24, W24, st24⟩ := putF X23 hx hZ hown (host := "") (Or.inl (w_15 hw)) Via.refl e23 (Ob.at O23 2 rfl) O23.exa (Or.inl (w_16 hw)) (w_1 hw) (ty := (.array (.array .int))) (by decide +kernel) rfl rfl (g := (mkF m 52 #[.val (.ref a1)] [.null, (.ref a1)])) rfl rfl (hb hby d_prog_52_method_6_52)
  have N24 := Fr.snoc X24 N23 pr8
  have O24 : Ob Z h24 a1 "com/example/kleinmaschine/kleinmaschine/Statements" [("com/example/kleinmaschine/kleinmaschine/Statements", "headPages", "[[I", .null), ("com/example/kleinmaschine/kleinmaschine/Statements", "upperPages", "[[I", .null), ("com/example/kleinmaschine/kleinmaschine/Statements", "lowerPages", "[[I", .null), ("com/example/kleinmaschine/kleinmaschine/Statements", "records", "Lcom/example/kleinmaschine/kleinmaschine/PagedBytes;", (.ref a5)), ("com/example/kleinmaschine/kleinmaschine/Statements", "checkpointPlaces", "[J", (.ref a6)), ("com/example/kleinmaschine/kleinmaschine/Statements", "checkpointLines", "[J", (.ref a7)), ("com/example/kleinmaschine/kleinmaschine/Statements", "checkpointColumns", "[J", (.ref a8)), ("com/example/kleinmaschine/kleinmaschine/Statements", "heads", "[I", (.ref b2_3)), ("com/example/kleinmaschine/kleinmaschine/Statements", "size", "I", (.int 2)), ("com/example/kleinmaschine/kleinmaschine/Statements", "lastLine", "J", (.long 1)), ("com/example/kleinmaschine/kleinmaschine/Statements", "lastColumn", "J", (.long 1)), ("com/example/kleinmaschine/kleinmaschine/Statements", "uppers", "[I", (.ref b2_8)), ("com/example/kleinmaschine/kleinmaschine/Statements", "lowers", "[I", (.ref b2_17))] := Ob.put O23 (lay_Statements hw) 2 rfl W24
  replace k : Goes p e below s₁ G0 T24 (mkF m 55 #[.val (.ref a1)] []) := fun t q => k t (st24 _ q)
  obtain ⟨fs, hr, hrun, hended, hW, hsame⟩ := X24.leave (v := none) (fun _ => rfl)
  refine ⟨_, _, pre0 _ (k _ ?_), hrun, hended, _, _, rfl, ?_, ⟨_, rfl⟩, hW, hsame.mono (by decide) (by decide)⟩
  · exact X24.returnOut hx Bd.returns (hb hby d_prog_52_method_6_55) hr
  · show Q_Statements_finish_1 Z a1 a2 a3 a4 a5 a6 a7 a8 k9 a10 k11 k12 a13 k14 p15 p16 k17 a18 k19 p20 p21 h0 n0 _ T24.heap _
    rw [e24]
    exact ⟨b2_3, b2_8, b2_17, kA2_3, kA2_8, kA2_17, rfl, N24, ((((((((((Keep.refl h0 [a3, a4, a2, a1]).trans K3 (allS (Or.inl (List.mem_of_getElem? (i := 2) rfl)) all0)).wr W5 (Or.inl (List.mem_of_getElem? (i := 3) rfl))).wr W6 (Or.inl (List.mem_of_getElem? (i := 3) rfl))).trans K8 (allS (Or.inl (List.mem_of_getElem? (i := 0) rfl)) all0)).wr W14 (Or.inl (List.mem_of_getElem? (i := 3) rfl))).wr W15 (Or.inl (List.mem_of_getElem? (i := 3) rfl))).trans K17 (allS (Or.inl (List.mem_of_getElem? (i := 1) rfl)) all0)).wr W23 (Or.inl (List.mem_of_getElem? (i := 3) rfl))).wr W24 (Or.inl (List.mem_of_getElem? (i := 3) rfl))), gz_b2_3, gz_b2_8, gz_b2_17, (Ne.symm (Nat.ne_of_lt (Nat.lt_of_lt_of_le ((f3_2.other W5 (Ne.symm (Nat.ne_of_lt (Nat.lt_of_lt_of_le pr1.lt gz_b2_3)))).other W6 (Ne.symm (Nat.ne_of_lt (Nat.lt_of_lt_of_le pr1.lt gz_b2_3)))).lt f8_0))), (Ne.symm (Nat.ne_of_lt (Nat.lt_of_lt_of_le (((((f3_2.other W5 (Ne.symm (Nat.ne_of_lt (Nat.lt_of_lt_of_le pr1.lt gz_b2_3)))).other W6 (Ne.symm (Nat.ne_of_lt (Nat.lt_of_lt_of_le pr1.lt gz_b2_3)))).keep K8 (ninS (Ne.symm (Nat.ne_of_lt (Nat.lt_of_lt_of_le pr10.lt gz_b2_3))) nin0)).other W14 (Ne.symm (Nat.ne_of_lt (Nat.lt_of_lt_of_le pr1.lt gz_b2_3)))).other W15 (Ne.symm (Nat.ne_of_lt (Nat.lt_of_lt_of_le pr1.lt gz_b2_3)))).lt f17_0))), (Ne.symm (Nat.ne_of_lt (Nat.lt_of_lt_of_le ((f8_2.other W14 (Ne.symm (Nat.ne_of_lt (Nat.lt_of_lt_of_le pr1.lt gz_b2_8)))).other W15 (Ne.symm (Nat.ne_of_lt (Nat.lt_of_lt_of_le pr1.lt gz_b2_8)))).lt f17_0))), (((((f8_1.other W14 (Ne.symm pr13)).other W15 (Ne.symm pr13)).keep K17 (ninS (Ne.symm pr23) nin0)).other W23 (Ne.symm pr13)).other W24 (Ne.symm pr13)), ((f17_1.other W23 (Ne.symm pr21)).other W24 (Ne.symm pr21)), ((((((((f3_1.other W5 (Ne.symm pr6)).other W6 (Ne.symm pr6)).keep K8 (ninS (Ne.symm pr14) nin0)).other W14 (Ne.symm pr6)).other W15 (Ne.symm pr6)).keep K17 (ninS (Ne.symm pr22) nin0)).other W23 (Ne.symm pr6)).other W24 (Ne.symm pr6)), O24, ((((((((f3_2.other W5 (Ne.symm (Nat.ne_of_lt (Nat.lt_of_lt_of_le pr1.lt gz_b2_3)))).other W6 (Ne.symm (Nat.ne_of_lt (Nat.lt_of_lt_of_le pr1.lt gz_b2_3)))).keep K8 (ninS (Ne.symm (Nat.ne_of_lt (Nat.lt_of_lt_of_le pr10.lt gz_b2_3))) nin0)).other W14 (Ne.symm (Nat.ne_of_lt (Nat.lt_of_lt_of_le pr1.lt gz_b2_3)))).other W15 (Ne.symm (Nat.ne_of_lt (Nat.lt_of_lt_of_le pr1.lt gz_b2_3)))).keep K17 (ninS (Ne.symm (Nat.ne_of_lt (Nat.lt_of_lt_of_le pr18.lt gz_b2_3))) nin0)).other W23 (Ne.symm (Nat.ne_of_lt (Nat.lt_of_lt_of_le pr1.lt gz_b2_3)))).other W24 (Ne.symm (Nat.ne_of_lt (Nat.lt_of_lt_of_le pr1.lt gz_b2_3)))), (((((f8_2.other W14 (Ne.symm (Nat.ne_of_lt (Nat.lt_of_lt_of_le pr1.lt gz_b2_8)))).other W15 (Ne.symm (Nat.ne_of_lt (Nat.lt_of_lt_of_le pr1.lt gz_b2_8)))).keep K17 (ninS (Ne.symm (Nat.ne_of_lt (Nat.lt_of_lt_of_le pr18.lt gz_b2_8))) nin0)).other W23 (Ne.symm (Nat.ne_of_lt (Nat.lt_of_lt_of_le pr1.lt gz_b2_8)))).other W24 (Ne.symm (Nat.ne_of_lt (Nat.lt_of_lt_of_le pr1.lt gz_b2_8)))), ((f17_2.other W23 (Ne.symm (Nat.ne_of_lt (Nat.lt_of_lt_of_le pr1.lt gz_b2_17)))).other W24 (Ne.symm (Nat.ne_of_lt (Nat.lt_of_lt_of_le pr1.lt gz_b2_17))))⟩
theorem w_189 {Z : State} {a0 : Array Value} (hw : ∀ d ∈ tables_1, d.before a0 Z = true) : (Jvm.Cond.methodLink "com/example/kleinmaschine/kleinmaschine/StatementsOperandPinLaw" (23 : Nat) ({ cls := "com/example/kleinmaschine/kleinmaschine/Statements", name := "finish", desc := "()V" } : Jvm.MethodName)).before a0 Z = true := hw _ (List.mem_of_getElem? (i := 189) rfl)
theorem w_193 {Z : State} {a0 : Array Value} (hw : ∀ d ∈ tables_1, d.before a0 Z = true) : (Jvm.Cond.code ({ cls := "com/example/kleinmaschine/kleinmaschine/Statements", name := "finish", desc := "()V" } : Jvm.MethodName) prog_52_method_6_code (1 : Nat) (Option.none : Option Jvm.ClassFile.FieldType)).before a0 Z = true := hw _ (List.mem_of_getElem? (i := 193) rfl)
theorem w_192 {Z : State} {a0 : Array Value} (hw : ∀ d ∈ tables_1, d.before a0 Z = true) : (Jvm.Cond.selects "com/example/kleinmaschine/kleinmaschine/Statements" ({ cls := "com/example/kleinmaschine/kleinmaschine/Statements", name := "finish", desc := "()V" } : Jvm.MethodName) ({ cls := "com/example/kleinmaschine/kleinmaschine/Statements", name := "finish", desc := "()V" } : Jvm.MethodName)).before a0 Z = true := hw _ (List.mem_of_getElem? (i := 192) rfl)
theorem w_190 {Z : State} {a0 : Array Value} (hw : ∀ d ∈ tables_1, d.before a0 Z = true) : (Jvm.Cond.declares ({ cls := "com/example/kleinmaschine/kleinmaschine/Statements", name := "finish", desc := "()V" } : Jvm.MethodName)).before a0 Z = true := hw _ (List.mem_of_getElem? (i := 190) rfl)
theorem w_191 {Z : State} {a0 : Array Value} (hw : ∀ d ∈ tables_1, d.before a0 Z = true) : (Jvm.Cond.instanceMethod ({ cls := "com/example/kleinmaschine/kleinmaschine/Statements", name := "finish", desc := "()V" } : Jvm.MethodName)).before a0 Z = true := hw _ (List.mem_of_getElem? (i := 191) rfl)
theorem d_prog_52_method_10_0 : decode prog_52_method_10_code 0 = .ok (.aload_n 0, 1) := by decide +kernel
theorem d_prog_52_method_10_1 : decode prog_52_method_10_code 1 = .ok (.getfield 120, 3) := by decide +kernel
theorem d_prog_52_method_10_4 : decode prog_52_method_10_code 4 = .ok (.iload_n 1, 1) := by decide +kernel
theorem d_prog_52_method_10_5 : decode prog_52_method_10_code 5 = .ok (.iaload, 1) := by decide +kernel
theorem d_prog_52_method_10_6 : decode prog_52_method_10_code 6 = .ok (.i2l, 1) := by decide +kernel
theorem d_prog_52_method_10_7 : decode prog_52_method_10_code 7 = .ok (.bipush 32, 2) := by decide +kernel
theorem d_prog_52_method_10_9 : decode prog_52_method_10_code 9 = .ok (.lshl, 1) := by decide +kernel
theorem d_prog_52_method_10_10 : decode prog_52_method_10_code 10 = .ok (.aload_n 0, 1) := by decide +kernel
theorem d_prog_52_method_10_11 : decode prog_52_method_10_code 11 = .ok (.getfield 123, 3) := by decide +kernel
theorem d_prog_52_method_10_14 : decode prog_52_method_10_code 14 = .ok (.iload_n 1, 1) := by decide +kernel
theorem d_prog_52_method_10_15 : decode prog_52_method_10_code 15 = .ok (.iaload, 1) := by decide +kernel
theorem d_prog_52_method_10_16 : decode prog_52_method_10_code 16 = .ok (.i2l, 1) := by decide +kernel
theorem d_prog_52_method_10_17 : decode prog_52_method_10_code 17 = .ok (.ldc2_w 137, 3) := by decide +kernel
theorem w_214 {Z : State} {a0 : Array Value} (hw : ∀ d ∈ tables_1, d.before a0 Z = true) : (Jvm.Cond.constantLong "com/example/kleinmaschine/kleinmaschine/Statements" (137 : Nat) (4294967295 : Int64)).before a0 Z = true := hw _ (List.mem_of_getElem? (i := 214) rfl)
theorem d_prog_52_method_10_20 : decode prog_52_method_10_code 20 = .ok (.land, 1) := by decide +kernel
theorem d_prog_52_method_10_21 : decode prog_52_method_10_code 21 = .ok (.lor, 1) := by decide +kernel
theorem d_prog_52_method_10_22 : decode prog_52_method_10_code 22 = .ok (.lreturn, 1) := by decide +kernel
def Q_Statements_operand_1 (Z : State) (a1 : Addr) (a2 : Addr) (a3 : Addr) (a4 : Addr) (a5 : Addr) (a6 : Addr) (a7 : Addr) (a8 : Addr) (k9 : ClassId) (p10 : Int32) (p11 : Int32) (k12 : ClassId) (p13 : Int32) (p14 : Int32) (h0 : Heap) (n0 : Nat) (v : Option Value) (h : Heap) (L : List Loc) : Prop := v = some (.long (((p10.toInt64) <<< ((32 : Int32) &&& 0x3f).toInt64) ||| ((p13.toInt64) &&& (4294967295 : Int64)))) ∧ Fr n0 L ∧ h = h0
set_option maxRecDepth 65536 in
set_option maxHeartbeats 40000000 in
theorem rm_Statements_operand_1 (l : Launch) (Z : State) (a0 : Array Value) (hw : ∀ d ∈ tables_1, d.before a0 Z = true) (ws : List Jvm.Cond) (a1 : Addr) (a2 : Addr) (a3 : Addr) (a4 : Addr) (a5 : Addr) (a6 : Addr) (a7 : Addr) (a8 : Addr) (k9 : ClassId) (p10 : Int32) (p11 : Int32) (k12 : ClassId) (p13 : Int32) (p14 : Int32) (h0 : Heap) (n0 : Nat) (O0 : Old Z n0 h0) (pr1 : Ob Z h0 a1 "com/example/kleinmaschine/kleinmaschine/Statements" [("com/example/kleinmaschine/kleinmaschine/Statements", "headPages", "[[I", .null), ("com/example/kleinmaschine/kleinmaschine/Statements", "upperPages", "[[I", .null), ("com/example/kleinmaschine/kleinmaschine/Statements", "lowerPages", "[[I", .null), ("com/example/kleinmaschine/kleinmaschine/Statements", "records", "Lcom/example/kleinmaschine/kleinmaschine/PagedBytes;", (.ref a2)), ("com/example/kleinmaschine/kleinmaschine/Statements", "checkpointPlaces", "[J", (.ref a3)), ("com/example/kleinmaschine/kleinmaschine/Statements", "checkpointLines", "[J", (.ref a4)), ("com/example/kleinmaschine/kleinmaschine/Statements", "checkpointColumns", "[J", (.ref a5)), ("com/example/kleinmaschine/kleinmaschine/Statements", "heads", "[I", (.ref a6)), ("com/example/kleinmaschine/kleinmaschine/Statements", "size", "I", (.int 2)), ("com/example/kleinmaschine/kleinmaschine/Statements", "lastLine", "J", (.long 1)), ("com/example/kleinmaschine/kleinmaschine/Statements", "lastColumn", "J", (.long 1)), ("com/example/kleinmaschine/kleinmaschine/Statements", "uppers", "[I", (.ref a7)), ("com/example/kleinmaschine/kleinmaschine/Statements", "lowers", "[I", (.ref a8))]) (pr2 : Aw Z h0 a7 "[I" k9 .int 2 (updv (updv (fun _ => (.int 0)) 0 (.int p10)) 1 (.int p11))) (pr3 : Aw Z h0 a8 "[I" k12 .int 2 (updv (updv (fun _ => (.int 0)) 0 (.int p13)) 1 (.int p14))) :
    MetFree l (⟨"com/example/kleinmaschine/kleinmaschine/Statements", "operand", "(I)J"⟩ : MethodName) (head1 (Jvm.Cond.code (⟨"com/example/kleinmaschine/kleinmaschine/Statements", "operand", "(I)J"⟩ : MethodName) prog_52_method_10_code 2 (some .long) :: ws) ({ frames := 0, cells := 0, slots := 0, locals := 0 } : Room)) (fun a U => a = #[(.ref a1), (.int 0)] ∧ Z.Warmed39 U.vm ∧ U.heap = h0) (fun _ _ _ _ _ => True) (fun _ U o U' => ∃ v L, o = .returned v ∧ Q_Statements_operand_1 Z a1 a2 a3 a4 a5 a6 a7 a8 k9 p10 p11 k12 p13 p14 h0 n0 v U'.heap L ∧ FrameEnd U o U' L ({ frames := 0, cells := 0, slots := 0, locals := 0 } : Room).cells ({ frames := 0, cells := 0, slots := 0, locals := 0 } : Room).slots) := by
  refine MetFree.of_bodySF (plainFor_of_name pn_Statements) hisR ?_
  intro p e s m args below meth c s₁ Bd hml0 hP hK
  obtain ⟨rfl, hZ, hh⟩ := hP
  have hx := Bd.exec
  have hby := Bd.bytes
  have hml : c.maxLocals = 2 := hml0
  have hown : s.vm.findClass "com/example/kleinmaschine/kleinmaschine/Statements" = some m.cls := findClass_of_methodNamed Bd.named
  have hnm := (name_of_methodNamed Bd.named Bd.method).1
  have X0 : Stand p l e ({ frames := 0, cells := 0, slots := 0, locals := 0 } : Room) s m #[(.ref a1), (.int 0)] below meth c s₁ [] 0 0 := Stand.of_body Bd
  have e0 : s₁.heap = h0 := by rw [← hh, Bd.state]; rfl
  have N0 := Fr.nil n0
  obtain ⟨G0, hG0⟩ : ∃ z, z = (mkF m 0 #[.val (.ref a1), .val (.int 0)] []) := ⟨_, rfl⟩
  have pre0 : ∀ t, Steps p.tables e below (s₁.setTop G0) t → Steps p.tables e below (s₁.setTop (entryFrame m #[(.ref a1), (.int 0)] 2)) t := fun t k => castTop (ef_RI_2 m a1 ((0 : Int32))) (hG0 ▸ k)
  have k : Goes p e below s₁ G0 s₁ (mkF m 0 #[.val (.ref a1), .val (.int 0)] []) := fun t q => hG0 ▸ q
  replace k := Fw.aloadN k X0 hx (hb hby d_prog_52_method_10_0) rfl rfl (pc' := 1) rfl
  obtain ⟨T1, X1, e1, st1⟩ := getF X0 hx hZ hown (host := "") (Or.inl (w_205 hw)) Via.refl e0 (Ob.at pr1 11 rfl) (g := (mkF m 1 #[.val (.ref a1), .val (.int 0)] [(.ref a1)])) rfl rfl (hb hby d_prog_52_method_10_1)
  replace k : Goes p e below s₁ G0 T1 (mkF m 4 #[.val (.ref a1), .val (.int 0)] [(.ref a7)]) := fun t q => k t (st1 _ q)
  replace k := Fw.iloadN k X1 hx (hb hby d_prog_52_method_10_4) rfl (pc' := 5) rfl
  obtain ⟨cl2, Ar2, hin2, hat2, -, -⟩ := Aw.open pr2 (j := (0 : Int32)) 0 (by decide) (by decide) (by decide)
  replace hat2 : cl2.slots[((0 : Int32)).toNatClampNeg]? = some (.int p10) := hat2
  replace k : Goes p e below s₁ G0 T1 (mkF m 6 #[.val (.ref a1), .val (.int 0)] [(.int p10)]) := fun t q => k t (X1.iaload hx (j := (0 : Int32)) (v := (.int p10)) (by rw [e1]; exact Ar2.1) (State.isArrayOf_alike hZ.alike Ar2.2.1) Ar2.2.2 hin2 hat2 (g := (mkF m 5 #[.val (.ref a1), .val (.int 0)] [(.int 0), (.ref a7)])) rfl rfl (hb hby d_prog_52_method_10_5) _ q)
  replace k := Fw.i2l k X1 hx (hb hby d_prog_52_method_10_6) rfl (pc' := 7) rfl
  replace k := Fw.bipush k X1 hx (hb hby d_prog_52_method_10_7) (z := (32 : Int32)) (by decide) (pc' := 9) rfl
  replace k := Fw.lshl k X1 hx (hb hby d_prog_52_method_10_9) rfl (pc' := 10) rfl
  replace k := Fw.aloadN k X1 hx (hb hby d_prog_52_method_10_10) rfl rfl (pc' := 11) rfl
  obtain ⟨T3, X3, e3, st3⟩ := getF X1 hx hZ hown (host := "") (Or.inl (w_207 hw)) Via.refl e1 (Ob.at pr1 12 rfl) (g := (mkF m 11 #[.val (.ref a1), .val (.int 0)] [(.ref a1), (.long ((p10.toInt64) <<< ((32 : Int32) &&& 0x3f).toInt64))])) rfl rfl (hb hby d_prog_52_method_10_11)
  replace k : Goes p e below s₁ G0 T3 (mkF m 14 #[.val (.ref a1), .val (.int 0)] [(.ref a8), (.long ((p10.toInt64) <<< ((32 : Int32) &&& 0x3f).toInt64))]) := fun t q => k t (st3 _ q)
  replace k := Fw.iloadN k X3 hx (hb hby d_prog_52_method_10_14) rfl (pc' := 15) rfl
  obtain ⟨cl4, Ar4, hin4, hat4, -, -⟩ := Aw.open pr3 (j := (0 : Int32)) 0 (by decide) (by decide) (by decide)
  replace hat4 : cl4.slots[((0 : Int32)).toNatClampNeg]? = some (.int p13) := hat4
  replace k : Goes p e below s₁ G0 T3 (mkF m 16 #[.val (.ref a1), .val (.int 0)] [(.int p13), (.long ((p10.toInt64) <<< ((32 : Int32) &&& 0x3f).toInt64))]) := fun t q => k t (X3.iaload hx (j := (0 : Int32)) (v := (.int p13)) (by rw [e3]; exact Ar4.1) (State.isArrayOf_alike hZ.alike Ar4.2.1) Ar4.2.2 hin4 hat4 (g := (mkF m 15 #[.val (.ref a1), .val (.int 0)] [(.int 0), (.ref a8), (.long ((p10.toInt64) <<< ((32 : Int32) &&& 0x3f).toInt64))])) rfl rfl (hb hby d_prog_52_method_10_15) _ q)
  replace k := Fw.i2l k X3 hx (hb hby d_prog_52_method_10_16) rfl (pc' := 17) rfl
  replace k : Goes p e below s₁ G0 T3 (mkF m 20 #[.val (.ref a1), .val (.int 0)] [(.long 4294967295), (.long (p13.toInt64)), (.long ((p10.toInt64) <<< ((32 : Int32) &&& 0x3f).toInt64))]) := fun t q => k t (X3.ldc2Long hx hown (mvT hZ (w_214 hw)) (g := (mkF m 17 #[.val (.ref a1), .val (.int 0)] [(.long (p13.toInt64)), (.long ((p10.toInt64) <<< ((32 : Int32) &&& 0x3f).toInt64))])) rfl (hb hby d_prog_52_method_10_17) _ q)
  replace k := Fw.land k X3 hx (hb hby d_prog_52_method_10_20) rfl (pc' := 21) rfl
  replace k := Fw.lor k X3 hx (hb hby d_prog_52_method_10_21) rfl (pc' := 22) rfl
  obtain ⟨fs, hr, hrun, hended, hW, hsame⟩ := X3.leave (v := some (.long (((p10.toInt64) <<< ((32 : Int32) &&& 0x3f).toInt64) ||| ((p13.toInt64) &&& (4294967295 : Int64))))) (fun h => by rw [Bd.returns] at h; cases h)
  refine ⟨_, _, pre0 _ (k _ ?_), hrun, hended, _, _, rfl, ?_, ⟨_, rfl⟩, hW, hsame.mono (by decide) (by decide)⟩
  · exact X3.lreturnOut hx Bd.returns (hb hby d_prog_52_method_10_22) hr
  · show Q_Statements_operand_1 Z a1 a2 a3 a4 a5 a6 a7 a8 k9 p10 p11 k12 p13 p14 h0 n0 _ T3.heap _
    rw [e3]
    exact ⟨rfl, N0, rfl⟩
theorem w_209 {Z : State} {a0 : Array Value} (hw : ∀ d ∈ tables_1, d.before a0 Z = true) : (Jvm.Cond.methodLink "com/example/kleinmaschine/kleinmaschine/StatementsOperandPinLaw" (26 : Nat) ({ cls := "com/example/kleinmaschine/kleinmaschine/Statements", name := "operand", desc := "(I)J" } : Jvm.MethodName)).before a0 Z = true := hw _ (List.mem_of_getElem? (i := 209) rfl)
theorem w_213 {Z : State} {a0 : Array Value} (hw : ∀ d ∈ tables_1, d.before a0 Z = true) : (Jvm.Cond.code ({ cls := "com/example/kleinmaschine/kleinmaschine/Statements", name := "operand", desc := "(I)J" } : Jvm.MethodName) prog_52_method_10_code (2 : Nat) (Option.some Jvm.ClassFile.FieldType.long)).before a0 Z = true := hw _ (List.mem_of_getElem? (i := 213) rfl)
theorem pd_I_r_J : parseMethodDescriptor "(I)J" = some ⟨[.int], some .long⟩ := by decide +kernel
theorem w_212 {Z : State} {a0 : Array Value} (hw : ∀ d ∈ tables_1, d.before a0 Z = true) : (Jvm.Cond.selects "com/example/kleinmaschine/kleinmaschine/Statements" ({ cls := "com/example/kleinmaschine/kleinmaschine/Statements", name := "operand", desc := "(I)J" } : Jvm.MethodName) ({ cls := "com/example/kleinmaschine/kleinmaschine/Statements", name := "operand", desc := "(I)J" } : Jvm.MethodName)).before a0 Z = true := hw _ (List.mem_of_getElem? (i := 212) rfl)
theorem w_210 {Z : State} {a0 : Array Value} (hw : ∀ d ∈ tables_1, d.before a0 Z = true) : (Jvm.Cond.declares ({ cls := "com/example/kleinmaschine/kleinmaschine/Statements", name := "operand", desc := "(I)J" } : Jvm.MethodName)).before a0 Z = true := hw _ (List.mem_of_getElem? (i := 210) rfl)
theorem w_211 {Z : State} {a0 : Array Value} (hw : ∀ d ∈ tables_1, d.before a0 Z = true) : (Jvm.Cond.instanceMethod ({ cls := "com/example/kleinmaschine/kleinmaschine/Statements", name := "operand", desc := "(I)J" } : Jvm.MethodName)).before a0 Z = true := hw _ (List.mem_of_getElem? (i := 211) rfl)
def Q_Statements_operand_2 (Z : State) (a1 : Addr) (a2 : Addr) (a3 : Addr) (a4 : Addr) (a5 : Addr) (a6 : Addr) (a7 : Addr) (a8 : Addr) (k9 : ClassId) (p10 : Int32) (p11 : Int32) (k12 : ClassId) (p13 : Int32) (p14 : Int32) (h0 : Heap) (n0 : Nat) (v : Option Value) (h : Heap) (L : List Loc) : Prop := v = some (.long (((p11.toInt64) <<< ((32 : Int32) &&& 0x3f).toInt64) ||| ((p14.toInt64) &&& (4294967295 : Int64)))) ∧ Fr n0 L ∧ h = h0
set_option maxRecDepth 65536 in
set_option maxHeartbeats 40000000 in
theorem rm_Statements_operand_2 (l : Launch) (Z : State) (a0 : Array Value) (hw : ∀ d ∈ tables_1, d.before a0 Z = true) (ws : List Jvm.Cond) (a1 : Addr) (a2 : Addr) (a3 : Addr) (a4 : Addr) (a5 : Addr) (a6 : Addr) (a7 : Addr) (a8 : Addr) (k9 : ClassId) (p10 : Int32) (p11 : Int32) (k12 : ClassId) (p13 : Int32) (p14 : Int32) (h0 : Heap) (n0 : Nat) (O0 : Old Z n0 h0) (pr1 : Ob Z h0 a1 "com/example/kleinmaschine/kleinmaschine/Statements" [("com/example/kleinmaschine/kleinmaschine/Statements", "headPages", "[[I", .null), ("com/example/kleinmaschine/kleinmaschine/Statements", "upperPages", "[[I", .null), ("com/example/kleinmaschine/kleinmaschine/Statements", "lowerPages", "[[I", .null), ("com/example/kleinmaschine/kleinmaschine/Statements", "records", "Lcom/example/kleinmaschine/kleinmaschine/PagedBytes;", (.ref a2)), ("com/example/kleinmaschine/kleinmaschine/Statements", "checkpointPlaces", "[J", (.ref a3)), ("com/example/kleinmaschine/kleinmaschine/Statements", "checkpointLines", "[J", (.ref a4)), ("com/example/kleinmaschine/kleinmaschine/Statements", "checkpointColumns", "[J", (.ref a5)), ("com/example/kleinmaschine/kleinmaschine/Statements", "heads", "[I", (.ref a6)), ("com/example/kleinmaschine/kleinmaschine/Statements", "size", "I", (.int 2)), ("com/example/kleinmaschine/kleinmaschine/Statements", "lastLine", "J", (.long 1)), ("com/example/kleinmaschine/kleinmaschine/Statements", "lastColumn", "J", (.long 1)), ("com/example/kleinmaschine/kleinmaschine/Statements", "uppers", "[I", (.ref a7)), ("com/example/kleinmaschine/kleinmaschine/Statements", "lowers", "[I", (.ref a8))]) (pr2 : Aw Z h0 a7 "[I" k9 .int 2 (updv (updv (fun _ => (.int 0)) 0 (.int p10)) 1 (.int p11))) (pr3 : Aw Z h0 a8 "[I" k12 .int 2 (updv (updv (fun _ => (.int 0)) 0 (.int p13)) 1 (.int p14))) :
    MetFree l (⟨"com/example/kleinmaschine/kleinmaschine/Statements", "operand", "(I)J"⟩ : MethodName) (head1 (Jvm.Cond.code (⟨"com/example/kleinmaschine/kleinmaschine/Statements", "operand", "(I)J"⟩ : MethodName) prog_52_method_10_code 2 (some .long) :: ws) ({ frames := 0, cells := 0, slots := 0, locals := 0 } : Room)) (fun a U => a = #[(.ref a1), (.int 1)] ∧ Z.Warmed39 U.vm ∧ U.heap = h0) (fun _ _ _ _ _ => True) (fun _ U o U' => ∃ v L, o = .returned v ∧ Q_Statements_operand_2 Z a1 a2 a3 a4 a5 a6 a7 a8 k9 p10 p11 k12 p13 p14 h0 n0 v U'.heap L ∧ FrameEnd U o U' L ({ frames := 0, cells := 0, slots := 0, locals := 0 } : Room).cells ({ frames := 0, cells := 0, slots := 0, locals := 0 } : Room).slots) := by
  refine MetFree.of_bodySF (plainFor_of_name pn_Statements) hisR ?_
  intro p e s m args below meth c s₁ Bd hml0 hP hK
  obtain ⟨rfl, hZ, hh⟩ := hP
  have hx := Bd.exec
  have hby := Bd.bytes
  have hml : c.maxLocals = 2 := hml0
  have hown : s.vm.findClass "com/example/kleinmaschine/kleinmaschine/Statements" = some m.cls := findClass_of_methodNamed Bd.named
  have hnm := (name_of_methodNamed Bd.named Bd.method).1
  have X0 : Stand p l e ({ frames := 0, cells := 0, slots := 0, locals := 0 } : Room) s m #[(.ref a1), (.int 1)] below meth c s₁ [] 0 0 := Stand.of_body Bd
  have e0 : s₁.heap = h0 := by rw [← hh, Bd.state]; rfl
  have N0 := Fr.nil n0
  obtain ⟨G0, hG0⟩ : ∃ z, z = (mkF m 0 #[.val (.ref a1), .val (.int 1)] []) := ⟨_, rfl⟩
  have pre0 : ∀ t, Steps p.tables e below (s₁.setTop G0) t → Steps p.tables e below (s₁.setTop (entryFrame m #[(.ref a1), (.int 1)] 2)) t := fun t k => castTop (ef_RI_2 m a1 ((1 : Int32))) (hG0 ▸ k)
  have k : Goes p e below s₁ G0 s₁ (mkF m 0 #[.val (.ref a1), .val (.int 1)] []) := fun t q => hG0 ▸ q
  replace k := Fw.aloadN k X0 hx (hb hby d_prog_52_method_10_0) rfl rfl (pc' := 1) rfl
  obtain ⟨T1, X1, e1, st1⟩ := getF X0 hx hZ hown (host := "") (Or.inl (w_205 hw)) Via.refl e0 (Ob.at pr1 11 rfl) (g := (mkF m 1 #[.val (.ref a1), .val (.int 1)] [(.ref a1)])) rfl rfl (hb hby d_prog_52_method_10_1)
  replace k : Goes p e below s₁ G0 T1 (mkF m 4 #[.val (.ref a1), .val (.int 1)] [(.ref a7)]) := fun t q => k t (st1 _ q)
  replace k := Fw.iloadN k X1 hx (hb hby d_prog_52_method_10_4) rfl (pc' := 5) rfl
  obtain ⟨cl2, Ar2, hin2, hat2, -, -⟩ := Aw.open pr2 (j := (1 : Int32)) 1 (by decide) (by decide) (by decide)
  replace hat2 : cl2.slots[((1 : Int32)).toNatClampNeg]? = some (.int p11) := hat2
  replace k : Goes p e below s₁ G0 T1 (mkF m 6 #[.val (.ref a1), .val (.int 1)] [(.int p11)]) := fun t q => k t (X1.iaload hx (j := (1 : Int32)) (v := (.int p11)) (by rw [e1]; exact Ar2.1) (State.isArrayOf_alike hZ.alike Ar2.2.1) Ar2.2.2 hin2 hat2 (g := (mkF m 5 #[.val (.ref a1), .val (.int 1)] [(.int 1), (.ref a7)])) rfl rfl (hb hby d_prog_52_method_10_5) _ q)
  replace k := Fw.i2l k X1 hx (hb hby d_prog_52_method_10_6) rfl (pc' := 7) rfl
  replace k := Fw.bipush k X1 hx (hb hby d_prog_52_method_10_7) (z := (32 : Int32)) (by decide) (pc' := 9) rfl
  replace k := Fw.lshl k X1 hx (hb hby d_prog_52_method_10_9) rfl (pc' := 10) rfl
  replace k := Fw.aloadN k X1 hx (hb hby d_prog_52_method_10_10) rfl rfl (pc' := 11) rfl
  obtain ⟨T3, X3, e3, st3⟩ := getF X1 hx hZ hown (host := "") (Or.inl (w_207 hw)) Via.refl e1 (Ob.at pr1 12 rfl) (g := (mkF m 11 #[.val (.ref a1), .val (.int 1)] [(.ref a1), (.long ((p11.toInt64) <<< ((32 : Int32) &&& 0x3f).toInt64))])) rfl rfl (hb hby d_prog_52_method_10_11)
  replace k : Goes p e below s₁ G0 T3 (mkF m 14 #[.val (.ref a1), .val (.int 1)] [(.ref a8), (.long ((p11.toInt64) <<< ((32 : Int32) &&& 0x3f).toInt64))]) := fun t q => k t (st3 _ q)
  replace k := Fw.iloadN k X3 hx (hb hby d_prog_52_method_10_14) rfl (pc' := 15) rfl
  obtain ⟨cl4, Ar4, hin4, hat4, -, -⟩ := Aw.open pr3 (j := (1 : Int32)) 1 (by decide) (by decide) (by decide)
  replace hat4 : cl4.slots[((1 : Int32)).toNatClampNeg]? = some (.int p14) := hat4
  replace k : Goes p e below s₁ G0 T3 (mkF m 16 #[.val (.ref a1), .val (.int 1)] [(.int p14), (.long ((p11.toInt64) <<< ((32 : Int32) &&& 0x3f).toInt64))]) := fun t q => k t (X3.iaload hx (j := (1 : Int32)) (v := (.int p14)) (by rw [e3]; exact Ar4.1) (State.isArrayOf_alike hZ.alike Ar4.2.1) Ar4.2.2 hin4 hat4 (g := (mkF m 15 #[.val (.ref a1), .val (.int 1)] [(.int 1), (.ref a8), (.long ((p11.toInt64) <<< ((32 : Int32) &&& 0x3f).toInt64))])) rfl rfl (hb hby d_prog_52_method_10_15) _ q)
  replace k := Fw.i2l k X3 hx (hb hby d_prog_52_method_10_16) rfl (pc' := 17) rfl
  replace k : Goes p e below s₁ G0 T3 (mkF m 20 #[.val (.ref a1), .val (.int 1)] [(.long 4294967295), (.long (p14.toInt64)), (.long ((p11.toInt64) <<< ((32 : Int32) &&& 0x3f).toInt64))]) := fun t q => k t (X3.ldc2Long hx hown (mvT hZ (w_214 hw)) (g := (mkF m 17 #[.val (.ref a1), .val (.int 1)] [(.long (p14.toInt64)), (.long ((p11.toInt64) <<< ((32 : Int32) &&& 0x3f).toInt64))])) rfl (hb hby d_prog_52_method_10_17) _ q)
  replace k := Fw.land k X3 hx (hb hby d_prog_52_method_10_20) rfl (pc' := 21) rfl
  replace k := Fw.lor k X3 hx (hb hby d_prog_52_method_10_21) rfl (pc' := 22) rfl
  obtain ⟨fs, hr, hrun, hended, hW, hsame⟩ := X3.leave (v := some (.long (((p11.toInt64) <<< ((32 : Int32) &&& 0x3f).toInt64) ||| ((p14.toInt64) &&& (4294967295 : Int64))))) (fun h => by rw [Bd.returns] at h; cases h)
  refine ⟨_, _, pre0 _ (k _ ?_), hrun, hended, _, _, rfl, ?_, ⟨_, rfl⟩, hW, hsame.mono (by decide) (by decide)⟩
  · exact X3.lreturnOut hx Bd.returns (hb hby d_prog_52_method_10_22) hr
  · show Q_Statements_operand_2 Z a1 a2 a3 a4 a5 a6 a7 a8 k9 p10 p11 k12 p13 p14 h0 n0 _ T3.heap _
    rw [e3]
    exact ⟨rfl, N0, rfl⟩
theorem d_prog_52_method_4_0 : decode prog_52_method_4_code 0 = .ok (.aload_n 0, 1) := by decide +kernel
theorem d_prog_52_method_4_1 : decode prog_52_method_4_code 1 = .ok (.invokevirtual 49, 3) := by decide +kernel
theorem d_prog_52_method_4_4 : decode prog_52_method_4_code 4 = .ok (.iload_n 1, 1) := by decide +kernel
theorem d_prog_52_method_4_5 : decode prog_52_method_4_code 5 = .ok (.aload_n 0, 1) := by decide +kernel
theorem d_prog_52_method_4_6 : decode prog_52_method_4_code 6 = .ok (.getfield 52, 3) := by decide +kernel
theorem d_prog_52_method_4_9 : decode prog_52_method_4_code 9 = .ok (.invokestatic 105, 3) := by decide +kernel
theorem d_jdk_31_method_17_0 : decode jdk_31_method_17_code 0 = .ok (.iload_n 0, 1) := by decide +kernel
theorem d_jdk_31_method_17_1 : decode jdk_31_method_17_code 1 = .ok (.iload_n 1, 1) := by decide +kernel
theorem d_jdk_31_method_17_2 : decode jdk_31_method_17_code 2 = .ok (.aconst_null, 1) := by decide +kernel
theorem d_jdk_31_method_17_3 : decode jdk_31_method_17_code 3 = .ok (.invokestatic 105, 3) := by decide +kernel
theorem d_jdk_41_method_11_0 : decode jdk_41_method_11_code 0 = .ok (.iload_n 0, 1) := by decide +kernel
theorem d_jdk_41_method_11_1 : decode jdk_41_method_11_code 1 = .ok (.ifCond .lt 8, 3) := by decide +kernel
theorem d_jdk_41_method_11_4 : decode jdk_41_method_11_code 4 = .ok (.iload_n 0, 1) := by decide +kernel
theorem d_jdk_41_method_11_5 : decode jdk_41_method_11_code 5 = .ok (.iload_n 1, 1) := by decide +kernel
theorem d_jdk_41_method_11_6 : decode jdk_41_method_11_code 6 = .ok (.if_icmp .lt 10, 3) := by decide +kernel
theorem d_jdk_41_method_11_16 : decode jdk_41_method_11_code 16 = .ok (.iload_n 0, 1) := by decide +kernel
theorem d_jdk_41_method_11_17 : decode jdk_41_method_11_code 17 = .ok (.ireturn, 1) := by decide +kernel
theorem pn_Preconditions : plainName "jdk/internal/util/Preconditions" = true := by first | (simp [plainName, overriddenIn]; done) | decide +kernel
theorem ef_IIN_3 (m : MethodId) (x0 : Int32) (x1 : Int32) : entryFrame m #[(.int x0), (.int x1), .null] 3 = mkF m 0 #[.val (.int x0), .val (.int x1), .val .null] [] := by first | (simp [entryFrame, mkF, argsToLocals, Value.category]; done) | rfl
def Q_Preconditions_checkIndex_1 (Z : State)  (h0 : Heap) (n0 : Nat) (v : Option Value) (h : Heap) (L : List Loc) : Prop := v = some (.int 0) ∧ Fr n0 L ∧ h = h0
set_option maxRecDepth 65536 in
set_option maxHeartbeats 40000000 in
theorem rm_Preconditions_checkIndex_1 (l : Launch) (Z : State) (a0 : Array Value) (hw : ∀ d ∈ tables_1, d.before a0 Z = true) (ws : List Jvm.Cond)  (h0 : Heap) (n0 : Nat) (O0 : Old Z n0 h0) :
    MetFree l (⟨"jdk/internal/util/Preconditions", "checkIndex", "(IILjava/util/function/BiFunction;)I"⟩ : MethodName) (head1 (Jvm.Cond.code (⟨"jdk/internal/util/Preconditions", "checkIndex", "(IILjava/util/function/BiFunction;)I"⟩ : MethodName) jdk_41_method_11_code 3 (some .int) :: ws) ({ frames := 0, cells := 0, slots := 0, locals := 0 } : Room)) (fun a U => a = #[(.int 0), (.int 2), .null] ∧ Z.Warmed39 U.vm ∧ U.heap = h0) (fun _ _ _ _ _ => True) (fun _ U o U' => ∃ v L, o = .returned v ∧ Q_Preconditions_checkIndex_1 Z  h0 n0 v U'.heap L ∧ FrameEnd U o U' L ({ frames := 0, cells := 0, slots := 0, locals := 0 } : Room).cells ({ frames := 0, cells := 0, slots := 0, locals := 0 } : Room).slots) := by
  refine MetFree.of_bodySF (plainFor_of_name pn_Preconditions) hisR ?_
  intro p e s m args below meth c s₁ Bd hml0 hP hK
  obtain ⟨rfl, hZ, hh⟩ := hP
  have hx := Bd.exec
  have hby := Bd.bytes
  have hml : c.maxLocals = 3 := hml0
  have hown : s.vm.findClass "jdk/internal/util/Preconditions" = some m.cls := findClass_of_methodNamed Bd.named
  have hnm := (name_of_methodNamed Bd.named Bd.method).1
  have X0 : Stand p l e ({ frames := 0, cells := 0, slots := 0, locals := 0 } : Room) s m #[(.int 0), (.int 2), .null] below meth c s₁ [] 0 0 := Stand.of_body Bd
  have e0 : s₁.heap = h0 := by rw [← hh, Bd.state]; rfl
  have N0 := Fr.nil n0
  obtain ⟨G0, hG0⟩ : ∃ z, z = (mkF m 0 #[.val (.int 0), .val (.int 2), .val .null] []) := ⟨_, rfl⟩
  have pre0 : ∀ t, Steps p.tables e below (s₁.setTop G0) t → Steps p.tables e below (s₁.setTop (entryFrame m #[(.int 0), (.int 2), .null] 3)) t := fun t k => castTop (ef_IIN_3 m ((0 : Int32)) ((2 : Int32))) (hG0 ▸ k)
  have k : Goes p e below s₁ G0 s₁ (mkF m 0 #[.val (.int 0), .val (.int 2), .val .null] []) := fun t q => hG0 ▸ q
  replace k := Fw.iloadN k X0 hx (hb hby d_jdk_41_method_11_0) rfl (pc' := 1) rfl
  replace k := Fw.ifNo k X0 hx (hb hby d_jdk_41_method_11_1) ((if0 _ _).trans (flt (show ¬ ((0 : Int32) < (0 : Int32)) from by decide)).1) (pc' := 4) rfl
  replace k := Fw.iloadN k X0 hx (hb hby d_jdk_41_method_11_4) rfl (pc' := 5) rfl
  replace k := Fw.iloadN k X0 hx (hb hby d_jdk_41_method_11_5) rfl (pc' := 6) rfl
  replace k := Fw.icmpYes k X0 hx (hb hby d_jdk_41_method_11_6) (tlt (show (0 : Int32) < (2 : Int32) from by decide)).1 (by decide) (pc' := 16) rfl
  replace k := Fw.iloadN k X0 hx (hb hby d_jdk_41_method_11_16) rfl (pc' := 17) rfl
  obtain ⟨fs, hr, hrun, hended, hW, hsame⟩ := X0.leave (v := some (.int 0)) (fun h => by rw [Bd.returns] at h; cases h)
  refine ⟨_, _, pre0 _ (k _ ?_), hrun, hended, _, _, rfl, ?_, ⟨_, rfl⟩, hW, hsame.mono (by decide) (by decide)⟩
  · exact retI X0 hx Bd.returns (hb hby d_jdk_41_method_11_17) hr
  · show Q_Preconditions_checkIndex_1 Z  h0 n0 _ s₁.heap _
    rw [e0]
    exact ⟨rfl, N0, rfl⟩
theorem w_224 {Z : State} {a0 : Array Value} (hw : ∀ d ∈ tables_1, d.before a0 Z = true) : (Jvm.Cond.methodLink "java/util/Objects" (105 : Nat) ({ cls := "jdk/internal/util/Preconditions", name := "checkIndex", desc := "(IILjava/util/function/BiFunction;)I" } : Jvm.MethodName)).before a0 Z = true := hw _ (List.mem_of_getElem? (i := 224) rfl)
theorem w_227 {Z : State} {a0 : Array Value} (hw : ∀ d ∈ tables_1, d.before a0 Z = true) : (Jvm.Cond.code ({ cls := "jdk/internal/util/Preconditions", name := "checkIndex", desc := "(IILjava/util/function/BiFunction;)I" } : Jvm.MethodName) jdk_41_method_11_code (3 : Nat) (Option.some Jvm.ClassFile.FieldType.int)).before a0 Z = true := hw _ (List.mem_of_getElem? (i := 227) rfl)
theorem w_226 {Z : State} {a0 : Array Value} (hw : ∀ d ∈ tables_1, d.before a0 Z = true) : (Jvm.Cond.initialized "jdk/internal/util/Preconditions").before a0 Z = true := hw _ (List.mem_of_getElem? (i := 226) rfl)
theorem pd_IILjava_util_function_BiFunction_r_I : parseMethodDescriptor "(IILjava/util/function/BiFunction;)I" = some ⟨[.int, .int, (.object "java/util/function/BiFunction")], some .int⟩ := by decide +kernel
theorem w_225 {Z : State} {a0 : Array Value} (hw : ∀ d ∈ tables_1, d.before a0 Z = true) : (Jvm.Cond.static ({ cls := "jdk/internal/util/Preconditions", name := "checkIndex", desc := "(IILjava/util/function/BiFunction;)I" } : Jvm.MethodName)).before a0 Z = true := hw _ (List.mem_of_getElem? (i := 225) rfl)
theorem d_jdk_31_method_17_6 : decode jdk_31_method_17_code 6 = .ok (.ireturn, 1) := by decide +kernel
theorem pn_Objects : plainName "java/util/Objects" = true := by first | (simp [plainName, overriddenIn]; done) | decide +kernel
def Q_Objects_checkIndex_1 (Z : State)  (h0 : Heap) (n0 : Nat) (v : Option Value) (h : Heap) (L : List Loc) : Prop := v = some (.int 0) ∧ Fr n0 L ∧ h = h0
set_option maxRecDepth 65536 in
set_option maxHeartbeats 40000000 in
theorem rm_Objects_checkIndex_1 (l : Launch) (Z : State) (a0 : Array Value) (hw : ∀ d ∈ tables_1, d.before a0 Z = true) (ws : List Jvm.Cond)  (h0 : Heap) (n0 : Nat) (O0 : Old Z n0 h0) :
    MetFree l (⟨"java/util/Objects", "checkIndex", "(II)I"⟩ : MethodName) (head1 (Jvm.Cond.code (⟨"java/util/Objects", "checkIndex", "(II)I"⟩ : MethodName) jdk_31_method_17_code 2 (some .int) :: ws) ({ frames := 1, cells := 0, slots := 0, locals := 14 } : Room)) (fun a U => a = #[(.int 0), (.int 2)] ∧ Z.Warmed39 U.vm ∧ U.heap = h0) (fun _ _ _ _ _ => True) (fun _ U o U' => ∃ v L, o = .returned v ∧ Q_Objects_checkIndex_1 Z  h0 n0 v U'.heap L ∧ FrameEnd U o U' L ({ frames := 1, cells := 0, slots := 0, locals := 14 } : Room).cells ({ frames := 1, cells := 0, slots := 0, locals := 14 } : Room).slots) := by
  refine MetFree.of_bodySF (plainFor_of_name pn_Objects) hisR ?_
  intro p e s m args below meth c s₁ Bd hml0 hP hK
  obtain ⟨rfl, hZ, hh⟩ := hP
  have hx := Bd.exec
  have hby := Bd.bytes
  have hml : c.maxLocals = 2 := hml0
  have hown : s.vm.findClass "java/util/Objects" = some m.cls := findClass_of_methodNamed Bd.named
  have hnm := (name_of_methodNamed Bd.named Bd.method).1
  have X0 : Stand p l e ({ frames := 1, cells := 0, slots := 0, locals := 14 } : Room) s m #[(.int 0), (.int 2)] below meth c s₁ [] 0 0 := Stand.of_body Bd
  have e0 : s₁.heap = h0 := by rw [← hh, Bd.state]; rfl
  have N0 := Fr.nil n0
  obtain ⟨G0, hG0⟩ : ∃ z, z = (mkF m 0 #[.val (.int 0), .val (.int 2)] []) := ⟨_, rfl⟩
  have pre0 : ∀ t, Steps p.tables e below (s₁.setTop G0) t → Steps p.tables e below (s₁.setTop (entryFrame m #[(.int 0), (.int 2)] 2)) t := fun t k => castTop (ef_II_2 m ((0 : Int32)) ((2 : Int32))) (hG0 ▸ k)
  have k : Goes p e below s₁ G0 s₁ (mkF m 0 #[.val (.int 0), .val (.int 2)] []) := fun t q => hG0 ▸ q
  replace k := Fw.iloadN k X0 hx (hb hby d_jdk_31_method_17_0) rfl (pc' := 1) rfl
  replace k := Fw.iloadN k X0 hx (hb hby d_jdk_31_method_17_1) rfl (pc' := 2) rfl
  replace k := Fw.aconstNull k X0 hx (hb hby d_jdk_31_method_17_2) (pc' := 3) rfl
  obtain ⟨_, _, ⟨T1, L1, kz1, nz1⟩, -, X1, ⟨Lc1, hQ1, l1, y1, z1⟩, st1⟩ := Jvm.LawKit.callS X0 hx (y := (⟨"jdk/internal/util/Preconditions", "checkIndex", "(IILjava/util/function/BiFunction;)I"⟩ : MethodName)) hown (mvT hZ (w_224 hw)) (mvT hZ (w_225 hw)) (mvT hZ (w_226 hw)) (mvT hZ (w_227 hw)) (by decide) (backOf (W := 0) (rm_Preconditions_checkIndex_1 l Z a0 hw []  h0 n0 O0 ) hZ (w_227 hw) (w_226 hw) (by decide) (by decide)) (g := (mkF m 3 #[.val (.int 0), .val (.int 2)] [.null, (.int 2), (.int 0)])) rfl (by rw [hml]; rfl) (argsL := [(.int 0), (.int 2), .null]) (rest := []) (lenOf pd_IILjava_util_function_BiFunction_r_I rfl) rfl (by show 2 * 0 + _ ≤ _; exact Nat.le_of_eq rfl) (hb hby d_jdk_31_method_17_3) (fun _ _ => ⟨rfl, e0, (by decide : 0 + 0 ≤ _), (by decide : 0 + 0 ≤ _)⟩)
  dsimp only [Pt.U, Pt.locs, Pt.cells, Pt.slots] at X1 l1 y1 z1 st1 hQ1
  subst l1 y1 z1
  obtain ⟨hv1, N1q, e1⟩ := hQ1
  subst hv1
  have N1 := Fr.app N0 N1q
  replace k : Goes p e below s₁ G0 T1 (mkF m 6 #[.val (.int 0), .val (.int 2)] [(.int 0)]) := fun t q => k t (st1 _ q)
  obtain ⟨fs, hr, hrun, hended, hW, hsame⟩ := X1.leave (v := some (.int 0)) (fun h => by rw [Bd.returns] at h; cases h)
  refine ⟨_, _, pre0 _ (k _ ?_), hrun, hended, _, _, rfl, ?_, ⟨_, rfl⟩, hW, hsame.mono (by decide) (by decide)⟩
  · exact retI X1 hx Bd.returns (hb hby d_jdk_31_method_17_6) hr
  · show Q_Objects_checkIndex_1 Z  h0 n0 _ T1.heap _
    rw [e1]
    exact ⟨rfl, N1, rfl⟩
theorem w_220 {Z : State} {a0 : Array Value} (hw : ∀ d ∈ tables_1, d.before a0 Z = true) : (Jvm.Cond.methodLink "com/example/kleinmaschine/kleinmaschine/Statements" (105 : Nat) ({ cls := "java/util/Objects", name := "checkIndex", desc := "(II)I" } : Jvm.MethodName)).before a0 Z = true := hw _ (List.mem_of_getElem? (i := 220) rfl)
theorem w_223 {Z : State} {a0 : Array Value} (hw : ∀ d ∈ tables_1, d.before a0 Z = true) : (Jvm.Cond.code ({ cls := "java/util/Objects", name := "checkIndex", desc := "(II)I" } : Jvm.MethodName) jdk_31_method_17_code (2 : Nat) (Option.some Jvm.ClassFile.FieldType.int)).before a0 Z = true := hw _ (List.mem_of_getElem? (i := 223) rfl)
theorem w_222 {Z : State} {a0 : Array Value} (hw : ∀ d ∈ tables_1, d.before a0 Z = true) : (Jvm.Cond.initialized "java/util/Objects").before a0 Z = true := hw _ (List.mem_of_getElem? (i := 222) rfl)
theorem w_221 {Z : State} {a0 : Array Value} (hw : ∀ d ∈ tables_1, d.before a0 Z = true) : (Jvm.Cond.static ({ cls := "java/util/Objects", name := "checkIndex", desc := "(II)I" } : Jvm.MethodName)).before a0 Z = true := hw _ (List.mem_of_getElem? (i := 221) rfl)
theorem d_prog_52_method_4_12 : decode prog_52_method_4_code 12 = .ok (.pop, 1) := by decide +kernel
theorem d_prog_52_method_4_13 : decode prog_52_method_4_code 13 = .ok (.aload_n 0, 1) := by decide +kernel
theorem d_prog_52_method_4_14 : decode prog_52_method_4_code 14 = .ok (.iload_n 1, 1) := by decide +kernel
theorem d_prog_52_method_4_15 : decode prog_52_method_4_code 15 = .ok (.lload_n 2, 1) := by decide +kernel
theorem d_prog_52_method_4_16 : decode prog_52_method_4_code 16 = .ok (.invokevirtual 73, 3) := by decide +kernel
def Q_Statements_setOperandAt_3 (Z : State) (a1 : Addr) (q2 : Int64) (a3 : Addr) (a4 : Addr) (a5 : Addr) (a6 : Addr) (a7 : Addr) (a8 : Addr) (a9 : Addr) (k10 : ClassId) (a11 : Addr) (k12 : ClassId) (p13 : Int32) (p14 : Int32) (k15 : ClassId) (a16 : Addr) (k17 : ClassId) (p18 : Int32) (p19 : Int32) (h0 : Heap) (n0 : Nat) (v : Option Value) (h : Heap) (L : List Loc) : Prop := v = none ∧ Fr n0 L ∧ Keep h0 h [a16, a11] ∧ Aw Z h a16 "[I" k17 .int 16384 (updv (updv (fun _ => (.int 0)) 0 (.int (q2.toInt32))) 1 (.int p19)) ∧ Aw Z h a11 "[I" k12 .int 16384 (updv (updv (fun _ => (.int 0)) 0 (.int (((q2.toUInt64 >>> ((32 : Int32) &&& 0x3f).toInt64.toUInt64).toInt64).toInt32))) 1 (.int p14))
set_option maxRecDepth 65536 in
set_option maxHeartbeats 40000000 in
theorem rm_Statements_setOperandAt_3 (l : Launch) (Z : State) (a0 : Array Value) (hw : ∀ d ∈ tables_1, d.before a0 Z = true) (ws : List Jvm.Cond) (a1 : Addr) (q2 : Int64) (a3 : Addr) (a4 : Addr) (a5 : Addr) (a6 : Addr) (a7 : Addr) (a8 : Addr) (a9 : Addr) (k10 : ClassId) (a11 : Addr) (k12 : ClassId) (p13 : Int32) (p14 : Int32) (k15 : ClassId) (a16 : Addr) (k17 : ClassId) (p18 : Int32) (p19 : Int32) (h0 : Heap) (n0 : Nat) (O0 : Old Z n0 h0) (pr1 : Ob Z h0 a1 "com/example/kleinmaschine/kleinmaschine/Statements" [("com/example/kleinmaschine/kleinmaschine/Statements", "headPages", "[[I", (.ref a3)), ("com/example/kleinmaschine/kleinmaschine/Statements", "upperPages", "[[I", (.ref a4)), ("com/example/kleinmaschine/kleinmaschine/Statements", "lowerPages", "[[I", (.ref a5)), ("com/example/kleinmaschine/kleinmaschine/Statements", "records", "Lcom/example/kleinmaschine/kleinmaschine/PagedBytes;", (.ref a6)), ("com/example/kleinmaschine/kleinmaschine/Statements", "checkpointPlaces", "[J", (.ref a7)), ("com/example/kleinmaschine/kleinmaschine/Statements", "checkpointLines", "[J", (.ref a8)), ("com/example/kleinmaschine/kleinmaschine/Statements", "checkpointColumns", "[J", (.ref a9)), ("com/example/kleinmaschine/kleinmaschine/Statements", "heads", "[I", .null), ("com/example/kleinmaschine/kleinmaschine/Statements", "size", "I", (.int 2)), ("com/example/kleinmaschine/kleinmaschine/Statements", "lastLine", "J", (.long 1)), ("com/example/kleinmaschine/kleinmaschine/Statements", "lastColumn", "J", (.long 1)), ("com/example/kleinmaschine/kleinmaschine/Statements", "uppers", "[I", .null), ("com/example/kleinmaschine/kleinmaschine/Statements", "lowers", "[I", .null)]) (pr2 : Sta Z Z.heap "com/example/kleinmaschine/kleinmaschine/Statements" "PAGE_BITS" "I" (.int (14 : Int32))) (pr3 : OvrA Z k10 .int "[I") (pr4 : Aw Z h0 a4 "[[I" k10 (.array .int) 16 (updv (fun _ => .null) 0 (.ref a11))) (pr5 : Aw Z h0 a11 "[I" k12 .int 16384 (updv (updv (fun _ => (.int 0)) 0 (.int p13)) 1 (.int p14))) (pr6 : n0 ≤ a11) (pr7 : a1 ≠ a11) (pr8 : OvrA Z k15 .int "[I") (pr9 : Aw Z h0 a5 "[[I" k15 (.array .int) 16 (updv (fun _ => .null) 0 (.ref a16))) (pr10 : a5 ≠ a11) (pr11 : Aw Z h0 a16 "[I" k17 .int 16384 (updv (updv (fun _ => (.int 0)) 0 (.int p18)) 1 (.int p19))) (pr12 : a16 ≠ a11) (pr13 : n0 ≤ a16) :
    MetFree l (⟨"com/example/kleinmaschine/kleinmaschine/Statements", "setOperandAt", "(IJ)V"⟩ : MethodName) (head1 (Jvm.Cond.code (⟨"com/example/kleinmaschine/kleinmaschine/Statements", "setOperandAt", "(IJ)V"⟩ : MethodName) prog_52_method_5_code 4 none :: ws) ({ frames := 0, cells := 0, slots := 0, locals := 0 } : Room)) (fun a U => a = #[(.ref a1), (.int 0), (.long q2)] ∧ Z.Warmed39 U.vm ∧ U.heap = h0) (fun _ _ _ _ _ => True) (fun _ U o U' => ∃ v L, o = .returned v ∧ Q_Statements_setOperandAt_3 Z a1 q2 a3 a4 a5 a6 a7 a8 a9 k10 a11 k12 p13 p14 k15 a16 k17 p18 p19 h0 n0 v U'.heap L ∧ FrameEnd U o U' L ({ frames := 0, cells := 0, slots := 0, locals := 0 } : Room).cells ({ frames := 0, cells := 0, slots := 0, locals := 0 } : Room).slots) := by
  refine MetFree.of_bodySF (plainFor_of_name pn_Statements) hisR ?_
  intro p e s m args below meth c s₁ Bd hml0 hP hK
  obtain ⟨rfl, hZ, hh⟩ := hP
  have hx := Bd.exec
  have hby := Bd.bytes
  have hml : c.maxLocals = 4 := hml0
  have hown : s.vm.findClass "com/example/kleinmaschine/kleinmaschine/Statements" = some m.cls := findClass_of_methodNamed Bd.named
  have hnm := (name_of_methodNamed Bd.named Bd.method).1
  have X0 : Stand p l e ({ frames := 0, cells := 0, slots := 0, locals := 0 } : Room) s m #[(.ref a1), (.int 0), (.long q2)] below meth c s₁ [] 0 0 := Stand.of_body Bd
  have e0 : s₁.heap = h0 := by rw [← hh, Bd.state]; rfl
  have N0 := Fr.nil n0
  obtain ⟨G0, hG0⟩ : ∃ z, z = (mkF m 0 #[.val (.ref a1), .val (.int 0), .val (.long q2), .second] []) := ⟨_, rfl⟩
  have pre0 : ∀ t, Steps p.tables e below (s₁.setTop G0) t → Steps p.tables e below (s₁.setTop (entryFrame m #[(.ref a1), (.int 0), (.long q2)] 4)) t := fun t k => castTop (ef_RIJ_4 m a1 ((0 : Int32)) q2) (hG0 ▸ k)
  have k : Goes p e below s₁ G0 s₁ (mkF m 0 #[.val (.ref a1), .val (.int 0), .val (.long q2), .second] []) := fun t q => hG0 ▸ q
  replace k := Fw.aloadN k X0 hx (hb hby d_prog_52_method_5_0) rfl rfl (pc' := 1) rfl
  obtain ⟨T1, X1, e1, st1⟩ := getF X0 hx hZ hown (host := "") (Or.inl (w_13 hw)) Via.refl e0 (Ob.at pr1 1 rfl) (g := (mkF m 1 #[.val (.ref a1), .val (.int 0), .val (.long q2), .second] [(.ref a1)])) rfl rfl (hb hby d_prog_52_method_5_1)
  replace k : Goes p e below s₁ G0 T1 (mkF m 4 #[.val (.ref a1), .val (.int 0), .val (.long q2), .second] [(.ref a4)]) := fun t q => k t (st1 _ q)
  replace k := Fw.iloadN k X1 hx (hb hby d_prog_52_method_5_4) rfl (pc' := 5) rfl
  obtain ⟨T2, X2, e2, st2⟩ := getS2 X1 hx hZ hown (host := "") (Or.inl (w_97 hw)) Via.refl e1 (pr2.ext O0.2) (g := (mkF m 5 #[.val (.ref a1), .val (.int 0), .val (.long q2), .second] [(.int 0), (.ref a4)])) rfl (hb hby d_prog_52_method_5_5)
  replace k : Goes p e below s₁ G0 T2 (mkF m 8 #[.val (.ref a1), .val (.int 0), .val (.long q2), .second] [(.int 14), (.int 0), (.ref a4)]) := fun t q => k t (st2 _ q)
  replace k := Fw.iushr k X2 hx (hb hby d_prog_52_method_5_8) (z := (0 : Int32)) (by decide) (pc' := 9) rfl
  obtain ⟨cl3, Ar3, hin3, hat3, -, -⟩ := Aw.open pr4 (j := (0 : Int32)) 0 (by decide) (by decide) (by decide)
  replace hat3 : cl3.slots[((0 : Int32)).toNatClampNeg]? = some (.ref a11) := hat3
  replace k : Goes p e below s₁ G0 T2 (mkF m 10 #[.val (.ref a1), .val (.int 0), .val (.long q2), .second] [(.ref a11)]) := fun t q => k t (X2.aaload hx (j := (0 : Int32)) (v := (.ref a11)) (by rw [e2]; exact Ar3.1) (State.isArrayOf_alike hZ.alike Ar3.2.1) rfl Ar3.2.2 hin3 hat3 (g := (mkF m 9 #[.val (.ref a1), .val (.int 0), .val (.long q2), .second] [(.int 0), (.ref a4)])) rfl rfl (hb hby d_prog_52_method_5_9) _ q)
  replace k := Fw.iloadN k X2 hx (hb hby d_prog_52_method_5_10) rfl (pc' := 11) rfl
  replace k := Fw.sipush k X2 hx (hb hby d_prog_52_method_5_11) (z := (16383 : Int32)) (by decide) (pc' := 14) rfl
  replace k := Fw.iand k X2 hx (hb hby d_prog_52_method_5_14) (z := (0 : Int32)) (by decide) (pc' := 15) rfl
  replace k := Fw.lloadN k X2 hx (hb hby d_prog_52_method_5_15) rfl (pc' := 16) rfl
  replace k := Fw.bipush k X2 hx (hb hby d_prog_52_method_5_16) (z := (32 : Int32)) (by decide) (pc' := 18) rfl
  replace k := Fw.lushr k X2 hx (hb hby d_prog_52_method_5_18) rfl (pc' := 19) rfl
  replace k := Fw.l2i k X2 hx (hb hby d_prog_52_method_5_19) rfl (pc' := 20) rfl
  obtain ⟨cl4, Ar4, hin4, -, kq4, -⟩ := Aw.open pr5 (j := (0 : Int32)) 0 (by decide) (by decide) (by decide)
  obtain ⟨T4, h4, X4, e4, W4, st4⟩ := stI X2 hx hZ e2 Ar4 (j := (0 : Int32)) hin4 (g := (mkF m 20 #[.val (.ref a1), .val (.int 0), .val (.long q2), .second] [(.int (((q2.toUInt64 >>> ((32 : Int32) &&& 0x3f).toInt64.toUInt64).toInt64).toInt32)), (.int 0), (.ref a11)])) rfl rfl (hb hby d_prog_52_method_5_20)
  have N4 := Fr.snoc X4 N0 pr6
  have V4 : Aw Z h4 a11 "[I" k12 .int 16384 (updv (updv (fun _ => (.int 0)) 0 (.int (((q2.toUInt64 >>> ((32 : Int32) &&& 0x3f).toInt64.toUInt64).toInt64).toInt32))) 1 (.int p14)) := Aw.norm (Aw.set pr5 W4 0 (by decide) rfl) (fun j _ => by simp only [updv]; (repeat' split) <;> first | rfl | omega)
  replace k : Goes p e below s₁ G0 T4 (mkF m 21 #[.val (.ref a1), .val (.int 0), .val (.long q2), .second] []) := fun t q => k t (st4 _ q)
  replace k := Fw.aloadN k X4 hx (hb hby d_prog_52_method_5_21) rfl rfl (pc' := 22) rfl
  have fc5 := (pr1.other W4 pr7)
  obtain ⟨T6, X6, e6, st6⟩ := getF X4 hx hZ hown (host := "") (Or.inl (w_15 hw)) Via.refl e4 (Ob.at fc5 2 rfl) (g := (mkF m 22 #[.val (.ref a1), .val (.int 0), .val (.long q2), .second] [(.ref a1)])) rfl rfl (hb hby d_prog_52_method_5_22)
  replace k : Goes p e below s₁ G0 T6 (mkF m 25 #[.val (.ref a1), .val (.int 0), .val (.long q2), .second] [(.ref a5)]) := fun t q => k t (st6 _ q)
  replace k := Fw.iloadN k X6 hx (hb hby d_prog_52_method_5_25) rfl (pc' := 26) rfl
  have fc7 := (O0.wr W4 pr6)
  obtain ⟨T8, X8, e8, st8⟩ := getS2 X6 hx hZ hown (host := "") (Or.inl (w_97 hw)) Via.refl e6 (pr2.ext fc7.2) (g := (mkF m 26 #[.val (.ref a1), .val (.int 0), .val (.long q2), .second] [(.int 0), (.ref a5)])) rfl (hb hby d_prog_52_method_5_26)
  replace k : Goes p e below s₁ G0 T8 (mkF m 29 #[.val (.ref a1), .val (.int 0), .val (.long q2), .second] [(.int 14), (.int 0), (.ref a5)]) := fun t q => k t (st8 _ q)
  replace k := Fw.iushr k X8 hx (hb hby d_prog_52_method_5_29) (z := (0 : Int32)) (by decide) (pc' := 30) rfl
  have fc10 := (pr9.other W4 pr10)
  obtain ⟨cl9, Ar9, hin9, hat9, -, -⟩ := Aw.open fc10 (j := (0 : Int32)) 0 (by decide) (by decide) (by decide)
  replace hat9 : cl9.slots[((0 : Int32)).toNatClampNeg]? = some (.ref a16) := hat9
  replace k : Goes p e below s₁ G0 T8 (mkF m 31 #[.val (.ref a1), .val (.int 0), .val (.long q2), .second] [(.ref a16)]) := fun t q => k t (X8.aaload hx (j := (0 : Int32)) (v := (.ref a16)) (by rw [e8]; exact Ar9.1) (State.isArrayOf_alike hZ.alike Ar9.2.1) rfl Ar9.2.2 hin9 hat9 (g := (mkF m 30 #[.val (.ref a1), .val (.int 0), .val (.long q2), .second] [(.int 0), (.ref a5)])) rfl rfl (hb hby d_prog_52_method_5_30) _ q)
  replace k := Fw.iloadN k X8 hx (hb hby d_prog_52_method_5_31) rfl (pc' := 32) rfl
  replace k := Fw.sipush k X8 hx (hb hby d_prog_52_method_5_32) (z := (16383 : Int32)) (by decide) (pc' := 35) rfl
  replace k := Fw.iand k X8 hx (hb hby d_prog_52_method_5_35) (z := (0 : Int32)) (by decide) (pc' := 36) rfl
  replace k := Fw.lloadN k X8 hx (hb hby d_prog_52_method_5_36) rfl (pc' := 37) rfl
  replace k := Fw.l2i k X8 hx (hb hby d_prog_52_method_5_37) rfl (pc' := 38) rfl
  have fc11 := (pr11.other W4 pr12)
  obtain ⟨cl12, Ar12, hin12, -, kq12, -⟩ := Aw.open fc11 (j := (0 : Int32)) 0 (by decide) (by decide) (by decide)
  obtain ⟨T12, h12, X12, e12, W12, st12⟩ := stI X8 hx hZ e8 Ar12 (j := (0 : Int32)) hin12 (g := (mkF m 38 #[.val (.ref a1), .val (.int 0), .val (.long q2), .second] [(.int (q2.toInt32)), (.int 0), (.ref a16)])) rfl rfl (hb hby d_prog_52_method_5_38)
  have N12 := Fr.snoc X12 N4 pr13
  have V12 : Aw Z h12 a16 "[I" k17 .int 16384 (updv (updv (fun _ => (.int 0)) 0 (.int (q2.toInt32))) 1 (.int p19)) := Aw.norm (Aw.set fc11 W12 0 (by decide) rfl) (fun j _ => by simp only [updv]; (repeat' split) <;> first | rfl | omega)
  replace k : Goes p e below s₁ G0 T12 (mkF m 39 #[.val (.ref a1), .val (.int 0), .val (.long q2), .second] []) := fun t q => k t (st12 _ q)
  obtain ⟨fs, hr, hrun, hended, hW, hsame⟩ := X12.leave (v := none) (fun _ => rfl)
  refine ⟨_, _, pre0 _ (k _ ?_), hrun, hended, _, _, rfl, ?_, ⟨_, rfl⟩, hW, hsame.mono (by decide) (by decide)⟩
  · exact X12.returnOut hx Bd.returns (hb hby d_prog_52_method_5_39) hr
  · show Q_Statements_setOperandAt_3 Z a1 q2 a3 a4 a5 a6 a7 a8 a9 k10 a11 k12 p13 p14 k15 a16 k17 p18 p19 h0 n0 _ T12.heap _
    rw [e12]
    exact ⟨rfl, N12, (((Keep.refl h0 [a16, a11]).wr W4 (Or.inl (List.mem_of_getElem? (i := 1) rfl))).wr W12 (Or.inl (List.mem_of_getElem? (i := 0) rfl))), V12, (V4.other W12 (Ne.symm pr12))⟩
theorem d_prog_52_method_4_19 : decode prog_52_method_4_code 19 = .ok (.return_, 1) := by decide +kernel
def Q_Statements_setOperand_1 (Z : State) (a1 : Addr) (q2 : Int64) (a3 : Addr) (a4 : Addr) (a5 : Addr) (a6 : Addr) (a7 : Addr) (a8 : Addr) (a9 : Addr) (k10 : ClassId) (a11 : Addr) (k12 : ClassId) (p13 : Int32) (p14 : Int32) (k15 : ClassId) (a16 : Addr) (k17 : ClassId) (p18 : Int32) (p19 : Int32) (h0 : Heap) (n0 : Nat) (v : Option Value) (h : Heap) (L : List Loc) : Prop := v = none ∧ Fr n0 L ∧ Keep h0 h [a16, a11] ∧ Aw Z h a16 "[I" k17 .int 16384 (updv (updv (fun _ => (.int 0)) 0 (.int (q2.toInt32))) 1 (.int p19)) ∧ Aw Z h a11 "[I" k12 .int 16384 (updv (updv (fun _ => (.int 0)) 0 (.int (((q2.toUInt64 >>> ((32 : Int32) &&& 0x3f).toInt64.toUInt64).toInt64).toInt32))) 1 (.int p14))
set_option maxRecDepth 65536 in
set_option maxHeartbeats 40000000 in
theorem rm_Statements_setOperand_1 (l : Launch) (Z : State) (a0 : Array Value) (hw : ∀ d ∈ tables_1, d.before a0 Z = true) (ws : List Jvm.Cond) (a1 : Addr) (q2 : Int64) (a3 : Addr) (a4 : Addr) (a5 : Addr) (a6 : Addr) (a7 : Addr) (a8 : Addr) (a9 : Addr) (k10 : ClassId) (a11 : Addr) (k12 : ClassId) (p13 : Int32) (p14 : Int32) (k15 : ClassId) (a16 : Addr) (k17 : ClassId) (p18 : Int32) (p19 : Int32) (h0 : Heap) (n0 : Nat) (O0 : Old Z n0 h0) (pr1 : Ob Z h0 a1 "com/example/kleinmaschine/kleinmaschine/Statements" [("com/example/kleinmaschine/kleinmaschine/Statements", "headPages", "[[I", (.ref a3)), ("com/example/kleinmaschine/kleinmaschine/Statements", "upperPages", "[[I", (.ref a4)), ("com/example/kleinmaschine/kleinmaschine/Statements", "lowerPages", "[[I", (.ref a5)), ("com/example/kleinmaschine/kleinmaschine/Statements", "records", "Lcom/example/kleinmaschine/kleinmaschine/PagedBytes;", (.ref a6)), ("com/example/kleinmaschine/kleinmaschine/Statements", "checkpointPlaces", "[J", (.ref a7)), ("com/example/kleinmaschine/kleinmaschine/Statements", "checkpointLines", "[J", (.ref a8)), ("com/example/kleinmaschine/kleinmaschine/Statements", "checkpointColumns", "[J", (.ref a9)), ("com/example/kleinmaschine/kleinmaschine/Statements", "heads", "[I", .null), ("com/example/kleinmaschine/kleinmaschine/Statements", "size", "I", (.int 2)), ("com/example/kleinmaschine/kleinmaschine/Statements", "lastLine", "J", (.long 1)), ("com/example/kleinmaschine/kleinmaschine/Statements", "lastColumn", "J", (.long 1)), ("com/example/kleinmaschine/kleinmaschine/Statements", "uppers", "[I", .null), ("com/example/kleinmaschine/kleinmaschine/Statements", "lowers", "[I", .null)]) (pr2 : OvrA Z k10 .int "[I") (pr3 : Aw Z h0 a4 "[[I" k10 (.array .int) 16 (updv (fun _ => .null) 0 (.ref a11))) (pr4 : Aw Z h0 a11 "[I" k12 .int 16384 (updv (updv (fun _ => (.int 0)) 0 (.int p13)) 1 (.int p14))) (pr5 : n0 ≤ a11) (pr6 : a1 ≠ a11) (pr7 : OvrA Z k15 .int "[I") (pr8 : Aw Z h0 a5 "[[I" k15 (.array .int) 16 (updv (fun _ => .null) 0 (.ref a16))) (pr9 : a5 ≠ a11) (pr10 : Aw Z h0 a16 "[I" k17 .int 16384 (updv (updv (fun _ => (.int 0)) 0 (.int p18)) 1 (.int p19))) (pr11 : a16 ≠ a11) (pr12 : n0 ≤ a16) (pr13 : Sta Z Z.heap "com/example/kleinmaschine/kleinmaschine/Statements" "PAGE_BITS" "I" (.int (14 : Int32))) :
    MetFree l (⟨"com/example/kleinmaschine/kleinmaschine/Statements", "setOperand", "(IJ)V"⟩ : MethodName) (head1 (Jvm.Cond.code (⟨"com/example/kleinmaschine/kleinmaschine/Statements", "setOperand", "(IJ)V"⟩ : MethodName) prog_52_method_4_code 4 none :: ws) ({ frames := 2, cells := 0, slots := 0, locals := 27 } : Room)) (fun a U => a = #[(.ref a1), (.int 0), (.long q2)] ∧ Z.Warmed39 U.vm ∧ U.heap = h0) (fun _ _ _ _ _ => True) (fun _ U o U' => ∃ v L, o = .returned v ∧ Q_Statements_setOperand_1 Z a1 q2 a3 a4 a5 a6 a7 a8 a9 k10 a11 k12 p13 p14 k15 a16 k17 p18 p19 h0 n0 v U'.heap L ∧ FrameEnd U o U' L ({ frames := 2, cells := 0, slots := 0, locals := 27 } : Room).cells ({ frames := 2, cells := 0, slots := 0, locals := 27 } : Room).slots) := by
  refine MetFree.of_bodySF (plainFor_of_name pn_Statements) hisR ?_
  intro p e s m args below meth c s₁ Bd hml0 hP hK
  obtain ⟨rfl, hZ, hh⟩ := hP
  have hx := Bd.exec
  have hby := Bd.bytes
  have hml : c.maxLocals = 4 := hml0
  have hown : s.vm.findClass "com/example/kleinmaschine/kleinmaschine/Statements" = some m.cls := findClass_of_methodNamed Bd.named
  have hnm := (name_of_methodNamed Bd.named Bd.method).1
  have X0 : Stand p l e ({ frames := 2, cells := 0, slots := 0, locals := 27 } : Room) s m #[(.ref a1), (.int 0), (.long q2)] below meth c s₁ [] 0 0 := Stand.of_body Bd
  have e0 : s₁.heap = h0 := by rw [← hh, Bd.state]; rfl
  have N0 := Fr.nil n0
  obtain ⟨G0, hG0⟩ : ∃ z, z = (mkF m 0 #[.val (.ref a1), .val (.int 0), .val (.long q2), .second] []) := ⟨_, rfl⟩
  have pre0 : ∀ t, Steps p.tables e below (s₁.setTop G0) t → Steps p.tables e below (s₁.setTop (entryFrame m #[(.ref a1), (.int 0), (.long q2)] 4)) t := fun t k => castTop (ef_RIJ_4 m a1 ((0 : Int32)) q2) (hG0 ▸ k)
  have k : Goes p e below s₁ G0 s₁ (mkF m 0 #[.val (.ref a1), .val (.int 0), .val (.long q2), .second] []) := fun t q => hG0 ▸ q
  replace k := Fw.aloadN k X0 hx (hb hby d_prog_52_method_4_0) rfl rfl (pc' := 1) rfl
  obtain ⟨cq1, q1, q1'⟩ := Exa.cell pr1.exa
  obtain ⟨_, _, ⟨T1, L1, kz1, nz1⟩, -, X1, ⟨Lc1, hQ1, l1, y1, z1⟩, st1⟩ := X0.privateBack hx (y := (⟨"com/example/kleinmaschine/kleinmaschine/Statements", "checkAdding", "()V"⟩ : MethodName)) hown (mvT hZ (w_88 hw)) (mvT hZ (w_89 hw)) (Jvm.Kit.selects_private (by decide) (mvT hZ (w_1 hw)) (mvP hZ (w_90 hw)) (mvT hZ (w_89 hw))) (Cond.privateMethod_at (mvP hZ (w_90 hw) (args := #[]))) (mvT hZ (w_91 hw)) (by decide) (backOf (W := 0) (rm_Statements_checkAdding_3 l Z a0 hw [] a1 a3 a4 a5 a6 a7 a8 a9 h0 n0 O0 pr1) hZ (w_91 hw) (w_2 hw) (by decide) (by decide)) (g := (mkF m 1 #[.val (.ref a1), .val (.int 0), .val (.long q2), .second] [(.ref a1)])) rfl (by rw [hml]; rfl) (Steps.refl _) (a := a1) (by rw [e0]; exact q1) q1' (argsL := []) (rest := []) (lenOf pd__r_V rfl) rfl (by show 2 * 0 + _ ≤ _; exact Nat.le_of_eq rfl) (hb hby d_prog_52_method_4_1) (fun _ _ => ⟨rfl, e0, (by decide : 0 + 0 ≤ _), (by decide : 0 + 0 ≤ _)⟩)
  dsimp only [Pt.U, Pt.locs, Pt.cells, Pt.slots] at X1 l1 y1 z1 st1 hQ1
  subst l1 y1 z1
  obtain ⟨hv1, N1q, e1⟩ := hQ1
  subst hv1
  have N1 := Fr.app N0 N1q
  replace k : Goes p e below s₁ G0 T1 (mkF m 4 #[.val (.ref a1), .val (.int 0), .val (.long q2), .second] []) := fun t q => k t (st1.trans q)
  replace k := Fw.iloadN k X1 hx (hb hby d_prog_52_method_4_4) rfl (pc' := 5) rfl
  replace k := Fw.aloadN k X1 hx (hb hby d_prog_52_method_4_5) rfl rfl (pc' := 6) rfl
  obtain ⟨T2, X2, e2, st2⟩ := getF X1 hx hZ hown (host := "") (Or.inl (w_94 hw)) Via.refl e1 (Ob.at pr1 8 rfl) (g := (mkF m 6 #[.val (.ref a1), .val (.int 0), .val (.long q2), .second] [(.ref a1), (.int 0)])) rfl rfl (hb hby d_prog_52_method_4_6)
  replace k : Goes p e below s₁ G0 T2 (mkF m 9 #[.val (.ref a1), .val (.int 0), .val (.long q2), .second] [(.int 2), (.int 0)]) := fun t q => k t (st2 _ q)
  obtain ⟨_, _, ⟨T3, L3, kz3, nz3⟩, -, X3, ⟨Lc3, hQ3, l3, y3, z3⟩, st3⟩ := Jvm.LawKit.callS X2 hx (y := (⟨"java/util/Objects", "checkIndex", "(II)I"⟩ : MethodName)) hown (mvT hZ (w_220 hw)) (mvT hZ (w_221 hw)) (mvT hZ (w_222 hw)) (mvT hZ (w_223 hw)) (by decide) (backOf (W := 0) (rm_Objects_checkIndex_1 l Z a0 hw []  h0 n0 O0 ) hZ (w_223 hw) (w_222 hw) (by decide) (by decide)) (g := (mkF m 9 #[.val (.ref a1), .val (.int 0), .val (.long q2), .second] [(.int 2), (.int 0)])) rfl (by rw [hml]; rfl) (argsL := [(.int 0), (.int 2)]) (rest := []) (lenOf pd_II_r_I rfl) rfl (by show 2 * 0 + _ ≤ _; exact Nat.le_of_eq rfl) (hb hby d_prog_52_method_4_9) (fun _ _ => ⟨rfl, e2, (by decide : 0 + 0 ≤ _), (by decide : 0 + 0 ≤ _)⟩)
  dsimp only [Pt.U, Pt.locs, Pt.cells, Pt.slots] at X3 l3 y3 z3 st3 hQ3
  subst l3 y3 z3
  obtain ⟨hv3, N3q, e3⟩ := hQ3
  subst hv3
  have N3 := Fr.app N1 N3q
  replace k : Goes p e below s₁ G0 T3 (mkF m 12 #[.val (.ref a1), .val (.int 0), .val (.long q2), .second] [(.int 0)]) := fun t q => k t (st3 _ q)
  replace k := Fw.pop k X3 hx (hb hby d_prog_52_method_4_12) rfl (pc' := 13) rfl
  replace k := Fw.aloadN k X3 hx (hb hby d_prog_52_method_4_13) rfl rfl (pc' := 14) rfl
  replace k := Fw.iloadN k X3 hx (hb hby d_prog_52_method_4_14) rfl (pc' := 15) rfl
  replace k := Fw.lloadN k X3 hx (hb hby d_prog_52_method_4_15) rfl (pc' := 16) rfl
  obtain ⟨cq4, q4, q4'⟩ := Exa.cell pr1.exa
  obtain ⟨_, _, ⟨T4, L4, kz4, nz4⟩, -, X4, ⟨Lc4, hQ4, l4, y4, z4⟩, st4⟩ := X3.privateBack hx (y := (⟨"com/example/kleinmaschine/kleinmaschine/Statements", "setOperandAt", "(IJ)V"⟩ : MethodName)) hown (mvT hZ (w_101 hw)) (mvT hZ (w_102 hw)) (Jvm.Kit.selects_private (by decide) (mvT hZ (w_1 hw)) (mvP hZ (w_103 hw)) (mvT hZ (w_102 hw))) (Cond.privateMethod_at (mvP hZ (w_103 hw) (args := #[]))) (mvT hZ (w_104 hw)) (by decide) (backOf (W := 0) (rm_Statements_setOperandAt_3 l Z a0 hw [] a1 q2 a3 a4 a5 a6 a7 a8 a9 k10 a11 k12 p13 p14 k15 a16 k17 p18 p19 h0 n0 O0 pr1 pr13 pr2 pr3 pr4 pr5 pr6 pr7 pr8 pr9 pr10 pr11 pr12) hZ (w_104 hw) (w_2 hw) (by decide) (by decide)) (g := (mkF m 16 #[.val (.ref a1), .val (.int 0), .val (.long q2), .second] [(.long q2), (.int 0), (.ref a1)])) rfl (by rw [hml]; rfl) (Steps.refl _) (a := a1) (by rw [e3]; exact q4) q4' (argsL := [(.int 0), (.long q2)]) (rest := []) (lenOf pd_IJ_r_V rfl) rfl (by show 2 * 0 + _ ≤ _; exact Nat.le_of_eq rfl) (hb hby d_prog_52_method_4_16) (fun _ _ => ⟨rfl, e3, (by decide : 0 + 0 ≤ _), (by decide : 0 + 0 ≤ _)⟩)
  dsimp only [Pt.U, Pt.locs, Pt.cells, Pt.slots] at X4 l4 y4 z4 st4 hQ4
  subst l4 y4 z4
  obtain ⟨hv4, N4q, K4, f4_0, f4_1⟩ := hQ4
  subst hv4
  have N4 := Fr.app N3 N4q
  replace k : Goes p e below s₁ G0 T4 (mkF m 19 #[.val (.ref a1), .val (.int 0), .val (.long q2), .second] []) := fun t q => k t (st4.trans q)
  obtain ⟨fs, hr, hrun, hended, hW, hsame⟩ := X4.leave (v := none) (fun _ => rfl)
  refine ⟨_, _, pre0 _ (k _ ?_), hrun, hended, _, _, rfl, ?_, ⟨_, rfl⟩, hW, hsame.mono (by decide) (by decide)⟩
  · exact X4.returnOut hx Bd.returns (hb hby d_prog_52_method_4_19) hr
  · show Q_Statements_setOperand_1 Z a1 q2 a3 a4 a5 a6 a7 a8 a9 k10 a11 k12 p13 p14 k15 a16 k17 p18 p19 h0 n0 _ T4.heap _
    exact ⟨rfl, N4, ((Keep.refl h0 [a16, a11]).trans K4 (allS (Or.inl (List.mem_of_getElem? (i := 0) rfl)) (allS (Or.inl (List.mem_of_getElem? (i := 1) rfl)) all0))), f4_0, f4_1⟩
theorem w_215 {Z : State} {a0 : Array Value} (hw : ∀ d ∈ tables_1, d.before a0 Z = true) : (Jvm.Cond.methodLink "com/example/kleinmaschine/kleinmaschine/StatementsOperandPinLaw" (19 : Nat) ({ cls := "com/example/kleinmaschine/kleinmaschine/Statements", name := "setOperand", desc := "(IJ)V" } : Jvm.MethodName)).before a0 Z = true := hw _ (List.mem_of_getElem? (i := 215) rfl)
theorem w_219 {Z : State} {a0 : Array Value} (hw : ∀ d ∈ tables_1, d.before a0 Z = true) : (Jvm.Cond.code ({ cls := "com/example/kleinmaschine/kleinmaschine/Statements", name := "setOperand", desc := "(IJ)V" } : Jvm.MethodName) prog_52_method_4_code (4 : Nat) (Option.none : Option Jvm.ClassFile.FieldType)).before a0 Z = true := hw _ (List.mem_of_getElem? (i := 219) rfl)
theorem w_218 {Z : State} {a0 : Array Value} (hw : ∀ d ∈ tables_1, d.before a0 Z = true) : (Jvm.Cond.selects "com/example/kleinmaschine/kleinmaschine/Statements" ({ cls := "com/example/kleinmaschine/kleinmaschine/Statements", name := "setOperand", desc := "(IJ)V" } : Jvm.MethodName) ({ cls := "com/example/kleinmaschine/kleinmaschine/Statements", name := "setOperand", desc := "(IJ)V" } : Jvm.MethodName)).before a0 Z = true := hw _ (List.mem_of_getElem? (i := 218) rfl)
theorem w_216 {Z : State} {a0 : Array Value} (hw : ∀ d ∈ tables_1, d.before a0 Z = true) : (Jvm.Cond.declares ({ cls := "com/example/kleinmaschine/kleinmaschine/Statements", name := "setOperand", desc := "(IJ)V" } : Jvm.MethodName)).before a0 Z = true := hw _ (List.mem_of_getElem? (i := 216) rfl)
theorem w_217 {Z : State} {a0 : Array Value} (hw : ∀ d ∈ tables_1, d.before a0 Z = true) : (Jvm.Cond.instanceMethod ({ cls := "com/example/kleinmaschine/kleinmaschine/Statements", name := "setOperand", desc := "(IJ)V" } : Jvm.MethodName)).before a0 Z = true := hw _ (List.mem_of_getElem? (i := 217) rfl)
def Q_Preconditions_checkIndex_2 (Z : State)  (h0 : Heap) (n0 : Nat) (v : Option Value) (h : Heap) (L : List Loc) : Prop := v = some (.int 1) ∧ Fr n0 L ∧ h = h0
set_option maxRecDepth 65536 in
set_option maxHeartbeats 40000000 in
theorem rm_Preconditions_checkIndex_2 (l : Launch) (Z : State) (a0 : Array Value) (hw : ∀ d ∈ tables_1, d.before a0 Z = true) (ws : List Jvm.Cond)  (h0 : Heap) (n0 : Nat) (O0 : Old Z n0 h0) :
    MetFree l (⟨"jdk/internal/util/Preconditions", "checkIndex", "(IILjava/util/function/BiFunction;)I"⟩ : MethodName) (head1 (Jvm.Cond.code (⟨"jdk/internal/util/Preconditions", "checkIndex", "(IILjava/util/function/BiFunction;)I"⟩ : MethodName) jdk_41_method_11_code 3 (some .int) :: ws) ({ frames := 0, cells := 0, slots := 0, locals := 0 } : Room)) (fun a U => a = #[(.int 1), (.int 2), .null] ∧ Z.Warmed39 U.vm ∧ U.heap = h0) (fun _ _ _ _ _ => True) (fun _ U o U' => ∃ v L, o = .returned v ∧ Q_Preconditions_checkIndex_2 Z  h0 n0 v U'.heap L ∧ FrameEnd U o U' L ({ frames := 0, cells := 0, slots := 0, locals := 0 } : Room).cells ({ frames := 0, cells := 0, slots := 0, locals := 0 } : Room).slots) := by
  refine MetFree.of_bodySF (plainFor_of_name pn_Preconditions) hisR ?_
  intro p e s m args below meth c s₁ Bd hml0 hP hK
  obtain ⟨rfl, hZ, hh⟩ := hP
  have hx := Bd.exec
  have hby := Bd.bytes
  have hml : c.maxLocals = 3 := hml0
  have hown : s.vm.findClass "jdk/internal/util/Preconditions" = some m.cls := findClass_of_methodNamed Bd.named
  have hnm := (name_of_methodNamed Bd.named Bd.method).1
  have X0 : Stand p l e ({ frames := 0, cells := 0, slots := 0, locals := 0 } : Room) s m #[(.int 1), (.int 2), .null] below meth c s₁ [] 0 0 := Stand.of_body Bd
  have e0 : s₁.heap = h0 := by rw [← hh, Bd.state]; rfl
  have N0 := Fr.nil n0
  obtain ⟨G0, hG0⟩ : ∃ z, z = (mkF m 0 #[.val (.int 1), .val (.int 2), .val .null] []) := ⟨_, rfl⟩
  have pre0 : ∀ t, Steps p.tables e below (s₁.setTop G0) t → Steps p.tables e below (s₁.setTop (entryFrame m #[(.int 1), (.int 2), .null] 3)) t := fun t k => castTop (ef_IIN_3 m ((1 : Int32)) ((2 : Int32))) (hG0 ▸ k)
  have k : Goes p e below s₁ G0 s₁ (mkF m 0 #[.val (.int 1), .val (.int 2), .val .null] []) := fun t q => hG0 ▸ q
  replace k := Fw.iloadN k X0 hx (hb hby d_jdk_41_method_11_0) rfl (pc' := 1) rfl
  replace k := Fw.ifNo k X0 hx (hb hby d_jdk_41_method_11_1) ((if0 _ _).trans (flt (show ¬ ((1 : Int32) < (0 : Int32)) from by decide)).1) (pc' := 4) rfl
  replace k := Fw.iloadN k X0 hx (hb hby d_jdk_41_method_11_4) rfl (pc' := 5) rfl
  replace k := Fw.iloadN k X0 hx (hb hby d_jdk_41_method_11_5) rfl (pc' := 6) rfl
  replace k := Fw.icmpYes k X0 hx (hb hby d_jdk_41_method_11_6) (tlt (show (1 : Int32) < (2 : Int32) from by decide)).1 (by decide) (pc' := 16) rfl
  replace k := Fw.iloadN k X0 hx (hb hby d_jdk_41_method_11_16) rfl (pc' := 17) rfl
  obtain ⟨fs, hr, hrun, hended, hW, hsame⟩ := X0.leave (v := some (.int 1)) (fun h => by rw [Bd.returns] at h; cases h)
  refine ⟨_, _, pre0 _ (k _ ?_), hrun, hended, _, _, rfl, ?_, ⟨_, rfl⟩, hW, hsame.mono (by decide) (by decide)⟩
  · exact retI X0 hx Bd.returns (hb hby d_jdk_41_method_11_17) hr
  · show Q_Preconditions_checkIndex_2 Z  h0 n0 _ s₁.heap _
    rw [e0]
    exact ⟨rfl, N0, rfl⟩
def Q_Objects_checkIndex_2 (Z : State)  (h0 : Heap) (n0 : Nat) (v : Option Value) (h : Heap) (L : List Loc) : Prop := v = some (.int 1) ∧ Fr n0 L ∧ h = h0
set_option maxRecDepth 65536 in
set_option maxHeartbeats 40000000 in
theorem rm_Objects_checkIndex_2 (l : Launch) (Z : State) (a0 : Array Value) (hw : ∀ d ∈ tables_1, d.before a0 Z = true) (ws : List Jvm.Cond)  (h0 : Heap) (n0 : Nat) (O0 : Old Z n0 h0) :
    MetFree l (⟨"java/util/Objects", "checkIndex", "(II)I"⟩ : MethodName) (head1 (Jvm.Cond.code (⟨"java/util/Objects", "checkIndex", "(II)I"⟩ : MethodName) jdk_31_method_17_code 2 (some .int) :: ws) ({ frames := 1, cells := 0, slots := 0, locals := 14 } : Room)) (fun a U => a = #[(.int 1), (.int 2)] ∧ Z.Warmed39 U.vm ∧ U.heap = h0) (fun _ _ _ _ _ => True) (fun _ U o U' => ∃ v L, o = .returned v ∧ Q_Objects_checkIndex_2 Z  h0 n0 v U'.heap L ∧ FrameEnd U o U' L ({ frames := 1, cells := 0, slots := 0, locals := 14 } : Room).cells ({ frames := 1, cells := 0, slots := 0, locals := 14 } : Room).slots) := by
  refine MetFree.of_bodySF (plainFor_of_name pn_Objects) hisR ?_
  intro p e s m args below meth c s₁ Bd hml0 hP hK
  obtain ⟨rfl, hZ, hh⟩ := hP
  have hx := Bd.exec
  have hby := Bd.bytes
  have hml : c.maxLocals = 2 := hml0
  have hown : s.vm.findClass "java/util/Objects" = some m.cls := findClass_of_methodNamed Bd.named
  have hnm := (name_of_methodNamed Bd.named Bd.method).1
  have X0 : Stand p l e ({ frames := 1, cells := 0, slots := 0, locals := 14 } : Room) s m #[(.int 1), (.int 2)] below meth c s₁ [] 0 0 := Stand.of_body Bd
  have e0 : s₁.heap = h0 := by rw [← hh, Bd.state]; rfl
  have N0 := Fr.nil n0
  obtain ⟨G0, hG0⟩ : ∃ z, z = (mkF m 0 #[.val (.int 1), .val (.int 2)] []) := ⟨_, rfl⟩
  have pre0 : ∀ t, Steps p.tables e below (s₁.setTop G0) t → Steps p.tables e below (s₁.setTop (entryFrame m #[(.int 1), (.int 2)] 2)) t := fun t k => castTop (ef_II_2 m ((1 : Int32)) ((2 : Int32))) (hG0 ▸ k)
  have k : Goes p e below s₁ G0 s₁ (mkF m 0 #[.val (.int 1), .val (.int 2)] []) := fun t q => hG0 ▸ q
  replace k := Fw.iloadN k X0 hx (hb hby d_jdk_31_method_17_0) rfl (pc' := 1) rfl
  replace k := Fw.iloadN k X0 hx (hb hby d_jdk_31_method_17_1) rfl (pc' := 2) rfl
  replace k := Fw.aconstNull k X0 hx (hb hby d_jdk_31_method_17_2) (pc' := 3) rfl
  obtain ⟨_, _, ⟨T1, L1, kz1, nz1⟩, -, X1, ⟨Lc1, hQ1, l1, y1, z1⟩, st1⟩ := Jvm.LawKit.callS X0 hx (y := (⟨"jdk/internal/util/Preconditions", "checkIndex", "(IILjava/util/function/BiFunction;)I"⟩ : MethodName)) hown (mvT hZ (w_224 hw)) (mvT hZ (w_225 hw)) (mvT hZ (w_226 hw)) (mvT hZ (w_227 hw)) (by decide) (backOf (W := 0) (rm_Preconditions_checkIndex_2 l Z a0 hw []  h0 n0 O0 ) hZ (w_227 hw) (w_226 hw) (by decide) (by decide)) (g := (mkF m 3 #[.val (.int 1), .val (.int 2)] [.null, (.int 2), (.int 1)])) rfl (by rw [hml]; rfl) (argsL := [(.int 1), (.int 2), .null]) (rest := []) (lenOf pd_IILjava_util_function_BiFunction_r_I rfl) rfl (by show 2 * 0 + _ ≤ _; exact Nat.le_of_eq rfl) (hb hby d_jdk_31_method_17_3) (fun _ _ => ⟨rfl, e0, (by decide : 0 + 0 ≤ _), (by decide : 0 + 0 ≤ _)⟩)
  dsimp only [Pt.U, Pt.locs, Pt.cells, Pt.slots] at X1 l1 y1 z1 st1 hQ1
  subst l1 y1 z1
  obtain ⟨hv1, N1q, e1⟩ := hQ1
  subst hv1
  have N1 := Fr.app N0 N1q
  replace k : Goes p e below s₁ G0 T1 (mkF m 6 #[.val (.int 1), .val (.int 2)] [(.int 1)]) := fun t q => k t (st1 _ q)
  obtain ⟨fs, hr, hrun, hended, hW, hsame⟩ := X1.leave (v := some (.int 1)) (fun h => by rw [Bd.returns] at h; cases h)
  refine ⟨_, _, pre0 _ (k _ ?_), hrun, hended, _, _, rfl, ?_, ⟨_, rfl⟩, hW, hsame.mono (by decide) (by decide)⟩
  · exact retI X1 hx Bd.returns (hb hby d_jdk_31_method_17_6) hr
  · show Q_Objects_checkIndex_2 Z  h0 n0 _ T1.heap _
    rw [e1]
    exact ⟨rfl, N1, rfl⟩
def Q_Statements_setOperandAt_4 (Z : State) (a1 : Addr) (q2 : Int64) (a3 : Addr) (a4 : Addr) (a5 : Addr) (a6 : Addr) (a7 : Addr) (a8 : Addr) (a9 : Addr) (k10 : ClassId) (a11 : Addr) (k12 : ClassId) (p13 : Int32) (p14 : Int32) (k15 : ClassId) (a16 : Addr) (k17 : ClassId) (p18 : Int32) (p19 : Int32) (h0 : Heap) (n0 : Nat) (v : Option Value) (h : Heap) (L : List Loc) : Prop := v = none ∧ Fr n0 L ∧ Keep h0 h [a16, a11] ∧ Aw Z h a16 "[I" k17 .int 16384 (updv (updv (fun _ => (.int 0)) 0 (.int p18)) 1 (.int (q2.toInt32))) ∧ Aw Z h a11 "[I" k12 .int 16384 (updv (updv (fun _ => (.int 0)) 0 (.int p13)) 1 (.int (((q2.toUInt64 >>> ((32 : Int32) &&& 0x3f).toInt64.toUInt64).toInt64).toInt32)))
set_option maxRecDepth 65536 in
set_option maxHeartbeats 40000000 in
theorem rm_Statements_setOperandAt_4 (l : Launch) (Z : State) (a0 : Array Value) (hw : ∀ d ∈ tables_1, d.before a0 Z = true) (ws : List Jvm.Cond) (a1 : Addr) (q2 : Int64) (a3 : Addr) (a4 : Addr) (a5 : Addr) (a6 : Addr) (a7 : Addr) (a8 : Addr) (a9 : Addr) (k10 : ClassId) (a11 : Addr) (k12 : ClassId) (p13 : Int32) (p14 : Int32) (k15 : ClassId) (a16 : Addr) (k17 : ClassId) (p18 : Int32) (p19 : Int32) (h0 : Heap) (n0 : Nat) (O0 : Old Z n0 h0) (pr1 : Ob Z h0 a1 "com/example/kleinmaschine/kleinmaschine/Statements" [("com/example/kleinmaschine/kleinmaschine/Statements", "headPages", "[[I", (.ref a3)), ("com/example/kleinmaschine/kleinmaschine/Statements", "upperPages", "[[I", (.ref a4)), ("com/example/kleinmaschine/kleinmaschine/Statements", "lowerPages", "[[I", (.ref a5)), ("com/example/kleinmaschine/kleinmaschine/Statements", "records", "Lcom/example/kleinmaschine/kleinmaschine/PagedBytes;", (.ref a6)), ("com/example/kleinmaschine/kleinmaschine/Statements", "checkpointPlaces", "[J", (.ref a7)), ("com/example/kleinmaschine/kleinmaschine/Statements", "checkpointLines", "[J", (.ref a8)), ("com/example/kleinmaschine/kleinmaschine/Statements", "checkpointColumns", "[J", (.ref a9)), ("com/example/kleinmaschine/kleinmaschine/Statements", "heads", "[I", .null), ("com/example/kleinmaschine/kleinmaschine/Statements", "size", "I", (.int 2)), ("com/example/kleinmaschine/kleinmaschine/Statements", "lastLine", "J", (.long 1)), ("com/example/kleinmaschine/kleinmaschine/Statements", "lastColumn", "J", (.long 1)), ("com/example/kleinmaschine/kleinmaschine/Statements", "uppers", "[I", .null), ("com/example/kleinmaschine/kleinmaschine/Statements", "lowers", "[I", .null)]) (pr2 : Sta Z Z.heap "com/example/kleinmaschine/kleinmaschine/Statements" "PAGE_BITS" "I" (.int (14 : Int32))) (pr3 : OvrA Z k10 .int "[I") (pr4 : Aw Z h0 a4 "[[I" k10 (.array .int) 16 (updv (fun _ => .null) 0 (.ref a11))) (pr5 : Aw Z h0 a11 "[I" k12 .int 16384 (updv (updv (fun _ => (.int 0)) 0 (.int p13)) 1 (.int p14))) (pr6 : n0 ≤ a11) (pr7 : a1 ≠ a11) (pr8 : OvrA Z k15 .int "[I") (pr9 : Aw Z h0 a5 "[[I" k15 (.array .int) 16 (updv (fun _ => .null) 0 (.ref a16))) (pr10 : a5 ≠ a11) (pr11 : Aw Z h0 a16 "[I" k17 .int 16384 (updv (updv (fun _ => (.int 0)) 0 (.int p18)) 1 (.int p19))) (pr12 : a16 ≠ a11) (pr13 : n0 ≤ a16) :
    MetFree l (⟨"com/example/kleinmaschine/kleinmaschine/Statements", "setOperandAt", "(IJ)V"⟩ : MethodName) (head1 (Jvm.Cond.code (⟨"com/example/kleinmaschine/kleinmaschine/Statements", "setOperandAt", "(IJ)V"⟩ : MethodName) prog_52_method_5_code 4 none :: ws) ({ frames := 0, cells := 0, slots := 0, locals := 0 } : Room)) (fun a U => a = #[(.ref a1), (.int 1), (.long q2)] ∧ Z.Warmed39 U.vm ∧ U.heap = h0) (fun _ _ _ _ _ => True) (fun _ U o U' => ∃ v L, o = .returned v ∧ Q_Statements_setOperandAt_4 Z a1 q2 a3 a4 a5 a6 a7 a8 a9 k10 a11 k12 p13 p14 k15 a16 k17 p18 p19 h0 n0 v U'.heap L ∧ FrameEnd U o U' L ({ frames := 0, cells := 0, slots := 0, locals := 0 } : Room).cells ({ frames := 0, cells := 0, slots := 0, locals := 0 } : Room).slots) := by
  refine MetFree.of_bodySF (plainFor_of_name pn_Statements) hisR ?_
  intro p e s m args below meth c s₁ Bd hml0 hP hK
  obtain ⟨rfl, hZ, hh⟩ := hP
  have hx := Bd.exec
  have hby := Bd.bytes
  have hml : c.maxLocals = 4 := hml0
  have hown : s.vm.findClass "com/example/kleinmaschine/kleinmaschine/Statements" = some m.cls := findClass_of_methodNamed Bd.named
  have hnm := (name_of_methodNamed Bd.named Bd.method).1
  have X0 : Stand p l e ({ frames := 0, cells := 0, slots := 0, locals := 0 } : Room) s m #[(.ref a1), (.int 1), (.long q2)] below meth c s₁ [] 0 0 := Stand.of_body Bd
  have e0 : s₁.heap = h0 := by rw [← hh, Bd.state]; rfl
  have N0 := Fr.nil n0
  obtain ⟨G0, hG0⟩ : ∃ z, z = (mkF m 0 #[.val (.ref a1), .val (.int 1), .val (.long q2), .second] []) := ⟨_, rfl⟩
  have pre0 : ∀ t, Steps p.tables e below (s₁.setTop G0) t → Steps p.tables e below (s₁.setTop (entryFrame m #[(.ref a1), (.int 1), (.long q2)] 4)) t := fun t k => castTop (ef_RIJ_4 m a1 ((1 : Int32)) q2) (hG0 ▸ k)
  have k : Goes p e below s₁ G0 s₁ (mkF m 0 #[.val (.ref a1), .val (.int 1), .val (.long q2), .second] []) := fun t q => hG0 ▸ q
  replace k := Fw.aloadN k X0 hx (hb hby d_prog_52_method_5_0) rfl rfl (pc' := 1) rfl
  obtain ⟨T1, X1, e1, st1⟩ := getF X0 hx hZ hown (host := "") (Or.inl (w_13 hw)) Via.refl e0 (Ob.at pr1 1 rfl) (g := (mkF m 1 #[.val (.ref a1), .val (.int 1), .val (.long q2), .second] [(.ref a1)])) rfl rfl (hb hby d_prog_52_method_5_1)
  replace k : Goes p e below s₁ G0 T1 (mkF m 4 #[.val (.ref a1), .val (.int 1), .val (.long q2), .second] [(.ref a4)]) := fun t q => k t (st1 _ q)
  replace k := Fw.iloadN k X1 hx (hb hby d_prog_52_method_5_4) rfl (pc' := 5) rfl
  obtain ⟨T2, X2, e2, st2⟩ := getS2 X1 hx hZ hown (host := "") (Or.inl (w_97 hw)) Via.refl e1 (pr2.ext O0.2) (g := (mkF m 5 #[.val (.ref a1), .val (.int 1), .val (.long q2), .second] [(.int 1), (.ref a4)])) rfl (hb hby d_prog_52_method_5_5)
  replace k : Goes p e below s₁ G0 T2 (mkF m 8 #[.val (.ref a1), .val (.int 1), .val (.long q2), .second] [(.int 14), (.int 1), (.ref a4)]) := fun t q => k t (st2 _ q)
  replace k := Fw.iushr k X2 hx (hb hby d_prog_52_method_5_8) (z := (0 : Int32)) (by decide) (pc' := 9) rfl
  obtain ⟨cl3, Ar3, hin3, hat3, -, -⟩ := Aw.open pr4 (j := (0 : Int32)) 0 (by decide) (by decide) (by decide)
  replace hat3 : cl3.slots[((0 : Int32)).toNatClampNeg]? = some (.ref a11) := hat3
  replace k : Goes p e below s₁ G0 T2 (mkF m 10 #[.val (.ref a1), .val (.int 1), .val (.long q2), .second] [(.ref a11)]) := fun t q => k t (X2.aaload hx (j := (0 : Int32)) (v := (.ref a11)) (by rw [e2]; exact Ar3.1) (State.isArrayOf_alike hZ.alike Ar3.2.1) rfl Ar3.2.2 hin3 hat3 (g := (mkF m 9 #[.val (.ref a1), .val (.int 1), .val (.long q2), .second] [(.int 0), (.ref a4)])) rfl rfl (hb hby d_prog_52_method_5_9) _ q)
  replace k := Fw.iloadN k X2 hx (hb hby d_prog_52_method_5_10) rfl (pc' := 11) rfl
  replace k := Fw.sipush k X2 hx (hb hby d_prog_52_method_5_11) (z := (16383 : Int32)) (by decide) (pc' := 14) rfl
  replace k := Fw.iand k X2 hx (hb hby d_prog_52_method_5_14) (z := (1 : Int32)) (by decide) (pc' := 15) rfl
  replace k := Fw.lloadN k X2 hx (hb hby d_prog_52_method_5_15) rfl (pc' := 16) rfl
  replace k := Fw.bipush k X2 hx (hb hby d_prog_52_method_5_16) (z := (32 : Int32)) (by decide) (pc' := 18) rfl
  replace k := Fw.lushr k X2 hx (hb hby d_prog_52_method_5_18) rfl (pc' := 19) rfl
  replace k := Fw.l2i k X2 hx (hb hby d_prog_52_method_5_19) rfl (pc' := 20) rfl
  obtain ⟨cl4, Ar4, hin4, -, kq4, -⟩ := Aw.open pr5 (j := (1 : Int32)) 1 (by decide) (by decide) (by decide)
  obtain ⟨T4, h4, X4, e4, W4, st4⟩ := stI X2 hx hZ e2 Ar4 (j := (1 : Int32)) hin4 (g := (mkF m 20 #[.val (.ref a1), .val (.int 1), .val (.long q2), .second] [(.int (((q2.toUInt64 >>> ((32 : Int32) &&& 0x3f).toInt64.toUInt64).toInt64).toInt32)), (.int 1), (.ref a11)])) rfl rfl (hb hby d_prog_52_method_5_20)
  have N4 := Fr.snoc X4 N0 pr6
  have V4 : Aw Z h4 a11 "[I" k12 .int 16384 (updv (updv (fun _ => (.int 0)) 0 (.int p13)) 1 (.int (((q2.toUInt64 >>> ((32 : Int32) &&& 0x3f).toInt64.toUInt64).toInt64).toInt32))) := Aw.norm (Aw.set pr5 W4 1 (by decide) rfl) (fun j _ => by simp only [updv]; (repeat' split) <;> first | rfl | omega)
  replace k : Goes p e below s₁ G0 T4 (mkF m 21 #[.val (.ref a1), .val (.int 1), .val (.long q2), .second] []) := fun t q => k t (st4 _ q)
  replace k := Fw.aloadN k X4 hx (hb hby d_prog_52_method_5_21) rfl rfl (pc' := 22) rfl
  have fc5 := (pr1.other W4 pr7)
  obtain ⟨T6, X6, e6, st6⟩ := getF X4 hx hZ hown (host := "") (Or.inl (w_15 hw)) Via.refl e4 (Ob.at fc5 2 rfl) (g := (mkF m 22 #[.val (.ref a1), .val (.int 1), .val (.long q2), .second] [(.ref a1)])) rfl rfl (hb hby d_prog_52_method_5_22)
  replace k : Goes p e below s₁ G0 T6 (mkF m 25 #[.val (.ref a1), .val (.int 1), .val (.long q2), .second] [(.ref a5)]) := fun t q => k t (st6 _ q)
  replace k := Fw.iloadN k X6 hx (hb hby d_prog_52_method_5_25) rfl (pc' := 26) rfl
  have fc7 := (O0.wr W4 pr6)
  obtain ⟨T8, X8, e8, st8⟩ := getS2 X6 hx hZ hown (host := "") (Or.inl (w_97 hw)) Via.refl e6 (pr2.ext fc7.2) (g := (mkF m 26 #[.val (.ref a1), .val (.int 1), .val (.long q2), .second] [(.int 1), (.ref a5)])) rfl (hb hby d_prog_52_method_5_26)
  replace k : Goes p e below s₁ G0 T8 (mkF m 29 #[.val (.ref a1), .val (.int 1), .val (.long q2), .second] [(.int 14), (.int 1), (.ref a5)]) := fun t q => k t (st8 _ q)
  replace k := Fw.iushr k X8 hx (hb hby d_prog_52_method_5_29) (z := (0 : Int32)) (by decide) (pc' := 30) rfl
  have fc10 := (pr9.other W4 pr10)
  obtain ⟨cl9, Ar9, hin9, hat9, -, -⟩ := Aw.open fc10 (j := (0 : Int32)) 0 (by decide) (by decide) (by decide)
  replace hat9 : cl9.slots[((0 : Int32)).toNatClampNeg]? = some (.ref a16) := hat9
  replace k : Goes p e below s₁ G0 T8 (mkF m 31 #[.val (.ref a1), .val (.int 1), .val (.long q2), .second] [(.ref a16)]) := fun t q => k t (X8.aaload hx (j := (0 : Int32)) (v := (.ref a16)) (by rw [e8]; exact Ar9.1) (State.isArrayOf_alike hZ.alike Ar9.2.1) rfl Ar9.2.2 hin9 hat9 (g := (mkF m 30 #[.val (.ref a1), .val (.int 1), .val (.long q2), .second] [(.int 0), (.ref a5)])) rfl rfl (hb hby d_prog_52_method_5_30) _ q)
  replace k := Fw.iloadN k X8 hx (hb hby d_prog_52_method_5_31) rfl (pc' := 32) rfl
  replace k := Fw.sipush k X8 hx (hb hby d_prog_52_method_5_32) (z := (16383 : Int32)) (by decide) (pc' := 35) rfl
  replace k := Fw.iand k X8 hx (hb hby d_prog_52_method_5_35) (z := (1 : Int32)) (by decide) (pc' := 36) rfl
  replace k := Fw.lloadN k X8 hx (hb hby d_prog_52_method_5_36) rfl (pc' := 37) rfl
  replace k := Fw.l2i k X8 hx (hb hby d_prog_52_method_5_37) rfl (pc' := 38) rfl
  have fc11 := (pr11.other W4 pr12)
  obtain ⟨cl12, Ar12, hin12, -, kq12, -⟩ := Aw.open fc11 (j := (1 : Int32)) 1 (by decide) (by decide) (by decide)
  obtain ⟨T12, h12, X12, e12, W12, st12⟩ := stI X8 hx hZ e8 Ar12 (j := (1 : Int32)) hin12 (g := (mkF m 38 #[.val (.ref a1), .val (.int 1), .val (.long q2), .second] [(.int (q2.toInt32)), (.int 1), (.ref a16)])) rfl rfl (hb hby d_prog_52_method_5_38)
  have N12 := Fr.snoc X12 N4 pr13
  have V12 : Aw Z h12 a16 "[I" k17 .int 16384 (updv (updv (fun _ => (.int 0)) 0 (.int p18)) 1 (.int (q2.toInt32))) := Aw.norm (Aw.set fc11 W12 1 (by decide) rfl) (fun j _ => by simp only [updv]; (repeat' split) <;> first | rfl | omega)
  replace k : Goes p e below s₁ G0 T12 (mkF m 39 #[.val (.ref a1), .val (.int 1), .val (.long q2), .second] []) := fun t q => k t (st12 _ q)
  obtain ⟨fs, hr, hrun, hended, hW, hsame⟩ := X12.leave (v := none) (fun _ => rfl)
  refine ⟨_, _, pre0 _ (k _ ?_), hrun, hended, _, _, rfl, ?_, ⟨_, rfl⟩, hW, hsame.mono (by decide) (by decide)⟩
  · exact X12.returnOut hx Bd.returns (hb hby d_prog_52_method_5_39) hr
  · show Q_Statements_setOperandAt_4 Z a1 q2 a3 a4 a5 a6 a7 a8 a9 k10 a11 k12 p13 p14 k15 a16 k17 p18 p19 h0 n0 _ T12.heap _
    rw [e12]
    exact ⟨rfl, N12, (((Keep.refl h0 [a16, a11]).wr W4 (Or.inl (List.mem_of_getElem? (i := 1) rfl))).wr W12 (Or.inl (List.mem_of_getElem? (i := 0) rfl))), V12, (V4.other W12 (Ne.symm pr12))⟩
def Q_Statements_setOperand_2 (Z : State) (a1 : Addr) (q2 : Int64) (a3 : Addr) (a4 : Addr) (a5 : Addr) (a6 : Addr) (a7 : Addr) (a8 : Addr) (a9 : Addr) (k10 : ClassId) (a11 : Addr) (k12 : ClassId) (p13 : Int32) (p14 : Int32) (k15 : ClassId) (a16 : Addr) (k17 : ClassId) (p18 : Int32) (p19 : Int32) (h0 : Heap) (n0 : Nat) (v : Option Value) (h : Heap) (L : List Loc) : Prop := v = none ∧ Fr n0 L ∧ Keep h0 h [a16, a11] ∧ Aw Z h a16 "[I" k17 .int 16384 (updv (updv (fun _ => (.int 0)) 0 (.int p18)) 1 (.int (q2.toInt32))) ∧ Aw Z h a11 "[I" k12 .int 16384 (updv (updv (fun _ => (.int 0)) 0 (.int p13)) 1 (.int (((q2.toUInt64 >>> ((32 : Int32) &&& 0x3f).toInt64.toUInt64).toInt64).toInt32)))
set_option maxRecDepth 65536 in
set_option maxHeartbeats 40000000 in
theorem rm_Statements_setOperand_2 (l : Launch) (Z : State) (a0 : Array Value) (hw : ∀ d ∈ tables_1, d.before a0 Z = true) (ws : List Jvm.Cond) (a1 : Addr) (q2 : Int64) (a3 : Addr) (a4 : Addr) (a5 : Addr) (a6 : Addr) (a7 : Addr) (a8 : Addr) (a9 : Addr) (k10 : ClassId) (a11 : Addr) (k12 : ClassId) (p13 : Int32) (p14 : Int32) (k15 : ClassId) (a16 : Addr) (k17 : ClassId) (p18 : Int32) (p19 : Int32) (h0 : Heap) (n0 : Nat) (O0 : Old Z n0 h0) (pr1 : Ob Z h0 a1 "com/example/kleinmaschine/kleinmaschine/Statements" [("com/example/kleinmaschine/kleinmaschine/Statements", "headPages", "[[I", (.ref a3)), ("com/example/kleinmaschine/kleinmaschine/Statements", "upperPages", "[[I", (.ref a4)), ("com/example/kleinmaschine/kleinmaschine/Statements", "lowerPages", "[[I", (.ref a5)), ("com/example/kleinmaschine/kleinmaschine/Statements", "records", "Lcom/example/kleinmaschine/kleinmaschine/PagedBytes;", (.ref a6)), ("com/example/kleinmaschine/kleinmaschine/Statements", "checkpointPlaces", "[J", (.ref a7)), ("com/example/kleinmaschine/kleinmaschine/Statements", "checkpointLines", "[J", (.ref a8)), ("com/example/kleinmaschine/kleinmaschine/Statements", "checkpointColumns", "[J", (.ref a9)), ("com/example/kleinmaschine/kleinmaschine/Statements", "heads", "[I", .null), ("com/example/kleinmaschine/kleinmaschine/Statements", "size", "I", (.int 2)), ("com/example/kleinmaschine/kleinmaschine/Statements", "lastLine", "J", (.long 1)), ("com/example/kleinmaschine/kleinmaschine/Statements", "lastColumn", "J", (.long 1)), ("com/example/kleinmaschine/kleinmaschine/Statements", "uppers", "[I", .null), ("com/example/kleinmaschine/kleinmaschine/Statements", "lowers", "[I", .null)]) (pr2 : OvrA Z k10 .int "[I") (pr3 : Aw Z h0 a4 "[[I" k10 (.array .int) 16 (updv (fun _ => .null) 0 (.ref a11))) (pr4 : Aw Z h0 a11 "[I" k12 .int 16384 (updv (updv (fun _ => (.int 0)) 0 (.int p13)) 1 (.int p14))) (pr5 : n0 ≤ a11) (pr6 : a1 ≠ a11) (pr7 : OvrA Z k15 .int "[I") (pr8 : Aw Z h0 a5 "[[I" k15 (.array .int) 16 (updv (fun _ => .null) 0 (.ref a16))) (pr9 : a5 ≠ a11) (pr10 : Aw Z h0 a16 "[I" k17 .int 16384 (updv (updv (fun _ => (.int 0)) 0 (.int p18)) 1 (.int p19))) (pr11 : a16 ≠ a11) (pr12 : n0 ≤ a16) (pr13 : Sta Z Z.heap "com/example/kleinmaschine/kleinmaschine/Statements" "PAGE_BITS" "I" (.int (14 : Int32))) :
    MetFree l (⟨"com/example/kleinmaschine/kleinmaschine/Statements", "setOperand", "(IJ)V"⟩ : MethodName) (head1 (Jvm.Cond.code (⟨"com/example/kleinmaschine/kleinmaschine/Statements", "setOperand", "(IJ)V"⟩ : MethodName) prog_52_method_4_code 4 none :: ws) ({ frames := 2, cells := 0, slots := 0, locals := 27 } : Room)) (fun a U => a = #[(.ref a1), (.int 1), (.long q2)] ∧ Z.Warmed39 U.vm ∧ U.heap = h0) (fun _ _ _ _ _ => True) (fun _ U o U' => ∃ v L, o = .returned v ∧ Q_Statements_setOperand_2 Z a1 q2 a3 a4 a5 a6 a7 a8 a9 k10 a11 k12 p13 p14 k15 a16 k17 p18 p19 h0 n0 v U'.heap L ∧ FrameEnd U o U' L ({ frames := 2, cells := 0, slots := 0, locals := 27 } : Room).cells ({ frames := 2, cells := 0, slots := 0, locals := 27 } : Room).slots) := by
  refine MetFree.of_bodySF (plainFor_of_name pn_Statements) hisR ?_
  intro p e s m args below meth c s₁ Bd hml0 hP hK
  obtain ⟨rfl, hZ, hh⟩ := hP
  have hx := Bd.exec
  have hby := Bd.bytes
  have hml : c.maxLocals = 4 := hml0
  have hown : s.vm.findClass "com/example/kleinmaschine/kleinmaschine/Statements" = some m.cls := findClass_of_methodNamed Bd.named
  have hnm := (name_of_methodNamed Bd.named Bd.method).1
  have X0 : Stand p l e ({ frames := 2, cells := 0, slots := 0, locals := 27 } : Room) s m #[(.ref a1), (.int 1), (.long q2)] below meth c s₁ [] 0 0 := Stand.of_body Bd
  have e0 : s₁.heap = h0 := by rw [← hh, Bd.state]; rfl
  have N0 := Fr.nil n0
  obtain ⟨G0, hG0⟩ : ∃ z, z = (mkF m 0 #[.val (.ref a1), .val (.int 1), .val (.long q2), .second] []) := ⟨_, rfl⟩
  have pre0 : ∀ t, Steps p.tables e below (s₁.setTop G0) t → Steps p.tables e below (s₁.setTop (entryFrame m #[(.ref a1), (.int 1), (.long q2)] 4)) t := fun t k => castTop (ef_RIJ_4 m a1 ((1 : Int32)) q2) (hG0 ▸ k)
  have k : Goes p e below s₁ G0 s₁ (mkF m 0 #[.val (.ref a1), .val (.int 1), .val (.long q2), .second] []) := fun t q => hG0 ▸ q
  replace k := Fw.aloadN k X0 hx (hb hby d_prog_52_method_4_0) rfl rfl (pc' := 1) rfl
  obtain ⟨cq1, q1, q1'⟩ := Exa.cell pr1.exa
  obtain ⟨_, _, ⟨T1, L1, kz1, nz1⟩, -, X1, ⟨Lc1, hQ1, l1, y1, z1⟩, st1⟩ := X0.privateBack hx (y := (⟨"com/example/kleinmaschine/kleinmaschine/Statements", "checkAdding", "()V"⟩ : MethodName)) hown (mvT hZ (w_88 hw)) (mvT hZ (w_89 hw)) (Jvm.Kit.selects_private (by decide) (mvT hZ (w_1 hw)) (mvP hZ (w_90 hw)) (mvT hZ (w_89 hw))) (Cond.privateMethod_at (mvP hZ (w_90 hw) (args := #[]))) (mvT hZ (w_91 hw)) (by decide) (backOf (W := 0) (rm_Statements_checkAdding_3 l Z a0 hw [] a1 a3 a4 a5 a6 a7 a8 a9 h0 n0 O0 pr1) hZ (w_91 hw) (w_2 hw) (by decide) (by decide)) (g := (mkF m 1 #[.val (.ref a1), .val (.int 1), .val (.long q2), .second] [(.ref a1)])) rfl (by rw [hml]; rfl) (Steps.refl _) (a := a1) (by rw [e0]; exact q1) q1' (argsL := []) (rest := []) (lenOf pd__r_V rfl) rfl (by show 2 * 0 + _ ≤ _; exact Nat.le_of_eq rfl) (hb hby d_prog_52_method_4_1) (fun _ _ => ⟨rfl, e0, (by decide : 0 + 0 ≤ _), (by decide : 0 + 0 ≤ _)⟩)
  dsimp only [Pt.U, Pt.locs, Pt.cells, Pt.slots] at X1 l1 y1 z1 st1 hQ1
  subst l1 y1 z1
  obtain ⟨hv1, N1q, e1⟩ := hQ1
  subst hv1
  have N1 := Fr.app N0 N1q
  replace k : Goes p e below s₁ G0 T1 (mkF m 4 #[.val (.ref a1), .val (.int 1), .val (.long q2), .second] []) := fun t q => k t (st1.trans q)
  replace k := Fw.iloadN k X1 hx (hb hby d_prog_52_method_4_4) rfl (pc' := 5) rfl
  replace k := Fw.aloadN k X1 hx (hb hby d_prog_52_method_4_5) rfl rfl (pc' := 6) rfl
  obtain ⟨T2, X2, e2, st2⟩ := getF X1 hx hZ hown (host := "") (Or.inl (w_94 hw)) Via.refl e1 (Ob.at pr1 8 rfl) (g := (mkF m 6 #[.val (.ref a1), .val (.int 1), .val (.long q2), .second] [(.ref a1), (.int 1)])) rfl rfl (hb hby d_prog_52_method_4_6)
  replace k : Goes p e below s₁ G0 T2 (mkF m 9 #[.val (.ref a1), .val (.int 1), .val (.long q2), .second] [(.int 2), (.int 1)]) := fun t q => k t (st2 _ q)
  obtain ⟨_, _, ⟨T3, L3, kz3, nz3⟩, -, X3, ⟨Lc3, hQ3, l3, y3, z3⟩, st3⟩ := Jvm.LawKit.callS X2 hx (y := (⟨"java/util/Objects", "checkIndex", "(II)I"⟩ : MethodName)) hown (mvT hZ (w_220 hw)) (mvT hZ (w_221 hw)) (mvT hZ (w_222 hw)) (mvT hZ (w_223 hw)) (by decide) (backOf (W := 0) (rm_Objects_checkIndex_2 l Z a0 hw []  h0 n0 O0 ) hZ (w_223 hw) (w_222 hw) (by decide) (by decide)) (g := (mkF m 9 #[.val (.ref a1), .val (.int 1), .val (.long q2), .second] [(.int 2), (.int 1)])) rfl (by rw [hml]; rfl) (argsL := [(.int 1), (.int 2)]) (rest := []) (lenOf pd_II_r_I rfl) rfl (by show 2 * 0 + _ ≤ _; exact Nat.le_of_eq rfl) (hb hby d_prog_52_method_4_9) (fun _ _ => ⟨rfl, e2, (by decide : 0 + 0 ≤ _), (by decide : 0 + 0 ≤ _)⟩)
  dsimp only [Pt.U, Pt.locs, Pt.cells, Pt.slots] at X3 l3 y3 z3 st3 hQ3
  subst l3 y3 z3
  obtain ⟨hv3, N3q, e3⟩ := hQ3
  subst hv3
  have N3 := Fr.app N1 N3q
  replace k : Goes p e below s₁ G0 T3 (mkF m 12 #[.val (.ref a1), .val (.int 1), .val (.long q2), .second] [(.int 1)]) := fun t q => k t (st3 _ q)
  replace k := Fw.pop k X3 hx (hb hby d_prog_52_method_4_12) rfl (pc' := 13) rfl
  replace k := Fw.aloadN k X3 hx (hb hby d_prog_52_method_4_13) rfl rfl (pc' := 14) rfl
  replace k := Fw.iloadN k X3 hx (hb hby d_prog_52_method_4_14) rfl (pc' := 15) rfl
  replace k := Fw.lloadN k X3 hx (hb hby d_prog_52_method_4_15) rfl (pc' := 16) rfl
  obtain ⟨cq4, q4, q4'⟩ := Exa.cell pr1.exa
  obtain ⟨_, _, ⟨T4, L4, kz4, nz4⟩, -, X4, ⟨Lc4, hQ4, l4, y4, z4⟩, st4⟩ := X3.privateBack hx (y := (⟨"com/example/kleinmaschine/kleinmaschine/Statements", "setOperandAt", "(IJ)V"⟩ : MethodName)) hown (mvT hZ (w_101 hw)) (mvT hZ (w_102 hw)) (Jvm.Kit.selects_private (by decide) (mvT hZ (w_1 hw)) (mvP hZ (w_103 hw)) (mvT hZ (w_102 hw))) (Cond.privateMethod_at (mvP hZ (w_103 hw) (args := #[]))) (mvT hZ (w_104 hw)) (by decide) (backOf (W := 0) (rm_Statements_setOperandAt_4 l Z a0 hw [] a1 q2 a3 a4 a5 a6 a7 a8 a9 k10 a11 k12 p13 p14 k15 a16 k17 p18 p19 h0 n0 O0 pr1 pr13 pr2 pr3 pr4 pr5 pr6 pr7 pr8 pr9 pr10 pr11 pr12) hZ (w_104 hw) (w_2 hw) (by decide) (by decide)) (g := (mkF m 16 #[.val (.ref a1), .val (.int 1), .val (.long q2), .second] [(.long q2), (.int 1), (.ref a1)])) rfl (by rw [hml]; rfl) (Steps.refl _) (a := a1) (by rw [e3]; exact q4) q4' (argsL := [(.int 1), (.long q2)]) (rest := []) (lenOf pd_IJ_r_V rfl) rfl (by show 2 * 0 + _ ≤ _; exact Nat.le_of_eq rfl) (hb hby d_prog_52_method_4_16) (fun _ _ => ⟨rfl, e3, (by decide : 0 + 0 ≤ _), (by decide : 0 + 0 ≤ _)⟩)
  dsimp only [Pt.U, Pt.locs, Pt.cells, Pt.slots] at X4 l4 y4 z4 st4 hQ4
  subst l4 y4 z4
  obtain ⟨hv4, N4q, K4, f4_0, f4_1⟩ := hQ4
  subst hv4
  have N4 := Fr.app N3 N4q
  replace k : Goes p e below s₁ G0 T4 (mkF m 19 #[.val (.ref a1), .val (.int 1), .val (.long q2), .second] []) := fun t q => k t (st4.trans q)
  obtain ⟨fs, hr, hrun, hended, hW, hsame⟩ := X4.leave (v := none) (fun _ => rfl)
  refine ⟨_, _, pre0 _ (k _ ?_), hrun, hended, _, _, rfl, ?_, ⟨_, rfl⟩, hW, hsame.mono (by decide) (by decide)⟩
  · exact X4.returnOut hx Bd.returns (hb hby d_prog_52_method_4_19) hr
  · show Q_Statements_setOperand_2 Z a1 q2 a3 a4 a5 a6 a7 a8 a9 k10 a11 k12 p13 p14 k15 a16 k17 p18 p19 h0 n0 _ T4.heap _
    exact ⟨rfl, N4, ((Keep.refl h0 [a16, a11]).trans K4 (allS (Or.inl (List.mem_of_getElem? (i := 0) rfl)) (allS (Or.inl (List.mem_of_getElem? (i := 1) rfl)) all0))), f4_0, f4_1⟩
theorem pn_StatementsOperandPinLaw : plainName "com/example/kleinmaschine/kleinmaschine/StatementsOperandPinLaw" = true := by first | (simp [plainName, overriddenIn]; done) | decide +kernel
theorem ef_JJJI_maxLocals (m : MethodId) (x0 : Int64) (x1 : Int64) (x2 : Int64) (x3 : Int32) : entryFrame m #[(.long x0), (.long x1), (.long x2), (.int x3)] maxLocals = mkF m 0 #[.val (.long x0), .second, .val (.long x1), .second, .val (.long x2), .second, .val (.int x3), .unset, .unset, .unset, .unset, .unset, .unset, .unset, .unset] [] := by first | (simp [entryFrame, mkF, argsToLocals, Value.category, maxLocals]; done) | rfl
def Q_law (Z : State) (q1 : Int64) (q2 : Int64) (q3 : Int64) (p4 : Int32) (w_DE : Addr) (kW_DE : ClassId) (h0 : Heap) (n0 : Nat) (v : Option Value) (h : Heap) (L : List Loc) : Prop := v = some (.int 1) ∧ Fr n0 L ∧ True
set_option maxRecDepth 65536 in
set_option maxHeartbeats 40000000 in
theorem rm_law (l : Launch) (Z : State) (a0 : Array Value) (hw : ∀ d ∈ tables_1, d.before a0 Z = true) (ws : List Jvm.Cond) (q1 : Int64) (q2 : Int64) (q3 : Int64) (p4 : Int32) (w_DE : Addr) (kW_DE : ClassId) (h0 : Heap) (n0 : Nat) (O0 : Old Z n0 h0) (S_PB : Sta Z Z.heap "com/example/kleinmaschine/kleinmaschine/Statements" "PAGE_BITS" "I" (.int (14 : Int32))) (S_CB : Sta Z Z.heap "com/example/kleinmaschine/kleinmaschine/Statements" "CHECKPOINT_BITS" "I" (.int (6 : Int32))) (S_DE : Sta Z Z.heap "java/util/ArrayList" "DEFAULTCAPACITY_EMPTY_ELEMENTDATA" "[Ljava/lang/Object;" (.ref w_DE)) (A_DE : Aw Z Z.heap w_DE "[Ljava/lang/Object;" kW_DE (.object "java/lang/Object") 0 (fun _ => .null)) :
    MetFree l x (head1 (Jvm.Cond.code x code maxLocals ret :: ws) room_1) (fun a U => a = #[(.long q1), (.long q2), (.long q3), (.int p4)] ∧ Z.Warmed39 U.vm ∧ U.heap = h0) (fun _ _ _ _ _ => True) (fun _ U o U' => ∃ v L, o = .returned v ∧ Q_law Z q1 q2 q3 p4 w_DE kW_DE h0 n0 v U'.heap L ∧ FrameEnd U o U' L room_1.cells room_1.slots) := by
  refine MetFree.of_bodySF (plainFor_of_name pn_StatementsOperandPinLaw) hisR ?_
  intro p e s m args below meth c s₁ Bd hml0 hP hK
  obtain ⟨rfl, hZ, hh⟩ := hP
  have hx := Bd.exec
  have hby := Bd.bytes
  have hml : c.maxLocals = 15 := hml0
  have hown : s.vm.findClass "com/example/kleinmaschine/kleinmaschine/StatementsOperandPinLaw" = some m.cls := findClass_of_methodNamed Bd.named
  have hnm := (name_of_methodNamed Bd.named Bd.method).1
  have X0 : Stand p l e room_1 s m #[(.long q1), (.long q2), (.long q3), (.int p4)] below meth c s₁ [] 0 0 := Stand.of_body Bd
  have e0 : s₁.heap = h0 := by rw [← hh, Bd.state]; rfl
  have N0 := Fr.nil n0
  obtain ⟨G0, hG0⟩ : ∃ z, z = (mkF m 0 #[.val (.long q1), .second, .val (.long q2), .second, .val (.long q3), .second, .val (.int p4), .unset, .unset, .unset, .unset, .unset, .unset, .unset, .unset] []) := ⟨_, rfl⟩
  have pre0 : ∀ t, Steps p.tables e below (s₁.setTop G0) t → Steps p.tables e below (s₁.setTop (entryFrame m #[(.long q1), (.long q2), (.long q3), (.int p4)] maxLocals)) t := fun t k => castTop (ef_JJJI_maxLocals m q1 q2 q3 p4) (hG0 ▸ k)
  have k : Goes p e below s₁ G0 s₁ (mkF m 0 #[.val (.long q1), .second, .val (.long q2), .second, .val (.long q3), .second, .val (.int p4), .unset, .unset, .unset, .unset, .unset, .unset, .unset, .unset] []) := fun t q => hG0 ▸ q
  obtain ⟨T1, h1, X1, e1, E1, A1, D1, -, st1⟩ := newO X0 hx hZ hown (w_0 hw) (w_1 hw) (w_2 hw) e0 (g := (mkF m 0 #[.val (.long q1), .second, .val (.long q2), .second, .val (.long q3), .second, .val (.int p4), .unset, .unset, .unset, .unset, .unset, .unset, .unset, .unset] [])) rfl (hb hby at_0) (by decide) (by decide)
  obtain ⟨b1, g1⟩ : ∃ z, z = h0.size := ⟨_, rfl⟩
  rw [← g1] at A1 D1 st1
  have gz_b1 : h0.size ≤ b1 := Nat.le_trans (Nat.le_refl h0.size) (Nat.le_of_eq g1.symm)
  have O1 := new_lay_Statements hw A1 @D1
  replace k : Goes p e below s₁ G0 T1 (mkF m 3 #[.val (.long q1), .second, .val (.long q2), .second, .val (.long q3), .second, .val (.int p4), .unset, .unset, .unset, .unset, .unset, .unset, .unset, .unset] [(.ref b1)]) := fun t q => k t (st1 _ q)
  replace k := Fw.dup k X1 hx (hb hby at_3) rfl (pc' := 4) rfl
  have fc3 := (O0.ext E1)
  obtain ⟨_, _, ⟨T2, L2, kz2, nz2⟩, -, X2, ⟨Lc2, hQ2, l2, y2, z2⟩, st2⟩ := X1.specialBack hx (y := (⟨"com/example/kleinmaschine/kleinmaschine/Statements", "<init>", "()V"⟩ : MethodName)) rfl hown (mvT hZ (w_3 hw)) (mvT hZ (w_4 hw)) (mvT hZ (w_5 hw)) (by decide) (backOf (W := 1) (rm_Statements__init__1 l Z a0 hw [] b1 w_DE h1 n0 fc3 O1 (Nat.le_trans (old_le O0) gz_b1) S_DE) hZ (w_5 hw) (w_2 hw) (by decide) (by decide)) (g := (mkF m 4 #[.val (.long q1), .second, .val (.long q2), .second, .val (.long q3), .second, .val (.int p4), .unset, .unset, .unset, .unset, .unset, .unset, .unset, .unset] [(.ref b1), (.ref b1)])) rfl (by rw [hml]; rfl) (Steps.refl _) (a := b1) (argsL := []) (rest := [(.ref b1)]) (lenOf pd__r_V rfl) rfl (by show 2 * 0 + _ ≤ _; exact Nat.le_of_eq rfl) (hb hby at_4) (fun _ _ => ⟨rfl, e1, (by decide : 1 + 8 ≤ _), (by decide : 13 + 103 ≤ _)⟩)
  dsimp only [Pt.U, Pt.locs, Pt.cells, Pt.slots] at X2 l2 y2 z2 st2 hQ2
  subst l2 y2 z2
  obtain ⟨b2_2, b5_2, b9_2, b13_2, b20_2, b24_2, b28_2, b2_15_2, kA2_2, kA5_2, kA9_2, kA20_2, kA24_2, kA28_2, hv2, N2q, K2, f2_0, f2_1, f2_2, f2_3, f2_4, f2_5, f2_6, f2_7, f2_8, f2_9, f2_10, f2_11, f2_12, f2_13, f2_14, f2_15, f2_16, f2_17, f2_18, f2_19, f2_20, f2_21, f2_22, f2_23, f2_24, f2_25, f2_26, f2_27, f2_28, f2_29, f2_30, f2_31, f2_32, f2_33, f2_34, f2_35, f2_36, f2_37, f2_38, f2_39, f2_40, f2_41, f2_42, f2_43, f2_44, f2_45, f2_46, f2_47⟩ := hQ2
  subst hv2
  have N2 := Fr.app N0 N2q
  have fc4 := (Nat.le_trans (Nat.le_refl h0.size) E1.1)
  have gz_b2_2 : h0.size ≤ b2_2 := Nat.le_trans fc4 f2_0
  have gz_b5_2 : h0.size ≤ b5_2 := Nat.le_trans fc4 f2_1
  have gz_b9_2 : h0.size ≤ b9_2 := Nat.le_trans fc4 f2_2
  have gz_b13_2 : h0.size ≤ b13_2 := Nat.le_trans fc4 f2_3
  have gz_b20_2 : h0.size ≤ b20_2 := Nat.le_trans fc4 f2_4
  have gz_b24_2 : h0.size ≤ b24_2 := Nat.le_trans fc4 f2_5
  have gz_b28_2 : h0.size ≤ b28_2 := Nat.le_trans fc4 f2_6
  have gz_b2_15_2 : h0.size ≤ b2_15_2 := Nat.le_trans fc4 f2_7
  replace k : Goes p e below s₁ G0 T2 (mkF m 7 #[.val (.long q1), .second, .val (.long q2), .second, .val (.long q3), .second, .val (.int p4), .unset, .unset, .unset, .unset, .unset, .unset, .unset, .unset] [(.ref b1)]) := fun t q => k t (st2.trans q)
  replace k := Fw.astore k X2 hx (hb hby at_7)  rfl (Ls' := #[.val (.long q1), .second, .val (.long q2), .second, .val (.long q3), .second, .val (.int p4), .val (.ref b1), .unset, .unset, .unset, .unset, .unset, .unset, .unset]) rfl (pc' := 9) rfl
  obtain ⟨T5, h5, X5, e5, E5, A5, D5, -, st5⟩ := newO X2 hx hZ hown (w_67 hw) (w_68 hw) (w_69 hw) rfl (g := (mkF m 9 #[.val (.long q1), .second, .val (.long q2), .second, .val (.long q3), .second, .val (.int p4), .val (.ref b1), .unset, .unset, .unset, .unset, .unset, .unset, .unset] [])) rfl (hb hby at_9) (by decide) (by decide)
  obtain ⟨b5, g5⟩ : ∃ z, z = T2.heap.size := ⟨_, rfl⟩
  rw [← g5] at A5 D5 st5
  have fc6 := (Nat.le_trans fc4 K2.1)
  have gz_b5 : h0.size ≤ b5 := Nat.le_trans fc6 (Nat.le_of_eq g5.symm)
  have O5 := new_lay_Position hw A5 @D5
  replace k : Goes p e below s₁ G0 T5 (mkF m 12 #[.val (.long q1), .second, .val (.long q2), .second, .val (.long q3), .second, .val (.int p4), .val (.ref b1), .unset, .unset, .unset, .unset, .unset, .unset, .unset] [(.ref b5)]) := fun t q => k t (st5 _ q)
  replace k := Fw.dup k X5 hx (hb hby at_12) rfl (pc' := 13) rfl
  replace k := Fw.lconst k X5 hx (hb hby at_13) (z := (1 : Int64)) (by decide) (pc' := 14) rfl
  replace k := Fw.lconst k X5 hx (hb hby at_14) (z := (1 : Int64)) (by decide) (pc' := 15) rfl
  have fc8 := ((fc3.keep K2 (allS (Nat.le_trans (old_le O0) gz_b1) all0)).ext E5)
  obtain ⟨_, _, ⟨T7, L7, kz7, nz7⟩, -, X7, ⟨Lc7, hQ7, l7, y7, z7⟩, st7⟩ := X5.specialBack hx (y := (⟨"com/example/kleinmaschine/kleinmaschine/Position", "<init>", "(JJ)V"⟩ : MethodName)) rfl hown (mvT hZ (w_70 hw)) (mvT hZ (w_71 hw)) (mvT hZ (w_72 hw)) (by decide) (backOf (W := 1) (rm_Position__init__1 l Z a0 hw [] b5 h5 n0 fc8 O5 (Nat.le_trans (old_le O0) gz_b5)) hZ (w_72 hw) (w_69 hw) (by decide) (by decide)) (g := (mkF m 15 #[.val (.long q1), .second, .val (.long q2), .second, .val (.long q3), .second, .val (.int p4), .val (.ref b1), .unset, .unset, .unset, .unset, .unset, .unset, .unset] [(.long 1), (.long 1), (.ref b5), (.ref b5)])) rfl (by rw [hml]; rfl) (Steps.refl _) (a := b5) (argsL := [(.long 1), (.long 1)]) (rest := [(.ref b5)]) (lenOf pd_JJ_r_V rfl) rfl (by show 2 * 0 + _ ≤ _; exact Nat.le_of_eq rfl) (hb hby at_15) (fun _ _ => ⟨rfl, e5, (by decide : 10 + 0 ≤ _), (by decide : 118 + 0 ≤ _)⟩)
  dsimp only [Pt.U, Pt.locs, Pt.cells, Pt.slots] at X7 l7 y7 z7 st7 hQ7
  subst l7 y7 z7
  obtain ⟨hv7, N7q, K7, f7_0⟩ := hQ7
  subst hv7
  have N7 := Fr.app N2 N7q
  replace k : Goes p e below s₁ G0 T7 (mkF m 18 #[.val (.long q1), .second, .val (.long q2), .second, .val (.long q3), .second, .val (.int p4), .val (.ref b1), .unset, .unset, .unset, .unset, .unset, .unset, .unset] [(.ref b5)]) := fun t q => k t (st7.trans q)
  replace k := Fw.astore k X7 hx (hb hby at_18)  rfl (Ls' := #[.val (.long q1), .second, .val (.long q2), .second, .val (.long q3), .second, .val (.int p4), .val (.ref b1), .val (.ref b5), .unset, .unset, .unset, .unset, .unset, .unset]) rfl (pc' := 20) rfl
  replace k := Fw.aload k X7 hx (hb hby at_20) rfl rfl (pc' := 22) rfl
  replace k := Fw.iconst k X7 hx (hb hby at_22) (z := (0 : Int32)) (by decide) (pc' := 23) rfl
  replace k := Fw.lloadN k X7 hx (hb hby at_23) rfl (pc' := 24) rfl
  replace k := Fw.aload k X7 hx (hb hby at_24) rfl rfl (pc' := 26) rfl
  replace k := Fw.lconst k X7 hx (hb hby at_26) (z := (0 : Int64)) (by decide) (pc' := 27) rfl
  have fc10 := ((f2_36.ext E5).keep K7 (ninS (Nat.ne_of_lt (Nat.lt_of_lt_of_le f2_36.lt (Nat.le_of_eq g5.symm))) nin0))
  have fc11 := ((f2_38.ext E5).keep K7 (ninS (Nat.ne_of_lt (Nat.lt_of_lt_of_le f2_38.lt (Nat.le_of_eq g5.symm))) nin0))
  have fc12 := ((f2_40.ext E5).keep K7 (ninS (Nat.ne_of_lt (Nat.lt_of_lt_of_le f2_40.lt (Nat.le_of_eq g5.symm))) nin0))
  have fc13 := ((f2_42.ext E5).keep K7 (ninS (Nat.ne_of_lt (Nat.lt_of_lt_of_le f2_42.lt (Nat.le_of_eq g5.symm))) nin0))
  have fc14 := ((f2_44.ext E5).keep K7 (ninS (Nat.ne_of_lt (Nat.lt_of_lt_of_le f2_44.lt (Nat.le_of_eq g5.symm))) nin0))
  have fc15 := ((f2_43.ext E5).keep K7 (ninS (Nat.ne_of_lt (Nat.lt_of_lt_of_le f2_43.lt (Nat.le_of_eq g5.symm))) nin0))
  have fc16 := ((f2_45.ext E5).keep K7 (ninS (Nat.ne_of_lt (Nat.lt_of_lt_of_le f2_45.lt (Nat.le_of_eq g5.symm))) nin0))
  have fc17 := ((f2_46.ext E5).keep K7 (ninS (Nat.ne_of_lt (Nat.lt_of_lt_of_le f2_46.lt (Nat.le_of_eq g5.symm))) nin0))
  have fc18 := ((f2_47.ext E5).keep K7 (ninS (Nat.ne_of_lt (Nat.lt_of_lt_of_le f2_47.lt (Nat.le_of_eq g5.symm))) nin0))
  have fc19 := (fc8.keep K7 (allS (Nat.le_trans (old_le O0) gz_b5) all0))
  obtain ⟨cq9, kq9, q9a, q9b, q9c⟩ := isOf hZ rfl fc10.exa
  obtain ⟨_, _, ⟨T9, L9, kz9, nz9⟩, -, X9, ⟨Lc9, hQ9, l9, y9, z9⟩, st9⟩ := X7.virtualBack hx (y := (⟨"com/example/kleinmaschine/kleinmaschine/Statements", "add", "(IJLcom/example/kleinmaschine/kleinmaschine/Position;J)I"⟩ : MethodName)) (z := (⟨"com/example/kleinmaschine/kleinmaschine/Statements", "add", "(IJLcom/example/kleinmaschine/kleinmaschine/Position;J)I"⟩ : MethodName)) hown (mvT hZ (w_83 hw)) (mvT hZ (w_84 hw)) (notFace_of_selects (args := #[]) (mvT hZ (w_86 hw))) (mvT hZ (w_86 hw)) (mvT hZ (w_85 hw)) (by decide) (backOf (W := 0) (rm_Statements_add_1 l Z a0 hw [] b1 q1 b5 b2_2 b5_2 b9_2 b13_2 b20_2 b24_2 b28_2 kA2_2 kA5_2 kA9_2 kA20_2 b2_15_2 kA24_2 kA28_2 w_DE kW_DE T7.heap n0 fc19 fc10 S_PB f2_37 fc11 (Nat.le_trans (old_le O0) gz_b2_2) (Nat.ne_of_lt (Nat.lt_of_lt_of_le O1.lt f2_0)) f2_39 fc12 f2_8 (Nat.le_trans (old_le O0) gz_b5_2) (Nat.ne_of_lt (Nat.lt_of_lt_of_le O1.lt f2_1)) f2_41 fc13 f2_9 f2_10 (Nat.le_trans (old_le O0) gz_b9_2) (Nat.ne_of_lt (Nat.lt_of_lt_of_le O1.lt f2_2)) S_CB fc14 f2_14 f2_15 f2_16 fc15 f2_11 f2_12 f2_13 (Nat.le_trans (old_le O0) gz_b20_2) (Nat.ne_of_lt (Nat.lt_of_lt_of_le O1.lt f2_4)) fc16 f2_18 f2_19 f2_20 f2_22 (Nat.le_trans (old_le O0) gz_b24_2) (Nat.ne_of_lt (Nat.lt_of_lt_of_le O1.lt f2_5)) fc17 f2_23 f2_24 f2_25 f2_27 f2_28 (Nat.le_trans (old_le O0) gz_b28_2) f7_0 (Ne.symm (Nat.ne_of_lt (Nat.lt_of_lt_of_le f2_38.lt (Nat.le_of_eq g5.symm)))) (Ne.symm (Nat.ne_of_lt (Nat.lt_of_lt_of_le f2_40.lt (Nat.le_of_eq g5.symm)))) (Ne.symm (Nat.ne_of_lt (Nat.lt_of_lt_of_le f2_42.lt (Nat.le_of_eq g5.symm)))) (Ne.symm (Nat.ne_of_lt (Nat.lt_of_lt_of_le f2_44.lt (Nat.le_of_eq g5.symm)))) (Ne.symm (Nat.ne_of_lt (Nat.lt_of_lt_of_le f2_45.lt (Nat.le_of_eq g5.symm)))) (Ne.symm (Nat.ne_of_lt (Nat.lt_of_lt_of_le f2_46.lt (Nat.le_of_eq g5.symm)))) (Nat.ne_of_lt (Nat.lt_of_lt_of_le O1.lt f2_6)) (Nat.le_trans (old_le O0) gz_b13_2) fc18 (Nat.le_trans (old_le O0) gz_b2_15_2) f2_32 (Ne.symm f2_17) (Ne.symm f2_21) (Ne.symm f2_26) f2_29 f2_30 f2_31 f2_33 f2_34 f2_35 A_DE S_DE (Nat.ne_of_lt (Nat.lt_of_lt_of_le O1.lt f2_7)) (Nat.ne_of_lt (Nat.lt_of_lt_of_le O1.lt f2_3)) (Ne.symm (Nat.ne_of_lt (Nat.lt_of_lt_of_le f2_47.lt (Nat.le_of_eq g5.symm)))) (Ne.symm (Nat.ne_of_lt (Nat.lt_of_lt_of_le f2_43.lt (Nat.le_of_eq g5.symm)))) (Nat.le_trans (old_le O0) gz_b1) (Ne.symm (Nat.ne_of_lt (Nat.lt_of_lt_of_le f2_36.lt (Nat.le_of_eq g5.symm))))) hZ (w_87 hw) (w_2 hw) (by decide) (by decide)) q9a q9c (g := (mkF m 27 #[.val (.long q1), .second, .val (.long q2), .second, .val (.long q3), .second, .val (.int p4), .val (.ref b1), .val (.ref b5), .unset, .unset, .unset, .unset, .unset, .unset] [(.long 0), (.ref b5), (.long q1), (.int 0), (.ref b1)])) rfl (by rw [hml]; rfl) (Steps.refl _) (argsL := [(.int 0), (.long q1), (.ref b5), (.long 0)]) (rest := []) (lenOf pd_IJLcom_example_kleinmaschine_kleinmaschine_PositionJ_r_I rfl) rfl (by show 2 * 0 + _ ≤ _; exact Nat.le_of_eq rfl) (hb hby at_27) (fun _ _ => ⟨rfl, rfl, (by decide : 10 + 5 ≤ _), (by decide : 118 + 114698 ≤ _)⟩)
  dsimp only [Pt.U, Pt.locs, Pt.cells, Pt.slots] at X9 l9 y9 z9 st9 hQ9
  subst l9 y9 z9
  obtain ⟨b14_9, b2_1_1_1_68_9, b20_9, b6_2_2_5_7_1_1_1_68_9, b9_9, kA14_9, kA2_1_1_1_68_9, kA20_9, kA6_2_2_5_7_1_1_1_68_9, kA9_9, hv9, N9q, K9, f9_0, f9_1, f9_2, f9_3, f9_4, f9_5, f9_6, f9_7, f9_8, f9_9, f9_10, f9_11, f9_12, f9_13, f9_14, f9_15, f9_16, f9_17, f9_18, f9_19, f9_20, f9_21, f9_22, f9_23, f9_24, f9_25, f9_26, f9_27, f9_28, f9_29⟩ := hQ9
  subst hv9
  have N9 := Fr.app N7 N9q
  have fc20 := (Nat.le_trans (Nat.le_trans fc6 E5.1) K7.1)
  have gz_b14_9 : h0.size ≤ b14_9 := Nat.le_trans fc20 f9_0
  have gz_b2_1_1_1_68_9 : h0.size ≤ b2_1_1_1_68_9 := Nat.le_trans fc20 f9_1
  have gz_b20_9 : h0.size ≤ b20_9 := Nat.le_trans fc20 f9_2
  have gz_b6_2_2_5_7_1_1_1_68_9 : h0.size ≤ b6_2_2_5_7_1_1_1_68_9 := Nat.le_trans fc20 f9_3
  have gz_b9_9 : h0.size ≤ b9_9 := Nat.le_trans fc20 f9_4
  replace k : Goes p e below s₁ G0 T9 (mkF m 30 #[.val (.long q1), .second, .val (.long q2), .second, .val (.long q3), .second, .val (.int p4), .val (.ref b1), .val (.ref b5), .unset, .unset, .unset, .unset, .unset, .unset] [(.int 0)]) := fun t q => k t (st9.trans q)
  replace k := Fw.pop k X9 hx (hb hby at_30) rfl (pc' := 31) rfl
  replace k := Fw.aload k X9 hx (hb hby at_31) rfl rfl (pc' := 33) rfl
  replace k := Fw.iconst k X9 hx (hb hby at_33) (z := (0 : Int32)) (by decide) (pc' := 34) rfl
  replace k := Fw.lloadN k X9 hx (hb hby at_34) rfl (pc' := 35) rfl
  replace k := Fw.aload k X9 hx (hb hby at_35) rfl rfl (pc' := 37) rfl
  replace k := Fw.lconst k X9 hx (hb hby at_37) (z := (0 : Int64)) (by decide) (pc' := 38) rfl
  have fc22 := (f7_0.keep K9 (ninS (Ne.symm (Nat.ne_of_lt (Nat.lt_of_lt_of_le f2_44.lt (Nat.le_of_eq g5.symm)))) (ninS (Ne.symm (Nat.ne_of_lt (Nat.lt_of_lt_of_le f2_46.lt (Nat.le_of_eq g5.symm)))) (ninS (Ne.symm (Nat.ne_of_lt (Nat.lt_of_lt_of_le f2_40.lt (Nat.le_of_eq g5.symm)))) (ninS (Ne.symm (Nat.ne_of_lt (Nat.lt_of_lt_of_le f2_43.lt (Nat.le_of_eq g5.symm)))) (ninS (Ne.symm (Nat.ne_of_lt (Nat.lt_of_lt_of_le f2_45.lt (Nat.le_of_eq g5.symm)))) (ninS (Ne.symm (Nat.ne_of_lt (Nat.lt_of_lt_of_le f2_42.lt (Nat.le_of_eq g5.symm)))) (ninS (Ne.symm (Nat.ne_of_lt (Nat.lt_of_lt_of_le f2_47.lt (Nat.le_of_eq g5.symm)))) (ninS (Ne.symm (Nat.ne_of_lt (Nat.lt_of_lt_of_le f2_36.lt (Nat.le_of_eq g5.symm)))) (ninS (Ne.symm (Nat.ne_of_lt (Nat.lt_of_lt_of_le f2_38.lt (Nat.le_of_eq g5.symm)))) nin0))))))))))
  have fc23 := (fc19.keep K9 (allS (Nat.le_trans (old_le O0) gz_b20_2) (allS (Nat.le_trans (old_le O0) gz_b28_2) (allS (Nat.le_trans (old_le O0) gz_b5_2) (allS (Nat.le_trans (old_le O0) gz_b13_2) (allS (Nat.le_trans (old_le O0) gz_b24_2) (allS (Nat.le_trans (old_le O0) gz_b9_2) (allS (Nat.le_trans (old_le O0) gz_b2_15_2) (allS (Nat.le_trans (old_le O0) gz_b1) (allS (Nat.le_trans (old_le O0) gz_b2_2) all0))))))))))
  obtain ⟨cq21, kq21, q21a, q21b, q21c⟩ := isOf hZ rfl f9_22.exa
  obtain ⟨_, _, ⟨T21, L21, kz21, nz21⟩, -, X21, ⟨Lc21, hQ21, l21, y21, z21⟩, st21⟩ := X9.virtualBack hx (y := (⟨"com/example/kleinmaschine/kleinmaschine/Statements", "add", "(IJLcom/example/kleinmaschine/kleinmaschine/Position;J)I"⟩ : MethodName)) (z := (⟨"com/example/kleinmaschine/kleinmaschine/Statements", "add", "(IJLcom/example/kleinmaschine/kleinmaschine/Position;J)I"⟩ : MethodName)) hown (mvT hZ (w_83 hw)) (mvT hZ (w_84 hw)) (notFace_of_selects (args := #[]) (mvT hZ (w_86 hw))) (mvT hZ (w_86 hw)) (mvT hZ (w_85 hw)) (by decide) (backOf (W := 0) (rm_Statements_add_2 l Z a0 hw [] b1 q2 b5 b2_2 b5_2 b9_2 b13_2 b20_2 b24_2 b28_2 kA2_2 b9_9 kA9_9 kA5_2 b14_9 kA14_9 (((q1.toUInt64 >>> ((32 : Int32) &&& 0x3f).toInt64.toUInt64).toInt64).toInt32) kA9_2 b20_9 kA20_9 (q1.toInt32) b2_15_2 b2_1_1_1_68_9 kA2_1_1_1_68_9 T9.heap n0 fc23 f9_22 S_PB f2_37 f9_23 f9_29 (Nat.le_trans (old_le O0) gz_b9_9) (Nat.ne_of_lt (Nat.lt_of_lt_of_le fc10.lt f9_4)) f2_39 f9_17 f9_24 (Nat.le_trans (old_le O0) gz_b14_9) (Nat.ne_of_lt (Nat.lt_of_lt_of_le fc10.lt f9_0)) f2_41 f9_20 (Nat.ne_of_lt (Nat.lt_of_lt_of_le fc13.lt f9_0)) f9_26 f9_6 (Nat.le_trans (old_le O0) gz_b20_9) (Nat.ne_of_lt (Nat.lt_of_lt_of_le fc12.lt f9_4)) (Ne.symm f9_11) (Nat.ne_of_lt (Nat.lt_of_lt_of_le fc13.lt f9_4)) (Ne.symm f9_13) (Nat.ne_of_lt (Nat.lt_of_lt_of_le fc10.lt f9_2)) fc22 (Nat.ne_of_lt (Nat.lt_of_lt_of_le f7_0.lt f9_4)) (Nat.ne_of_lt (Nat.lt_of_lt_of_le f7_0.lt f9_2)) (Nat.ne_of_lt (Nat.lt_of_lt_of_le f7_0.lt f9_0)) f9_18 (Nat.le_trans (old_le O0) gz_b13_2) f9_25 (Ne.symm (Nat.ne_of_lt (Nat.lt_of_lt_of_le fc15.lt f9_1))) (Nat.le_trans (old_le O0) gz_b2_1_1_1_68_9) (Nat.ne_of_lt (Nat.lt_of_lt_of_le fc15.lt f9_4)) (Nat.ne_of_lt (Nat.lt_of_lt_of_le fc15.lt f9_2)) (Nat.ne_of_lt (Nat.lt_of_lt_of_le fc15.lt f9_0)) (Ne.symm f9_12) (Ne.symm f9_7) f9_5 (Nat.ne_of_lt (Nat.lt_of_lt_of_le fc10.lt f9_1)) (Nat.ne_of_lt (Nat.lt_of_lt_of_le O1.lt f2_3)) (Nat.ne_of_lt (Nat.lt_of_lt_of_le f7_0.lt f9_1)) (Ne.symm (Nat.ne_of_lt (Nat.lt_of_lt_of_le f2_43.lt (Nat.le_of_eq g5.symm)))) (Nat.le_trans (old_le O0) gz_b1) (Ne.symm (Nat.ne_of_lt (Nat.lt_of_lt_of_le f2_36.lt (Nat.le_of_eq g5.symm))))) hZ (w_87 hw) (w_2 hw) (by decide) (by decide)) q21a q21c (g := (mkF m 38 #[.val (.long q1), .second, .val (.long q2), .second, .val (.long q3), .second, .val (.int p4), .val (.ref b1), .val (.ref b5), .unset, .unset, .unset, .unset, .unset, .unset] [(.long 0), (.ref b5), (.long q2), (.int 0), (.ref b1)])) rfl (by rw [hml]; rfl) (Steps.refl _) (argsL := [(.int 0), (.long q2), (.ref b5), (.long 0)]) (rest := []) (lenOf pd_IJLcom_example_kleinmaschine_kleinmaschine_PositionJ_r_I rfl) rfl (by show 2 * 0 + _ ≤ _; exact Nat.le_of_eq rfl) (hb hby at_38) (fun _ _ => ⟨rfl, rfl, (by decide : 15 + 0 ≤ _), (by decide : 114816 + 0 ≤ _)⟩)
  dsimp only [Pt.U, Pt.locs, Pt.cells, Pt.slots] at X21 l21 y21 z21 st21 hQ21
  subst l21 y21 z21
  obtain ⟨hv21, N21q, K21, f21_0, f21_1, f21_2, f21_3, f21_4, f21_5⟩ := hQ21
  subst hv21
  have N21 := Fr.app N9 N21q
  replace k : Goes p e below s₁ G0 T21 (mkF m 41 #[.val (.long q1), .second, .val (.long q2), .second, .val (.long q3), .second, .val (.int p4), .val (.ref b1), .val (.ref b5), .unset, .unset, .unset, .unset, .unset, .unset] [(.int 1)]) := fun t q => k t (st21.trans q)
  replace k := Fw.pop k X21 hx (hb hby at_41) rfl (pc' := 42) rfl
  replace k := Fw.iload k X21 hx (hb hby at_42) rfl (pc' := 44) rfl
  replace k := Fw.iconst k X21 hx (hb hby at_44) (z := (1 : Int32)) (by decide) (pc' := 45) rfl
  replace k := Fw.iand k X21 hx (hb hby at_45) rfl (pc' := 46) rfl
  by_cases hc46_24 : (p4 &&& (1 : Int32)) = (0 : Int32)
  · replace k := Fw.ifYes k X21 hx (hb hby at_46) ((if0 _ _).trans (teq hc46_24).1) (by decide) (pc' := 53) rfl
    replace k := Fw.iconst k X21 hx (hb hby at_53) (z := (0 : Int32)) (by decide) (pc' := 54) rfl
    replace k := Fw.istore k X21 hx (hb hby at_54)  (Ls' := #[.val (.long q1), .second, .val (.long q2), .second, .val (.long q3), .second, .val (.int p4), .val (.ref b1), .val (.ref b5), .val (.int 0), .unset, .unset, .unset, .unset, .unset]) rfl (pc' := 56) rfl
    replace k := Fw.iload k X21 hx (hb hby at_56) rfl (pc' := 58) rfl
    replace k := Fw.iconst k X21 hx (hb hby at_58) (z := (2 : Int32)) (by decide) (pc' := 59) rfl
    replace k := Fw.iand k X21 hx (hb hby at_59) rfl (pc' := 60) rfl
    by_cases hc60_25 : (p4 &&& (2 : Int32)) = (0 : Int32)
    · replace k := Fw.ifYes k X21 hx (hb hby at_60) ((if0 _ _).trans (teq hc60_25).1) (by decide) (pc' := 67) rfl
      replace k := Fw.iconst k X21 hx (hb hby at_67) (z := (0 : Int32)) (by decide) (pc' := 68) rfl
      replace k := Fw.istore k X21 hx (hb hby at_68)  (Ls' := #[.val (.long q1), .second, .val (.long q2), .second, .val (.long q3), .second, .val (.int p4), .val (.ref b1), .val (.ref b5), .val (.int 0), .val (.int 0), .unset, .unset, .unset, .unset]) rfl (pc' := 70) rfl
      replace k := Fw.iload k X21 hx (hb hby at_70) rfl (pc' := 72) rfl
      replace k := Fw.ifYes k X21 hx (hb hby at_72) ((if0 _ _).trans (teq (show (0 : Int32) = (0 : Int32) from by decide)).1) (by decide) (pc' := 99) rfl
      replace k := Fw.aload k X21 hx (hb hby at_99) rfl rfl (pc' := 101) rfl
      have fc27 := (f9_23.keep K21 (ninS (Nat.ne_of_lt (Nat.lt_of_lt_of_le fc11.lt f9_2)) (ninS (Ne.symm f2_11) (ninS (Nat.ne_of_lt (Nat.lt_of_lt_of_le fc11.lt f9_0)) (ninS (Nat.ne_of_lt (Nat.lt_of_lt_of_le fc11.lt f9_1)) (ninS (Ne.symm (Nat.ne_of_lt (Nat.lt_of_lt_of_le O1.lt f2_0))) (ninS (Nat.ne_of_lt (Nat.lt_of_lt_of_le fc11.lt f9_4)) nin0)))))))
      have fc28 := (f9_17.keep K21 (ninS (Nat.ne_of_lt (Nat.lt_of_lt_of_le fc12.lt f9_2)) (ninS (Ne.symm f2_12) (ninS (Nat.ne_of_lt (Nat.lt_of_lt_of_le fc12.lt f9_0)) (ninS (Nat.ne_of_lt (Nat.lt_of_lt_of_le fc12.lt f9_1)) (ninS (Ne.symm (Nat.ne_of_lt (Nat.lt_of_lt_of_le O1.lt f2_1))) (ninS (Nat.ne_of_lt (Nat.lt_of_lt_of_le fc12.lt f9_4)) nin0)))))))
      have fc29 := (f9_20.keep K21 (ninS (Nat.ne_of_lt (Nat.lt_of_lt_of_le fc13.lt f9_2)) (ninS (Ne.symm f2_13) (ninS (Nat.ne_of_lt (Nat.lt_of_lt_of_le fc13.lt f9_0)) (ninS (Nat.ne_of_lt (Nat.lt_of_lt_of_le fc13.lt f9_1)) (ninS (Ne.symm (Nat.ne_of_lt (Nat.lt_of_lt_of_le O1.lt f2_2))) (ninS (Nat.ne_of_lt (Nat.lt_of_lt_of_le fc13.lt f9_4)) nin0)))))))
      have fc30 := (fc23.keep K21 (allS (Nat.le_trans (old_le O0) gz_b20_9) (allS (Nat.le_trans (old_le O0) gz_b13_2) (allS (Nat.le_trans (old_le O0) gz_b14_9) (allS (Nat.le_trans (old_le O0) gz_b2_1_1_1_68_9) (allS (Nat.le_trans (old_le O0) gz_b1) (allS (Nat.le_trans (old_le O0) gz_b9_9) all0)))))))
      obtain ⟨cq26, kq26, q26a, q26b, q26c⟩ := isOf hZ rfl f21_4.exa
      obtain ⟨_, _, ⟨T26, L26, kz26, nz26⟩, -, X26, ⟨Lc26, hQ26, l26, y26, z26⟩, st26⟩ := X21.virtualBack hx (y := (⟨"com/example/kleinmaschine/kleinmaschine/Statements", "finish", "()V"⟩ : MethodName)) (z := (⟨"com/example/kleinmaschine/kleinmaschine/Statements", "finish", "()V"⟩ : MethodName)) hown (mvT hZ (w_189 hw)) (mvT hZ (w_190 hw)) (notFace_of_selects (args := #[]) (mvT hZ (w_192 hw))) (mvT hZ (w_192 hw)) (mvT hZ (w_191 hw)) (by decide) (backOf (W := 0) (rm_Statements_finish_1 l Z a0 hw [] b1 b2_2 b5_2 b9_2 b13_2 b20_2 b24_2 b28_2 kA2_2 b9_9 kA9_9 kA5_2 b14_9 kA14_9 (((q1.toUInt64 >>> ((32 : Int32) &&& 0x3f).toInt64.toUInt64).toInt64).toInt32) (((q2.toUInt64 >>> ((32 : Int32) &&& 0x3f).toInt64.toUInt64).toInt64).toInt32) kA9_2 b20_9 kA20_9 (q1.toInt32) (q2.toInt32) T21.heap n0 fc30 f21_4 f2_37 fc27 f21_5 (Nat.le_trans (old_le O0) gz_b2_2) (Nat.ne_of_lt (Nat.lt_of_lt_of_le O1.lt f2_0)) S_PB (Nat.le_trans (old_le O0) gz_b1) f2_39 fc28 f21_2 (Nat.le_trans (old_le O0) gz_b5_2) (Nat.ne_of_lt (Nat.lt_of_lt_of_le O1.lt f2_1)) f2_8 (Ne.symm (Nat.ne_of_lt (Nat.lt_of_lt_of_le fc11.lt f9_0))) (Ne.symm (Nat.ne_of_lt (Nat.lt_of_lt_of_le fc10.lt f9_0))) f2_41 fc29 f21_0 (Nat.le_trans (old_le O0) gz_b9_2) (Nat.ne_of_lt (Nat.lt_of_lt_of_le O1.lt f2_2)) f2_9 f2_10 (Ne.symm (Nat.ne_of_lt (Nat.lt_of_lt_of_le fc11.lt f9_2))) (Ne.symm (Nat.ne_of_lt (Nat.lt_of_lt_of_le fc10.lt f9_2))) (Ne.symm (Nat.ne_of_lt (Nat.lt_of_lt_of_le fc12.lt f9_2)))) hZ (w_193 hw) (w_2 hw) (by decide) (by decide)) q26a q26c (g := (mkF m 101 #[.val (.long q1), .second, .val (.long q2), .second, .val (.long q3), .second, .val (.int p4), .val (.ref b1), .val (.ref b5), .val (.int 0), .val (.int 0), .unset, .unset, .unset, .unset] [(.ref b1)])) rfl (by rw [hml]; rfl) (Steps.refl _) (argsL := []) (rest := []) (lenOf pd__r_V rfl) rfl (by show 2 * 0 + _ ≤ _; exact Nat.le_of_eq rfl) (hb hby at_101) (fun _ _ => ⟨rfl, rfl, (by decide : 15 + 3 ≤ _), (by decide : 114816 + 6 ≤ _)⟩)
      dsimp only [Pt.U, Pt.locs, Pt.cells, Pt.slots] at X26 l26 y26 z26 st26 hQ26
      subst l26 y26 z26
      obtain ⟨b2_3_26, b2_8_26, b2_17_26, kA2_3_26, kA2_8_26, kA2_17_26, hv26, N26q, K26, f26_0, f26_1, f26_2, f26_3, f26_4, f26_5, f26_6, f26_7, f26_8, f26_9, f26_10, f26_11, f26_12⟩ := hQ26
      subst hv26
      have N26 := Fr.app N21 N26q
      have fc31 := (Nat.le_trans (Nat.le_trans fc20 K9.1) K21.1)
      have gz_b2_3_26 : h0.size ≤ b2_3_26 := Nat.le_trans fc31 f26_0
      have gz_b2_8_26 : h0.size ≤ b2_8_26 := Nat.le_trans fc31 f26_1
      have gz_b2_17_26 : h0.size ≤ b2_17_26 := Nat.le_trans fc31 f26_2
      replace k : Goes p e below s₁ G0 T26 (mkF m 104 #[.val (.long q1), .second, .val (.long q2), .second, .val (.long q3), .second, .val (.int p4), .val (.ref b1), .val (.ref b5), .val (.int 0), .val (.int 0), .unset, .unset, .unset, .unset] []) := fun t q => k t (st26.trans q)
      replace k := Fw.iload k X26 hx (hb hby at_104) rfl (pc' := 106) rfl
      replace k := Fw.ifYes k X26 hx (hb hby at_106) ((if0 _ _).trans (teq (show (0 : Int32) = (0 : Int32) from by decide)).1) (by decide) (pc' := 119) rfl
      replace k := Fw.lloadN k X26 hx (hb hby at_119) rfl (pc' := 120) rfl
      replace k := Fw.lstore k X26 hx (hb hby at_120)  (Ls' := #[.val (.long q1), .second, .val (.long q2), .second, .val (.long q3), .second, .val (.int p4), .val (.ref b1), .val (.ref b5), .val (.int 0), .val (.int 0), .val (.long q1), .second, .unset, .unset]) rfl (pc' := 122) rfl
      replace k := Fw.iload k X26 hx (hb hby at_122) rfl (pc' := 124) rfl
      replace k := Fw.ifYes k X26 hx (hb hby at_124) ((if0 _ _).trans (teq (show (0 : Int32) = (0 : Int32) from by decide)).1) (by decide) (pc' := 137) rfl
      replace k := Fw.lloadN k X26 hx (hb hby at_137) rfl (pc' := 138) rfl
      replace k := Fw.lstore k X26 hx (hb hby at_138)  (Ls' := #[.val (.long q1), .second, .val (.long q2), .second, .val (.long q3), .second, .val (.int p4), .val (.ref b1), .val (.ref b5), .val (.int 0), .val (.int 0), .val (.long q1), .second, .val (.long q2), .second]) rfl (pc' := 140) rfl
      replace k := Fw.aload k X26 hx (hb hby at_140) rfl rfl (pc' := 142) rfl
      replace k := Fw.iconst k X26 hx (hb hby at_142) (z := (0 : Int32)) (by decide) (pc' := 143) rfl
      have fc33 := (fc30.keep K26 (allS (Nat.le_trans (old_le O0) gz_b5_2) (allS (Nat.le_trans (old_le O0) gz_b9_2) (allS (Nat.le_trans (old_le O0) gz_b2_2) (allS (Nat.le_trans (old_le O0) gz_b1) all0)))))
      obtain ⟨cq32, kq32, q32a, q32b, q32c⟩ := isOf hZ rfl f26_9.exa
      obtain ⟨_, _, ⟨T32, L32, kz32, nz32⟩, -, X32, ⟨Lc32, hQ32, l32, y32, z32⟩, st32⟩ := X26.virtualBack hx (y := (⟨"com/example/kleinmaschine/kleinmaschine/Statements", "operand", "(I)J"⟩ : MethodName)) (z := (⟨"com/example/kleinmaschine/kleinmaschine/Statements", "operand", "(I)J"⟩ : MethodName)) hown (mvT hZ (w_209 hw)) (mvT hZ (w_210 hw)) (notFace_of_selects (args := #[]) (mvT hZ (w_212 hw))) (mvT hZ (w_212 hw)) (mvT hZ (w_211 hw)) (by decide) (backOf (W := 0) (rm_Statements_operand_1 l Z a0 hw [] b1 b13_2 b20_2 b24_2 b28_2 b2_3_26 b2_8_26 b2_17_26 kA2_8_26 (((q1.toUInt64 >>> ((32 : Int32) &&& 0x3f).toInt64.toUInt64).toInt64).toInt32) (((q2.toUInt64 >>> ((32 : Int32) &&& 0x3f).toInt64.toUInt64).toInt64).toInt32) kA2_17_26 (q1.toInt32) (q2.toInt32) T26.heap n0 fc33 f26_9 f26_11 f26_12) hZ (w_213 hw) (w_2 hw) (by decide) (by decide)) q32a q32c (g := (mkF m 143 #[.val (.long q1), .second, .val (.long q2), .second, .val (.long q3), .second, .val (.int p4), .val (.ref b1), .val (.ref b5), .val (.int 0), .val (.int 0), .val (.long q1), .second, .val (.long q2), .second] [(.int 0), (.ref b1)])) rfl (by rw [hml]; rfl) (Steps.refl _) (argsL := [(.int 0)]) (rest := []) (lenOf pd_I_r_J rfl) rfl (by show 2 * 0 + _ ≤ _; exact Nat.le_of_eq rfl) (hb hby at_143) (fun _ _ => ⟨rfl, rfl, (by decide : 18 + 0 ≤ _), (by decide : 114822 + 0 ≤ _)⟩)
      dsimp only [Pt.U, Pt.locs, Pt.cells, Pt.slots] at X32 l32 y32 z32 st32 hQ32
      subst l32 y32 z32
      obtain ⟨hv32, N32q, e32⟩ := hQ32
      subst hv32
      have N32 := Fr.app N26 N32q
      replace k : Goes p e below s₁ G0 T32 (mkF m 146 #[.val (.long q1), .second, .val (.long q2), .second, .val (.long q3), .second, .val (.int p4), .val (.ref b1), .val (.ref b5), .val (.int 0), .val (.int 0), .val (.long q1), .second, .val (.long q2), .second] [(.long ((((((q1.toUInt64 >>> ((32 : Int32) &&& 0x3f).toInt64.toUInt64).toInt64).toInt32).toInt64) <<< ((32 : Int32) &&& 0x3f).toInt64) ||| (((q1.toInt32).toInt64) &&& (4294967295 : Int64))))]) := fun t q => k t (st32.trans q)
      replace k := Fw.lload k X32 hx (hb hby at_146) rfl (pc' := 148) rfl
      replace k := Fw.lcmp k X32 hx (hb hby at_148) (pc' := 149) rfl
      replace k := Fw.ifNo k X32 hx (hb hby at_149) ((if0 _ _).trans (teq ((lw_eq _ _).mpr (own_join _))).2) (pc' := 152) rfl
      replace k := Fw.aload k X32 hx (hb hby at_152) rfl rfl (pc' := 154) rfl
      replace k := Fw.iconst k X32 hx (hb hby at_154) (z := (1 : Int32)) (by decide) (pc' := 155) rfl
      obtain ⟨cq34, kq34, q34a, q34b, q34c⟩ := isOf hZ e32 f26_9.exa
      obtain ⟨_, _, ⟨T34, L34, kz34, nz34⟩, -, X34, ⟨Lc34, hQ34, l34, y34, z34⟩, st34⟩ := X32.virtualBack hx (y := (⟨"com/example/kleinmaschine/kleinmaschine/Statements", "operand", "(I)J"⟩ : MethodName)) (z := (⟨"com/example/kleinmaschine/kleinmaschine/Statements", "operand", "(I)J"⟩ : MethodName)) hown (mvT hZ (w_209 hw)) (mvT hZ (w_210 hw)) (notFace_of_selects (args := #[]) (mvT hZ (w_212 hw))) (mvT hZ (w_212 hw)) (mvT hZ (w_211 hw)) (by decide) (backOf (W := 0) (rm_Statements_operand_2 l Z a0 hw [] b1 b13_2 b20_2 b24_2 b28_2 b2_3_26 b2_8_26 b2_17_26 kA2_8_26 (((q1.toUInt64 >>> ((32 : Int32) &&& 0x3f).toInt64.toUInt64).toInt64).toInt32) (((q2.toUInt64 >>> ((32 : Int32) &&& 0x3f).toInt64.toUInt64).toInt64).toInt32) kA2_17_26 (q1.toInt32) (q2.toInt32) T26.heap n0 fc33 f26_9 f26_11 f26_12) hZ (w_213 hw) (w_2 hw) (by decide) (by decide)) q34a q34c (g := (mkF m 155 #[.val (.long q1), .second, .val (.long q2), .second, .val (.long q3), .second, .val (.int p4), .val (.ref b1), .val (.ref b5), .val (.int 0), .val (.int 0), .val (.long q1), .second, .val (.long q2), .second] [(.int 1), (.ref b1)])) rfl (by rw [hml]; rfl) (Steps.refl _) (argsL := [(.int 1)]) (rest := []) (lenOf pd_I_r_J rfl) rfl (by show 2 * 0 + _ ≤ _; exact Nat.le_of_eq rfl) (hb hby at_155) (fun _ _ => ⟨rfl, e32, (by decide : 18 + 0 ≤ _), (by decide : 114822 + 0 ≤ _)⟩)
      dsimp only [Pt.U, Pt.locs, Pt.cells, Pt.slots] at X34 l34 y34 z34 st34 hQ34
      subst l34 y34 z34
      obtain ⟨hv34, N34q, e34⟩ := hQ34
      subst hv34
      have N34 := Fr.app N32 N34q
      replace k : Goes p e below s₁ G0 T34 (mkF m 158 #[.val (.long q1), .second, .val (.long q2), .second, .val (.long q3), .second, .val (.int p4), .val (.ref b1), .val (.ref b5), .val (.int 0), .val (.int 0), .val (.long q1), .second, .val (.long q2), .second] [(.long ((((((q2.toUInt64 >>> ((32 : Int32) &&& 0x3f).toInt64.toUInt64).toInt64).toInt32).toInt64) <<< ((32 : Int32) &&& 0x3f).toInt64) ||| (((q2.toInt32).toInt64) &&& (4294967295 : Int64))))]) := fun t q => k t (st34.trans q)
      replace k := Fw.lload k X34 hx (hb hby at_158) rfl (pc' := 160) rfl
      replace k := Fw.lcmp k X34 hx (hb hby at_160) (pc' := 161) rfl
      replace k := Fw.ifNo k X34 hx (hb hby at_161) ((if0 _ _).trans (teq ((lw_eq _ _).mpr (own_join _))).2) (pc' := 164) rfl
      replace k := Fw.iconst k X34 hx (hb hby at_164) (z := (1 : Int32)) (by decide) (pc' := 165) rfl
      replace k := Fw.goto k X34 hx (hb hby at_165) (by decide) (pc' := 169) rfl
      obtain ⟨fs, hr, hrun, hended, hW, hsame⟩ := X34.leave (v := some (.int 1)) (fun h => by rw [Bd.returns] at h; cases h)
      refine ⟨_, _, pre0 _ (k _ ?_), hrun, hended, _, _, rfl, ?_, ⟨_, rfl⟩, hW, hsame.mono (by decide) (by decide)⟩
      · exact retN X34 hx (t := .boolean) Bd.returns (by simp) (hb hby at_169) hr
      · show Q_law Z q1 q2 q3 p4 w_DE kW_DE h0 n0 _ T34.heap _
        rw [e34]
        exact ⟨rfl, N34, trivial⟩
    · replace k := Fw.ifNo k X21 hx (hb hby at_60) ((if0 _ _).trans (feq hc60_25).1) (pc' := 63) rfl
      replace k := Fw.iconst k X21 hx (hb hby at_63) (z := (1 : Int32)) (by decide) (pc' := 64) rfl
      replace k := Fw.goto k X21 hx (hb hby at_64) (by decide) (pc' := 68) rfl
      replace k := Fw.istore k X21 hx (hb hby at_68)  (Ls' := #[.val (.long q1), .second, .val (.long q2), .second, .val (.long q3), .second, .val (.int p4), .val (.ref b1), .val (.ref b5), .val (.int 0), .val (.int 1), .unset, .unset, .unset, .unset]) rfl (pc' := 70) rfl
      replace k := Fw.iload k X21 hx (hb hby at_70) rfl (pc' := 72) rfl
      replace k := Fw.ifYes k X21 hx (hb hby at_72) ((if0 _ _).trans (teq (show (0 : Int32) = (0 : Int32) from by decide)).1) (by decide) (pc' := 99) rfl
      replace k := Fw.aload k X21 hx (hb hby at_99) rfl rfl (pc' := 101) rfl
      have fc36 := (f9_23.keep K21 (ninS (Nat.ne_of_lt (Nat.lt_of_lt_of_le fc11.lt f9_2)) (ninS (Ne.symm f2_11) (ninS (Nat.ne_of_lt (Nat.lt_of_lt_of_le fc11.lt f9_0)) (ninS (Nat.ne_of_lt (Nat.lt_of_lt_of_le fc11.lt f9_1)) (ninS (Ne.symm (Nat.ne_of_lt (Nat.lt_of_lt_of_le O1.lt f2_0))) (ninS (Nat.ne_of_lt (Nat.lt_of_lt_of_le fc11.lt f9_4)) nin0)))))))
      have fc37 := (f9_17.keep K21 (ninS (Nat.ne_of_lt (Nat.lt_of_lt_of_le fc12.lt f9_2)) (ninS (Ne.symm f2_12) (ninS (Nat.ne_of_lt (Nat.lt_of_lt_of_le fc12.lt f9_0)) (ninS (Nat.ne_of_lt (Nat.lt_of_lt_of_le fc12.lt f9_1)) (ninS (Ne.symm (Nat.ne_of_lt (Nat.lt_of_lt_of_le O1.lt f2_1))) (ninS (Nat.ne_of_lt (Nat.lt_of_lt_of_le fc12.lt f9_4)) nin0)))))))
      have fc38 := (f9_20.keep K21 (ninS (Nat.ne_of_lt (Nat.lt_of_lt_of_le fc13.lt f9_2)) (ninS (Ne.symm f2_13) (ninS (Nat.ne_of_lt (Nat.lt_of_lt_of_le fc13.lt f9_0)) (ninS (Nat.ne_of_lt (Nat.lt_of_lt_of_le fc13.lt f9_1)) (ninS (Ne.symm (Nat.ne_of_lt (Nat.lt_of_lt_of_le O1.lt f2_2))) (ninS (Nat.ne_of_lt (Nat.lt_of_lt_of_le fc13.lt f9_4)) nin0)))))))
      have fc39 := (fc23.keep K21 (allS (Nat.le_trans (old_le O0) gz_b20_9) (allS (Nat.le_trans (old_le O0) gz_b13_2) (allS (Nat.le_trans (old_le O0) gz_b14_9) (allS (Nat.le_trans (old_le O0) gz_b2_1_1_1_68_9) (allS (Nat.le_trans (old_le O0) gz_b1) (allS (Nat.le_trans (old_le O0) gz_b9_9) all0)))))))
      obtain ⟨cq35, kq35, q35a, q35b, q35c⟩ := isOf hZ rfl f21_4.exa
      obtain ⟨_, _, ⟨T35, L35, kz35, nz35⟩, -, X35, ⟨Lc35, hQ35, l35, y35, z35⟩, st35⟩ := X21.virtualBack hx (y := (⟨"com/example/kleinmaschine/kleinmaschine/Statements", "finish", "()V"⟩ : MethodName)) (z := (⟨"com/example/kleinmaschine/kleinmaschine/Statements", "finish", "()V"⟩ : MethodName)) hown (mvT hZ (w_189 hw)) (mvT hZ (w_190 hw)) (notFace_of_selects (args := #[]) (mvT hZ (w_192 hw))) (mvT hZ (w_192 hw)) (mvT hZ (w_191 hw)) (by decide) (backOf (W := 0) (rm_Statements_finish_1 l Z a0 hw [] b1 b2_2 b5_2 b9_2 b13_2 b20_2 b24_2 b28_2 kA2_2 b9_9 kA9_9 kA5_2 b14_9 kA14_9 (((q1.toUInt64 >>> ((32 : Int32) &&& 0x3f).toInt64.toUInt64).toInt64).toInt32) (((q2.toUInt64 >>> ((32 : Int32) &&& 0x3f).toInt64.toUInt64).toInt64).toInt32) kA9_2 b20_9 kA20_9 (q1.toInt32) (q2.toInt32) T21.heap n0 fc39 f21_4 f2_37 fc36 f21_5 (Nat.le_trans (old_le O0) gz_b2_2) (Nat.ne_of_lt (Nat.lt_of_lt_of_le O1.lt f2_0)) S_PB (Nat.le_trans (old_le O0) gz_b1) f2_39 fc37 f21_2 (Nat.le_trans (old_le O0) gz_b5_2) (Nat.ne_of_lt (Nat.lt_of_lt_of_le O1.lt f2_1)) f2_8 (Ne.symm (Nat.ne_of_lt (Nat.lt_of_lt_of_le fc11.lt f9_0))) (Ne.symm (Nat.ne_of_lt (Nat.lt_of_lt_of_le fc10.lt f9_0))) f2_41 fc38 f21_0 (Nat.le_trans (old_le O0) gz_b9_2) (Nat.ne_of_lt (Nat.lt_of_lt_of_le O1.lt f2_2)) f2_9 f2_10 (Ne.symm (Nat.ne_of_lt (Nat.lt_of_lt_of_le fc11.lt f9_2))) (Ne.symm (Nat.ne_of_lt (Nat.lt_of_lt_of_le fc10.lt f9_2))) (Ne.symm (Nat.ne_of_lt (Nat.lt_of_lt_of_le fc12.lt f9_2)))) hZ (w_193 hw) (w_2 hw) (by decide) (by decide)) q35a q35c (g := (mkF m 101 #[.val (.long q1), .second, .val (.long q2), .second, .val (.long q3), .second, .val (.int p4), .val (.ref b1), .val (.ref b5), .val (.int 0), .val (.int 1), .unset, .unset, .unset, .unset] [(.ref b1)])) rfl (by rw [hml]; rfl) (Steps.refl _) (argsL := []) (rest := []) (lenOf pd__r_V rfl) rfl (by show 2 * 0 + _ ≤ _; exact Nat.le_of_eq rfl) (hb hby at_101) (fun _ _ => ⟨rfl, rfl, (by decide : 15 + 3 ≤ _), (by decide : 114816 + 6 ≤ _)⟩)
      dsimp only [Pt.U, Pt.locs, Pt.cells, Pt.slots] at X35 l35 y35 z35 st35 hQ35
      subst l35 y35 z35
      obtain ⟨b2_3_35, b2_8_35, b2_17_35, kA2_3_35, kA2_8_35, kA2_17_35, hv35, N35q, K35, f35_0, f35_1, f35_2, f35_3, f35_4, f35_5, f35_6, f35_7, f35_8, f35_9, f35_10, f35_11, f35_12⟩ := hQ35
      subst hv35
      have N35 := Fr.app N21 N35q
      have fc40 := (Nat.le_trans (Nat.le_trans fc20 K9.1) K21.1)
      have gz_b2_3_35 : h0.size ≤ b2_3_35 := Nat.le_trans fc40 f35_0
      have gz_b2_8_35 : h0.size ≤ b2_8_35 := Nat.le_trans fc40 f35_1
      have gz_b2_17_35 : h0.size ≤ b2_17_35 := Nat.le_trans fc40 f35_2
      replace k : Goes p e below s₁ G0 T35 (mkF m 104 #[.val (.long q1), .second, .val (.long q2), .second, .val (.long q3), .second, .val (.int p4), .val (.ref b1), .val (.ref b5), .val (.int 0), .val (.int 1), .unset, .unset, .unset, .unset] []) := fun t q => k t (st35.trans q)
      replace k := Fw.iload k X35 hx (hb hby at_104) rfl (pc' := 106) rfl
      replace k := Fw.ifYes k X35 hx (hb hby at_106) ((if0 _ _).trans (teq (show (0 : Int32) = (0 : Int32) from by decide)).1) (by decide) (pc' := 119) rfl
      replace k := Fw.lloadN k X35 hx (hb hby at_119) rfl (pc' := 120) rfl
      replace k := Fw.lstore k X35 hx (hb hby at_120)  (Ls' := #[.val (.long q1), .second, .val (.long q2), .second, .val (.long q3), .second, .val (.int p4), .val (.ref b1), .val (.ref b5), .val (.int 0), .val (.int 1), .val (.long q1), .second, .unset, .unset]) rfl (pc' := 122) rfl
      replace k := Fw.iload k X35 hx (hb hby at_122) rfl (pc' := 124) rfl
      replace k := Fw.ifYes k X35 hx (hb hby at_124) ((if0 _ _).trans (teq (show (0 : Int32) = (0 : Int32) from by decide)).1) (by decide) (pc' := 137) rfl
      replace k := Fw.lloadN k X35 hx (hb hby at_137) rfl (pc' := 138) rfl
      replace k := Fw.lstore k X35 hx (hb hby at_138)  (Ls' := #[.val (.long q1), .second, .val (.long q2), .second, .val (.long q3), .second, .val (.int p4), .val (.ref b1), .val (.ref b5), .val (.int 0), .val (.int 1), .val (.long q1), .second, .val (.long q2), .second]) rfl (pc' := 140) rfl
      replace k := Fw.aload k X35 hx (hb hby at_140) rfl rfl (pc' := 142) rfl
      replace k := Fw.iconst k X35 hx (hb hby at_142) (z := (0 : Int32)) (by decide) (pc' := 143) rfl
      have fc42 := (fc39.keep K35 (allS (Nat.le_trans (old_le O0) gz_b5_2) (allS (Nat.le_trans (old_le O0) gz_b9_2) (allS (Nat.le_trans (old_le O0) gz_b2_2) (allS (Nat.le_trans (old_le O0) gz_b1) all0)))))
      obtain ⟨cq41, kq41, q41a, q41b, q41c⟩ := isOf hZ rfl f35_9.exa
      obtain ⟨_, _, ⟨T41, L41, kz41, nz41⟩, -, X41, ⟨Lc41, hQ41, l41, y41, z41⟩, st41⟩ := X35.virtualBack hx (y := (⟨"com/example/kleinmaschine/kleinmaschine/Statements", "operand", "(I)J"⟩ : MethodName)) (z := (⟨"com/example/kleinmaschine/kleinmaschine/Statements", "operand", "(I)J"⟩ : MethodName)) hown (mvT hZ (w_209 hw)) (mvT hZ (w_210 hw)) (notFace_of_selects (args := #[]) (mvT hZ (w_212 hw))) (mvT hZ (w_212 hw)) (mvT hZ (w_211 hw)) (by decide) (backOf (W := 0) (rm_Statements_operand_1 l Z a0 hw [] b1 b13_2 b20_2 b24_2 b28_2 b2_3_35 b2_8_35 b2_17_35 kA2_8_35 (((q1.toUInt64 >>> ((32 : Int32) &&& 0x3f).toInt64.toUInt64).toInt64).toInt32) (((q2.toUInt64 >>> ((32 : Int32) &&& 0x3f).toInt64.toUInt64).toInt64).toInt32) kA2_17_35 (q1.toInt32) (q2.toInt32) T35.heap n0 fc42 f35_9 f35_11 f35_12) hZ (w_213 hw) (w_2 hw) (by decide) (by decide)) q41a q41c (g := (mkF m 143 #[.val (.long q1), .second, .val (.long q2), .second, .val (.long q3), .second, .val (.int p4), .val (.ref b1), .val (.ref b5), .val (.int 0), .val (.int 1), .val (.long q1), .second, .val (.long q2), .second] [(.int 0), (.ref b1)])) rfl (by rw [hml]; rfl) (Steps.refl _) (argsL := [(.int 0)]) (rest := []) (lenOf pd_I_r_J rfl) rfl (by show 2 * 0 + _ ≤ _; exact Nat.le_of_eq rfl) (hb hby at_143) (fun _ _ => ⟨rfl, rfl, (by decide : 18 + 0 ≤ _), (by decide : 114822 + 0 ≤ _)⟩)
      dsimp only [Pt.U, Pt.locs, Pt.cells, Pt.slots] at X41 l41 y41 z41 st41 hQ41
      subst l41 y41 z41
      obtain ⟨hv41, N41q, e41⟩ := hQ41
      subst hv41
      have N41 := Fr.app N35 N41q
      replace k : Goes p e below s₁ G0 T41 (mkF m 146 #[.val (.long q1), .second, .val (.long q2), .second, .val (.long q3), .second, .val (.int p4), .val (.ref b1), .val (.ref b5), .val (.int 0), .val (.int 1), .val (.long q1), .second, .val (.long q2), .second] [(.long ((((((q1.toUInt64 >>> ((32 : Int32) &&& 0x3f).toInt64.toUInt64).toInt64).toInt32).toInt64) <<< ((32 : Int32) &&& 0x3f).toInt64) ||| (((q1.toInt32).toInt64) &&& (4294967295 : Int64))))]) := fun t q => k t (st41.trans q)
      replace k := Fw.lload k X41 hx (hb hby at_146) rfl (pc' := 148) rfl
      replace k := Fw.lcmp k X41 hx (hb hby at_148) (pc' := 149) rfl
      replace k := Fw.ifNo k X41 hx (hb hby at_149) ((if0 _ _).trans (teq ((lw_eq _ _).mpr (own_join _))).2) (pc' := 152) rfl
      replace k := Fw.aload k X41 hx (hb hby at_152) rfl rfl (pc' := 154) rfl
      replace k := Fw.iconst k X41 hx (hb hby at_154) (z := (1 : Int32)) (by decide) (pc' := 155) rfl
      obtain ⟨cq43, kq43, q43a, q43b, q43c⟩ := isOf hZ e41 f35_9.exa
      obtain ⟨_, _, ⟨T43, L43, kz43, nz43⟩, -, X43, ⟨Lc43, hQ43, l43, y43, z43⟩, st43⟩ := X41.virtualBack hx (y := (⟨"com/example/kleinmaschine/kleinmaschine/Statements", "operand", "(I)J"⟩ : MethodName)) (z := (⟨"com/example/kleinmaschine/kleinmaschine/Statements", "operand", "(I)J"⟩ : MethodName)) hown (mvT hZ (w_209 hw)) (mvT hZ (w_210 hw)) (notFace_of_selects (args := #[]) (mvT hZ (w_212 hw))) (mvT hZ (w_212 hw)) (mvT hZ (w_211 hw)) (by decide) (backOf (W := 0) (rm_Statements_operand_2 l Z a0 hw [] b1 b13_2 b20_2 b24_2 b28_2 b2_3_35 b2_8_35 b2_17_35 kA2_8_35 (((q1.toUInt64 >>> ((32 : Int32) &&& 0x3f).toInt64.toUInt64).toInt64).toInt32) (((q2.toUInt64 >>> ((32 : Int32) &&& 0x3f).toInt64.toUInt64).toInt64).toInt32) kA2_17_35 (q1.toInt32) (q2.toInt32) T35.heap n0 fc42 f35_9 f35_11 f35_12) hZ (w_213 hw) (w_2 hw) (by decide) (by decide)) q43a q43c (g := (mkF m 155 #[.val (.long q1), .second, .val (.long q2), .second, .val (.long q3), .second, .val (.int p4), .val (.ref b1), .val (.ref b5), .val (.int 0), .val (.int 1), .val (.long q1), .second, .val (.long q2), .second] [(.int 1), (.ref b1)])) rfl (by rw [hml]; rfl) (Steps.refl _) (argsL := [(.int 1)]) (rest := []) (lenOf pd_I_r_J rfl) rfl (by show 2 * 0 + _ ≤ _; exact Nat.le_of_eq rfl) (hb hby at_155) (fun _ _ => ⟨rfl, e41, (by decide : 18 + 0 ≤ _), (by decide : 114822 + 0 ≤ _)⟩)
      dsimp only [Pt.U, Pt.locs, Pt.cells, Pt.slots] at X43 l43 y43 z43 st43 hQ43
      subst l43 y43 z43
      obtain ⟨hv43, N43q, e43⟩ := hQ43
      subst hv43
      have N43 := Fr.app N41 N43q
      replace k : Goes p e below s₁ G0 T43 (mkF m 158 #[.val (.long q1), .second, .val (.long q2), .second, .val (.long q3), .second, .val (.int p4), .val (.ref b1), .val (.ref b5), .val (.int 0), .val (.int 1), .val (.long q1), .second, .val (.long q2), .second] [(.long ((((((q2.toUInt64 >>> ((32 : Int32) &&& 0x3f).toInt64.toUInt64).toInt64).toInt32).toInt64) <<< ((32 : Int32) &&& 0x3f).toInt64) ||| (((q2.toInt32).toInt64) &&& (4294967295 : Int64))))]) := fun t q => k t (st43.trans q)
      replace k := Fw.lload k X43 hx (hb hby at_158) rfl (pc' := 160) rfl
      replace k := Fw.lcmp k X43 hx (hb hby at_160) (pc' := 161) rfl
      replace k := Fw.ifNo k X43 hx (hb hby at_161) ((if0 _ _).trans (teq ((lw_eq _ _).mpr (own_join _))).2) (pc' := 164) rfl
      replace k := Fw.iconst k X43 hx (hb hby at_164) (z := (1 : Int32)) (by decide) (pc' := 165) rfl
      replace k := Fw.goto k X43 hx (hb hby at_165) (by decide) (pc' := 169) rfl
      obtain ⟨fs, hr, hrun, hended, hW, hsame⟩ := X43.leave (v := some (.int 1)) (fun h => by rw [Bd.returns] at h; cases h)
      refine ⟨_, _, pre0 _ (k _ ?_), hrun, hended, _, _, rfl, ?_, ⟨_, rfl⟩, hW, hsame.mono (by decide) (by decide)⟩
      · exact retN X43 hx (t := .boolean) Bd.returns (by simp) (hb hby at_169) hr
      · show Q_law Z q1 q2 q3 p4 w_DE kW_DE h0 n0 _ T43.heap _
        rw [e43]
        exact ⟨rfl, N43, trivial⟩
  · replace k := Fw.ifNo k X21 hx (hb hby at_46) ((if0 _ _).trans (feq hc46_24).1) (pc' := 49) rfl
    replace k := Fw.iconst k X21 hx (hb hby at_49) (z := (1 : Int32)) (by decide) (pc' := 50) rfl
    replace k := Fw.goto k X21 hx (hb hby at_50) (by decide) (pc' := 54) rfl
    replace k := Fw.istore k X21 hx (hb hby at_54)  (Ls' := #[.val (.long q1), .second, .val (.long q2), .second, .val (.long q3), .second, .val (.int p4), .val (.ref b1), .val (.ref b5), .val (.int 1), .unset, .unset, .unset, .unset, .unset]) rfl (pc' := 56) rfl
    replace k := Fw.iload k X21 hx (hb hby at_56) rfl (pc' := 58) rfl
    replace k := Fw.iconst k X21 hx (hb hby at_58) (z := (2 : Int32)) (by decide) (pc' := 59) rfl
    replace k := Fw.iand k X21 hx (hb hby at_59) rfl (pc' := 60) rfl
    by_cases hc60_44 : (p4 &&& (2 : Int32)) = (0 : Int32)
    · replace k := Fw.ifYes k X21 hx (hb hby at_60) ((if0 _ _).trans (teq hc60_44).1) (by decide) (pc' := 67) rfl
      replace k := Fw.iconst k X21 hx (hb hby at_67) (z := (0 : Int32)) (by decide) (pc' := 68) rfl
      replace k := Fw.istore k X21 hx (hb hby at_68)  (Ls' := #[.val (.long q1), .second, .val (.long q2), .second, .val (.long q3), .second, .val (.int p4), .val (.ref b1), .val (.ref b5), .val (.int 1), .val (.int 0), .unset, .unset, .unset, .unset]) rfl (pc' := 70) rfl
      replace k := Fw.iload k X21 hx (hb hby at_70) rfl (pc' := 72) rfl
      replace k := Fw.ifNo k X21 hx (hb hby at_72) ((if0 _ _).trans (feq (show ¬ ((1 : Int32) = (0 : Int32)) from by decide)).1) (pc' := 75) rfl
      replace k := Fw.iload k X21 hx (hb hby at_75) rfl (pc' := 77) rfl
      replace k := Fw.ifYes k X21 hx (hb hby at_77) ((if0 _ _).trans (teq (show (0 : Int32) = (0 : Int32) from by decide)).1) (by decide) (pc' := 91) rfl
      replace k := Fw.aload k X21 hx (hb hby at_91) rfl rfl (pc' := 93) rfl
      replace k := Fw.iconst k X21 hx (hb hby at_93) (z := (0 : Int32)) (by decide) (pc' := 94) rfl
      replace k := Fw.lload k X21 hx (hb hby at_94) rfl (pc' := 96) rfl
      have fc46 := (f9_17.keep K21 (ninS (Nat.ne_of_lt (Nat.lt_of_lt_of_le fc12.lt f9_2)) (ninS (Ne.symm f2_12) (ninS (Nat.ne_of_lt (Nat.lt_of_lt_of_le fc12.lt f9_0)) (ninS (Nat.ne_of_lt (Nat.lt_of_lt_of_le fc12.lt f9_1)) (ninS (Ne.symm (Nat.ne_of_lt (Nat.lt_of_lt_of_le O1.lt f2_1))) (ninS (Nat.ne_of_lt (Nat.lt_of_lt_of_le fc12.lt f9_4)) nin0)))))))
      have fc47 := (f9_20.keep K21 (ninS (Nat.ne_of_lt (Nat.lt_of_lt_of_le fc13.lt f9_2)) (ninS (Ne.symm f2_13) (ninS (Nat.ne_of_lt (Nat.lt_of_lt_of_le fc13.lt f9_0)) (ninS (Nat.ne_of_lt (Nat.lt_of_lt_of_le fc13.lt f9_1)) (ninS (Ne.symm (Nat.ne_of_lt (Nat.lt_of_lt_of_le O1.lt f2_2))) (ninS (Nat.ne_of_lt (Nat.lt_of_lt_of_le fc13.lt f9_4)) nin0)))))))
      have fc48 := (fc23.keep K21 (allS (Nat.le_trans (old_le O0) gz_b20_9) (allS (Nat.le_trans (old_le O0) gz_b13_2) (allS (Nat.le_trans (old_le O0) gz_b14_9) (allS (Nat.le_trans (old_le O0) gz_b2_1_1_1_68_9) (allS (Nat.le_trans (old_le O0) gz_b1) (allS (Nat.le_trans (old_le O0) gz_b9_9) all0)))))))
      obtain ⟨cq45, kq45, q45a, q45b, q45c⟩ := isOf hZ rfl f21_4.exa
      obtain ⟨_, _, ⟨T45, L45, kz45, nz45⟩, -, X45, ⟨Lc45, hQ45, l45, y45, z45⟩, st45⟩ := X21.virtualBack hx (y := (⟨"com/example/kleinmaschine/kleinmaschine/Statements", "setOperand", "(IJ)V"⟩ : MethodName)) (z := (⟨"com/example/kleinmaschine/kleinmaschine/Statements", "setOperand", "(IJ)V"⟩ : MethodName)) hown (mvT hZ (w_215 hw)) (mvT hZ (w_216 hw)) (notFace_of_selects (args := #[]) (mvT hZ (w_218 hw))) (mvT hZ (w_218 hw)) (mvT hZ (w_217 hw)) (by decide) (backOf (W := 0) (rm_Statements_setOperand_1 l Z a0 hw [] b1 q3 b2_2 b5_2 b9_2 b13_2 b20_2 b24_2 b28_2 kA5_2 b14_9 kA14_9 (((q1.toUInt64 >>> ((32 : Int32) &&& 0x3f).toInt64.toUInt64).toInt64).toInt32) (((q2.toUInt64 >>> ((32 : Int32) &&& 0x3f).toInt64.toUInt64).toInt64).toInt32) kA9_2 b20_9 kA20_9 (q1.toInt32) (q2.toInt32) T21.heap n0 fc48 f21_4 f2_39 fc46 f21_2 (Nat.le_trans (old_le O0) gz_b14_9) (Nat.ne_of_lt (Nat.lt_of_lt_of_le fc10.lt f9_0)) f2_41 fc47 (Nat.ne_of_lt (Nat.lt_of_lt_of_le fc13.lt f9_0)) f21_0 f9_6 (Nat.le_trans (old_le O0) gz_b20_9) S_PB) hZ (w_219 hw) (w_2 hw) (by decide) (by decide)) q45a q45c (g := (mkF m 96 #[.val (.long q1), .second, .val (.long q2), .second, .val (.long q3), .second, .val (.int p4), .val (.ref b1), .val (.ref b5), .val (.int 1), .val (.int 0), .unset, .unset, .unset, .unset] [(.long q3), (.int 0), (.ref b1)])) rfl (by rw [hml]; rfl) (Steps.refl _) (argsL := [(.int 0), (.long q3)]) (rest := []) (lenOf pd_IJ_r_V rfl) rfl (by show 2 * 0 + _ ≤ _; exact Nat.le_of_eq rfl) (hb hby at_96) (fun _ _ => ⟨rfl, rfl, (by decide : 15 + 0 ≤ _), (by decide : 114816 + 0 ≤ _)⟩)
      dsimp only [Pt.U, Pt.locs, Pt.cells, Pt.slots] at X45 l45 y45 z45 st45 hQ45
      subst l45 y45 z45
      obtain ⟨hv45, N45q, K45, f45_0, f45_1⟩ := hQ45
      subst hv45
      have N45 := Fr.app N21 N45q
      replace k : Goes p e below s₁ G0 T45 (mkF m 99 #[.val (.long q1), .second, .val (.long q2), .second, .val (.long q3), .second, .val (.int p4), .val (.ref b1), .val (.ref b5), .val (.int 1), .val (.int 0), .unset, .unset, .unset, .unset] []) := fun t q => k t (st45.trans q)
      replace k := Fw.aload k X45 hx (hb hby at_99) rfl rfl (pc' := 101) rfl
      have fc50 := (f21_4.keep K45 (ninS (Nat.ne_of_lt (Nat.lt_of_lt_of_le fc10.lt f9_2)) (ninS (Nat.ne_of_lt (Nat.lt_of_lt_of_le fc10.lt f9_0)) nin0)))
      have fc51 := ((f9_23.keep K21 (ninS (Nat.ne_of_lt (Nat.lt_of_lt_of_le fc11.lt f9_2)) (ninS (Ne.symm f2_11) (ninS (Nat.ne_of_lt (Nat.lt_of_lt_of_le fc11.lt f9_0)) (ninS (Nat.ne_of_lt (Nat.lt_of_lt_of_le fc11.lt f9_1)) (ninS (Ne.symm (Nat.ne_of_lt (Nat.lt_of_lt_of_le O1.lt f2_0))) (ninS (Nat.ne_of_lt (Nat.lt_of_lt_of_le fc11.lt f9_4)) nin0))))))).keep K45 (ninS (Nat.ne_of_lt (Nat.lt_of_lt_of_le fc11.lt f9_2)) (ninS (Nat.ne_of_lt (Nat.lt_of_lt_of_le fc11.lt f9_0)) nin0)))
      have fc52 := (f21_5.keep K45 (ninS f9_13 (ninS f9_11 nin0)))
      have fc53 := (fc46.keep K45 (ninS (Nat.ne_of_lt (Nat.lt_of_lt_of_le fc12.lt f9_2)) (ninS (Nat.ne_of_lt (Nat.lt_of_lt_of_le fc12.lt f9_0)) nin0)))
      have fc54 := (fc47.keep K45 (ninS (Nat.ne_of_lt (Nat.lt_of_lt_of_le fc13.lt f9_2)) (ninS (Nat.ne_of_lt (Nat.lt_of_lt_of_le fc13.lt f9_0)) nin0)))
      have fc55 := (fc48.keep K45 (allS (Nat.le_trans (old_le O0) gz_b20_9) (allS (Nat.le_trans (old_le O0) gz_b14_9) all0)))
      obtain ⟨cq49, kq49, q49a, q49b, q49c⟩ := isOf hZ rfl fc50.exa
      obtain ⟨_, _, ⟨T49, L49, kz49, nz49⟩, -, X49, ⟨Lc49, hQ49, l49, y49, z49⟩, st49⟩ := X45.virtualBack hx (y := (⟨"com/example/kleinmaschine/kleinmaschine/Statements", "finish", "()V"⟩ : MethodName)) (z := (⟨"com/example/kleinmaschine/kleinmaschine/Statements", "finish", "()V"⟩ : MethodName)) hown (mvT hZ (w_189 hw)) (mvT hZ (w_190 hw)) (notFace_of_selects (args := #[]) (mvT hZ (w_192 hw))) (mvT hZ (w_192 hw)) (mvT hZ (w_191 hw)) (by decide) (backOf (W := 0) (rm_Statements_finish_1 l Z a0 hw [] b1 b2_2 b5_2 b9_2 b13_2 b20_2 b24_2 b28_2 kA2_2 b9_9 kA9_9 kA5_2 b14_9 kA14_9 (((q3.toUInt64 >>> ((32 : Int32) &&& 0x3f).toInt64.toUInt64).toInt64).toInt32) (((q2.toUInt64 >>> ((32 : Int32) &&& 0x3f).toInt64.toUInt64).toInt64).toInt32) kA9_2 b20_9 kA20_9 (q3.toInt32) (q2.toInt32) T45.heap n0 fc55 fc50 f2_37 fc51 fc52 (Nat.le_trans (old_le O0) gz_b2_2) (Nat.ne_of_lt (Nat.lt_of_lt_of_le O1.lt f2_0)) S_PB (Nat.le_trans (old_le O0) gz_b1) f2_39 fc53 f45_1 (Nat.le_trans (old_le O0) gz_b5_2) (Nat.ne_of_lt (Nat.lt_of_lt_of_le O1.lt f2_1)) f2_8 (Ne.symm (Nat.ne_of_lt (Nat.lt_of_lt_of_le fc11.lt f9_0))) (Ne.symm (Nat.ne_of_lt (Nat.lt_of_lt_of_le fc10.lt f9_0))) f2_41 fc54 f45_0 (Nat.le_trans (old_le O0) gz_b9_2) (Nat.ne_of_lt (Nat.lt_of_lt_of_le O1.lt f2_2)) f2_9 f2_10 (Ne.symm (Nat.ne_of_lt (Nat.lt_of_lt_of_le fc11.lt f9_2))) (Ne.symm (Nat.ne_of_lt (Nat.lt_of_lt_of_le fc10.lt f9_2))) (Ne.symm (Nat.ne_of_lt (Nat.lt_of_lt_of_le fc12.lt f9_2)))) hZ (w_193 hw) (w_2 hw) (by decide) (by decide)) q49a q49c (g := (mkF m 101 #[.val (.long q1), .second, .val (.long q2), .second, .val (.long q3), .second, .val (.int p4), .val (.ref b1), .val (.ref b5), .val (.int 1), .val (.int 0), .unset, .unset, .unset, .unset] [(.ref b1)])) rfl (by rw [hml]; rfl) (Steps.refl _) (argsL := []) (rest := []) (lenOf pd__r_V rfl) rfl (by show 2 * 0 + _ ≤ _; exact Nat.le_of_eq rfl) (hb hby at_101) (fun _ _ => ⟨rfl, rfl, (by decide : 15 + 3 ≤ _), (by decide : 114816 + 6 ≤ _)⟩)
      dsimp only [Pt.U, Pt.locs, Pt.cells, Pt.slots] at X49 l49 y49 z49 st49 hQ49
      subst l49 y49 z49
      obtain ⟨b2_3_49, b2_8_49, b2_17_49, kA2_3_49, kA2_8_49, kA2_17_49, hv49, N49q, K49, f49_0, f49_1, f49_2, f49_3, f49_4, f49_5, f49_6, f49_7, f49_8, f49_9, f49_10, f49_11, f49_12⟩ := hQ49
      subst hv49
      have N49 := Fr.app N45 N49q
      have fc56 := (Nat.le_trans (Nat.le_trans (Nat.le_trans fc20 K9.1) K21.1) K45.1)
      have gz_b2_3_49 : h0.size ≤ b2_3_49 := Nat.le_trans fc56 f49_0
      have gz_b2_8_49 : h0.size ≤ b2_8_49 := Nat.le_trans fc56 f49_1
      have gz_b2_17_49 : h0.size ≤ b2_17_49 := Nat.le_trans fc56 f49_2
      replace k : Goes p e below s₁ G0 T49 (mkF m 104 #[.val (.long q1), .second, .val (.long q2), .second, .val (.long q3), .second, .val (.int p4), .val (.ref b1), .val (.ref b5), .val (.int 1), .val (.int 0), .unset, .unset, .unset, .unset] []) := fun t q => k t (st49.trans q)
      replace k := Fw.iload k X49 hx (hb hby at_104) rfl (pc' := 106) rfl
      replace k := Fw.ifNo k X49 hx (hb hby at_106) ((if0 _ _).trans (feq (show ¬ ((1 : Int32) = (0 : Int32)) from by decide)).1) (pc' := 109) rfl
      replace k := Fw.iload k X49 hx (hb hby at_109) rfl (pc' := 111) rfl
      replace k := Fw.ifNo k X49 hx (hb hby at_111) ((if0 _ _).trans (teq (show (0 : Int32) = (0 : Int32) from by decide)).2) (pc' := 114) rfl
      replace k := Fw.lload k X49 hx (hb hby at_114) rfl (pc' := 116) rfl
      replace k := Fw.goto k X49 hx (hb hby at_116) (by decide) (pc' := 120) rfl
      replace k := Fw.lstore k X49 hx (hb hby at_120)  (Ls' := #[.val (.long q1), .second, .val (.long q2), .second, .val (.long q3), .second, .val (.int p4), .val (.ref b1), .val (.ref b5), .val (.int 1), .val (.int 0), .val (.long q3), .second, .unset, .unset]) rfl (pc' := 122) rfl
      replace k := Fw.iload k X49 hx (hb hby at_122) rfl (pc' := 124) rfl
      replace k := Fw.ifNo k X49 hx (hb hby at_124) ((if0 _ _).trans (feq (show ¬ ((1 : Int32) = (0 : Int32)) from by decide)).1) (pc' := 127) rfl
      replace k := Fw.iload k X49 hx (hb hby at_127) rfl (pc' := 129) rfl
      replace k := Fw.ifYes k X49 hx (hb hby at_129) ((if0 _ _).trans (teq (show (0 : Int32) = (0 : Int32) from by decide)).1) (by decide) (pc' := 137) rfl
      replace k := Fw.lloadN k X49 hx (hb hby at_137) rfl (pc' := 138) rfl
      replace k := Fw.lstore k X49 hx (hb hby at_138)  (Ls' := #[.val (.long q1), .second, .val (.long q2), .second, .val (.long q3), .second, .val (.int p4), .val (.ref b1), .val (.ref b5), .val (.int 1), .val (.int 0), .val (.long q3), .second, .val (.long q2), .second]) rfl (pc' := 140) rfl
      replace k := Fw.aload k X49 hx (hb hby at_140) rfl rfl (pc' := 142) rfl
      replace k := Fw.iconst k X49 hx (hb hby at_142) (z := (0 : Int32)) (by decide) (pc' := 143) rfl
      have fc58 := (fc55.keep K49 (allS (Nat.le_trans (old_le O0) gz_b5_2) (allS (Nat.le_trans (old_le O0) gz_b9_2) (allS (Nat.le_trans (old_le O0) gz_b2_2) (allS (Nat.le_trans (old_le O0) gz_b1) all0)))))
      obtain ⟨cq57, kq57, q57a, q57b, q57c⟩ := isOf hZ rfl f49_9.exa
      obtain ⟨_, _, ⟨T57, L57, kz57, nz57⟩, -, X57, ⟨Lc57, hQ57, l57, y57, z57⟩, st57⟩ := X49.virtualBack hx (y := (⟨"com/example/kleinmaschine/kleinmaschine/Statements", "operand", "(I)J"⟩ : MethodName)) (z := (⟨"com/example/kleinmaschine/kleinmaschine/Statements", "operand", "(I)J"⟩ : MethodName)) hown (mvT hZ (w_209 hw)) (mvT hZ (w_210 hw)) (notFace_of_selects (args := #[]) (mvT hZ (w_212 hw))) (mvT hZ (w_212 hw)) (mvT hZ (w_211 hw)) (by decide) (backOf (W := 0) (rm_Statements_operand_1 l Z a0 hw [] b1 b13_2 b20_2 b24_2 b28_2 b2_3_49 b2_8_49 b2_17_49 kA2_8_49 (((q3.toUInt64 >>> ((32 : Int32) &&& 0x3f).toInt64.toUInt64).toInt64).toInt32) (((q2.toUInt64 >>> ((32 : Int32) &&& 0x3f).toInt64.toUInt64).toInt64).toInt32) kA2_17_49 (q3.toInt32) (q2.toInt32) T49.heap n0 fc58 f49_9 f49_11 f49_12) hZ (w_213 hw) (w_2 hw) (by decide) (by decide)) q57a q57c (g := (mkF m 143 #[.val (.long q1), .second, .val (.long q2), .second, .val (.long q3), .second, .val (.int p4), .val (.ref b1), .val (.ref b5), .val (.int 1), .val (.int 0), .val (.long q3), .second, .val (.long q2), .second] [(.int 0), (.ref b1)])) rfl (by rw [hml]; rfl) (Steps.refl _) (argsL := [(.int 0)]) (rest := []) (lenOf pd_I_r_J rfl) rfl (by show 2 * 0 + _ ≤ _; exact Nat.le_of_eq rfl) (hb hby at_143) (fun _ _ => ⟨rfl, rfl, (by decide : 18 + 0 ≤ _), (by decide : 114822 + 0 ≤ _)⟩)
      dsimp only [Pt.U, Pt.locs, Pt.cells, Pt.slots] at X57 l57 y57 z57 st57 hQ57
      subst l57 y57 z57
      obtain ⟨hv57, N57q, e57⟩ := hQ57
      subst hv57
      have N57 := Fr.app N49 N57q
      replace k : Goes p e below s₁ G0 T57 (mkF m 146 #[.val (.long q1), .second, .val (.long q2), .second, .val (.long q3), .second, .val (.int p4), .val (.ref b1), .val (.ref b5), .val (.int 1), .val (.int 0), .val (.long q3), .second, .val (.long q2), .second] [(.long ((((((q3.toUInt64 >>> ((32 : Int32) &&& 0x3f).toInt64.toUInt64).toInt64).toInt32).toInt64) <<< ((32 : Int32) &&& 0x3f).toInt64) ||| (((q3.toInt32).toInt64) &&& (4294967295 : Int64))))]) := fun t q => k t (st57.trans q)
      replace k := Fw.lload k X57 hx (hb hby at_146) rfl (pc' := 148) rfl
      replace k := Fw.lcmp k X57 hx (hb hby at_148) (pc' := 149) rfl
      replace k := Fw.ifNo k X57 hx (hb hby at_149) ((if0 _ _).trans (teq ((lw_eq _ _).mpr (own_join _))).2) (pc' := 152) rfl
      replace k := Fw.aload k X57 hx (hb hby at_152) rfl rfl (pc' := 154) rfl
      replace k := Fw.iconst k X57 hx (hb hby at_154) (z := (1 : Int32)) (by decide) (pc' := 155) rfl
      obtain ⟨cq59, kq59, q59a, q59b, q59c⟩ := isOf hZ e57 f49_9.exa
      obtain ⟨_, _, ⟨T59, L59, kz59, nz59⟩, -, X59, ⟨Lc59, hQ59, l59, y59, z59⟩, st59⟩ := X57.virtualBack hx (y := (⟨"com/example/kleinmaschine/kleinmaschine/Statements", "operand", "(I)J"⟩ : MethodName)) (z := (⟨"com/example/kleinmaschine/kleinmaschine/Statements", "operand", "(I)J"⟩ : MethodName)) hown (mvT hZ (w_209 hw)) (mvT hZ (w_210 hw)) (notFace_of_selects (args := #[]) (mvT hZ (w_212 hw))) (mvT hZ (w_212 hw)) (mvT hZ (w_211 hw)) (by decide) (backOf (W := 0) (rm_Statements_operand_2 l Z a0 hw [] b1 b13_2 b20_2 b24_2 b28_2 b2_3_49 b2_8_49 b2_17_49 kA2_8_49 (((q3.toUInt64 >>> ((32 : Int32) &&& 0x3f).toInt64.toUInt64).toInt64).toInt32) (((q2.toUInt64 >>> ((32 : Int32) &&& 0x3f).toInt64.toUInt64).toInt64).toInt32) kA2_17_49 (q3.toInt32) (q2.toInt32) T49.heap n0 fc58 f49_9 f49_11 f49_12) hZ (w_213 hw) (w_2 hw) (by decide) (by decide)) q59a q59c (g := (mkF m 155 #[.val (.long q1), .second, .val (.long q2), .second, .val (.long q3), .second, .val (.int p4), .val (.ref b1), .val (.ref b5), .val (.int 1), .val (.int 0), .val (.long q3), .second, .val (.long q2), .second] [(.int 1), (.ref b1)])) rfl (by rw [hml]; rfl) (Steps.refl _) (argsL := [(.int 1)]) (rest := []) (lenOf pd_I_r_J rfl) rfl (by show 2 * 0 + _ ≤ _; exact Nat.le_of_eq rfl) (hb hby at_155) (fun _ _ => ⟨rfl, e57, (by decide : 18 + 0 ≤ _), (by decide : 114822 + 0 ≤ _)⟩)
      dsimp only [Pt.U, Pt.locs, Pt.cells, Pt.slots] at X59 l59 y59 z59 st59 hQ59
      subst l59 y59 z59
      obtain ⟨hv59, N59q, e59⟩ := hQ59
      subst hv59
      have N59 := Fr.app N57 N59q
      replace k : Goes p e below s₁ G0 T59 (mkF m 158 #[.val (.long q1), .second, .val (.long q2), .second, .val (.long q3), .second, .val (.int p4), .val (.ref b1), .val (.ref b5), .val (.int 1), .val (.int 0), .val (.long q3), .second, .val (.long q2), .second] [(.long ((((((q2.toUInt64 >>> ((32 : Int32) &&& 0x3f).toInt64.toUInt64).toInt64).toInt32).toInt64) <<< ((32 : Int32) &&& 0x3f).toInt64) ||| (((q2.toInt32).toInt64) &&& (4294967295 : Int64))))]) := fun t q => k t (st59.trans q)
      replace k := Fw.lload k X59 hx (hb hby at_158) rfl (pc' := 160) rfl
      replace k := Fw.lcmp k X59 hx (hb hby at_160) (pc' := 161) rfl
      replace k := Fw.ifNo k X59 hx (hb hby at_161) ((if0 _ _).trans (teq ((lw_eq _ _).mpr (own_join _))).2) (pc' := 164) rfl
      replace k := Fw.iconst k X59 hx (hb hby at_164) (z := (1 : Int32)) (by decide) (pc' := 165) rfl
      replace k := Fw.goto k X59 hx (hb hby at_165) (by decide) (pc' := 169) rfl
      obtain ⟨fs, hr, hrun, hended, hW, hsame⟩ := X59.leave (v := some (.int 1)) (fun h => by rw [Bd.returns] at h; cases h)
      refine ⟨_, _, pre0 _ (k _ ?_), hrun, hended, _, _, rfl, ?_, ⟨_, rfl⟩, hW, hsame.mono (by decide) (by decide)⟩
      · exact retN X59 hx (t := .boolean) Bd.returns (by simp) (hb hby at_169) hr
      · show Q_law Z q1 q2 q3 p4 w_DE kW_DE h0 n0 _ T59.heap _
        rw [e59]
        exact ⟨rfl, N59, trivial⟩
    · replace k := Fw.ifNo k X21 hx (hb hby at_60) ((if0 _ _).trans (feq hc60_44).1) (pc' := 63) rfl
      replace k := Fw.iconst k X21 hx (hb hby at_63) (z := (1 : Int32)) (by decide) (pc' := 64) rfl
      replace k := Fw.goto k X21 hx (hb hby at_64) (by decide) (pc' := 68) rfl
      replace k := Fw.istore k X21 hx (hb hby at_68)  (Ls' := #[.val (.long q1), .second, .val (.long q2), .second, .val (.long q3), .second, .val (.int p4), .val (.ref b1), .val (.ref b5), .val (.int 1), .val (.int 1), .unset, .unset, .unset, .unset]) rfl (pc' := 70) rfl
      replace k := Fw.iload k X21 hx (hb hby at_70) rfl (pc' := 72) rfl
      replace k := Fw.ifNo k X21 hx (hb hby at_72) ((if0 _ _).trans (feq (show ¬ ((1 : Int32) = (0 : Int32)) from by decide)).1) (pc' := 75) rfl
      replace k := Fw.iload k X21 hx (hb hby at_75) rfl (pc' := 77) rfl
      replace k := Fw.ifNo k X21 hx (hb hby at_77) ((if0 _ _).trans (feq (show ¬ ((1 : Int32) = (0 : Int32)) from by decide)).1) (pc' := 80) rfl
      replace k := Fw.aload k X21 hx (hb hby at_80) rfl rfl (pc' := 82) rfl
      replace k := Fw.iconst k X21 hx (hb hby at_82) (z := (1 : Int32)) (by decide) (pc' := 83) rfl
      replace k := Fw.lload k X21 hx (hb hby at_83) rfl (pc' := 85) rfl
      have fc61 := (f9_17.keep K21 (ninS (Nat.ne_of_lt (Nat.lt_of_lt_of_le fc12.lt f9_2)) (ninS (Ne.symm f2_12) (ninS (Nat.ne_of_lt (Nat.lt_of_lt_of_le fc12.lt f9_0)) (ninS (Nat.ne_of_lt (Nat.lt_of_lt_of_le fc12.lt f9_1)) (ninS (Ne.symm (Nat.ne_of_lt (Nat.lt_of_lt_of_le O1.lt f2_1))) (ninS (Nat.ne_of_lt (Nat.lt_of_lt_of_le fc12.lt f9_4)) nin0)))))))
      have fc62 := (f9_20.keep K21 (ninS (Nat.ne_of_lt (Nat.lt_of_lt_of_le fc13.lt f9_2)) (ninS (Ne.symm f2_13) (ninS (Nat.ne_of_lt (Nat.lt_of_lt_of_le fc13.lt f9_0)) (ninS (Nat.ne_of_lt (Nat.lt_of_lt_of_le fc13.lt f9_1)) (ninS (Ne.symm (Nat.ne_of_lt (Nat.lt_of_lt_of_le O1.lt f2_2))) (ninS (Nat.ne_of_lt (Nat.lt_of_lt_of_le fc13.lt f9_4)) nin0)))))))
      have fc63 := (fc23.keep K21 (allS (Nat.le_trans (old_le O0) gz_b20_9) (allS (Nat.le_trans (old_le O0) gz_b13_2) (allS (Nat.le_trans (old_le O0) gz_b14_9) (allS (Nat.le_trans (old_le O0) gz_b2_1_1_1_68_9) (allS (Nat.le_trans (old_le O0) gz_b1) (allS (Nat.le_trans (old_le O0) gz_b9_9) all0)))))))
      obtain ⟨cq60, kq60, q60a, q60b, q60c⟩ := isOf hZ rfl f21_4.exa
      obtain ⟨_, _, ⟨T60, L60, kz60, nz60⟩, -, X60, ⟨Lc60, hQ60, l60, y60, z60⟩, st60⟩ := X21.virtualBack hx (y := (⟨"com/example/kleinmaschine/kleinmaschine/Statements", "setOperand", "(IJ)V"⟩ : MethodName)) (z := (⟨"com/example/kleinmaschine/kleinmaschine/Statements", "setOperand", "(IJ)V"⟩ : MethodName)) hown (mvT hZ (w_215 hw)) (mvT hZ (w_216 hw)) (notFace_of_selects (args := #[]) (mvT hZ (w_218 hw))) (mvT hZ (w_218 hw)) (mvT hZ (w_217 hw)) (by decide) (backOf (W := 0) (rm_Statements_setOperand_2 l Z a0 hw [] b1 q3 b2_2 b5_2 b9_2 b13_2 b20_2 b24_2 b28_2 kA5_2 b14_9 kA14_9 (((q1.toUInt64 >>> ((32 : Int32) &&& 0x3f).toInt64.toUInt64).toInt64).toInt32) (((q2.toUInt64 >>> ((32 : Int32) &&& 0x3f).toInt64.toUInt64).toInt64).toInt32) kA9_2 b20_9 kA20_9 (q1.toInt32) (q2.toInt32) T21.heap n0 fc63 f21_4 f2_39 fc61 f21_2 (Nat.le_trans (old_le O0) gz_b14_9) (Nat.ne_of_lt (Nat.lt_of_lt_of_le fc10.lt f9_0)) f2_41 fc62 (Nat.ne_of_lt (Nat.lt_of_lt_of_le fc13.lt f9_0)) f21_0 f9_6 (Nat.le_trans (old_le O0) gz_b20_9) S_PB) hZ (w_219 hw) (w_2 hw) (by decide) (by decide)) q60a q60c (g := (mkF m 85 #[.val (.long q1), .second, .val (.long q2), .second, .val (.long q3), .second, .val (.int p4), .val (.ref b1), .val (.ref b5), .val (.int 1), .val (.int 1), .unset, .unset, .unset, .unset] [(.long q3), (.int 1), (.ref b1)])) rfl (by rw [hml]; rfl) (Steps.refl _) (argsL := [(.int 1), (.long q3)]) (rest := []) (lenOf pd_IJ_r_V rfl) rfl (by show 2 * 0 + _ ≤ _; exact Nat.le_of_eq rfl) (hb hby at_85) (fun _ _ => ⟨rfl, rfl, (by decide : 15 + 0 ≤ _), (by decide : 114816 + 0 ≤ _)⟩)
      dsimp only [Pt.U, Pt.locs, Pt.cells, Pt.slots] at X60 l60 y60 z60 st60 hQ60
      subst l60 y60 z60
      obtain ⟨hv60, N60q, K60, f60_0, f60_1⟩ := hQ60
      subst hv60
      have N60 := Fr.app N21 N60q
      replace k : Goes p e below s₁ G0 T60 (mkF m 88 #[.val (.long q1), .second, .val (.long q2), .second, .val (.long q3), .second, .val (.int p4), .val (.ref b1), .val (.ref b5), .val (.int 1), .val (.int 1), .unset, .unset, .unset, .unset] []) := fun t q => k t (st60.trans q)
      replace k := Fw.goto k X60 hx (hb hby at_88) (by decide) (pc' := 99) rfl
      replace k := Fw.aload k X60 hx (hb hby at_99) rfl rfl (pc' := 101) rfl
      have fc65 := (f21_4.keep K60 (ninS (Nat.ne_of_lt (Nat.lt_of_lt_of_le fc10.lt f9_2)) (ninS (Nat.ne_of_lt (Nat.lt_of_lt_of_le fc10.lt f9_0)) nin0)))
      have fc66 := ((f9_23.keep K21 (ninS (Nat.ne_of_lt (Nat.lt_of_lt_of_le fc11.lt f9_2)) (ninS (Ne.symm f2_11) (ninS (Nat.ne_of_lt (Nat.lt_of_lt_of_le fc11.lt f9_0)) (ninS (Nat.ne_of_lt (Nat.lt_of_lt_of_le fc11.lt f9_1)) (ninS (Ne.symm (Nat.ne_of_lt (Nat.lt_of_lt_of_le O1.lt f2_0))) (ninS (Nat.ne_of_lt (Nat.lt_of_lt_of_le fc11.lt f9_4)) nin0))))))).keep K60 (ninS (Nat.ne_of_lt (Nat.lt_of_lt_of_le fc11.lt f9_2)) (ninS (Nat.ne_of_lt (Nat.lt_of_lt_of_le fc11.lt f9_0)) nin0)))
      have fc67 := (f21_5.keep K60 (ninS f9_13 (ninS f9_11 nin0)))
      have fc68 := (fc61.keep K60 (ninS (Nat.ne_of_lt (Nat.lt_of_lt_of_le fc12.lt f9_2)) (ninS (Nat.ne_of_lt (Nat.lt_of_lt_of_le fc12.lt f9_0)) nin0)))
      have fc69 := (fc62.keep K60 (ninS (Nat.ne_of_lt (Nat.lt_of_lt_of_le fc13.lt f9_2)) (ninS (Nat.ne_of_lt (Nat.lt_of_lt_of_le fc13.lt f9_0)) nin0)))
      have fc70 := (fc63.keep K60 (allS (Nat.le_trans (old_le O0) gz_b20_9) (allS (Nat.le_trans (old_le O0) gz_b14_9) all0)))
      obtain ⟨cq64, kq64, q64a, q64b, q64c⟩ := isOf hZ rfl fc65.exa
      obtain ⟨_, _, ⟨T64, L64, kz64, nz64⟩, -, X64, ⟨Lc64, hQ64, l64, y64, z64⟩, st64⟩ := X60.virtualBack hx (y := (⟨"com/example/kleinmaschine/kleinmaschine/Statements", "finish", "()V"⟩ : MethodName)) (z := (⟨"com/example/kleinmaschine/kleinmaschine/Statements", "finish", "()V"⟩ : MethodName)) hown (mvT hZ (w_189 hw)) (mvT hZ (w_190 hw)) (notFace_of_selects (args := #[]) (mvT hZ (w_192 hw))) (mvT hZ (w_192 hw)) (mvT hZ (w_191 hw)) (by decide) (backOf (W := 0) (rm_Statements_finish_1 l Z a0 hw [] b1 b2_2 b5_2 b9_2 b13_2 b20_2 b24_2 b28_2 kA2_2 b9_9 kA9_9 kA5_2 b14_9 kA14_9 (((q1.toUInt64 >>> ((32 : Int32) &&& 0x3f).toInt64.toUInt64).toInt64).toInt32) (((q3.toUInt64 >>> ((32 : Int32) &&& 0x3f).toInt64.toUInt64).toInt64).toInt32) kA9_2 b20_9 kA20_9 (q1.toInt32) (q3.toInt32) T60.heap n0 fc70 fc65 f2_37 fc66 fc67 (Nat.le_trans (old_le O0) gz_b2_2) (Nat.ne_of_lt (Nat.lt_of_lt_of_le O1.lt f2_0)) S_PB (Nat.le_trans (old_le O0) gz_b1) f2_39 fc68 f60_1 (Nat.le_trans (old_le O0) gz_b5_2) (Nat.ne_of_lt (Nat.lt_of_lt_of_le O1.lt f2_1)) f2_8 (Ne.symm (Nat.ne_of_lt (Nat.lt_of_lt_of_le fc11.lt f9_0))) (Ne.symm (Nat.ne_of_lt (Nat.lt_of_lt_of_le fc10.lt f9_0))) f2_41 fc69 f60_0 (Nat.le_trans (old_le O0) gz_b9_2) (Nat.ne_of_lt (Nat.lt_of_lt_of_le O1.lt f2_2)) f2_9 f2_10 (Ne.symm (Nat.ne_of_lt (Nat.lt_of_lt_of_le fc11.lt f9_2))) (Ne.symm (Nat.ne_of_lt (Nat.lt_of_lt_of_le fc10.lt f9_2))) (Ne.symm (Nat.ne_of_lt (Nat.lt_of_lt_of_le fc12.lt f9_2)))) hZ (w_193 hw) (w_2 hw) (by decide) (by decide)) q64a q64c (g := (mkF m 101 #[.val (.long q1), .second, .val (.long q2), .second, .val (.long q3), .second, .val (.int p4), .val (.ref b1), .val (.ref b5), .val (.int 1), .val (.int 1), .unset, .unset, .unset, .unset] [(.ref b1)])) rfl (by rw [hml]; rfl) (Steps.refl _) (argsL := []) (rest := []) (lenOf pd__r_V rfl) rfl (by show 2 * 0 + _ ≤ _; exact Nat.le_of_eq rfl) (hb hby at_101) (fun _ _ => ⟨rfl, rfl, (by decide : 15 + 3 ≤ _), (by decide : 114816 + 6 ≤ _)⟩)
      dsimp only [Pt.U, Pt.locs, Pt.cells, Pt.slots] at X64 l64 y64 z64 st64 hQ64
      subst l64 y64 z64
      obtain ⟨b2_3_64, b2_8_64, b2_17_64, kA2_3_64, kA2_8_64, kA2_17_64, hv64, N64q, K64, f64_0, f64_1, f64_2, f64_3, f64_4, f64_5, f64_6, f64_7, f64_8, f64_9, f64_10, f64_11, f64_12⟩ := hQ64
      subst hv64
      have N64 := Fr.app N60 N64q
      have fc71 := (Nat.le_trans (Nat.le_trans (Nat.le_trans fc20 K9.1) K21.1) K60.1)
      have gz_b2_3_64 : h0.size ≤ b2_3_64 := Nat.le_trans fc71 f64_0
      have gz_b2_8_64 : h0.size ≤ b2_8_64 := Nat.le_trans fc71 f64_1
      have gz_b2_17_64 : h0.size ≤ b2_17_64 := Nat.le_trans fc71 f64_2
      replace k : Goes p e below s₁ G0 T64 (mkF m 104 #[.val (.long q1), .second, .val (.long q2), .second, .val (.long q3), .second, .val (.int p4), .val (.ref b1), .val (.ref b5), .val (.int 1), .val (.int 1), .unset, .unset, .unset, .unset] []) := fun t q => k t (st64.trans q)
      replace k := Fw.iload k X64 hx (hb hby at_104) rfl (pc' := 106) rfl
      replace k := Fw.ifNo k X64 hx (hb hby at_106) ((if0 _ _).trans (feq (show ¬ ((1 : Int32) = (0 : Int32)) from by decide)).1) (pc' := 109) rfl
      replace k := Fw.iload k X64 hx (hb hby at_109) rfl (pc' := 111) rfl
      replace k := Fw.ifYes k X64 hx (hb hby at_111) ((if0 _ _).trans (feq (show ¬ ((1 : Int32) = (0 : Int32)) from by decide)).2) (by decide) (pc' := 119) rfl
      replace k := Fw.lloadN k X64 hx (hb hby at_119) rfl (pc' := 120) rfl
      replace k := Fw.lstore k X64 hx (hb hby at_120)  (Ls' := #[.val (.long q1), .second, .val (.long q2), .second, .val (.long q3), .second, .val (.int p4), .val (.ref b1), .val (.ref b5), .val (.int 1), .val (.int 1), .val (.long q1), .second, .unset, .unset]) rfl (pc' := 122) rfl
      replace k := Fw.iload k X64 hx (hb hby at_122) rfl (pc' := 124) rfl
      replace k := Fw.ifNo k X64 hx (hb hby at_124) ((if0 _ _).trans (feq (show ¬ ((1 : Int32) = (0 : Int32)) from by decide)).1) (pc' := 127) rfl
      replace k := Fw.iload k X64 hx (hb hby at_127) rfl (pc' := 129) rfl
      replace k := Fw.ifNo k X64 hx (hb hby at_129) ((if0 _ _).trans (feq (show ¬ ((1 : Int32) = (0 : Int32)) from by decide)).1) (pc' := 132) rfl
      replace k := Fw.lload k X64 hx (hb hby at_132) rfl (pc' := 134) rfl
      replace k := Fw.goto k X64 hx (hb hby at_134) (by decide) (pc' := 138) rfl
      replace k := Fw.lstore k X64 hx (hb hby at_138)  (Ls' := #[.val (.long q1), .second, .val (.long q2), .second, .val (.long q3), .second, .val (.int p4), .val (.ref b1), .val (.ref b5), .val (.int 1), .val (.int 1), .val (.long q1), .second, .val (.long q3), .second]) rfl (pc' := 140) rfl
      replace k := Fw.aload k X64 hx (hb hby at_140) rfl rfl (pc' := 142) rfl
      replace k := Fw.iconst k X64 hx (hb hby at_142) (z := (0 : Int32)) (by decide) (pc' := 143) rfl
      have fc73 := (fc70.keep K64 (allS (Nat.le_trans (old_le O0) gz_b5_2) (allS (Nat.le_trans (old_le O0) gz_b9_2) (allS (Nat.le_trans (old_le O0) gz_b2_2) (allS (Nat.le_trans (old_le O0) gz_b1) all0)))))
      obtain ⟨cq72, kq72, q72a, q72b, q72c⟩ := isOf hZ rfl f64_9.exa
      obtain ⟨_, _, ⟨T72, L72, kz72, nz72⟩, -, X72, ⟨Lc72, hQ72, l72, y72, z72⟩, st72⟩ := X64.virtualBack hx (y := (⟨"com/example/kleinmaschine/kleinmaschine/Statements", "operand", "(I)J"⟩ : MethodName)) (z := (⟨"com/example/kleinmaschine/kleinmaschine/Statements", "operand", "(I)J"⟩ : MethodName)) hown (mvT hZ (w_209 hw)) (mvT hZ (w_210 hw)) (notFace_of_selects (args := #[]) (mvT hZ (w_212 hw))) (mvT hZ (w_212 hw)) (mvT hZ (w_211 hw)) (by decide) (backOf (W := 0) (rm_Statements_operand_1 l Z a0 hw [] b1 b13_2 b20_2 b24_2 b28_2 b2_3_64 b2_8_64 b2_17_64 kA2_8_64 (((q1.toUInt64 >>> ((32 : Int32) &&& 0x3f).toInt64.toUInt64).toInt64).toInt32) (((q3.toUInt64 >>> ((32 : Int32) &&& 0x3f).toInt64.toUInt64).toInt64).toInt32) kA2_17_64 (q1.toInt32) (q3.toInt32) T64.heap n0 fc73 f64_9 f64_11 f64_12) hZ (w_213 hw) (w_2 hw) (by decide) (by decide)) q72a q72c (g := (mkF m 143 #[.val (.long q1), .second, .val (.long q2), .second, .val (.long q3), .second, .val (.int p4), .val (.ref b1), .val (.ref b5), .val (.int 1), .val (.int 1), .val (.long q1), .second, .val (.long q3), .second] [(.int 0), (.ref b1)])) rfl (by rw [hml]; rfl) (Steps.refl _) (argsL := [(.int 0)]) (rest := []) (lenOf pd_I_r_J rfl) rfl (by show 2 * 0 + _ ≤ _; exact Nat.le_of_eq rfl) (hb hby at_143) (fun _ _ => ⟨rfl, rfl, (by decide : 18 + 0 ≤ _), (by decide : 114822 + 0 ≤ _)⟩)
      dsimp only [Pt.U, Pt.locs, Pt.cells, Pt.slots] at X72 l72 y72 z72 st72 hQ72
      subst l72 y72 z72
      obtain ⟨hv72, N72q, e72⟩ := hQ72
      subst hv72
      have N72 := Fr.app N64 N72q
      replace k : Goes p e below s₁ G0 T72 (mkF m 146 #[.val (.long q1), .second, .val (.long q2), .second, .val (.long q3), .second, .val (.int p4), .val (.ref b1), .val (.ref b5), .val (.int 1), .val (.int 1), .val (.long q1), .second, .val (.long q3), .second] [(.long ((((((q1.toUInt64 >>> ((32 : Int32) &&& 0x3f).toInt64.toUInt64).toInt64).toInt32).toInt64) <<< ((32 : Int32) &&& 0x3f).toInt64) ||| (((q1.toInt32).toInt64) &&& (4294967295 : Int64))))]) := fun t q => k t (st72.trans q)
      replace k := Fw.lload k X72 hx (hb hby at_146) rfl (pc' := 148) rfl
      replace k := Fw.lcmp k X72 hx (hb hby at_148) (pc' := 149) rfl
      replace k := Fw.ifNo k X72 hx (hb hby at_149) ((if0 _ _).trans (teq ((lw_eq _ _).mpr (own_join _))).2) (pc' := 152) rfl
      replace k := Fw.aload k X72 hx (hb hby at_152) rfl rfl (pc' := 154) rfl
      replace k := Fw.iconst k X72 hx (hb hby at_154) (z := (1 : Int32)) (by decide) (pc' := 155) rfl
      obtain ⟨cq74, kq74, q74a, q74b, q74c⟩ := isOf hZ e72 f64_9.exa
      obtain ⟨_, _, ⟨T74, L74, kz74, nz74⟩, -, X74, ⟨Lc74, hQ74, l74, y74, z74⟩, st74⟩ := X72.virtualBack hx (y := (⟨"com/example/kleinmaschine/kleinmaschine/Statements", "operand", "(I)J"⟩ : MethodName)) (z := (⟨"com/example/kleinmaschine/kleinmaschine/Statements", "operand", "(I)J"⟩ : MethodName)) hown (mvT hZ (w_209 hw)) (mvT hZ (w_210 hw)) (notFace_of_selects (args := #[]) (mvT hZ (w_212 hw))) (mvT hZ (w_212 hw)) (mvT hZ (w_211 hw)) (by decide) (backOf (W := 0) (rm_Statements_operand_2 l Z a0 hw [] b1 b13_2 b20_2 b24_2 b28_2 b2_3_64 b2_8_64 b2_17_64 kA2_8_64 (((q1.toUInt64 >>> ((32 : Int32) &&& 0x3f).toInt64.toUInt64).toInt64).toInt32) (((q3.toUInt64 >>> ((32 : Int32) &&& 0x3f).toInt64.toUInt64).toInt64).toInt32) kA2_17_64 (q1.toInt32) (q3.toInt32) T64.heap n0 fc73 f64_9 f64_11 f64_12) hZ (w_213 hw) (w_2 hw) (by decide) (by decide)) q74a q74c (g := (mkF m 155 #[.val (.long q1), .second, .val (.long q2), .second, .val (.long q3), .second, .val (.int p4), .val (.ref b1), .val (.ref b5), .val (.int 1), .val (.int 1), .val (.long q1), .second, .val (.long q3), .second] [(.int 1), (.ref b1)])) rfl (by rw [hml]; rfl) (Steps.refl _) (argsL := [(.int 1)]) (rest := []) (lenOf pd_I_r_J rfl) rfl (by show 2 * 0 + _ ≤ _; exact Nat.le_of_eq rfl) (hb hby at_155) (fun _ _ => ⟨rfl, e72, (by decide : 18 + 0 ≤ _), (by decide : 114822 + 0 ≤ _)⟩)
      dsimp only [Pt.U, Pt.locs, Pt.cells, Pt.slots] at X74 l74 y74 z74 st74 hQ74
      subst l74 y74 z74
      obtain ⟨hv74, N74q, e74⟩ := hQ74
      subst hv74
      have N74 := Fr.app N72 N74q
      replace k : Goes p e below s₁ G0 T74 (mkF m 158 #[.val (.long q1), .second, .val (.long q2), .second, .val (.long q3), .second, .val (.int p4), .val (.ref b1), .val (.ref b5), .val (.int 1), .val (.int 1), .val (.long q1), .second, .val (.long q3), .second] [(.long ((((((q3.toUInt64 >>> ((32 : Int32) &&& 0x3f).toInt64.toUInt64).toInt64).toInt32).toInt64) <<< ((32 : Int32) &&& 0x3f).toInt64) ||| (((q3.toInt32).toInt64) &&& (4294967295 : Int64))))]) := fun t q => k t (st74.trans q)
      replace k := Fw.lload k X74 hx (hb hby at_158) rfl (pc' := 160) rfl
      replace k := Fw.lcmp k X74 hx (hb hby at_160) (pc' := 161) rfl
      replace k := Fw.ifNo k X74 hx (hb hby at_161) ((if0 _ _).trans (teq ((lw_eq _ _).mpr (own_join _))).2) (pc' := 164) rfl
      replace k := Fw.iconst k X74 hx (hb hby at_164) (z := (1 : Int32)) (by decide) (pc' := 165) rfl
      replace k := Fw.goto k X74 hx (hb hby at_165) (by decide) (pc' := 169) rfl
      obtain ⟨fs, hr, hrun, hended, hW, hsame⟩ := X74.leave (v := some (.int 1)) (fun h => by rw [Bd.returns] at h; cases h)
      refine ⟨_, _, pre0 _ (k _ ?_), hrun, hended, _, _, rfl, ?_, ⟨_, rfl⟩, hW, hsame.mono (by decide) (by decide)⟩
      · exact retN X74 hx (t := .boolean) Bd.returns (by simp) (hb hby at_169) hr
      · show Q_law Z q1 q2 q3 p4 w_DE kW_DE h0 n0 _ T74.heap _
        rw [e74]
        exact ⟨rfl, N74, trivial⟩
theorem w_98 {Z : State} {a0 : Array Value} (hw : ∀ d ∈ tables_1, d.before a0 Z = true) : (Jvm.Cond.laysStatic "com/example/kleinmaschine/kleinmaschine/Statements" "PAGE_BITS" "I").before a0 Z = true := hw _ (List.mem_of_getElem? (i := 98) rfl)
theorem w_106 {Z : State} {a0 : Array Value} (hw : ∀ d ∈ tables_1, d.before a0 Z = true) : (Jvm.Cond.laysStatic "com/example/kleinmaschine/kleinmaschine/Statements" "CHECKPOINT_BITS" "I").before a0 Z = true := hw _ (List.mem_of_getElem? (i := 106) rfl)
set_option maxRecDepth 65536 in
set_option maxHeartbeats 40000000 in
theorem comes_1 {Post : Tables → Env → Array Value → State → Outcome → State → Prop} (hpost : ∀ tb e args s v u, (limb_1_1.after args s (.returned v) u = true ∧ limb_1_2.after args s (.returned v) u = true ∧ True) → FrameEnd s (.returned v) u (Jvm.fieldLocs frame_1_writes args s ++ Jvm.arrayLocs frame_1_arrays args s ++ Jvm.staticLocs frame_1_statics s) 48 137792 → Post tb e args s (.returned v) u) :
    ArmFor flags0 classFile x code maxLocals ret World_1 tables_1 room_1 Calls_1 rest_1 Pre_1 Post := by
  intro l hfl _ _ p e ha hc hk s m args below hf hA hF happ hP
  obtain ⟨hcalls, hrest, hpre⟩ := hP
  obtain ⟨-, -, -, hnamed, -, -, -, hat⟩ := (Spec.applies_iff hf).mp happ
  obtain ⟨hg, hn⟩ := and_e (Cond.before_iff.mp (show (Jvm.Cond.and given_1 narrow_1).before args s = true from hpre))
  obtain ⟨g0, gr0⟩ := and_e hg
  obtain ⟨ga0, gr1⟩ := and_e gr0
  obtain ⟨ga1, gr2⟩ := and_e gr1
  obtain ⟨ga2, gr3⟩ := and_e gr2
  have ga3 := gr3
  obtain ⟨w0, w1, w2, w3, rfl⟩ : ∃ w0 w1 w2 w3 : Value, args = #[w0, w1, w2, w3] := by
    have hs : args.size = 4 := by simpa [Cond.value, given_1] using g0
    obtain ⟨L⟩ := args
    match L, hs with
    | [w0, w1, w2, w3], _ => exact ⟨w0, w1, w2, w3, rfl⟩
  have hw := fun d (hd : d ∈ tables_1) => atoms_spec (ws := Jvm.Cond.code x code maxLocals ret :: tables_1) hat d (List.mem_cons_of_mem _ hd)
  have hfit : Fit s := fun {y c} hc i hi => by
    obtain ⟨ha, rfl⟩ := Array.getElem?_eq_some_iff.mp hc
    have q := List.all_eq_true.mp ((Array.all_eq_true_iff_forall_mem.mp hF) _ (Array.getElem_mem ha)) i (List.mem_range.mpr hi)
    simpa [Array.getElem?_eq_getElem hi] using q
  obtain ⟨hsets, hown0⟩ := atoms_of _ (rest_1_c_eq ▸ (show rest_1_c.before _ s = true from hrest))
  have hr0 := Cond.before_iff.mp hown0
  obtain ⟨i0, ei0⟩ := isL_v ga0
  obtain rfl : w0 = (.long i0) := Option.some.inj ei0
  obtain ⟨i1, ei1⟩ := isL_v ga1
  obtain rfl : w1 = (.long i1) := Option.some.inj ei1
  obtain ⟨i2, ei2⟩ := isL_v ga2
  obtain rfl : w2 = (.long i2) := Option.some.inj ei2
  obtain ⟨i3, ei3⟩ := is_v ga3
  obtain rfl : w3 = (.int i3) := Option.some.inj ei3
  obtain ⟨hn1, hn2⟩ := and_e hn
  have S_PB := Sta.start (eqv_i (Term.int_eval 14) hn1) (Or.inr ⟨(w_2 hw), (w_98 hw)⟩)
  have S_CB := Sta.start (eqv_i (Term.int_eval 6) hn2) (Or.inr ⟨(w_2 hw), (w_106 hw)⟩)
  obtain ⟨w_DE, kW_DE, S_DE, A_DE⟩ := own_empty (Or.inr ⟨(w_31 hw), (hsets _ (List.mem_of_getElem? (i := 2) rfl))⟩) (hsets _ (List.mem_of_getElem? (i := 6) rfl)) (hsets _ (List.mem_of_getElem? (i := 7) rfl)) (hsets _ (List.mem_of_getElem? (i := 8) rfl))
  obtain ⟨n, o, h1, h2, h3, _, L, rfl, ⟨rfl, N, -⟩, hq⟩ := rm_law l s _ hw tables_1 i0 i1 i2 i3 w_DE kW_DE s.heap s.heap.size (Old.start s) S_PB S_CB S_DE A_DE p e ha hc hk s m _ below hf ((Spec.applies_iff_loose hf).mp happ).1 ⟨rfl, State.Warmed39.refl s, rfl⟩ trivial
  refine ⟨n, _, h1, h2, h3, hpost _ _ _ _ _ _ ⟨Cond.after_iff.mpr rfl, Cond.after_iff.mpr (eq_i res_at (Term.int_eval (1)) rfl), trivial⟩ ⟨hq.1, hq.2.1, (hq.2.2.sift fun y hy => Or.inr (N y hy)).mono (by decide) (by decide)⟩⟩
theorem main_1_1 : Claimed_1_1 := comes_1 fun _ _ _ _ _ _ h hF => ⟨h.1, hF⟩
theorem main_1_2 : Claimed_1_2 := comes_1 fun _ _ _ _ _ _ h hF => ⟨h.2.1, hF⟩
end Jvm.Pilot.@@N@@
namespace Jvm.Pilot.@@N@@
open Jvm Jvm.ClassFile Sem Op Lib Jvm.Free Jvm.Stand Jvm.Pilot.@@N@@.Jvm.D
/-! MADE BY PROGRAM (witnessworld.py) out of the Statement's table words and the real class files: 33 classes; the members and pool entries that the words name. The judged class is class 1, her method 1. -/
namespace start1
open Jvm.ClassFile
def u (s : String) : CpInfo := .utf8 (stringToUtf16 s)
/-- a pool by its gaps: so many unusable entries, then the entry; so many at the end -/
def gap : Nat → List CpInfo → List CpInfo
  | 0, r => r
  | n + 1, r => .unusable :: gap n r
def poolList (es : List (Nat × CpInfo)) (last : Nat) : List CpInfo := es.foldr (fun e r => gap e.1 (e.2 :: r)) (gap last [])
def pool (es : List (Nat × CpInfo)) (last : Nat) : Array CpInfo := ⟨poolList es last⟩
def fileOf (pool : Array CpInfo) (this : Nat) (attrs : Array Attribute := #[]) (ms : Array MethodInfo := #[]) (fl : Nat := 33) (sup : Nat := 0) (ifs : Array Nat := #[]) (fds : Array FieldInfo := #[]) : ClassFile where
  minorVersion := 0
  majorVersion := 65
  constantPool := pool
  accessFlags := fl
  thisClass := this
  superClass := sup
  interfaces := ifs
  fields := fds
  methods := ms
  attributes := attrs
def plain (name : String) (sup : Option ClassId) : Class where
  name := name
  kind := .ordinary
  loader := none
  accessFlags := 33
  super := sup
  interfaces := #[]
  cf := none
  fields := #[]
  methods := #[]
  instanceTypes := #[]
  staticTypes := #[]
  resolved := #[]
  callSites := []
  init := .initialized
  statics := none
  mirror := none

def pool0 : Array CpInfo := pool [(5, u "<init>"), (0, u "()V"), (1, .class_ 10), (1, u "java/lang/Object")] 113

def k0c0 : Code := { maxStack := 0, maxLocals := 1, code := object_method_1_code, exceptionTable := #[], attributes := #[] }
def k0m0 : Method := { name := "<init>", desc := "()V", sig := { parameters := [], returnType := none }, accessFlags := 1, code := some k0c0 }
/-- java/lang/Object -/
def k0 : Class := { plain "java/lang/Object" none with
  accessFlags := 33
  interfaces := #[]
  cf := some (fileOf pool0 8 #[] #[{ accessFlags := 1, nameIndex := 5, descriptorIndex := 6, attributes := #[] }] 33 0 #[] #[])
  fields := #[]
  methods := #[k0m0]
  instanceTypes := #[]
  staticTypes := #[]
  resolved := Array.replicate 124 none
  statics := none }

def pool1 : Array CpInfo := pool [(2, .class_ 4), (0, .nameAndType 5 6), (0, u "java/lang/Object"), (0, u "<init>"), (0, u "()V"), (0, .class_ 8), (0, u "com/example/kleinmaschine/kleinmaschine/Statements"), (0, .methodref 7 3), (0, .class_ 11), (0, u "com/example/kleinmaschine/kleinmaschine/Position"), (0, .methodref 10 13), (0, .nameAndType 5 14), (0, u "(JJ)V"), (0, .methodref 7 16), (0, .nameAndType 17 18), (0, u "add"), (0, u "(IJLcom/example/kleinmaschine/kleinmaschine/Position;J)I"), (0, .methodref 7 20), (0, .nameAndType 21 22), (0, u "setOperand"), (0, u "(IJ)V"), (0, .methodref 7 24), (0, .nameAndType 25 6), (0, u "finish"), (0, .methodref 7 27), (0, .nameAndType 28 29), (0, u "operand"), (0, u "(I)J"), (0, .class_ 31), (0, u "com/example/kleinmaschine/kleinmaschine/StatementsOperandPinLaw"), (2, u "law"), (0, u "(JJJI)Z")] 3

def k1m0 : Method := { name := "<init>", desc := "()V", sig := { parameters := [], returnType := none }, accessFlags := 1, code := none }
def k1c1 : Code := { maxStack := 7, maxLocals := 15, code := code, exceptionTable := #[], attributes := #[] }
def k1m1 : Method := { name := "law", desc := "(JJJI)Z", sig := { parameters := [.long, .long, .long, .int], returnType := some .boolean }, accessFlags := 9, code := some k1c1 }
/-- com/example/kleinmaschine/kleinmaschine/StatementsOperandPinLaw -/
def k1 : Class := { plain "com/example/kleinmaschine/kleinmaschine/StatementsOperandPinLaw" (some 0) with
  accessFlags := 49
  interfaces := #[]
  cf := some (fileOf pool1 30 #[] #[{ accessFlags := 1, nameIndex := 5, descriptorIndex := 6, attributes := #[] }, { accessFlags := 9, nameIndex := 34, descriptorIndex := 35, attributes := #[] }] 49 2 #[] #[])
  fields := #[]
  methods := #[k1m0, k1m1]
  instanceTypes := #[]
  staticTypes := #[]
  resolved := Array.replicate 39 none
  statics := none }

def pool2 : Array CpInfo := pool [(1, .class_ 2), (0, u "com/example/kleinmaschine/kleinmaschine/Statements"), (0, .methodref 4 5), (0, .class_ 6), (0, .nameAndType 7 8), (0, u "java/lang/Object"), (0, u "<init>"), (0, u "()V"), (0, .class_ 10), (0, u "[I"), (0, .fieldref 1 12), (0, .nameAndType 13 14), (0, u "headPages"), (0, u "[[I"), (0, .fieldref 1 16), (0, .nameAndType 17 14), (0, u "upperPages"), (0, .fieldref 1 19), (0, .nameAndType 20 14), (0, u "lowerPages"), (0, .class_ 22), (0, u "com/example/kleinmaschine/kleinmaschine/PagedBytes"), (0, .methodref 21 5), (0, .fieldref 1 25), (0, .nameAndType 26 27), (0, u "records"), (0, u "Lcom/example/kleinmaschine/kleinmaschine/PagedBytes;"), (0, .fieldref 1 29), (0, .nameAndType 30 31), (0, u "checkpointPlaces"), (0, u "[J"), (0, .fieldref 1 33), (0, .nameAndType 34 31), (0, u "checkpointLines"), (0, .fieldref 1 36), (0, .nameAndType 37 31), (0, u "checkpointColumns"), (0, .integer 8388608), (10, .methodref 1 50), (0, .nameAndType 51 8), (0, u "checkAdding"), (0, .fieldref 1 53), (0, .nameAndType 54 55), (0, u "size"), (0, u "I"), (7, .fieldref 1 64), (0, .nameAndType 65 55), (0, u "PAGE_BITS"), (7, .methodref 1 74), (0, .nameAndType 75 76), (0, u "setOperandAt"), (0, u "(IJ)V"), (0, .fieldref 1 78), (0, .nameAndType 79 55), (0, u "CHECKPOINT_BITS"), (3, .methodref 21 84), (0, .nameAndType 54 85), (0, u "()J"), (0, .fieldref 1 87), (0, .nameAndType 88 89), (0, u "lastLine"), (0, u "J"), (0, .fieldref 1 91), (0, .nameAndType 92 89), (0, u "lastColumn"), (0, .methodref 94 95), (0, .class_ 96), (0, .nameAndType 97 85), (0, u "com/example/kleinmaschine/kleinmaschine/Position"), (0, u "line"), (0, .methodref 21 99), (0, .nameAndType 100 101), (0, u "writeNumber"), (0, u "(J)V"), (0, .methodref 94 103), (0, .nameAndType 104 85), (0, u "column"), (0, .methodref 106 107), (0, .class_ 108), (0, .nameAndType 109 110), (0, u "java/util/Objects"), (0, u "checkIndex"), (0, u "(II)I"), (2, .methodref 1 114), (0, .nameAndType 115 116), (0, u "moveInto"), (0, u "([[I)[I"), (0, .fieldref 1 118), (0, .nameAndType 119 10), (0, u "heads"), (0, .fieldref 1 121), (0, .nameAndType 122 10), (0, u "uppers"), (0, .fieldref 1 124), (0, .nameAndType 125 10), (0, u "lowers"), (0, .methodref 127 128), (0, .class_ 129), (0, .nameAndType 130 110), (0, u "java/lang/Math"), (0, u "min"), (0, .methodref 132 133), (0, .class_ 134), (0, .nameAndType 135 136), (0, u "java/lang/System"), (0, u "arraycopy"), (0, u "(Ljava/lang/Object;ILjava/lang/Object;II)V"), (0, .long 4294967295), (6, .class_ 146), (1, u "com/example/kleinmaschine/kleinmaschine/Statements$Record"), (26, u "MOST"), (1, u "MOST_LABELS"), (1, u "MOST_NAME_BYTES"), (0, u "PAGE_STATEMENTS"), (1, u "WITHIN_PAGE"), (1, u "CHECKPOINT_EVERY"), (1, u "FIRST_CAPACITY"), (9, u "add"), (0, u "(IJLcom/example/kleinmaschine/kleinmaschine/Position;J)I"), (0, u "setOperand"), (0, u "finish"), (2, u "operand"), (0, u "(I)J")] 24

def k2c0 : Code := { maxStack := 3, maxLocals := 1, code := prog_52_method_1_code, exceptionTable := #[], attributes := #[] }
def k2m0 : Method := { name := "<init>", desc := "()V", sig := { parameters := [], returnType := none }, accessFlags := 0, code := some k2c0 }
def k2c1 : Code := { maxStack := 5, maxLocals := 10, code := prog_52_method_3_code, exceptionTable := #[], attributes := #[] }
def k2m1 : Method := { name := "add", desc := "(IJLcom/example/kleinmaschine/kleinmaschine/Position;J)I", sig := { parameters := [.int, .long, (.object "com/example/kleinmaschine/kleinmaschine/Position"), .long], returnType := some .int }, accessFlags := 0, code := some k2c1 }
def k2c2 : Code := { maxStack := 4, maxLocals := 4, code := prog_52_method_4_code, exceptionTable := #[], attributes := #[] }
def k2m2 : Method := { name := "setOperand", desc := "(IJ)V", sig := { parameters := [.int, .long], returnType := none }, accessFlags := 0, code := some k2c2 }
def k2c3 : Code := { maxStack := 5, maxLocals := 4, code := prog_52_method_5_code, exceptionTable := #[], attributes := #[] }
def k2m3 : Method := { name := "setOperandAt", desc := "(IJ)V", sig := { parameters := [.int, .long], returnType := none }, accessFlags := 2, code := some k2c3 }
def k2c4 : Code := { maxStack := 3, maxLocals := 1, code := prog_52_method_6_code, exceptionTable := #[], attributes := #[] }
def k2m4 : Method := { name := "finish", desc := "()V", sig := { parameters := [], returnType := none }, accessFlags := 0, code := some k2c4 }
def k2c5 : Code := { maxStack := 7, maxLocals := 5, code := prog_52_method_7_code, exceptionTable := #[], attributes := #[] }
def k2m5 : Method := { name := "moveInto", desc := "([[I)[I", sig := { parameters := [(.array (.array .int))], returnType := some (.array .int) }, accessFlags := 2, code := some k2c5 }
def k2c6 : Code := { maxStack := 6, maxLocals := 2, code := prog_52_method_10_code, exceptionTable := #[], attributes := #[] }
def k2m6 : Method := { name := "operand", desc := "(I)J", sig := { parameters := [.int], returnType := some .long }, accessFlags := 0, code := some k2c6 }
def k2c7 : Code := { maxStack := 3, maxLocals := 1, code := prog_52_method_15_code, exceptionTable := #[], attributes := #[] }
def k2m7 : Method := { name := "checkAdding", desc := "()V", sig := { parameters := [], returnType := none }, accessFlags := 2, code := some k2c7 }
/-- com/example/kleinmaschine/kleinmaschine/Statements -/
def k2 : Class := { plain "com/example/kleinmaschine/kleinmaschine/Statements" (some 0) with
  accessFlags := 48
  interfaces := #[]
  cf := some (fileOf pool2 1 #[.nestMembers #[144]] #[{ accessFlags := 0, nameIndex := 7, descriptorIndex := 8, attributes := #[] }, { accessFlags := 0, nameIndex := 194, descriptorIndex := 195, attributes := #[] }, { accessFlags := 0, nameIndex := 196, descriptorIndex := 76, attributes := #[] }, { accessFlags := 2, nameIndex := 75, descriptorIndex := 76, attributes := #[] }, { accessFlags := 0, nameIndex := 197, descriptorIndex := 8, attributes := #[] }, { accessFlags := 2, nameIndex := 115, descriptorIndex := 116, attributes := #[] }, { accessFlags := 0, nameIndex := 200, descriptorIndex := 201, attributes := #[] }, { accessFlags := 2, nameIndex := 51, descriptorIndex := 8, attributes := #[] }] 48 4 #[] #[{ accessFlags := 24, nameIndex := 173, descriptorIndex := 55, attributes := #[] }, { accessFlags := 24, nameIndex := 175, descriptorIndex := 55, attributes := #[] }, { accessFlags := 24, nameIndex := 177, descriptorIndex := 55, attributes := #[] }, { accessFlags := 26, nameIndex := 178, descriptorIndex := 55, attributes := #[] }, { accessFlags := 26, nameIndex := 65, descriptorIndex := 55, attributes := #[] }, { accessFlags := 26, nameIndex := 180, descriptorIndex := 55, attributes := #[] }, { accessFlags := 26, nameIndex := 182, descriptorIndex := 55, attributes := #[] }, { accessFlags := 26, nameIndex := 79, descriptorIndex := 55, attributes := #[] }, { accessFlags := 26, nameIndex := 184, descriptorIndex := 55, attributes := #[] }, { accessFlags := 2, nameIndex := 13, descriptorIndex := 14, attributes := #[] }, { accessFlags := 2, nameIndex := 17, descriptorIndex := 14, attributes := #[] }, { accessFlags := 2, nameIndex := 20, descriptorIndex := 14, attributes := #[] }, { accessFlags := 2, nameIndex := 119, descriptorIndex := 10, attributes := #[] }, { accessFlags := 2, nameIndex := 122, descriptorIndex := 10, attributes := #[] }, { accessFlags := 2, nameIndex := 125, descriptorIndex := 10, attributes := #[] }, { accessFlags := 2, nameIndex := 54, descriptorIndex := 55, attributes := #[] }, { accessFlags := 18, nameIndex := 26, descriptorIndex := 27, attributes := #[] }, { accessFlags := 2, nameIndex := 30, descriptorIndex := 31, attributes := #[] }, { accessFlags := 2, nameIndex := 34, descriptorIndex := 31, attributes := #[] }, { accessFlags := 2, nameIndex := 37, descriptorIndex := 31, attributes := #[] }, { accessFlags := 2, nameIndex := 88, descriptorIndex := 89, attributes := #[] }, { accessFlags := 2, nameIndex := 92, descriptorIndex := 89, attributes := #[] }])
  fields := #[{ name := "MOST", type := .int, accessFlags := 24, slot := 0, constantValue := 0 }, { name := "MOST_LABELS", type := .int, accessFlags := 24, slot := 1, constantValue := 0 }, { name := "MOST_NAME_BYTES", type := .int, accessFlags := 24, slot := 2, constantValue := 0 }, { name := "PAGE_STATEMENTS", type := .int, accessFlags := 26, slot := 3, constantValue := 0 }, { name := "PAGE_BITS", type := .int, accessFlags := 26, slot := 4, constantValue := 0 }, { name := "WITHIN_PAGE", type := .int, accessFlags := 26, slot := 5, constantValue := 0 }, { name := "CHECKPOINT_EVERY", type := .int, accessFlags := 26, slot := 6, constantValue := 0 }, { name := "CHECKPOINT_BITS", type := .int, accessFlags := 26, slot := 7, constantValue := 0 }, { name := "FIRST_CAPACITY", type := .int, accessFlags := 26, slot := 8, constantValue := 0 }, { name := "headPages", type := (.array (.array .int)), accessFlags := 2, slot := 0, constantValue := 0 }, { name := "upperPages", type := (.array (.array .int)), accessFlags := 2, slot := 1, constantValue := 0 }, { name := "lowerPages", type := (.array (.array .int)), accessFlags := 2, slot := 2, constantValue := 0 }, { name := "heads", type := (.array .int), accessFlags := 2, slot := 3, constantValue := 0 }, { name := "uppers", type := (.array .int), accessFlags := 2, slot := 4, constantValue := 0 }, { name := "lowers", type := (.array .int), accessFlags := 2, slot := 5, constantValue := 0 }, { name := "size", type := .int, accessFlags := 2, slot := 6, constantValue := 0 }, { name := "records", type := (.object "com/example/kleinmaschine/kleinmaschine/PagedBytes"), accessFlags := 18, slot := 7, constantValue := 0 }, { name := "checkpointPlaces", type := (.array .long), accessFlags := 2, slot := 8, constantValue := 0 }, { name := "checkpointLines", type := (.array .long), accessFlags := 2, slot := 9, constantValue := 0 }, { name := "checkpointColumns", type := (.array .long), accessFlags := 2, slot := 10, constantValue := 0 }, { name := "lastLine", type := .long, accessFlags := 2, slot := 11, constantValue := 0 }, { name := "lastColumn", type := .long, accessFlags := 2, slot := 12, constantValue := 0 }]
  methods := #[k2m0, k2m1, k2m2, k2m3, k2m4, k2m5, k2m6, k2m7]
  instanceTypes := #[(.array (.array .int)), (.array (.array .int)), (.array (.array .int)), (.array .int), (.array .int), (.array .int), .int, (.object "com/example/kleinmaschine/kleinmaschine/PagedBytes"), (.array .long), (.array .long), (.array .long), .long, .long]
  staticTypes := #[.int, .int, .int, .int, .int, .int, .int, .int, .int]
  resolved := Array.replicate 226 none
  statics := some 0 }

def pool3 : Array CpInfo := pool [(1, .class_ 2), (0, u "java/lang/AutoCloseable"), (0, .class_ 4), (0, u "java/lang/Object")] 7

/-- java/lang/AutoCloseable -/
def k3 : Class := { plain "java/lang/AutoCloseable" (some 0) with
  accessFlags := 1537
  interfaces := #[]
  cf := some (fileOf pool3 1 #[] #[] 1537 3 #[] #[])
  fields := #[]
  methods := #[]
  instanceTypes := #[]
  staticTypes := #[]
  resolved := Array.replicate 12 none
  statics := none }

def pool4 : Array CpInfo := pool [(1, .class_ 2), (0, u "java/io/Closeable"), (0, .class_ 4), (0, u "java/lang/Object"), (0, .class_ 6), (0, u "java/lang/AutoCloseable")] 7

/-- java/io/Closeable -/
def k4 : Class := { plain "java/io/Closeable" (some 0) with
  accessFlags := 1537
  interfaces := #[3]
  cf := some (fileOf pool4 1 #[] #[] 1537 3 #[5] #[])
  fields := #[]
  methods := #[]
  instanceTypes := #[]
  staticTypes := #[]
  resolved := Array.replicate 14 none
  statics := none }

def pool5 : Array CpInfo := pool [(1, .class_ 2), (0, u "java/io/Flushable"), (0, .class_ 4), (0, u "java/lang/Object")] 7

/-- java/io/Flushable -/
def k5 : Class := { plain "java/io/Flushable" (some 0) with
  accessFlags := 1537
  interfaces := #[]
  cf := some (fileOf pool5 1 #[] #[] 1537 3 #[] #[])
  fields := #[]
  methods := #[]
  instanceTypes := #[]
  staticTypes := #[]
  resolved := Array.replicate 12 none
  statics := none }

def pool6 : Array CpInfo := pool [(1, .methodref 2 3), (0, .class_ 4), (0, .nameAndType 5 6), (0, u "java/lang/Object"), (0, u "<init>"), (0, u "()V"), (0, .class_ 8), (0, u "java/io/OutputStream$1"), (2, .class_ 13), (1, u "java/io/OutputStream"), (11, .class_ 26), (0, u "java/io/Closeable"), (0, .class_ 28), (0, u "java/io/Flushable")] 24

def k6c0 : Code := { maxStack := 1, maxLocals := 1, code := jdk_2038_method_1_code, exceptionTable := #[], attributes := #[] }
def k6m0 : Method := { name := "<init>", desc := "()V", sig := { parameters := [], returnType := none }, accessFlags := 1, code := some k6c0 }
/-- java/io/OutputStream -/
def k6 : Class := { plain "java/io/OutputStream" (some 0) with
  accessFlags := 1057
  interfaces := #[4, 5]
  cf := some (fileOf pool6 11 #[.nestMembers #[7]] #[{ accessFlags := 1, nameIndex := 5, descriptorIndex := 6, attributes := #[] }] 1057 2 #[25, 27] #[])
  fields := #[]
  methods := #[k6m0]
  instanceTypes := #[]
  staticTypes := #[]
  resolved := Array.replicate 53 none
  statics := none }

def pool7 : Array CpInfo := pool [(9, u "accept"), (2, .class_ 14), (1, u "java/util/function/IntConsumer"), (0, u "(I)V"), (0, .class_ 17), (0, u "java/lang/Object")] 34

def k7m0 : Method := { name := "accept", desc := "(I)V", sig := { parameters := [.int], returnType := none }, accessFlags := 1025, code := none }
/-- java/util/function/IntConsumer -/
def k7 : Class := { plain "java/util/function/IntConsumer" (some 0) with
  accessFlags := 1537
  interfaces := #[]
  cf := some (fileOf pool7 12 #[] #[{ accessFlags := 1025, nameIndex := 9, descriptorIndex := 15, attributes := #[] }] 1537 16 #[] #[])
  fields := #[]
  methods := #[k7m0]
  instanceTypes := #[]
  staticTypes := #[]
  resolved := Array.replicate 52 none
  statics := none }

def pool8 : Array CpInfo := pool [(1, .class_ 2), (0, u "com/example/kleinmaschine/kleinmaschine/PagedBytes"), (0, .methodref 4 5), (0, .class_ 6), (0, .nameAndType 7 8), (0, u "java/io/OutputStream"), (0, u "<init>"), (0, u "()V"), (0, .class_ 10), (0, u "java/util/ArrayList"), (0, .methodref 9 5), (0, .fieldref 1 13), (0, .nameAndType 14 15), (0, u "pages"), (0, u "Ljava/util/List;"), (0, .integer 65536), (0, .fieldref 1 18), (0, .nameAndType 19 20), (0, u "lastUsed"), (0, u "I"), (0, .long 18446744073709551488), (1, .long 127), (1, .interfaceMethodref 26 27), (0, .class_ 28), (0, .nameAndType 29 30), (0, u "java/util/function/IntConsumer"), (0, u "accept"), (0, u "(I)V"), (20, .methodref 1 52), (0, .nameAndType 53 30), (0, u "write"), (0, .fieldref 1 55), (0, .nameAndType 56 57), (0, u "last"), (0, u "[B"), (0, .interfaceMethodref 59 60), (0, .class_ 61), (0, .nameAndType 62 63), (0, u "java/util/List"), (0, u "add"), (0, u "(Ljava/lang/Object;)Z"), (0, .fieldref 1 65), (0, .nameAndType 66 67), (0, u "size"), (0, u "J"), (12, .methodref 1 81), (0, .nameAndType 82 83), (0, u "writeNumber"), (0, u "(JLjava/util/function/IntConsumer;)V"), (0, .class_ 85), (0, u "com/example/kleinmaschine/kleinmaschine/PagedBytes$Reader"), (11, u "PAGE_BITS"), (0, u "PAGE_BYTES"), (1, u "BITS_PER_BYTE"), (1, u "MORE"), (1, u "LOW_BITS"), (12, u "(J)V"), (0, u "()J")] 8

def k8c0 : Code := { maxStack := 3, maxLocals := 1, code := prog_33_method_1_code, exceptionTable := #[], attributes := #[] }
def k8m0 : Method := { name := "<init>", desc := "()V", sig := { parameters := [], returnType := none }, accessFlags := 0, code := some k8c0 }
def k8c1 : Code := { maxStack := 5, maxLocals := 5, code := prog_33_method_2_code, exceptionTable := #[], attributes := #[] }
def k8m1 : Method := { name := "writeNumber", desc := "(JLjava/util/function/IntConsumer;)V", sig := { parameters := [.long, (.object "java/util/function/IntConsumer")], returnType := none }, accessFlags := 8, code := some k8c1 }
def k8c2 : Code := { maxStack := 2, maxLocals := 2, code := prog_33_method_6_code, exceptionTable := #[], attributes := #[] }
def k8m2 : Method := { name := "accept", desc := "(I)V", sig := { parameters := [.int], returnType := none }, accessFlags := 1, code := some k8c2 }
def k8c3 : Code := { maxStack := 5, maxLocals := 2, code := prog_33_method_7_code, exceptionTable := #[], attributes := #[] }
def k8m3 : Method := { name := "write", desc := "(I)V", sig := { parameters := [.int], returnType := none }, accessFlags := 1, code := some k8c3 }
def k8c4 : Code := { maxStack := 3, maxLocals := 3, code := prog_33_method_9_code, exceptionTable := #[], attributes := #[] }
def k8m4 : Method := { name := "writeNumber", desc := "(J)V", sig := { parameters := [.long], returnType := none }, accessFlags := 0, code := some k8c4 }
def k8c5 : Code := { maxStack := 2, maxLocals := 1, code := prog_33_method_10_code, exceptionTable := #[], attributes := #[] }
def k8m5 : Method := { name := "size", desc := "()J", sig := { parameters := [], returnType := some .long }, accessFlags := 0, code := some k8c5 }
/-- com/example/kleinmaschine/kleinmaschine/PagedBytes -/
def k8 : Class := { plain "com/example/kleinmaschine/kleinmaschine/PagedBytes" (some 6) with
  accessFlags := 48
  interfaces := #[7]
  cf := some (fileOf pool8 1 #[.nestMembers #[84]] #[{ accessFlags := 0, nameIndex := 7, descriptorIndex := 8, attributes := #[] }, { accessFlags := 8, nameIndex := 82, descriptorIndex := 83, attributes := #[] }, { accessFlags := 1, nameIndex := 29, descriptorIndex := 30, attributes := #[] }, { accessFlags := 1, nameIndex := 53, descriptorIndex := 30, attributes := #[] }, { accessFlags := 0, nameIndex := 82, descriptorIndex := 117, attributes := #[] }, { accessFlags := 0, nameIndex := 66, descriptorIndex := 118, attributes := #[] }] 48 4 #[26] #[{ accessFlags := 24, nameIndex := 98, descriptorIndex := 20, attributes := #[] }, { accessFlags := 26, nameIndex := 97, descriptorIndex := 20, attributes := #[] }, { accessFlags := 26, nameIndex := 100, descriptorIndex := 20, attributes := #[] }, { accessFlags := 26, nameIndex := 102, descriptorIndex := 20, attributes := #[] }, { accessFlags := 26, nameIndex := 104, descriptorIndex := 20, attributes := #[] }, { accessFlags := 18, nameIndex := 14, descriptorIndex := 15, attributes := #[] }, { accessFlags := 2, nameIndex := 56, descriptorIndex := 57, attributes := #[] }, { accessFlags := 2, nameIndex := 19, descriptorIndex := 20, attributes := #[] }, { accessFlags := 2, nameIndex := 66, descriptorIndex := 67, attributes := #[] }])
  fields := #[{ name := "PAGE_BYTES", type := .int, accessFlags := 24, slot := 0, constantValue := 0 }, { name := "PAGE_BITS", type := .int, accessFlags := 26, slot := 1, constantValue := 0 }, { name := "BITS_PER_BYTE", type := .int, accessFlags := 26, slot := 2, constantValue := 0 }, { name := "MORE", type := .int, accessFlags := 26, slot := 3, constantValue := 0 }, { name := "LOW_BITS", type := .int, accessFlags := 26, slot := 4, constantValue := 0 }, { name := "pages", type := (.object "java/util/List"), accessFlags := 18, slot := 0, constantValue := 0 }, { name := "last", type := (.array .byte), accessFlags := 2, slot := 1, constantValue := 0 }, { name := "lastUsed", type := .int, accessFlags := 2, slot := 2, constantValue := 0 }, { name := "size", type := .long, accessFlags := 2, slot := 3, constantValue := 0 }]
  methods := #[k8m0, k8m1, k8m2, k8m3, k8m4, k8m5]
  instanceTypes := #[(.object "java/util/List"), (.array .byte), .int, .long]
  staticTypes := #[.int, .int, .int, .int, .int]
  resolved := Array.replicate 127 none
  statics := none }

def pool9 : Array CpInfo := pool [(8, .class_ 10), (1, u "java/lang/Iterable"), (24, .class_ 36), (0, u "java/lang/Object")] 25

/-- java/lang/Iterable -/
def k9 : Class := { plain "java/lang/Iterable" (some 0) with
  accessFlags := 1537
  interfaces := #[]
  cf := some (fileOf pool9 8 #[] #[] 1537 35 #[] #[])
  fields := #[]
  methods := #[]
  instanceTypes := #[]
  staticTypes := #[]
  resolved := Array.replicate 62 none
  statics := none }

def pool10 : Array CpInfo := pool [(10, .class_ 12), (1, u "java/util/Collection"), (47, .class_ 61), (0, u "java/lang/Object"), (0, .class_ 63), (0, u "java/lang/Iterable")] 51

/-- java/util/Collection -/
def k10 : Class := { plain "java/util/Collection" (some 0) with
  accessFlags := 1537
  interfaces := #[9]
  cf := some (fileOf pool10 10 #[] #[] 1537 60 #[62] #[])
  fields := #[]
  methods := #[]
  instanceTypes := #[]
  staticTypes := #[]
  resolved := Array.replicate 115 none
  statics := none }

def pool11 : Array CpInfo := pool [(1, .methodref 2 3), (0, .class_ 4), (0, .nameAndType 5 6), (0, u "java/lang/Object"), (0, u "<init>"), (0, u "()V"), (1, .class_ 10), (1, u "java/util/AbstractCollection"), (66, .class_ 78), (0, u "java/util/Collection")] 81

def k11c0 : Code := { maxStack := 1, maxLocals := 1, code := jdk_22_method_1_code, exceptionTable := #[], attributes := #[] }
def k11m0 : Method := { name := "<init>", desc := "()V", sig := { parameters := [], returnType := none }, accessFlags := 4, code := some k11c0 }
/-- java/util/AbstractCollection -/
def k11 : Class := { plain "java/util/AbstractCollection" (some 0) with
  accessFlags := 1057
  interfaces := #[10]
  cf := some (fileOf pool11 8 #[] #[{ accessFlags := 4, nameIndex := 5, descriptorIndex := 6, attributes := #[] }] 1057 2 #[77] #[])
  fields := #[]
  methods := #[k11m0]
  instanceTypes := #[]
  staticTypes := #[]
  resolved := Array.replicate 160 none
  statics := none }

def pool12 : Array CpInfo := pool [(8, .class_ 10), (1, u "java/util/SequencedCollection"), (15, .class_ 27), (0, u "java/lang/Object"), (0, .class_ 29), (0, u "java/util/Collection")] 27

/-- java/util/SequencedCollection -/
def k12 : Class := { plain "java/util/SequencedCollection" (some 0) with
  accessFlags := 1537
  interfaces := #[10]
  cf := some (fileOf pool12 8 #[] #[] 1537 26 #[28] #[])
  fields := #[]
  methods := #[]
  instanceTypes := #[]
  staticTypes := #[]
  resolved := Array.replicate 57 none
  statics := none }

def pool13 : Array CpInfo := pool [(8, .class_ 10), (1, u "java/util/List"), (49, u "add"), (3, u "(Ljava/lang/Object;)Z"), (38, .class_ 104), (0, u "java/lang/Object"), (15, .class_ 121), (0, u "java/util/SequencedCollection")] 129

def k13m0 : Method := { name := "add", desc := "(Ljava/lang/Object;)Z", sig := { parameters := [(.object "java/lang/Object")], returnType := some .boolean }, accessFlags := 1025, code := none }
/-- java/util/List -/
def k13 : Class := { plain "java/util/List" (some 0) with
  accessFlags := 1537
  interfaces := #[12]
  cf := some (fileOf pool13 8 #[] #[{ accessFlags := 1025, nameIndex := 60, descriptorIndex := 64, attributes := #[] }] 1537 103 #[120] #[])
  fields := #[]
  methods := #[k13m0]
  instanceTypes := #[]
  staticTypes := #[]
  resolved := Array.replicate 251 none
  statics := none }

def pool14 : Array CpInfo := pool [(1, .methodref 2 3), (0, .class_ 4), (0, .nameAndType 5 6), (0, u "java/util/AbstractCollection"), (0, u "<init>"), (0, u "()V"), (0, .fieldref 8 9), (0, .class_ 10), (0, .nameAndType 11 12), (0, u "java/util/AbstractList"), (0, u "modCount"), (0, u "I"), (64, .class_ 78), (0, u "java/util/AbstractList$Itr"), (3, .class_ 83), (0, u "java/util/AbstractList$ListItr"), (9, .class_ 94), (0, u "java/util/AbstractList$RandomAccessSubList"), (3, .class_ 99), (0, u "java/util/AbstractList$SubList"), (33, .class_ 134), (0, u "java/util/List"), (73, .class_ 209), (0, u "java/util/AbstractList$SubList$1"), (0, .class_ 211), (0, u "java/util/AbstractList$RandomAccessSpliterator")] 6

def k14c0 : Code := { maxStack := 2, maxLocals := 1, code := jdk_39_method_1_code, exceptionTable := #[], attributes := #[] }
def k14m0 : Method := { name := "<init>", desc := "()V", sig := { parameters := [], returnType := none }, accessFlags := 4, code := some k14c0 }
/-- java/util/AbstractList -/
def k14 : Class := { plain "java/util/AbstractList" (some 11) with
  accessFlags := 1057
  interfaces := #[13]
  cf := some (fileOf pool14 8 #[.nestMembers #[93, 98, 208, 210, 82, 77]] #[{ accessFlags := 4, nameIndex := 5, descriptorIndex := 6, attributes := #[] }] 1057 2 #[133] #[{ accessFlags := 132, nameIndex := 11, descriptorIndex := 12, attributes := #[] }])
  fields := #[{ name := "modCount", type := .int, accessFlags := 132, slot := 0, constantValue := 0 }]
  methods := #[k14m0]
  instanceTypes := #[.int]
  staticTypes := #[]
  resolved := Array.replicate 218 none
  statics := none }

def pool15 : Array CpInfo := pool [(1, .class_ 2), (0, u "java/util/RandomAccess"), (0, .class_ 4), (0, u "java/lang/Object")] 2

/-- java/util/RandomAccess -/
def k15 : Class := { plain "java/util/RandomAccess" (some 0) with
  accessFlags := 1537
  interfaces := #[]
  cf := some (fileOf pool15 1 #[] #[] 1537 3 #[] #[])
  fields := #[]
  methods := #[]
  instanceTypes := #[]
  staticTypes := #[]
  resolved := Array.replicate 7 none
  statics := none }

def pool16 : Array CpInfo := pool [(1, .class_ 2), (0, u "java/lang/Cloneable"), (0, .class_ 4), (0, u "java/lang/Object")] 2

/-- java/lang/Cloneable -/
def k16 : Class := { plain "java/lang/Cloneable" (some 0) with
  accessFlags := 1537
  interfaces := #[]
  cf := some (fileOf pool16 1 #[] #[] 1537 3 #[] #[])
  fields := #[]
  methods := #[]
  instanceTypes := #[]
  staticTypes := #[]
  resolved := Array.replicate 7 none
  statics := none }

def pool17 : Array CpInfo := pool [(1, .class_ 2), (0, u "java/io/Serializable"), (0, .class_ 4), (0, u "java/lang/Object")] 2

/-- java/io/Serializable -/
def k17 : Class := { plain "java/io/Serializable" (some 0) with
  accessFlags := 1537
  interfaces := #[]
  cf := some (fileOf pool17 1 #[] #[] 1537 3 #[] #[])
  fields := #[]
  methods := #[]
  instanceTypes := #[]
  staticTypes := #[]
  resolved := Array.replicate 7 none
  statics := none }

def pool18 : Array CpInfo := pool [(1, .methodref 2 3), (0, .class_ 4), (0, .nameAndType 5 6), (0, u "java/util/AbstractList"), (0, u "<init>"), (0, u "()V"), (0, .class_ 8), (0, u "java/lang/Object"), (0, .fieldref 10 11), (0, .class_ 12), (0, .nameAndType 13 14), (0, u "java/util/ArrayList"), (0, u "elementData"), (0, u "[Ljava/lang/Object;"), (2, u "EMPTY_ELEMENTDATA"), (21, .fieldref 10 40), (0, .nameAndType 41 14), (0, u "DEFAULTCAPACITY_EMPTY_ELEMENTDATA"), (5, u "()[Ljava/lang/Object;"), (0, .fieldref 10 49), (0, .nameAndType 50 51), (0, u "size"), (0, u "I"), (11, .fieldref 10 64), (0, .nameAndType 65 51), (0, u "modCount"), (3, .methodref 10 70), (0, .nameAndType 71 72), (0, u "grow"), (0, u "(I)[Ljava/lang/Object;"), (6, .methodref 80 81), (0, .class_ 82), (0, .nameAndType 83 84), (0, u "java/lang/Math"), (0, u "max"), (0, u "(II)I"), (11, u "(Ljava/lang/Object;)Z"), (32, .methodref 10 130), (0, .nameAndType 71 47), (0, .methodref 10 132), (0, .nameAndType 133 134), (0, u "add"), (0, u "(Ljava/lang/Object;[Ljava/lang/Object;I)V"), (13, .class_ 149), (0, u "java/util/List"), (112, .class_ 263), (0, u "java/util/ArrayList$ListItr"), (3, .class_ 268), (0, u "java/util/ArrayList$Itr"), (7, .class_ 277), (0, u "java/util/ArrayList$SubList"), (12, .class_ 291), (0, u "java/util/ArrayList$ArrayListSpliterator"), (37, .class_ 330), (0, u "java/util/RandomAccess"), (0, .class_ 332), (0, u "java/lang/Cloneable"), (0, .class_ 334), (0, u "java/io/Serializable"), (0, u "serialVersionUID"), (0, u "J"), (3, u "DEFAULT_CAPACITY"), (159, .class_ 501), (0, u "java/util/ArrayList$SubList$2"), (0, .class_ 503), (0, u "java/util/ArrayList$SubList$1")] 5

def k18c0 : Code := { maxStack := 2, maxLocals := 1, code := jdk_38_method_2_code, exceptionTable := #[], attributes := #[] }
def k18m0 : Method := { name := "<init>", desc := "()V", sig := { parameters := [], returnType := none }, accessFlags := 1, code := some k18c0 }
def k18c1 : Code := { maxStack := 4, maxLocals := 4, code := jdk_38_method_6_code, exceptionTable := #[], attributes := #[] }
def k18m1 : Method := { name := "grow", desc := "(I)[Ljava/lang/Object;", sig := { parameters := [.int], returnType := some (.array (.object "java/lang/Object")) }, accessFlags := 2, code := some k18c1 }
def k18c2 : Code := { maxStack := 3, maxLocals := 1, code := jdk_38_method_7_code, exceptionTable := #[], attributes := #[] }
def k18m2 : Method := { name := "grow", desc := "()[Ljava/lang/Object;", sig := { parameters := [], returnType := some (.array (.object "java/lang/Object")) }, accessFlags := 2, code := some k18c2 }
def k18c3 : Code := { maxStack := 3, maxLocals := 4, code := jdk_38_method_24_code, exceptionTable := #[], attributes := #[] }
def k18m3 : Method := { name := "add", desc := "(Ljava/lang/Object;[Ljava/lang/Object;I)V", sig := { parameters := [(.object "java/lang/Object"), (.array (.object "java/lang/Object")), .int], returnType := none }, accessFlags := 2, code := some k18c3 }
def k18c4 : Code := { maxStack := 4, maxLocals := 2, code := jdk_38_method_25_code, exceptionTable := #[], attributes := #[] }
def k18m4 : Method := { name := "add", desc := "(Ljava/lang/Object;)Z", sig := { parameters := [(.object "java/lang/Object")], returnType := some .boolean }, accessFlags := 1, code := some k18c4 }
/-- java/util/ArrayList -/
def k18 : Class := { plain "java/util/ArrayList" (some 14) with
  accessFlags := 33
  interfaces := #[13, 15, 16, 17]
  cf := some (fileOf pool18 10 #[.nestMembers #[290, 276, 500, 502, 262, 267]] #[{ accessFlags := 1, nameIndex := 5, descriptorIndex := 6, attributes := #[] }, { accessFlags := 2, nameIndex := 71, descriptorIndex := 72, attributes := #[] }, { accessFlags := 2, nameIndex := 71, descriptorIndex := 47, attributes := #[] }, { accessFlags := 2, nameIndex := 133, descriptorIndex := 134, attributes := #[] }, { accessFlags := 1, nameIndex := 133, descriptorIndex := 96, attributes := #[] }] 33 2 #[148, 329, 331, 333] #[{ accessFlags := 26, nameIndex := 335, descriptorIndex := 336, attributes := #[] }, { accessFlags := 26, nameIndex := 340, descriptorIndex := 51, attributes := #[] }, { accessFlags := 26, nameIndex := 17, descriptorIndex := 14, attributes := #[] }, { accessFlags := 26, nameIndex := 41, descriptorIndex := 14, attributes := #[] }, { accessFlags := 128, nameIndex := 13, descriptorIndex := 14, attributes := #[] }, { accessFlags := 2, nameIndex := 50, descriptorIndex := 51, attributes := #[] }])
  fields := #[{ name := "serialVersionUID", type := .long, accessFlags := 26, slot := 0, constantValue := 0 }, { name := "DEFAULT_CAPACITY", type := .int, accessFlags := 26, slot := 1, constantValue := 0 }, { name := "EMPTY_ELEMENTDATA", type := (.array (.object "java/lang/Object")), accessFlags := 26, slot := 2, constantValue := 0 }, { name := "DEFAULTCAPACITY_EMPTY_ELEMENTDATA", type := (.array (.object "java/lang/Object")), accessFlags := 26, slot := 3, constantValue := 0 }, { name := "elementData", type := (.array (.object "java/lang/Object")), accessFlags := 128, slot := 1, constantValue := 0 }, { name := "size", type := .int, accessFlags := 2, slot := 2, constantValue := 0 }]
  methods := #[k18m0, k18m1, k18m2, k18m3, k18m4]
  instanceTypes := #[.int, (.array (.object "java/lang/Object")), .int]
  staticTypes := #[.long, .int, (.array (.object "java/lang/Object")), (.array (.object "java/lang/Object"))]
  resolved := Array.replicate 509 none
  statics := some 1 }

def pool19 : Array CpInfo := pool [(1, .methodref 2 3), (0, .class_ 4), (0, .nameAndType 5 6), (0, u "java/lang/Object"), (0, u "<init>"), (0, u "()V"), (0, .class_ 8), (0, u "java/lang/Record")] 13

def k19c0 : Code := { maxStack := 1, maxLocals := 1, code := jdk_30_method_1_code, exceptionTable := #[], attributes := #[] }
def k19m0 : Method := { name := "<init>", desc := "()V", sig := { parameters := [], returnType := none }, accessFlags := 4, code := some k19c0 }
/-- java/lang/Record -/
def k19 : Class := { plain "java/lang/Record" (some 0) with
  accessFlags := 1057
  interfaces := #[]
  cf := some (fileOf pool19 7 #[] #[{ accessFlags := 4, nameIndex := 5, descriptorIndex := 6, attributes := #[] }] 1057 2 #[] #[])
  fields := #[]
  methods := #[k19m0]
  instanceTypes := #[]
  staticTypes := #[]
  resolved := Array.replicate 22 none
  statics := none }

def pool20 : Array CpInfo := pool [(1, .class_ 2), (0, u "java/lang/Comparable"), (0, .class_ 4), (0, u "java/lang/Object")] 7

/-- java/lang/Comparable -/
def k20 : Class := { plain "java/lang/Comparable" (some 0) with
  accessFlags := 1537
  interfaces := #[]
  cf := some (fileOf pool20 1 #[] #[] 1537 3 #[] #[])
  fields := #[]
  methods := #[]
  instanceTypes := #[]
  staticTypes := #[]
  resolved := Array.replicate 12 none
  statics := none }

def pool21 : Array CpInfo := pool [(1, .methodref 2 3), (0, .class_ 4), (0, .nameAndType 5 6), (0, u "java/lang/Record"), (0, u "<init>"), (0, u "()V"), (0, .fieldref 8 9), (0, .class_ 10), (0, .nameAndType 11 12), (0, u "com/example/kleinmaschine/kleinmaschine/Position"), (0, u "line"), (0, u "J"), (0, .fieldref 8 14), (0, .nameAndType 15 12), (0, u "column"), (21, .class_ 38), (0, u "java/lang/Comparable"), (0, u "(JJ)V"), (7, u "()J")] 24

def k21c0 : Code := { maxStack := 3, maxLocals := 5, code := prog_35_method_1_code, exceptionTable := #[], attributes := #[] }
def k21m0 : Method := { name := "<init>", desc := "(JJ)V", sig := { parameters := [.long, .long], returnType := none }, accessFlags := 0, code := some k21c0 }
def k21c1 : Code := { maxStack := 2, maxLocals := 1, code := prog_35_method_6_code, exceptionTable := #[], attributes := #[] }
def k21m1 : Method := { name := "line", desc := "()J", sig := { parameters := [], returnType := some .long }, accessFlags := 1, code := some k21c1 }
def k21c2 : Code := { maxStack := 2, maxLocals := 1, code := prog_35_method_7_code, exceptionTable := #[], attributes := #[] }
def k21m2 : Method := { name := "column", desc := "()J", sig := { parameters := [], returnType := some .long }, accessFlags := 1, code := some k21c2 }
/-- com/example/kleinmaschine/kleinmaschine/Position -/
def k21 : Class := { plain "com/example/kleinmaschine/kleinmaschine/Position" (some 19) with
  accessFlags := 48
  interfaces := #[20]
  cf := some (fileOf pool21 8 #[] #[{ accessFlags := 0, nameIndex := 5, descriptorIndex := 39, attributes := #[] }, { accessFlags := 1, nameIndex := 11, descriptorIndex := 47, attributes := #[] }, { accessFlags := 1, nameIndex := 15, descriptorIndex := 47, attributes := #[] }] 48 2 #[37] #[{ accessFlags := 18, nameIndex := 11, descriptorIndex := 12, attributes := #[] }, { accessFlags := 18, nameIndex := 15, descriptorIndex := 12, attributes := #[] }])
  fields := #[{ name := "line", type := .long, accessFlags := 18, slot := 0, constantValue := 0 }, { name := "column", type := .long, accessFlags := 18, slot := 1, constantValue := 0 }]
  methods := #[k21m0, k21m1, k21m2]
  instanceTypes := #[.long, .long]
  staticTypes := #[]
  resolved := Array.replicate 72 none
  statics := none }

def pool22 : Array CpInfo := pool [(1, .class_ 2), (0, u "java/lang/Math"), (1, .class_ 6), (1, u "java/lang/Object"), (0, u "<init>"), (0, u "()V"), (89, .class_ 100), (1, u "java/lang/Math$RandomNumberGeneratorHolder"), (71, u "negativeZeroFloatBits"), (0, u "J"), (2, u "negativeZeroDoubleBits"), (21, u "max"), (2, u "min"), (43, u "$assertionsDisabled"), (0, u "Z"), (88, u "(II)I"), (2, u "twoToTheDoubleScaleDown"), (0, u "D"), (4, u "twoToTheDoubleScaleUp"), (9, u "E"), (3, u "PI"), (2, u "TAU"), (2, u "DEGREES_TO_RADIANS"), (0, u "RADIANS_TO_DEGREES")] 94

def k22m0 : Method := { name := "<init>", desc := "()V", sig := { parameters := [], returnType := none }, accessFlags := 2, code := none }
def k22c1 : Code := { maxStack := 2, maxLocals := 2, code := jdk_29_method_65_code, exceptionTable := #[], attributes := #[] }
def k22m1 : Method := { name := "max", desc := "(II)I", sig := { parameters := [.int, .int], returnType := some .int }, accessFlags := 9, code := some k22c1 }
def k22c2 : Code := { maxStack := 2, maxLocals := 2, code := jdk_29_method_69_code, exceptionTable := #[], attributes := #[] }
def k22m2 : Method := { name := "min", desc := "(II)I", sig := { parameters := [.int, .int], returnType := some .int }, accessFlags := 9, code := some k22c2 }
/-- java/lang/Math -/
def k22 : Class := { plain "java/lang/Math" (some 0) with
  accessFlags := 49
  interfaces := #[]
  cf := some (fileOf pool22 1 #[.nestMembers #[98]] #[{ accessFlags := 2, nameIndex := 7, descriptorIndex := 8, attributes := #[] }, { accessFlags := 9, nameIndex := 198, descriptorIndex := 335, attributes := #[] }, { accessFlags := 9, nameIndex := 201, descriptorIndex := 335, attributes := #[] }] 49 4 #[] #[{ accessFlags := 25, nameIndex := 354, descriptorIndex := 339, attributes := #[] }, { accessFlags := 25, nameIndex := 358, descriptorIndex := 339, attributes := #[] }, { accessFlags := 25, nameIndex := 361, descriptorIndex := 339, attributes := #[] }, { accessFlags := 26, nameIndex := 364, descriptorIndex := 339, attributes := #[] }, { accessFlags := 26, nameIndex := 365, descriptorIndex := 339, attributes := #[] }, { accessFlags := 26, nameIndex := 172, descriptorIndex := 173, attributes := #[] }, { accessFlags := 26, nameIndex := 176, descriptorIndex := 173, attributes := #[] }, { accessFlags := 8, nameIndex := 344, descriptorIndex := 339, attributes := #[] }, { accessFlags := 8, nameIndex := 338, descriptorIndex := 339, attributes := #[] }, { accessFlags := 4120, nameIndex := 245, descriptorIndex := 246, attributes := #[] }])
  fields := #[{ name := "E", type := .double, accessFlags := 25, slot := 0, constantValue := 0 }, { name := "PI", type := .double, accessFlags := 25, slot := 1, constantValue := 0 }, { name := "TAU", type := .double, accessFlags := 25, slot := 2, constantValue := 0 }, { name := "DEGREES_TO_RADIANS", type := .double, accessFlags := 26, slot := 3, constantValue := 0 }, { name := "RADIANS_TO_DEGREES", type := .double, accessFlags := 26, slot := 4, constantValue := 0 }, { name := "negativeZeroFloatBits", type := .long, accessFlags := 26, slot := 5, constantValue := 0 }, { name := "negativeZeroDoubleBits", type := .long, accessFlags := 26, slot := 6, constantValue := 0 }, { name := "twoToTheDoubleScaleUp", type := .double, accessFlags := 8, slot := 7, constantValue := 0 }, { name := "twoToTheDoubleScaleDown", type := .double, accessFlags := 8, slot := 8, constantValue := 0 }, { name := "$assertionsDisabled", type := .boolean, accessFlags := 4120, slot := 9, constantValue := 0 }]
  methods := #[k22m0, k22m1, k22m2]
  instanceTypes := #[]
  staticTypes := #[.double, .double, .double, .double, .double, .long, .long, .double, .double, .boolean]
  resolved := Array.replicate 460 none
  statics := none }

def pool23 : Array CpInfo := pool [(2, .class_ 4), (1, u "java/lang/Object"), (0, u "<init>"), (0, u "()V"), (1, .class_ 10), (1, u "java/lang/System"), (0, u "allowSecurityManager"), (0, u "I"), (16, u "cons"), (0, u "Ljava/io/Console;"), (77, .class_ 110), (1, u "java/lang/System$CallersHolder"), (43, u "initialErrStream"), (0, u "Ljava/io/PrintStream;"), (19, u "security"), (0, u "Ljava/lang/SecurityManager;"), (31, .class_ 209), (0, u "java/lang/System$1"), (7, u "props"), (0, u "Ljava/util/Properties;"), (2, u "lineSeparator"), (0, u "Ljava/lang/String;"), (96, .class_ 321), (1, u "java/lang/System$LoggerFinder"), (5, .class_ 328), (0, u "java/lang/System$Logger"), (67, u "err"), (2, u "out"), (91, u "notSupportedJnuEncoding"), (15, u "in"), (17, u "initialIn"), (0, u "Ljava/io/InputStream;"), (35, u "bootLayer"), (0, u "Ljava/lang/ModuleLayer;"), (99, .class_ 664), (0, u "java/lang/System$2"), (9, u "NEVER"), (2, u "MAYBE"), (49, u "arraycopy"), (0, u "(Ljava/lang/Object;ILjava/lang/Object;II)V"), (72, .class_ 802), (0, u "java/lang/System$Logger$Level")] 31

def k23m0 : Method := { name := "<init>", desc := "()V", sig := { parameters := [], returnType := none }, accessFlags := 2, code := none }
def k23m1 : Method := { name := "arraycopy", desc := "(Ljava/lang/Object;ILjava/lang/Object;II)V", sig := { parameters := [(.object "java/lang/Object"), .int, (.object "java/lang/Object"), .int, .int], returnType := none }, accessFlags := 265, code := none }
/-- java/lang/System -/
def k23 : Class := { plain "java/lang/System" (some 0) with
  accessFlags := 49
  interfaces := #[]
  cf := some (fileOf pool23 8 #[.nestMembers #[319, 327, 801, 108, 663, 208]] #[{ accessFlags := 2, nameIndex := 5, descriptorIndex := 6, attributes := #[] }, { accessFlags := 265, nameIndex := 727, descriptorIndex := 728, attributes := #[] }] 49 2 #[] #[{ accessFlags := 25, nameIndex := 507, descriptorIndex := 526, attributes := #[] }, { accessFlags := 25, nameIndex := 399, descriptorIndex := 155, attributes := #[] }, { accessFlags := 25, nameIndex := 396, descriptorIndex := 155, attributes := #[] }, { accessFlags := 10, nameIndex := 525, descriptorIndex := 526, attributes := #[] }, { accessFlags := 26, nameIndex := 674, descriptorIndex := 12, attributes := #[] }, { accessFlags := 26, nameIndex := 677, descriptorIndex := 12, attributes := #[] }, { accessFlags := 10, nameIndex := 11, descriptorIndex := 12, attributes := #[] }, { accessFlags := 74, nameIndex := 175, descriptorIndex := 176, attributes := #[] }, { accessFlags := 10, nameIndex := 491, descriptorIndex := 222, attributes := #[] }, { accessFlags := 74, nameIndex := 29, descriptorIndex := 30, attributes := #[] }, { accessFlags := 74, nameIndex := 154, descriptorIndex := 155, attributes := #[] }, { accessFlags := 10, nameIndex := 217, descriptorIndex := 218, attributes := #[] }, { accessFlags := 10, nameIndex := 221, descriptorIndex := 222, attributes := #[] }, { accessFlags := 8, nameIndex := 562, descriptorIndex := 563, attributes := #[] }])
  fields := #[{ name := "in", type := (.object "java/io/InputStream"), accessFlags := 25, slot := 0, constantValue := 0 }, { name := "out", type := (.object "java/io/PrintStream"), accessFlags := 25, slot := 1, constantValue := 0 }, { name := "err", type := (.object "java/io/PrintStream"), accessFlags := 25, slot := 2, constantValue := 0 }, { name := "initialIn", type := (.object "java/io/InputStream"), accessFlags := 10, slot := 3, constantValue := 0 }, { name := "NEVER", type := .int, accessFlags := 26, slot := 4, constantValue := 0 }, { name := "MAYBE", type := .int, accessFlags := 26, slot := 5, constantValue := 0 }, { name := "allowSecurityManager", type := .int, accessFlags := 10, slot := 6, constantValue := 0 }, { name := "security", type := (.object "java/lang/SecurityManager"), accessFlags := 74, slot := 7, constantValue := 0 }, { name := "notSupportedJnuEncoding", type := (.object "java/lang/String"), accessFlags := 10, slot := 8, constantValue := 0 }, { name := "cons", type := (.object "java/io/Console"), accessFlags := 74, slot := 9, constantValue := 0 }, { name := "initialErrStream", type := (.object "java/io/PrintStream"), accessFlags := 74, slot := 10, constantValue := 0 }, { name := "props", type := (.object "java/util/Properties"), accessFlags := 10, slot := 11, constantValue := 0 }, { name := "lineSeparator", type := (.object "java/lang/String"), accessFlags := 10, slot := 12, constantValue := 0 }, { name := "bootLayer", type := (.object "java/lang/ModuleLayer"), accessFlags := 8, slot := 13, constantValue := 0 }]
  methods := #[k23m0, k23m1]
  instanceTypes := #[]
  staticTypes := #[(.object "java/io/InputStream"), (.object "java/io/PrintStream"), (.object "java/io/PrintStream"), (.object "java/io/InputStream"), .int, .int, .int, (.object "java/lang/SecurityManager"), (.object "java/lang/String"), (.object "java/io/Console"), (.object "java/io/PrintStream"), (.object "java/util/Properties"), (.object "java/lang/String"), (.object "java/lang/ModuleLayer")]
  resolved := Array.replicate 834 none
  statics := none }

def pool24 : Array CpInfo := pool [(2, .class_ 4), (1, u "java/lang/Object"), (0, u "<init>"), (0, u "()V"), (35, .class_ 44), (1, u "java/util/Objects"), (60, .methodref 106 107), (0, .class_ 108), (0, .nameAndType 109 110), (0, u "jdk/internal/util/Preconditions"), (0, u "checkIndex"), (0, u "(IILjava/util/function/BiFunction;)I"), (60, u "(II)I")] 12

def k24m0 : Method := { name := "<init>", desc := "()V", sig := { parameters := [], returnType := none }, accessFlags := 2, code := none }
def k24c1 : Code := { maxStack := 3, maxLocals := 2, code := jdk_31_method_17_code, exceptionTable := #[], attributes := #[] }
def k24m1 : Method := { name := "checkIndex", desc := "(II)I", sig := { parameters := [.int, .int], returnType := some .int }, accessFlags := 9, code := some k24c1 }
/-- java/util/Objects -/
def k24 : Class := { plain "java/util/Objects" (some 0) with
  accessFlags := 49
  interfaces := #[]
  cf := some (fileOf pool24 42 #[] #[{ accessFlags := 2, nameIndex := 5, descriptorIndex := 6, attributes := #[] }, { accessFlags := 9, nameIndex := 109, descriptorIndex := 171, attributes := #[] }] 49 2 #[] #[])
  fields := #[]
  methods := #[k24m0, k24m1]
  instanceTypes := #[]
  staticTypes := #[]
  resolved := Array.replicate 184 none
  statics := none }

def pool25 : Array CpInfo := pool [(2, .class_ 4), (1, u "java/lang/Object"), (0, u "<init>"), (0, u "()V"), (17, .class_ 26), (1, u "jdk/internal/util/Preconditions"), (6, u "checkIndex"), (21, .class_ 56), (0, u "jdk/internal/util/Preconditions$4"), (57, .class_ 115), (0, u "jdk/internal/util/Preconditions$1"), (7, u "SIOOBE_FORMATTER"), (0, u "Ljava/util/function/BiFunction;"), (0, .class_ 126), (0, u "jdk/internal/util/Preconditions$2"), (3, u "AIOOBE_FORMATTER"), (0, .class_ 132), (0, u "jdk/internal/util/Preconditions$3"), (3, u "IOOBE_FORMATTER"), (41, u "(IILjava/util/function/BiFunction;)I")] 15

def k25m0 : Method := { name := "<init>", desc := "()V", sig := { parameters := [], returnType := none }, accessFlags := 1, code := none }
def k25c1 : Code := { maxStack := 3, maxLocals := 3, code := jdk_41_method_11_code, exceptionTable := #[], attributes := #[] }
def k25m1 : Method := { name := "checkIndex", desc := "(IILjava/util/function/BiFunction;)I", sig := { parameters := [.int, .int, (.object "java/util/function/BiFunction")], returnType := some .int }, accessFlags := 9, code := some k25c1 }
/-- jdk/internal/util/Preconditions -/
def k25 : Class := { plain "jdk/internal/util/Preconditions" (some 0) with
  accessFlags := 33
  interfaces := #[]
  cf := some (fileOf pool25 24 #[.nestMembers #[55, 131, 125, 114]] #[{ accessFlags := 1, nameIndex := 5, descriptorIndex := 6, attributes := #[] }, { accessFlags := 9, nameIndex := 33, descriptorIndex := 178, attributes := #[] }] 33 2 #[] #[{ accessFlags := 25, nameIndex := 123, descriptorIndex := 124, attributes := #[] }, { accessFlags := 25, nameIndex := 130, descriptorIndex := 124, attributes := #[] }, { accessFlags := 25, nameIndex := 136, descriptorIndex := 124, attributes := #[] }])
  fields := #[{ name := "SIOOBE_FORMATTER", type := (.object "java/util/function/BiFunction"), accessFlags := 25, slot := 0, constantValue := 0 }, { name := "AIOOBE_FORMATTER", type := (.object "java/util/function/BiFunction"), accessFlags := 25, slot := 1, constantValue := 0 }, { name := "IOOBE_FORMATTER", type := (.object "java/util/function/BiFunction"), accessFlags := 25, slot := 2, constantValue := 0 }]
  methods := #[k25m0, k25m1]
  instanceTypes := #[]
  staticTypes := #[(.object "java/util/function/BiFunction"), (.object "java/util/function/BiFunction"), (.object "java/util/function/BiFunction")]
  resolved := Array.replicate 194 none
  statics := none }

/-- the primitive byte -/
def k26 : Class := { plain "byte" none with kind := .primitive 'B', accessFlags := 0x411 }
/-- [B -/
def k27 : Class := { plain "[B" (some 0) with kind := .array 26 .byte, interfaces := #[16, 17], accessFlags := 1041 }

/-- the primitive int -/
def k28 : Class := { plain "int" none with kind := .primitive 'I', accessFlags := 0x411 }
/-- [I -/
def k29 : Class := { plain "[I" (some 0) with kind := .array 28 .int, interfaces := #[16, 17], accessFlags := 1041 }

/-- the primitive long -/
def k30 : Class := { plain "long" none with kind := .primitive 'J', accessFlags := 0x411 }
/-- [J -/
def k31 : Class := { plain "[J" (some 0) with kind := .array 30 .long, interfaces := #[16, 17], accessFlags := 1041 }

/-- [Ljava/lang/Object; -/
def k32 : Class := { plain "[Ljava/lang/Object;" (some 0) with kind := .array 0 (.object "java/lang/Object"), interfaces := #[16, 17], accessFlags := 1041 }

/-- [[I -/
def k33 : Class := { plain "[[I" (some 0) with kind := .array 29 (.array .int), interfaces := #[16, 17], accessFlags := 1041 }

def heap : Heap := #[{ cls := 2, slots := #[.int 0, .int 0, .int 0, .int 0, .int 14, .int 0, .int 0, .int 6, .int 0], vm := .statics 2 },
  { cls := 18, slots := #[.long 0, .int 0, .ref 2, .ref 3], vm := .statics 18 },
  { cls := 32, slots := #[], vm := .none },
  { cls := 32, slots := #[], vm := .none }]
def classes : Array Class := #[k0, k1, k2, k3, k4, k5, k6, k7, k8, k9, k10, k11, k12, k13, k14, k15, k16, k17, k18, k19, k20, k21, k22, k23, k24, k25, k26, k27, k28, k29, k30, k31, k32, k33]
def interned : List (Array UInt16 × Addr) := []
def slotsUsed : Nat := 13
def theMethod : MethodId := ⟨1, 1⟩
def args0 : Array Value := #[.long 5, .long 7, .long 9, .int 1]
def aboutOver (below : List Frame) : State where
  vm := { classes := classes, interned := interned.toArray }
  heap := heap
  slotsUsed := slotsUsed
  threads := #[{ frames := .invoking theMethod args0 :: below }]
def below0 : List Frame := [.native { method := ⟨0, 0⟩, args := #[] }]
def about1 : State := aboutOver below0
def p0 : Program := .bare "" "" ""
def e0 : Env := launch0.env 0 0 0
theorem w_frames : about1.frames = Frame.invoking theMethod args0 :: below0 := rfl
set_option maxRecDepth 65536 in
theorem w_args : argsFit about1.vm theMethod args0 = true := by decide +kernel
set_option maxRecDepth 65536 in
theorem w_heap : heapFits about1 = true := by decide +kernel
set_option maxRecDepth 65536 in
theorem w_runnable : about1.curStatus? = some .runnable := by decide +kernel
set_option maxRecDepth 65536 in
theorem w_alone : about1.alone = true := by decide +kernel
set_option maxRecDepth 65536 in
theorem w_named : about1.methodNamed? x = some theMethod := by decide +kernel
set_option maxRecDepth 65536 in
theorem w_hears : about1.hears theMethod below0 = true := by decide +kernel
set_option maxRecDepth 65536 in
theorem w_ripe : about1.ripe theMethod args0 below0 = true := by decide +kernel
theorem w_running : about1.status = .running := rfl
set_option maxRecDepth 65536 in
theorem w_room : about1.hasRoom e0.platform room_1 = true :=
  launch0.hasRoom_least _ room_1 (by decide +kernel) (by decide +kernel) (by decide +kernel) (by decide +kernel) (by decide +kernel) (by decide +kernel)
theorem allAtoms_all (ts : List Jvm.Cond) (a : Array Jvm.Value) (st : Jvm.State) : (allAtoms ts).before a st = ts.all (fun c => c.before a st) := by
  induction ts with
  | nil => rfl
  | cons c t ih =>
    show (Jvm.Cond.and c (allAtoms t)).before a st = _
    rw [Jvm.Cond.before_and, ih, List.all_cons]
def words1 : List Jvm.Cond := Jvm.Cond.code x code maxLocals ret :: tables_1
/-- a 'code' word, met by the world's own term for the bytes: nothing is compared byte by byte -/
theorem code_word {y : MethodName} {bytes : ByteArray} {mx : Nat} {rt : Option FieldType} {a : Array Value} {s : State} {m : MethodId} {meth : Method} {c : Code} (h1 : s.methodNamed? y = some m) (h2 : s.vm.method? m = some meth) (h3 : meth.code = some c) (h4 : c.code = bytes)
    (h5 : (c.maxLocals == mx && c.exceptionTable.isEmpty && decide (c.maxStack ≤ mostOperands) && decide (meth.sig.returnType = rt) && !meth.locks && decide (parseMethodDescriptor y.desc = some meth.sig)) = true) : (Jvm.Cond.code y bytes mx rt).before a s = true := by
  simp only [Bool.and_eq_true, beq_iff_eq, Bool.not_eq_true', decide_eq_true_eq] at h5
  obtain ⟨⟨⟨⟨⟨g1, g2⟩, g3⟩, g4⟩, g5⟩, g6⟩ := h5
  simp [Cond.before, Cond.holds, Cond.value, h1, h2, h3, h4, g1, g2, g3, g4, g5, g6]
def isCode : Jvm.Cond → Bool
  | .code _ _ _ _ => true
  | _ => false
theorem all_split {L : List Jvm.Cond} {P : Jvm.Cond → Bool} (h1 : L.all (fun c => isCode c || P c) = true) (h2 : ∀ c ∈ L.filter isCode, P c = true) : L.all P = true := by
  refine List.all_eq_true.mpr fun c hc => ?_
  have h := List.all_eq_true.mp h1 c hc
  rcases Bool.eq_false_or_eq_true (isCode c) with hi | hi
  · exact h2 c (List.mem_filter.mpr ⟨hc, hi⟩)
  · simpa [hi] using h
set_option maxRecDepth 65536 in
theorem w_c0 : (Jvm.Cond.code x code maxLocals ret).before args0 about1 = true := code_word (m := ⟨1, 1⟩) (meth := k1m1) (c := k1c1) (by decide +kernel) rfl rfl rfl (by decide +kernel)
set_option maxRecDepth 65536 in
theorem w_c1 : (Jvm.Cond.code ({ cls := "com/example/kleinmaschine/kleinmaschine/Statements", name := "<init>", desc := "()V" } : Jvm.MethodName) prog_52_method_1_code (1 : Nat) (Option.none : Option Jvm.ClassFile.FieldType)).before args0 about1 = true := code_word (m := ⟨2, 0⟩) (meth := k2m0) (c := k2c0) (by decide +kernel) rfl rfl rfl (by decide +kernel)
set_option maxRecDepth 65536 in
theorem w_c2 : (Jvm.Cond.code ({ cls := "java/lang/Object", name := "<init>", desc := "()V" } : Jvm.MethodName) object_method_1_code (1 : Nat) (Option.none : Option Jvm.ClassFile.FieldType)).before args0 about1 = true := code_word (m := ⟨0, 0⟩) (meth := k0m0) (c := k0c0) (by decide +kernel) rfl rfl rfl (by decide +kernel)
set_option maxRecDepth 65536 in
theorem w_c3 : (Jvm.Cond.code ({ cls := "com/example/kleinmaschine/kleinmaschine/PagedBytes", name := "<init>", desc := "()V" } : Jvm.MethodName) prog_33_method_1_code (1 : Nat) (Option.none : Option Jvm.ClassFile.FieldType)).before args0 about1 = true := code_word (m := ⟨8, 0⟩) (meth := k8m0) (c := k8c0) (by decide +kernel) rfl rfl rfl (by decide +kernel)
set_option maxRecDepth 65536 in
theorem w_c4 : (Jvm.Cond.code ({ cls := "java/io/OutputStream", name := "<init>", desc := "()V" } : Jvm.MethodName) jdk_2038_method_1_code (1 : Nat) (Option.none : Option Jvm.ClassFile.FieldType)).before args0 about1 = true := code_word (m := ⟨6, 0⟩) (meth := k6m0) (c := k6c0) (by decide +kernel) rfl rfl rfl (by decide +kernel)
set_option maxRecDepth 65536 in
theorem w_c5 : (Jvm.Cond.code ({ cls := "java/util/ArrayList", name := "<init>", desc := "()V" } : Jvm.MethodName) jdk_38_method_2_code (1 : Nat) (Option.none : Option Jvm.ClassFile.FieldType)).before args0 about1 = true := code_word (m := ⟨18, 0⟩) (meth := k18m0) (c := k18c0) (by decide +kernel) rfl rfl rfl (by decide +kernel)
set_option maxRecDepth 65536 in
theorem w_c6 : (Jvm.Cond.code ({ cls := "java/util/AbstractList", name := "<init>", desc := "()V" } : Jvm.MethodName) jdk_39_method_1_code (1 : Nat) (Option.none : Option Jvm.ClassFile.FieldType)).before args0 about1 = true := code_word (m := ⟨14, 0⟩) (meth := k14m0) (c := k14c0) (by decide +kernel) rfl rfl rfl (by decide +kernel)
set_option maxRecDepth 65536 in
theorem w_c7 : (Jvm.Cond.code ({ cls := "java/util/AbstractCollection", name := "<init>", desc := "()V" } : Jvm.MethodName) jdk_22_method_1_code (1 : Nat) (Option.none : Option Jvm.ClassFile.FieldType)).before args0 about1 = true := code_word (m := ⟨11, 0⟩) (meth := k11m0) (c := k11c0) (by decide +kernel) rfl rfl rfl (by decide +kernel)
set_option maxRecDepth 65536 in
theorem w_c8 : (Jvm.Cond.code ({ cls := "com/example/kleinmaschine/kleinmaschine/Position", name := "<init>", desc := "(JJ)V" } : Jvm.MethodName) prog_35_method_1_code (5 : Nat) (Option.none : Option Jvm.ClassFile.FieldType)).before args0 about1 = true := code_word (m := ⟨21, 0⟩) (meth := k21m0) (c := k21c0) (by decide +kernel) rfl rfl rfl (by decide +kernel)
set_option maxRecDepth 65536 in
theorem w_c9 : (Jvm.Cond.code ({ cls := "java/lang/Record", name := "<init>", desc := "()V" } : Jvm.MethodName) jdk_30_method_1_code (1 : Nat) (Option.none : Option Jvm.ClassFile.FieldType)).before args0 about1 = true := code_word (m := ⟨19, 0⟩) (meth := k19m0) (c := k19c0) (by decide +kernel) rfl rfl rfl (by decide +kernel)
set_option maxRecDepth 65536 in
theorem w_c10 : (Jvm.Cond.code ({ cls := "com/example/kleinmaschine/kleinmaschine/Statements", name := "add", desc := "(IJLcom/example/kleinmaschine/kleinmaschine/Position;J)I" } : Jvm.MethodName) prog_52_method_3_code (10 : Nat) (Option.some Jvm.ClassFile.FieldType.int)).before args0 about1 = true := code_word (m := ⟨2, 1⟩) (meth := k2m1) (c := k2c1) (by decide +kernel) rfl rfl rfl (by decide +kernel)
set_option maxRecDepth 65536 in
theorem w_c11 : (Jvm.Cond.code ({ cls := "com/example/kleinmaschine/kleinmaschine/Statements", name := "checkAdding", desc := "()V" } : Jvm.MethodName) prog_52_method_15_code (1 : Nat) (Option.none : Option Jvm.ClassFile.FieldType)).before args0 about1 = true := code_word (m := ⟨2, 7⟩) (meth := k2m7) (c := k2c7) (by decide +kernel) rfl rfl rfl (by decide +kernel)
set_option maxRecDepth 65536 in
theorem w_c12 : (Jvm.Cond.code ({ cls := "com/example/kleinmaschine/kleinmaschine/Statements", name := "setOperandAt", desc := "(IJ)V" } : Jvm.MethodName) prog_52_method_5_code (4 : Nat) (Option.none : Option Jvm.ClassFile.FieldType)).before args0 about1 = true := code_word (m := ⟨2, 3⟩) (meth := k2m3) (c := k2c3) (by decide +kernel) rfl rfl rfl (by decide +kernel)
set_option maxRecDepth 65536 in
theorem w_c13 : (Jvm.Cond.code ({ cls := "com/example/kleinmaschine/kleinmaschine/PagedBytes", name := "size", desc := "()J" } : Jvm.MethodName) prog_33_method_10_code (1 : Nat) (Option.some Jvm.ClassFile.FieldType.long)).before args0 about1 = true := code_word (m := ⟨8, 5⟩) (meth := k8m5) (c := k8c5) (by decide +kernel) rfl rfl rfl (by decide +kernel)
set_option maxRecDepth 65536 in
theorem w_c14 : (Jvm.Cond.code ({ cls := "com/example/kleinmaschine/kleinmaschine/Position", name := "line", desc := "()J" } : Jvm.MethodName) prog_35_method_6_code (1 : Nat) (Option.some Jvm.ClassFile.FieldType.long)).before args0 about1 = true := code_word (m := ⟨21, 1⟩) (meth := k21m1) (c := k21c1) (by decide +kernel) rfl rfl rfl (by decide +kernel)
set_option maxRecDepth 65536 in
theorem w_c15 : (Jvm.Cond.code ({ cls := "com/example/kleinmaschine/kleinmaschine/PagedBytes", name := "writeNumber", desc := "(J)V" } : Jvm.MethodName) prog_33_method_9_code (3 : Nat) (Option.none : Option Jvm.ClassFile.FieldType)).before args0 about1 = true := code_word (m := ⟨8, 4⟩) (meth := k8m4) (c := k8c4) (by decide +kernel) rfl rfl rfl (by decide +kernel)
set_option maxRecDepth 65536 in
theorem w_c16 : (Jvm.Cond.code ({ cls := "com/example/kleinmaschine/kleinmaschine/PagedBytes", name := "writeNumber", desc := "(JLjava/util/function/IntConsumer;)V" } : Jvm.MethodName) prog_33_method_2_code (5 : Nat) (Option.none : Option Jvm.ClassFile.FieldType)).before args0 about1 = true := code_word (m := ⟨8, 1⟩) (meth := k8m1) (c := k8c1) (by decide +kernel) rfl rfl rfl (by decide +kernel)
set_option maxRecDepth 65536 in
theorem w_c17 : (Jvm.Cond.code ({ cls := "com/example/kleinmaschine/kleinmaschine/PagedBytes", name := "accept", desc := "(I)V" } : Jvm.MethodName) prog_33_method_6_code (2 : Nat) (Option.none : Option Jvm.ClassFile.FieldType)).before args0 about1 = true := code_word (m := ⟨8, 2⟩) (meth := k8m2) (c := k8c2) (by decide +kernel) rfl rfl rfl (by decide +kernel)
set_option maxRecDepth 65536 in
theorem w_c18 : (Jvm.Cond.code ({ cls := "com/example/kleinmaschine/kleinmaschine/PagedBytes", name := "write", desc := "(I)V" } : Jvm.MethodName) prog_33_method_7_code (2 : Nat) (Option.none : Option Jvm.ClassFile.FieldType)).before args0 about1 = true := code_word (m := ⟨8, 3⟩) (meth := k8m3) (c := k8c3) (by decide +kernel) rfl rfl rfl (by decide +kernel)
set_option maxRecDepth 65536 in
theorem w_c19 : (Jvm.Cond.code ({ cls := "java/util/ArrayList", name := "add", desc := "(Ljava/lang/Object;)Z" } : Jvm.MethodName) jdk_38_method_25_code (2 : Nat) (Option.some Jvm.ClassFile.FieldType.boolean)).before args0 about1 = true := code_word (m := ⟨18, 4⟩) (meth := k18m4) (c := k18c4) (by decide +kernel) rfl rfl rfl (by decide +kernel)
set_option maxRecDepth 65536 in
theorem w_c20 : (Jvm.Cond.code ({ cls := "java/util/ArrayList", name := "add", desc := "(Ljava/lang/Object;[Ljava/lang/Object;I)V" } : Jvm.MethodName) jdk_38_method_24_code (4 : Nat) (Option.none : Option Jvm.ClassFile.FieldType)).before args0 about1 = true := code_word (m := ⟨18, 3⟩) (meth := k18m3) (c := k18c3) (by decide +kernel) rfl rfl rfl (by decide +kernel)
set_option maxRecDepth 65536 in
theorem w_c21 : (Jvm.Cond.code ({ cls := "java/util/ArrayList", name := "grow", desc := "()[Ljava/lang/Object;" } : Jvm.MethodName) jdk_38_method_7_code (1 : Nat) (Option.some (Jvm.ClassFile.FieldType.array (Jvm.ClassFile.FieldType.object "java/lang/Object")))).before args0 about1 = true := code_word (m := ⟨18, 2⟩) (meth := k18m2) (c := k18c2) (by decide +kernel) rfl rfl rfl (by decide +kernel)
set_option maxRecDepth 65536 in
theorem w_c22 : (Jvm.Cond.code ({ cls := "java/util/ArrayList", name := "grow", desc := "(I)[Ljava/lang/Object;" } : Jvm.MethodName) jdk_38_method_6_code (4 : Nat) (Option.some (Jvm.ClassFile.FieldType.array (Jvm.ClassFile.FieldType.object "java/lang/Object")))).before args0 about1 = true := code_word (m := ⟨18, 1⟩) (meth := k18m1) (c := k18c1) (by decide +kernel) rfl rfl rfl (by decide +kernel)
set_option maxRecDepth 65536 in
theorem w_c23 : (Jvm.Cond.code ({ cls := "java/lang/Math", name := "max", desc := "(II)I" } : Jvm.MethodName) jdk_29_method_65_code (2 : Nat) (Option.some Jvm.ClassFile.FieldType.int)).before args0 about1 = true := code_word (m := ⟨22, 1⟩) (meth := k22m1) (c := k22c1) (by decide +kernel) rfl rfl rfl (by decide +kernel)
set_option maxRecDepth 65536 in
theorem w_c24 : (Jvm.Cond.code ({ cls := "com/example/kleinmaschine/kleinmaschine/Position", name := "column", desc := "()J" } : Jvm.MethodName) prog_35_method_7_code (1 : Nat) (Option.some Jvm.ClassFile.FieldType.long)).before args0 about1 = true := code_word (m := ⟨21, 2⟩) (meth := k21m2) (c := k21c2) (by decide +kernel) rfl rfl rfl (by decide +kernel)
set_option maxRecDepth 65536 in
theorem w_c25 : (Jvm.Cond.code ({ cls := "com/example/kleinmaschine/kleinmaschine/Statements", name := "finish", desc := "()V" } : Jvm.MethodName) prog_52_method_6_code (1 : Nat) (Option.none : Option Jvm.ClassFile.FieldType)).before args0 about1 = true := code_word (m := ⟨2, 4⟩) (meth := k2m4) (c := k2c4) (by decide +kernel) rfl rfl rfl (by decide +kernel)
set_option maxRecDepth 65536 in
theorem w_c26 : (Jvm.Cond.code ({ cls := "com/example/kleinmaschine/kleinmaschine/Statements", name := "moveInto", desc := "([[I)[I" } : Jvm.MethodName) prog_52_method_7_code (5 : Nat) (Option.some (Jvm.ClassFile.FieldType.array Jvm.ClassFile.FieldType.int))).before args0 about1 = true := code_word (m := ⟨2, 5⟩) (meth := k2m5) (c := k2c5) (by decide +kernel) rfl rfl rfl (by decide +kernel)
set_option maxRecDepth 65536 in
theorem w_c27 : (Jvm.Cond.code ({ cls := "java/lang/Math", name := "min", desc := "(II)I" } : Jvm.MethodName) jdk_29_method_69_code (2 : Nat) (Option.some Jvm.ClassFile.FieldType.int)).before args0 about1 = true := code_word (m := ⟨22, 2⟩) (meth := k22m2) (c := k22c2) (by decide +kernel) rfl rfl rfl (by decide +kernel)
set_option maxRecDepth 65536 in
theorem w_c28 : (Jvm.Cond.code ({ cls := "com/example/kleinmaschine/kleinmaschine/Statements", name := "operand", desc := "(I)J" } : Jvm.MethodName) prog_52_method_10_code (2 : Nat) (Option.some Jvm.ClassFile.FieldType.long)).before args0 about1 = true := code_word (m := ⟨2, 6⟩) (meth := k2m6) (c := k2c6) (by decide +kernel) rfl rfl rfl (by decide +kernel)
set_option maxRecDepth 65536 in
theorem w_c29 : (Jvm.Cond.code ({ cls := "com/example/kleinmaschine/kleinmaschine/Statements", name := "setOperand", desc := "(IJ)V" } : Jvm.MethodName) prog_52_method_4_code (4 : Nat) (Option.none : Option Jvm.ClassFile.FieldType)).before args0 about1 = true := code_word (m := ⟨2, 2⟩) (meth := k2m2) (c := k2c2) (by decide +kernel) rfl rfl rfl (by decide +kernel)
set_option maxRecDepth 65536 in
theorem w_c30 : (Jvm.Cond.code ({ cls := "java/util/Objects", name := "checkIndex", desc := "(II)I" } : Jvm.MethodName) jdk_31_method_17_code (2 : Nat) (Option.some Jvm.ClassFile.FieldType.int)).before args0 about1 = true := code_word (m := ⟨24, 1⟩) (meth := k24m1) (c := k24c1) (by decide +kernel) rfl rfl rfl (by decide +kernel)
set_option maxRecDepth 65536 in
theorem w_c31 : (Jvm.Cond.code ({ cls := "jdk/internal/util/Preconditions", name := "checkIndex", desc := "(IILjava/util/function/BiFunction;)I" } : Jvm.MethodName) jdk_41_method_11_code (3 : Nat) (Option.some Jvm.ClassFile.FieldType.int)).before args0 about1 = true := code_word (m := ⟨25, 1⟩) (meth := k25m1) (c := k25c1) (by decide +kernel) rfl rfl rfl (by decide +kernel)
def codes1 : List Jvm.Cond := [Jvm.Cond.code x code maxLocals ret, Jvm.Cond.code ({ cls := "com/example/kleinmaschine/kleinmaschine/Statements", name := "<init>", desc := "()V" } : Jvm.MethodName) prog_52_method_1_code (1 : Nat) (Option.none : Option Jvm.ClassFile.FieldType), Jvm.Cond.code ({ cls := "java/lang/Object", name := "<init>", desc := "()V" } : Jvm.MethodName) object_method_1_code (1 : Nat) (Option.none : Option Jvm.ClassFile.FieldType), Jvm.Cond.code ({ cls := "com/example/kleinmaschine/kleinmaschine/PagedBytes", name := "<init>", desc := "()V" } : Jvm.MethodName) prog_33_method_1_code (1 : Nat) (Option.none : Option Jvm.ClassFile.FieldType), Jvm.Cond.code ({ cls := "java/io/OutputStream", name := "<init>", desc := "()V" } : Jvm.MethodName) jdk_2038_method_1_code (1 : Nat) (Option.none : Option Jvm.ClassFile.FieldType), Jvm.Cond.code ({ cls := "java/util/ArrayList", name := "<init>", desc := "()V" } : Jvm.MethodName) jdk_38_method_2_code (1 : Nat) (Option.none : Option Jvm.ClassFile.FieldType), Jvm.Cond.code ({ cls := "java/util/AbstractList", name := "<init>", desc := "()V" } : Jvm.MethodName) jdk_39_method_1_code (1 : Nat) (Option.none : Option Jvm.ClassFile.FieldType), Jvm.Cond.code ({ cls := "java/util/AbstractCollection", name := "<init>", desc := "()V" } : Jvm.MethodName) jdk_22_method_1_code (1 : Nat) (Option.none : Option Jvm.ClassFile.FieldType), Jvm.Cond.code ({ cls := "com/example/kleinmaschine/kleinmaschine/Position", name := "<init>", desc := "(JJ)V" } : Jvm.MethodName) prog_35_method_1_code (5 : Nat) (Option.none : Option Jvm.ClassFile.FieldType), Jvm.Cond.code ({ cls := "java/lang/Record", name := "<init>", desc := "()V" } : Jvm.MethodName) jdk_30_method_1_code (1 : Nat) (Option.none : Option Jvm.ClassFile.FieldType), Jvm.Cond.code ({ cls := "com/example/kleinmaschine/kleinmaschine/Statements", name := "add", desc := "(IJLcom/example/kleinmaschine/kleinmaschine/Position;J)I" } : Jvm.MethodName) prog_52_method_3_code (10 : Nat) (Option.some Jvm.ClassFile.FieldType.int), Jvm.Cond.code ({ cls := "com/example/kleinmaschine/kleinmaschine/Statements", name := "checkAdding", desc := "()V" } : Jvm.MethodName) prog_52_method_15_code (1 : Nat) (Option.none : Option Jvm.ClassFile.FieldType), Jvm.Cond.code ({ cls := "com/example/kleinmaschine/kleinmaschine/Statements", name := "setOperandAt", desc := "(IJ)V" } : Jvm.MethodName) prog_52_method_5_code (4 : Nat) (Option.none : Option Jvm.ClassFile.FieldType), Jvm.Cond.code ({ cls := "com/example/kleinmaschine/kleinmaschine/PagedBytes", name := "size", desc := "()J" } : Jvm.MethodName) prog_33_method_10_code (1 : Nat) (Option.some Jvm.ClassFile.FieldType.long), Jvm.Cond.code ({ cls := "com/example/kleinmaschine/kleinmaschine/Position", name := "line", desc := "()J" } : Jvm.MethodName) prog_35_method_6_code (1 : Nat) (Option.some Jvm.ClassFile.FieldType.long), Jvm.Cond.code ({ cls := "com/example/kleinmaschine/kleinmaschine/PagedBytes", name := "writeNumber", desc := "(J)V" } : Jvm.MethodName) prog_33_method_9_code (3 : Nat) (Option.none : Option Jvm.ClassFile.FieldType), Jvm.Cond.code ({ cls := "com/example/kleinmaschine/kleinmaschine/PagedBytes", name := "writeNumber", desc := "(JLjava/util/function/IntConsumer;)V" } : Jvm.MethodName) prog_33_method_2_code (5 : Nat) (Option.none : Option Jvm.ClassFile.FieldType), Jvm.Cond.code ({ cls := "com/example/kleinmaschine/kleinmaschine/PagedBytes", name := "accept", desc := "(I)V" } : Jvm.MethodName) prog_33_method_6_code (2 : Nat) (Option.none : Option Jvm.ClassFile.FieldType), Jvm.Cond.code ({ cls := "com/example/kleinmaschine/kleinmaschine/PagedBytes", name := "write", desc := "(I)V" } : Jvm.MethodName) prog_33_method_7_code (2 : Nat) (Option.none : Option Jvm.ClassFile.FieldType), Jvm.Cond.code ({ cls := "java/util/ArrayList", name := "add", desc := "(Ljava/lang/Object;)Z" } : Jvm.MethodName) jdk_38_method_25_code (2 : Nat) (Option.some Jvm.ClassFile.FieldType.boolean), Jvm.Cond.code ({ cls := "java/util/ArrayList", name := "add", desc := "(Ljava/lang/Object;[Ljava/lang/Object;I)V" } : Jvm.MethodName) jdk_38_method_24_code (4 : Nat) (Option.none : Option Jvm.ClassFile.FieldType), Jvm.Cond.code ({ cls := "java/util/ArrayList", name := "grow", desc := "()[Ljava/lang/Object;" } : Jvm.MethodName) jdk_38_method_7_code (1 : Nat) (Option.some (Jvm.ClassFile.FieldType.array (Jvm.ClassFile.FieldType.object "java/lang/Object"))), Jvm.Cond.code ({ cls := "java/util/ArrayList", name := "grow", desc := "(I)[Ljava/lang/Object;" } : Jvm.MethodName) jdk_38_method_6_code (4 : Nat) (Option.some (Jvm.ClassFile.FieldType.array (Jvm.ClassFile.FieldType.object "java/lang/Object"))), Jvm.Cond.code ({ cls := "java/lang/Math", name := "max", desc := "(II)I" } : Jvm.MethodName) jdk_29_method_65_code (2 : Nat) (Option.some Jvm.ClassFile.FieldType.int), Jvm.Cond.code ({ cls := "com/example/kleinmaschine/kleinmaschine/Position", name := "column", desc := "()J" } : Jvm.MethodName) prog_35_method_7_code (1 : Nat) (Option.some Jvm.ClassFile.FieldType.long), Jvm.Cond.code ({ cls := "com/example/kleinmaschine/kleinmaschine/Statements", name := "finish", desc := "()V" } : Jvm.MethodName) prog_52_method_6_code (1 : Nat) (Option.none : Option Jvm.ClassFile.FieldType), Jvm.Cond.code ({ cls := "com/example/kleinmaschine/kleinmaschine/Statements", name := "moveInto", desc := "([[I)[I" } : Jvm.MethodName) prog_52_method_7_code (5 : Nat) (Option.some (Jvm.ClassFile.FieldType.array Jvm.ClassFile.FieldType.int)), Jvm.Cond.code ({ cls := "java/lang/Math", name := "min", desc := "(II)I" } : Jvm.MethodName) jdk_29_method_69_code (2 : Nat) (Option.some Jvm.ClassFile.FieldType.int), Jvm.Cond.code ({ cls := "com/example/kleinmaschine/kleinmaschine/Statements", name := "operand", desc := "(I)J" } : Jvm.MethodName) prog_52_method_10_code (2 : Nat) (Option.some Jvm.ClassFile.FieldType.long), Jvm.Cond.code ({ cls := "com/example/kleinmaschine/kleinmaschine/Statements", name := "setOperand", desc := "(IJ)V" } : Jvm.MethodName) prog_52_method_4_code (4 : Nat) (Option.none : Option Jvm.ClassFile.FieldType), Jvm.Cond.code ({ cls := "java/util/Objects", name := "checkIndex", desc := "(II)I" } : Jvm.MethodName) jdk_31_method_17_code (2 : Nat) (Option.some Jvm.ClassFile.FieldType.int), Jvm.Cond.code ({ cls := "jdk/internal/util/Preconditions", name := "checkIndex", desc := "(IILjava/util/function/BiFunction;)I" } : Jvm.MethodName) jdk_41_method_11_code (3 : Nat) (Option.some Jvm.ClassFile.FieldType.int)]
set_option maxRecDepth 65536 in
theorem codes_eq : words1.filter isCode = codes1 := rfl
theorem w_codes : ∀ c ∈ words1.filter isCode, c.before args0 about1 = true := by
  rw [codes_eq]
  intro c hc
  simp only [codes1, List.mem_cons, List.not_mem_nil, or_false] at hc
  rcases hc with rfl | rfl | rfl | rfl | rfl | rfl | rfl | rfl | rfl | rfl | rfl | rfl | rfl | rfl | rfl | rfl | rfl | rfl | rfl | rfl | rfl | rfl | rfl | rfl | rfl | rfl | rfl | rfl | rfl | rfl | rfl | rfl
  · exact w_c0
  · exact w_c1
  · exact w_c2
  · exact w_c3
  · exact w_c4
  · exact w_c5
  · exact w_c6
  · exact w_c7
  · exact w_c8
  · exact w_c9
  · exact w_c10
  · exact w_c11
  · exact w_c12
  · exact w_c13
  · exact w_c14
  · exact w_c15
  · exact w_c16
  · exact w_c17
  · exact w_c18
  · exact w_c19
  · exact w_c20
  · exact w_c21
  · exact w_c22
  · exact w_c23
  · exact w_c24
  · exact w_c25
  · exact w_c26
  · exact w_c27
  · exact w_c28
  · exact w_c29
  · exact w_c30
  · exact w_c31
set_option maxRecDepth 65536 in
theorem w_t1 : (words1.take 24).all (fun c => isCode c || c.before args0 about1) = true := by decide +kernel
set_option maxRecDepth 65536 in
theorem w_t2 : ((words1.drop 24).take 24).all (fun c => isCode c || c.before args0 about1) = true := by decide +kernel
set_option maxRecDepth 65536 in
theorem w_t3 : (((words1.drop 24).drop 24).take 24).all (fun c => isCode c || c.before args0 about1) = true := by decide +kernel
set_option maxRecDepth 65536 in
theorem w_t4 : ((((words1.drop 24).drop 24).drop 24).take 24).all (fun c => isCode c || c.before args0 about1) = true := by decide +kernel
set_option maxRecDepth 65536 in
theorem w_t5 : (((((words1.drop 24).drop 24).drop 24).drop 24).take 24).all (fun c => isCode c || c.before args0 about1) = true := by decide +kernel
set_option maxRecDepth 65536 in
theorem w_t6 : ((((((words1.drop 24).drop 24).drop 24).drop 24).drop 24).take 24).all (fun c => isCode c || c.before args0 about1) = true := by decide +kernel
set_option maxRecDepth 65536 in
theorem w_t7 : (((((((words1.drop 24).drop 24).drop 24).drop 24).drop 24).drop 24).take 24).all (fun c => isCode c || c.before args0 about1) = true := by decide +kernel
set_option maxRecDepth 65536 in
theorem w_t8 : ((((((((words1.drop 24).drop 24).drop 24).drop 24).drop 24).drop 24).drop 24).take 24).all (fun c => isCode c || c.before args0 about1) = true := by decide +kernel
set_option maxRecDepth 65536 in
theorem w_t9 : (((((((((words1.drop 24).drop 24).drop 24).drop 24).drop 24).drop 24).drop 24).drop 24).take 24).all (fun c => isCode c || c.before args0 about1) = true := by decide +kernel
set_option maxRecDepth 65536 in
theorem w_t10 : (((((((((words1.drop 24).drop 24).drop 24).drop 24).drop 24).drop 24).drop 24).drop 24).drop 24).all (fun c => isCode c || c.before args0 about1) = true := by decide +kernel
theorem w_tables : (allAtoms (Jvm.Cond.code x code maxLocals ret :: tables_1)).before args0 about1 = true := by
  rw [allAtoms_all]
  show words1.all (fun c => c.before args0 about1) = true
  refine all_split ?_ w_codes
  rw [← List.take_append_drop 24 words1, List.all_append, w_t1, ← List.take_append_drop 24 (words1.drop 24), List.all_append, w_t2, ← List.take_append_drop 24 ((words1.drop 24).drop 24), List.all_append, w_t3, ← List.take_append_drop 24 (((words1.drop 24).drop 24).drop 24), List.all_append, w_t4, ← List.take_append_drop 24 ((((words1.drop 24).drop 24).drop 24).drop 24), List.all_append, w_t5, ← List.take_append_drop 24 (((((words1.drop 24).drop 24).drop 24).drop 24).drop 24), List.all_append, w_t6, ← List.take_append_drop 24 ((((((words1.drop 24).drop 24).drop 24).drop 24).drop 24).drop 24), List.all_append, w_t7, ← List.take_append_drop 24 (((((((words1.drop 24).drop 24).drop 24).drop 24).drop 24).drop 24).drop 24), List.all_append, w_t8, ← List.take_append_drop 24 ((((((((words1.drop 24).drop 24).drop 24).drop 24).drop 24).drop 24).drop 24).drop 24), List.all_append, w_t9, w_t10]
  rfl
set_option maxRecDepth 65536 in
theorem w_rest : rest_1_c.before args0 about1 = true := by decide +kernel
set_option maxRecDepth 65536 in
theorem w_case : (Jvm.Cond.and given_1 narrow_1).before args0 about1 = true := by decide +kernel
theorem w_applies : (headSpec (Jvm.Cond.code x code maxLocals ret :: tables_1) room_1).applies x e0.platform about1 = true :=
  (Spec.applies_iff w_frames).mpr ⟨w_running, w_runnable, w_alone, w_named, w_hears, w_ripe, w_room, w_tables⟩
theorem atStart : AtStart classFile x code maxLocals ret World_1 tables_1 room_1 Calls_1 rest_1 Pre_1 launch0 p0 e0 about1 theMethod args0 below0 :=
  ⟨lists_1, trivial, launch0.admits_env _ _ _, launch0.least_env, fairChoices_fair.cas, fairChoices_fair.clock, w_frames, w_args, w_heap, w_applies, trivial, w_rest, w_case⟩
end start1
theorem witness_1 : WitnessClaimed_1 := ⟨start1.p0, start1.e0, start1.about1, start1.theMethod, start1.args0, start1.below0, start1.atStart⟩
end Jvm.Pilot.@@N@@
