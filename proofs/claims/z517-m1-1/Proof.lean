import JvmDerived
import JvmDerived.Pilot.@@N@@Statement
import JvmDerived.Pilot.@@N@@Code
set_option linter.unusedVariables false
set_option linter.unusedSimpArgs false
namespace Jvm.RoadKit
open Sem ClassFile Op Lib Jvm.Stand Jvm.Free Jvm.LawKit
section New
variable {p : Program} {l : Launch} {e : Env} {R : Room} {s : State} {m : MethodId} {args : Array Value} {below : List Frame} {meth : Method} {c : Code} {T : State} {locs : List Loc} {cells slots : Nat}
theorem retI (X : Stand p l e R s m args below meth c T locs cells slots) (hx : p.tables.exec = Jvm.exec) {pc : Nat} {Ls : Array Slot} {z : Int32} {rest : List Value} (hret : meth.sig.returnType = some .int) (hd : decode c.code pc = .ok (.ireturn, 1)) {fs : List Frame}
    (hl : ∀ (f : JFrame) (acts : List Action), f.method = m → f.locked = none → f.entered = [] → (doReturn e (T.setTop f) acts (some (.int z))).1 = T.setFrames fs) : Steps p.tables e below (T.setTop (mkF m pc Ls (.int z :: rest))) (T.setFrames fs) := by
  have hm' : T.vm.method? m = some meth := X.method'
  have hn : narrow .int (.int z) = .int z := rfl
  show Steps p.tables e below (T.setTop { method := m, pc := pc, locals := Ls, stack := _ :: rest, locked := none }) _
  jvm_step X.here [X.here.top, hx, hd, hm', hret, hn]
  first | (intro acts; rw [hl _ acts rfl rfl rfl]) | rw [hl _ _ rfl rfl rfl]
  exact Steps.refl _
end New
end Jvm.RoadKit
namespace Jvm.Own.Fw
open Sem ClassFile Op Lib Jvm.Stand Jvm.Free Jvm.LawKit Jvm.RoadKit
variable {p : Program} {l : Launch} {e : Env} {R : Room} {s : State} {m : MethodId} {args : Array Value} {below : List Frame} {meth : Method} {c : Code} {T S : State} {G : JFrame} {locs : List Loc} {cells slots : Nat} {pc pc' : Nat} {Ls : Array Slot} {St : List Value}
theorem iloadN {i : Fin 4} {v : Int32} (k : Goes p e below S G T (mkF m pc Ls St)) (X : Stand p l e R s m args below meth c T locs cells slots) (hx : p.tables.exec = Jvm.exec) (hd : decode c.code pc = .ok (.iload_n i, 1)) (hl : Ls[i.val]? = some (.val (.int v))) (hp : pc + 1 = pc') : Goes p e below S G T (mkF m pc' Ls (.int v :: St)) := by
  subst hp; exact fun t q => k t (XS.iloadN X.here hx rfl hd hl q)
theorem iload {i : Nat} {v : Int32} (k : Goes p e below S G T (mkF m pc Ls St)) (X : Stand p l e R s m args below meth c T locs cells slots) (hx : p.tables.exec = Jvm.exec) (hd : decode c.code pc = .ok (.iload i, 2)) (hl : Ls[i]? = some (.val (.int v))) (hp : pc + 2 = pc') : Goes p e below S G T (mkF m pc' Ls (.int v :: St)) := by
  subst hp; exact fun t q => k t (XS.iload X.here hx rfl hd hl q)
theorem aloadN {i : Fin 4} {v : Value} (k : Goes p e below S G T (mkF m pc Ls St)) (X : Stand p l e R s m args below meth c T locs cells slots) (hx : p.tables.exec = Jvm.exec) (hd : decode c.code pc = .ok (.aload_n i, 1)) (hl : Ls[i.val]? = some (.val v)) (hv : v.isRef = true) (hp : pc + 1 = pc') : Goes p e below S G T (mkF m pc' Ls (v :: St)) := by
  subst hp; exact fun t q => k t (XS.aloadN X.here hx rfl hd hl hv q)
theorem aload {i : Nat} {v : Value} (k : Goes p e below S G T (mkF m pc Ls St)) (X : Stand p l e R s m args below meth c T locs cells slots) (hx : p.tables.exec = Jvm.exec) (hd : decode c.code pc = .ok (.aload i, 2)) (hl : Ls[i]? = some (.val v)) (hv : v.isRef = true) (hp : pc + 2 = pc') : Goes p e below S G T (mkF m pc' Ls (v :: St)) := by
  subst hp; exact fun t q => k t (XS.aload X.here hx rfl hd hl hv q)
theorem istoreN {i : Fin 4} {v : Int32} {Ls' : Array Slot} (k : Goes p e below S G T (mkF m pc Ls (.int v :: St))) (X : Stand p l e R s m args below meth c T locs cells slots) (hx : p.tables.exec = Jvm.exec) (hd : decode c.code pc = .ok (.istore_n i, 1)) (hl : storeLocals Ls i.val (.int v) = some Ls') (hp : pc + 1 = pc') : Goes p e below S G T (mkF m pc' Ls' St) := by
  subst hp; exact fun t q => k t (XS.istoreN X.here hx rfl hd rfl hl q)
theorem istore {i : Nat} {v : Int32} {Ls' : Array Slot} (k : Goes p e below S G T (mkF m pc Ls (.int v :: St))) (X : Stand p l e R s m args below meth c T locs cells slots) (hx : p.tables.exec = Jvm.exec) (hd : decode c.code pc = .ok (.istore i, 2)) (hl : storeLocals Ls i (.int v) = some Ls') (hp : pc + 2 = pc') : Goes p e below S G T (mkF m pc' Ls' St) := by
  subst hp; exact fun t q => k t (XS.istore X.here hx rfl hd rfl hl q)
theorem astoreN {i : Fin 4} {v : Value} {Ls' : Array Slot} (k : Goes p e below S G T (mkF m pc Ls (v :: St))) (X : Stand p l e R s m args below meth c T locs cells slots) (hx : p.tables.exec = Jvm.exec) (hd : decode c.code pc = .ok (.astore_n i, 1)) (hv : v.isRef = true) (hl : storeLocals Ls i.val v = some Ls') (hp : pc + 1 = pc') : Goes p e below S G T (mkF m pc' Ls' St) := by
  subst hp; exact fun t q => k t (XS.astoreN X.here hx rfl hd rfl hv hl q)
theorem astore {i : Nat} {v : Value} {Ls' : Array Slot} (k : Goes p e below S G T (mkF m pc Ls (v :: St))) (X : Stand p l e R s m args below meth c T locs cells slots) (hx : p.tables.exec = Jvm.exec) (hd : decode c.code pc = .ok (.astore i, 2)) (hv : v.isRef = true) (hl : storeLocals Ls i v = some Ls') (hp : pc + 2 = pc') : Goes p e below S G T (mkF m pc' Ls' St) := by
  subst hp; exact fun t q => k t (XS.astore X.here hx rfl hd rfl hv hl q)
theorem iconst {i : Int} {z : Int32} (k : Goes p e below S G T (mkF m pc Ls St)) (X : Stand p l e R s m args below meth c T locs cells slots) (hx : p.tables.exec = Jvm.exec) (hd : decode c.code pc = .ok (.iconst i, 1)) (hz : Int32.ofInt i = z) (hp : pc + 1 = pc') : Goes p e below S G T (mkF m pc' Ls (.int z :: St)) := by
  subst hp; exact fun t q => k t (XS.iconst X.here hx rfl hd (hz ▸ q))
theorem bipush {i : Int} {z : Int32} (k : Goes p e below S G T (mkF m pc Ls St)) (X : Stand p l e R s m args below meth c T locs cells slots) (hx : p.tables.exec = Jvm.exec) (hd : decode c.code pc = .ok (.bipush i, 2)) (hz : (Int8.ofInt i).toInt32 = z) (hp : pc + 2 = pc') : Goes p e below S G T (mkF m pc' Ls (.int z :: St)) := by
  subst hp; exact fun t q => k t (XS.bipush X.here hx rfl hd (hz ▸ q))
theorem sipush {i : Int} {z : Int32} (k : Goes p e below S G T (mkF m pc Ls St)) (X : Stand p l e R s m args below meth c T locs cells slots) (hx : p.tables.exec = Jvm.exec) (hd : decode c.code pc = .ok (.sipush i, 3)) (hz : (Int16.ofInt i).toInt32 = z) (hp : pc + 3 = pc') : Goes p e below S G T (mkF m pc' Ls (.int z :: St)) := by
  subst hp; exact fun t q => k t (XS.sipush X.here hx rfl hd (hz ▸ q))
theorem iadd {x y z : Int32} (k : Goes p e below S G T (mkF m pc Ls (.int y :: .int x :: St))) (X : Stand p l e R s m args below meth c T locs cells slots) (hx : p.tables.exec = Jvm.exec) (hd : decode c.code pc = .ok (.iadd, 1)) (hz : x + y = z) (hp : pc + 1 = pc') : Goes p e below S G T (mkF m pc' Ls (.int z :: St)) := by
  subst hp; exact fun t q => k t (XS.iadd X.here hx rfl hd rfl (hz ▸ q))
theorem isub {x y z : Int32} (k : Goes p e below S G T (mkF m pc Ls (.int y :: .int x :: St))) (X : Stand p l e R s m args below meth c T locs cells slots) (hx : p.tables.exec = Jvm.exec) (hd : decode c.code pc = .ok (.isub, 1)) (hz : x - y = z) (hp : pc + 1 = pc') : Goes p e below S G T (mkF m pc' Ls (.int z :: St)) := by
  subst hp; exact fun t q => k t (XS.isub X.here hx rfl hd rfl (hz ▸ q))
theorem iand {x y z : Int32} (k : Goes p e below S G T (mkF m pc Ls (.int y :: .int x :: St))) (X : Stand p l e R s m args below meth c T locs cells slots) (hx : p.tables.exec = Jvm.exec) (hd : decode c.code pc = .ok (.iand, 1)) (hz : x &&& y = z) (hp : pc + 1 = pc') : Goes p e below S G T (mkF m pc' Ls (.int z :: St)) := by
  subst hp; exact fun t q => k t (XS.iand X.here hx rfl hd rfl (hz ▸ q))
theorem ior {x y z : Int32} (k : Goes p e below S G T (mkF m pc Ls (.int y :: .int x :: St))) (X : Stand p l e R s m args below meth c T locs cells slots) (hx : p.tables.exec = Jvm.exec) (hd : decode c.code pc = .ok (.ior, 1)) (hz : x ||| y = z) (hp : pc + 1 = pc') : Goes p e below S G T (mkF m pc' Ls (.int z :: St)) := by
  subst hp; exact fun t q => k t (XS.ior X.here hx rfl hd rfl (hz ▸ q))
theorem ixor {x y z : Int32} (k : Goes p e below S G T (mkF m pc Ls (.int y :: .int x :: St))) (X : Stand p l e R s m args below meth c T locs cells slots) (hx : p.tables.exec = Jvm.exec) (hd : decode c.code pc = .ok (.ixor, 1)) (hz : x ^^^ y = z) (hp : pc + 1 = pc') : Goes p e below S G T (mkF m pc' Ls (.int z :: St)) := by
  subst hp; exact fun t q => k t (XS.ixor X.here hx rfl hd rfl (hz ▸ q))
theorem i2b {x : Int32} {z : Int32} (k : Goes p e below S G T (mkF m pc Ls (.int x :: St))) (X : Stand p l e R s m args below meth c T locs cells slots) (hx : p.tables.exec = Jvm.exec) (hd : decode c.code pc = .ok (.i2b, 1)) (hz : x.toInt8.toInt32 = z) (hp : pc + 1 = pc') : Goes p e below S G T (mkF m pc' Ls (.int z :: St)) := by
  subst hp; exact fun t q => k t (XS.i2b X.here hx rfl hd rfl (hz ▸ q))
theorem i2c {x : Int32} {z : Int32} (k : Goes p e below S G T (mkF m pc Ls (.int x :: St))) (X : Stand p l e R s m args below meth c T locs cells slots) (hx : p.tables.exec = Jvm.exec) (hd : decode c.code pc = .ok (.i2c, 1)) (hz : x.toUInt32.toUInt16.toUInt32.toInt32 = z) (hp : pc + 1 = pc') : Goes p e below S G T (mkF m pc' Ls (.int z :: St)) := by
  subst hp; exact fun t q => k t (XS.i2c X.here hx rfl hd rfl (hz ▸ q))
theorem ishl {x y z : Int32} (k : Goes p e below S G T (mkF m pc Ls (.int y :: .int x :: St))) (X : Stand p l e R s m args below meth c T locs cells slots) (hx : p.tables.exec = Jvm.exec) (hd : decode c.code pc = .ok (.ishl, 1)) (hz : x <<< (y &&& 31) = z) (hp : pc + 1 = pc') : Goes p e below S G T (mkF m pc' Ls (.int z :: St)) := by
  subst hp; exact fun t q => k t (XS.ishl X.here hx rfl hd rfl (hz ▸ q))
theorem ishr {x y z : Int32} (k : Goes p e below S G T (mkF m pc Ls (.int y :: .int x :: St))) (X : Stand p l e R s m args below meth c T locs cells slots) (hx : p.tables.exec = Jvm.exec) (hd : decode c.code pc = .ok (.ishr, 1)) (hz : x >>> (y &&& 31) = z) (hp : pc + 1 = pc') : Goes p e below S G T (mkF m pc' Ls (.int z :: St)) := by
  subst hp; exact fun t q => k t (XS.ishr X.here hx rfl hd rfl (hz ▸ q))
theorem iushr {x y z : Int32} (k : Goes p e below S G T (mkF m pc Ls (.int y :: .int x :: St))) (X : Stand p l e R s m args below meth c T locs cells slots) (hx : p.tables.exec = Jvm.exec) (hd : decode c.code pc = .ok (.iushr, 1)) (hz : (x.toUInt32 >>> (y &&& 31).toUInt32).toInt32 = z) (hp : pc + 1 = pc') : Goes p e below S G T (mkF m pc' Ls (.int z :: St)) := by
  subst hp; exact fun t q => k t (XS.iushr X.here hx rfl hd rfl (hz ▸ q))
theorem irem {x y z : Int32} (k : Goes p e below S G T (mkF m pc Ls (.int y :: .int x :: St))) (X : Stand p l e R s m args below meth c T locs cells slots) (hx : p.tables.exec = Jvm.exec) (hd : decode c.code pc = .ok (.irem, 1)) (hy : y ≠ 0) (hz : x % y = z) (hp : pc + 1 = pc') : Goes p e below S G T (mkF m pc' Ls (.int z :: St)) := by
  subst hp; exact fun t q => k t (iremM X hx rfl hd rfl hy (hz ▸ q))
theorem iinc {i : Nat} {cst : Int} {x z : Int32} {Ls' : Array Slot} (k : Goes p e below S G T (mkF m pc Ls St)) (X : Stand p l e R s m args below meth c T locs cells slots) (hx : p.tables.exec = Jvm.exec) (hd : decode c.code pc = .ok (.iinc i cst, 3)) (hl : Ls[i]? = some (.val (.int x))) (hz : x + Int32.ofInt cst = z) (hl' : storeLocals Ls i (.int z) = some Ls') (hp : pc + 3 = pc') : Goes p e below S G T (mkF m pc' Ls' St) := by
  subst hp; exact fun t q => k t (XS.iinc X.here hx rfl hd hl (hz ▸ hl') q)
theorem dup {v : Value} (k : Goes p e below S G T (mkF m pc Ls (v :: St))) (X : Stand p l e R s m args below meth c T locs cells slots) (hx : p.tables.exec = Jvm.exec) (hd : decode c.code pc = .ok (.dup, 1)) (hc : v.category = 1) (hp : pc + 1 = pc') : Goes p e below S G T (mkF m pc' Ls (v :: v :: St)) := by
  subst hp; exact fun t q => k t (XS.dup X.here hx rfl hd rfl hc q)
theorem pop {v : Value} (k : Goes p e below S G T (mkF m pc Ls (v :: St))) (X : Stand p l e R s m args below meth c T locs cells slots) (hx : p.tables.exec = Jvm.exec) (hd : decode c.code pc = .ok (.pop, 1)) (hc : v.category = 1) (hp : pc + 1 = pc') : Goes p e below S G T (mkF m pc' Ls St) := by
  subst hp; exact fun t q => k t (XS.pop X.here hx rfl hd rfl hc q)
theorem goto {o : Int} (k : Goes p e below S G T (mkF m pc Ls St)) (X : Stand p l e R s m args below meth c T locs cells slots) (hx : p.tables.exec = Jvm.exec) (hd : decode c.code pc = .ok (.goto o, 3)) (ho : 0 ≤ (pc : Int) + o) (hp : ((pc : Int) + o).toNat = pc') : Goes p e below S G T (mkF m pc' Ls St) := fun t q => k t (XS.goto X.here hx rfl rfl hd ho hp q)
theorem ifYes {o : Int} {cd : ClassFile.Cond} {x : Int32} (k : Goes p e below S G T (mkF m pc Ls (.int x :: St))) (X : Stand p l e R s m args below meth c T locs cells slots) (hx : p.tables.exec = Jvm.exec) (hd : decode c.code pc = .ok (.ifCond cd o, 3)) (hc : ifCond.holds cd x = true) (ho : 0 ≤ (pc : Int) + o) (hp : ((pc : Int) + o).toNat = pc') : Goes p e below S G T (mkF m pc' Ls St) := fun t q => k t (XS.ifYes X.here hx rfl rfl hd rfl hc ho hp q)
theorem ifNo {o : Int} {cd : ClassFile.Cond} {x : Int32} (k : Goes p e below S G T (mkF m pc Ls (.int x :: St))) (X : Stand p l e R s m args below meth c T locs cells slots) (hx : p.tables.exec = Jvm.exec) (hd : decode c.code pc = .ok (.ifCond cd o, 3)) (hc : ifCond.holds cd x = false) (hp : pc + 3 = pc') : Goes p e below S G T (mkF m pc' Ls St) := fun t q => k t (XS.ifNo X.here hx rfl hd rfl hc (by subst hp; exact q))
theorem icmpYes {o : Int} {cd : ClassFile.Cond} {x y : Int32} (k : Goes p e below S G T (mkF m pc Ls (.int y :: .int x :: St))) (X : Stand p l e R s m args below meth c T locs cells slots) (hx : p.tables.exec = Jvm.exec) (hd : decode c.code pc = .ok (.if_icmp cd o, 3)) (hc : if_icmp.holds cd x y = true) (ho : 0 ≤ (pc : Int) + o) (hp : ((pc : Int) + o).toNat = pc') : Goes p e below S G T (mkF m pc' Ls St) := fun t q => k t (XS.icmpYes X.here hx rfl rfl hd rfl hc ho hp q)
theorem icmpNo {o : Int} {cd : ClassFile.Cond} {x y : Int32} (k : Goes p e below S G T (mkF m pc Ls (.int y :: .int x :: St))) (X : Stand p l e R s m args below meth c T locs cells slots) (hx : p.tables.exec = Jvm.exec) (hd : decode c.code pc = .ok (.if_icmp cd o, 3)) (hc : if_icmp.holds cd x y = false) (hp : pc + 3 = pc') : Goes p e below S G T (mkF m pc' Ls St) := fun t q => k t (XS.icmpNo X.here hx rfl hd rfl hc (by subst hp; exact q))
theorem ifnonnullYes {o : Int} {b : Addr} (k : Goes p e below S G T (mkF m pc Ls (.ref b :: St))) (X : Stand p l e R s m args below meth c T locs cells slots) (hx : p.tables.exec = Jvm.exec) (hd : decode c.code pc = .ok (.ifnonnull o, 3)) (ho : 0 ≤ (pc : Int) + o) (hp : ((pc : Int) + o).toNat = pc') : Goes p e below S G T (mkF m pc' Ls St) := fun t q => k t (XS.ifnonnullYes X.here hx rfl rfl hd rfl ho hp q)
theorem acmp {cd : ACond} {x y : Value} {o : Int} (k : Goes p e below S G T (mkF m pc Ls (y :: x :: St))) (X : Stand p l e R s m args below meth c T locs cells slots) (hx : p.tables.exec = Jvm.exec) (hd : decode c.code pc = .ok (.if_acmp cd o, 3)) (h1 : x.isRef = true) (h2 : y.isRef = true) (same : Bool) (hq : decide (x = y) = same) (ho : 0 ≤ (pc : Int) + o) (hp : pc' = if acV cd same = true then ((pc : Int) + o).toNat else pc + 3) : Goes p e below S G T (mkF m pc' Ls St) := fun t q => k t (Jvm.RoadKit.acmp (g := mkF m pc Ls (y :: x :: St)) X hx rfl h1 h2 rfl hd rfl hq ho hp q)
end Jvm.Own.Fw
namespace Jvm.Own
open Sem ClassFile Op Lib Jvm.Stand Jvm.Free Jvm.LawKit Jvm.RoadKit
theorem allC {α : Type} {P : α → Prop} {y : α} {L : List α} (q : P y) (r : ∀ x ∈ L, P x) : ∀ x ∈ y :: L, P x := fun x z => (List.mem_cons.mp z).elim (fun u => u ▸ q) (r x)
theorem allN {α : Type} {P : α → Prop} : ∀ x ∈ ([] : List α), P x := fun _ q => nomatch q
def updv (f : Nat → Value) (i : Nat) (v : Value) : Nat → Value := fun j => if j = i then v else f j
theorem fits_default (ty : FieldType) : fits ty (defaultValue ty) = true := by cases ty <;> first | rfl | decide
theorem clampNat (j : Int32) : j.toNatClampNeg = j.toInt.toNat := rfl
theorem own_nnBi2b (x : Int32) : nar .byte (x.toInt8.toInt32) = x.toInt8.toInt32 := by show x.toInt8.toInt32.toInt8.toInt32 = _; simp
theorem own_nnCi2c (x : Int32) : nar .char (x.toUInt32.toUInt16.toUInt32.toInt32) = x.toUInt32.toUInt16.toUInt32.toInt32 := by
  show x.toUInt32.toUInt16.toUInt32.toInt32.toUInt32.toUInt16.toUInt32.toInt32 = _
  generalize x.toUInt32.toUInt16 = u
  simp
theorem own_fitBi2b (x : Int32) : fits .byte (.int (x.toInt8.toInt32)) = true := fits_nar_byte x
end Jvm.Own
namespace Jvm.Own
open Jvm.RoadKit
/-! facts on int terms, for omega: each of the term's equation -/
section Ar
variable {v a b m q : Int32} {w x y : Int64}
theorem e_iadd (e : v = a + b) : (v.toInt - (a.toInt + b.toInt)) % 4294967296 = 0 ∧ -2147483648 ≤ v.toInt ∧ v.toInt < 2147483648 := by subst e; exact ⟨c_iadd _ _, rng32 _⟩
theorem e_isub (e : v = a - b) : (v.toInt - (a.toInt - b.toInt)) % 4294967296 = 0 ∧ -2147483648 ≤ v.toInt ∧ v.toInt < 2147483648 := by subst e; exact ⟨c_isub _ _, rng32 _⟩
theorem e_mask (e : v = a &&& m) (k : Nat) (n : Int) (h : k ≤ 31 ∧ m.toBitVec.toNat = 2 ^ k - 1 ∧ ((2 ^ k : Nat) : Int) = n := by decide) : v.toInt = a.toInt % n := by obtain ⟨h1, h2, rfl⟩ := h; subst e; exact c_mask _ _ k h1 h2
theorem modN (x : Int32) (k : Nat) (hk : k ≤ 31) : x.toInt % (2 ^ k : Nat) = ((x.toBitVec.toNat % 2 ^ k : Nat) : Int) := by
  have h5 : (4294967296 : Int) = ((2 ^ k : Nat) : Int) * ((2 ^ (32 - k) : Nat) : Int) := by rw [← Int.natCast_mul, ← Nat.pow_add, show k + (32 - k) = 32 by omega]; rfl
  show x.toBitVec.toInt % (2 ^ k : Nat) = _
  rw [BitVec.toInt_eq_toNat_cond]
  split
  · exact (Int.natCast_emod _ _).symm
  · rw [show ((2 ^ 32 : Nat) : Int) = 4294967296 from rfl, h5, Int.sub_mul_emod_self_left]; exact (Int.natCast_emod _ _).symm
theorem mask2N (x i d : Nat) : x &&& (2 ^ (i + d) - 2 ^ i) = 2 ^ i * (x / 2 ^ i % 2 ^ d) ∧ x % 2 ^ (i + d) = x % 2 ^ i + 2 ^ i * (x / 2 ^ i % 2 ^ d) := by
  have hm : 2 ^ (i + d) - 2 ^ i = (2 ^ d - 1) <<< i := by rw [Nat.shiftLeft_eq, Nat.sub_mul, Nat.one_mul, ← Nat.pow_add, Nat.add_comm d i]
  have h1 : x &&& ((2 ^ d - 1) <<< i) = ((x >>> i) &&& (2 ^ d - 1)) <<< i := by
    apply Nat.eq_of_testBit_eq
    intro t
    by_cases h : i ≤ t
    · simp [Nat.testBit_and, Nat.testBit_shiftLeft, Nat.testBit_shiftRight, h, Nat.add_sub_cancel' h, Bool.and_comm]
    · simp [Nat.testBit_and, Nat.testBit_shiftLeft, h]
  refine ⟨?_, ?_⟩
  · rw [hm, h1, Nat.and_two_pow_sub_one_eq_mod, Nat.shiftLeft_eq, Nat.shiftRight_eq_div_pow, Nat.mul_comm]
  · rw [Nat.pow_add, Nat.mod_mul]
theorem e_mask2 (e : v = a &&& m) (i d : Nat) (n n' : Int) (h : i + d ≤ 31 ∧ m.toBitVec.toNat = 2 ^ (i + d) - 2 ^ i ∧ ((2 ^ (i + d) : Nat) : Int) = n ∧ ((2 ^ i : Nat) : Int) = n' := by decide) : v.toInt = a.toInt % n - a.toInt % n' := by
  obtain ⟨h1, h2, rfl, rfl⟩ := h
  subst e
  obtain ⟨q1, q2⟩ := mask2N a.toBitVec.toNat i d
  rw [modN a _ h1, modN a _ (by omega), q2]
  have e1 : (a &&& m).toBitVec.toNat = 2 ^ i * (a.toBitVec.toNat / 2 ^ i % 2 ^ d) := by show (a.toBitVec &&& m.toBitVec).toNat = _; rw [BitVec.toNat_and, h2, q1]
  have h3 : a.toBitVec.toNat % 2 ^ (i + d) < 2 ^ (i + d) := Nat.mod_lt _ (Nat.two_pow_pos _)
  have h4 : 2 ^ (i + d) ≤ 2 ^ 31 := Nat.pow_le_pow_right (by decide) h1
  show (a &&& m).toBitVec.toInt = _
  rw [BitVec.toInt_eq_toNat_cond, e1]
  rw [q2] at h3
  generalize 2 ^ i * (a.toBitVec.toNat / 2 ^ i % 2 ^ d) = P at *
  generalize a.toBitVec.toNat % 2 ^ i = r at *
  rw [if_pos (by omega)]
  omega
theorem e_ishr (e : v = a >>> (q &&& 31)) (k : Nat) (n : Int) (h : q.toBitVec.toNat % 32 = k ∧ ((2 ^ k : Nat) : Int) = n := by decide) : v.toInt = a.toInt / n := by obtain ⟨h1, rfl⟩ := h; subst e; exact c_ishr _ _ k h1
theorem e_ishl (e : v = a <<< (q &&& 31)) (k : Nat) (n : Int) (h : q.toBitVec.toNat % 32 = k ∧ ((2 ^ k : Nat) : Int) = n := by decide) : (v.toInt - a.toInt * n) % 4294967296 = 0 ∧ -2147483648 ≤ v.toInt ∧ v.toInt < 2147483648 := by obtain ⟨h1, rfl⟩ := h; subst e; exact ⟨c_ishl _ _ k h1, rng32 _⟩
theorem e_iushr (e : v = (a.toUInt32 >>> (q &&& 31).toUInt32).toInt32) (k : Nat) (n : Int) (h : q.toBitVec.toNat % 32 = k ∧ 0 < k ∧ ((2 ^ k : Nat) : Int) = n := by decide) : v.toInt = (a.toInt % 4294967296) / n := by obtain ⟨h1, h0, rfl⟩ := h; subst e; exact c_iushr _ _ k h1 h0
theorem e_ior' (e : v = b ||| a) (k : Nat) (n : Int) (h : k ≤ 31 ∧ n = (2 ^ k : Nat) := by decide) : a.toInt % n = 0 → 0 ≤ b.toInt → b.toInt < n → (v.toInt - (a.toInt + b.toInt)) % 4294967296 = 0 := by subst e; exact c_or' _ _ k h.1 n h.2
theorem e_i2b (e : v = a.toInt8.toInt32) : (v.toInt - a.toInt) % 256 = 0 ∧ -128 ≤ v.toInt ∧ v.toInt < 128 := by subst e; exact c_i2b _
theorem e_i2c (e : v = a.toUInt32.toUInt16.toUInt32.toInt32) : (v.toInt - a.toInt) % 65536 = 0 ∧ 0 ≤ v.toInt ∧ v.toInt < 65536 := by subst e; exact c_i2c _
theorem e_irem (e : v = a % b) (n : Int) (h : b.toInt = n := by decide) : (0 ≤ a.toInt → v.toInt = a.toInt % n) ∧ (a.toInt < 0 → v.toInt = -((-a.toInt) % n)) := by subst e; exact c_irem _ _ n h
theorem e_hb (e : v = (m ||| a).toInt8.toInt32) (k : Nat) (n K : Int) (h : k ≤ 31 ∧ n = (2 ^ k : Nat) ∧ m.toInt = K ∧ K % n = 0 ∧ 128 ≤ K ∧ K + n ≤ 256 := by decide) : 0 ≤ a.toInt → a.toInt < n → v.toInt = a.toInt + K - 256 := by
  obtain ⟨h1, h2, h3, h4, h5, h6⟩ := h
  intro q1 q2
  subst e
  have c1 := c_or m a k h1 n h2 (by rw [h3]; exact h4) q1 q2
  have c2 := c_i2b (m ||| a)
  have c3 := rng32 (m ||| a)
  rw [h3] at c1
  omega
theorem e_hbN (e : v = (m ||| a).toInt8.toInt32) (k : Nat) (n K : Int) (q : 0 ≤ a.toInt ∧ a.toInt < n) (h : k ≤ 31 ∧ n = (2 ^ k : Nat) ∧ m.toInt = K ∧ K % n = 0 ∧ 128 ≤ K ∧ K + n ≤ 256 := by decide) : v.toInt = a.toInt + K - 256 ∧ K - 256 ≤ v.toInt ∧ v.toInt < K - 256 + n := by
  have := e_hb e k n K h q.1 q.2
  omega
theorem e_lat (e : v = (a.toInt8.toInt32 &&& 255).toUInt32.toUInt16.toUInt32.toInt32) : 0 ≤ a.toInt → a.toInt < 256 → v.toInt = a.toInt := by
  intro q1 q2
  subst e
  have c1 := c_i2b a
  have c2 := e_mask (v := a.toInt8.toInt32 &&& 255) rfl 8 256
  have c3 := c_i2c (a.toInt8.toInt32 &&& 255)
  omega
theorem e_gc (e : v = ((((a >>> ((0 : Int32) &&& 31)).toInt8.toInt32 &&& 255) <<< ((0 : Int32) &&& 31)) ||| (((a >>> ((8 : Int32) &&& 31)).toInt8.toInt32 &&& 255) <<< ((8 : Int32) &&& 31))).toUInt32.toUInt16.toUInt32.toInt32) : 0 ≤ a.toInt → a.toInt < 65536 → v.toInt = a.toInt := by
  intro q1 q2
  subst e
  have a1 := e_ishr (v := a >>> ((0 : Int32) &&& 31)) rfl 0 1
  have a2 := c_i2b (a >>> ((0 : Int32) &&& 31))
  have a3 := e_mask (v := (a >>> ((0 : Int32) &&& 31)).toInt8.toInt32 &&& 255) rfl 8 256
  have a4 := e_ishl (v := ((a >>> ((0 : Int32) &&& 31)).toInt8.toInt32 &&& 255) <<< ((0 : Int32) &&& 31)) rfl 0 1
  have b1 := e_ishr (v := a >>> ((8 : Int32) &&& 31)) rfl 8 256
  have b2 := c_i2b (a >>> ((8 : Int32) &&& 31))
  have b3 := e_mask (v := (a >>> ((8 : Int32) &&& 31)).toInt8.toInt32 &&& 255) rfl 8 256
  have b4 := e_ishl (v := ((a >>> ((8 : Int32) &&& 31)).toInt8.toInt32 &&& 255) <<< ((8 : Int32) &&& 31)) rfl 8 256
  generalize (((a >>> ((0 : Int32) &&& 31)).toInt8.toInt32 &&& 255) <<< ((0 : Int32) &&& 31)) = x at *
  generalize (((a >>> ((8 : Int32) &&& 31)).toInt8.toInt32 &&& 255) <<< ((8 : Int32) &&& 31)) = y at *
  have x1 : x.toInt = a.toInt % 256 := by omega
  have y1 : y.toInt = a.toInt / 256 * 256 := by omega
  have c := e_ior' (v := x ||| y) rfl 8 256 (by decide) (by omega) (by omega) (by omega)
  have d := c_i2c (x ||| y)
  have f := rng32 (x ||| y)
  omega
theorem ofFin {n : Nat} (hn : n ≤ 2147483648) (h1 : 0 ≤ a.toInt) (h2 : a.toInt < n) : ∃ i : Fin n, a = Int32.ofNat i.val ∧ a.toInt = i.val := by
  obtain ⟨k, hk⟩ : ∃ k : Nat, a.toInt = k := ⟨a.toInt.toNat, (Int.toNat_of_nonneg h1).symm⟩
  have hkn : k < n := by omega
  refine ⟨⟨k, hkn⟩, Int32.toInt_inj.mp ?_, hk⟩
  show a.toInt = (Int32.ofNat k).toInt
  rw [Int32.toInt_ofNat_small (by omega), hk]
theorem xorN {a b k : Nat} (ha : a % 2 ^ k = 0) (hb : b < 2 ^ k) : a ^^^ b = a + b := by
  obtain ⟨c, rfl⟩ : ∃ c, a = c <<< k := ⟨a / 2 ^ k, by rw [Nat.shiftLeft_eq]; have := Nat.div_add_mod a (2 ^ k); rw [ha, Nat.add_zero, Nat.mul_comm] at this; exact this.symm⟩
  rw [Nat.shiftLeft_add_eq_or_of_lt hb]
  apply Nat.eq_of_testBit_eq
  intro t
  rw [Nat.testBit_xor, Nat.testBit_or, Nat.testBit_shiftLeft]
  by_cases h : k ≤ t
  · have : b.testBit t = false := Nat.testBit_lt_two_pow (Nat.lt_of_lt_of_le hb (Nat.pow_le_pow_right (by decide) h))
    simp [this]
  · simp [h]
theorem c_xor (a b : Int32) (k : Nat) (n : Int) (hn : n = (2 ^ k : Nat)) : 0 ≤ a.toInt → a.toInt % n = 0 → 0 ≤ b.toInt → b.toInt < n → (a ^^^ b).toInt = a.toInt + b.toInt := by
  intro h1 h2 h3 h4
  subst hn
  have ea : a.toInt = a.toBitVec.toNat := by
    have := a.toBitVec.isLt
    change a.toBitVec.toInt = _
    change 0 ≤ a.toBitVec.toInt at h1
    rw [BitVec.toInt_eq_toNat_cond] at h1 ⊢
    split at h1 <;> split <;> omega
  have eb : b.toInt = b.toBitVec.toNat := by
    have := b.toBitVec.isLt
    change b.toBitVec.toInt = _
    change 0 ≤ b.toBitVec.toInt at h3
    rw [BitVec.toInt_eq_toNat_cond] at h3 ⊢
    split at h3 <;> split <;> omega
  have hA : a.toBitVec.toNat % 2 ^ k = 0 := by rw [ea] at h2; exact_mod_cast h2
  have hB : b.toBitVec.toNat < 2 ^ k := by rw [eb] at h4; exact_mod_cast h4
  have e1 : (a ^^^ b).toBitVec.toNat = a.toBitVec.toNat + b.toBitVec.toNat := by show (a.toBitVec ^^^ b.toBitVec).toNat = _; rw [BitVec.toNat_xor, xorN hA hB]
  have r1 := rng32 a
  have hx : (a.toBitVec.toNat ^^^ b.toBitVec.toNat) < 2 ^ 31 := by
    rcases Nat.lt_or_ge k 31 with q | q
    · refine Nat.xor_lt_two_pow (by omega) ?_
      exact Nat.lt_trans hB (Nat.pow_lt_pow_right (by decide) q)
    · have : a.toBitVec.toNat = 0 := by
        have : a.toBitVec.toNat < 2 ^ k := Nat.lt_of_lt_of_le (by omega) (Nat.pow_le_pow_right (by decide) q)
        rw [Nat.mod_eq_of_lt this] at hA; exact hA
      rw [this, Nat.zero_xor]
      have := rng32 b
      omega
  rw [xorN hA hB] at hx
  show (a ^^^ b).toBitVec.toInt = _
  rw [BitVec.toInt_eq_toNat_cond, e1, if_pos (by omega), ea, eb]
  omega
theorem e_dec2 (e : v = ((((192 ||| a).toInt8.toInt32 <<< ((6 : Int32) &&& 31)) ^^^ (128 ||| b).toInt8.toInt32) ^^^ 3968)) : 0 ≤ a.toInt → a.toInt < 32 → 0 ≤ b.toInt → b.toInt < 64 → v.toInt = a.toInt * 64 + b.toInt := by
  intro h1 h2 h3 h4
  subst e
  obtain ⟨i, rfl, e1⟩ := ofFin (n := 32) (by decide) h1 h2
  obtain ⟨j, rfl, e2⟩ := ofFin (n := 64) (by decide) h3 h4
  rw [e1, e2]
  have : ∀ (i : Fin 32) (j : Fin 64), ((((192 ||| Int32.ofNat i.val).toInt8.toInt32 <<< ((6 : Int32) &&& 31)) ^^^ (128 ||| Int32.ofNat j.val).toInt8.toInt32) ^^^ 3968).toInt = (i.val : Int) * 64 + j.val := by decide +kernel
  exact this i j
theorem b_128 (b : Int32) (h3 : 0 ≤ b.toInt) (h4 : b.toInt < 64) : (128 ||| b).toInt8.toInt32 = b ^^^ (-128) ∧ (128 ||| b).toInt8.toInt32 <<< ((6 : Int32) &&& 31) = (b * 64) ^^^ (-8192) ∧ (128 ||| b).toInt8.toInt32 <<< ((12 : Int32) &&& 31) = (b * 4096) ^^^ (-524288) ∧ (b * 64).toInt = b.toInt * 64 ∧ (b * 4096).toInt = b.toInt * 4096 := by
  obtain ⟨j, rfl, e2⟩ := ofFin (n := 64) (by decide) h3 h4
  have : ∀ (j : Fin 64), (128 ||| Int32.ofNat j.val).toInt8.toInt32 = Int32.ofNat j.val ^^^ (-128) ∧ (128 ||| Int32.ofNat j.val).toInt8.toInt32 <<< ((6 : Int32) &&& 31) = (Int32.ofNat j.val * 64) ^^^ (-8192) ∧ (128 ||| Int32.ofNat j.val).toInt8.toInt32 <<< ((12 : Int32) &&& 31) = (Int32.ofNat j.val * 4096) ^^^ (-524288) ∧ (Int32.ofNat j.val * 64).toInt = (Int32.ofNat j.val).toInt * 64 ∧ (Int32.ofNat j.val * 4096).toInt = (Int32.ofNat j.val).toInt * 4096 := by decide +kernel
  exact this j
theorem b_224 (a : Int32) (h3 : 0 ≤ a.toInt) (h4 : a.toInt < 16) : (224 ||| a).toInt8.toInt32 <<< ((12 : Int32) &&& 31) = (a * 4096) ^^^ (-131072) ∧ (a * 4096).toInt = a.toInt * 4096 := by
  obtain ⟨j, rfl, e2⟩ := ofFin (n := 16) (by decide) h3 h4
  have : ∀ (j : Fin 16), (224 ||| Int32.ofNat j.val).toInt8.toInt32 <<< ((12 : Int32) &&& 31) = (Int32.ofNat j.val * 4096) ^^^ (-131072) ∧ (Int32.ofNat j.val * 4096).toInt = (Int32.ofNat j.val).toInt * 4096 := by decide +kernel
  exact this j
theorem b_240 (a : Int32) (h3 : 0 ≤ a.toInt) (h4 : a.toInt < 8) : (240 ||| a).toInt8.toInt32 <<< ((18 : Int32) &&& 31) = (a * 262144) ^^^ (-4194304) ∧ (a * 262144).toInt = a.toInt * 262144 := by
  obtain ⟨j, rfl, e2⟩ := ofFin (n := 8) (by decide) h3 h4
  have : ∀ (j : Fin 8), (240 ||| Int32.ofNat j.val).toInt8.toInt32 <<< ((18 : Int32) &&& 31) = (Int32.ofNat j.val * 262144) ^^^ (-4194304) ∧ (Int32.ofNat j.val * 262144).toInt = (Int32.ofNat j.val).toInt * 262144 := by decide +kernel
  exact this j
theorem x_perm3 (A B C k1 k2 k3 k4 : Int32) (h : k1 ^^^ k2 ^^^ k3 ^^^ k4 = 0) : ((A ^^^ k1) ^^^ (B ^^^ k2)) ^^^ ((C ^^^ k3) ^^^ k4) = (A ^^^ B) ^^^ C := by
  have : ((A ^^^ k1) ^^^ (B ^^^ k2)) ^^^ ((C ^^^ k3) ^^^ k4) = ((A ^^^ B) ^^^ C) ^^^ (k1 ^^^ k2 ^^^ k3 ^^^ k4) := by
    ac_rfl
  rw [this, h, Int32.xor_zero]
theorem x_perm4 (A B C D k1 k2 k3 k4 k5 : Int32) (h : k1 ^^^ k2 ^^^ k3 ^^^ k4 ^^^ k5 = 0) : (((A ^^^ k1) ^^^ (B ^^^ k2)) ^^^ (C ^^^ k3)) ^^^ ((D ^^^ k4) ^^^ k5) = ((A ^^^ B) ^^^ C) ^^^ D := by
  have : (((A ^^^ k1) ^^^ (B ^^^ k2)) ^^^ (C ^^^ k3)) ^^^ ((D ^^^ k4) ^^^ k5) = (((A ^^^ B) ^^^ C) ^^^ D) ^^^ (k1 ^^^ k2 ^^^ k3 ^^^ k4 ^^^ k5) := by
    ac_rfl
  rw [this, h, Int32.xor_zero]
theorem e_dec3 {d : Int32} (e : v = ((((224 ||| a).toInt8.toInt32 <<< ((12 : Int32) &&& 31)) ^^^ ((128 ||| b).toInt8.toInt32 <<< ((6 : Int32) &&& 31))) ^^^ ((128 ||| d).toInt8.toInt32 ^^^ (-123008)))) : 0 ≤ a.toInt → a.toInt < 16 → 0 ≤ b.toInt → b.toInt < 64 → 0 ≤ d.toInt → d.toInt < 64 → v.toInt = a.toInt * 4096 + b.toInt * 64 + d.toInt := by
  intro h1 h2 h3 h4 h5 h6
  subst e
  obtain ⟨a1, a2⟩ := b_224 a h1 h2
  obtain ⟨-, b1, -, b2, -⟩ := b_128 b h3 h4
  rw [a1, b1, (b_128 d h5 h6).1, x_perm3 _ _ _ _ _ _ _ (by decide)]
  have q1 := c_xor (a * 4096) (b * 64) 12 4096 (by decide) (by omega) (by omega) (by omega) (by omega)
  have q2 := c_xor ((a * 4096) ^^^ (b * 64)) d 6 64 (by decide) (by omega) (by omega) h5 h6
  omega
theorem e_dec4 {d f : Int32} (e : v = (((((240 ||| a).toInt8.toInt32 <<< ((18 : Int32) &&& 31)) ^^^ ((128 ||| b).toInt8.toInt32 <<< ((12 : Int32) &&& 31))) ^^^ ((128 ||| d).toInt8.toInt32 <<< ((6 : Int32) &&& 31))) ^^^ ((128 ||| f).toInt8.toInt32 ^^^ 3678080))) : 0 ≤ a.toInt → a.toInt < 8 → 0 ≤ b.toInt → b.toInt < 64 → 0 ≤ d.toInt → d.toInt < 64 → 0 ≤ f.toInt → f.toInt < 64 → v.toInt = a.toInt * 262144 + b.toInt * 4096 + d.toInt * 64 + f.toInt := by
  intro h1 h2 h3 h4 h5 h6 h7 h8
  subst e
  obtain ⟨a1, a2⟩ := b_240 a h1 h2
  obtain ⟨-, -, b1, -, b2⟩ := b_128 b h3 h4
  obtain ⟨-, d1, -, d2, -⟩ := b_128 d h5 h6
  rw [a1, b1, d1, (b_128 f h7 h8).1, x_perm4 _ _ _ _ _ _ _ _ _ (by decide)]
  have q1 := c_xor (a * 262144) (b * 4096) 18 262144 (by decide) (by omega) (by omega) (by omega) (by omega)
  have q2 := c_xor ((a * 262144) ^^^ (b * 4096)) (d * 64) 12 4096 (by decide) (by omega) (by omega) (by omega) (by omega)
  have q3 := c_xor (((a * 262144) ^^^ (b * 4096)) ^^^ (d * 64)) f 6 64 (by decide) (by omega) (by omega) h7 h8
  omega
theorem e_x11 (e : v = a ^^^ 2048) : 55296 ≤ a.toInt → a.toInt < 57344 → v.toInt = a.toInt - 2048 := by
  intro h1 h2
  subst e
  obtain ⟨i, rfl, e1⟩ := ofFin (n := 57344) (by decide) (by omega) h2
  have : ∀ (j : Fin 2048), (Int32.ofNat (55296 + j.val) ^^^ 2048).toInt = 53248 + (j.val : Int) := by decide +kernel
  have q := this ⟨i.val - 55296, by omega⟩
  simp only [show 55296 + (i.val - 55296) = i.val by omega] at q
  rw [q, e1]; omega
theorem e_iaddN (e : v = a + b) (h : -2147483648 ≤ a.toInt + b.toInt ∧ a.toInt + b.toInt < 2147483648) : v.toInt = a.toInt + b.toInt := by have := e_iadd e; omega
theorem e_isubN (e : v = a - b) (h : -2147483648 ≤ a.toInt - b.toInt ∧ a.toInt - b.toInt < 2147483648) : v.toInt = a.toInt - b.toInt := by have := e_isub e; omega
theorem e_iremN (e : v = a % b) (n : Int) (q : 0 ≤ a.toInt) (h : b.toInt = n := by decide) : v.toInt = a.toInt % n := (e_irem e n h).1 q
theorem e_i2bN (e : v = a.toInt8.toInt32) (q : -128 ≤ a.toInt ∧ a.toInt < 128) : v.toInt = a.toInt := by have := e_i2b e; omega
theorem e_i2cN (e : v = a.toUInt32.toUInt16.toUInt32.toInt32) (q : 0 ≤ a.toInt ∧ a.toInt < 65536) : v.toInt = a.toInt := by have := e_i2c e; omega
theorem i_lt {a b : Int32} (h : a < b) : a.toInt < b.toInt := Int32.lt_iff_toInt_lt.mp h
theorem i_nlt {a b : Int32} (h : ¬ a < b) : ¬ a.toInt < b.toInt := fun q => h (Int32.lt_iff_toInt_lt.mpr q)
theorem i_eq {a b : Int32} (h : a = b) : a.toInt = b.toInt := congrArg Int32.toInt h
theorem i_neq {a b : Int32} (h : ¬ a = b) : ¬ a.toInt = b.toInt := fun q => h (Int32.toInt_inj.mp q)
theorem o_lt {a b : Int32} (h : a.toInt < b.toInt) : a < b := Int32.lt_iff_toInt_lt.mpr h
theorem o_nlt {a b : Int32} (h : ¬ a.toInt < b.toInt) : ¬ a < b := fun q => h (Int32.lt_iff_toInt_lt.mp q)
theorem o_eq {a b : Int32} (h : a.toInt = b.toInt) : a = b := Int32.toInt_inj.mp h
theorem o_neq {a b : Int32} (h : ¬ a.toInt = b.toInt) : ¬ a = b := fun q => h (congrArg Int32.toInt q)
end Ar
end Jvm.Own
namespace Jvm.Own
open Sem ClassFile Op Lib Bundle Jvm.Stand Jvm.Free Jvm.LawKit Jvm.RoadKit
abbrev Dc (B : ByteArray) (pc : Nat) (i : Instr) (len pc' : Nat) : Prop := decode B pc = .ok (i, len) ∧ pc + len = pc'
abbrev Dj (B : ByteArray) (pc : Nat) (i : Instr) (o : Int) (pc' pc'' : Nat) : Prop := decode B pc = .ok (i, 3) ∧ pc + 3 = pc' ∧ 0 ≤ (pc : Int) + o ∧ ((pc : Int) + o).toNat = pc''
def Md (md : Bool) (EL : List (String × Nat)) (s Z : State) (a0 : Array Value) (h0 : Heap) (vm : Vm) (h : Heap) : Prop :=
  (md = false ∧ vm = s.vm) ∨ (md = true ∧ EW Z a0 EL ∧ (∃ k0, s.Since vm k0 ∧ k0 ≤ h.size) ∧ CHr Z EL s.vm h0 vm h)
def Wk (md : Bool) (EL : List (String × Nat)) (p : Program) (l : Launch) (e : Env) (R : Room) (s : State) (m : MethodId) (args : Array Value) (below : List Frame) (meth : Method) (c : Code) (S : State) (G : JFrame) (own : String) (B : ByteArray) (ml : Nat) (mn : String) (rt : Option FieldType) (Z : State) (a0 : Array Value) (n0 : Nat) (h0 : Heap) (vm : Vm) (h : Heap) (cells slots pc : Nat) (Ls : Array Slot) (St : List Value) : Prop :=
  (p.tables.exec = Jvm.exec ∧ c.code = B ∧ c.maxLocals = ml ∧ meth.name = mn ∧ meth.sig.returnType = rt ∧ meth.locks = false) ∧ Z.Warmed39 vm ∧ vm.findClass own = some m.cls ∧ Old Z n0 h ∧ h0.size ≤ h.size ∧ Md md EL s Z a0 h0 vm h ∧
    ∃ T locs, Stand p l e R (s.setVm vm) m args below meth c T locs cells slots ∧ T.heap = h ∧ Fr n0 locs ∧ Goes p e below S G T (mkF m pc Ls St)
section Wk
variable {md : Bool} {EL : List (String × Nat)} {p : Program} {l : Launch} {e : Env} {R : Room} {s : State} {m : MethodId} {args : Array Value} {below : List Frame} {meth : Method} {c : Code} {S : State} {G : JFrame} {own : String} {B : ByteArray} {ml : Nat} {mn : String} {rt : Option FieldType} {Z : State} {a0 : Array Value} {n0 : Nat} {h0 : Heap} {vm : Vm} {h h' : Heap} {cells slots pc pc' : Nat} {Ls Ls' : Array Slot} {St St' : List Value}
theorem Md.keep {ws : List Addr} (M : Md md EL s Z a0 h0 vm h) (K : Keep h h' ws) (hs : md = false ∨ ∀ w ∈ ws, Safe Z EL vm h w) : Md md EL s Z a0 h0 vm h' := by
  rcases M with ⟨e, q⟩ | ⟨e, w, ⟨k0, q1, q2⟩, q3⟩
  · exact Or.inl ⟨e, q⟩
  · rcases hs with hs | hs
    · rw [hs] at e; cases e
    · exact Or.inr ⟨e, w, ⟨k0, q1, Nat.le_trans q2 K.1⟩, q3.trans (CHr.keep K hs q3.1)⟩
theorem Wk.old (k : Wk md EL p l e R s m args below meth c S G own B ml mn rt Z a0 n0 h0 vm h cells slots pc Ls St) : Old Z n0 h := k.2.2.2.1
theorem Wk.sz (k : Wk md EL p l e R s m args below meth c S G own B ml mn rt Z a0 n0 h0 vm h cells slots pc Ls St) : h0.size ≤ h.size := k.2.2.2.2.1
theorem Wk.n0le (k : Wk md EL p l e R s m args below meth c S G own B ml mn rt Z a0 n0 h0 vm h cells slots pc Ls St) : n0 ≤ h.size := k.old.1 ▸ k.old.2.1
theorem Wk.al (k : Wk md EL p l e R s m args below meth c S G own B ml mn rt Z a0 n0 h0 vm h cells slots pc Ls St) : Z.vm.Alike vm := k.2.1.alike
theorem Wk.chv (k : Wk true EL p l e R s m args below meth c S G own B ml mn rt Z a0 n0 h0 vm h cells slots pc Ls St) : CHv Z EL vm h := by
  rcases k.2.2.2.2.2.1 with ⟨q, -⟩ | ⟨-, -, -, q⟩
  · cases q
  · exact q.1
theorem Wk.plain (k : Wk md EL p l e R s m args below meth c S G own B ml mn rt Z a0 n0 h0 vm h cells slots pc Ls St)
    (f : ∀ {s' T locs}, Stand p l e R s' m args below meth c T locs cells slots → p.tables.exec = Jvm.exec → c.code = B → Goes p e below S G T (mkF m pc Ls St) → Goes p e below S G T (mkF m pc' Ls' St')) :
    Wk md EL p l e R s m args below meth c S G own B ml mn rt Z a0 n0 h0 vm h cells slots pc' Ls' St' := by
  obtain ⟨q1, q2, q3, q4, q5, q6, T, locs, X, eT, N, g⟩ := k
  exact ⟨q1, q2, q3, q4, q5, q6, T, locs, X, eT, N, f X q1.1 q1.2.1 g⟩
theorem Wk.same (k : Wk md EL p l e R s m args below meth c S G own B ml mn rt Z a0 n0 h0 vm h cells slots pc Ls St)
    (f : ∀ {s' : State} {T locs}, Stand p l e R s' m args below meth c T locs cells slots → p.tables.exec = Jvm.exec → c.code = B → c.maxLocals = ml → Z.Warmed39 s'.vm → s'.vm.findClass own = some m.cls → T.heap = h →
      ∃ T', Stand p l e R s' m args below meth c T' locs cells slots ∧ T'.heap = h ∧ ∀ target, Steps p.tables e below (T'.setTop (mkF m pc' Ls' St')) target → Steps p.tables e below (T.setTop (mkF m pc Ls St)) target) :
    Wk md EL p l e R s m args below meth c S G own B ml mn rt Z a0 n0 h0 vm h cells slots pc' Ls' St' := by
  obtain ⟨q1, q2, q3, q4, q5, q6, T, locs, X, eT, N, g⟩ := k
  obtain ⟨T', X', eT', st⟩ := f X q1.1 q1.2.1 q1.2.2.1 q2 q3 eT
  exact ⟨q1, q2, q3, q4, q5, q6, T', locs, X', eT', N, fun t q => g t (st t q)⟩
theorem Wk.grow {cells' slots' : Nat} (k : Wk md EL p l e R s m args below meth c S G own B ml mn rt Z a0 n0 h0 vm h cells slots pc Ls St) {P : Heap → Prop}
    (f : ∀ {s' : State} {T locs}, Stand p l e R s' m args below meth c T locs cells slots → p.tables.exec = Jvm.exec → c.code = B → Z.Warmed39 s'.vm → s'.vm.findClass own = some m.cls → T.heap = h →
      ∃ T' h', Stand p l e R s' m args below meth c T' locs cells' slots' ∧ T'.heap = h' ∧ Ext h h' ∧ P h' ∧ ∀ target, Steps p.tables e below (T'.setTop (mkF m pc' Ls' St')) target → Steps p.tables e below (T.setTop (mkF m pc Ls St)) target) :
    ∃ h', Keep h h' [] ∧ P h' ∧ Wk md EL p l e R s m args below meth c S G own B ml mn rt Z a0 n0 h0 vm h' cells' slots' pc' Ls' St' := by
  obtain ⟨q1, q2, q3, q4, q5, q6, T, locs, X, eT, N, g⟩ := k
  obtain ⟨T', h', X', eT', E, hP, st⟩ := f X q1.1 q1.2.1 q2 q3 eT
  have K : Keep h h' [] := (Keep.refl h []).ext E
  exact ⟨h', K, hP, q1, q2, q3, q4.ext E, Nat.le_trans q5 E.1, q6.keep K (Or.inr fun _ z => nomatch z), T', locs, X', eT', N, fun t q => g t (st t q)⟩
theorem Wk.write {a : Addr} {sl : Nat} {v : Value} (k : Wk md EL p l e R s m args below meth c S G own B ml mn rt Z a0 n0 h0 vm h cells slots pc Ls St) (ha : n0 ≤ a) (hs : md = false ∨ Safe Z EL vm h a)
    (f : ∀ {s' : State} {T locs}, Stand p l e R s' m args below meth c T locs cells slots → p.tables.exec = Jvm.exec → c.code = B → meth.name = mn → Z.Warmed39 s'.vm → s'.vm.findClass own = some m.cls → T.heap = h →
      ∃ T' h', Stand p l e R s' m args below meth c T' (locs ++ [⟨a, sl⟩]) cells slots ∧ T'.heap = h' ∧ Wr h h' a sl v ∧ ∀ target, Steps p.tables e below (T'.setTop (mkF m pc' Ls' St')) target → Steps p.tables e below (T.setTop (mkF m pc Ls St)) target) :
    ∃ h', Wr h h' a sl v ∧ Wk md EL p l e R s m args below meth c S G own B ml mn rt Z a0 n0 h0 vm h' cells slots pc' Ls' St' := by
  obtain ⟨q1, q2, q3, q4, q5, q6, T, locs, X, eT, N, g⟩ := k
  obtain ⟨T', h', X', eT', W, st⟩ := f X q1.1 q1.2.1 q1.2.2.2.1 q2 q3 eT
  have K : Keep h h' [a] := Keep.of_wr W
  exact ⟨h', W, q1, q2, q3, q4.wr W ha, Nat.le_trans q5 K.1, q6.keep K (hs.imp id fun z w hw => by cases List.mem_singleton.mp hw; exact z), T', _, X', eT', Fr.snoc X' N ha, fun t q => g t (st t q)⟩
namespace Wk
theorem iloadN {i : Fin 4} {v : Int32} (k : Wk md EL p l e R s m args below meth c S G own B ml mn rt Z a0 n0 h0 vm h cells slots pc Ls St) (hd : Dc B pc (.iload_n i) 1 pc') (hl : Ls[i.val]? = some (.val (.int v))) : Wk md EL p l e R s m args below meth c S G own B ml mn rt Z a0 n0 h0 vm h cells slots pc' Ls (.int v :: St) :=
  k.plain fun X hx hb g => Fw.iloadN g X hx (by rw [hb]; exact hd.1) hl hd.2
theorem iload {i : Nat} {v : Int32} (k : Wk md EL p l e R s m args below meth c S G own B ml mn rt Z a0 n0 h0 vm h cells slots pc Ls St) (hd : Dc B pc (.iload i) 2 pc') (hl : Ls[i]? = some (.val (.int v))) : Wk md EL p l e R s m args below meth c S G own B ml mn rt Z a0 n0 h0 vm h cells slots pc' Ls (.int v :: St) :=
  k.plain fun X hx hb g => Fw.iload g X hx (by rw [hb]; exact hd.1) hl hd.2
theorem aloadN {i : Fin 4} {v : Value} (k : Wk md EL p l e R s m args below meth c S G own B ml mn rt Z a0 n0 h0 vm h cells slots pc Ls St) (hd : Dc B pc (.aload_n i) 1 pc') (hl : Ls[i.val]? = some (.val v)) (hv : v.isRef = true) : Wk md EL p l e R s m args below meth c S G own B ml mn rt Z a0 n0 h0 vm h cells slots pc' Ls (v :: St) :=
  k.plain fun X hx hb g => Fw.aloadN g X hx (by rw [hb]; exact hd.1) hl hv hd.2
theorem aload {i : Nat} {v : Value} (k : Wk md EL p l e R s m args below meth c S G own B ml mn rt Z a0 n0 h0 vm h cells slots pc Ls St) (hd : Dc B pc (.aload i) 2 pc') (hl : Ls[i]? = some (.val v)) (hv : v.isRef = true) : Wk md EL p l e R s m args below meth c S G own B ml mn rt Z a0 n0 h0 vm h cells slots pc' Ls (v :: St) :=
  k.plain fun X hx hb g => Fw.aload g X hx (by rw [hb]; exact hd.1) hl hv hd.2
theorem istoreN {i : Fin 4} {v : Int32} {Ls' : Array Slot} (k : Wk md EL p l e R s m args below meth c S G own B ml mn rt Z a0 n0 h0 vm h cells slots pc Ls (.int v :: St)) (hd : Dc B pc (.istore_n i) 1 pc') (hl : storeLocals Ls i.val (.int v) = some Ls') : Wk md EL p l e R s m args below meth c S G own B ml mn rt Z a0 n0 h0 vm h cells slots pc' Ls' St :=
  k.plain fun X hx hb g => Fw.istoreN g X hx (by rw [hb]; exact hd.1) hl hd.2
theorem istore {i : Nat} {v : Int32} {Ls' : Array Slot} (k : Wk md EL p l e R s m args below meth c S G own B ml mn rt Z a0 n0 h0 vm h cells slots pc Ls (.int v :: St)) (hd : Dc B pc (.istore i) 2 pc') (hl : storeLocals Ls i (.int v) = some Ls') : Wk md EL p l e R s m args below meth c S G own B ml mn rt Z a0 n0 h0 vm h cells slots pc' Ls' St :=
  k.plain fun X hx hb g => Fw.istore g X hx (by rw [hb]; exact hd.1) hl hd.2
theorem astoreN {i : Fin 4} {v : Value} {Ls' : Array Slot} (k : Wk md EL p l e R s m args below meth c S G own B ml mn rt Z a0 n0 h0 vm h cells slots pc Ls (v :: St)) (hd : Dc B pc (.astore_n i) 1 pc') (hv : v.isRef = true) (hl : storeLocals Ls i.val v = some Ls') : Wk md EL p l e R s m args below meth c S G own B ml mn rt Z a0 n0 h0 vm h cells slots pc' Ls' St :=
  k.plain fun X hx hb g => Fw.astoreN g X hx (by rw [hb]; exact hd.1) hv hl hd.2
theorem astore {i : Nat} {v : Value} {Ls' : Array Slot} (k : Wk md EL p l e R s m args below meth c S G own B ml mn rt Z a0 n0 h0 vm h cells slots pc Ls (v :: St)) (hd : Dc B pc (.astore i) 2 pc') (hv : v.isRef = true) (hl : storeLocals Ls i v = some Ls') : Wk md EL p l e R s m args below meth c S G own B ml mn rt Z a0 n0 h0 vm h cells slots pc' Ls' St :=
  k.plain fun X hx hb g => Fw.astore g X hx (by rw [hb]; exact hd.1) hv hl hd.2
theorem iconst {i : Int} (k : Wk md EL p l e R s m args below meth c S G own B ml mn rt Z a0 n0 h0 vm h cells slots pc Ls St) (hd : Dc B pc (.iconst i) 1 pc') (z : Int32) (hz : Int32.ofInt i = z := by decide) : Wk md EL p l e R s m args below meth c S G own B ml mn rt Z a0 n0 h0 vm h cells slots pc' Ls (.int z :: St) :=
  k.plain fun X hx hb g => Fw.iconst g X hx (by rw [hb]; exact hd.1) hz hd.2
theorem bipush {i : Int} (k : Wk md EL p l e R s m args below meth c S G own B ml mn rt Z a0 n0 h0 vm h cells slots pc Ls St) (hd : Dc B pc (.bipush i) 2 pc') (z : Int32) (hz : (Int8.ofInt i).toInt32 = z := by decide) : Wk md EL p l e R s m args below meth c S G own B ml mn rt Z a0 n0 h0 vm h cells slots pc' Ls (.int z :: St) :=
  k.plain fun X hx hb g => Fw.bipush g X hx (by rw [hb]; exact hd.1) hz hd.2
theorem sipush {i : Int} (k : Wk md EL p l e R s m args below meth c S G own B ml mn rt Z a0 n0 h0 vm h cells slots pc Ls St) (hd : Dc B pc (.sipush i) 3 pc') (z : Int32) (hz : (Int16.ofInt i).toInt32 = z := by decide) : Wk md EL p l e R s m args below meth c S G own B ml mn rt Z a0 n0 h0 vm h cells slots pc' Ls (.int z :: St) :=
  k.plain fun X hx hb g => Fw.sipush g X hx (by rw [hb]; exact hd.1) hz hd.2
theorem iadd {x y z : Int32} (k : Wk md EL p l e R s m args below meth c S G own B ml mn rt Z a0 n0 h0 vm h cells slots pc Ls (.int y :: .int x :: St)) (hd : Dc B pc (.iadd) 1 pc') (hz : x + y = z) : Wk md EL p l e R s m args below meth c S G own B ml mn rt Z a0 n0 h0 vm h cells slots pc' Ls (.int z :: St) :=
  k.plain fun X hx hb g => Fw.iadd g X hx (by rw [hb]; exact hd.1) hz hd.2
theorem isub {x y z : Int32} (k : Wk md EL p l e R s m args below meth c S G own B ml mn rt Z a0 n0 h0 vm h cells slots pc Ls (.int y :: .int x :: St)) (hd : Dc B pc (.isub) 1 pc') (hz : x - y = z) : Wk md EL p l e R s m args below meth c S G own B ml mn rt Z a0 n0 h0 vm h cells slots pc' Ls (.int z :: St) :=
  k.plain fun X hx hb g => Fw.isub g X hx (by rw [hb]; exact hd.1) hz hd.2
theorem iand {x y z : Int32} (k : Wk md EL p l e R s m args below meth c S G own B ml mn rt Z a0 n0 h0 vm h cells slots pc Ls (.int y :: .int x :: St)) (hd : Dc B pc (.iand) 1 pc') (hz : x &&& y = z) : Wk md EL p l e R s m args below meth c S G own B ml mn rt Z a0 n0 h0 vm h cells slots pc' Ls (.int z :: St) :=
  k.plain fun X hx hb g => Fw.iand g X hx (by rw [hb]; exact hd.1) hz hd.2
theorem ior {x y z : Int32} (k : Wk md EL p l e R s m args below meth c S G own B ml mn rt Z a0 n0 h0 vm h cells slots pc Ls (.int y :: .int x :: St)) (hd : Dc B pc (.ior) 1 pc') (hz : x ||| y = z) : Wk md EL p l e R s m args below meth c S G own B ml mn rt Z a0 n0 h0 vm h cells slots pc' Ls (.int z :: St) :=
  k.plain fun X hx hb g => Fw.ior g X hx (by rw [hb]; exact hd.1) hz hd.2
theorem ixor {x y z : Int32} (k : Wk md EL p l e R s m args below meth c S G own B ml mn rt Z a0 n0 h0 vm h cells slots pc Ls (.int y :: .int x :: St)) (hd : Dc B pc (.ixor) 1 pc') (hz : x ^^^ y = z) : Wk md EL p l e R s m args below meth c S G own B ml mn rt Z a0 n0 h0 vm h cells slots pc' Ls (.int z :: St) :=
  k.plain fun X hx hb g => Fw.ixor g X hx (by rw [hb]; exact hd.1) hz hd.2
theorem i2b {x : Int32} {z : Int32} (k : Wk md EL p l e R s m args below meth c S G own B ml mn rt Z a0 n0 h0 vm h cells slots pc Ls (.int x :: St)) (hd : Dc B pc (.i2b) 1 pc') (hz : x.toInt8.toInt32 = z) : Wk md EL p l e R s m args below meth c S G own B ml mn rt Z a0 n0 h0 vm h cells slots pc' Ls (.int z :: St) :=
  k.plain fun X hx hb g => Fw.i2b g X hx (by rw [hb]; exact hd.1) hz hd.2
theorem i2c {x : Int32} {z : Int32} (k : Wk md EL p l e R s m args below meth c S G own B ml mn rt Z a0 n0 h0 vm h cells slots pc Ls (.int x :: St)) (hd : Dc B pc (.i2c) 1 pc') (hz : x.toUInt32.toUInt16.toUInt32.toInt32 = z) : Wk md EL p l e R s m args below meth c S G own B ml mn rt Z a0 n0 h0 vm h cells slots pc' Ls (.int z :: St) :=
  k.plain fun X hx hb g => Fw.i2c g X hx (by rw [hb]; exact hd.1) hz hd.2
theorem ishl {x y z : Int32} (k : Wk md EL p l e R s m args below meth c S G own B ml mn rt Z a0 n0 h0 vm h cells slots pc Ls (.int y :: .int x :: St)) (hd : Dc B pc (.ishl) 1 pc') (hz : x <<< (y &&& 31) = z) : Wk md EL p l e R s m args below meth c S G own B ml mn rt Z a0 n0 h0 vm h cells slots pc' Ls (.int z :: St) :=
  k.plain fun X hx hb g => Fw.ishl g X hx (by rw [hb]; exact hd.1) hz hd.2
theorem ishr {x y z : Int32} (k : Wk md EL p l e R s m args below meth c S G own B ml mn rt Z a0 n0 h0 vm h cells slots pc Ls (.int y :: .int x :: St)) (hd : Dc B pc (.ishr) 1 pc') (hz : x >>> (y &&& 31) = z) : Wk md EL p l e R s m args below meth c S G own B ml mn rt Z a0 n0 h0 vm h cells slots pc' Ls (.int z :: St) :=
  k.plain fun X hx hb g => Fw.ishr g X hx (by rw [hb]; exact hd.1) hz hd.2
theorem iushr {x y z : Int32} (k : Wk md EL p l e R s m args below meth c S G own B ml mn rt Z a0 n0 h0 vm h cells slots pc Ls (.int y :: .int x :: St)) (hd : Dc B pc (.iushr) 1 pc') (hz : (x.toUInt32 >>> (y &&& 31).toUInt32).toInt32 = z) : Wk md EL p l e R s m args below meth c S G own B ml mn rt Z a0 n0 h0 vm h cells slots pc' Ls (.int z :: St) :=
  k.plain fun X hx hb g => Fw.iushr g X hx (by rw [hb]; exact hd.1) hz hd.2
theorem irem {x y z : Int32} (k : Wk md EL p l e R s m args below meth c S G own B ml mn rt Z a0 n0 h0 vm h cells slots pc Ls (.int y :: .int x :: St)) (hd : Dc B pc (.irem) 1 pc') (hy : y ≠ 0) (hz : x % y = z) : Wk md EL p l e R s m args below meth c S G own B ml mn rt Z a0 n0 h0 vm h cells slots pc' Ls (.int z :: St) :=
  k.plain fun X hx hb g => Fw.irem g X hx (by rw [hb]; exact hd.1) hy hz hd.2
theorem iinc {i : Nat} {cst : Int} {x z : Int32} {Ls' : Array Slot} (k : Wk md EL p l e R s m args below meth c S G own B ml mn rt Z a0 n0 h0 vm h cells slots pc Ls St) (hd : Dc B pc (.iinc i cst) 3 pc') (hl : Ls[i]? = some (.val (.int x))) (hz : x + Int32.ofInt cst = z) (hl' : storeLocals Ls i (.int z) = some Ls') : Wk md EL p l e R s m args below meth c S G own B ml mn rt Z a0 n0 h0 vm h cells slots pc' Ls' St :=
  k.plain fun X hx hb g => Fw.iinc g X hx (by rw [hb]; exact hd.1) hl hz hl' hd.2
theorem dup {v : Value} (k : Wk md EL p l e R s m args below meth c S G own B ml mn rt Z a0 n0 h0 vm h cells slots pc Ls (v :: St)) (hd : Dc B pc (.dup) 1 pc') (hc : v.category = 1) : Wk md EL p l e R s m args below meth c S G own B ml mn rt Z a0 n0 h0 vm h cells slots pc' Ls (v :: v :: St) :=
  k.plain fun X hx hb g => Fw.dup g X hx (by rw [hb]; exact hd.1) hc hd.2
theorem pop {v : Value} (k : Wk md EL p l e R s m args below meth c S G own B ml mn rt Z a0 n0 h0 vm h cells slots pc Ls (v :: St)) (hd : Dc B pc (.pop) 1 pc') (hc : v.category = 1) : Wk md EL p l e R s m args below meth c S G own B ml mn rt Z a0 n0 h0 vm h cells slots pc' Ls St :=
  k.plain fun X hx hb g => Fw.pop g X hx (by rw [hb]; exact hd.1) hc hd.2
theorem goto {pc'' : Nat} {o : Int} (k : Wk md EL p l e R s m args below meth c S G own B ml mn rt Z a0 n0 h0 vm h cells slots pc Ls St) (hd : Dj B pc (.goto o) o pc' pc'') : Wk md EL p l e R s m args below meth c S G own B ml mn rt Z a0 n0 h0 vm h cells slots pc'' Ls St :=
  k.plain fun X hx hb g => Fw.goto g X hx (by rw [hb]; exact hd.1) hd.2.2.1 hd.2.2.2
theorem ifYes {pc'' : Nat} {o : Int} {cd : ClassFile.Cond} {x : Int32} (k : Wk md EL p l e R s m args below meth c S G own B ml mn rt Z a0 n0 h0 vm h cells slots pc Ls (.int x :: St)) (hd : Dj B pc (.ifCond cd o) o pc' pc'') (hc : ifCond.holds cd x = true) : Wk md EL p l e R s m args below meth c S G own B ml mn rt Z a0 n0 h0 vm h cells slots pc'' Ls St :=
  k.plain fun X hx hb g => Fw.ifYes g X hx (by rw [hb]; exact hd.1) hc hd.2.2.1 hd.2.2.2
theorem ifNo {pc'' : Nat} {o : Int} {cd : ClassFile.Cond} {x : Int32} (k : Wk md EL p l e R s m args below meth c S G own B ml mn rt Z a0 n0 h0 vm h cells slots pc Ls (.int x :: St)) (hd : Dj B pc (.ifCond cd o) o pc' pc'') (hc : ifCond.holds cd x = false) : Wk md EL p l e R s m args below meth c S G own B ml mn rt Z a0 n0 h0 vm h cells slots pc' Ls St :=
  k.plain fun X hx hb g => Fw.ifNo g X hx (by rw [hb]; exact hd.1) hc hd.2.1
theorem icmpYes {pc'' : Nat} {o : Int} {cd : ClassFile.Cond} {x y : Int32} (k : Wk md EL p l e R s m args below meth c S G own B ml mn rt Z a0 n0 h0 vm h cells slots pc Ls (.int y :: .int x :: St)) (hd : Dj B pc (.if_icmp cd o) o pc' pc'') (hc : if_icmp.holds cd x y = true) : Wk md EL p l e R s m args below meth c S G own B ml mn rt Z a0 n0 h0 vm h cells slots pc'' Ls St :=
  k.plain fun X hx hb g => Fw.icmpYes g X hx (by rw [hb]; exact hd.1) hc hd.2.2.1 hd.2.2.2
theorem icmpNo {pc'' : Nat} {o : Int} {cd : ClassFile.Cond} {x y : Int32} (k : Wk md EL p l e R s m args below meth c S G own B ml mn rt Z a0 n0 h0 vm h cells slots pc Ls (.int y :: .int x :: St)) (hd : Dj B pc (.if_icmp cd o) o pc' pc'') (hc : if_icmp.holds cd x y = false) : Wk md EL p l e R s m args below meth c S G own B ml mn rt Z a0 n0 h0 vm h cells slots pc' Ls St :=
  k.plain fun X hx hb g => Fw.icmpNo g X hx (by rw [hb]; exact hd.1) hc hd.2.1
theorem ifnonnullYes {pc'' : Nat} {o : Int} {b : Addr} (k : Wk md EL p l e R s m args below meth c S G own B ml mn rt Z a0 n0 h0 vm h cells slots pc Ls (.ref b :: St)) (hd : Dj B pc (.ifnonnull o) o pc' pc'') : Wk md EL p l e R s m args below meth c S G own B ml mn rt Z a0 n0 h0 vm h cells slots pc'' Ls St :=
  k.plain fun X hx hb g => Fw.ifnonnullYes g X hx (by rw [hb]; exact hd.1) hd.2.2.1 hd.2.2.2
theorem acmpNo {pc'' : Nat} {cd : ACond} {x y : Value} {o : Int} (k : Wk md EL p l e R s m args below meth c S G own B ml mn rt Z a0 n0 h0 vm h cells slots pc Ls (y :: x :: St)) (hd : Dj B pc (.if_acmp cd o) o pc' pc'') (h1 : x.isRef = true) (h2 : y.isRef = true) (same : Bool) (hq : decide (x = y) = same) (ha : acV cd same = false) : Wk md EL p l e R s m args below meth c S G own B ml mn rt Z a0 n0 h0 vm h cells slots pc' Ls St :=
  k.plain fun X hx hb g => Fw.acmp g X hx (by rw [hb]; exact hd.1) h1 h2 same hq hd.2.2.1 (by rw [ha]; exact hd.2.1.symm)
end Wk
end Wk
/-! objects and arrays -/
section Objs
variable {Z : State} {h h' : Heap} {a b : Addr} {a0 : Array Value} {L : String × List (String × String × String × Value)} {vs vs' : List Value}
abbrev Lay : Type := String × List (String × String × String × Value)
def LOk (Z : State) (a0 : Array Value) (L : Lay) : Prop :=
  (∀ q ∈ L.2, Laid Z a0 L.1 q.1 q.2.1 q.2.2.1 ∧ ∃ t, parseFieldDescriptor q.2.2.1 = some t ∧ defaultValue t = q.2.2.2) ∧ (L.2.map fun q => q.2.1).Nodup
def Obj (Z : State) (h : Heap) (a : Addr) (L : Lay) (vs : List Value) : Prop :=
  Exa Z h a L.1 ∧ vs.length = L.2.length ∧ ∀ (i : Nat) (q : String × String × String × Value) (v : Value), L.2[i]? = some q → vs[i]? = some v → Fld Z h a q.1 q.2.1 q.2.2.1 v
theorem Obj.lt (O : Obj Z h a L vs) : a < h.size := O.1.lt
theorem Obj.exa (O : Obj Z h a L vs) : Exa Z h a L.1 := O.1
theorem Obj.keep {ws : List Addr} (O : Obj Z h a L vs) (W : Keep h h' ws) (n : a ∉ ws) : Obj Z h' a L vs := ⟨O.1.keep W, O.2.1, fun i q v q1 q2 => (O.2.2 i q v q1 q2).keep W n⟩
theorem Obj.ext (O : Obj Z h a L vs) (E : Ext h h') : Obj Z h' a L vs := ⟨O.1.ext E, O.2.1, fun i q v q1 q2 => (O.2.2 i q v q1 q2).ext E⟩
theorem Obj.at (O : Obj Z h a L vs) (i : Nat) {C f d : String} {v w : Value} (e : L.2[i]? = some (C, f, d, w)) (e' : vs[i]? = some v) : Fld Z h a C f d v := O.2.2 i _ v e e'
theorem Obj.put (O : Obj Z h a L vs) (K : LOk Z a0 L) (k : Nat) {C f d : String} {v w : Value} (e : L.2[k]? = some (C, f, d, w)) (W : Wr h h' a (Jvm.RoadKit.slotOf Z C f d) v) : Obj Z h' a L (vs.set k v) := by
  obtain ⟨O1, O2, O3⟩ := O
  refine ⟨O1.wr W, by rw [List.length_set]; exact O2, fun j q u hj hu => ?_⟩
  have hk : k < vs.length := by rw [O2]; exact (List.getElem?_eq_some_iff.mp e).1
  by_cases hne : k = j
  · subst hne
    cases hj.symm.trans e
    rw [List.getElem?_set_self hk] at hu
    cases hu
    exact (O3 k _ _ e (List.getElem?_eq_getElem hk)).same W
  · rw [List.getElem?_set_ne hne] at hu
    obtain ⟨l1, t1, ht1, -⟩ := K.1 _ (List.mem_of_getElem? hj)
    obtain ⟨l2, t2, ht2, -⟩ := K.1 _ (List.mem_of_getElem? e)
    refine (O3 j q u hj hu).other W (Or.inr (Jvm.RoadKit.slot_ne l1 l2 (fun heq => ?_) ht1 ht2))
    have e1 : (L.2.map fun q => q.2.1)[j]? = some q.2.1 := by simp [List.getElem?_map, hj]
    have e2 : (L.2.map fun q => q.2.1)[k]? = some f := by simp [List.getElem?_map, e]
    have hl1 := (List.getElem?_eq_some_iff.mp e1).1
    exact hne (((List.getElem?_inj hl1 K.2).mp (by rw [e1, e2, heq])).symm)
theorem Obj.new (K : LOk Z a0 L) (A : Exa Z h b L.1) (D : ∀ {O nm d : String} {ty : FieldType}, Laid Z a0 L.1 O nm d → parseFieldDescriptor d = some ty → Fld Z h b O nm d (defaultValue ty)) : Obj Z h b L (L.2.map fun q => q.2.2.2) := by
  refine ⟨A, by simp, fun i q v hq hv => ?_⟩
  obtain ⟨l1, t1, ht1, e1⟩ := K.1 _ (List.mem_of_getElem? hq)
  rw [List.getElem?_map, hq] at hv
  cases hv
  show Fld Z h b q.1 q.2.1 q.2.2.1 q.2.2.2
  rw [← e1]
  exact D l1 ht1
def FL (Z : State) (a0 : Array Value) (own : String) (index : Nat) (C f d : String) : Prop := ∃ R0 host, ((Cond.fieldLink own index R0 f d).before a0 Z = true ∨ (Cond.fieldLinkNest own index R0 f d host).before a0 Z = true) ∧ Via Z R0 C f d
def FP (Z : State) (a0 : Array Value) (own : String) (index : Nat) (C f d : String) : Prop := ∃ R0, (Cond.fieldLink own index R0 f d).before a0 Z = true ∧ Via Z R0 C f d
def PW (Z : State) (a0 : Array Value) (own mn : String) (L : Lay) (C f d : String) (ty : FieldType) : Prop :=
  LOk Z a0 L ∧ ((Cond.lays L.1 C f d).before a0 Z = true ∨ ((Cond.laysFinal L.1 C f d).before a0 Z = true ∧ own = C ∧ mn = "<init>")) ∧ (∃ kk, (Cond.instantiable L.1 kk).before a0 Z = true) ∧ parseFieldDescriptor d = some ty
def NW (Z : State) (a0 : Array Value) (L : Lay) (n : Nat) : Prop := LOk Z a0 L ∧ (Cond.instantiable L.1 n).before a0 Z = true ∧ (Cond.initialized L.1).before a0 Z = true
def OvT (Z : State) (ty : FieldType) (k : ClassId) : Prop := (∀ C, ty = .object C → Ovr Z k C) ∧ ∀ t, ty = .array t → OvrA Z k t (FieldType.array t).toString
theorem OvT.of_prim {ty : FieldType} {k : ClassId} (q : refKind ty = false) : OvT Z ty k := ⟨fun C e => (by subst e; cases q), fun t e => (by subst e; cases q)⟩
def Ary (Z : State) (h : Heap) (a : Addr) (T : String × FieldType) (n : Nat) (f : Nat → Value) : Prop :=
  (T.1 = "" ∨ Exa Z h a T.1) ∧ ∃ c : Cell, Arr Z h a c T.2 ∧ OvT Z T.2 c.cls ∧ c.slots.size = n ∧ n < 2147483648 ∧ (∀ i, i < n → c.slots[i]? = some (f i)) ∧ ∀ i, i < n → fits T.2 (f i) = true
variable {T : String × FieldType} {n : Nat} {f : Nat → Value}
theorem Ary.lt (A : Ary Z h a T n f) : a < h.size := by obtain ⟨-, c, q, -⟩ := A; exact (Array.getElem?_eq_some_iff.mp q.1).1
theorem Ary.exa (A : Ary Z h a T n f) (q : T.1 ≠ "") : Exa Z h a T.1 := A.1.resolve_left q
theorem Ary.keep {ws : List Addr} (A : Ary Z h a T n f) (W : Keep h h' ws) (q : a ∉ ws) : Ary Z h' a T n f := by
  obtain ⟨e, c, A1, r⟩ := A; exact ⟨e.imp id (·.keep W), c, ⟨W.2.1 a c A1.1 q, A1.2⟩, r⟩
theorem Ary.norm {g : Nat → Value} (A : Ary Z h a T n f) (q : ∀ i, i < n → f i = g i) : Ary Z h a T n g := by
  obtain ⟨x, c, A1, hk, hs, hn, hf, hfit⟩ := A
  exact ⟨x, c, A1, hk, hs, hn, fun i hi => by rw [← q i hi]; exact hf i hi, fun i hi => by rw [← q i hi]; exact hfit i hi⟩
theorem Ary.open (A : Ary Z h a T n f) {j : Int32} {i : Nat} (q : ¬ j < 0 ∧ j.toNatClampNeg = i ∧ i < n) : ∃ c : Cell, Arr Z h a c T.2 ∧ ¬ (j < 0 ∨ c.slots.size ≤ j.toNatClampNeg) ∧ c.slots[j.toNatClampNeg]? = some (f i) ∧ OvT Z T.2 c.cls ∧ fits T.2 (f i) = true := by
  obtain ⟨-, c, A1, hk, hs, hn, hf, hfit⟩ := A
  refine ⟨c, A1, fun x => x.elim q.1 (fun y => by omega), by rw [q.2.1]; exact hf i q.2.2, hk, hfit i q.2.2⟩
theorem Ary.set (A : Ary Z h a T n f) {j : Nat} {v : Value} (W : Wr h h' a j v) {i : Nat} (e : j = i) (hv : fits T.2 v = true) : Ary Z h' a T n (updv f i v) := by
  subst e
  obtain ⟨x, c, A1, hk, hs, hn, hf, hfit⟩ := A
  refine ⟨x.imp id (·.wr W), _, A1.same W, hk, by rw [sz_set]; exact hs, hn, fun i hi => ?_, fun i hi => ?_⟩
  · by_cases q : i = j
    · subst q; simp [Cell.setSlot, updv, hs, hi]
    · simp [Cell.setSlot, updv, q, Array.getElem?_setIfInBounds_ne (Ne.symm q), hf i hi]
  · by_cases q : i = j
    · subst q; simp [updv, hv]
    · simp [updv, q, hfit i hi]
theorem Ary.new {z : Int32} {k : ClassId} (A : Arr Z h a (newA k T.2 z) T.2) (O : OvT Z T.2 k) (E : Exa Z h a T.1) (q : ¬ z < 0) (e : z.toNatClampNeg = n) : Ary Z h a T n (fun _ => defaultValue T.2) := by
  subst e
  refine ⟨Or.inr E, _, A, O, sz_new _ _ _, (back32 q).2, fun i hi => ?_, fun i hi => fits_default T.2⟩
  simp [newA, hi]
def lv (V : List Value) : Nat → Value := fun i => V.getD i .null
theorem lv_set {V V' : List Value} {i : Nat} {v : Value} (e : V.set i v = V') (hi : i < V.length) : ∀ j, j < n → updv (lv V) i v j = lv V' j := fun j _ => by
  subst e
  by_cases q : j = i
  · subst q; simp [updv, lv, List.getD_eq_getElem?_getD, hi]
  · simp [updv, lv, q, List.getD_eq_getElem?_getD, List.getElem?_set_ne (Ne.symm q)]
theorem lv_const {V : List Value} {w : Value} (e : V = List.replicate n w) : ∀ j, j < n → w = lv V j := fun j hj => by subst e; simp [lv, List.getD_eq_getElem?_getD, hj]
end Objs
/-! steps on the heap -/
section Ops
variable {md : Bool} {EL : List (String × Nat)} {p : Program} {l : Launch} {e : Env} {R : Room} {s : State} {m : MethodId} {args : Array Value} {below : List Frame} {meth : Method} {c : Code} {S : State} {G : JFrame} {own : String} {B : ByteArray} {ml : Nat} {mn : String} {rt : Option FieldType} {Z : State} {a0 : Array Value} {n0 : Nat} {h0 : Heap} {vm : Vm} {h h' : Heap} {cells slots pc pc' : Nat} {Ls Ls' : Array Slot} {St St' : List Value} {L : Lay} {vs vs' : List Value} {a : Addr} {C f d : String} {v w : Value} {index : Nat} {ty : FieldType} {A : String × FieldType} {n : Nat} {F F' : Nat → Value}
theorem Wk.getS (k : Wk md EL p l e R s m args below meth c S G own B ml mn rt Z a0 n0 h0 vm h cells slots pc Ls St) (w : FL Z a0 own index C f d) (F : Sta Z Z.heap C f d v) (hd : Dc B pc (.getstatic index) 3 pc') :
    Wk md EL p l e R s m args below meth c S G own B ml mn rt Z a0 n0 h0 vm h cells slots pc' Ls (v :: St) := by
  have O := k.old
  obtain ⟨hd, rfl⟩ := hd
  obtain ⟨R0, host, w, via⟩ := w
  refine k.same fun X hx hb _ hZ hown eT => ?_
  exact getS2 X hx hZ hown w via eT (F.ext O.2) (g := mkF m pc Ls St) rfl (by rw [hb]; exact hd)
theorem Wk.getF (k : Wk md EL p l e R s m args below meth c S G own B ml mn rt Z a0 n0 h0 vm h cells slots pc Ls (.ref a :: St)) (w' : FL Z a0 own index C f d) (O : Obj Z h a L vs) (i : Nat) (hd : Dc B pc (.getfield index) 3 pc') (hi : L.2[i]? = some (C, f, d, w)) (hv : vs[i]? = some v) :
    Wk md EL p l e R s m args below meth c S G own B ml mn rt Z a0 n0 h0 vm h cells slots pc' Ls (v :: St) := by
  obtain ⟨hd, rfl⟩ := hd
  obtain ⟨R0, host, w, via⟩ := w'
  refine k.same fun X hx hb _ hZ hown eT => ?_
  exact Jvm.RoadKit.getF X hx hZ hown w via eT (O.at i hi hv) (g := mkF m pc Ls (.ref a :: St)) rfl rfl (by rw [hb]; exact hd)
theorem Wk.putF (k : Wk md EL p l e R s m args below meth c S G own B ml mn rt Z a0 n0 h0 vm h cells slots pc Ls (v :: .ref a :: St)) (wl : FL Z a0 own index C f d) (W : PW Z a0 own mn L C f d ty) (O : Obj Z h a L vs) (i : Nat) (ha : n0 ≤ a) (hs : md = false ∨ Safe Z EL vm h a) (hd : Dc B pc (.putfield index) 3 pc') (hi : L.2[i]? = some (C, f, d, w))
    (hn : narrow ty v = v) (hf : fits ty v = true) (hv : vs.set i v = vs') :
    ∃ h', Keep h h' [a] ∧ Obj Z h' a L vs' ∧ Wk md EL p l e R s m args below meth c S G own B ml mn rt Z a0 n0 h0 vm h' cells slots pc' Ls St := by
  obtain ⟨hd, rfl⟩ := hd
  obtain ⟨R0, host, wl, via⟩ := wl
  obtain ⟨W1, W2, ⟨kk, W3⟩, W4⟩ := W
  have hi' : i < vs.length := by rw [O.2.1]; exact (List.getElem?_eq_some_iff.mp hi).1
  obtain ⟨h', Wr', k⟩ := k.write (a := a) (sl := Jvm.RoadKit.slotOf Z C f d) (v := v) (pc' := pc + 3) (Ls' := Ls) (St' := St) ha hs fun X hx hb hnm hZ hown eT => by
    exact Jvm.RoadKit.putF X hx hZ hown wl via eT (O.at i hi (List.getElem?_eq_getElem hi')) O.exa (W2.imp id fun q => ⟨q.1, q.2.1, hnm.trans q.2.2⟩) W3 W4 hn hf (g := mkF m pc Ls (v :: .ref a :: St)) rfl rfl (by rw [hb]; exact hd)
  exact ⟨h', Keep.of_wr Wr', hv ▸ O.put W1 i hi Wr', k⟩
theorem Wk.putN {v' : Value} (k : Wk md EL p l e R s m args below meth c S G own B ml mn rt Z a0 n0 h0 vm h cells slots pc Ls (v :: .ref a :: St)) (wl : FP Z a0 own index C f d) (W : PW Z a0 own mn L C f d ty) (O : Obj Z h a L vs) (i : Nat) (ha : n0 ≤ a) (hs : md = false ∨ Safe Z EL vm h a) (hd : Dc B pc (.putfield index) 3 pc') (hi : L.2[i]? = some (C, f, d, w))
    (hn : narrow ty v = v') (hf : fits ty v' = true) (hv : vs.set i v' = vs') :
    ∃ h', Keep h h' [a] ∧ Obj Z h' a L vs' ∧ Wk md EL p l e R s m args below meth c S G own B ml mn rt Z a0 n0 h0 vm h' cells slots pc' Ls St := by
  obtain ⟨hd, rfl⟩ := hd
  obtain ⟨R0, wl, via⟩ := wl
  obtain ⟨W1, W2, ⟨kk, W3⟩, W4⟩ := W
  have hi' : i < vs.length := by rw [O.2.1]; exact (List.getElem?_eq_some_iff.mp hi).1
  obtain ⟨h', Wr', k⟩ := k.write (a := a) (sl := Jvm.RoadKit.slotOf Z C f d) (v := v') (pc' := pc + 3) (Ls' := Ls) (St' := St) ha hs fun X hx hb hnm hZ hown eT => by
    exact Jvm.RoadKit.putFN X hx hZ hown wl via eT (O.at i hi (List.getElem?_eq_getElem hi')) O.exa (W2.imp id fun q => ⟨q.1, q.2.1, hnm.trans q.2.2⟩) W3 W4 hn hf (g := mkF m pc Ls (v :: .ref a :: St)) rfl rfl (by rw [hb]; exact hd)
  exact ⟨h', Keep.of_wr Wr', hv ▸ O.put W1 i hi Wr', k⟩
theorem Wk.new (k : Wk md EL p l e R s m args below meth c S G own B ml mn rt Z a0 n0 h0 vm h cells slots pc Ls St) (wl : (Cond.classLink own index L.1).before a0 Z = true) (W : NW Z a0 L n) (hd : Dc B pc (.new index) 3 pc') (hc : cells + 1 ≤ R.cells ∧ slots + n ≤ R.slots) (hv : (L.2.map fun q => q.2.2.2) = vs) :
    ∃ b h', h.size ≤ b ∧ Keep h h' [] ∧ Obj Z h' b L vs ∧ Wk md EL p l e R s m args below meth c S G own B ml mn rt Z a0 n0 h0 vm h' (cells + 1) (slots + n) pc' Ls (.ref b :: St) := by
  obtain ⟨hd, rfl⟩ := hd
  subst hv
  obtain ⟨h', K, O, k⟩ := k.grow (P := fun h' => Obj Z h' h.size L (L.2.map fun q => q.2.2.2)) (cells' := cells + 1) (slots' := slots + n) (pc' := pc + 3) (Ls' := Ls) (St' := .ref h.size :: St) fun X hx hb hZ hown eT => by
    obtain ⟨T', h', X', eT', E, A, D, -, st⟩ := newO X hx hZ hown wl W.2.1 W.2.2 eT (g := mkF m pc Ls St) rfl (by rw [hb]; exact hd) hc.1 hc.2
    exact ⟨T', h', X', eT', E, Obj.new W.1 A D, st⟩
  exact ⟨h.size, h', Nat.le_refl _, K, O, k⟩
theorem Wk.newP {aty : ArrayType} {z : Int32} (k : Wk md EL p l e R s m args below meth c S G own B ml mn rt Z a0 n0 h0 vm h cells slots pc Ls (.int z :: St)) (A : String) (w : (Cond.arrayClass (newarray.typeOf aty)).before a0 Z = true) (hA : "[" ++ (newarray.typeOf aty).toString = A ∧ refKind (newarray.typeOf aty) = false) (hd : Dc B pc (.newarray aty) 2 pc') (cap : Nat) (hz : ¬ z < 0) (hn : z.toNatClampNeg = n) (hcap : n ≤ cap) (hc : cap * 8 ≤ 536870912 ∧ cells + 1 ≤ R.cells ∧ slots + cap ≤ R.slots) (hF : ∀ j, j < n → defaultValue (newarray.typeOf aty) = F j) :
    ∃ b h', h.size ≤ b ∧ Keep h h' [] ∧ Ary Z h' b (A, newarray.typeOf aty) n F ∧ Wk md EL p l e R s m args below meth c S G own B ml mn rt Z a0 n0 h0 vm h' (cells + 1) (slots + cap) pc' Ls (.ref b :: St) := by
  obtain ⟨hd, rfl⟩ := hd
  subst hn
  obtain ⟨h', K, O, k⟩ := k.grow (P := fun h' => Ary Z h' h.size (A, newarray.typeOf aty) z.toNatClampNeg F) (cells' := cells + 1) (slots' := slots + cap) (pc' := pc + 2) (Ls' := Ls) (St' := .ref h.size :: St) fun X hx hb hZ hown eT => by
    obtain ⟨T', h', cA, X', eT', E, Aa, U, st⟩ := newPE (aty := aty) X hx hZ w eT (g := mkF m pc Ls (.int z :: St)) rfl (by rw [hb]; exact hd) rfl hz hcap hc.1 hc.2.1 hc.2.2 hA.1
    exact ⟨T', h', X', eT', E, (Ary.new (T := (A, newarray.typeOf aty)) Aa (OvT.of_prim hA.2) U hz rfl).norm hF, st⟩
  exact ⟨h.size, h', Nat.le_refl _, K, O, k⟩
theorem Wk.alen {z : Int32} (k : Wk md EL p l e R s m args below meth c S G own B ml mn rt Z a0 n0 h0 vm h cells slots pc Ls (.ref a :: St)) (O : Ary Z h a A n F) (hd : Dc B pc .arraylength 1 pc') (hz : Int32.ofNat n = z) :
    Wk md EL p l e R s m args below meth c S G own B ml mn rt Z a0 n0 h0 vm h cells slots pc' Ls (.int z :: St) := by
  obtain ⟨hd, rfl⟩ := hd
  obtain ⟨-, cl, A1, -, hs, -⟩ := O
  refine k.same fun X hx hb _ hZ hown eT => ⟨_, X, eT, fun t q => ?_⟩
  exact X.arraylength hx (by rw [eT]; exact A1.1) (State.isArrayOf_alike hZ.alike A1.2.1) (g := mkF m pc Ls (.ref a :: St)) rfl rfl (by rw [hb]; exact hd) _ (by rw [hs, show n.toInt32 = z from hz]; exact q)
theorem Wk.bald {j : Int32} {i : Nat} (k : Wk md EL p l e R s m args below meth c S G own B ml mn rt Z a0 n0 h0 vm h cells slots pc Ls (.int j :: .ref a :: St)) (O : Ary Z h a (C, .byte) n F) (hd : Dc B pc .baload 1 pc') (hj : ¬ j < 0 ∧ j.toNatClampNeg = i ∧ i < n) (hv : F i = v) : Wk md EL p l e R s m args below meth c S G own B ml mn rt Z a0 n0 h0 vm h cells slots pc' Ls (v :: St) := by
  obtain ⟨hd, rfl⟩ := hd; subst hv
  obtain ⟨cl, A1, hin, hat, -, -⟩ := O.open hj
  exact k.same fun X hx hb _ hZ hown eT => ⟨_, X, eT, fun t q => X.baloadBytes hx (j := j) (v := F i) (by rw [eT]; exact A1.1) (State.isArrayOf_alike hZ.alike A1.2.1) A1.2.2 hin hat (g := mkF m pc Ls (.int j :: .ref a :: St)) rfl rfl (by rw [hb]; exact hd) _ q⟩
theorem Wk.stB {j x : Int32} {i : Nat} (k : Wk md EL p l e R s m args below meth c S G own B ml mn rt Z a0 n0 h0 vm h cells slots pc Ls (.int x :: .int j :: .ref a :: St)) (O : Ary Z h a (C, .byte) n F) (ha : n0 ≤ a) (hs : md = false ∨ Safe Z EL vm h a) (hd : Dc B pc .bastore 1 pc') (hj : ¬ j < 0 ∧ j.toNatClampNeg = i ∧ i < n) (hv : (.int (nar .byte x)) = v) (hf : fits .byte v = true) (hF : ∀ q, q < n → updv F i v q = F' q) :
    ∃ h', Keep h h' [a] ∧ Ary Z h' a (C, .byte) n F' ∧ Wk md EL p l e R s m args below meth c S G own B ml mn rt Z a0 n0 h0 vm h' cells slots pc' Ls St := by
  obtain ⟨hd, rfl⟩ := hd
  obtain ⟨cl, A1, hin, -, -, -⟩ := O.open hj
  subst hv
  obtain ⟨h', W, k⟩ := k.write (a := a) (sl := j.toNatClampNeg) (v := .int (nar .byte x)) (pc' := pc + 1) (Ls' := Ls) (St' := St) ha hs fun X hx hb _ hZ hown eT => stB X hx hZ eT A1 hin (g := mkF m pc Ls (.int x :: .int j :: .ref a :: St)) rfl rfl (by rw [hb]; exact hd)
  exact ⟨h', Keep.of_wr W, (O.set W hj.2.1 hf).norm hF, k⟩
end Ops
/-! contracts and calls -/
section Calls
variable {md : Bool} {EL : List (String × Nat)} {p : Program} {l : Launch} {e : Env} {R : Room} {s : State} {m : MethodId} {args : Array Value} {below : List Frame} {meth : Method} {c : Code} {S : State} {G : JFrame} {own : String} {B : ByteArray} {ml : Nat} {mn : String} {rt : Option FieldType} {Z : State} {a0 : Array Value} {n0 : Nat} {h0 : Heap} {vm : Vm} {h h' : Heap} {cells slots pc pc' : Nat} {Ls Ls' : Array Slot} {St St' : List Value} {index : Nat} {y z : MethodName} {cd : Cond} {rm : Room} {as' : Array Value} {maxL np ck sk W len : Nat} {ret : Option FieldType} {Q : Option Value → Heap → Prop} {argsL rest : List Value}
def Mt (md : Bool) (EL : List (String × Nat)) (l : Launch) (y : MethodName) (cd : Cond) (rm : Room) (as' : Array Value) (Z : State) (a0 : Array Value) (h0 : Heap) (n0 : Nat) (Q : Option Value → Heap → Prop) : Prop :=
  Old Z n0 h0 → (md = true → EW Z a0 EL) → ∀ ws : List Cond, MetFree l y (head1 (cd :: ws) rm) (fun a U => a = as' ∧ Z.Warmed39 U.vm ∧ U.heap = h0 ∧ (md = true → CHv Z EL U.vm h0)) (fun _ _ _ _ _ => True)
    (fun _ U o U' => ∃ v L, o = .returned v ∧ (Fr n0 L ∧ Q v U'.heap) ∧ ((md = false ∧ FrameEnd U o U' L rm.cells rm.slots) ∨ (md = true ∧ CHr Z EL U.vm U.heap U'.vm U'.heap ∧ ReturnedEndW U o U' L rm.cells rm.slots)))
def Py (l : Launch) (R : Room) (p : Program) (e : Env) (below : List Frame) (s : State) (args : Array Value) (n0 : Nat) (y : MethodName) (len W : Nat) (as' : Array Value) (h : Heap) (ck sk : Nat) (Q : Option Value → Heap → Prop) : Prop :=
  Back l R p e below s args y len W (fun A a => a = as' ∧ A.U.heap = h ∧ A.cells + ck ≤ R.cells ∧ A.slots + sk ≤ R.slots) (fun A _ v B => ∃ L, (Fr n0 L ∧ Q v B.U.heap) ∧ B.locs = A.locs ++ L ∧ B.cells = A.cells + ck ∧ B.slots = A.slots + sk)
def CW (Z : State) (a0 : Array Value) (y : MethodName) (cd : Cond) (maxL : Nat) (ret : Option FieldType) (np : Nat) : Prop :=
  (∃ bytes, cd = .code y bytes maxL ret ∨ ∃ hs, cd = .codeWith y bytes maxL ret hs) ∧ cd.before a0 Z = true ∧ (Cond.initialized y.cls).before a0 Z = true ∧ (y.cls ≠ "java/lang/invoke/MethodHandle" ∧ y.cls ≠ "java/lang/invoke/VarHandle") ∧ ∃ ps r, parseMethodDescriptor y.desc = some ⟨ps, r⟩ ∧ ps.length = np
theorem Mt.free (M : Mt false EL l y cd rm as' Z a0 h n0 Q) (O : Old Z n0 h) :
    MetFree l y (head1 [cd] rm) (fun a U => a = as' ∧ Z.Warmed39 U.vm ∧ U.heap = h) (fun _ _ _ _ _ => True) (fun _ U o U' => ∃ v L, o = .returned v ∧ (Fr n0 L ∧ Q v U'.heap) ∧ FrameEnd U o U' L rm.cells rm.slots) := by
  intro p e ha hc hk s m args below hf happ hP hK
  obtain ⟨n, o, h1, h2, h3, v, L, e1, e2, e3⟩ := M O (fun q => nomatch q) [] p e ha hc hk s m args below hf happ ⟨hP.1, hP.2.1, hP.2.2, fun q => nomatch q⟩ hK
  refine ⟨n, o, h1, h2, h3, v, L, e1, e2, ?_⟩
  rcases e3 with ⟨-, e3⟩ | ⟨q, -⟩
  · exact e3
  · cases q
theorem Mt.pay (M : Mt false EL l y cd rm as' Z a0 h n0 Q) (C : CW Z a0 y cd maxL ret np) (O : Old Z n0 h) (hZ : Z.Warmed39 s.vm) (hf : rm.frames + 1 ≤ R.frames) (hl : W + (maxL + 11) + rm.locals ≤ R.locals) : Py l R p e below s args n0 y len W as' h rm.cells rm.slots Q := by
  obtain ⟨⟨bytes, hc⟩, wc, wz, -, -⟩ := C
  have F := M.free O
  rcases hc with rfl | ⟨hs, rfl⟩
  · exact backOf (Q := fun v h L => Fr n0 L ∧ Q v h) F hZ wc wz hf hl
  · exact backOfWith (Q := fun v h L => Fr n0 L ∧ Q v h) F hZ wc wz hf hl
def Cl (md : Bool) (EL : List (String × Nat)) (p : Program) (l : Launch) (e : Env) (R : Room) (s : State) (m : MethodId) (args : Array Value) (below : List Frame) (meth : Method) (c : Code) (S : State) (G : JFrame) (own : String) (B : ByteArray) (ml : Nat) (mn : String) (rt : Option FieldType) (Z : State) (a0 : Array Value) (n0 : Nat) (h0 : Heap) (vm : Vm) (h : Heap) (cells slots pc : Nat) (Ls : Array Slot) (rest : List Value) (Q : Option Value → Heap → Prop) : Prop :=
  ∀ ws : List Addr, (∀ v h', Q v h' → Keep h h' ws) → (∀ w ∈ ws, n0 ≤ w) → (md = false ∨ ∀ w ∈ ws, Safe Z EL vm h w) → ∃ v h', Q v h' ∧ Wk md EL p l e R s m args below meth c S G own B ml mn rt Z a0 n0 h0 vm h' cells slots pc Ls (v.toList ++ rest)
theorem Wk.called (k : Wk md EL p l e R s m args below meth c S G own B ml mn rt Z a0 n0 h0 vm h cells slots pc Ls St)
    (f : ∀ {s' : State} {T locs}, Stand p l e R s' m args below meth c T locs cells slots → p.tables.exec = Jvm.exec → c.code = B → c.maxLocals = ml → Z.Warmed39 s'.vm → s'.vm.findClass own = some m.cls → T.heap = h →
      ∃ v vm₁ B', s'.WarmedH vm₁ ∧ Stand p l e R s' m args below meth c (Pt.U B') (Pt.locs B') (Pt.cells B') (Pt.slots B') ∧ (∃ L, (Fr n0 L ∧ Q v (Pt.U B').heap) ∧ Pt.locs B' = locs ++ L ∧ Pt.cells B' = cells + ck ∧ Pt.slots B' = slots + sk) ∧ Steps p.tables e below (T.setTop (mkF m pc Ls St)) ((Pt.U B').setTop (mkF m pc' Ls (v.toList ++ rest)))) :
    Cl md EL p l e R s m args below meth c S G own B ml mn rt Z a0 n0 h0 vm h (cells + ck) (slots + sk) pc' Ls rest Q := by
  intro ws hq hn hs
  obtain ⟨q1, q2, q3, q4, q5, q6, T, locs, X, eT, N, g⟩ := k
  obtain ⟨v, vm₁, ⟨T', L', c', n'⟩, -, X', ⟨L, ⟨N', hQ⟩, e1, e2, e3⟩, st⟩ := f X q1.1 q1.2.1 q1.2.2.1 q2 q3 eT
  dsimp only [Pt.U, Pt.locs, Pt.cells, Pt.slots] at X' hQ e1 e2 e3 st
  subst e1 e2 e3
  have K := hq _ _ hQ
  exact ⟨v, T'.heap, hQ, q1, q2, q3, q4.keep K hn, Nat.le_trans q5 K.1, q6.keep K hs, T', _, X', rfl, N.app N', fun t q => g t (st.trans q)⟩
def Pv (h0 : Heap) (w : Value) : Option Value → Heap → Prop := fun v h => v = some w ∧ h = h0
def P0 (h0 : Heap) : Option Value → Heap → Prop := fun v h => v = none ∧ h = h0
def KpV (h0 : Heap) (ws : List Addr) (Q : Value → Heap → Prop) : Option Value → Heap → Prop := fun v h => ∃ w, v = some w ∧ Keep h0 h ws ∧ Q w h
def K0 (h0 : Heap) (ws : List Addr) (Q : Heap → Prop) : Option Value → Heap → Prop := fun v h => v = none ∧ Keep h0 h ws ∧ Q h
theorem Cl.pv {w : Value} (k : Cl md EL p l e R s m args below meth c S G own B ml mn rt Z a0 n0 h0 vm h cells slots pc Ls rest (Pv h w)) : Wk md EL p l e R s m args below meth c S G own B ml mn rt Z a0 n0 h0 vm h cells slots pc Ls (w :: rest) := by
  obtain ⟨v, h', ⟨rfl, rfl⟩, k2⟩ := k [] (fun v h' q => q.2 ▸ Keep.refl _ _) (fun _ q => nomatch q) (Or.inr fun _ q => nomatch q)
  exact k2
theorem Cl.p0 (k : Cl md EL p l e R s m args below meth c S G own B ml mn rt Z a0 n0 h0 vm h cells slots pc Ls rest (P0 h)) : Wk md EL p l e R s m args below meth c S G own B ml mn rt Z a0 n0 h0 vm h cells slots pc Ls rest := by
  obtain ⟨v, h', ⟨rfl, rfl⟩, k2⟩ := k [] (fun v h' q => q.2 ▸ Keep.refl _ _) (fun _ q => nomatch q) (Or.inr fun _ q => nomatch q)
  exact k2
theorem Cl.kv {ws : List Addr} {Q : Value → Heap → Prop} (k : Cl md EL p l e R s m args below meth c S G own B ml mn rt Z a0 n0 h0 vm h cells slots pc Ls rest (KpV h ws Q)) (hn : ∀ w ∈ ws, n0 ≤ w := by exact all0) (hs : md = false ∨ ∀ w ∈ ws, Safe Z EL vm h w := by exact Or.inl rfl) :
    ∃ w h', Keep h h' ws ∧ Q w h' ∧ Wk md EL p l e R s m args below meth c S G own B ml mn rt Z a0 n0 h0 vm h' cells slots pc Ls (w :: rest) := by
  obtain ⟨v, h', ⟨w, rfl, K, q⟩, k⟩ := k ws (fun v h' q => q.choose_spec.2.1) hn hs
  exact ⟨w, h', K, q, k⟩
theorem Cl.k0 {ws : List Addr} {Q : Heap → Prop} (k : Cl md EL p l e R s m args below meth c S G own B ml mn rt Z a0 n0 h0 vm h cells slots pc Ls rest (K0 h ws Q)) (hn : ∀ w ∈ ws, n0 ≤ w := by exact all0) (hs : md = false ∨ ∀ w ∈ ws, Safe Z EL vm h w := by exact Or.inl rfl) :
    ∃ h', Keep h h' ws ∧ Q h' ∧ Wk md EL p l e R s m args below meth c S G own B ml mn rt Z a0 n0 h0 vm h' cells slots pc Ls rest := by
  obtain ⟨v, h', ⟨rfl, K, q⟩, k⟩ := k ws (fun v h' q => q.2.1) hn hs
  exact ⟨h', K, q, k⟩
theorem wsum (m : MethodId) (Ls : Array Slot) (St : List Value) : 2 * (mkF m pc Ls St).monitorRoom + (rest.map fun v => v.category).sum ≤ (rest.map fun v => v.category).sum := by
  show 2 * 0 + _ ≤ _; rw [Nat.mul_zero, Nat.zero_add]; exact Nat.le_refl _
theorem wsW {W : Nat} (m : MethodId) (Ls : Array Slot) (St : List Value) (h : (rest.map fun v => v.category).sum = W) : 2 * (mkF m pc Ls St).monitorRoom + (rest.map fun v => v.category).sum ≤ W := by rw [← h]; exact wsum m Ls St
theorem CW.plen {maxL np : Nat} (C : CW Z a0 y cd maxL ret np) (e : argsL.length = np) : ∀ sig, parseMethodDescriptor y.desc = some sig → argsL.length = sig.parameters.length := fun sig h => by
  obtain ⟨-, -, -, -, ps, r, hpd, hnp⟩ := C
  cases hpd.symm.trans h; exact e.trans hnp.symm
def SC (Z : State) (a0 : Array Value) (y : MethodName) (cd : Cond) (maxL : Nat) (ret : Option FieldType) (np : Nat) : Prop := (Cond.static y).before a0 Z = true ∧ CW Z a0 y cd maxL ret np
def IC (Z : State) (a0 : Array Value) (y : MethodName) (cd : Cond) (maxL : Nat) (np : Nat) : Prop := (Cond.instanceMethod y).before a0 Z = true ∧ y.name = "<init>" ∧ CW Z a0 y cd maxL none np
def VC (Z : State) (a0 : Array Value) (y z : MethodName) (C : String) (cd : Cond) (maxL : Nat) (ret : Option FieldType) (np : Nat) : Prop :=
  (Cond.declares y).before a0 Z = true ∧ (∀ s : State, Z.Warmed39 s.vm → NotFace s y) ∧ (Cond.selects C y z).before a0 Z = true ∧ (Cond.instanceMethod z).before a0 Z = true ∧ (y.cls ≠ "java/lang/invoke/MethodHandle" ∧ y.cls ≠ "java/lang/invoke/VarHandle") ∧ y.desc = z.desc ∧ CW Z a0 z cd maxL ret np
def FC (Z : State) (a0 : Array Value) (y z : MethodName) (C : String) (cd : Cond) (maxL : Nat) (ret : Option FieldType) (np : Nat) : Prop :=
  (Cond.declares y).before a0 Z = true ∧ (Cond.interfaceMethod y.cls y.cls y.name y.desc).before a0 Z = true ∧ (Cond.selects C y z).before a0 Z = true ∧ (Cond.instanceMethod z).before a0 Z = true ∧ (Cond.publicMethod z).before a0 Z = true ∧ (Cond.unhidden C y.name y.desc).before a0 Z = true ∧ (Cond.castable C y.cls).before a0 Z = true ∧
    (y.cls ≠ "java/lang/invoke/MethodHandle" ∧ y.cls ≠ "java/lang/invoke/VarHandle") ∧ y.desc = z.desc ∧ CW Z a0 z cd maxL ret np
theorem Wk.callS (k : Wk md EL p l e R s m args below meth c S G own B ml mn rt Z a0 n0 h0 vm h cells slots pc Ls St) (wl : (Cond.methodLink own index y).before a0 Z = true) (C : SC Z a0 y cd maxL ret argsL.length) (M : Mt false [] l y cd rm argsL.toArray Z a0 h n0 Q)
    (hd : Dc B pc (.invokestatic index) 3 pc') (W : Nat) (hst : St = argsL.reverse ++ rest) (hL : Ls.size = ml := by rfl) (hW : (rest.map fun v => v.category).sum = W := by rfl) (hr : rm.frames + 1 ≤ R.frames ∧ W + (maxL + 11) + rm.locals ≤ R.locals ∧ cells + rm.cells ≤ R.cells ∧ slots + rm.slots ≤ R.slots := by decide) :
    Cl md EL p l e R s m args below meth c S G own B ml mn rt Z a0 n0 h0 vm h (cells + rm.cells) (slots + rm.slots) pc' Ls rest Q := by
  have O := k.old
  obtain ⟨hd, rfl⟩ := hd
  obtain ⟨ws, C⟩ := C
  refine k.called fun {s' T locs} X hx hb hml hZ hown eT => ?_
  have P := M.pay (p := p) (e := e) (below := below) (s := s') (args := args) (R := R) (len := 3) (W := W) C O hZ hr.1 hr.2.1
  have hlen := C.plen (argsL := argsL) rfl
  obtain ⟨⟨bytes, hc⟩, wc, wz, hy, -⟩ := C
  rcases hc with rfl | ⟨hs, rfl⟩
  · obtain ⟨v, vm₁, B', q1, q2, q3, q4⟩ := Jvm.LawKit.callS X hx hown (mvT hZ wl) (mvT hZ ws) (mvT hZ wz) (mvT hZ wc) hy P (g := mkF m pc Ls St) rfl (by rw [hml]; exact hL) (argsL := argsL) (rest := rest) hlen hst (wsW m Ls St hW) (by rw [hb]; exact hd) (fun _ _ => ⟨rfl, eT, hr.2.2.1, hr.2.2.2⟩)
    exact ⟨v, vm₁, B', q1, q2, q3, q4 _ (Steps.refl _)⟩
  · obtain ⟨v, vm₁, B', q1, q2, q3, q4⟩ := callSH X hx hown (mvT hZ wl) (mvT hZ ws) (mvT hZ wz) (mvT hZ wc) hy P (g := mkF m pc Ls St) rfl (by rw [hml]; exact hL) (argsL := argsL) (rest := rest) hlen hst (wsW m Ls St hW) (by rw [hb]; exact hd) (fun _ _ => ⟨rfl, eT, hr.2.2.1, hr.2.2.2⟩)
    exact ⟨v, vm₁, B', q1, q2, q3, q4 _ (Steps.refl _)⟩
theorem Wk.callI {a : Addr} (k : Wk md EL p l e R s m args below meth c S G own B ml mn rt Z a0 n0 h0 vm h cells slots pc Ls St) (wl : (Cond.methodLink own index y).before a0 Z = true) (C : IC Z a0 y cd maxL argsL.length) (M : Mt false [] l y cd rm (.ref a :: argsL).toArray Z a0 h n0 Q)
    (hd : Dc B pc (.invokespecial index) 3 pc') (W : Nat) (hst : St = argsL.reverse ++ .ref a :: rest) (hL : Ls.size = ml := by rfl) (hW : (rest.map fun v => v.category).sum = W := by rfl) (hr : rm.frames + 1 ≤ R.frames ∧ W + (maxL + 11) + rm.locals ≤ R.locals ∧ cells + rm.cells ≤ R.cells ∧ slots + rm.slots ≤ R.slots := by decide) :
    Cl md EL p l e R s m args below meth c S G own B ml mn rt Z a0 n0 h0 vm h (cells + rm.cells) (slots + rm.slots) pc' Ls rest Q := by
  have O := k.old
  obtain ⟨hd, rfl⟩ := hd
  obtain ⟨ws, hy1, C⟩ := C
  refine k.called fun {s' T locs} X hx hb hml hZ hown eT => ?_
  have P := M.pay (p := p) (e := e) (below := below) (s := s') (args := args) (R := R) (len := 3) (W := W) C O hZ hr.1 hr.2.1
  have hlen := C.plen (argsL := argsL) rfl
  obtain ⟨⟨bytes, hc⟩, wc, wz, hy, -⟩ := C
  rcases hc with rfl | ⟨hs, rfl⟩
  · exact X.specialBack hx hy1 hown (mvT hZ wl) (mvT hZ ws) (mvT hZ wc) hy P (g := mkF m pc Ls St) rfl (by rw [hml]; exact hL) (Steps.refl _) (a := a) (argsL := argsL) (rest := rest) hlen hst (wsW m Ls St hW) (by rw [hb]; exact hd) (fun _ _ => ⟨rfl, eT, hr.2.2.1, hr.2.2.2⟩)
  · exact X.specialBackH hx hy1 hown (mvT hZ wl) (mvT hZ ws) (mvT hZ wc) hy P (g := mkF m pc Ls St) rfl (by rw [hml]; exact hL) (Steps.refl _) (a := a) (argsL := argsL) (rest := rest) hlen hst (wsW m Ls St hW) (by rw [hb]; exact hd) (fun _ _ => ⟨rfl, eT, hr.2.2.1, hr.2.2.2⟩)
theorem Wk.callV {a : Addr} {C : String} (k : Wk md EL p l e R s m args below meth c S G own B ml mn rt Z a0 n0 h0 vm h cells slots pc Ls St) (wl : (Cond.methodLink own index y).before a0 Z = true) (V : VC Z a0 y z C cd maxL ret argsL.length) (E : Exa Z h a C) (M : Mt false [] l z cd rm (.ref a :: argsL).toArray Z a0 h n0 Q)
    (hd : Dc B pc (.invokevirtual index) 3 pc') (W : Nat) (hst : St = argsL.reverse ++ .ref a :: rest) (hL : Ls.size = ml := by rfl) (hW : (rest.map fun v => v.category).sum = W := by rfl) (hr : rm.frames + 1 ≤ R.frames ∧ W + (maxL + 11) + rm.locals ≤ R.locals ∧ cells + rm.cells ≤ R.cells ∧ slots + rm.slots ≤ R.slots := by decide) :
    Cl md EL p l e R s m args below meth c S G own B ml mn rt Z a0 n0 h0 vm h (cells + rm.cells) (slots + rm.slots) pc' Ls rest Q := by
  have O := k.old
  obtain ⟨hd, rfl⟩ := hd
  obtain ⟨v1, v2, v3, v4, v5, v6, C⟩ := V
  refine k.called fun {s' T locs} X hx hb hml hZ hown eT => ?_
  have P := M.pay (p := p) (e := e) (below := below) (s := s') (args := args) (R := R) (len := 3) (W := W) C O hZ hr.1 hr.2.1
  obtain ⟨cq, kq, qa, qb, qc⟩ := isOf hZ eT E
  exact X.virtualBack hx hown (mvT hZ wl) (mvT hZ v1) (v2 s' hZ) (mvT hZ v3) (mvT hZ v4) v5 P qa qc (g := mkF m pc Ls St) rfl (by rw [hml]; exact hL) (Steps.refl _) (argsL := argsL) (rest := rest) (fun sig q => C.plen (argsL := argsL) rfl sig (v6 ▸ q)) hst (wsW m Ls St hW) (by rw [hb]; exact hd) (fun _ _ => ⟨rfl, eT, hr.2.2.1, hr.2.2.2⟩)
end Calls
/-! the start and the end of a walk; the other steps -/
section More
variable {md : Bool} {EL : List (String × Nat)} {p : Program} {l : Launch} {e : Env} {R : Room} {s : State} {m : MethodId} {args : Array Value} {below : List Frame} {meth : Method} {c : Code} {S : State} {G : JFrame} {own : String} {B : ByteArray} {ml : Nat} {mn : String} {rt : Option FieldType} {Z : State} {a0 : Array Value} {n0 : Nat} {h0 : Heap} {vm : Vm} {h h' : Heap} {cells slots pc pc' : Nat} {Ls Ls' : Array Slot} {St St' : List Value} {index : Nat} {Q : Option Value → Heap → Prop} {rest : List Value} {a b : Addr}
theorem nlt {x y : Addr} (q : x < h.size) (r : h.size ≤ y) : x ≠ y := Nat.ne_of_lt (Nat.lt_of_lt_of_le q r)
theorem nlt' {x y : Addr} (q : x < h.size) (r : h.size ≤ y) : y ≠ x := Ne.symm (nlt q r)
theorem Old.nlt {x y : Addr} (O : Old Z n0 h) (q : x < Z.heap.size) (r : n0 ≤ y) : x ≠ y := O.ne q r
def En (md : Bool) (EL : List (String × Nat)) (p : Program) (e : Env) (R : Room) (s : State) (below : List Frame) (S : State) (G : JFrame) (Z : State) (n0 : Nat) (h0 : Heap) (Q : Option Value → Heap → Prop) : Prop :=
  ∃ s₂ o, Steps p.tables e below (S.setTop G) s₂ ∧ s₂.status = .running ∧ Ended s₂ below o ∧ ∃ v L, o = .returned v ∧ (Fr n0 L ∧ Q v s₂.heap) ∧ ((md = false ∧ FrameEnd s o s₂ L R.cells R.slots) ∨ (md = true ∧ CHr Z EL s.vm h0 s₂.vm s₂.heap ∧ ReturnedEndW s o s₂ L R.cells R.slots))
theorem Mt.go {y : MethodName} {bytes : ByteArray} {maxL : Nat} {ret : Option FieldType} {cd : Cond} {rm : Room} {as' : Array Value} (hp : plainFor y = true) (hcd : cd = .code y bytes maxL ret ∨ ∃ hs, cd = .codeWith y bytes maxL ret hs) (hef : ∀ m, entryFrame m as' maxL = mkF m 0 Ls [])
    (W : ∀ {p e s m below meth c s₁ vm}, Wk md EL p l e rm s m as' below meth c s₁ (entryFrame m as' maxL) y.cls bytes maxL y.name ret Z a0 n0 h0 vm h0 0 0 0 Ls [] → En md EL p e rm s below s₁ (entryFrame m as' maxL) Z n0 h0 Q) :
    Mt md EL l y cd rm as' Z a0 h0 n0 Q := by
  intro O hEW ws
  have key : ∀ p e s m args below meth c s₁, BodyLoose p l y (head1 (cd :: ws) rm) bytes maxL ret e s m args below meth c s₁ → c.maxLocals = maxL → (args = as' ∧ Z.Warmed39 s.vm ∧ s.heap = h0 ∧ (md = true → CHv Z EL s.vm h0)) → True →
      ∃ s₂ o, Steps p.tables e below (s₁.setTop (entryFrame m args maxL)) s₂ ∧ s₂.status = .running ∧ Ended s₂ below o ∧ ∃ v L, o = .returned v ∧ (Fr n0 L ∧ Q v s₂.heap) ∧ ((md = false ∧ FrameEnd s o s₂ L rm.cells rm.slots) ∨ (md = true ∧ CHr Z EL s.vm s.heap s₂.vm s₂.heap ∧ ReturnedEndW s o s₂ L rm.cells rm.slots)) := by
    intro p e s m args below meth c s₁ Bd hml hP _
    obtain ⟨rfl, hZ, hh, hC⟩ := hP
    have X : Stand p l e rm s m args below meth c s₁ [] 0 0 := Stand.of_body Bd
    have k : Wk md EL p l e rm s m args below meth c s₁ (entryFrame m args maxL) y.cls bytes maxL y.name ret Z a0 n0 h0 s.vm h0 0 0 0 Ls [] := by
      refine ⟨⟨Bd.exec, Bd.bytes, hml, (name_of_methodNamed Bd.named Bd.method).1, Bd.returns, BodyLoose.notSynchronized Bd⟩, hZ, findClass_of_methodNamed Bd.named, O, Nat.le_refl _, ?_, s₁, [], X, ?_, Fr.nil n0, fun t q => castTop (hef m) q⟩
      · cases md
        · exact Or.inl ⟨rfl, rfl⟩
        · exact Or.inr ⟨rfl, hEW rfl, ⟨h0.size, (State.WarmedH.refl s).since _, Nat.le_refl _⟩, CHr.refl (hC rfl)⟩
      · rw [← hh, Bd.state]; rfl
    obtain ⟨s₂, o, h1, h2, h3, v, L, e1, e2, e3⟩ := W k
    refine ⟨s₂, o, h1, h2, h3, v, L, e1, e2, ?_⟩
    rcases e3 with e3 | e3
    · exact Or.inl e3
    · exact Or.inr ⟨e3.1, by rw [hh]; exact e3.2.1, e3.2.2⟩
  rcases hcd with rfl | ⟨hs, rfl⟩
  · exact MetFree.of_bodySF hp hisR key
  · exact MetFree.of_bodySF hp hisWith key
theorem Wk.fin {v : Option Value} (k : Wk md EL p l e R s m args below meth c S G own B ml mn rt Z a0 n0 h0 vm h cells slots pc Ls St) (hv : rt = none → v = none) (hc : cells ≤ R.cells ∧ slots ≤ R.slots) (hq : Q v h)
    (f : ∀ {s' : State} {T locs} {fs : List Frame}, Stand p l e R s' m args below meth c T locs cells slots → p.tables.exec = Jvm.exec → c.code = B → meth.sig.returnType = rt → (∀ (f : JFrame) (acts : List Action), f.method = m → f.locked = none → f.entered = [] → (doReturn e (T.setTop f) acts v).1 = T.setFrames fs) → Steps p.tables e below (T.setTop (mkF m pc Ls St)) (T.setFrames fs)) :
    En md EL p e R s below S G Z n0 h0 Q := by
  obtain ⟨⟨q1, q1b, q1c, q1d, q1e, q1f⟩, q2, q3, q4, q5, q6, T, locs, X, eT, N, g⟩ := k
  have hv' : meth.sig.returnType = none → v = none := fun z => hv (q1e.symm.trans z)
  rcases q6 with ⟨rfl, rfl⟩ | ⟨rfl, hEW, ⟨k0, hS, hk⟩, hC⟩
  · obtain ⟨fs, hr, hrun, hended, hW, hsame⟩ := X.leave hv' q1f
    exact ⟨_, _, g _ (f X q1 q1b q1e hr), hrun, hended, v, locs, rfl, ⟨N, by show Q v T.heap; rw [eT]; exact hq⟩, Or.inl ⟨rfl, ⟨_, rfl⟩, hW, hsame.mono hc.1 hc.2⟩⟩
  · obtain ⟨fs, hr, hrun, hended, w1, w2, w3, w4⟩ := X.leaveW hS (by rw [eT]; exact hk) hv' q1f
    refine ⟨_, _, g _ (f X q1 q1b q1e hr), hrun, hended, v, locs, rfl, ⟨N, by show Q v T.heap; rw [eT]; exact hq⟩, Or.inr ⟨rfl, ?_, w1, w2, w3, w4.mono hc.1 hc.2⟩⟩
    have A := CHv.at X q2 hEW hC.1
    show CHr Z EL s.vm h0 T.vm T.heap
    rw [eT]; exact hC.trans A
theorem Wk.ret0 (k : Wk md EL p l e R s m args below meth c S G own B ml mn rt Z a0 n0 h0 vm h cells slots pc Ls []) (hd : Dc B pc .return_ 1 pc') (hr : rt = none) (hq : Q none h) (hc : cells ≤ R.cells ∧ slots ≤ R.slots := by decide) : En md EL p e R s below S G Z n0 h0 Q :=
  k.fin (fun _ => rfl) hc hq fun X hx hb hrt hl => X.returnOut hx (hrt.trans hr) (by rw [hb]; exact hd.1) hl
theorem Wk.retI {z : Int32} (k : Wk md EL p l e R s m args below meth c S G own B ml mn rt Z a0 n0 h0 vm h cells slots pc Ls (.int z :: St)) (hd : Dc B pc .ireturn 1 pc') (hr : rt = some .int) (hq : Q (some (.int z)) h) (hc : cells ≤ R.cells ∧ slots ≤ R.slots := by decide) : En md EL p e R s below S G Z n0 h0 Q :=
  k.fin (fun q => by rw [hr] at q; cases q) hc hq fun X hx hb hrt hl => Jvm.RoadKit.retI X hx (hrt.trans hr) (by rw [hb]; exact hd.1) hl
theorem Wk.retN {z z' : Int32} {t : FieldType} (k : Wk md EL p l e R s m args below meth c S G own B ml mn rt Z a0 n0 h0 vm h cells slots pc Ls (.int z :: St)) (hd : Dc B pc .ireturn 1 pc') (hr : rt = some t) (ht : t = .boolean ∨ t = .byte ∨ t = .char ∨ t = .short) (hz : nar t z = z') (hq : Q (some (.int z')) h) (hc : cells ≤ R.cells ∧ slots ≤ R.slots := by decide) : En md EL p e R s below S G Z n0 h0 Q := by
  subst hz
  exact k.fin (fun q => by rw [hr] at q; cases q) hc hq fun X hx hb hrt hl => Jvm.RoadKit.retN X hx (hrt.trans hr) ht (by rw [hb]; exact hd.1) hl
theorem Wk.retA {v : Value} {t : FieldType} (k : Wk md EL p l e R s m args below meth c S G own B ml mn rt Z a0 n0 h0 vm h cells slots pc Ls (v :: St)) (hd : Dc B pc .areturn 1 pc') (hr : rt = some t) (hq : Q (some v) h) (ht : t.isReference = true := by rfl) (hv : v.isRef = true := by rfl) (hn : narrow t v = v := by rfl) (hc : cells ≤ R.cells ∧ slots ≤ R.slots := by decide) : En md EL p e R s below S G Z n0 h0 Q :=
  k.fin (fun q => by rw [hr] at q; cases q) hc hq fun X hx hb hrt hl => Jvm.RoadKit.retOut X hx (hrt.trans hr) hn (Or.inr (Or.inr (Or.inr (Or.inr ⟨rfl, ht, hv⟩)))) (by rw [hb]; exact hd.1) hl
/-! single steps -/
theorem Wk.initO (k : Wk md EL p l e R s m args below meth c S G own B ml mn rt Z a0 n0 h0 vm h cells slots pc Ls (.ref a :: St)) (w1 : (Cond.methodLink own index Lib.objectInit).before a0 Z = true) (w2 : (Cond.instanceMethod Lib.objectInit).before a0 Z = true) (w3 : (Cond.code Lib.objectInit ⟨#[0xb1]⟩ 1 none).before a0 Z = true) (hd : Dc B pc (.invokespecial index) 3 pc') (W : Nat) (hL : Ls.size = ml := by rfl) (hW : (St.map fun v => v.category).sum = W := by rfl) (hr : 1 ≤ R.frames ∧ W + 12 ≤ R.locals := by decide) :
    Wk md EL p l e R s m args below meth c S G own B ml mn rt Z a0 n0 h0 vm h cells slots pc' Ls St := by
  obtain ⟨hd, rfl⟩ := hd
  exact k.same fun X hx hb hml hZ hown eT => Jvm.RoadKit.initO X hx hZ hown w1 w2 w3 eT (g := mkF m pc Ls (.ref a :: St)) rfl (by rw [hml]; exact hL) rfl (by rw [hb]; exact hd) hr.1 (wsW m Ls (.ref a :: St) hW) hr.2
theorem Wk.castY {K : String} (k : Wk md EL p l e R s m args below meth c S G own B ml mn rt Z a0 n0 h0 vm h cells slots pc Ls (.ref a :: St)) (w : (Cond.classLink own index K).before a0 Z = true) (F : Ins Z h a K true) (hd : Dc B pc (.checkcast index) 3 pc') :
    Wk md EL p l e R s m args below meth c S G own B ml mn rt Z a0 n0 h0 vm h cells slots pc' Ls (.ref a :: St) := by
  obtain ⟨hd, rfl⟩ := hd
  exact k.same fun X hx hb hml hZ hown eT => Jvm.RoadKit.castY X hx hZ hown w eT F (g := mkF m pc Ls (.ref a :: St)) rfl rfl (by rw [hb]; exact hd)
theorem Wk.ldcI {v : Int32} (k : Wk md EL p l e R s m args below meth c S G own B ml mn rt Z a0 n0 h0 vm h cells slots pc Ls St) (w : (Cond.constant own index v).before a0 Z = true) (hd : Dc B pc (.ldc index) 2 pc') :
    Wk md EL p l e R s m args below meth c S G own B ml mn rt Z a0 n0 h0 vm h cells slots pc' Ls (.int v :: St) := by
  obtain ⟨hd, rfl⟩ := hd
  exact k.same fun X hx hb hml hZ hown eT => ⟨_, X, eT, fun t q => X.ldcInt hx hown (mvT hZ w) (g := mkF m pc Ls St) rfl (by rw [hb]; exact hd) _ q⟩
theorem Wk.ldcwI {v : Int32} (k : Wk md EL p l e R s m args below meth c S G own B ml mn rt Z a0 n0 h0 vm h cells slots pc Ls St) (w : (Cond.constant own index v).before a0 Z = true) (hd : Dc B pc (.ldc_w index) 3 pc') :
    Wk md EL p l e R s m args below meth c S G own B ml mn rt Z a0 n0 h0 vm h cells slots pc' Ls (.int v :: St) := by
  obtain ⟨hd, rfl⟩ := hd
  exact k.same fun X hx hb hml hZ hown eT => ⟨_, X, eT, fun t q => X.ldcwInt hx hown (mvT hZ w) (g := mkF m pc Ls St) rfl (by rw [hb]; exact hd) _ q⟩
def okS : Slot → Bool
  | .second => false
  | .val v => v.category == 1
  | .unset => true
theorem stoA {A : List Slot} {x : Slot} {t : List Slot} {v : Value} (hx : okS x = true) (hv : v.category = 1) : storeLocals (A ++ x :: t).toArray A.length v = some (A ++ .val v :: t).toArray := by
  have q : (A ++ x :: t).toArray[A.length]? = some x := by simp
  rw [storeLocals_cat1 (x := x) q hv]
  · simp
  · cases x <;> simp_all [okS]
/-! copies of arrays -/
theorem ofNat_clamp {n : Nat} (h : n < 2147483648) : (Int32.ofNat n).toNatClampNeg = n ∧ ¬ (Int32.ofNat n) < 0 := by
  have e : (Int32.ofNat n).toInt = n := Int32.toInt_ofNat_small h
  refine ⟨by rw [clampNat, e]; rfl, fun q => ?_⟩
  rw [Int32.lt_iff_toInt_lt, e] at q
  have : (0 : Int32).toInt = 0 := rfl
  omega
theorem Ary.arv {T : String × FieldType} {n : Nat} {f : Nat → Value} (A : Ary Z h a T n f) (dv : Value) : ∃ k, OvT Z T.2 k ∧ n < 2147483648 ∧ Arv Z h a k T.2 (Int32.ofNat n) ((List.range n).map f) dv := by
  obtain ⟨-, c, A1, hk, hs, hn, hf, hfit⟩ := A
  have g : ∀ i, i < n → ((List.range n).map f).getD i dv = f i := fun i hi => by simp [List.getD_eq_getElem?_getD, hi]
  refine ⟨c.cls, hk, hn, c, A1, rfl, by rw [hs, (ofNat_clamp hn).1], (ofNat_clamp hn).2, fun i hi => ?_, fun i hi => ?_⟩
  · rw [hs] at hi; rw [g i hi]; exact hf i hi
  · rw [hs] at hi; rw [g i hi]; exact hfit i hi
theorem Ary.of_arv {T : String × FieldType} {n : Nat} {f : Nat → Value} {k : ClassId} {z : Int32} {vs : List Value} {dv : Value} (F : Arv Z h a k T.2 z vs dv) (O : OvT Z T.2 k) (E : T.1 = "" ∨ Exa Z h a T.1) (hz : z.toNatClampNeg = n) (g : ∀ i, i < n → vs.getD i dv = f i) : Ary Z h a T n f := by
  obtain ⟨c, A1, hk, hs, hn, H, G⟩ := F
  have hs' : c.slots.size = n := hs.trans hz
  subst hk
  refine ⟨E, c, A1, O, hs', by rw [← hz]; exact (back32 hn).2, fun i hi => ?_, fun i hi => ?_⟩
  · rw [← g i hi]; exact H i (by rw [hs']; exact hi)
  · rw [← g i hi]; exact G i (by rw [hs']; exact hi)
def cpyv (f g : Nat → Value) (sp dp nn : Nat) : Nat → Value := fun i => if dp ≤ i ∧ i < dp + nn then f (i - dp + sp) else g i
theorem cpy_list {f g : Nat → Value} {sp dp nn n : Nat} (h : dp + nn ≤ n) (dv : Value) (us : List Value) (hus : us.length = nn) (hu : ∀ i, i < nn → us.getD i dv = f (i + sp)) : ∀ i, i < n → (((List.range n).map g).take dp ++ us ++ ((List.range n).map g).drop (dp + nn)).getD i dv = cpyv f g sp dp nn i := fun i hi => by
  have l1 : (((List.range n).map g).take dp).length = dp := by simp; omega
  rw [List.getD_eq_getElem?_getD]
  by_cases c1 : i < dp
  · rw [List.append_assoc, List.getElem?_append_left (by rw [l1]; exact c1)]
    simp [cpyv, List.getElem?_take, c1, hi, Nat.not_le.mpr c1]
  · by_cases c2 : i < dp + nn
    · rw [List.getElem?_append_left (by rw [List.length_append, l1, hus]; exact c2), List.getElem?_append_right (by rw [l1]; omega), l1]
      have := hu (i - dp) (by omega)
      rw [List.getD_eq_getElem?_getD] at this
      rw [this]
      simp [cpyv, Nat.not_lt.mp c1, c2]
    · rw [List.getElem?_append_right (by rw [List.length_append, l1, hus]; omega), List.length_append, l1, hus, List.getElem?_drop]
      have e : dp + nn + (i - (dp + nn)) = i := by omega
      rw [e]
      simp [cpyv, hi, c2]
theorem lv_cpy {V U V' : List Value} {sp dp nn n : Nat} (hU : U.length = n) (e : (List.range n).map (fun i => if dp ≤ i ∧ i < dp + nn then V.getD (i - dp + sp) .null else U.getD i .null) = V') : ∀ j, j < n → cpyv (lv V) (lv U) sp dp nn j = lv V' j := fun j hj => by
  subst e; simp [cpyv, lv, List.getD_eq_getElem?_getD, hj]
theorem Wk.acopy {T T' : String × FieldType} {n n' : Nat} {f g F : Nat → Value} {sp dp nn : Int32} {sp' dp' nn' : Nat} (k : Wk md EL p l e R s m args below meth c S G own B ml mn rt Z a0 n0 h0 vm h cells slots pc Ls (.int nn :: .int dp :: .ref b :: .int sp :: .ref a :: St))
    (w1 : (Cond.methodLink own index Jvm.Stand.acN).before a0 Z = true) (w2 : (Cond.native Jvm.Stand.acN).before a0 Z = true) (w3 : (Cond.static Jvm.Stand.acN).before a0 Z = true) (w4 : (Cond.initialized "java/lang/System").before a0 Z = true)
    (A : Ary Z h a T n f) (A' : Ary Z h b T' n' g) (hty : T.2 = T'.2 ∧ refKind T.2 = false) (h1 : ¬ sp < 0 ∧ sp.toNatClampNeg = sp') (h2 : ¬ dp < 0 ∧ dp.toNatClampNeg = dp') (h3 : ¬ nn < 0 ∧ nn.toNatClampNeg = nn') (h4 : sp' + nn' ≤ n) (h5 : dp' + nn' ≤ n') (hF : ∀ j, j < n' → cpyv f g sp' dp' nn' j = F j) (ge : n0 ≤ b) (hd : Dc B pc (.invokestatic index) 3 pc')
    (W : Nat) (hs : md = false ∨ Safe Z EL vm h b := by exact Or.inl rfl) (hL : Ls.size = ml := by rfl) (hW : (St.map fun v => v.category).sum = W := by rfl) (hr : 1 ≤ R.frames ∧ W + (nativeFrameWords "java/lang/System" "arraycopy" 5 + 11) ≤ R.locals := by decide) :
    ∃ h', Keep h h' [b] ∧ Ary Z h' b T' n' F ∧ Wk md EL p l e R s m args below meth c S G own B ml mn rt Z a0 n0 h0 vm h' cells slots pc' Ls St := by
  obtain ⟨hd, rfl⟩ := hd
  obtain ⟨h1, rfl⟩ := h1
  obtain ⟨h2, rfl⟩ := h2
  obtain ⟨h3, rfl⟩ := h3
  obtain ⟨q1, q2, q3, q4, q5, q6, T0, locs, X, eT, N, gg⟩ := k
  obtain ⟨ka, -, hA, VA⟩ := A.arv .null
  obtain ⟨kb, hO, hB, VB⟩ := A'.arv .null
  obtain ⟨T1, h', L, X', eT', N', K, V, st⟩ := cpA X q1.1 q2 q3 w1 w2 w3 w4 eT VA VB (us := (List.range nn.toNatClampNeg).map fun i => f (i + sp.toNatClampNeg)) (Or.inl hty) h1 h2 h3 (by rw [(ofNat_clamp hA).1]; exact h4) (by rw [(ofNat_clamp hB).1]; exact h5)
    (by
      refine List.map_congr_left fun i hi => ?_
      have hi' := List.mem_range.mp hi
      have hlt : i + sp.toNatClampNeg < n := by omega
      rw [Nat.add_comm sp.toNatClampNeg i]
      simp [List.getD_eq_getElem?_getD, hlt]) (by simpa using h5) N ge (g := mkF m pc Ls (.int nn :: .int dp :: .ref b :: .int sp :: .ref a :: St)) rfl (by rw [q1.2.2.1]; exact hL) rfl (by rw [q1.2.1]; exact hd) hr.1 (wsW m Ls _ hW) hr.2
  refine ⟨h', K, ?_, q1, q2, q3, q4.keep K (allS ge all0), Nat.le_trans q5 K.1, q6.keep K (hs.imp id fun z => allS z all0), T1, L, X', eT', N', fun t q => gg t (st t q)⟩
  exact (Ary.of_arv V hO (A'.1.imp id (·.keep K)) (ofNat_clamp hB).1 (cpy_list h5 .null _ (by simp) (fun i hi => by simp [List.getD_eq_getElem?_getD, hi]))).norm hF
theorem Wk.aclone {T : String × FieldType} {n : Nat} {f : Nat → Value} (k : Wk md EL p l e R s m args below meth c S G own B ml mn rt Z a0 n0 h0 vm h cells slots pc Ls (.ref a :: St)) (w1 : (Cond.methodLink own index ⟨T.1, "clone", "()Ljava/lang/Object;"⟩).before a0 Z = true) (w2 : (Cond.sameMethod T.1 "java/lang/Object" "clone" "()Ljava/lang/Object;").before a0 Z = true) (w3 : (Cond.native ⟨"java/lang/Object", "clone", "()Ljava/lang/Object;"⟩).before a0 Z = true)
    (w4 : (Cond.instanceMethod ⟨"java/lang/Object", "clone", "()Ljava/lang/Object;"⟩).before a0 Z = true) (w5 : (Cond.selects T.1 ⟨T.1, "clone", "()Ljava/lang/Object;"⟩ ⟨"java/lang/Object", "clone", "()Ljava/lang/Object;"⟩).before a0 Z = true) (w6 : (Cond.castable T.1 "java/lang/Cloneable").before a0 Z = true)
    (A : Ary Z h a T n f) (hn : T.1 ≠ "") (hd : Dc B pc (.invokevirtual index) 3 pc') (W : Nat) (hL : Ls.size = ml := by rfl) (hW : (St.map fun v => v.category).sum = W := by rfl) (hr : 1 ≤ R.frames ∧ W + 14 ≤ R.locals ∧ cells + 1 ≤ R.cells ∧ slots + n ≤ R.slots := by decide) :
    ∃ b h', h.size ≤ b ∧ Keep h h' [] ∧ Ary Z h' b T n f ∧ Wk md EL p l e R s m args below meth c S G own B ml mn rt Z a0 n0 h0 vm h' (cells + 1) (slots + n) pc' Ls (.ref b :: St) := by
  obtain ⟨hd, rfl⟩ := hd
  have E := A.exa hn
  obtain ⟨-, cl, A1, hk, hs, hlt, hf, hfit⟩ := A
  have FC : FitC Z cl := fitC_of A1 fun i hi v hv => by rw [hs] at hi; rw [hf i hi] at hv; cases hv; exact hfit i hi
  obtain ⟨q1, q2, q3, q4, q5, q6, T0, locs, X, eT, N, gg⟩ := k
  obtain ⟨T1, h', X', eT', Ex, A', E', st⟩ := cloneA X q1.1 q2 q3 w1 w2 w3 w4 w5 w6 eT A1 E FC (g := mkF m pc Ls (.ref a :: St)) rfl (by rw [q1.2.2.1]; exact hL) rfl (by rw [q1.2.1]; exact hd) hr.1 (wsW m Ls _ hW) hr.2.1 (cap := n) (by rw [hs]; exact Nat.le_refl _) hr.2.2.1 hr.2.2.2
  have K : Keep h h' [] := (Keep.refl h []).ext Ex
  exact ⟨h.size, h', Nat.le_refl _, K, ⟨Or.inr E', cloneOf cl, A', hk, hs, hlt, hf, hfit⟩, q1, q2, q3, q4.ext Ex, Nat.le_trans q5 Ex.1, q6.keep K (Or.inr fun _ z => nomatch z), T1, locs, X', eT', N, fun t q => gg t (st t q)⟩
end More
/-! walks that load String constants -/
section LitW
variable {EL : List (String × Nat)} {p : Program} {l : Launch} {e : Env} {R : Room} {s : State} {m : MethodId} {args : Array Value} {below : List Frame} {meth : Method} {c : Code} {S : State} {G : JFrame} {own : String} {B : ByteArray} {ml : Nat} {mn : String} {rt : Option FieldType} {Z : State} {a0 : Array Value} {n0 : Nat} {h0 : Heap} {vm : Vm} {h h' : Heap} {cells slots pc pc' : Nat} {Ls Ls' : Array Slot} {St St' : List Value} {index : Nat} {y z : MethodName} {cd : Cond} {rm : Room} {as' : Array Value} {maxL np W len : Nat} {ret : Option FieldType} {Q : Option Value → Heap → Prop} {argsL rest : List Value}
abbrev litL : Lay := ("java/lang/String", [("java/lang/String", "value", "[B", .null), ("java/lang/String", "coder", "B", .int 0)])
theorem Wk.ldcS {text : String} {vs : List Value} {n : Nat} (k : Wk true EL p l e R s m args below meth c S G own B ml mn rt Z a0 n0 h0 vm h cells slots pc Ls St) (w : (Cond.stringLink own index text).before a0 Z = true) (wS : ∀ a ∈ Bundle.stringAtoms, a.before a0 Z = true) (hmem : (own, index) ∈ EL)
    (ht : (∀ c ∈ text.toList, c.toNat < 256) ∧ text.toList.map (fun c => Value.int (Jvm.Lit.byteI c.toNat.toUInt16)) = vs) (hl : vs.length = n) (hd : Dc B pc (.ldc index) 2 pc') (hc : 4 * n ≤ 536870912 ∧ cells + 2 ≤ R.cells ∧ slots + (4 * n + 4) ≤ R.slots := by decide) :
    ∃ a b vm' h', Keep h h' [] ∧ CHr Z EL vm h vm' h' ∧ Obj Z h' a litL [.ref b, .int 0] ∧ Ary Z h' b ("", .byte) n (lv vs) ∧ (∀ x, Safe Z EL vm' h' x → x ≠ a ∧ x ≠ b) ∧ Wk true EL p l e R s m args below meth c S G own B ml mn rt Z a0 n0 h0 vm' h' (cells + 2) (slots + (4 * n + 4)) pc' Ls (.ref a :: St) := by
  obtain ⟨hd, rfl⟩ := hd
  obtain ⟨q1, q2, q3, q4, q5, q6, T, locs, X, eT, N, g⟩ := k
  rcases q6 with ⟨q, -⟩ | ⟨-, hEW, ⟨k0, hS, hk⟩, hC⟩
  · cases q
  have hlt : text.toList.length = n := by rw [← hl, ← ht.2, List.length_map]
  have hn : n < 2147483648 := by omega
  obtain ⟨a, T', h', k1, b, kc, X', eT', E, hS', hk', hW, ho, F1, F2, F3, F4, -, -, hR, -, hne, st⟩ := ldcCH X q1.1 q2 q3 w wS eT hS hk hEW hmem hC.1 (z := Int32.ofNat n) ht (ofNat_clamp hn).2 (by rw [(ofNat_clamp hn).1, hl]) (g := mkF m pc Ls St) rfl (by rw [q1.2.1]; exact hd) (n := 4 * n) (by rw [hlt]; exact Nat.le_refl _) hc.1 hc.2.1 hc.2.2
  have K : Keep h h' [] := (Keep.refl h []).ext E
  refine ⟨a, b, T'.vm, h', K, hR, ⟨F1, rfl, ?_⟩, ?_, hne, q1, hW, ho, q4.ext E, Nat.le_trans q5 E.1, Or.inr ⟨rfl, hEW, ⟨k1, hS', hk'⟩, hC.trans hR⟩, T', locs, X', eT', N, fun t q => g t (st t q)⟩
  · intro i q v hi hv
    match i, hi, hv with
    | 0, hi, hv => cases hi; cases hv; exact F3
    | 1, hi, hv => cases hi; cases hv; exact F2
  · refine Ary.of_arv (T := ("", .byte)) F4 (OvT.of_prim rfl) (Or.inl rfl) (ofNat_clamp hn).1 fun i hi => ?_
    rw [← hl] at hi
    simp [lv, List.getD_eq_getElem?_getD, hi]
theorem backS_of_with {Pre : Pt → Array Value → Prop} {Post : Pt → Array Value → Option Value → Pt → Prop} {S : Spec} {P : Array Value → State → Prop}
    {K : Program → Env → List Frame → State → Array Value → Prop} {Q : Array Value → State → Outcome → State → Prop} {bytes : ByteArray} {hs : List (Nat × Nat × Nat × Nat)} {E : Array Value → State → Outcome → State → List Loc → Nat → Nat → Prop}
    (hM : MetFree l y S P K Q) (hframes : S.room.frames + 1 ≤ R.frames) (hlocals : W + (maxL + 11) + S.room.locals ≤ R.locals)
    (hpre : ∀ m meth c (A : Pt) a, Stand p l e R s m args below meth c A.U A.locs A.cells A.slots → Pre A a → S.pre.before a A.U = true ∧ (Cond.codeWith y bytes maxL ret hs).before a A.U = true ∧ (Cond.initialized y.cls).before a A.U = true ∧ A.cells + S.room.cells ≤ R.cells ∧ A.slots + S.room.slots ≤ R.slots)
    (hP : ∀ m meth c (A : Pt) a (g : JFrame) mk, Stand p l e R s m args below meth c A.U A.locs A.cells A.slots → Pre A a → P a (A.U.calling g mk a))
    (hK : ∀ m meth c (A : Pt) a (g : JFrame) mk, Stand p l e R s m args below meth c A.U A.locs A.cells A.slots → Pre A a → K p e (A.U.setTop g).frames (A.U.calling g mk a) a)
    (hQ : ∀ a first o t, Q a first o t → ∃ L k n, ReturnedEndW first o t L k n ∧ E a first o t L k n)
    (hpost : ∀ m meth c (A : Pt) a (g : JFrame) mk v t L k n, Stand p l e R s m args below meth c A.U A.locs A.cells A.slots → Pre A a → Q a (A.U.calling g mk a) (.returned v) t → ReturnedEndW (A.U.calling g mk a) (.returned v) t L k n → E a (A.U.calling g mk a) (.returned v) t L k n →
      Post A a v ⟨(({ A.U with heap := t.heap, slotsUsed := t.slotsUsed } : State).setVm t.vm), A.locs ++ L, A.cells + k, A.slots + n⟩) :
    BackS l R p e below s args y len W Pre Post := by
  intro m meth c A g ig mk a X hg hsize hdg hW hn hp
  obtain ⟨h1, h2, h3, h4, h5⟩ := hpre m meth c A a X hp
  obtain ⟨U, Ls, c0, s0⟩ := A
  dsimp only [Pt.U, Pt.locs, Pt.cells, Pt.slots] at h1 h2 h3 h4 h5 X hn ⊢
  obtain ⟨mk', methY, cY, hn', hmY, hcY, -, hlY, -, -, -, -⟩ := Cond.codeWith_spec h2
  cases hn.symm.trans hn'
  obtain ⟨kY, hkY, -⟩ := className_of_methodNamed hn
  have hinitY : kY.init = .initialized := Cond.initialized_spec (findClass_of_methodNamed hn) hkY h3
  have h : At U g.method c below := by rw [hg]; exact X.here
  have happ : S.appliesLoose y e.platform (U.calling g mk a) = true :=
    Spec.appliesLoose_calling (g := g) h hdg hn hkY hinitY (X.room_calling (g := g) (R' := S.room) hsize hmY hcY hframes (by rw [hlY]; omega) h4 h5) h1
  obtain ⟨mid, hmid⟩ := h.above
  have hfr : (U.setTop g).frames = (.java g :: mid) ++ below := by rw [State.frames_setTop' g h.top, hmid]; rfl
  obtain ⟨o, s₂, hsteps, -, hend, hq⟩ := Steps.callFree hM p X.admits X.cas X.clock (acts := []) hfr happ (hP m meth c ⟨U, Ls, c0, s0⟩ a g mk X hp) (hK m meth c ⟨U, Ls, c0, s0⟩ a g mk X hp)
  have hq' : Q a (U.calling g mk a) o s₂ := hq
  rw [State.frames_setTop' g h.top] at hend
  obtain ⟨L, k, n, hfe, hE⟩ := hQ _ _ _ _ hq'
  obtain ⟨⟨v, rfl⟩, hW₂, hB₂, e2, q2, q3, q4, q5, q6⟩ := id hfe
  have e3 : s₂ = ({ (U.calling g mk a).setFrames s₂.frames with heap := s₂.heap, slotsUsed := s₂.slotsUsed } : State).setVm s₂.vm := by
    have : s₂ = ({ s₂ with vm := (U.calling g mk a).vm } : State).setVm s₂.vm := rfl
    rw [e2] at this
    exact this
  obtain ⟨c₂, i₂, len₂, hc₂, hd₂, hf₂⟩ := hend
  have hW' : U.Warmed39 s₂.vm := hW₂
  have hcc : c₂ = c := by
    have h1 : s₂.code? g.method = U.code? g.method := by rw [State.code?_eq, State.code?_eq, hW'.alike.method?]
    exact Option.some.inj (hc₂.symm.trans (h1.trans h.code))
  subst hcc
  have hlen : len₂ = len := by rw [hdg] at hd₂; cases hd₂; rfl
  subst hlen
  obtain ⟨g₀, hg0⟩ := Option.isSome_iff_exists.mp h.top
  obtain ⟨r, hr⟩ := State.topJava?_eq_some.mp hg0
  have hs₂ : s₂ = (({ U with heap := s₂.heap, slotsUsed := s₂.slotsUsed } : State).setVm s₂.vm).setTop { g with pc := g.pc + len₂, stack := v.toList ++ g.stack } := by
    have hr' : (({ U with heap := s₂.heap, slotsUsed := s₂.slotsUsed } : State).setVm s₂.vm).frames = .java g₀ :: r := hr
    refine e3.trans ?_
    rw [hf₂, State.calling_eq h.top, State.setFrames_setFrames, State.setTop_of_frames _ hr', hr]
    rfl
  have hsame : U.sameButNew ({ U with heap := s₂.heap, slotsUsed := s₂.slotsUsed } : State) L k n := by
    refine ⟨?_, q2, q3, q4, q5, q6⟩
    obtain ⟨t, ht, -⟩ := State.frames_cons hr
    show ({ U with heap := s₂.heap, slotsUsed := s₂.slotsUsed } : State) = { U.setFrames U.frames with heap := s₂.heap, slotsUsed := s₂.slotsUsed }
    rw [State.setFrames_self ht]
  subst hg
  obtain ⟨X', hS⟩ := X.movedW (T₂ := (({ U with heap := s₂.heap, slotsUsed := s₂.slotsUsed } : State).setVm s₂.vm)) ((X.here.setHeapUsed s₂.heap s₂.slotsUsed).setVm hW'.alike) X.tail rfl rfl hW' hB₂ hsame
  refine ⟨v, ⟨(({ U with heap := s₂.heap, slotsUsed := s₂.slotsUsed } : State).setVm s₂.vm), Ls ++ L, c0 + k, s0 + n⟩, X', hS, hsame.2.1, hpost _ meth _ ⟨U, Ls, c0, s0⟩ a g mk v s₂ L k n X hp hq' hfe hE, ?_⟩
  show Steps p.tables e below _ ((({ U with heap := s₂.heap, slotsUsed := s₂.slotsUsed } : State).setVm s₂.vm).setTop { g with pc := g.pc + len₂, stack := v.toList ++ g.stack })
  rw [← hs₂]
  exact hsteps
theorem Mt.freeW (M : Mt true EL l y cd rm as' Z a0 h n0 Q) (O : Old Z n0 h) (hEW : EW Z a0 EL) :
    MetFree l y (head1 [cd] rm) (fun a U => a = as' ∧ Z.Warmed39 U.vm ∧ U.heap = h ∧ CHv Z EL U.vm h) (fun _ _ _ _ _ => True) (fun _ U o U' => ∃ v L, o = .returned v ∧ (Fr n0 L ∧ Q v U'.heap) ∧ CHr Z EL U.vm U.heap U'.vm U'.heap ∧ ReturnedEndW U o U' L rm.cells rm.slots) := by
  intro p e ha hc hk s m args below hf happ hP hK
  obtain ⟨n, o, h1, h2, h3, v, L, e1, e2, e3⟩ := M O (fun _ => hEW) [] p e ha hc hk s m args below hf happ ⟨hP.1, hP.2.1, hP.2.2.1, fun _ => hP.2.2.2⟩ hK
  refine ⟨n, o, h1, h2, h3, v, L, e1, e2, ?_⟩
  rcases e3 with ⟨q, -⟩ | ⟨-, e3⟩
  · cases q
  · exact e3
theorem Mt.payW (M : Mt true EL l y cd rm as' Z a0 h n0 Q) (C : CW Z a0 y cd maxL ret np) (O : Old Z n0 h) (hZ : Z.Warmed39 vm) (hf : rm.frames + 1 ≤ R.frames) (hl : W + (maxL + 11) + rm.locals ≤ R.locals) (hEW : EW Z a0 EL) (H : CHv Z EL vm h) :
    BackS l R p e below (s.setVm vm) args y len W (fun A a => a = as' ∧ A.U.heap = h ∧ A.cells + rm.cells ≤ R.cells ∧ A.slots + rm.slots ≤ R.slots)
      (fun A _ v B => ∃ L, (Fr n0 L ∧ Q v B.U.heap) ∧ B.locs = A.locs ++ L ∧ B.cells = A.cells + rm.cells ∧ B.slots = A.slots + rm.slots ∧ CHr Z EL vm h B.U.vm B.U.heap) := by
  obtain ⟨⟨bytes, hc⟩, wc, wz, -, -⟩ := C
  have F := M.freeW O hEW
  rcases hc with rfl | ⟨hs, rfl⟩
  · exact backOfSH (Q := fun v h L => Fr n0 L ∧ Q v h) F hZ wc wz hf hl hEW H
  · exact backS_of_with (bytes := bytes) (maxL := maxL) (ret := ret) (hs := hs) (E := fun _ first o t L k n => k = rm.cells ∧ n = rm.slots ∧ (∃ v, o = .returned v ∧ (Fr n0 L ∧ Q v t.heap)) ∧ CHr Z EL first.vm first.heap t.vm t.heap) F hf hl
      (fun m meth c A a Y hp => have hU : Z.Warmed39 A.U.vm := wtrans (s := s.setVm vm) hZ Y.warmed
        ⟨by show (Cond.and _ .tt).before a A.U = true; rw [Cond.before_and, mv hU wc]; rfl, mv hU wc, mv hU wz, hp.2.2.1, hp.2.2.2⟩)
      (fun m meth c A a g mk Y hp => ⟨hp.1, wtrans (s := s.setVm vm) hZ Y.warmed, hp.2.1, (CHv.at Y hZ hEW H).1⟩) (fun _ _ _ _ _ _ _ _ _ => trivial)
      (fun _ _ _ _ ⟨v, L, h1, h2, h3, h4⟩ => ⟨L, _, _, h4, rfl, rfl, ⟨v, h1, h2⟩, h3⟩)
      (fun m meth c A a g mk v t L k n Y hp _ _ ⟨e1, e2, ⟨v', e3, e4⟩, e5⟩ => by
        cases e3; subst e1 e2
        refine ⟨L, e4, rfl, rfl, rfl, (CHv.at Y hZ hEW H).trans ?_⟩
        rw [← hp.2.1]; exact e5)
def ClW (EL : List (String × Nat)) (p : Program) (l : Launch) (e : Env) (R : Room) (s : State) (m : MethodId) (args : Array Value) (below : List Frame) (meth : Method) (c : Code) (S : State) (G : JFrame) (own : String) (B : ByteArray) (ml : Nat) (mn : String) (rt : Option FieldType) (Z : State) (a0 : Array Value) (n0 : Nat) (h0 : Heap) (vm : Vm) (h : Heap) (cells slots pc : Nat) (Ls : Array Slot) (rest : List Value) (Q : Option Value → Heap → Prop) : Prop :=
  ∀ ws : List Addr, (∀ v h', Q v h' → Keep h h' ws) → (∀ w ∈ ws, n0 ≤ w) → ∃ v vm' h', Q v h' ∧ CHr Z EL vm h vm' h' ∧ Wk true EL p l e R s m args below meth c S G own B ml mn rt Z a0 n0 h0 vm' h' cells slots pc Ls (v.toList ++ rest)
theorem Wk.calledW {ck sk : Nat} (k : Wk true EL p l e R s m args below meth c S G own B ml mn rt Z a0 n0 h0 vm h cells slots pc Ls St)
    (f : ∀ {T locs}, Stand p l e R (s.setVm vm) m args below meth c T locs cells slots → p.tables.exec = Jvm.exec → c.code = B → c.maxLocals = ml → Z.Warmed39 vm → vm.findClass own = some m.cls → T.heap = h → EW Z a0 EL → CHv Z EL vm h →
      ∃ v vm₁ B', (s.setVm vm).WarmedH vm₁ ∧ Stand p l e R ((s.setVm vm).setVm (Pt.U B').vm) m args below meth c (Pt.U B') (Pt.locs B') (Pt.cells B') (Pt.slots B') ∧ (s.setVm vm).Since (Pt.U B').vm (Pt.U B').heap.size ∧ T.heap.size ≤ (Pt.U B').heap.size ∧
        (∃ L, (Fr n0 L ∧ Q v (Pt.U B').heap) ∧ Pt.locs B' = locs ++ L ∧ Pt.cells B' = cells + ck ∧ Pt.slots B' = slots + sk ∧ CHr Z EL vm h (Pt.U B').vm (Pt.U B').heap) ∧ Steps p.tables e below (T.setTop (mkF m pc Ls St)) ((Pt.U B').setTop (mkF m pc' Ls (v.toList ++ rest)))) :
    ClW EL p l e R s m args below meth c S G own B ml mn rt Z a0 n0 h0 vm h (cells + ck) (slots + sk) pc' Ls rest Q := by
  intro ws hq hn
  obtain ⟨q1, q2, q3, q4, q5, q6, T, locs, X, eT, N, g⟩ := k
  rcases q6 with ⟨q, -⟩ | ⟨-, hEW, ⟨k0, hS, hk⟩, hC⟩
  · cases q
  obtain ⟨v, vm₁, ⟨T', L', c', n'⟩, -, X', hS2, hg2, ⟨L, ⟨N', hQ⟩, e1, e2, e3, hR⟩, st⟩ := f X q1.1 q1.2.1 q1.2.2.1 q2 q3 eT hEW hC.1
  dsimp only [Pt.U, Pt.locs, Pt.cells, Pt.slots] at X' hQ e1 e2 e3 st hR hS2 hg2
  subst e1 e2 e3
  have K := hq _ _ hQ
  have hW : Z.Warmed39 T'.vm := State.Warmed39.trans (t := s.setVm vm) q2 hS2.1
  exact ⟨v, T'.vm, T'.heap, hQ, hR, q1, hW, by rw [hS2.1.alike.findClass]; exact q3, q4.keep K hn, Nat.le_trans q5 K.1, Or.inr ⟨rfl, hEW, ⟨_, foldS hS (by rw [eT]; exact hk) hS2 hg2, Nat.le_refl _⟩, hC.trans hR⟩, T', _, X', rfl, N.app N', fun t q => g t (st.trans q)⟩
theorem ClW.kv {ws : List Addr} {Q : Value → Heap → Prop} (k : ClW EL p l e R s m args below meth c S G own B ml mn rt Z a0 n0 h0 vm h cells slots pc Ls rest (KpV h ws Q)) (hn : ∀ w ∈ ws, n0 ≤ w := by exact all0) :
    ∃ w vm' h', Keep h h' ws ∧ CHr Z EL vm h vm' h' ∧ Q w h' ∧ Wk true EL p l e R s m args below meth c S G own B ml mn rt Z a0 n0 h0 vm' h' cells slots pc Ls (w :: rest) := by
  obtain ⟨v, vm', h', ⟨w, rfl, K, q⟩, hR, k⟩ := k ws (fun v h' q => q.choose_spec.2.1) hn
  exact ⟨w, vm', h', K, hR, q, k⟩
theorem ClW.k0 {ws : List Addr} {Q : Heap → Prop} (k : ClW EL p l e R s m args below meth c S G own B ml mn rt Z a0 n0 h0 vm h cells slots pc Ls rest (K0 h ws Q)) (hn : ∀ w ∈ ws, n0 ≤ w := by exact all0) :
    ∃ vm' h', Keep h h' ws ∧ CHr Z EL vm h vm' h' ∧ Q h' ∧ Wk true EL p l e R s m args below meth c S G own B ml mn rt Z a0 n0 h0 vm' h' cells slots pc Ls rest := by
  obtain ⟨v, vm', h', ⟨rfl, K, q⟩, hR, k⟩ := k ws (fun v h' q => q.2.1) hn
  exact ⟨vm', h', K, hR, q, k⟩
theorem Wk.callSW (k : Wk true EL p l e R s m args below meth c S G own B ml mn rt Z a0 n0 h0 vm h cells slots pc Ls St) (wl : (Cond.methodLink own index y).before a0 Z = true) (C : SC Z a0 y cd maxL ret argsL.length) (M : Mt true EL l y cd rm argsL.toArray Z a0 h n0 Q)
    (hd : Dc B pc (.invokestatic index) 3 pc') (W : Nat) (hst : St = argsL.reverse ++ rest) (hL : Ls.size = ml := by rfl) (hW : (rest.map fun v => v.category).sum = W := by rfl) (hr : rm.frames + 1 ≤ R.frames ∧ W + (maxL + 11) + rm.locals ≤ R.locals ∧ cells + rm.cells ≤ R.cells ∧ slots + rm.slots ≤ R.slots := by decide) :
    ClW EL p l e R s m args below meth c S G own B ml mn rt Z a0 n0 h0 vm h (cells + rm.cells) (slots + rm.slots) pc' Ls rest Q := by
  have O := k.old
  obtain ⟨hd, rfl⟩ := hd
  obtain ⟨ws, C⟩ := C
  refine k.calledW fun {T locs} X hx hb hml hZ hown eT hEW H => ?_
  have P := M.payW (p := p) (e := e) (below := below) (s := s) (args := args) (R := R) (len := 3) (W := W) C O hZ hr.1 hr.2.1 hEW H
  have hlen := C.plen (argsL := argsL) rfl
  obtain ⟨⟨bytes, hc⟩, wc, wz, hy, -⟩ := C
  have hZ' : Z.Warmed39 (s.setVm vm).vm := hZ
  have hown' : (s.setVm vm).vm.findClass own = some m.cls := hown
  obtain ⟨mk, methM, hnamed, hmethM, hsig⟩ : ∃ mk methM, (s.setVm vm).methodNamed? y = some mk ∧ (s.setVm vm).vm.method? mk = some methM ∧ parseMethodDescriptor y.desc = some methM.sig := by
    rcases hc with rfl | ⟨hs, rfl⟩
    · have w := mvT (args := args) hZ' wc
      obtain ⟨mk, hnamed⟩ := Cond.code_named w
      obtain ⟨methM, cM, hmethM, -, -, -, -, -, -, hsig⟩ := Cond.code_spec hnamed w
      exact ⟨mk, methM, hnamed, hmethM, hsig⟩
    · obtain ⟨mk, methM, cM, hnamed, hmethM, -, -, -, -, -, -, hsig⟩ := Cond.codeWith_spec (mvT (args := args) hZ' wc)
      exact ⟨mk, methM, hnamed, hmethM, hsig⟩
  exact X.staticBackS hx hown' (mvT hZ' wl) (mvT hZ' ws) (mvT hZ' wz) hnamed hmethM hsig hy P (g := mkF m pc Ls St) rfl (by rw [hml]; exact hL) (Steps.refl _) (argsL := argsL) (rest := rest) hlen hst (wsW m Ls St hW) (by rw [hb]; exact hd) (fun _ _ => ⟨rfl, eT, hr.2.2.1, hr.2.2.2⟩)
theorem Wk.callIW {a : Addr} (k : Wk true EL p l e R s m args below meth c S G own B ml mn rt Z a0 n0 h0 vm h cells slots pc Ls St) (wl : (Cond.methodLink own index y).before a0 Z = true) (C : IC Z a0 y cd maxL argsL.length) (M : Mt true EL l y cd rm (.ref a :: argsL).toArray Z a0 h n0 Q)
    (hd : Dc B pc (.invokespecial index) 3 pc') (W : Nat) (hst : St = argsL.reverse ++ .ref a :: rest) (hL : Ls.size = ml := by rfl) (hW : (rest.map fun v => v.category).sum = W := by rfl) (hr : rm.frames + 1 ≤ R.frames ∧ W + (maxL + 11) + rm.locals ≤ R.locals ∧ cells + rm.cells ≤ R.cells ∧ slots + rm.slots ≤ R.slots := by decide) :
    ClW EL p l e R s m args below meth c S G own B ml mn rt Z a0 n0 h0 vm h (cells + rm.cells) (slots + rm.slots) pc' Ls rest Q := by
  have O := k.old
  obtain ⟨hd, rfl⟩ := hd
  obtain ⟨ws, hy1, C⟩ := C
  refine k.calledW fun {T locs} X hx hb hml hZ hown eT hEW H => ?_
  have P := M.payW (p := p) (e := e) (below := below) (s := s) (args := args) (R := R) (len := 3) (W := W) C O hZ hr.1 hr.2.1 hEW H
  have hlen := C.plen (argsL := argsL) rfl
  obtain ⟨⟨bytes, hc⟩, wc, wz, hy, -⟩ := C
  have hZ' : Z.Warmed39 (s.setVm vm).vm := hZ
  have hown' : (s.setVm vm).vm.findClass own = some m.cls := hown
  rcases hc with rfl | ⟨hs, rfl⟩
  · exact X.specialBackS hx hy1 hown' (mvT hZ' wl) (mvT hZ' ws) (mvT hZ' wc) hy P (g := mkF m pc Ls St) rfl (by rw [hml]; exact hL) (Steps.refl _) (a := a) (argsL := argsL) (rest := rest) hlen hst (wsW m Ls St hW) (by rw [hb]; exact hd) (fun _ _ => ⟨rfl, eT, hr.2.2.1, hr.2.2.2⟩)
  · have hpl : e.platform.magicAccessors = ({} : Platform).magicAccessors := by rw [X.admits.platform]
    obtain ⟨mk, methM, cM, kP, vm₁, hnamed, hmethM, -, -, -, -, hkP, -, hW₁, hstep₁⟩ :=
      Steps.initColdArgsH (e := e) X.here hx X.warmed hpl hown' hy1 hy (mvT (args := args) hZ' wl) (mvT hZ' ws) (mvT hZ' wc) (f := mkF m pc Ls St) rfl hlen hst (by rw [hb]; exact hd)
    have X₁ := X.noted hW₁
    obtain ⟨v, B', X', hS, hgr, hpost, hsteps⟩ := P m meth c ⟨T.setVm vm₁, locs, cells, slots⟩ (mkF m pc Ls rest) (.invokespecial index) mk (.ref a :: argsL).toArray X₁ rfl (by rw [hml]; exact hL) (by rw [hb]; exact hd) (wsW m Ls rest hW) (X₁.named hnamed) ⟨rfl, eT, hr.2.2.1, hr.2.2.2⟩
    exact ⟨v, vm₁, B', hW₁, X', hS, hgr, hpost, (hstep₁ _ fun acts => by rw [doInvoke_state]; exact Steps.refl _).trans hsteps⟩
theorem Safe.nul {x : Addr} {L : Lay} {vs : List Value} (hal : Z.vm.Alike vm) (O : Obj Z h x L vs) (i : Nat) {w : Value} (e : L.2[i]? = some ("java/lang/String", "value", "[B", w)) (e' : vs[i]? = some .null) (hL : L.1 ≠ "[B" := by decide) : Safe Z EL vm h x := fun Bb => by
  obtain ⟨cell, k, e1, e2, e3, -, -⟩ := O.exa
  have nm : ∀ {n : String} {c : ClassId}, vm.findClass n = some c → c = cell.cls → n = L.1 := fun {n c} f e => by
    subst e
    rw [hal.findClass] at f
    obtain ⟨k1, q1, q2⟩ := Vm.findClass_spec f
    obtain ⟨k2, q3, q4⟩ := Vm.findClass_spec e2
    cases q1.symm.trans q3
    exact q2.symm.trans q4
  obtain ⟨p, -, u, a, -, q, -, F, rfl | rfl⟩ := Bb
  · obtain ⟨cell', cf, kf, i', f, f1, f2, f3, f4, f5, f6, f7⟩ := O.at i e e'
    obtain ⟨cS, ⟨⟨s1, s2, s3, ⟨cv, kv, iv, s4, s4'⟩, s5, s6, s7, s8, s9⟩, -⟩, -⟩ := F
    cases f1.symm.trans s1
    obtain ⟨kv', z4⟩ := ff_back (U := Wst Z vm h) hal s4
    cases f2.symm.trans z4
    cases f7.symm.trans s8
  · cases (show h[q.sd]? = some q.SA from F.hd).symm.trans e1
    obtain ⟨cS, -, -, f, -⟩ := F
    exact hL (nm f rfl).symm
end LitW
end Jvm.Own
namespace Jvm.Pilot.@@N@@
set_option maxRecDepth 65536
set_option maxHeartbeats 40000000
open Jvm Jvm.ClassFile Sem Op Lib Jvm.Free Jvm.Stand Jvm.LawKit Jvm.RoadKit Jvm.Own Bundle Jvm.Pilot.@@N@@.Jvm.D
def HW (a0 : Array Value) (Z : State) : Prop := ∀ d ∈ tables_1, d.before a0 Z = true
abbrev ATB : String × FieldType := ("[B", .byte)
abbrev rmk (f c s l : Nat) : Room := { frames := f, cells := c, slots := s, locals := l }
variable {l : Launch} {Z : State} {a0 : Array Value} {n0 : Nat} {h0 : Heap}

abbrev TS_AD (Z : State) : Prop := Sta Z Z.heap "java/lang/StringUTF16" "$assertionsDisabled" "Z" (.int 1)
abbrev TS_HI (Z : State) : Prop := Sta Z Z.heap "java/lang/StringUTF16" "HI_BYTE_SHIFT" "I" (.int 0)
abbrev TS_LO (Z : State) : Prop := Sta Z Z.heap "java/lang/StringUTF16" "LO_BYTE_SHIFT" "I" (.int 8)
abbrev TS_CS (Z : State) (w_CS : Int32) : Prop := Sta Z Z.heap "java/lang/String" "COMPACT_STRINGS" "Z" (.int w_CS)
abbrev TS_SF (Z : State) (w_SF : Value) : Prop := Sta Z Z.heap "jdk/internal/util/Preconditions" "SIOOBE_FORMATTER" "Ljava/util/function/BiFunction;" w_SF
abbrev TS_U8 (Z : State) (w_U8 : Addr) : Prop := Sta Z Z.heap "java/nio/charset/StandardCharsets" "UTF_8" "Ljava/nio/charset/Charset;" (.ref w_U8)
abbrev TS_UI (Z : State) (w_U8 : Addr) : Prop := Sta Z Z.heap "sun/nio/cs/UTF_8" "INSTANCE" "Lsun/nio/cs/UTF_8;" (.ref w_U8)
abbrev w_7 (hw : HW a0 Z) := hw _ (List.mem_of_getElem? (i := 7) rfl)
abbrev w_6 (hw : HW a0 Z) := hw _ (List.mem_of_getElem? (i := 6) rfl)
abbrev w_0 (hw : HW a0 Z) := hw _ (List.mem_of_getElem? (i := 0) rfl)
abbrev w_27 (hw : HW a0 Z) := hw _ (List.mem_of_getElem? (i := 27) rfl)
abbrev w_28 (hw : HW a0 Z) := hw _ (List.mem_of_getElem? (i := 28) rfl)
abbrev w_29 (hw : HW a0 Z) := hw _ (List.mem_of_getElem? (i := 29) rfl)
abbrev w_30 (hw : HW a0 Z) := hw _ (List.mem_of_getElem? (i := 30) rfl)
theorem strAt (hw : HW a0 Z) : ∀ a ∈ Bundle.stringAtoms, a.before a0 Z = true := allC (w_7 hw) (allC (w_6 hw) (allC (w_0 hw) (allC (w_27 hw) (allC (w_28 hw) (allC (w_29 hw) (allC (w_30 hw) (allN)))))))
abbrev w_26 (hw : HW a0 Z) := hw _ (List.mem_of_getElem? (i := 26) rfl)
theorem ewC (hw : HW a0 Z) : EW Z a0 consts_1 := (EW.cons (w_26 hw) (by decide) EW.nil)
abbrev L_UTF_8 : Jvm.Own.Lay := ("sun/nio/cs/UTF_8", [])
abbrev Y0 : MethodName := x
abbrev C0 : Cond := .code x code maxLocals ret
theorem D0_0 : Dc code 0 (.iload_n 2) 1 1 := ⟨at_0, rfl⟩
theorem D0_1 : Dc code 1 (.iconst 3) 1 2 := ⟨at_1, rfl⟩
theorem D0_2 : Dc code 2 .iand 1 3 := ⟨at_2, rfl⟩
theorem D0_3 : Dc code 3 (.istore_n 3) 1 4 := ⟨at_3, rfl⟩
theorem sto3 {x0 x1 x2 x : Slot} {t : List Slot} {v : Value} (hx : okS x = true := by rfl) (hv : v.category = 1 := by rfl) : storeLocals (List.toArray (x0 :: x1 :: x2 :: x :: t)) 3 v = some (List.toArray (x0 :: x1 :: x2 :: .val v :: t)) := stoA (A := [x0, x1, x2]) hx hv
theorem D0_4 : Dc code 4 (.iload_n 1) 1 5 := ⟨at_4, rfl⟩
theorem D0_5 : Dc code 5 (.bipush 127) 2 7 := ⟨at_5, rfl⟩
theorem D0_7 : Dc code 7 .iand 1 8 := ⟨at_7, rfl⟩
theorem D0_8 : Dc code 8 (.istore 4) 2 10 := ⟨at_8, rfl⟩
theorem sto4 {x0 x1 x2 x3 x : Slot} {t : List Slot} {v : Value} (hx : okS x = true := by rfl) (hv : v.category = 1 := by rfl) : storeLocals (List.toArray (x0 :: x1 :: x2 :: x3 :: x :: t)) 4 v = some (List.toArray (x0 :: x1 :: x2 :: x3 :: .val v :: t)) := stoA (A := [x0, x1, x2, x3]) hx hv
theorem D0_10 : Dc code 10 (.iload_n 3) 1 11 := ⟨at_10, rfl⟩
theorem D0_11 : Dc code 11 (.iconst 2) 1 12 := ⟨at_11, rfl⟩
theorem D0_12 : Dj code 12 (.if_icmp .ne 17) 17 15 29 := ⟨at_12, rfl, by decide, by decide⟩
theorem D0_29 : Dc code 29 (.iload_n 3) 1 30 := ⟨at_29, rfl⟩
theorem D0_30 : Dc code 30 (.iconst 1) 1 31 := ⟨at_30, rfl⟩
theorem D0_31 : Dj code 31 (.if_icmp .ne 70) 70 34 101 := ⟨at_31, rfl, by decide, by decide⟩
theorem D0_34 : Dc code 34 (.sipush 128) 3 37 := ⟨at_34, rfl⟩
theorem D0_37 : Dc code 37 (.iload_n 0) 1 38 := ⟨at_37, rfl⟩
theorem D0_38 : Dc code 38 (.bipush 127) 2 40 := ⟨at_38, rfl⟩
theorem D0_40 : Dc code 40 .iand 1 41 := ⟨at_40, rfl⟩
theorem D0_41 : Dc code 41 .ior 1 42 := ⟨at_41, rfl⟩
theorem D0_42 : Dc code 42 (.istore 5) 2 44 := ⟨at_42, rfl⟩
theorem sto5 {x0 x1 x2 x3 x4 x : Slot} {t : List Slot} {v : Value} (hx : okS x = true := by rfl) (hv : v.category = 1 := by rfl) : storeLocals (List.toArray (x0 :: x1 :: x2 :: x3 :: x4 :: x :: t)) 5 v = some (List.toArray (x0 :: x1 :: x2 :: x3 :: x4 :: .val v :: t)) := stoA (A := [x0, x1, x2, x3, x4]) hx hv
theorem D0_44 : Dc code 44 (.iconst 2) 1 45 := ⟨at_44, rfl⟩
theorem D0_45 : Dc code 45 (.newarray .byte) 2 47 := ⟨at_45, rfl⟩
theorem D0_47 : Dc code 47 .dup 1 48 := ⟨at_47, rfl⟩
theorem D0_48 : Dc code 48 (.iconst 0) 1 49 := ⟨at_48, rfl⟩
theorem D0_49 : Dc code 49 (.iload 5) 2 51 := ⟨at_49, rfl⟩
theorem D0_51 : Dc code 51 .i2b 1 52 := ⟨at_51, rfl⟩
theorem D0_52 : Dc code 52 .bastore 1 53 := ⟨at_52, rfl⟩
theorem lvs0 { x v : Value} {t : List Value} {n : Nat} : ∀ j, j < n → updv (lv (x :: t)) 0 v j = lv (v :: t) j := lv_set rfl (by simp)
theorem D0_53 : Dc code 53 .dup 1 54 := ⟨at_53, rfl⟩
theorem D0_54 : Dc code 54 (.iconst 1) 1 55 := ⟨at_54, rfl⟩
theorem D0_55 : Dc code 55 (.iload 4) 2 57 := ⟨at_55, rfl⟩
theorem D0_57 : Dc code 57 .i2b 1 58 := ⟨at_57, rfl⟩
theorem D0_58 : Dc code 58 .bastore 1 59 := ⟨at_58, rfl⟩
theorem lvs1 {x0 x v : Value} {t : List Value} {n : Nat} : ∀ j, j < n → updv (lv (x0 :: x :: t)) 1 v j = lv (x0 :: v :: t) j := lv_set rfl (by simp)
theorem D0_59 : Dc code 59 (.invokestatic 12) 3 62 := ⟨at_59, rfl⟩
abbrev Y1 : MethodName := ⟨"com/example/sparsewrite/sparsewrite/cli/Utf8", "decodeName", "([B)Ljava/lang/String;"⟩
abbrev J1 := prog_14_method_3_code
abbrev C1 : Cond := .code Y1 J1 1 (some (.object "java/lang/String"))
theorem D1_0 : Dc J1 0 (.new 37) 3 3 := by decide +kernel
abbrev L_String : Jvm.Own.Lay := ("java/lang/String", [("java/lang/String", "value", "[B", .null), ("java/lang/String", "coder", "B", (.int 0))])
theorem dvL_String : (L_String.2.map fun q => q.2.2.2) = [.null, (.int 0)] := rfl
theorem okL_String (hw : HW a0 Z) : LOk Z a0 L_String := ⟨allC ⟨Or.inr (w_27 hw), (.array .byte), by decide +kernel, rfl⟩ (allC ⟨Or.inr (w_28 hw), .byte, by decide +kernel, rfl⟩ (allN)), by decide +kernel⟩
theorem nw_String (hw : HW a0 Z) : NW Z a0 L_String 4 := ⟨okL_String hw, (w_6 hw), (w_7 hw)⟩
abbrev w_5 (hw : HW a0 Z) := hw _ (List.mem_of_getElem? (i := 5) rfl)
theorem D1_3 : Dc J1 3 .dup 1 4 := by decide +kernel
theorem D1_4 : Dc J1 4 (.aload_n 0) 1 5 := by decide +kernel
theorem D1_5 : Dc J1 5 (.getstatic 7) 3 8 := by decide +kernel
abbrev w_8 (hw : HW a0 Z) := hw _ (List.mem_of_getElem? (i := 8) rfl)
theorem fl_8 (hw : HW a0 Z) : FL Z a0 "com/example/sparsewrite/sparsewrite/cli/Utf8" 7 "java/nio/charset/StandardCharsets" "UTF_8" "Ljava/nio/charset/Charset;" := ⟨_, "", Or.inl (w_8 hw), Via.refl⟩
theorem D1_8 : Dc J1 8 (.invokespecial 39) 3 11 := by decide +kernel
abbrev Y2 : MethodName := ⟨"java/lang/String", "<init>", "([BLjava/nio/charset/Charset;)V"⟩
abbrev J2 := jdk_42_method_49_code
abbrev C2 : Cond := .code Y2 J2 3 none
theorem D2_0 : Dc J2 0 (.aload_n 0) 1 1 := by decide +kernel
theorem D2_1 : Dc J2 1 (.aload_n 2) 1 2 := by decide +kernel
theorem D2_2 : Dc J2 2 (.invokestatic 78) 3 5 := by decide +kernel
abbrev Y3 : MethodName := ⟨"java/util/Objects", "requireNonNull", "(Ljava/lang/Object;)Ljava/lang/Object;"⟩
abbrev J3 := jdk_31_method_10_code
abbrev C3 : Cond := .code Y3 J3 1 (some (.object "java/lang/Object"))
theorem D3_0 : Dc J3 0 (.aload_n 0) 1 1 := by decide +kernel
theorem D3_1 : Dj J3 1 (.ifnonnull 11) 11 4 12 := by decide +kernel
theorem D3_12 : Dc J3 12 (.aload_n 0) 1 13 := by decide +kernel
theorem D3_13 : Dc J3 13 .areturn 1 14 := by decide +kernel
theorem pn_Objects : plainName "java/util/Objects" = true := by first | (simp [plainName, overriddenIn]; done) | decide +kernel
theorem PN3 : plainFor Y3 = true := plainFor_of_name pn_Objects
theorem ef_R_1 {x0 : Addr}  (m : MethodId) : entryFrame m #[(.ref x0)] 1 = mkF m 0 #[.val (.ref x0)] [] := by
  first | (simp [entryFrame, mkF, argsToLocals, Value.category]; done) | rfl
theorem R_Objects_requireNonNull_1 {w_U8 : Addr} (hw : HW a0 Z) : Mt false [] l Y3 C3 (rmk 0 0 0 0) #[.ref w_U8] Z a0 h0 n0 (Pv h0 (.ref w_U8)) := by
  refine Mt.go PN3 (Or.inl rfl) ef_R_1 fun k => ?_
  replace k := k |>.aloadN D3_0 rfl rfl |>.ifnonnullYes D3_1 |>.aloadN D3_12 rfl rfl
  exact k.retA D3_13 rfl ⟨rfl, rfl⟩
abbrev w_13 (hw : HW a0 Z) := hw _ (List.mem_of_getElem? (i := 13) rfl)
abbrev w_16 (hw : HW a0 Z) := hw _ (List.mem_of_getElem? (i := 16) rfl)
abbrev w_15 (hw : HW a0 Z) := hw _ (List.mem_of_getElem? (i := 15) rfl)
theorem pd_Ljava_lang_Object_r_Ljava_lang_Object : parseMethodDescriptor "(Ljava/lang/Object;)Ljava/lang/Object;" = some ⟨[(.object "java/lang/Object")], some (.object "java/lang/Object")⟩ := by decide +kernel
abbrev w_14 (hw : HW a0 Z) := hw _ (List.mem_of_getElem? (i := 14) rfl)
theorem S3 (hw : HW a0 Z) : SC Z a0 Y3 C3 1 (some (.object "java/lang/Object")) 1 := ⟨(w_14 hw), ⟨⟨_, Or.inl rfl⟩, (w_16 hw), (w_15 hw), by decide, _, _, pd_Ljava_lang_Object_r_Ljava_lang_Object, rfl⟩⟩
theorem D2_5 : Dc J2 5 (.checkcast 84) 3 8 := by decide +kernel
abbrev w_18 (hw : HW a0 Z) := hw _ (List.mem_of_getElem? (i := 18) rfl)
abbrev w_17 (hw : HW a0 Z) := hw _ (List.mem_of_getElem? (i := 17) rfl)
theorem D2_8 : Dc J2 8 (.aload_n 1) 1 9 := by decide +kernel
theorem D2_9 : Dc J2 9 (.iconst 0) 1 10 := by decide +kernel
theorem D2_10 : Dc J2 10 (.aload_n 1) 1 11 := by decide +kernel
theorem D2_11 : Dc J2 11 .arraylength 1 12 := by decide +kernel
theorem D2_12 : Dc J2 12 (.invokespecial 75) 3 15 := by decide +kernel
abbrev Y4 : MethodName := ⟨"java/lang/String", "<init>", "(Ljava/nio/charset/Charset;[BII)V"⟩
abbrev J4 := jdk_42_method_11_code
abbrev C4 : Cond := .codeWith Y4 J4 11 none [((800 : Nat), (813 : Nat), (816 : Nat), (202 : Nat))]
theorem D4_0 : Dc J4 0 (.aload_n 0) 1 1 := by decide +kernel
theorem D4_1 : Dc J4 1 (.invokespecial 1) 3 4 := by decide +kernel
abbrev w_23 (hw : HW a0 Z) := hw _ (List.mem_of_getElem? (i := 23) rfl)
abbrev w_24 (hw : HW a0 Z) := hw _ (List.mem_of_getElem? (i := 24) rfl)
abbrev w_25 (hw : HW a0 Z) := hw _ (List.mem_of_getElem? (i := 25) rfl)
theorem D4_4 : Dc J4 4 (.iload 4) 2 6 := by decide +kernel
theorem D4_6 : Dj J4 6 (.ifCond .ne 24) 24 9 30 := by decide +kernel
theorem D4_30 : Dc J4 30 (.aload_n 1) 1 31 := by decide +kernel
theorem D4_31 : Dc J4 31 (.getstatic 86) 3 34 := by decide +kernel
abbrev w_46 (hw : HW a0 Z) := hw _ (List.mem_of_getElem? (i := 46) rfl)
theorem fl_46 (hw : HW a0 Z) : FL Z a0 "java/lang/String" 86 "sun/nio/cs/UTF_8" "INSTANCE" "Lsun/nio/cs/UTF_8;" := ⟨_, "", Or.inl (w_46 hw), Via.refl⟩
theorem D4_34 : Dj J4 34 (.if_acmp .ne 312) 312 37 346 := by decide +kernel
theorem D4_37 : Dc J4 37 (.getstatic 38) 3 40 := by decide +kernel
abbrev w_48 (hw : HW a0 Z) := hw _ (List.mem_of_getElem? (i := 48) rfl)
theorem fl_48 (hw : HW a0 Z) : FL Z a0 "java/lang/String" 38 "java/lang/String" "COMPACT_STRINGS" "Z" := ⟨_, "", Or.inl (w_48 hw), Via.refl⟩
theorem D4_40 : Dj J4 40 (.ifCond .eq 252) 252 43 292 := by decide +kernel
theorem D4_43 : Dc J4 43 (.aload_n 2) 1 44 := by decide +kernel
theorem D4_44 : Dc J4 44 (.iload_n 3) 1 45 := by decide +kernel
theorem D4_45 : Dc J4 45 (.iload 4) 2 47 := by decide +kernel
theorem D4_47 : Dc J4 47 (.invokestatic 92) 3 50 := by decide +kernel
abbrev Y5 : MethodName := ⟨"java/lang/StringCoding", "countPositives", "([BII)I"⟩
abbrev J5 := jdk_123_method_3_code
abbrev C5 : Cond := .code Y5 J5 5 (some .int)
theorem D5_0 : Dc J5 0 (.iload_n 1) 1 1 := by decide +kernel
theorem D5_1 : Dc J5 1 (.iload_n 2) 1 2 := by decide +kernel
theorem D5_2 : Dc J5 2 .iadd 1 3 := by decide +kernel
theorem D5_3 : Dc J5 3 (.istore_n 3) 1 4 := by decide +kernel
theorem D5_4 : Dc J5 4 (.iload_n 1) 1 5 := by decide +kernel
theorem D5_5 : Dc J5 5 (.istore 4) 2 7 := by decide +kernel
theorem D5_7 : Dc J5 7 (.iload 4) 2 9 := by decide +kernel
theorem D5_9 : Dc J5 9 (.iload_n 3) 1 10 := by decide +kernel
theorem D5_10 : Dj J5 10 (.if_icmp .ge 21) 21 13 31 := by decide +kernel
theorem D5_13 : Dc J5 13 (.aload_n 0) 1 14 := by decide +kernel
theorem D5_14 : Dc J5 14 (.iload 4) 2 16 := by decide +kernel
theorem D5_16 : Dc J5 16 .baload 1 17 := by decide +kernel
theorem lvg0 { x : Value} {t : List Value} : lv (x :: t) 0 = x := rfl
theorem D5_17 : Dj J5 17 (.ifCond .ge 8) 8 20 25 := by decide +kernel
theorem D5_20 : Dc J5 20 (.iload 4) 2 22 := by decide +kernel
theorem D5_22 : Dc J5 22 (.iload_n 1) 1 23 := by decide +kernel
theorem D5_23 : Dc J5 23 .isub 1 24 := by decide +kernel
theorem D5_24 : Dc J5 24 .ireturn 1 25 := by decide +kernel
theorem pn_StringCoding : plainName "java/lang/StringCoding" = true := by first | (simp [plainName, overriddenIn]; done) | decide +kernel
theorem PN5 : plainFor Y5 = true := plainFor_of_name pn_StringCoding
theorem ef_RII_5_0_2 {x0 : Addr}  (m : MethodId) : entryFrame m #[(.ref x0), (.int 0), (.int 2)] 5 = mkF m 0 #[.val (.ref x0), .val (.int 0), .val (.int 2), .unset, .unset] [] := by
  first | (simp [entryFrame, mkF, argsToLocals, Value.category]; done) | rfl
theorem R_StringCoding_countPositives_1 {a1 : Addr} {p2 p3 : Int32} (hw : HW a0 Z) (pr1 : Ary Z h0 a1 ATB 2 (lv [.int p2, .int p3])) (pr2 : p2 < 0) : Mt false [] l Y5 C5 (rmk 0 0 0 0) #[.ref a1, .int 0, .int 2] Z a0 h0 n0 (Pv h0 (.int 0)) := by
  refine Mt.go PN5 (Or.inl rfl) ef_RII_5_0_2 fun k => ?_
  replace k := k |>.iloadN D5_0 rfl |>.iloadN D5_1 rfl |>.iadd D5_2 (z := 2) (by decide) |>.istoreN D5_3 sto3 |>.iloadN D5_4 rfl |>.istore D5_5 sto4 |>.iload D5_7 rfl |>.iloadN D5_9 rfl |>.icmpNo D5_10 (by decide) |>.aloadN D5_13 rfl rfl |>.iload D5_14 rfl |>.bald pr1 D5_16 (i := 0) (by decide) lvg0
  replace k := k |>.ifNo D5_17 ((if0 _ _).trans (tlt pr2).2.1) |>.iload D5_20 rfl |>.iloadN D5_22 rfl |>.isub D5_23 (z := 0) (by decide)
  exact k.retI D5_24 rfl ⟨rfl, rfl⟩
abbrev w_49 (hw : HW a0 Z) := hw _ (List.mem_of_getElem? (i := 49) rfl)
abbrev w_52 (hw : HW a0 Z) := hw _ (List.mem_of_getElem? (i := 52) rfl)
abbrev w_51 (hw : HW a0 Z) := hw _ (List.mem_of_getElem? (i := 51) rfl)
theorem pd_ABII_r_I : parseMethodDescriptor "([BII)I" = some ⟨[(.array .byte), .int, .int], some .int⟩ := by decide +kernel
abbrev w_50 (hw : HW a0 Z) := hw _ (List.mem_of_getElem? (i := 50) rfl)
theorem S5 (hw : HW a0 Z) : SC Z a0 Y5 C5 5 (some .int) 3 := ⟨(w_50 hw), ⟨⟨_, Or.inl rfl⟩, (w_52 hw), (w_51 hw), by decide, _, _, pd_ABII_r_I, rfl⟩⟩
theorem D4_50 : Dc J4 50 (.istore 5) 2 52 := by decide +kernel
theorem D4_52 : Dc J4 52 (.iload 5) 2 54 := by decide +kernel
theorem D4_54 : Dc J4 54 (.iload 4) 2 56 := by decide +kernel
theorem D4_56 : Dj J4 56 (.if_icmp .ne 22) 22 59 78 := by decide +kernel
theorem D4_78 : Dc J4 78 (.aload_n 2) 1 79 := by decide +kernel
theorem D4_79 : Dc J4 79 (.iload_n 3) 1 80 := by decide +kernel
theorem D4_80 : Dc J4 80 (.iload_n 3) 1 81 := by decide +kernel
theorem D4_81 : Dc J4 81 (.iload 4) 2 83 := by decide +kernel
theorem D4_83 : Dc J4 83 .iadd 1 84 := by decide +kernel
theorem D4_84 : Dc J4 84 (.invokestatic 54) 3 87 := by decide +kernel
abbrev Y6 : MethodName := ⟨"java/util/Arrays", "copyOfRange", "([BII)[B"⟩
abbrev J6 := jdk_65_method_132_code
abbrev C6 : Cond := .code Y6 J6 3 (some (.array .byte))
theorem D6_0 : Dc J6 0 (.iload_n 1) 1 1 := by decide +kernel
theorem D6_1 : Dj J6 1 (.ifCond .ne 9) 9 4 10 := by decide +kernel
theorem D6_4 : Dc J6 4 (.iload_n 2) 1 5 := by decide +kernel
theorem D6_5 : Dc J6 5 (.aload_n 0) 1 6 := by decide +kernel
theorem D6_6 : Dc J6 6 .arraylength 1 7 := by decide +kernel
theorem D6_7 : Dj J6 7 (.if_icmp .eq 10) 10 10 17 := by decide +kernel
theorem D6_17 : Dc J6 17 (.aload_n 0) 1 18 := by decide +kernel
theorem D6_18 : Dc J6 18 (.invokevirtual 310) 3 21 := by decide +kernel
abbrev w_57 (hw : HW a0 Z) := hw _ (List.mem_of_getElem? (i := 57) rfl)
abbrev w_58 (hw : HW a0 Z) := hw _ (List.mem_of_getElem? (i := 58) rfl)
abbrev w_62 (hw : HW a0 Z) := hw _ (List.mem_of_getElem? (i := 62) rfl)
abbrev w_60 (hw : HW a0 Z) := hw _ (List.mem_of_getElem? (i := 60) rfl)
abbrev w_61 (hw : HW a0 Z) := hw _ (List.mem_of_getElem? (i := 61) rfl)
abbrev w_63 (hw : HW a0 Z) := hw _ (List.mem_of_getElem? (i := 63) rfl)
theorem D6_21 : Dc J6 21 (.checkcast 311) 3 24 := by decide +kernel
abbrev w_64 (hw : HW a0 Z) := hw _ (List.mem_of_getElem? (i := 64) rfl)
theorem D6_24 : Dc J6 24 .areturn 1 25 := by decide +kernel
theorem pn_Arrays : plainName "java/util/Arrays" = true := by first | (simp [plainName, overriddenIn]; done) | decide +kernel
theorem PN6 : plainFor Y6 = true := plainFor_of_name pn_Arrays
theorem ef_RII_3_0_2 {x0 : Addr}  (m : MethodId) : entryFrame m #[(.ref x0), (.int 0), (.int 2)] 3 = mkF m 0 #[.val (.ref x0), .val (.int 0), .val (.int 2)] [] := by
  first | (simp [entryFrame, mkF, argsToLocals, Value.category]; done) | rfl
theorem R_Arrays_copyOfRange_1 {a1 : Addr} {p2 p3 : Int32} (hw : HW a0 Z) (pr1 : Ary Z h0 a1 ATB 2 (lv [.int p2, .int p3])) : Mt false [] l Y6 C6 (rmk 1 1 2 14) #[.ref a1, .int 0, .int 2] Z a0 h0 n0 (KpV h0 [] fun v h => ∃ b1 : Addr, v = (.ref b1) ∧ h0.size ≤ b1 ∧ Ary Z h b1 ATB 2 (lv [.int p2, .int p3])) := by
  refine Mt.go PN6 (Or.inl rfl) ef_RII_3_0_2 fun k => ?_
  replace k := k |>.iloadN D6_0 rfl |>.ifNo D6_1 (by decide) |>.iloadN D6_4 rfl |>.aloadN D6_5 rfl rfl |>.alen pr1 D6_6 (z := 2) (by decide) |>.icmpYes D6_7 (by decide) |>.aloadN D6_17 rfl rfl
  have z1 := k.sz
  obtain ⟨b1, h1, g1, K1, O1, k⟩ := k.aclone (w_57 hw) (w_58 hw) (w_62 hw) (w_60 hw) (w_61 hw) (w_63 hw) pr1 (by decide) D6_18 0
  replace k := k |>.castY (w_64 hw) (Ins.self (O1.exa (by decide))) D6_21
  have s_b1 := Nat.le_trans z1 g1
  exact k.retA D6_24 rfl ⟨_, rfl, K1, b1, rfl, s_b1, O1⟩
abbrev w_53 (hw : HW a0 Z) := hw _ (List.mem_of_getElem? (i := 53) rfl)
abbrev w_56 (hw : HW a0 Z) := hw _ (List.mem_of_getElem? (i := 56) rfl)
abbrev w_55 (hw : HW a0 Z) := hw _ (List.mem_of_getElem? (i := 55) rfl)
theorem pd_ABII_r_AB : parseMethodDescriptor "([BII)[B" = some ⟨[(.array .byte), .int, .int], some (.array .byte)⟩ := by decide +kernel
abbrev w_54 (hw : HW a0 Z) := hw _ (List.mem_of_getElem? (i := 54) rfl)
theorem S6 (hw : HW a0 Z) : SC Z a0 Y6 C6 3 (some (.array .byte)) 3 := ⟨(w_54 hw), ⟨⟨_, Or.inl rfl⟩, (w_56 hw), (w_55 hw), by decide, _, _, pd_ABII_r_AB, rfl⟩⟩
theorem D4_87 : Dc J4 87 (.astore 6) 2 89 := by decide +kernel
theorem sto6 {x0 x1 x2 x3 x4 x5 x : Slot} {t : List Slot} {v : Value} (hx : okS x = true := by rfl) (hv : v.category = 1 := by rfl) : storeLocals (List.toArray (x0 :: x1 :: x2 :: x3 :: x4 :: x5 :: x :: t)) 6 v = some (List.toArray (x0 :: x1 :: x2 :: x3 :: x4 :: x5 :: .val v :: t)) := stoA (A := [x0, x1, x2, x3, x4, x5]) hx hv
theorem D4_89 : Dc J4 89 (.iload 5) 2 91 := by decide +kernel
theorem D4_91 : Dc J4 91 (.istore 7) 2 93 := by decide +kernel
theorem sto7 {x0 x1 x2 x3 x4 x5 x6 x : Slot} {t : List Slot} {v : Value} (hx : okS x = true := by rfl) (hv : v.category = 1 := by rfl) : storeLocals (List.toArray (x0 :: x1 :: x2 :: x3 :: x4 :: x5 :: x6 :: x :: t)) 7 v = some (List.toArray (x0 :: x1 :: x2 :: x3 :: x4 :: x5 :: x6 :: .val v :: t)) := stoA (A := [x0, x1, x2, x3, x4, x5, x6]) hx hv
theorem D4_93 : Dc J4 93 (.iload 7) 2 95 := by decide +kernel
theorem D4_95 : Dc J4 95 (.iload 4) 2 97 := by decide +kernel
theorem D4_97 : Dj J4 97 (.if_icmp .ge 93) 93 100 190 := by decide +kernel
theorem D4_100 : Dc J4 100 (.aload 6) 2 102 := by decide +kernel
theorem D4_102 : Dc J4 102 (.iload 7) 2 104 := by decide +kernel
theorem D4_104 : Dc J4 104 (.iinc 7 1) 3 107 := by decide +kernel
theorem D4_107 : Dc J4 107 .baload 1 108 := by decide +kernel
theorem D4_108 : Dc J4 108 (.istore 8) 2 110 := by decide +kernel
theorem sto8 {x0 x1 x2 x3 x4 x5 x6 x7 x : Slot} {t : List Slot} {v : Value} (hx : okS x = true := by rfl) (hv : v.category = 1 := by rfl) : storeLocals (List.toArray (x0 :: x1 :: x2 :: x3 :: x4 :: x5 :: x6 :: x7 :: x :: t)) 8 v = some (List.toArray (x0 :: x1 :: x2 :: x3 :: x4 :: x5 :: x6 :: x7 :: .val v :: t)) := stoA (A := [x0, x1, x2, x3, x4, x5, x6, x7]) hx hv
theorem D4_110 : Dc J4 110 (.iload 8) 2 112 := by decide +kernel
theorem D4_112 : Dj J4 112 (.ifCond .lt 17) 17 115 129 := by decide +kernel
theorem D4_129 : Dc J4 129 (.iload 8) 2 131 := by decide +kernel
theorem D4_131 : Dc J4 131 (.sipush 254) 3 134 := by decide +kernel
theorem D4_134 : Dc J4 134 .iand 1 135 := by decide +kernel
theorem D4_135 : Dc J4 135 (.sipush 194) 3 138 := by decide +kernel
theorem D4_138 : Dj J4 138 (.if_icmp .ne 46) 46 141 184 := by decide +kernel
theorem own_d2 {p1 v0 v1 v2 : Int32} (e0 : v0 = (p1 &&& 127)) (e1 : v1 = ((128 ||| v0).toInt8.toInt32)) (e2 : v2 = (v1 &&& 254)) (q0 : v2 = 194) : v1 < 0 := by
  have := rng32 p1
  have : (127 : Int32).toInt = 127 := by decide
  have := e_mask e0 7 128
  have := e_hbN e1 7 128 128 (by omega)
  have : (254 : Int32).toInt = 254 := by decide
  have : v1.toInt % 256 = v1.toInt + 256 := by omega
  have := e_mask2 e2 1 7 256 2
  have : (194 : Int32).toInt = 194 := by decide
  have := i_eq q0
  have : (0 : Int32).toInt = 0 := by decide
  exact o_lt (by omega)
theorem D4_141 : Dc J4 141 (.iload 7) 2 143 := by decide +kernel
theorem D4_143 : Dc J4 143 (.iload 4) 2 145 := by decide +kernel
theorem D4_145 : Dj J4 145 (.if_icmp .ge 39) 39 148 184 := by decide +kernel
theorem D4_148 : Dc J4 148 (.aload 6) 2 150 := by decide +kernel
theorem D4_150 : Dc J4 150 (.iload 7) 2 152 := by decide +kernel
theorem D4_152 : Dc J4 152 .baload 1 153 := by decide +kernel
theorem lvg1 {x0 x : Value} {t : List Value} : lv (x0 :: x :: t) 1 = x := rfl
theorem D4_153 : Dc J4 153 (.istore 9) 2 155 := by decide +kernel
theorem sto9 {x0 x1 x2 x3 x4 x5 x6 x7 x8 x : Slot} {t : List Slot} {v : Value} (hx : okS x = true := by rfl) (hv : v.category = 1 := by rfl) : storeLocals (List.toArray (x0 :: x1 :: x2 :: x3 :: x4 :: x5 :: x6 :: x7 :: x8 :: x :: t)) 9 v = some (List.toArray (x0 :: x1 :: x2 :: x3 :: x4 :: x5 :: x6 :: x7 :: x8 :: .val v :: t)) := stoA (A := [x0, x1, x2, x3, x4, x5, x6, x7, x8]) hx hv
theorem D4_155 : Dc J4 155 (.iload 9) 2 157 := by decide +kernel
theorem D4_157 : Dc J4 157 (.bipush (-64)) 2 159 := by decide +kernel
theorem D4_159 : Dj J4 159 (.if_icmp .ge 25) 25 162 184 := by decide +kernel
theorem own_d3 {p2 v0 v1 : Int32} (e0 : v0 = (p2 &&& 127)) (e1 : v1 = (v0.toInt8.toInt32)) : ¬ (v1 < (-64)) := by
  have := rng32 p2
  have : (127 : Int32).toInt = 127 := by decide
  have := e_mask e0 7 128
  have := e_i2bN e1 (by omega)
  have : (-64 : Int32).toInt = -64 := by decide
  exact o_nlt (by omega)
theorem D4_184 : Dc J4 184 (.iinc 7 (-1)) 3 187 := by decide +kernel
theorem D4_187 : Dj J4 187 (.goto 3) 3 190 190 := by decide +kernel
theorem D4_190 : Dc J4 190 (.iload 7) 2 192 := by decide +kernel
theorem D4_192 : Dc J4 192 (.iload 4) 2 194 := by decide +kernel
theorem D4_194 : Dj J4 194 (.if_icmp .ne 32) 32 197 226 := by decide +kernel
theorem D4_226 : Dc J4 226 (.iload 4) 2 228 := by decide +kernel
theorem D4_228 : Dc J4 228 (.invokestatic 60) 3 231 := by decide +kernel
abbrev Y7 : MethodName := ⟨"java/lang/StringUTF16", "newBytesFor", "(I)[B"⟩
abbrev J7 := jdk_52_method_2_code
abbrev C7 : Cond := .code Y7 J7 1 (some (.array .byte))
theorem D7_0 : Dc J7 0 (.iload_n 0) 1 1 := by decide +kernel
theorem D7_1 : Dc J7 1 (.invokestatic 11) 3 4 := by decide +kernel
abbrev Y8 : MethodName := ⟨"java/lang/StringUTF16", "newBytesLength", "(I)I"⟩
abbrev J8 := jdk_52_method_3_code
abbrev C8 : Cond := .code Y8 J8 1 (some .int)
theorem D8_0 : Dc J8 0 (.iload_n 0) 1 1 := by decide +kernel
theorem D8_1 : Dj J8 1 (.ifCond .ge 11) 11 4 12 := by decide +kernel
theorem D8_12 : Dc J8 12 (.iload_n 0) 1 13 := by decide +kernel
theorem D8_13 : Dc J8 13 (.ldc 20) 2 15 := by decide +kernel
abbrev w_107 (hw : HW a0 Z) := hw _ (List.mem_of_getElem? (i := 107) rfl)
theorem D8_15 : Dj J8 15 (.if_icmp .lt 40) 40 18 55 := by decide +kernel
theorem D8_55 : Dc J8 55 (.iload_n 0) 1 56 := by decide +kernel
theorem D8_56 : Dc J8 56 (.iconst 1) 1 57 := by decide +kernel
theorem D8_57 : Dc J8 57 .ishl 1 58 := by decide +kernel
theorem D8_58 : Dc J8 58 .ireturn 1 59 := by decide +kernel
theorem pn_StringUTF16 : plainName "java/lang/StringUTF16" = true := by first | (simp [plainName, overriddenIn]; done) | decide +kernel
theorem PN8 : plainFor Y8 = true := plainFor_of_name pn_StringUTF16
theorem ef_I_1_2   (m : MethodId) : entryFrame m #[(.int 2)] 1 = mkF m 0 #[.val (.int 2)] [] := by
  first | (simp [entryFrame, mkF, argsToLocals, Value.category]; done) | rfl
theorem R_StringUTF16_newBytesLength_1 (hw : HW a0 Z) : Mt false [] l Y8 C8 (rmk 0 0 0 0) #[.int 2] Z a0 h0 n0 (Pv h0 (.int 4)) := by
  refine Mt.go PN8 (Or.inl rfl) ef_I_1_2 fun k => ?_
  replace k := k |>.iloadN D8_0 rfl |>.ifYes D8_1 (by decide) |>.iloadN D8_12 rfl |>.ldcI (w_107 hw) D8_13 |>.icmpYes D8_15 (by decide) |>.iloadN D8_55 rfl |>.iconst D8_56 1 |>.ishl D8_57 (z := 4) (by decide)
  exact k.retI D8_58 rfl ⟨rfl, rfl⟩
abbrev w_104 (hw : HW a0 Z) := hw _ (List.mem_of_getElem? (i := 104) rfl)
abbrev w_106 (hw : HW a0 Z) := hw _ (List.mem_of_getElem? (i := 106) rfl)
abbrev w_102 (hw : HW a0 Z) := hw _ (List.mem_of_getElem? (i := 102) rfl)
theorem pd_I_r_I : parseMethodDescriptor "(I)I" = some ⟨[.int], some .int⟩ := by decide +kernel
abbrev w_105 (hw : HW a0 Z) := hw _ (List.mem_of_getElem? (i := 105) rfl)
theorem S8 (hw : HW a0 Z) : SC Z a0 Y8 C8 1 (some .int) 1 := ⟨(w_105 hw), ⟨⟨_, Or.inl rfl⟩, (w_106 hw), (w_102 hw), by decide, _, _, pd_I_r_I, rfl⟩⟩
theorem D7_4 : Dc J7 4 (.newarray .byte) 2 6 := by decide +kernel
theorem D7_6 : Dc J7 6 .areturn 1 7 := by decide +kernel
theorem PN7 : plainFor Y7 = true := plainFor_of_name pn_StringUTF16
theorem R_StringUTF16_newBytesFor_1 (hw : HW a0 Z) : Mt false [] l Y7 C7 (rmk 1 1 4 12) #[.int 2] Z a0 h0 n0 (KpV h0 [] fun v h => ∃ b2 : Addr, v = (.ref b2) ∧ h0.size ≤ b2 ∧ Ary Z h b2 ATB 4 (lv [.int 0, .int 0, .int 0, .int 0])) := by
  refine Mt.go PN7 (Or.inl rfl) ef_I_1_2 fun k => ?_
  replace k := k |>.iloadN D7_0 rfl
  replace k := (k.callS (w_104 hw) (S8 hw) (R_StringUTF16_newBytesLength_1 hw) D7_1 0 rfl).pv
  have z2 := k.sz
  obtain ⟨b2, h2, g2, K2, O2, k⟩ := k.newP (aty := .byte) "[B" (w_0 hw) (by decide) D7_4 4 (by decide) (n := 4) (by decide) (by decide) (by decide) (lv_const (V := [(.int 0), (.int 0), (.int 0), (.int 0)]) rfl)
  have s_b2 := Nat.le_trans z2 g2
  exact k.retA D7_6 rfl ⟨_, rfl, K2, b2, rfl, s_b2, O2⟩
abbrev w_100 (hw : HW a0 Z) := hw _ (List.mem_of_getElem? (i := 100) rfl)
abbrev w_103 (hw : HW a0 Z) := hw _ (List.mem_of_getElem? (i := 103) rfl)
theorem pd_I_r_AB : parseMethodDescriptor "(I)[B" = some ⟨[.int], some (.array .byte)⟩ := by decide +kernel
abbrev w_101 (hw : HW a0 Z) := hw _ (List.mem_of_getElem? (i := 101) rfl)
theorem S7 (hw : HW a0 Z) : SC Z a0 Y7 C7 1 (some (.array .byte)) 1 := ⟨(w_101 hw), ⟨⟨_, Or.inl rfl⟩, (w_103 hw), (w_102 hw), by decide, _, _, pd_I_r_AB, rfl⟩⟩
theorem D4_231 : Dc J4 231 (.astore 8) 2 233 := by decide +kernel
theorem D4_233 : Dc J4 233 (.aload 6) 2 235 := by decide +kernel
theorem D4_235 : Dc J4 235 (.iconst 0) 1 236 := by decide +kernel
theorem D4_236 : Dc J4 236 (.aload 8) 2 238 := by decide +kernel
theorem D4_238 : Dc J4 238 (.iconst 0) 1 239 := by decide +kernel
theorem D4_239 : Dc J4 239 (.iload 5) 2 241 := by decide +kernel
theorem D4_241 : Dc J4 241 (.invokestatic 106) 3 244 := by decide +kernel
abbrev Y9 : MethodName := ⟨"java/lang/StringLatin1", "inflate", "([BI[BII)V"⟩
abbrev J9 := jdk_43_method_50_code
abbrev C9 : Cond := .code Y9 J9 5 none
theorem D9_0 : Dc J9 0 (.aload_n 0) 1 1 := by decide +kernel
theorem D9_1 : Dc J9 1 (.iload_n 1) 1 2 := by decide +kernel
theorem D9_2 : Dc J9 2 (.aload_n 2) 1 3 := by decide +kernel
theorem D9_3 : Dc J9 3 (.iload_n 3) 1 4 := by decide +kernel
theorem D9_4 : Dc J9 4 (.iload 4) 2 6 := by decide +kernel
theorem D9_6 : Dc J9 6 (.invokestatic 240) 3 9 := by decide +kernel
abbrev Y10 : MethodName := ⟨"java/lang/StringUTF16", "inflate", "([BI[BII)V"⟩
abbrev J10 := jdk_52_method_86_code
abbrev C10 : Cond := .code Y10 J10 6 none
theorem D10_0 : Dc J10 0 (.iload_n 3) 1 1 := by decide +kernel
theorem D10_1 : Dc J10 1 (.iload 4) 2 3 := by decide +kernel
theorem D10_3 : Dc J10 3 (.aload_n 2) 1 4 := by decide +kernel
theorem D10_4 : Dc J10 4 (.invokestatic 173) 3 7 := by decide +kernel
abbrev Y11 : MethodName := ⟨"java/lang/StringUTF16", "checkBoundsOffCount", "(II[B)V"⟩
abbrev J11 := jdk_52_method_94_code
abbrev C11 : Cond := .code Y11 J11 3 none
theorem D11_0 : Dc J11 0 (.iload_n 0) 1 1 := by decide +kernel
theorem D11_1 : Dc J11 1 (.iload_n 1) 1 2 := by decide +kernel
theorem D11_2 : Dc J11 2 (.aload_n 2) 1 3 := by decide +kernel
theorem D11_3 : Dc J11 3 (.invokestatic 48) 3 6 := by decide +kernel
abbrev Y12 : MethodName := ⟨"java/lang/StringUTF16", "length", "([B)I"⟩
abbrev J12 := jdk_52_method_6_code
abbrev C12 : Cond := .code Y12 J12 1 (some .int)
theorem D12_0 : Dc J12 0 (.aload_n 0) 1 1 := by decide +kernel
theorem D12_1 : Dc J12 1 .arraylength 1 2 := by decide +kernel
theorem D12_2 : Dc J12 2 (.iconst 1) 1 3 := by decide +kernel
theorem D12_3 : Dc J12 3 .ishr 1 4 := by decide +kernel
theorem D12_4 : Dc J12 4 .ireturn 1 5 := by decide +kernel
theorem PN12 : plainFor Y12 = true := plainFor_of_name pn_StringUTF16
theorem R_StringUTF16_length_1 {a1 : Addr} (hw : HW a0 Z) (pr1 : Ary Z h0 a1 ATB 4 (lv [.int 0, .int 0, .int 0, .int 0])) : Mt false [] l Y12 C12 (rmk 0 0 0 0) #[.ref a1] Z a0 h0 n0 (Pv h0 (.int 2)) := by
  refine Mt.go PN12 (Or.inl rfl) ef_R_1 fun k => ?_
  replace k := k |>.aloadN D12_0 rfl rfl |>.alen pr1 D12_1 (z := 4) (by decide) |>.iconst D12_2 1 |>.ishr D12_3 (z := 2) (by decide)
  exact k.retI D12_4 rfl ⟨rfl, rfl⟩
abbrev w_117 (hw : HW a0 Z) := hw _ (List.mem_of_getElem? (i := 117) rfl)
abbrev w_119 (hw : HW a0 Z) := hw _ (List.mem_of_getElem? (i := 119) rfl)
theorem pd_AB_r_I : parseMethodDescriptor "([B)I" = some ⟨[(.array .byte)], some .int⟩ := by decide +kernel
abbrev w_118 (hw : HW a0 Z) := hw _ (List.mem_of_getElem? (i := 118) rfl)
theorem S12 (hw : HW a0 Z) : SC Z a0 Y12 C12 1 (some .int) 1 := ⟨(w_118 hw), ⟨⟨_, Or.inl rfl⟩, (w_119 hw), (w_102 hw), by decide, _, _, pd_AB_r_I, rfl⟩⟩
theorem D11_6 : Dc J11 6 (.invokestatic 419) 3 9 := by decide +kernel
abbrev Y13 : MethodName := ⟨"java/lang/String", "checkBoundsOffCount", "(III)I"⟩
abbrev J13 := jdk_42_method_157_code
abbrev C13 : Cond := .code Y13 J13 3 (some .int)
theorem D13_0 : Dc J13 0 (.iload_n 0) 1 1 := by decide +kernel
theorem D13_1 : Dc J13 1 (.iload_n 1) 1 2 := by decide +kernel
theorem D13_2 : Dc J13 2 (.iload_n 2) 1 3 := by decide +kernel
theorem D13_3 : Dc J13 3 (.getstatic 1053) 3 6 := by decide +kernel
abbrev w_94 (hw : HW a0 Z) := hw _ (List.mem_of_getElem? (i := 94) rfl)
theorem fl_94 (hw : HW a0 Z) : FL Z a0 "java/lang/String" 1053 "jdk/internal/util/Preconditions" "SIOOBE_FORMATTER" "Ljava/util/function/BiFunction;" := ⟨_, "", Or.inl (w_94 hw), Via.refl⟩
theorem D13_6 : Dc J13 6 (.invokestatic 1065) 3 9 := by decide +kernel
abbrev Y14 : MethodName := ⟨"jdk/internal/util/Preconditions", "checkFromIndexSize", "(IIILjava/util/function/BiFunction;)I"⟩
abbrev J14 := jdk_41_method_13_code
abbrev C14 : Cond := .code Y14 J14 4 (some .int)
theorem D14_0 : Dc J14 0 (.iload_n 2) 1 1 := by decide +kernel
theorem D14_1 : Dc J14 1 (.iload_n 0) 1 2 := by decide +kernel
theorem D14_2 : Dc J14 2 .ior 1 3 := by decide +kernel
theorem D14_3 : Dc J14 3 (.iload_n 1) 1 4 := by decide +kernel
theorem D14_4 : Dc J14 4 .ior 1 5 := by decide +kernel
theorem D14_5 : Dj J14 5 (.ifCond .lt 10) 10 8 15 := by decide +kernel
theorem D14_8 : Dc J14 8 (.iload_n 1) 1 9 := by decide +kernel
theorem D14_9 : Dc J14 9 (.iload_n 2) 1 10 := by decide +kernel
theorem D14_10 : Dc J14 10 (.iload_n 0) 1 11 := by decide +kernel
theorem D14_11 : Dc J14 11 .isub 1 12 := by decide +kernel
theorem D14_12 : Dj J14 12 (.if_icmp .le 11) 11 15 23 := by decide +kernel
theorem D14_23 : Dc J14 23 (.iload_n 0) 1 24 := by decide +kernel
theorem D14_24 : Dc J14 24 .ireturn 1 25 := by decide +kernel
theorem pn_Preconditions : plainName "jdk/internal/util/Preconditions" = true := by first | (simp [plainName, overriddenIn]; done) | decide +kernel
theorem PN14 : plainFor Y14 = true := plainFor_of_name pn_Preconditions
theorem ef_IIIV_4_0_0_2 {x3 : Value} (r3 : x3.isRef = true) (m : MethodId) : entryFrame m #[(.int 0), (.int 0), (.int 2), x3] 4 = mkF m 0 #[.val (.int 0), .val (.int 0), .val (.int 2), .val x3] [] := by
  rcases ref_cases r3 with rfl | ⟨_, rfl⟩
  all_goals
  first | (simp [entryFrame, mkF, argsToLocals, Value.category]; done) | rfl
theorem R_Preconditions_checkFromIndexSize_1 {w_SF : Value} (hw : HW a0 Z) (pr1 : w_SF.isRef = true) : Mt false [] l Y14 C14 (rmk 0 0 0 0) #[.int 0, .int 0, .int 2, w_SF] Z a0 h0 n0 (Pv h0 (.int 0)) := by
  refine Mt.go PN14 (Or.inl rfl) (ef_IIIV_4_0_0_2 pr1) fun k => ?_
  replace k := k |>.iloadN D14_0 rfl |>.iloadN D14_1 rfl |>.ior D14_2 (z := 2) (by decide) |>.iloadN D14_3 rfl |>.ior D14_4 (z := 2) (by decide) |>.ifNo D14_5 (by decide) |>.iloadN D14_8 rfl |>.iloadN D14_9 rfl |>.iloadN D14_10 rfl |>.isub D14_11 (z := 2) (by decide) |>.icmpYes D14_12 (by decide) |>.iloadN D14_23 rfl
  exact k.retI D14_24 rfl ⟨rfl, rfl⟩
abbrev w_123 (hw : HW a0 Z) := hw _ (List.mem_of_getElem? (i := 123) rfl)
abbrev w_125 (hw : HW a0 Z) := hw _ (List.mem_of_getElem? (i := 125) rfl)
abbrev w_95 (hw : HW a0 Z) := hw _ (List.mem_of_getElem? (i := 95) rfl)
theorem pd_IIILjava_util_function_BiFunction_r_I : parseMethodDescriptor "(IIILjava/util/function/BiFunction;)I" = some ⟨[.int, .int, .int, (.object "java/util/function/BiFunction")], some .int⟩ := by decide +kernel
abbrev w_124 (hw : HW a0 Z) := hw _ (List.mem_of_getElem? (i := 124) rfl)
theorem S14 (hw : HW a0 Z) : SC Z a0 Y14 C14 4 (some .int) 4 := ⟨(w_124 hw), ⟨⟨_, Or.inl rfl⟩, (w_125 hw), (w_95 hw), by decide, _, _, pd_IIILjava_util_function_BiFunction_r_I, rfl⟩⟩
theorem D13_9 : Dc J13 9 .ireturn 1 10 := by decide +kernel
theorem pn_String : plainName "java/lang/String" = true := by first | (simp [plainName, overriddenIn]; done) | decide +kernel
theorem PN13 : plainFor Y13 = true := plainFor_of_name pn_String
theorem ef_III_3_0_0_2   (m : MethodId) : entryFrame m #[(.int 0), (.int 0), (.int 2)] 3 = mkF m 0 #[.val (.int 0), .val (.int 0), .val (.int 2)] [] := by
  first | (simp [entryFrame, mkF, argsToLocals, Value.category]; done) | rfl
theorem R_String_checkBoundsOffCount_1 {w_SF : Value} (hw : HW a0 Z) (pr1 : w_SF.isRef = true) (pr2 : TS_SF Z w_SF) : Mt false [] l Y13 C13 (rmk 1 0 0 15) #[.int 0, .int 0, .int 2] Z a0 h0 n0 (Pv h0 (.int 0)) := by
  refine Mt.go PN13 (Or.inl rfl) ef_III_3_0_0_2 fun k => ?_
  replace k := k |>.iloadN D13_0 rfl |>.iloadN D13_1 rfl |>.iloadN D13_2 rfl |>.getS (fl_94 hw) pr2 D13_3
  replace k := (k.callS (w_123 hw) (S14 hw) (R_Preconditions_checkFromIndexSize_1 hw pr1) D13_6 0 rfl).pv
  exact k.retI D13_9 rfl ⟨rfl, rfl⟩
abbrev w_120 (hw : HW a0 Z) := hw _ (List.mem_of_getElem? (i := 120) rfl)
abbrev w_122 (hw : HW a0 Z) := hw _ (List.mem_of_getElem? (i := 122) rfl)
theorem pd_III_r_I : parseMethodDescriptor "(III)I" = some ⟨[.int, .int, .int], some .int⟩ := by decide +kernel
abbrev w_121 (hw : HW a0 Z) := hw _ (List.mem_of_getElem? (i := 121) rfl)
theorem S13 (hw : HW a0 Z) : SC Z a0 Y13 C13 3 (some .int) 3 := ⟨(w_121 hw), ⟨⟨_, Or.inl rfl⟩, (w_122 hw), (w_7 hw), by decide, _, _, pd_III_r_I, rfl⟩⟩
theorem D11_9 : Dc J11 9 .pop 1 10 := by decide +kernel
theorem D11_10 : Dc J11 10 .return_ 1 11 := by decide +kernel
theorem PN11 : plainFor Y11 = true := plainFor_of_name pn_StringUTF16
theorem ef_IIR_3_0_0 {x2 : Addr}  (m : MethodId) : entryFrame m #[(.int 0), (.int 0), (.ref x2)] 3 = mkF m 0 #[.val (.int 0), .val (.int 0), .val (.ref x2)] [] := by
  first | (simp [entryFrame, mkF, argsToLocals, Value.category]; done) | rfl
theorem R_StringUTF16_checkBoundsOffCount_1 {a1 : Addr} {w_SF : Value} (hw : HW a0 Z) (pr1 : Ary Z h0 a1 ATB 4 (lv [.int 0, .int 0, .int 0, .int 0])) (pr2 : w_SF.isRef = true) (pr3 : TS_SF Z w_SF) : Mt false [] l Y11 C11 (rmk 2 0 0 29) #[.int 0, .int 0, .ref a1] Z a0 h0 n0 (P0 h0) := by
  refine Mt.go PN11 (Or.inl rfl) ef_IIR_3_0_0 fun k => ?_
  replace k := k |>.iloadN D11_0 rfl |>.iloadN D11_1 rfl |>.aloadN D11_2 rfl rfl
  replace k := (k.callS (w_117 hw) (S12 hw) (R_StringUTF16_length_1 hw pr1) D11_3 2 rfl).pv
  replace k := (k.callS (w_120 hw) (S13 hw) (R_String_checkBoundsOffCount_1 hw pr2 pr3) D11_6 0 rfl).pv
  replace k := k |>.pop D11_9 rfl
  exact k.ret0 D11_10 rfl ⟨rfl, rfl⟩
abbrev w_114 (hw : HW a0 Z) := hw _ (List.mem_of_getElem? (i := 114) rfl)
abbrev w_116 (hw : HW a0 Z) := hw _ (List.mem_of_getElem? (i := 116) rfl)
theorem pd_IIAB_r_V : parseMethodDescriptor "(II[B)V" = some ⟨[.int, .int, (.array .byte)], none⟩ := by decide +kernel
abbrev w_115 (hw : HW a0 Z) := hw _ (List.mem_of_getElem? (i := 115) rfl)
theorem S11 (hw : HW a0 Z) : SC Z a0 Y11 C11 3 none 3 := ⟨(w_115 hw), ⟨⟨_, Or.inl rfl⟩, (w_116 hw), (w_102 hw), by decide, _, _, pd_IIAB_r_V, rfl⟩⟩
theorem D10_7 : Dc J10 7 (.iconst 0) 1 8 := by decide +kernel
theorem D10_8 : Dc J10 8 (.istore 5) 2 10 := by decide +kernel
theorem D10_10 : Dc J10 10 (.iload 5) 2 12 := by decide +kernel
theorem D10_12 : Dc J10 12 (.iload 4) 2 14 := by decide +kernel
theorem D10_14 : Dj J10 14 (.if_icmp .ge 27) 27 17 41 := by decide +kernel
theorem D10_41 : Dc J10 41 .return_ 1 42 := by decide +kernel
theorem PN10 : plainFor Y10 = true := plainFor_of_name pn_StringUTF16
theorem ef_RIRII_6_0_0_0 {x0 : Addr} {x2 : Addr}  (m : MethodId) : entryFrame m #[(.ref x0), (.int 0), (.ref x2), (.int 0), (.int 0)] 6 = mkF m 0 #[.val (.ref x0), .val (.int 0), .val (.ref x2), .val (.int 0), .val (.int 0), .unset] [] := by
  first | (simp [entryFrame, mkF, argsToLocals, Value.category]; done) | rfl
theorem R_StringUTF16_inflate_1 {a1 a2 : Addr} {w_SF : Value} (hw : HW a0 Z) (pr1 : Ary Z h0 a2 ATB 4 (lv [.int 0, .int 0, .int 0, .int 0])) (pr2 : w_SF.isRef = true) (pr3 : TS_SF Z w_SF) : Mt false [] l Y10 C10 (rmk 3 0 0 43) #[.ref a1, .int 0, .ref a2, .int 0, .int 0] Z a0 h0 n0 (P0 h0) := by
  refine Mt.go PN10 (Or.inl rfl) ef_RIRII_6_0_0_0 fun k => ?_
  replace k := k |>.iloadN D10_0 rfl |>.iload D10_1 rfl |>.aloadN D10_3 rfl rfl
  replace k := (k.callS (w_114 hw) (S11 hw) (R_StringUTF16_checkBoundsOffCount_1 hw pr1 pr2 pr3) D10_4 0 rfl).p0
  replace k := k |>.iconst D10_7 0 |>.istore D10_8 sto5 |>.iload D10_10 rfl |>.iload D10_12 rfl |>.icmpYes D10_14 (by decide)
  exact k.ret0 D10_41 rfl ⟨rfl, rfl⟩
abbrev w_111 (hw : HW a0 Z) := hw _ (List.mem_of_getElem? (i := 111) rfl)
abbrev w_113 (hw : HW a0 Z) := hw _ (List.mem_of_getElem? (i := 113) rfl)
theorem pd_ABIABII_r_V : parseMethodDescriptor "([BI[BII)V" = some ⟨[(.array .byte), .int, (.array .byte), .int, .int], none⟩ := by decide +kernel
abbrev w_112 (hw : HW a0 Z) := hw _ (List.mem_of_getElem? (i := 112) rfl)
theorem S10 (hw : HW a0 Z) : SC Z a0 Y10 C10 6 none 5 := ⟨(w_112 hw), ⟨⟨_, Or.inl rfl⟩, (w_113 hw), (w_102 hw), by decide, _, _, pd_ABIABII_r_V, rfl⟩⟩
theorem D9_9 : Dc J9 9 .return_ 1 10 := by decide +kernel
theorem pn_StringLatin1 : plainName "java/lang/StringLatin1" = true := by first | (simp [plainName, overriddenIn]; done) | decide +kernel
theorem PN9 : plainFor Y9 = true := plainFor_of_name pn_StringLatin1
theorem ef_RIRII_5_0_0_0 {x0 : Addr} {x2 : Addr}  (m : MethodId) : entryFrame m #[(.ref x0), (.int 0), (.ref x2), (.int 0), (.int 0)] 5 = mkF m 0 #[.val (.ref x0), .val (.int 0), .val (.ref x2), .val (.int 0), .val (.int 0)] [] := by
  first | (simp [entryFrame, mkF, argsToLocals, Value.category]; done) | rfl
theorem R_StringLatin1_inflate_1 {a1 a2 : Addr} {w_SF : Value} (hw : HW a0 Z) (pr1 : Ary Z h0 a2 ATB 4 (lv [.int 0, .int 0, .int 0, .int 0])) (pr2 : w_SF.isRef = true) (pr3 : TS_SF Z w_SF) : Mt false [] l Y9 C9 (rmk 4 0 0 60) #[.ref a1, .int 0, .ref a2, .int 0, .int 0] Z a0 h0 n0 (P0 h0) := by
  refine Mt.go PN9 (Or.inl rfl) ef_RIRII_5_0_0_0 fun k => ?_
  replace k := k |>.aloadN D9_0 rfl rfl |>.iloadN D9_1 rfl |>.aloadN D9_2 rfl rfl |>.iloadN D9_3 rfl |>.iload D9_4 rfl
  replace k := (k.callS (w_111 hw) (S10 hw) (R_StringUTF16_inflate_1 hw pr1 pr2 pr3) D9_6 0 rfl).p0
  exact k.ret0 D9_9 rfl ⟨rfl, rfl⟩
abbrev w_108 (hw : HW a0 Z) := hw _ (List.mem_of_getElem? (i := 108) rfl)
abbrev w_110 (hw : HW a0 Z) := hw _ (List.mem_of_getElem? (i := 110) rfl)
abbrev w_89 (hw : HW a0 Z) := hw _ (List.mem_of_getElem? (i := 89) rfl)
abbrev w_109 (hw : HW a0 Z) := hw _ (List.mem_of_getElem? (i := 109) rfl)
theorem S9 (hw : HW a0 Z) : SC Z a0 Y9 C9 5 none 5 := ⟨(w_109 hw), ⟨⟨_, Or.inl rfl⟩, (w_110 hw), (w_89 hw), by decide, _, _, pd_ABIABII_r_V, rfl⟩⟩
theorem D4_244 : Dc J4 244 (.aload 6) 2 246 := by decide +kernel
theorem D4_246 : Dc J4 246 (.iload 7) 2 248 := by decide +kernel
theorem D4_248 : Dc J4 248 (.iload 4) 2 250 := by decide +kernel
theorem D4_250 : Dc J4 250 (.aload 8) 2 252 := by decide +kernel
theorem D4_252 : Dc J4 252 (.iload 5) 2 254 := by decide +kernel
theorem D4_254 : Dc J4 254 (.iconst 1) 1 255 := by decide +kernel
theorem D4_255 : Dc J4 255 (.invokestatic 112) 3 258 := by decide +kernel
abbrev Y15 : MethodName := ⟨"java/lang/String", "decodeUTF8_UTF16", "([BII[BIZ)I"⟩
abbrev J15 := jdk_42_method_38_code
abbrev C15 : Cond := .code Y15 J15 11 (some .int)
theorem D15_0 : Dc J15 0 (.iload_n 1) 1 1 := by decide +kernel
theorem D15_1 : Dc J15 1 (.iload_n 2) 1 2 := by decide +kernel
theorem D15_2 : Dj J15 2 (.if_icmp .ge 619) 619 5 621 := by decide +kernel
theorem D15_5 : Dc J15 5 (.aload_n 0) 1 6 := by decide +kernel
theorem D15_6 : Dc J15 6 (.iload_n 1) 1 7 := by decide +kernel
theorem D15_7 : Dc J15 7 (.iinc 1 1) 3 10 := by decide +kernel
theorem sto1 {x0 x : Slot} {t : List Slot} {v : Value} (hx : okS x = true := by rfl) (hv : v.category = 1 := by rfl) : storeLocals (List.toArray (x0 :: x :: t)) 1 v = some (List.toArray (x0 :: .val v :: t)) := stoA (A := [x0]) hx hv
theorem D15_10 : Dc J15 10 .baload 1 11 := by decide +kernel
theorem D15_11 : Dc J15 11 (.istore 6) 2 13 := by decide +kernel
theorem D15_13 : Dc J15 13 (.iload 6) 2 15 := by decide +kernel
theorem D15_15 : Dj J15 15 (.ifCond .lt 18) 18 18 33 := by decide +kernel
theorem D15_33 : Dc J15 33 (.iload 6) 2 35 := by decide +kernel
theorem D15_35 : Dc J15 35 (.iconst 5) 1 36 := by decide +kernel
theorem D15_36 : Dc J15 36 .ishr 1 37 := by decide +kernel
theorem D15_37 : Dc J15 37 (.bipush (-2)) 2 39 := by decide +kernel
theorem D15_39 : Dj J15 39 (.if_icmp .ne 104) 104 42 143 := by decide +kernel
theorem own_d4 {p1 v0 v1 v2 v3 : Int32} (e0 : v0 = (p1 &&& 127)) (e1 : v1 = ((128 ||| v0).toInt8.toInt32)) (e2 : v2 = (v1 &&& 254)) (e3 : v3 = (v1 >>> ((5 : Int32) &&& 31))) (q0 : v2 = 194) : v3 = (-2) := by
  have := rng32 p1
  have : (127 : Int32).toInt = 127 := by decide
  have := e_mask e0 7 128
  have := e_hbN e1 7 128 128 (by omega)
  have : (254 : Int32).toInt = 254 := by decide
  have : v1.toInt % 256 = v1.toInt + 256 := by omega
  have := e_mask2 e2 1 7 256 2
  have : (194 : Int32).toInt = 194 := by decide
  have := i_eq q0
  have : (5 : Int32).toInt = 5 := by decide
  have := e_ishr e3 5 32
  have : (-2 : Int32).toInt = -2 := by decide
  exact o_eq (by omega)
theorem D15_42 : Dc J15 42 (.iload 6) 2 44 := by decide +kernel
theorem D15_44 : Dc J15 44 (.bipush 30) 2 46 := by decide +kernel
theorem D15_46 : Dc J15 46 .iand 1 47 := by decide +kernel
theorem D15_47 : Dj J15 47 (.ifCond .eq 96) 96 50 143 := by decide +kernel
theorem own_d5 {p1 v0 v1 v2 v3 : Int32} (e0 : v0 = (p1 &&& 127)) (e1 : v1 = ((128 ||| v0).toInt8.toInt32)) (e2 : v2 = (v1 &&& 254)) (e3 : v3 = (v1 &&& 30)) (q0 : v2 = 194) : ¬ (v3 = 0) := by
  have := rng32 p1
  have : (127 : Int32).toInt = 127 := by decide
  have := e_mask e0 7 128
  have := e_hbN e1 7 128 128 (by omega)
  have : (254 : Int32).toInt = 254 := by decide
  have : v1.toInt % 256 = v1.toInt + 256 := by omega
  have := e_mask2 e2 1 7 256 2
  have : (194 : Int32).toInt = 194 := by decide
  have := i_eq q0
  have : (30 : Int32).toInt = 30 := by decide
  have := e_mask2 e3 1 4 32 2
  have : (0 : Int32).toInt = 0 := by decide
  exact o_neq (by omega)
theorem D15_50 : Dc J15 50 (.iload_n 1) 1 51 := by decide +kernel
theorem D15_51 : Dc J15 51 (.iload_n 2) 1 52 := by decide +kernel
theorem D15_52 : Dj J15 52 (.if_icmp .ge 67) 67 55 119 := by decide +kernel
theorem D15_55 : Dc J15 55 (.aload_n 0) 1 56 := by decide +kernel
theorem D15_56 : Dc J15 56 (.iload_n 1) 1 57 := by decide +kernel
theorem D15_57 : Dc J15 57 (.iinc 1 1) 3 60 := by decide +kernel
theorem D15_60 : Dc J15 60 .baload 1 61 := by decide +kernel
theorem D15_61 : Dc J15 61 (.istore 7) 2 63 := by decide +kernel
theorem D15_63 : Dc J15 63 (.iload 7) 2 65 := by decide +kernel
theorem D15_65 : Dc J15 65 (.invokestatic 385) 3 68 := by decide +kernel
abbrev Y16 : MethodName := ⟨"java/lang/String", "isNotContinuation", "(I)Z"⟩
abbrev J16 := jdk_42_method_29_code
abbrev C16 : Cond := .code Y16 J16 1 (some .boolean)
theorem D16_0 : Dc J16 0 (.iload_n 0) 1 1 := by decide +kernel
theorem D16_1 : Dc J16 1 (.sipush 192) 3 4 := by decide +kernel
theorem D16_4 : Dc J16 4 .iand 1 5 := by decide +kernel
theorem D16_5 : Dc J16 5 (.sipush 128) 3 8 := by decide +kernel
theorem D16_8 : Dj J16 8 (.if_icmp .eq 7) 7 11 15 := by decide +kernel
theorem own_d6 {p2 v0 v1 v2 : Int32} (e0 : v0 = (p2 &&& 127)) (e1 : v1 = (v0.toInt8.toInt32)) (e2 : v2 = (v1 &&& 192)) : ¬ (v2 = 128) := by
  have := rng32 p2
  have : (127 : Int32).toInt = 127 := by decide
  have := e_mask e0 7 128
  have := e_i2bN e1 (by omega)
  have : (192 : Int32).toInt = 192 := by decide
  have : v1.toInt % 256 = v1.toInt := by omega
  have := e_mask2 e2 6 2 256 64
  have : (128 : Int32).toInt = 128 := by decide
  exact o_neq (by omega)
theorem D16_11 : Dc J16 11 (.iconst 1) 1 12 := by decide +kernel
theorem D16_12 : Dj J16 12 (.goto 4) 4 15 16 := by decide +kernel
theorem D16_16 : Dc J16 16 .ireturn 1 17 := by decide +kernel
theorem PN16 : plainFor Y16 = true := plainFor_of_name pn_String
theorem ef_I_1 {x0 : Int32}  (m : MethodId) : entryFrame m #[(.int x0)] 1 = mkF m 0 #[.val (.int x0)] [] := by
  first | (simp [entryFrame, mkF, argsToLocals, Value.category]; done) | rfl
theorem R_String_isNotContinuation_1 {p1 : Int32} (hw : HW a0 Z) (pr1 : ¬ ((p1 &&& 192) = 128)) : Mt false [] l Y16 C16 (rmk 0 0 0 0) #[.int p1] Z a0 h0 n0 (Pv h0 (.int 1)) := by
  refine Mt.go PN16 (Or.inl rfl) ef_I_1 fun k => ?_
  replace k := k |>.iloadN D16_0 rfl |>.sipush D16_1 192 |>.iand D16_4 rfl |>.sipush D16_5 128 |>.icmpNo D16_8 (feq pr1).1 |>.iconst D16_11 1 |>.goto D16_12
  exact k.retN (t := .boolean) D16_16 rfl (by simp) (z' := 1) (by decide) ⟨rfl, rfl⟩
abbrev w_187 (hw : HW a0 Z) := hw _ (List.mem_of_getElem? (i := 187) rfl)
abbrev w_189 (hw : HW a0 Z) := hw _ (List.mem_of_getElem? (i := 189) rfl)
theorem pd_I_r_Z : parseMethodDescriptor "(I)Z" = some ⟨[.int], some .boolean⟩ := by decide +kernel
abbrev w_188 (hw : HW a0 Z) := hw _ (List.mem_of_getElem? (i := 188) rfl)
theorem S16 (hw : HW a0 Z) : SC Z a0 Y16 C16 1 (some .boolean) 1 := ⟨(w_188 hw), ⟨⟨_, Or.inl rfl⟩, (w_189 hw), (w_7 hw), by decide, _, _, pd_I_r_Z, rfl⟩⟩
theorem D15_68 : Dj J15 68 (.ifCond .eq 32) 32 71 100 := by decide +kernel
theorem D15_71 : Dc J15 71 (.iload 5) 2 73 := by decide +kernel
theorem D15_73 : Dj J15 73 (.ifCond .ne 10) 10 76 83 := by decide +kernel
theorem D15_83 : Dc J15 83 (.aload_n 3) 1 84 := by decide +kernel
theorem D15_84 : Dc J15 84 (.iload 4) 2 86 := by decide +kernel
theorem D15_86 : Dc J15 86 (.iinc 4 1) 3 89 := by decide +kernel
theorem D15_89 : Dc J15 89 (.ldc 132) 2 91 := by decide +kernel
abbrev w_179 (hw : HW a0 Z) := hw _ (List.mem_of_getElem? (i := 179) rfl)
theorem D15_91 : Dc J15 91 (.invokestatic 64) 3 94 := by decide +kernel
abbrev Y17 : MethodName := ⟨"java/lang/StringUTF16", "putChar", "([BII)V"⟩
abbrev J17 := jdk_52_method_4_code
abbrev C17 : Cond := .code Y17 J17 3 none
theorem D17_0 : Dc J17 0 (.getstatic 44) 3 3 := by decide +kernel
abbrev w_149 (hw : HW a0 Z) := hw _ (List.mem_of_getElem? (i := 149) rfl)
theorem fl_149 (hw : HW a0 Z) : FL Z a0 "java/lang/StringUTF16" 44 "java/lang/StringUTF16" "$assertionsDisabled" "Z" := ⟨_, "", Or.inl (w_149 hw), Via.refl⟩
theorem D17_3 : Dj J17 3 (.ifCond .ne 25) 25 6 28 := by decide +kernel
theorem D17_28 : Dc J17 28 (.iload_n 1) 1 29 := by decide +kernel
theorem D17_29 : Dc J17 29 (.iconst 1) 1 30 := by decide +kernel
theorem D17_30 : Dc J17 30 .ishl 1 31 := by decide +kernel
theorem D17_31 : Dc J17 31 (.istore_n 1) 1 32 := by decide +kernel
theorem D17_32 : Dc J17 32 (.aload_n 0) 1 33 := by decide +kernel
theorem D17_33 : Dc J17 33 (.iload_n 1) 1 34 := by decide +kernel
theorem D17_34 : Dc J17 34 (.iinc 1 1) 3 37 := by decide +kernel
theorem D17_37 : Dc J17 37 (.iload_n 2) 1 38 := by decide +kernel
theorem D17_38 : Dc J17 38 (.getstatic 59) 3 41 := by decide +kernel
abbrev w_150 (hw : HW a0 Z) := hw _ (List.mem_of_getElem? (i := 150) rfl)
theorem fl_150 (hw : HW a0 Z) : FL Z a0 "java/lang/StringUTF16" 59 "java/lang/StringUTF16" "HI_BYTE_SHIFT" "I" := ⟨_, "", Or.inl (w_150 hw), Via.refl⟩
theorem D17_41 : Dc J17 41 .ishr 1 42 := by decide +kernel
theorem D17_42 : Dc J17 42 .i2b 1 43 := by decide +kernel
theorem D17_43 : Dc J17 43 .bastore 1 44 := by decide +kernel
theorem D17_44 : Dc J17 44 (.aload_n 0) 1 45 := by decide +kernel
theorem D17_45 : Dc J17 45 (.iload_n 1) 1 46 := by decide +kernel
theorem D17_46 : Dc J17 46 (.iload_n 2) 1 47 := by decide +kernel
theorem D17_47 : Dc J17 47 (.getstatic 63) 3 50 := by decide +kernel
abbrev w_151 (hw : HW a0 Z) := hw _ (List.mem_of_getElem? (i := 151) rfl)
theorem fl_151 (hw : HW a0 Z) : FL Z a0 "java/lang/StringUTF16" 63 "java/lang/StringUTF16" "LO_BYTE_SHIFT" "I" := ⟨_, "", Or.inl (w_151 hw), Via.refl⟩
theorem D17_50 : Dc J17 50 .ishr 1 51 := by decide +kernel
theorem D17_51 : Dc J17 51 .i2b 1 52 := by decide +kernel
theorem D17_52 : Dc J17 52 .bastore 1 53 := by decide +kernel
theorem D17_53 : Dc J17 53 .return_ 1 54 := by decide +kernel
theorem PN17 : plainFor Y17 = true := plainFor_of_name pn_StringUTF16
theorem ef_RII_3_0_65533 {x0 : Addr}  (m : MethodId) : entryFrame m #[(.ref x0), (.int 0), (.int 65533)] 3 = mkF m 0 #[.val (.ref x0), .val (.int 0), .val (.int 65533)] [] := by
  first | (simp [entryFrame, mkF, argsToLocals, Value.category]; done) | rfl
theorem R_StringUTF16_putChar_1 {a1 : Addr} (hw : HW a0 Z) (pr1 : TS_AD Z) (pr2 : TS_HI Z) (pr3 : Ary Z h0 a1 ATB 4 (lv [.int 0, .int 0, .int 0, .int 0])) (pr4 : n0 ≤ a1) (pr5 : TS_LO Z) : Mt false [] l Y17 C17 (rmk 0 0 0 0) #[.ref a1, .int 0, .int 65533] Z a0 h0 n0 (K0 h0 [a1] fun h => Ary Z h a1 ATB 4 (lv [.int (-3), .int (-1), .int 0, .int 0])) := by
  refine Mt.go PN17 (Or.inl rfl) ef_RII_3_0_65533 fun k => ?_
  replace k := k |>.getS (fl_149 hw) pr1 D17_0 |>.ifYes D17_3 (by decide) |>.iloadN D17_28 rfl |>.iconst D17_29 1 |>.ishl D17_30 (z := 0) (by decide) |>.istoreN D17_31 sto1 |>.aloadN D17_32 rfl rfl |>.iloadN D17_33 rfl |>.iinc D17_34 rfl (z := 1) (by decide) sto1 |>.iloadN D17_37 rfl |>.getS (fl_150 hw) pr2 D17_38 |>.ishr D17_41 (z := 65533) (by decide)
  replace k := k |>.i2b D17_42 (z := (-3)) (by decide)
  obtain ⟨h1, K1, O1, k⟩ := k.stB pr3 pr4 (Or.inl rfl) D17_43 (i := 0) (by decide) (v := (.int (-3))) (by decide) (by decide) lvs0
  replace k := k |>.aloadN D17_44 rfl rfl |>.iloadN D17_45 rfl |>.iloadN D17_46 rfl |>.getS (fl_151 hw) pr5 D17_47 |>.ishr D17_50 (z := 255) (by decide) |>.i2b D17_51 (z := (-1)) (by decide)
  obtain ⟨h2, K2, O2, k⟩ := k.stB O1 pr4 (Or.inl rfl) D17_52 (i := 1) (by decide) (v := (.int (-1))) (by decide) (by decide) lvs1
  exact k.ret0 D17_53 rfl ⟨rfl, (K1.trans K2 (allS (Or.inl (List.mem_of_getElem? (i := 0) rfl)) all0)), O2⟩
abbrev w_146 (hw : HW a0 Z) := hw _ (List.mem_of_getElem? (i := 146) rfl)
abbrev w_148 (hw : HW a0 Z) := hw _ (List.mem_of_getElem? (i := 148) rfl)
theorem pd_ABII_r_V : parseMethodDescriptor "([BII)V" = some ⟨[(.array .byte), .int, .int], none⟩ := by decide +kernel
abbrev w_147 (hw : HW a0 Z) := hw _ (List.mem_of_getElem? (i := 147) rfl)
theorem S17 (hw : HW a0 Z) : SC Z a0 Y17 C17 3 none 3 := ⟨(w_147 hw), ⟨⟨_, Or.inl rfl⟩, (w_148 hw), (w_102 hw), by decide, _, _, pd_ABII_r_V, rfl⟩⟩
theorem D15_94 : Dc J15 94 (.iinc 1 (-1)) 3 97 := by decide +kernel
theorem D15_97 : Dj J15 97 (.goto (-97)) (-97) 100 0 := by decide +kernel
theorem own_d7 {p2 v0 v1 : Int32} (e0 : v0 = (p2 &&& 127)) (e1 : v1 = (v0.toInt8.toInt32)) : ¬ (v1 < 0) := by
  have := rng32 p2
  have : (127 : Int32).toInt = 127 := by decide
  have := e_mask e0 7 128
  have := e_i2bN e1 (by omega)
  have : (0 : Int32).toInt = 0 := by decide
  exact o_nlt (by omega)
theorem D15_18 : Dc J15 18 (.aload_n 3) 1 19 := by decide +kernel
theorem D15_19 : Dc J15 19 (.iload 4) 2 21 := by decide +kernel
theorem D15_21 : Dc J15 21 (.iinc 4 1) 3 24 := by decide +kernel
theorem D15_24 : Dc J15 24 (.iload 6) 2 26 := by decide +kernel
theorem D15_26 : Dc J15 26 .i2c 1 27 := by decide +kernel
theorem D15_27 : Dc J15 27 (.invokestatic 64) 3 30 := by decide +kernel
theorem lvs2 {x0 x1 x v : Value} {t : List Value} {n : Nat} : ∀ j, j < n → updv (lv (x0 :: x1 :: x :: t)) 2 v j = lv (x0 :: x1 :: v :: t) j := lv_set rfl (by simp)
theorem lvs3 {x0 x1 x2 x v : Value} {t : List Value} {n : Nat} : ∀ j, j < n → updv (lv (x0 :: x1 :: x2 :: x :: t)) 3 v j = lv (x0 :: x1 :: x2 :: v :: t) j := lv_set rfl (by simp)
theorem ef_RII_3_1 {x0 : Addr} {x2 : Int32}  (m : MethodId) : entryFrame m #[(.ref x0), (.int 1), (.int x2)] 3 = mkF m 0 #[.val (.ref x0), .val (.int 1), .val (.int x2)] [] := by
  first | (simp [entryFrame, mkF, argsToLocals, Value.category]; done) | rfl
theorem R_StringUTF16_putChar_2 {a1 : Addr} {p2 : Int32} (hw : HW a0 Z) (pr1 : TS_AD Z) (pr2 : TS_HI Z) (pr3 : Ary Z h0 a1 ATB 4 (lv [.int (-3), .int (-1), .int 0, .int 0])) (pr4 : n0 ≤ a1) (pr5 : TS_LO Z) : Mt false [] l Y17 C17 (rmk 0 0 0 0) #[.ref a1, .int 1, .int p2] Z a0 h0 n0 (K0 h0 [a1] fun h => Ary Z h a1 ATB 4 (lv [.int (-3), .int (-1), .int ((p2 >>> ((0 : Int32) &&& 31)).toInt8.toInt32), .int ((p2 >>> ((8 : Int32) &&& 31)).toInt8.toInt32)])) := by
  refine Mt.go PN17 (Or.inl rfl) ef_RII_3_1 fun k => ?_
  replace k := k |>.getS (fl_149 hw) pr1 D17_0 |>.ifYes D17_3 (by decide) |>.iloadN D17_28 rfl |>.iconst D17_29 1 |>.ishl D17_30 (z := 2) (by decide) |>.istoreN D17_31 sto1 |>.aloadN D17_32 rfl rfl |>.iloadN D17_33 rfl |>.iinc D17_34 rfl (z := 3) (by decide) sto1 |>.iloadN D17_37 rfl |>.getS (fl_150 hw) pr2 D17_38 |>.ishr D17_41 rfl
  replace k := k |>.i2b D17_42 rfl
  obtain ⟨h1, K1, O1, k⟩ := k.stB pr3 pr4 (Or.inl rfl) D17_43 (i := 2) (by decide) (v := (.int ((p2 >>> ((0 : Int32) &&& 31)).toInt8.toInt32))) (congrArg Value.int (own_nnBi2b _)) (own_fitBi2b _) lvs2
  replace k := k |>.aloadN D17_44 rfl rfl |>.iloadN D17_45 rfl |>.iloadN D17_46 rfl |>.getS (fl_151 hw) pr5 D17_47 |>.ishr D17_50 rfl |>.i2b D17_51 rfl
  obtain ⟨h2, K2, O2, k⟩ := k.stB O1 pr4 (Or.inl rfl) D17_52 (i := 3) (by decide) (v := (.int ((p2 >>> ((8 : Int32) &&& 31)).toInt8.toInt32))) (congrArg Value.int (own_nnBi2b _)) (own_fitBi2b _) lvs3
  exact k.ret0 D17_53 rfl ⟨rfl, (K1.trans K2 (allS (Or.inl (List.mem_of_getElem? (i := 0) rfl)) all0)), O2⟩
theorem D15_30 : Dj J15 30 (.goto 588) 588 33 618 := by decide +kernel
theorem D15_618 : Dj J15 618 (.goto (-618)) (-618) 621 0 := by decide +kernel
theorem D15_621 : Dc J15 621 (.iload 4) 2 623 := by decide +kernel
theorem D15_623 : Dc J15 623 .ireturn 1 624 := by decide +kernel
theorem PN15 : plainFor Y15 = true := plainFor_of_name pn_String
theorem ef_RIIRII_11_0_2_0_1 {x0 : Addr} {x3 : Addr}  (m : MethodId) : entryFrame m #[(.ref x0), (.int 0), (.int 2), (.ref x3), (.int 0), (.int 1)] 11 = mkF m 0 #[.val (.ref x0), .val (.int 0), .val (.int 2), .val (.ref x3), .val (.int 0), .val (.int 1), .unset, .unset, .unset, .unset, .unset] [] := by
  first | (simp [entryFrame, mkF, argsToLocals, Value.category]; done) | rfl
theorem R_String_decodeUTF8_UTF16_1 {a1 a2 : Addr} {p3 p4 : Int32} (hw : HW a0 Z) (pr1 : Ary Z h0 a1 ATB 2 (lv [.int p3, .int p4])) (pr2 : p3 < 0) (pr3 : (p3 >>> ((5 : Int32) &&& 31)) = (-2)) (pr4 : ¬ ((p3 &&& 30) = 0)) (pr5 : ¬ ((p4 &&& 192) = 128)) (pr6 : Ary Z h0 a2 ATB 4 (lv [.int 0, .int 0, .int 0, .int 0])) (pr7 : n0 ≤ a2) (pr8 : TS_AD Z) (pr9 : TS_HI Z) (pr10 : TS_LO Z) (pr11 : a1 ≠ a2) (pr12 : ¬ (p4 < 0)) : Mt false [] l Y15 C15 (rmk 1 0 0 14) #[.ref a1, .int 0, .int 2, .ref a2, .int 0, .int 1] Z a0 h0 n0 (KpV h0 [a2] fun v h => v = (.int 2) ∧ Ary Z h a2 ATB 4 (lv [.int (-3), .int (-1), .int (((p4.toUInt32.toUInt16.toUInt32.toInt32) >>> ((0 : Int32) &&& 31)).toInt8.toInt32), .int (((p4.toUInt32.toUInt16.toUInt32.toInt32) >>> ((8 : Int32) &&& 31)).toInt8.toInt32)])) := by
  refine Mt.go PN15 (Or.inl rfl) ef_RIIRII_11_0_2_0_1 fun k => ?_
  replace k := k |>.iloadN D15_0 rfl |>.iloadN D15_1 rfl |>.icmpNo D15_2 (by decide) |>.aloadN D15_5 rfl rfl |>.iloadN D15_6 rfl |>.iinc D15_7 rfl (z := 1) (by decide) sto1 |>.bald pr1 D15_10 (i := 0) (by decide) lvg0 |>.istore D15_11 sto6 |>.iload D15_13 rfl |>.ifYes D15_15 ((if0 _ _).trans (tlt pr2).1) |>.iload D15_33 rfl |>.iconst D15_35 5
  replace k := k |>.ishr D15_36 rfl |>.bipush D15_37 (-2) |>.icmpNo D15_39 (teq pr3).2 |>.iload D15_42 rfl |>.bipush D15_44 30 |>.iand D15_46 rfl |>.ifNo D15_47 ((if0 _ _).trans (feq pr4).1) |>.iloadN D15_50 rfl |>.iloadN D15_51 rfl |>.icmpNo D15_52 (by decide) |>.aloadN D15_55 rfl rfl |>.iloadN D15_56 rfl
  replace k := k |>.iinc D15_57 rfl (z := 2) (by decide) sto1 |>.bald pr1 D15_60 (i := 1) (by decide) lvg1 |>.istore D15_61 sto7 |>.iload D15_63 rfl
  replace k := (k.callS (w_187 hw) (S16 hw) (R_String_isNotContinuation_1 hw pr5) D15_65 0 rfl).pv
  replace k := k |>.ifNo D15_68 (by decide) |>.iload D15_71 rfl |>.ifYes D15_73 (by decide) |>.aloadN D15_83 rfl rfl |>.iload D15_84 rfl |>.iinc D15_86 rfl (z := 1) (by decide) sto4 |>.ldcI (w_179 hw) D15_89
  obtain ⟨h2, K2, f2_0, k⟩ := (k.callS (w_146 hw) (S17 hw) (R_StringUTF16_putChar_1 hw pr8 pr9 pr6 pr7 pr10) D15_91 0 rfl).k0 (allS pr7 all0)
  replace k := k |>.iinc D15_94 rfl (z := 1) (by decide) sto1 |>.goto D15_97 |>.iloadN D15_0 rfl |>.iloadN D15_1 rfl |>.icmpNo D15_2 (by decide) |>.aloadN D15_5 rfl rfl |>.iloadN D15_6 rfl |>.iinc D15_7 rfl (z := 2) (by decide) sto1
  have o3 := pr1.keep K2 (ninS pr11 nin0)
  replace k := k |>.bald o3 D15_10 (i := 1) (by decide) lvg1 |>.istore D15_11 sto6 |>.iload D15_13 rfl |>.ifNo D15_15 ((if0 _ _).trans (flt pr12).1) |>.aloadN D15_18 rfl rfl |>.iload D15_19 rfl |>.iinc D15_21 rfl (z := 2) (by decide) sto4 |>.iload D15_24 rfl |>.i2c D15_26 rfl
  obtain ⟨h4, K4, f4_0, k⟩ := (k.callS (w_146 hw) (S17 hw) (R_StringUTF16_putChar_2 hw pr8 pr9 f2_0 pr7 pr10) D15_27 0 rfl).k0 (allS pr7 all0)
  replace k := k |>.goto D15_30 |>.goto D15_618 |>.iloadN D15_0 rfl |>.iloadN D15_1 rfl |>.icmpYes D15_2 (by decide) |>.iload D15_621 rfl
  exact k.retI D15_623 rfl ⟨_, rfl, (K2.trans K4 (allS (Or.inl (List.mem_of_getElem? (i := 0) rfl)) all0)), rfl, f4_0⟩
abbrev w_126 (hw : HW a0 Z) := hw _ (List.mem_of_getElem? (i := 126) rfl)
abbrev w_128 (hw : HW a0 Z) := hw _ (List.mem_of_getElem? (i := 128) rfl)
theorem pd_ABIIABIZ_r_I : parseMethodDescriptor "([BII[BIZ)I" = some ⟨[(.array .byte), .int, .int, (.array .byte), .int, .boolean], some .int⟩ := by decide +kernel
abbrev w_127 (hw : HW a0 Z) := hw _ (List.mem_of_getElem? (i := 127) rfl)
theorem S15 (hw : HW a0 Z) : SC Z a0 Y15 C15 11 (some .int) 6 := ⟨(w_127 hw), ⟨⟨_, Or.inl rfl⟩, (w_128 hw), (w_7 hw), by decide, _, _, pd_ABIIABIZ_r_I, rfl⟩⟩
theorem D4_258 : Dc J4 258 (.istore 5) 2 260 := by decide +kernel
theorem D4_260 : Dc J4 260 (.iload 5) 2 262 := by decide +kernel
theorem D4_262 : Dc J4 262 (.iload 4) 2 264 := by decide +kernel
theorem D4_264 : Dj J4 264 (.if_icmp .eq 14) 14 267 278 := by decide +kernel
theorem D4_278 : Dc J4 278 (.aload_n 0) 1 279 := by decide +kernel
theorem D4_279 : Dc J4 279 (.aload 8) 2 281 := by decide +kernel
theorem D4_281 : Dc J4 281 (.putfield 9) 3 284 := by decide +kernel
abbrev w_31 (hw : HW a0 Z) := hw _ (List.mem_of_getElem? (i := 31) rfl)
theorem fl_31 (hw : HW a0 Z) : FL Z a0 "java/lang/String" 9 "java/lang/String" "value" "[B" := ⟨_, "", Or.inl (w_31 hw), Via.refl⟩
theorem pw_String_i_String_value (hw : HW a0 Z) : PW Z a0 "java/lang/String" "<init>" L_String "java/lang/String" "value" "[B" (.array .byte) := ⟨okL_String hw, Or.inr ⟨(w_27 hw), rfl, rfl⟩, ⟨_, (w_6 hw)⟩, by decide +kernel⟩
theorem ls0 { x v : Value} {t : List Value} : (x :: t).set 0 v = v :: t := rfl
theorem D4_284 : Dc J4 284 (.aload_n 0) 1 285 := by decide +kernel
theorem D4_285 : Dc J4 285 (.iconst 1) 1 286 := by decide +kernel
theorem D4_286 : Dc J4 286 (.putfield 15) 3 289 := by decide +kernel
abbrev w_32 (hw : HW a0 Z) := hw _ (List.mem_of_getElem? (i := 32) rfl)
theorem fl_32 (hw : HW a0 Z) : FL Z a0 "java/lang/String" 15 "java/lang/String" "coder" "B" := ⟨_, "", Or.inl (w_32 hw), Via.refl⟩
theorem fp_32 (hw : HW a0 Z) : FP Z a0 "java/lang/String" 15 "java/lang/String" "coder" "B" := ⟨_, (w_32 hw), Via.refl⟩
theorem pw_String_i_String_coder (hw : HW a0 Z) : PW Z a0 "java/lang/String" "<init>" L_String "java/lang/String" "coder" "B" .byte := ⟨okL_String hw, Or.inr ⟨(w_28 hw), rfl, rfl⟩, ⟨_, (w_6 hw)⟩, by decide +kernel⟩
theorem ls1 {x0 x v : Value} {t : List Value} : (x0 :: x :: t).set 1 v = x0 :: v :: t := rfl
theorem D4_289 : Dj J4 289 (.goto 590) 590 292 879 := by decide +kernel
theorem D4_879 : Dc J4 879 .return_ 1 880 := by decide +kernel
theorem PN4 : plainFor Y4 = true := plainFor_of_name pn_String
theorem ef_RRRII_11_0_2 {x0 : Addr} {x1 : Addr} {x2 : Addr}  (m : MethodId) : entryFrame m #[(.ref x0), (.ref x1), (.ref x2), (.int 0), (.int 2)] 11 = mkF m 0 #[.val (.ref x0), .val (.ref x1), .val (.ref x2), .val (.int 0), .val (.int 2), .unset, .unset, .unset, .unset, .unset, .unset] [] := by
  first | (simp [entryFrame, mkF, argsToLocals, Value.category]; done) | rfl
theorem R_String__init__4 {a1 w_U8 a2 : Addr} {w_CS p3 p4 : Int32} {w_SF : Value} (hw : HW a0 Z) (pr1 : TS_UI Z w_U8) (pr2 : TS_CS Z w_CS) (pr3 : ¬ (w_CS = 0)) (pr4 : Ary Z h0 a2 ATB 2 (lv [.int p3, .int p4])) (pr5 : p3 < 0) (pr6 : (p3 &&& 254) = 194) (pr7 : ¬ (p4 < (-64))) (pr8 : w_SF.isRef = true) (pr9 : TS_SF Z w_SF) (pr10 : (p3 >>> ((5 : Int32) &&& 31)) = (-2)) (pr11 : ¬ ((p3 &&& 30) = 0)) (pr12 : ¬ ((p4 &&& 192) = 128)) (pr13 : ¬ (p4 < 0)) (pr14 : TS_AD Z) (pr15 : TS_HI Z) (pr16 : TS_LO Z) (pr17 : Obj Z h0 a1 L_String [.null, .int 0]) (pr18 : n0 ≤ a1) : Mt false [] l Y4 C4 (rmk 5 2 6 76) #[.ref a1, .ref w_U8, .ref a2, .int 0, .int 2] Z a0 h0 n0 (K0 h0 [a1] fun h => ∃ b2_3 : Addr, h0.size ≤ b2_3 ∧ Obj Z h a1 L_String [.ref b2_3, .int 1] ∧ Ary Z h b2_3 ATB 4 (lv [.int (-3), .int (-1), .int (((p4.toUInt32.toUInt16.toUInt32.toInt32) >>> ((0 : Int32) &&& 31)).toInt8.toInt32), .int (((p4.toUInt32.toUInt16.toUInt32.toInt32) >>> ((8 : Int32) &&& 31)).toInt8.toInt32)])) := by
  refine Mt.go PN4 (Or.inr ⟨_, rfl⟩) ef_RRRII_11_0_2 fun k => ?_
  have nz := k.n0le
  replace k := k |>.aloadN D4_0 rfl rfl |>.initO (w_23 hw) (w_24 hw) (w_25 hw) D4_1 0 |>.iload D4_4 rfl |>.ifYes D4_6 (by decide) |>.aloadN D4_30 rfl rfl |>.getS (fl_46 hw) pr1 D4_31 |>.acmpNo D4_34 rfl rfl true (decide_eq_true rfl) (by decide) |>.getS (fl_48 hw) pr2 D4_37 |>.ifNo D4_40 ((if0 _ _).trans (feq pr3).1) |>.aloadN D4_43 rfl rfl |>.iloadN D4_44 rfl |>.iload D4_45 rfl
  replace k := (k.callS (w_49 hw) (S5 hw) (R_StringCoding_countPositives_1 hw pr4 pr5) D4_47 0 rfl).pv
  replace k := k |>.istore D4_50 sto5 |>.iload D4_52 rfl |>.iload D4_54 rfl |>.icmpYes D4_56 (by decide) |>.aloadN D4_78 rfl rfl |>.iloadN D4_79 rfl |>.iloadN D4_80 rfl |>.iload D4_81 rfl |>.iadd D4_83 (z := 2) (by decide)
  have z2 := k.sz
  obtain ⟨_, h2, K2, ⟨b1_2, rfl, f2_0, f2_1⟩, k⟩ := (k.callS (w_53 hw) (S6 hw) (R_Arrays_copyOfRange_1 hw pr4) D4_84 0 rfl).kv
  replace k := k |>.astore D4_87 rfl sto6 |>.iload D4_89 rfl |>.istore D4_91 sto7 |>.iload D4_93 rfl |>.iload D4_95 rfl |>.icmpNo D4_97 (by decide) |>.aload D4_100 rfl rfl |>.iload D4_102 rfl |>.iinc D4_104 rfl (z := 1) (by decide) sto7 |>.bald f2_1 D4_107 (i := 0) (by decide) lvg0 |>.istore D4_108 sto8 |>.iload D4_110 rfl
  replace k := k |>.ifYes D4_112 ((if0 _ _).trans (tlt pr5).1) |>.iload D4_129 rfl |>.sipush D4_131 254 |>.iand D4_134 rfl |>.sipush D4_135 194 |>.icmpNo D4_138 (teq pr6).2 |>.iload D4_141 rfl |>.iload D4_143 rfl |>.icmpNo D4_145 (by decide) |>.aload D4_148 rfl rfl |>.iload D4_150 rfl |>.bald f2_1 D4_152 (i := 1) (by decide) lvg1
  replace k := k |>.istore D4_153 sto9 |>.iload D4_155 rfl |>.bipush D4_157 (-64) |>.icmpYes D4_159 (flt pr7).2.1 |>.iinc D4_184 rfl (z := 0) (by decide) sto7 |>.goto D4_187 |>.iload D4_190 rfl |>.iload D4_192 rfl |>.icmpYes D4_194 (by decide) |>.iload D4_226 rfl
  have z3 := k.sz
  obtain ⟨_, h3, K3, ⟨b2_3, rfl, f3_0, f3_1⟩, k⟩ := (k.callS (w_100 hw) (S7 hw) (R_StringUTF16_newBytesFor_1 hw) D4_228 0 rfl).kv
  replace k := k |>.astore D4_231 rfl sto8 |>.aload D4_233 rfl rfl |>.iconst D4_235 0 |>.aload D4_236 rfl rfl |>.iconst D4_238 0 |>.iload D4_239 rfl
  replace k := (k.callS (w_108 hw) (S9 hw) (R_StringLatin1_inflate_1 hw f3_1 pr8 pr9) D4_241 0 rfl).p0
  replace k := k |>.aload D4_244 rfl rfl |>.iload D4_246 rfl |>.iload D4_248 rfl |>.aload D4_250 rfl rfl |>.iload D4_252 rfl |>.iconst D4_254 1
  have s_b2_3 := Nat.le_trans z3 f3_0
  have n_b2_3 := Nat.le_trans nz s_b2_3
  have o6 := f2_1.keep K3 nin0
  obtain ⟨_, h5, K5, ⟨rfl, f5_0⟩, k⟩ := (k.callS (w_126 hw) (S15 hw) (R_String_decodeUTF8_UTF16_1 hw o6 pr5 pr10 pr11 pr12 f3_1 n_b2_3 pr14 pr15 pr16 (nlt f2_1.lt f3_0) pr13) D4_255 0 rfl).kv (allS n_b2_3 all0)
  replace k := k |>.istore D4_258 sto5 |>.iload D4_260 rfl |>.iload D4_262 rfl |>.icmpYes D4_264 (by decide) |>.aloadN D4_278 rfl rfl |>.aload D4_279 rfl rfl
  have o7 := ((pr17.keep K2 nin0).keep K3 nin0).keep K5 (ninS (nlt pr17.lt s_b2_3) nin0)
  obtain ⟨h8, K8, O8, k⟩ := k.putF (fl_31 hw) (pw_String_i_String_value hw) o7 0 pr18 (Or.inl rfl) D4_281 rfl rfl rfl ls0
  replace k := k |>.aloadN D4_284 rfl rfl |>.iconst D4_285 1
  obtain ⟨h9, K9, O9, k⟩ := k.putN (fp_32 hw) (pw_String_i_String_coder hw) O8 1 pr18 (Or.inl rfl) D4_286 rfl (v' := (.int 1)) (by decide) (by decide) ls1
  replace k := k |>.goto D4_289
  have o10 := (f5_0.keep K8 (ninS (nlt' pr17.lt s_b2_3) nin0)).keep K9 (ninS (nlt' pr17.lt s_b2_3) nin0)
  exact k.ret0 D4_879 rfl ⟨rfl, ((((((Keep.refl h0 [a1]).trans K2 all0).trans K3 all0).trans K5 (allS (Or.inr s_b2_3) all0)).trans K8 (allS (Or.inl (List.mem_of_getElem? (i := 0) rfl)) all0)).trans K9 (allS (Or.inl (List.mem_of_getElem? (i := 0) rfl)) all0)), b2_3, s_b2_3, O9, o10⟩
abbrev w_19 (hw : HW a0 Z) := hw _ (List.mem_of_getElem? (i := 19) rfl)
abbrev w_22 (hw : HW a0 Z) := hw _ (List.mem_of_getElem? (i := 22) rfl)
theorem pd_Ljava_nio_charset_CharsetABII_r_V : parseMethodDescriptor "(Ljava/nio/charset/Charset;[BII)V" = some ⟨[(.object "java/nio/charset/Charset"), (.array .byte), .int, .int], none⟩ := by decide +kernel
abbrev w_20 (hw : HW a0 Z) := hw _ (List.mem_of_getElem? (i := 20) rfl)
theorem I4 (hw : HW a0 Z) : IC Z a0 Y4 C4 11 4 := ⟨(w_20 hw), rfl, ⟨⟨_, Or.inr ⟨_, rfl⟩⟩, (w_22 hw), (w_7 hw), by decide, _, _, pd_Ljava_nio_charset_CharsetABII_r_V, rfl⟩⟩
theorem D2_15 : Dc J2 15 .return_ 1 16 := by decide +kernel
theorem PN2 : plainFor Y2 = true := plainFor_of_name pn_String
theorem ef_RRR_3 {x0 : Addr} {x1 : Addr} {x2 : Addr}  (m : MethodId) : entryFrame m #[(.ref x0), (.ref x1), (.ref x2)] 3 = mkF m 0 #[.val (.ref x0), .val (.ref x1), .val (.ref x2)] [] := by
  first | (simp [entryFrame, mkF, argsToLocals, Value.category]; done) | rfl
theorem R_String__init__3 {a1 a2 w_U8 : Addr} {p3 p4 w_CS : Int32} {w_SF : Value} (hw : HW a0 Z) (pr1 : Obj Z Z.heap w_U8 L_UTF_8 []) (pr2 : Ary Z h0 a2 ATB 2 (lv [.int p3, .int p4])) (pr3 : ¬ (w_CS = 0)) (pr4 : p3 < 0) (pr5 : (p3 &&& 254) = 194) (pr6 : ¬ (p4 < (-64))) (pr7 : (p3 >>> ((5 : Int32) &&& 31)) = (-2)) (pr8 : ¬ ((p3 &&& 30) = 0)) (pr9 : ¬ ((p4 &&& 192) = 128)) (pr10 : ¬ (p4 < 0)) (pr11 : Obj Z h0 a1 L_String [.null, .int 0]) (pr12 : n0 ≤ a1) (pr13 : w_SF.isRef = true) (pr14 : TS_UI Z w_U8) (pr15 : TS_CS Z w_CS) (pr16 : TS_SF Z w_SF) (pr17 : TS_AD Z) (pr18 : TS_HI Z) (pr19 : TS_LO Z) : Mt false [] l Y2 C2 (rmk 6 2 6 98) #[.ref a1, .ref a2, .ref w_U8] Z a0 h0 n0 (K0 h0 [a1] fun h => ∃ b2_3_2 : Addr, h0.size ≤ b2_3_2 ∧ Obj Z h a1 L_String [.ref b2_3_2, .int 1] ∧ Ary Z h b2_3_2 ATB 4 (lv [.int (-3), .int (-1), .int (((p4.toUInt32.toUInt16.toUInt32.toInt32) >>> ((0 : Int32) &&& 31)).toInt8.toInt32), .int (((p4.toUInt32.toUInt16.toUInt32.toInt32) >>> ((8 : Int32) &&& 31)).toInt8.toInt32)])) := by
  refine Mt.go PN2 (Or.inl rfl) ef_RRR_3 fun k => ?_
  replace k := k |>.aloadN D2_0 rfl rfl |>.aloadN D2_1 rfl rfl
  replace k := (k.callS (w_13 hw) (S3 hw) (R_Objects_requireNonNull_1 hw) D2_2 1 rfl).pv
  replace k := k |>.castY (w_17 hw) (Ins.of_exa (pr1.ext k.old.2).exa (w_18 hw)) D2_5 |>.aloadN D2_8 rfl rfl |>.iconst D2_9 0 |>.aloadN D2_10 rfl rfl |>.alen pr2 D2_11 (z := 2) (by decide)
  have z2 := k.sz
  obtain ⟨h2, K2, ⟨b2_3_2, f2_0, f2_1, f2_2⟩, k⟩ := (k.callI (w_19 hw) (I4 hw) (R_String__init__4 hw pr14 pr15 pr3 pr2 pr4 pr5 pr6 pr13 pr16 pr7 pr8 pr9 pr10 pr17 pr18 pr19 pr11 pr12) D2_12 0 rfl).k0 (allS pr12 all0)
  have s_b2_3_2 := Nat.le_trans z2 f2_0
  exact k.ret0 D2_15 rfl ⟨rfl, K2, b2_3_2, s_b2_3_2, f2_1, f2_2⟩
abbrev w_10 (hw : HW a0 Z) := hw _ (List.mem_of_getElem? (i := 10) rfl)
abbrev w_12 (hw : HW a0 Z) := hw _ (List.mem_of_getElem? (i := 12) rfl)
theorem pd_ABLjava_nio_charset_Charset_r_V : parseMethodDescriptor "([BLjava/nio/charset/Charset;)V" = some ⟨[(.array .byte), (.object "java/nio/charset/Charset")], none⟩ := by decide +kernel
abbrev w_11 (hw : HW a0 Z) := hw _ (List.mem_of_getElem? (i := 11) rfl)
theorem I2 (hw : HW a0 Z) : IC Z a0 Y2 C2 3 2 := ⟨(w_11 hw), rfl, ⟨⟨_, Or.inl rfl⟩, (w_12 hw), (w_7 hw), by decide, _, _, pd_ABLjava_nio_charset_Charset_r_V, rfl⟩⟩
theorem D1_11 : Dc J1 11 .areturn 1 12 := by decide +kernel
theorem pn_Utf8 : plainName "com/example/sparsewrite/sparsewrite/cli/Utf8" = true := by first | (simp [plainName, overriddenIn]; done) | decide +kernel
theorem PN1 : plainFor Y1 = true := plainFor_of_name pn_Utf8
theorem R_Utf8_decodeName_2 {a1 w_U8 : Addr} {p2 p3 w_CS : Int32} {w_SF : Value} (hw : HW a0 Z) (pr1 : TS_U8 Z w_U8) (pr2 : Ary Z h0 a1 ATB 2 (lv [.int p2, .int p3])) (pr3 : ¬ (w_CS = 0)) (pr4 : p2 < 0) (pr5 : (p2 &&& 254) = 194) (pr6 : ¬ (p3 < (-64))) (pr7 : (p2 >>> ((5 : Int32) &&& 31)) = (-2)) (pr8 : ¬ ((p2 &&& 30) = 0)) (pr9 : ¬ ((p3 &&& 192) = 128)) (pr10 : ¬ (p3 < 0)) (pr11 : w_SF.isRef = true) (pr12 : Obj Z Z.heap w_U8 L_UTF_8 []) (pr13 : TS_UI Z w_U8) (pr14 : TS_CS Z w_CS) (pr15 : TS_SF Z w_SF) (pr16 : TS_AD Z) (pr17 : TS_HI Z) (pr18 : TS_LO Z) : Mt false [] l Y1 C1 (rmk 7 3 10 113) #[.ref a1] Z a0 h0 n0 (KpV h0 [] fun v h => ∃ b1 b2_3_2_2 : Addr, v = (.ref b1) ∧ h0.size ≤ b1 ∧ h0.size ≤ b2_3_2_2 ∧ b2_3_2_2 ≠ b1 ∧ Obj Z h b1 L_String [.ref b2_3_2_2, .int 1] ∧ Ary Z h b2_3_2_2 ATB 4 (lv [.int (-3), .int (-1), .int (((p3.toUInt32.toUInt16.toUInt32.toInt32) >>> ((0 : Int32) &&& 31)).toInt8.toInt32), .int (((p3.toUInt32.toUInt16.toUInt32.toInt32) >>> ((8 : Int32) &&& 31)).toInt8.toInt32)])) := by
  refine Mt.go PN1 (Or.inl rfl) ef_R_1 fun k => ?_
  have nz := k.n0le
  have z1 := k.sz
  obtain ⟨b1, h1, g1, K1, O1, k⟩ := k.new (w_5 hw) (nw_String hw) D1_0 (by decide) dvL_String
  replace k := k |>.dup D1_3 rfl |>.aloadN D1_4 rfl rfl |>.getS (fl_8 hw) pr1 D1_5
  have s_b1 := Nat.le_trans z1 g1
  have n_b1 := Nat.le_trans nz s_b1
  have o3 := pr2.keep K1 nin0
  have z2 := k.sz
  obtain ⟨h2, K2, ⟨b2_3_2_2, f2_0, f2_1, f2_2⟩, k⟩ := (k.callI (w_10 hw) (I2 hw) (R_String__init__3 hw pr12 o3 pr3 pr4 pr5 pr6 pr7 pr8 pr9 pr10 O1 n_b1 pr11 pr13 pr14 pr15 pr16 pr17 pr18) D1_8 1 rfl).k0 (allS n_b1 all0)
  have s_b2_3_2_2 := Nat.le_trans z2 f2_0
  exact k.retA D1_11 rfl ⟨_, rfl, (K1.trans K2 (allS (Or.inr s_b1) all0)), b1, b2_3_2_2, rfl, s_b1, s_b2_3_2_2, (nlt' O1.lt f2_0), f2_1, f2_2⟩
abbrev w_1 (hw : HW a0 Z) := hw _ (List.mem_of_getElem? (i := 1) rfl)
abbrev w_4 (hw : HW a0 Z) := hw _ (List.mem_of_getElem? (i := 4) rfl)
abbrev w_3 (hw : HW a0 Z) := hw _ (List.mem_of_getElem? (i := 3) rfl)
theorem pd_AB_r_Ljava_lang_String : parseMethodDescriptor "([B)Ljava/lang/String;" = some ⟨[(.array .byte)], some (.object "java/lang/String")⟩ := by decide +kernel
abbrev w_2 (hw : HW a0 Z) := hw _ (List.mem_of_getElem? (i := 2) rfl)
theorem S1 (hw : HW a0 Z) : SC Z a0 Y1 C1 1 (some (.object "java/lang/String")) 1 := ⟨(w_2 hw), ⟨⟨_, Or.inl rfl⟩, (w_4 hw), (w_3 hw), by decide, _, _, pd_AB_r_Ljava_lang_String, rfl⟩⟩
theorem D0_62 : Dc code 62 (.astore 6) 2 64 := ⟨at_62, rfl⟩
theorem D0_64 : Dc code 64 (.aload 6) 2 66 := ⟨at_64, rfl⟩
theorem D0_66 : Dc code 66 (.invokevirtual 24) 3 69 := ⟨at_66, rfl⟩
abbrev Y18 : MethodName := ⟨"java/lang/String", "length", "()I"⟩
abbrev J18 := jdk_42_method_54_code
abbrev C18 : Cond := .code Y18 J18 1 (some .int)
theorem D18_0 : Dc J18 0 (.aload_n 0) 1 1 := by decide +kernel
theorem D18_1 : Dc J18 1 (.getfield 9) 3 4 := by decide +kernel
theorem D18_4 : Dc J18 4 .arraylength 1 5 := by decide +kernel
theorem D18_5 : Dc J18 5 (.aload_n 0) 1 6 := by decide +kernel
theorem D18_6 : Dc J18 6 (.invokevirtual 335) 3 9 := by decide +kernel
abbrev Y19 : MethodName := ⟨"java/lang/String", "coder", "()B"⟩
abbrev J19 := jdk_42_method_152_code
abbrev C19 : Cond := .code Y19 J19 1 (some .byte)
theorem D19_0 : Dc J19 0 (.getstatic 38) 3 3 := by decide +kernel
theorem D19_3 : Dj J19 3 (.ifCond .eq 10) 10 6 13 := by decide +kernel
theorem D19_6 : Dc J19 6 (.aload_n 0) 1 7 := by decide +kernel
theorem D19_7 : Dc J19 7 (.getfield 15) 3 10 := by decide +kernel
theorem D19_10 : Dj J19 10 (.goto 4) 4 13 14 := by decide +kernel
theorem D19_14 : Dc J19 14 .ireturn 1 15 := by decide +kernel
theorem PN19 : plainFor Y19 = true := plainFor_of_name pn_String
theorem R_String_coder_1 {a1 a2 : Addr} {w_CS : Int32} (hw : HW a0 Z) (pr1 : TS_CS Z w_CS) (pr2 : ¬ (w_CS = 0)) (pr3 : Obj Z h0 a1 L_String [.ref a2, .int 1]) : Mt false [] l Y19 C19 (rmk 0 0 0 0) #[.ref a1] Z a0 h0 n0 (Pv h0 (.int 1)) := by
  refine Mt.go PN19 (Or.inl rfl) ef_R_1 fun k => ?_
  replace k := k |>.getS (fl_48 hw) pr1 D19_0 |>.ifNo D19_3 ((if0 _ _).trans (feq pr2).1) |>.aloadN D19_6 rfl rfl |>.getF (fl_32 hw) pr3 1 D19_7 rfl rfl |>.goto D19_10
  exact k.retN (t := .byte) D19_14 rfl (by simp) (z' := 1) (by decide) ⟨rfl, rfl⟩
abbrev w_72 (hw : HW a0 Z) := hw _ (List.mem_of_getElem? (i := 72) rfl)
abbrev w_76 (hw : HW a0 Z) := hw _ (List.mem_of_getElem? (i := 76) rfl)
theorem pd__r_B : parseMethodDescriptor "()B" = some ⟨[], some .byte⟩ := by decide +kernel
abbrev w_75 (hw : HW a0 Z) := hw _ (List.mem_of_getElem? (i := 75) rfl)
abbrev w_74 (hw : HW a0 Z) := hw _ (List.mem_of_getElem? (i := 74) rfl)
abbrev w_73 (hw : HW a0 Z) := hw _ (List.mem_of_getElem? (i := 73) rfl)
theorem V_Y19_19_String (hw : HW a0 Z) : VC Z a0 Y19 Y19 "java/lang/String" C19 1 (some .byte) 0 := ⟨(w_73 hw), fun s hZ => notFace_of_selects (args := #[]) (mvT hZ (w_75 hw)), (w_75 hw), (w_74 hw), by decide, rfl, ⟨⟨_, Or.inl rfl⟩, (w_76 hw), (w_7 hw), by decide, _, _, pd__r_B, rfl⟩⟩
theorem D18_9 : Dc J18 9 .ishr 1 10 := by decide +kernel
theorem D18_10 : Dc J18 10 .ireturn 1 11 := by decide +kernel
theorem PN18 : plainFor Y18 = true := plainFor_of_name pn_String
theorem R_String_length_1 {a1 a2 : Addr} {p3 p4 w_CS : Int32} (hw : HW a0 Z) (pr1 : Obj Z h0 a1 L_String [.ref a2, .int 1]) (pr2 : Ary Z h0 a2 ATB 4 (lv [.int (-3), .int (-1), .int p3, .int p4])) (pr3 : ¬ (w_CS = 0)) (pr4 : TS_CS Z w_CS) : Mt false [] l Y18 C18 (rmk 1 0 0 13) #[.ref a1] Z a0 h0 n0 (Pv h0 (.int 2)) := by
  refine Mt.go PN18 (Or.inl rfl) ef_R_1 fun k => ?_
  replace k := k |>.aloadN D18_0 rfl rfl |>.getF (fl_31 hw) pr1 0 D18_1 rfl rfl |>.alen pr2 D18_4 (z := 4) (by decide) |>.aloadN D18_5 rfl rfl
  replace k := (k.callV (w_72 hw) (V_Y19_19_String hw) pr1.exa (R_String_coder_1 hw pr4 pr3 pr1) D18_6 1 rfl).pv
  replace k := k |>.ishr D18_9 (z := 2) (by decide)
  exact k.retI D18_10 rfl ⟨rfl, rfl⟩
abbrev w_67 (hw : HW a0 Z) := hw _ (List.mem_of_getElem? (i := 67) rfl)
abbrev w_71 (hw : HW a0 Z) := hw _ (List.mem_of_getElem? (i := 71) rfl)
theorem pd__r_I : parseMethodDescriptor "()I" = some ⟨[], some .int⟩ := by decide +kernel
abbrev w_70 (hw : HW a0 Z) := hw _ (List.mem_of_getElem? (i := 70) rfl)
abbrev w_69 (hw : HW a0 Z) := hw _ (List.mem_of_getElem? (i := 69) rfl)
abbrev w_68 (hw : HW a0 Z) := hw _ (List.mem_of_getElem? (i := 68) rfl)
theorem V_Y18_18_String (hw : HW a0 Z) : VC Z a0 Y18 Y18 "java/lang/String" C18 1 (some .int) 0 := ⟨(w_68 hw), fun s hZ => notFace_of_selects (args := #[]) (mvT hZ (w_70 hw)), (w_70 hw), (w_69 hw), by decide, rfl, ⟨⟨_, Or.inl rfl⟩, (w_71 hw), (w_7 hw), by decide, _, _, pd__r_I, rfl⟩⟩
theorem D0_69 : Dc code 69 (.iconst 2) 1 70 := ⟨at_69, rfl⟩
theorem D0_70 : Dj code 70 (.if_icmp .ne 29) 29 73 99 := ⟨at_70, rfl, by decide, by decide⟩
theorem D0_73 : Dc code 73 (.aload 6) 2 75 := ⟨at_73, rfl⟩
theorem D0_75 : Dc code 75 (.iconst 0) 1 76 := ⟨at_75, rfl⟩
theorem D0_76 : Dc code 76 (.invokevirtual 28) 3 79 := ⟨at_76, rfl⟩
abbrev Y20 : MethodName := ⟨"java/lang/String", "charAt", "(I)C"⟩
abbrev J20 := jdk_42_method_56_code
abbrev C20 : Cond := .code Y20 J20 2 (some .char)
theorem D20_0 : Dc J20 0 (.aload_n 0) 1 1 := by decide +kernel
theorem D20_1 : Dc J20 1 (.invokevirtual 492) 3 4 := by decide +kernel
abbrev Y21 : MethodName := ⟨"java/lang/String", "isLatin1", "()Z"⟩
abbrev J21 := jdk_42_method_154_code
abbrev C21 : Cond := .code Y21 J21 1 (some .boolean)
theorem D21_0 : Dc J21 0 (.getstatic 38) 3 3 := by decide +kernel
theorem D21_3 : Dj J21 3 (.ifCond .eq 14) 14 6 17 := by decide +kernel
theorem D21_6 : Dc J21 6 (.aload_n 0) 1 7 := by decide +kernel
theorem D21_7 : Dc J21 7 (.getfield 15) 3 10 := by decide +kernel
theorem D21_10 : Dj J21 10 (.ifCond .ne 7) 7 13 17 := by decide +kernel
theorem D21_17 : Dc J21 17 (.iconst 0) 1 18 := by decide +kernel
theorem D21_18 : Dc J21 18 .ireturn 1 19 := by decide +kernel
theorem PN21 : plainFor Y21 = true := plainFor_of_name pn_String
theorem R_String_isLatin1_1 {a1 a2 : Addr} {w_CS : Int32} (hw : HW a0 Z) (pr1 : TS_CS Z w_CS) (pr2 : ¬ (w_CS = 0)) (pr3 : Obj Z h0 a1 L_String [.ref a2, .int 1]) : Mt false [] l Y21 C21 (rmk 0 0 0 0) #[.ref a1] Z a0 h0 n0 (Pv h0 (.int 0)) := by
  refine Mt.go PN21 (Or.inl rfl) ef_R_1 fun k => ?_
  replace k := k |>.getS (fl_48 hw) pr1 D21_0 |>.ifNo D21_3 ((if0 _ _).trans (feq pr2).1) |>.aloadN D21_6 rfl rfl |>.getF (fl_32 hw) pr3 1 D21_7 rfl rfl |>.ifYes D21_10 (by decide) |>.iconst D21_17 0
  exact k.retN (t := .boolean) D21_18 rfl (by simp) (z' := 0) (by decide) ⟨rfl, rfl⟩
abbrev w_82 (hw : HW a0 Z) := hw _ (List.mem_of_getElem? (i := 82) rfl)
abbrev w_86 (hw : HW a0 Z) := hw _ (List.mem_of_getElem? (i := 86) rfl)
theorem pd__r_Z : parseMethodDescriptor "()Z" = some ⟨[], some .boolean⟩ := by decide +kernel
abbrev w_85 (hw : HW a0 Z) := hw _ (List.mem_of_getElem? (i := 85) rfl)
abbrev w_84 (hw : HW a0 Z) := hw _ (List.mem_of_getElem? (i := 84) rfl)
abbrev w_83 (hw : HW a0 Z) := hw _ (List.mem_of_getElem? (i := 83) rfl)
theorem V_Y21_21_String (hw : HW a0 Z) : VC Z a0 Y21 Y21 "java/lang/String" C21 1 (some .boolean) 0 := ⟨(w_83 hw), fun s hZ => notFace_of_selects (args := #[]) (mvT hZ (w_85 hw)), (w_85 hw), (w_84 hw), by decide, rfl, ⟨⟨_, Or.inl rfl⟩, (w_86 hw), (w_7 hw), by decide, _, _, pd__r_Z, rfl⟩⟩
theorem D20_4 : Dj J20 4 (.ifCond .eq 12) 12 7 16 := by decide +kernel
theorem D20_16 : Dc J20 16 (.aload_n 0) 1 17 := by decide +kernel
theorem D20_17 : Dc J20 17 (.getfield 9) 3 20 := by decide +kernel
theorem D20_20 : Dc J20 20 (.iload_n 1) 1 21 := by decide +kernel
theorem D20_21 : Dc J20 21 (.invokestatic 498) 3 24 := by decide +kernel
abbrev Y22 : MethodName := ⟨"java/lang/StringUTF16", "charAt", "([BI)C"⟩
abbrev J22 := jdk_52_method_83_code
abbrev C22 : Cond := .code Y22 J22 2 (some .char)
theorem D22_0 : Dc J22 0 (.iload_n 1) 1 1 := by decide +kernel
theorem D22_1 : Dc J22 1 (.aload_n 0) 1 2 := by decide +kernel
theorem D22_2 : Dc J22 2 (.invokestatic 67) 3 5 := by decide +kernel
abbrev Y23 : MethodName := ⟨"java/lang/StringUTF16", "checkIndex", "(I[B)V"⟩
abbrev J23 := jdk_52_method_91_code
abbrev C23 : Cond := .code Y23 J23 2 none
theorem D23_0 : Dc J23 0 (.iload_n 0) 1 1 := by decide +kernel
theorem D23_1 : Dc J23 1 (.aload_n 1) 1 2 := by decide +kernel
theorem D23_2 : Dc J23 2 (.invokestatic 48) 3 5 := by decide +kernel
theorem R_StringUTF16_length_2 {a1 : Addr} {p2 p3 : Int32} (hw : HW a0 Z) (pr1 : Ary Z h0 a1 ATB 4 (lv [.int (-3), .int (-1), .int p2, .int p3])) : Mt false [] l Y12 C12 (rmk 0 0 0 0) #[.ref a1] Z a0 h0 n0 (Pv h0 (.int 2)) := by
  refine Mt.go PN12 (Or.inl rfl) ef_R_1 fun k => ?_
  replace k := k |>.aloadN D12_0 rfl rfl |>.alen pr1 D12_1 (z := 4) (by decide) |>.iconst D12_2 1 |>.ishr D12_3 (z := 2) (by decide)
  exact k.retI D12_4 rfl ⟨rfl, rfl⟩
theorem D23_5 : Dc J23 5 (.invokestatic 414) 3 8 := by decide +kernel
abbrev Y24 : MethodName := ⟨"java/lang/String", "checkIndex", "(II)V"⟩
abbrev J24 := jdk_42_method_155_code
abbrev C24 : Cond := .code Y24 J24 2 none
theorem D24_0 : Dc J24 0 (.iload_n 0) 1 1 := by decide +kernel
theorem D24_1 : Dc J24 1 (.iload_n 1) 1 2 := by decide +kernel
theorem D24_2 : Dc J24 2 (.getstatic 1053) 3 5 := by decide +kernel
theorem D24_5 : Dc J24 5 (.invokestatic 1059) 3 8 := by decide +kernel
abbrev Y25 : MethodName := ⟨"jdk/internal/util/Preconditions", "checkIndex", "(IILjava/util/function/BiFunction;)I"⟩
abbrev J25 := jdk_41_method_11_code
abbrev C25 : Cond := .code Y25 J25 3 (some .int)
theorem D25_0 : Dc J25 0 (.iload_n 0) 1 1 := by decide +kernel
theorem D25_1 : Dj J25 1 (.ifCond .lt 8) 8 4 9 := by decide +kernel
theorem D25_4 : Dc J25 4 (.iload_n 0) 1 5 := by decide +kernel
theorem D25_5 : Dc J25 5 (.iload_n 1) 1 6 := by decide +kernel
theorem D25_6 : Dj J25 6 (.if_icmp .lt 10) 10 9 16 := by decide +kernel
theorem D25_16 : Dc J25 16 (.iload_n 0) 1 17 := by decide +kernel
theorem D25_17 : Dc J25 17 .ireturn 1 18 := by decide +kernel
theorem PN25 : plainFor Y25 = true := plainFor_of_name pn_Preconditions
theorem ef_IIV_3_0_2 {x2 : Value} (r2 : x2.isRef = true) (m : MethodId) : entryFrame m #[(.int 0), (.int 2), x2] 3 = mkF m 0 #[.val (.int 0), .val (.int 2), .val x2] [] := by
  rcases ref_cases r2 with rfl | ⟨_, rfl⟩
  all_goals
  first | (simp [entryFrame, mkF, argsToLocals, Value.category]; done) | rfl
theorem R_Preconditions_checkIndex_1 {w_SF : Value} (hw : HW a0 Z) (pr1 : w_SF.isRef = true) : Mt false [] l Y25 C25 (rmk 0 0 0 0) #[.int 0, .int 2, w_SF] Z a0 h0 n0 (Pv h0 (.int 0)) := by
  refine Mt.go PN25 (Or.inl rfl) (ef_IIV_3_0_2 pr1) fun k => ?_
  replace k := k |>.iloadN D25_0 rfl |>.ifNo D25_1 (by decide) |>.iloadN D25_4 rfl |>.iloadN D25_5 rfl |>.icmpYes D25_6 (by decide) |>.iloadN D25_16 rfl
  exact k.retI D25_17 rfl ⟨rfl, rfl⟩
abbrev w_96 (hw : HW a0 Z) := hw _ (List.mem_of_getElem? (i := 96) rfl)
abbrev w_98 (hw : HW a0 Z) := hw _ (List.mem_of_getElem? (i := 98) rfl)
theorem pd_IILjava_util_function_BiFunction_r_I : parseMethodDescriptor "(IILjava/util/function/BiFunction;)I" = some ⟨[.int, .int, (.object "java/util/function/BiFunction")], some .int⟩ := by decide +kernel
abbrev w_97 (hw : HW a0 Z) := hw _ (List.mem_of_getElem? (i := 97) rfl)
theorem S25 (hw : HW a0 Z) : SC Z a0 Y25 C25 3 (some .int) 3 := ⟨(w_97 hw), ⟨⟨_, Or.inl rfl⟩, (w_98 hw), (w_95 hw), by decide, _, _, pd_IILjava_util_function_BiFunction_r_I, rfl⟩⟩
theorem D24_8 : Dc J24 8 .pop 1 9 := by decide +kernel
theorem D24_9 : Dc J24 9 .return_ 1 10 := by decide +kernel
theorem PN24 : plainFor Y24 = true := plainFor_of_name pn_String
theorem ef_II_2_0_2   (m : MethodId) : entryFrame m #[(.int 0), (.int 2)] 2 = mkF m 0 #[.val (.int 0), .val (.int 2)] [] := by
  first | (simp [entryFrame, mkF, argsToLocals, Value.category]; done) | rfl
theorem R_String_checkIndex_1 {w_SF : Value} (hw : HW a0 Z) (pr1 : w_SF.isRef = true) (pr2 : TS_SF Z w_SF) : Mt false [] l Y24 C24 (rmk 1 0 0 14) #[.int 0, .int 2] Z a0 h0 n0 (P0 h0) := by
  refine Mt.go PN24 (Or.inl rfl) ef_II_2_0_2 fun k => ?_
  replace k := k |>.iloadN D24_0 rfl |>.iloadN D24_1 rfl |>.getS (fl_94 hw) pr2 D24_2
  replace k := (k.callS (w_96 hw) (S25 hw) (R_Preconditions_checkIndex_1 hw pr1) D24_5 0 rfl).pv
  replace k := k |>.pop D24_8 rfl
  exact k.ret0 D24_9 rfl ⟨rfl, rfl⟩
abbrev w_173 (hw : HW a0 Z) := hw _ (List.mem_of_getElem? (i := 173) rfl)
abbrev w_93 (hw : HW a0 Z) := hw _ (List.mem_of_getElem? (i := 93) rfl)
theorem pd_II_r_V : parseMethodDescriptor "(II)V" = some ⟨[.int, .int], none⟩ := by decide +kernel
abbrev w_92 (hw : HW a0 Z) := hw _ (List.mem_of_getElem? (i := 92) rfl)
theorem S24 (hw : HW a0 Z) : SC Z a0 Y24 C24 2 none 2 := ⟨(w_92 hw), ⟨⟨_, Or.inl rfl⟩, (w_93 hw), (w_7 hw), by decide, _, _, pd_II_r_V, rfl⟩⟩
theorem D23_8 : Dc J23 8 .return_ 1 9 := by decide +kernel
theorem PN23 : plainFor Y23 = true := plainFor_of_name pn_StringUTF16
theorem ef_IR_2_0 {x1 : Addr}  (m : MethodId) : entryFrame m #[(.int 0), (.ref x1)] 2 = mkF m 0 #[.val (.int 0), .val (.ref x1)] [] := by
  first | (simp [entryFrame, mkF, argsToLocals, Value.category]; done) | rfl
theorem R_StringUTF16_checkIndex_1 {a1 : Addr} {p2 p3 : Int32} {w_SF : Value} (hw : HW a0 Z) (pr1 : Ary Z h0 a1 ATB 4 (lv [.int (-3), .int (-1), .int p2, .int p3])) (pr2 : w_SF.isRef = true) (pr3 : TS_SF Z w_SF) : Mt false [] l Y23 C23 (rmk 2 0 0 27) #[.int 0, .ref a1] Z a0 h0 n0 (P0 h0) := by
  refine Mt.go PN23 (Or.inl rfl) ef_IR_2_0 fun k => ?_
  replace k := k |>.iloadN D23_0 rfl |>.aloadN D23_1 rfl rfl
  replace k := (k.callS (w_117 hw) (S12 hw) (R_StringUTF16_length_2 hw pr1) D23_2 1 rfl).pv
  replace k := (k.callS (w_173 hw) (S24 hw) (R_String_checkIndex_1 hw pr2 pr3) D23_5 0 rfl).p0
  exact k.ret0 D23_8 rfl ⟨rfl, rfl⟩
abbrev w_170 (hw : HW a0 Z) := hw _ (List.mem_of_getElem? (i := 170) rfl)
abbrev w_172 (hw : HW a0 Z) := hw _ (List.mem_of_getElem? (i := 172) rfl)
theorem pd_IAB_r_V : parseMethodDescriptor "(I[B)V" = some ⟨[.int, (.array .byte)], none⟩ := by decide +kernel
abbrev w_171 (hw : HW a0 Z) := hw _ (List.mem_of_getElem? (i := 171) rfl)
theorem S23 (hw : HW a0 Z) : SC Z a0 Y23 C23 2 none 2 := ⟨(w_171 hw), ⟨⟨_, Or.inl rfl⟩, (w_172 hw), (w_102 hw), by decide, _, _, pd_IAB_r_V, rfl⟩⟩
theorem D22_5 : Dc J22 5 (.aload_n 0) 1 6 := by decide +kernel
theorem D22_6 : Dc J22 6 (.iload_n 1) 1 7 := by decide +kernel
theorem D22_7 : Dc J22 7 (.invokestatic 71) 3 10 := by decide +kernel
abbrev Y26 : MethodName := ⟨"java/lang/StringUTF16", "getChar", "([BI)C"⟩
abbrev J26 := jdk_52_method_5_code
abbrev C26 : Cond := .code Y26 J26 2 (some .char)
theorem D26_0 : Dc J26 0 (.getstatic 44) 3 3 := by decide +kernel
theorem D26_3 : Dj J26 3 (.ifCond .ne 25) 25 6 28 := by decide +kernel
theorem D26_28 : Dc J26 28 (.iload_n 1) 1 29 := by decide +kernel
theorem D26_29 : Dc J26 29 (.iconst 1) 1 30 := by decide +kernel
theorem D26_30 : Dc J26 30 .ishl 1 31 := by decide +kernel
theorem D26_31 : Dc J26 31 (.istore_n 1) 1 32 := by decide +kernel
theorem D26_32 : Dc J26 32 (.aload_n 0) 1 33 := by decide +kernel
theorem D26_33 : Dc J26 33 (.iload_n 1) 1 34 := by decide +kernel
theorem D26_34 : Dc J26 34 (.iinc 1 1) 3 37 := by decide +kernel
theorem D26_37 : Dc J26 37 .baload 1 38 := by decide +kernel
theorem D26_38 : Dc J26 38 (.sipush 255) 3 41 := by decide +kernel
theorem D26_41 : Dc J26 41 .iand 1 42 := by decide +kernel
theorem D26_42 : Dc J26 42 (.getstatic 59) 3 45 := by decide +kernel
theorem D26_45 : Dc J26 45 .ishl 1 46 := by decide +kernel
theorem D26_46 : Dc J26 46 (.aload_n 0) 1 47 := by decide +kernel
theorem D26_47 : Dc J26 47 (.iload_n 1) 1 48 := by decide +kernel
theorem D26_48 : Dc J26 48 .baload 1 49 := by decide +kernel
theorem D26_49 : Dc J26 49 (.sipush 255) 3 52 := by decide +kernel
theorem D26_52 : Dc J26 52 .iand 1 53 := by decide +kernel
theorem D26_53 : Dc J26 53 (.getstatic 63) 3 56 := by decide +kernel
theorem D26_56 : Dc J26 56 .ishl 1 57 := by decide +kernel
theorem D26_57 : Dc J26 57 .ior 1 58 := by decide +kernel
theorem D26_58 : Dc J26 58 .i2c 1 59 := by decide +kernel
theorem D26_59 : Dc J26 59 .ireturn 1 60 := by decide +kernel
theorem PN26 : plainFor Y26 = true := plainFor_of_name pn_StringUTF16
theorem ef_RI_2_0 {x0 : Addr}  (m : MethodId) : entryFrame m #[(.ref x0), (.int 0)] 2 = mkF m 0 #[.val (.ref x0), .val (.int 0)] [] := by
  first | (simp [entryFrame, mkF, argsToLocals, Value.category]; done) | rfl
theorem R_StringUTF16_getChar_1 {a1 : Addr} {p2 p3 : Int32} (hw : HW a0 Z) (pr1 : TS_AD Z) (pr2 : Ary Z h0 a1 ATB 4 (lv [.int (-3), .int (-1), .int p2, .int p3])) (pr3 : TS_HI Z) (pr4 : TS_LO Z) : Mt false [] l Y26 C26 (rmk 0 0 0 0) #[.ref a1, .int 0] Z a0 h0 n0 (Pv h0 (.int 65533)) := by
  refine Mt.go PN26 (Or.inl rfl) ef_RI_2_0 fun k => ?_
  replace k := k |>.getS (fl_149 hw) pr1 D26_0 |>.ifYes D26_3 (by decide) |>.iloadN D26_28 rfl |>.iconst D26_29 1 |>.ishl D26_30 (z := 0) (by decide) |>.istoreN D26_31 sto1 |>.aloadN D26_32 rfl rfl |>.iloadN D26_33 rfl |>.iinc D26_34 rfl (z := 1) (by decide) sto1 |>.bald pr2 D26_37 (i := 0) (by decide) lvg0 |>.sipush D26_38 255 |>.iand D26_41 (z := 253) (by decide)
  replace k := k |>.getS (fl_150 hw) pr3 D26_42 |>.ishl D26_45 (z := 253) (by decide) |>.aloadN D26_46 rfl rfl |>.iloadN D26_47 rfl |>.bald pr2 D26_48 (i := 1) (by decide) lvg1 |>.sipush D26_49 255 |>.iand D26_52 (z := 255) (by decide) |>.getS (fl_151 hw) pr4 D26_53 |>.ishl D26_56 (z := 65280) (by decide) |>.ior D26_57 (z := 65533) (by decide) |>.i2c D26_58 (z := 65533) (by decide)
  exact k.retN (t := .char) D26_59 rfl (by simp) (z' := 65533) (by decide) ⟨rfl, rfl⟩
abbrev w_174 (hw : HW a0 Z) := hw _ (List.mem_of_getElem? (i := 174) rfl)
abbrev w_176 (hw : HW a0 Z) := hw _ (List.mem_of_getElem? (i := 176) rfl)
theorem pd_ABI_r_C : parseMethodDescriptor "([BI)C" = some ⟨[(.array .byte), .int], some .char⟩ := by decide +kernel
abbrev w_175 (hw : HW a0 Z) := hw _ (List.mem_of_getElem? (i := 175) rfl)
theorem S26 (hw : HW a0 Z) : SC Z a0 Y26 C26 2 (some .char) 2 := ⟨(w_175 hw), ⟨⟨_, Or.inl rfl⟩, (w_176 hw), (w_102 hw), by decide, _, _, pd_ABI_r_C, rfl⟩⟩
theorem D22_10 : Dc J22 10 .ireturn 1 11 := by decide +kernel
theorem PN22 : plainFor Y22 = true := plainFor_of_name pn_StringUTF16
theorem R_StringUTF16_charAt_1 {a1 : Addr} {p2 p3 : Int32} {w_SF : Value} (hw : HW a0 Z) (pr1 : Ary Z h0 a1 ATB 4 (lv [.int (-3), .int (-1), .int p2, .int p3])) (pr2 : w_SF.isRef = true) (pr3 : TS_SF Z w_SF) (pr4 : TS_AD Z) (pr5 : TS_HI Z) (pr6 : TS_LO Z) : Mt false [] l Y22 C22 (rmk 3 0 0 40) #[.ref a1, .int 0] Z a0 h0 n0 (Pv h0 (.int 65533)) := by
  refine Mt.go PN22 (Or.inl rfl) ef_RI_2_0 fun k => ?_
  replace k := k |>.iloadN D22_0 rfl |>.aloadN D22_1 rfl rfl
  replace k := (k.callS (w_170 hw) (S23 hw) (R_StringUTF16_checkIndex_1 hw pr1 pr2 pr3) D22_2 0 rfl).p0
  replace k := k |>.aloadN D22_5 rfl rfl |>.iloadN D22_6 rfl
  replace k := (k.callS (w_174 hw) (S26 hw) (R_StringUTF16_getChar_1 hw pr4 pr1 pr5 pr6) D22_7 0 rfl).pv
  exact k.retN (t := .char) D22_10 rfl (by simp) (z' := 65533) (by decide) ⟨rfl, rfl⟩
abbrev w_167 (hw : HW a0 Z) := hw _ (List.mem_of_getElem? (i := 167) rfl)
abbrev w_169 (hw : HW a0 Z) := hw _ (List.mem_of_getElem? (i := 169) rfl)
abbrev w_168 (hw : HW a0 Z) := hw _ (List.mem_of_getElem? (i := 168) rfl)
theorem S22 (hw : HW a0 Z) : SC Z a0 Y22 C22 2 (some .char) 2 := ⟨(w_168 hw), ⟨⟨_, Or.inl rfl⟩, (w_169 hw), (w_102 hw), by decide, _, _, pd_ABI_r_C, rfl⟩⟩
theorem D20_24 : Dc J20 24 .ireturn 1 25 := by decide +kernel
theorem PN20 : plainFor Y20 = true := plainFor_of_name pn_String
theorem R_String_charAt_1 {a1 a2 : Addr} {w_CS p3 p4 : Int32} {w_SF : Value} (hw : HW a0 Z) (pr1 : Obj Z h0 a1 L_String [.ref a2, .int 1]) (pr2 : ¬ (w_CS = 0)) (pr3 : TS_CS Z w_CS) (pr4 : Ary Z h0 a2 ATB 4 (lv [.int (-3), .int (-1), .int p3, .int p4])) (pr5 : w_SF.isRef = true) (pr6 : TS_SF Z w_SF) (pr7 : TS_AD Z) (pr8 : TS_HI Z) (pr9 : TS_LO Z) : Mt false [] l Y20 C20 (rmk 4 0 0 53) #[.ref a1, .int 0] Z a0 h0 n0 (Pv h0 (.int 65533)) := by
  refine Mt.go PN20 (Or.inl rfl) ef_RI_2_0 fun k => ?_
  replace k := k |>.aloadN D20_0 rfl rfl
  replace k := (k.callV (w_82 hw) (V_Y21_21_String hw) pr1.exa (R_String_isLatin1_1 hw pr3 pr2 pr1) D20_1 0 rfl).pv
  replace k := k |>.ifYes D20_4 (by decide) |>.aloadN D20_16 rfl rfl |>.getF (fl_31 hw) pr1 0 D20_17 rfl rfl |>.iloadN D20_20 rfl
  replace k := (k.callS (w_167 hw) (S22 hw) (R_StringUTF16_charAt_1 hw pr4 pr5 pr6 pr7 pr8 pr9) D20_21 0 rfl).pv
  exact k.retN (t := .char) D20_24 rfl (by simp) (z' := 65533) (by decide) ⟨rfl, rfl⟩
abbrev w_77 (hw : HW a0 Z) := hw _ (List.mem_of_getElem? (i := 77) rfl)
abbrev w_81 (hw : HW a0 Z) := hw _ (List.mem_of_getElem? (i := 81) rfl)
theorem pd_I_r_C : parseMethodDescriptor "(I)C" = some ⟨[.int], some .char⟩ := by decide +kernel
abbrev w_80 (hw : HW a0 Z) := hw _ (List.mem_of_getElem? (i := 80) rfl)
abbrev w_79 (hw : HW a0 Z) := hw _ (List.mem_of_getElem? (i := 79) rfl)
abbrev w_78 (hw : HW a0 Z) := hw _ (List.mem_of_getElem? (i := 78) rfl)
theorem V_Y20_20_String (hw : HW a0 Z) : VC Z a0 Y20 Y20 "java/lang/String" C20 2 (some .char) 1 := ⟨(w_78 hw), fun s hZ => notFace_of_selects (args := #[]) (mvT hZ (w_80 hw)), (w_80 hw), (w_79 hw), by decide, rfl, ⟨⟨_, Or.inl rfl⟩, (w_81 hw), (w_7 hw), by decide, _, _, pd_I_r_C, rfl⟩⟩
theorem D0_79 : Dc code 79 (.ldc 32) 2 81 := ⟨at_79, rfl⟩
abbrev w_180 (hw : HW a0 Z) := hw _ (List.mem_of_getElem? (i := 180) rfl)
theorem D0_81 : Dj code 81 (.if_icmp .ne 18) 18 84 99 := ⟨at_81, rfl, by decide, by decide⟩
theorem D0_84 : Dc code 84 (.aload 6) 2 86 := ⟨at_84, rfl⟩
theorem D0_86 : Dc code 86 (.iconst 1) 1 87 := ⟨at_86, rfl⟩
theorem D0_87 : Dc code 87 (.invokevirtual 28) 3 90 := ⟨at_87, rfl⟩
theorem ef_IIV_3_1_2 {x2 : Value} (r2 : x2.isRef = true) (m : MethodId) : entryFrame m #[(.int 1), (.int 2), x2] 3 = mkF m 0 #[.val (.int 1), .val (.int 2), .val x2] [] := by
  rcases ref_cases r2 with rfl | ⟨_, rfl⟩
  all_goals
  first | (simp [entryFrame, mkF, argsToLocals, Value.category]; done) | rfl
theorem R_Preconditions_checkIndex_2 {w_SF : Value} (hw : HW a0 Z) (pr1 : w_SF.isRef = true) : Mt false [] l Y25 C25 (rmk 0 0 0 0) #[.int 1, .int 2, w_SF] Z a0 h0 n0 (Pv h0 (.int 1)) := by
  refine Mt.go PN25 (Or.inl rfl) (ef_IIV_3_1_2 pr1) fun k => ?_
  replace k := k |>.iloadN D25_0 rfl |>.ifNo D25_1 (by decide) |>.iloadN D25_4 rfl |>.iloadN D25_5 rfl |>.icmpYes D25_6 (by decide) |>.iloadN D25_16 rfl
  exact k.retI D25_17 rfl ⟨rfl, rfl⟩
theorem ef_II_2_1_2   (m : MethodId) : entryFrame m #[(.int 1), (.int 2)] 2 = mkF m 0 #[.val (.int 1), .val (.int 2)] [] := by
  first | (simp [entryFrame, mkF, argsToLocals, Value.category]; done) | rfl
theorem R_String_checkIndex_2 {w_SF : Value} (hw : HW a0 Z) (pr1 : w_SF.isRef = true) (pr2 : TS_SF Z w_SF) : Mt false [] l Y24 C24 (rmk 1 0 0 14) #[.int 1, .int 2] Z a0 h0 n0 (P0 h0) := by
  refine Mt.go PN24 (Or.inl rfl) ef_II_2_1_2 fun k => ?_
  replace k := k |>.iloadN D24_0 rfl |>.iloadN D24_1 rfl |>.getS (fl_94 hw) pr2 D24_2
  replace k := (k.callS (w_96 hw) (S25 hw) (R_Preconditions_checkIndex_2 hw pr1) D24_5 0 rfl).pv
  replace k := k |>.pop D24_8 rfl
  exact k.ret0 D24_9 rfl ⟨rfl, rfl⟩
theorem ef_IR_2_1 {x1 : Addr}  (m : MethodId) : entryFrame m #[(.int 1), (.ref x1)] 2 = mkF m 0 #[.val (.int 1), .val (.ref x1)] [] := by
  first | (simp [entryFrame, mkF, argsToLocals, Value.category]; done) | rfl
theorem R_StringUTF16_checkIndex_2 {a1 : Addr} {p2 p3 : Int32} {w_SF : Value} (hw : HW a0 Z) (pr1 : Ary Z h0 a1 ATB 4 (lv [.int (-3), .int (-1), .int p2, .int p3])) (pr2 : w_SF.isRef = true) (pr3 : TS_SF Z w_SF) : Mt false [] l Y23 C23 (rmk 2 0 0 27) #[.int 1, .ref a1] Z a0 h0 n0 (P0 h0) := by
  refine Mt.go PN23 (Or.inl rfl) ef_IR_2_1 fun k => ?_
  replace k := k |>.iloadN D23_0 rfl |>.aloadN D23_1 rfl rfl
  replace k := (k.callS (w_117 hw) (S12 hw) (R_StringUTF16_length_2 hw pr1) D23_2 1 rfl).pv
  replace k := (k.callS (w_173 hw) (S24 hw) (R_String_checkIndex_2 hw pr2 pr3) D23_5 0 rfl).p0
  exact k.ret0 D23_8 rfl ⟨rfl, rfl⟩
theorem lvg2 {x0 x1 x : Value} {t : List Value} : lv (x0 :: x1 :: x :: t) 2 = x := rfl
theorem lvg3 {x0 x1 x2 x : Value} {t : List Value} : lv (x0 :: x1 :: x2 :: x :: t) 3 = x := rfl
theorem ef_RI_2_1 {x0 : Addr}  (m : MethodId) : entryFrame m #[(.ref x0), (.int 1)] 2 = mkF m 0 #[.val (.ref x0), .val (.int 1)] [] := by
  first | (simp [entryFrame, mkF, argsToLocals, Value.category]; done) | rfl
theorem R_StringUTF16_getChar_2 {a1 : Addr} {p2 p3 : Int32} (hw : HW a0 Z) (pr1 : TS_AD Z) (pr2 : Ary Z h0 a1 ATB 4 (lv [.int (-3), .int (-1), .int p2, .int p3])) (pr3 : TS_HI Z) (pr4 : TS_LO Z) : Mt false [] l Y26 C26 (rmk 0 0 0 0) #[.ref a1, .int 1] Z a0 h0 n0 (Pv h0 (.int ((((p2 &&& 255) <<< ((0 : Int32) &&& 31)) ||| ((p3 &&& 255) <<< ((8 : Int32) &&& 31))).toUInt32.toUInt16.toUInt32.toInt32))) := by
  refine Mt.go PN26 (Or.inl rfl) ef_RI_2_1 fun k => ?_
  replace k := k |>.getS (fl_149 hw) pr1 D26_0 |>.ifYes D26_3 (by decide) |>.iloadN D26_28 rfl |>.iconst D26_29 1 |>.ishl D26_30 (z := 2) (by decide) |>.istoreN D26_31 sto1 |>.aloadN D26_32 rfl rfl |>.iloadN D26_33 rfl |>.iinc D26_34 rfl (z := 3) (by decide) sto1 |>.bald pr2 D26_37 (i := 2) (by decide) lvg2 |>.sipush D26_38 255 |>.iand D26_41 rfl
  replace k := k |>.getS (fl_150 hw) pr3 D26_42 |>.ishl D26_45 rfl |>.aloadN D26_46 rfl rfl |>.iloadN D26_47 rfl |>.bald pr2 D26_48 (i := 3) (by decide) lvg3 |>.sipush D26_49 255 |>.iand D26_52 rfl |>.getS (fl_151 hw) pr4 D26_53 |>.ishl D26_56 rfl |>.ior D26_57 rfl |>.i2c D26_58 rfl
  exact k.retN (t := .char) D26_59 rfl (by simp) (own_nnCi2c _) ⟨rfl, rfl⟩
theorem R_StringUTF16_charAt_2 {a1 : Addr} {p2 p3 : Int32} {w_SF : Value} (hw : HW a0 Z) (pr1 : Ary Z h0 a1 ATB 4 (lv [.int (-3), .int (-1), .int p2, .int p3])) (pr2 : w_SF.isRef = true) (pr3 : TS_SF Z w_SF) (pr4 : TS_AD Z) (pr5 : TS_HI Z) (pr6 : TS_LO Z) : Mt false [] l Y22 C22 (rmk 3 0 0 40) #[.ref a1, .int 1] Z a0 h0 n0 (Pv h0 (.int ((((p2 &&& 255) <<< ((0 : Int32) &&& 31)) ||| ((p3 &&& 255) <<< ((8 : Int32) &&& 31))).toUInt32.toUInt16.toUInt32.toInt32))) := by
  refine Mt.go PN22 (Or.inl rfl) ef_RI_2_1 fun k => ?_
  replace k := k |>.iloadN D22_0 rfl |>.aloadN D22_1 rfl rfl
  replace k := (k.callS (w_170 hw) (S23 hw) (R_StringUTF16_checkIndex_2 hw pr1 pr2 pr3) D22_2 0 rfl).p0
  replace k := k |>.aloadN D22_5 rfl rfl |>.iloadN D22_6 rfl
  replace k := (k.callS (w_174 hw) (S26 hw) (R_StringUTF16_getChar_2 hw pr4 pr1 pr5 pr6) D22_7 0 rfl).pv
  exact k.retN (t := .char) D22_10 rfl (by simp) (own_nnCi2c _) ⟨rfl, rfl⟩
theorem R_String_charAt_2 {a1 a2 : Addr} {w_CS p3 p4 : Int32} {w_SF : Value} (hw : HW a0 Z) (pr1 : Obj Z h0 a1 L_String [.ref a2, .int 1]) (pr2 : ¬ (w_CS = 0)) (pr3 : TS_CS Z w_CS) (pr4 : Ary Z h0 a2 ATB 4 (lv [.int (-3), .int (-1), .int p3, .int p4])) (pr5 : w_SF.isRef = true) (pr6 : TS_SF Z w_SF) (pr7 : TS_AD Z) (pr8 : TS_HI Z) (pr9 : TS_LO Z) : Mt false [] l Y20 C20 (rmk 4 0 0 53) #[.ref a1, .int 1] Z a0 h0 n0 (Pv h0 (.int ((((p3 &&& 255) <<< ((0 : Int32) &&& 31)) ||| ((p4 &&& 255) <<< ((8 : Int32) &&& 31))).toUInt32.toUInt16.toUInt32.toInt32))) := by
  refine Mt.go PN20 (Or.inl rfl) ef_RI_2_1 fun k => ?_
  replace k := k |>.aloadN D20_0 rfl rfl
  replace k := (k.callV (w_82 hw) (V_Y21_21_String hw) pr1.exa (R_String_isLatin1_1 hw pr3 pr2 pr1) D20_1 0 rfl).pv
  replace k := k |>.ifYes D20_4 (by decide) |>.aloadN D20_16 rfl rfl |>.getF (fl_31 hw) pr1 0 D20_17 rfl rfl |>.iloadN D20_20 rfl
  replace k := (k.callS (w_167 hw) (S22 hw) (R_StringUTF16_charAt_2 hw pr4 pr5 pr6 pr7 pr8 pr9) D20_21 0 rfl).pv
  exact k.retN (t := .char) D20_24 rfl (by simp) (own_nnCi2c _) ⟨rfl, rfl⟩
theorem D0_90 : Dc code 90 (.iload 4) 2 92 := ⟨at_90, rfl⟩
theorem D0_92 : Dj code 92 (.if_icmp .ne 7) 7 95 99 := ⟨at_92, rfl, by decide, by decide⟩
theorem own_d8 {p2 v0 v1 v2 v3 : Int32} (e0 : v0 = (p2 &&& 127)) (e1 : v1 = (v0.toInt8.toInt32)) (e2 : v2 = (v1.toUInt32.toUInt16.toUInt32.toInt32)) (e3 : v3 = (((((v2 >>> ((0 : Int32) &&& 31)).toInt8.toInt32) &&& 255) <<< ((0 : Int32) &&& 31)) ||| ((((v2 >>> ((8 : Int32) &&& 31)).toInt8.toInt32) &&& 255) <<< ((8 : Int32) &&& 31))).toUInt32.toUInt16.toUInt32.toInt32) : v3 = v0 := by
  have := rng32 p2
  have : (127 : Int32).toInt = 127 := by decide
  have := e_mask e0 7 128
  have := e_i2bN e1 (by omega)
  have := e_i2cN e2 (by omega)
  have := e_gc e3 (by omega) (by omega)
  exact o_eq (by omega)
theorem D0_95 : Dc code 95 (.iconst 1) 1 96 := ⟨at_95, rfl⟩
theorem D0_96 : Dj code 96 (.goto 4) 4 99 100 := ⟨at_96, rfl, by decide, by decide⟩
theorem D0_100 : Dc code 100 .ireturn 1 101 := ⟨at_100, rfl⟩
theorem own_d11 {p1 v0 v1 v2 v3 v4 : Int32} (e0 : v0 = (p1 &&& 127)) (e1 : v1 = ((128 ||| v0).toInt8.toInt32)) (e2 : v2 = (v1 &&& 254)) (e3 : v3 = (v1 >>> ((5 : Int32) &&& 31))) (e4 : v4 = (v1 &&& 30)) (q0 : ¬ (v2 = 194)) (q1 : v3 = (-2)) (q2 : v4 = 0) : v1 < 0 := by
  have := rng32 p1
  have : (127 : Int32).toInt = 127 := by decide
  have := e_mask e0 7 128
  have := e_hbN e1 7 128 128 (by omega)
  have : (254 : Int32).toInt = 254 := by decide
  have : v1.toInt % 256 = v1.toInt + 256 := by omega
  have := e_mask2 e2 1 7 256 2
  have : (194 : Int32).toInt = 194 := by decide
  have := i_neq q0
  have : (5 : Int32).toInt = 5 := by decide
  have := e_ishr e3 5 32
  have : (-2 : Int32).toInt = -2 := by decide
  have := i_eq q1
  have : (30 : Int32).toInt = 30 := by decide
  have := e_mask2 e4 1 4 32 2
  have : (0 : Int32).toInt = 0 := by decide
  have := i_eq q2
  exact o_lt (by omega)
theorem D15_143 : Dc J15 143 (.iload 6) 2 145 := by decide +kernel
theorem D15_145 : Dc J15 145 (.iconst 4) 1 146 := by decide +kernel
theorem D15_146 : Dc J15 146 .ishr 1 147 := by decide +kernel
theorem D15_147 : Dc J15 147 (.bipush (-2)) 2 149 := by decide +kernel
theorem D15_149 : Dj J15 149 (.if_icmp .ne 200) 200 152 349 := by decide +kernel
theorem own_d12 {p1 v0 v1 v2 v3 v4 v5 : Int32} (e0 : v0 = (p1 &&& 127)) (e1 : v1 = ((128 ||| v0).toInt8.toInt32)) (e2 : v2 = (v1 &&& 254)) (e3 : v3 = (v1 >>> ((5 : Int32) &&& 31))) (e4 : v4 = (v1 &&& 30)) (e5 : v5 = (v1 >>> ((4 : Int32) &&& 31))) (q0 : ¬ (v2 = 194)) (q1 : v3 = (-2)) (q2 : v4 = 0) : ¬ (v5 = (-2)) := by
  have := rng32 p1
  have : (127 : Int32).toInt = 127 := by decide
  have := e_mask e0 7 128
  have := e_hbN e1 7 128 128 (by omega)
  have : (254 : Int32).toInt = 254 := by decide
  have : v1.toInt % 256 = v1.toInt + 256 := by omega
  have := e_mask2 e2 1 7 256 2
  have : (194 : Int32).toInt = 194 := by decide
  have := i_neq q0
  have : (5 : Int32).toInt = 5 := by decide
  have := e_ishr e3 5 32
  have : (-2 : Int32).toInt = -2 := by decide
  have := i_eq q1
  have : (30 : Int32).toInt = 30 := by decide
  have := e_mask2 e4 1 4 32 2
  have : (0 : Int32).toInt = 0 := by decide
  have := i_eq q2
  have : (4 : Int32).toInt = 4 := by decide
  have := e_ishr e5 4 16
  exact o_neq (by omega)
theorem D15_349 : Dc J15 349 (.iload 6) 2 351 := by decide +kernel
theorem D15_351 : Dc J15 351 (.iconst 3) 1 352 := by decide +kernel
theorem D15_352 : Dc J15 352 .ishr 1 353 := by decide +kernel
theorem D15_353 : Dc J15 353 (.bipush (-2)) 2 355 := by decide +kernel
theorem D15_355 : Dj J15 355 (.if_icmp .ne 240) 240 358 595 := by decide +kernel
theorem own_d13 {p1 v0 v1 v2 v3 v4 v5 : Int32} (e0 : v0 = (p1 &&& 127)) (e1 : v1 = ((128 ||| v0).toInt8.toInt32)) (e2 : v2 = (v1 &&& 254)) (e3 : v3 = (v1 >>> ((5 : Int32) &&& 31))) (e4 : v4 = (v1 &&& 30)) (e5 : v5 = (v1 >>> ((3 : Int32) &&& 31))) (q0 : ¬ (v2 = 194)) (q1 : v3 = (-2)) (q2 : v4 = 0) : ¬ (v5 = (-2)) := by
  have := rng32 p1
  have : (127 : Int32).toInt = 127 := by decide
  have := e_mask e0 7 128
  have := e_hbN e1 7 128 128 (by omega)
  have : (254 : Int32).toInt = 254 := by decide
  have : v1.toInt % 256 = v1.toInt + 256 := by omega
  have := e_mask2 e2 1 7 256 2
  have : (194 : Int32).toInt = 194 := by decide
  have := i_neq q0
  have : (5 : Int32).toInt = 5 := by decide
  have := e_ishr e3 5 32
  have : (-2 : Int32).toInt = -2 := by decide
  have := i_eq q1
  have : (30 : Int32).toInt = 30 := by decide
  have := e_mask2 e4 1 4 32 2
  have : (0 : Int32).toInt = 0 := by decide
  have := i_eq q2
  have : (3 : Int32).toInt = 3 := by decide
  have := e_ishr e5 3 8
  exact o_neq (by omega)
theorem D15_595 : Dc J15 595 (.iload 5) 2 597 := by decide +kernel
theorem D15_597 : Dj J15 597 (.ifCond .ne 10) 10 600 607 := by decide +kernel
theorem D15_607 : Dc J15 607 (.aload_n 3) 1 608 := by decide +kernel
theorem D15_608 : Dc J15 608 (.iload 4) 2 610 := by decide +kernel
theorem D15_610 : Dc J15 610 (.iinc 4 1) 3 613 := by decide +kernel
theorem D15_613 : Dc J15 613 (.ldc 132) 2 615 := by decide +kernel
theorem D15_615 : Dc J15 615 (.invokestatic 64) 3 618 := by decide +kernel
theorem R_String_decodeUTF8_UTF16_4 {a1 a2 : Addr} {p3 p4 : Int32} (hw : HW a0 Z) (pr1 : Ary Z h0 a1 ATB 2 (lv [.int p3, .int p4])) (pr2 : p3 < 0) (pr3 : (p3 >>> ((5 : Int32) &&& 31)) = (-2)) (pr4 : (p3 &&& 30) = 0) (pr5 : ¬ ((p3 >>> ((4 : Int32) &&& 31)) = (-2))) (pr6 : ¬ ((p3 >>> ((3 : Int32) &&& 31)) = (-2))) (pr7 : Ary Z h0 a2 ATB 4 (lv [.int 0, .int 0, .int 0, .int 0])) (pr8 : n0 ≤ a2) (pr9 : TS_AD Z) (pr10 : TS_HI Z) (pr11 : TS_LO Z) (pr12 : a1 ≠ a2) (pr13 : ¬ (p4 < 0)) : Mt false [] l Y15 C15 (rmk 1 0 0 14) #[.ref a1, .int 0, .int 2, .ref a2, .int 0, .int 1] Z a0 h0 n0 (KpV h0 [a2] fun v h => v = (.int 2) ∧ Ary Z h a2 ATB 4 (lv [.int (-3), .int (-1), .int (((p4.toUInt32.toUInt16.toUInt32.toInt32) >>> ((0 : Int32) &&& 31)).toInt8.toInt32), .int (((p4.toUInt32.toUInt16.toUInt32.toInt32) >>> ((8 : Int32) &&& 31)).toInt8.toInt32)])) := by
  refine Mt.go PN15 (Or.inl rfl) ef_RIIRII_11_0_2_0_1 fun k => ?_
  replace k := k |>.iloadN D15_0 rfl |>.iloadN D15_1 rfl |>.icmpNo D15_2 (by decide) |>.aloadN D15_5 rfl rfl |>.iloadN D15_6 rfl |>.iinc D15_7 rfl (z := 1) (by decide) sto1 |>.bald pr1 D15_10 (i := 0) (by decide) lvg0 |>.istore D15_11 sto6 |>.iload D15_13 rfl |>.ifYes D15_15 ((if0 _ _).trans (tlt pr2).1) |>.iload D15_33 rfl |>.iconst D15_35 5
  replace k := k |>.ishr D15_36 rfl |>.bipush D15_37 (-2) |>.icmpNo D15_39 (teq pr3).2 |>.iload D15_42 rfl |>.bipush D15_44 30 |>.iand D15_46 rfl |>.ifYes D15_47 ((if0 _ _).trans (teq pr4).1) |>.iload D15_143 rfl |>.iconst D15_145 4 |>.ishr D15_146 rfl |>.bipush D15_147 (-2) |>.icmpYes D15_149 (feq pr5).2
  replace k := k |>.iload D15_349 rfl |>.iconst D15_351 3 |>.ishr D15_352 rfl |>.bipush D15_353 (-2) |>.icmpYes D15_355 (feq pr6).2 |>.iload D15_595 rfl |>.ifYes D15_597 (by decide) |>.aloadN D15_607 rfl rfl |>.iload D15_608 rfl |>.iinc D15_610 rfl (z := 1) (by decide) sto4 |>.ldcI (w_179 hw) D15_613
  obtain ⟨h1, K1, f1_0, k⟩ := (k.callS (w_146 hw) (S17 hw) (R_StringUTF16_putChar_1 hw pr9 pr10 pr7 pr8 pr11) D15_615 0 rfl).k0 (allS pr8 all0)
  replace k := k |>.goto D15_618 |>.iloadN D15_0 rfl |>.iloadN D15_1 rfl |>.icmpNo D15_2 (by decide) |>.aloadN D15_5 rfl rfl |>.iloadN D15_6 rfl |>.iinc D15_7 rfl (z := 2) (by decide) sto1
  have o2 := pr1.keep K1 (ninS pr12 nin0)
  replace k := k |>.bald o2 D15_10 (i := 1) (by decide) lvg1 |>.istore D15_11 sto6 |>.iload D15_13 rfl |>.ifNo D15_15 ((if0 _ _).trans (flt pr13).1) |>.aloadN D15_18 rfl rfl |>.iload D15_19 rfl |>.iinc D15_21 rfl (z := 2) (by decide) sto4 |>.iload D15_24 rfl |>.i2c D15_26 rfl
  obtain ⟨h3, K3, f3_0, k⟩ := (k.callS (w_146 hw) (S17 hw) (R_StringUTF16_putChar_2 hw pr9 pr10 f1_0 pr8 pr11) D15_27 0 rfl).k0 (allS pr8 all0)
  replace k := k |>.goto D15_30 |>.goto D15_618 |>.iloadN D15_0 rfl |>.iloadN D15_1 rfl |>.icmpYes D15_2 (by decide) |>.iload D15_621 rfl
  exact k.retI D15_623 rfl ⟨_, rfl, (K1.trans K3 (allS (Or.inl (List.mem_of_getElem? (i := 0) rfl)) all0)), rfl, f3_0⟩
theorem R_String__init__10 {a1 w_U8 a2 : Addr} {w_CS p3 p4 : Int32} {w_SF : Value} (hw : HW a0 Z) (pr1 : TS_UI Z w_U8) (pr2 : TS_CS Z w_CS) (pr3 : ¬ (w_CS = 0)) (pr4 : Ary Z h0 a2 ATB 2 (lv [.int p3, .int p4])) (pr5 : p3 < 0) (pr6 : ¬ ((p3 &&& 254) = 194)) (pr7 : w_SF.isRef = true) (pr8 : TS_SF Z w_SF) (pr9 : (p3 >>> ((5 : Int32) &&& 31)) = (-2)) (pr10 : (p3 &&& 30) = 0) (pr11 : ¬ ((p3 >>> ((4 : Int32) &&& 31)) = (-2))) (pr12 : ¬ ((p3 >>> ((3 : Int32) &&& 31)) = (-2))) (pr13 : ¬ (p4 < 0)) (pr14 : TS_AD Z) (pr15 : TS_HI Z) (pr16 : TS_LO Z) (pr17 : Obj Z h0 a1 L_String [.null, .int 0]) (pr18 : n0 ≤ a1) : Mt false [] l Y4 C4 (rmk 5 2 6 76) #[.ref a1, .ref w_U8, .ref a2, .int 0, .int 2] Z a0 h0 n0 (K0 h0 [a1] fun h => ∃ b2_3 : Addr, h0.size ≤ b2_3 ∧ Obj Z h a1 L_String [.ref b2_3, .int 1] ∧ Ary Z h b2_3 ATB 4 (lv [.int (-3), .int (-1), .int (((p4.toUInt32.toUInt16.toUInt32.toInt32) >>> ((0 : Int32) &&& 31)).toInt8.toInt32), .int (((p4.toUInt32.toUInt16.toUInt32.toInt32) >>> ((8 : Int32) &&& 31)).toInt8.toInt32)])) := by
  refine Mt.go PN4 (Or.inr ⟨_, rfl⟩) ef_RRRII_11_0_2 fun k => ?_
  have nz := k.n0le
  replace k := k |>.aloadN D4_0 rfl rfl |>.initO (w_23 hw) (w_24 hw) (w_25 hw) D4_1 0 |>.iload D4_4 rfl |>.ifYes D4_6 (by decide) |>.aloadN D4_30 rfl rfl |>.getS (fl_46 hw) pr1 D4_31 |>.acmpNo D4_34 rfl rfl true (decide_eq_true rfl) (by decide) |>.getS (fl_48 hw) pr2 D4_37 |>.ifNo D4_40 ((if0 _ _).trans (feq pr3).1) |>.aloadN D4_43 rfl rfl |>.iloadN D4_44 rfl |>.iload D4_45 rfl
  replace k := (k.callS (w_49 hw) (S5 hw) (R_StringCoding_countPositives_1 hw pr4 pr5) D4_47 0 rfl).pv
  replace k := k |>.istore D4_50 sto5 |>.iload D4_52 rfl |>.iload D4_54 rfl |>.icmpYes D4_56 (by decide) |>.aloadN D4_78 rfl rfl |>.iloadN D4_79 rfl |>.iloadN D4_80 rfl |>.iload D4_81 rfl |>.iadd D4_83 (z := 2) (by decide)
  have z2 := k.sz
  obtain ⟨_, h2, K2, ⟨b1_2, rfl, f2_0, f2_1⟩, k⟩ := (k.callS (w_53 hw) (S6 hw) (R_Arrays_copyOfRange_1 hw pr4) D4_84 0 rfl).kv
  replace k := k |>.astore D4_87 rfl sto6 |>.iload D4_89 rfl |>.istore D4_91 sto7 |>.iload D4_93 rfl |>.iload D4_95 rfl |>.icmpNo D4_97 (by decide) |>.aload D4_100 rfl rfl |>.iload D4_102 rfl |>.iinc D4_104 rfl (z := 1) (by decide) sto7 |>.bald f2_1 D4_107 (i := 0) (by decide) lvg0 |>.istore D4_108 sto8 |>.iload D4_110 rfl
  replace k := k |>.ifYes D4_112 ((if0 _ _).trans (tlt pr5).1) |>.iload D4_129 rfl |>.sipush D4_131 254 |>.iand D4_134 rfl |>.sipush D4_135 194 |>.icmpYes D4_138 (feq pr6).2 |>.iinc D4_184 rfl (z := 0) (by decide) sto7 |>.goto D4_187 |>.iload D4_190 rfl |>.iload D4_192 rfl |>.icmpYes D4_194 (by decide) |>.iload D4_226 rfl
  have z3 := k.sz
  obtain ⟨_, h3, K3, ⟨b2_3, rfl, f3_0, f3_1⟩, k⟩ := (k.callS (w_100 hw) (S7 hw) (R_StringUTF16_newBytesFor_1 hw) D4_228 0 rfl).kv
  replace k := k |>.astore D4_231 rfl sto8 |>.aload D4_233 rfl rfl |>.iconst D4_235 0 |>.aload D4_236 rfl rfl |>.iconst D4_238 0 |>.iload D4_239 rfl
  replace k := (k.callS (w_108 hw) (S9 hw) (R_StringLatin1_inflate_1 hw f3_1 pr7 pr8) D4_241 0 rfl).p0
  replace k := k |>.aload D4_244 rfl rfl |>.iload D4_246 rfl |>.iload D4_248 rfl |>.aload D4_250 rfl rfl |>.iload D4_252 rfl |>.iconst D4_254 1
  have s_b2_3 := Nat.le_trans z3 f3_0
  have n_b2_3 := Nat.le_trans nz s_b2_3
  have o6 := f2_1.keep K3 nin0
  obtain ⟨_, h5, K5, ⟨rfl, f5_0⟩, k⟩ := (k.callS (w_126 hw) (S15 hw) (R_String_decodeUTF8_UTF16_4 hw o6 pr5 pr9 pr10 pr11 pr12 f3_1 n_b2_3 pr14 pr15 pr16 (nlt f2_1.lt f3_0) pr13) D4_255 0 rfl).kv (allS n_b2_3 all0)
  replace k := k |>.istore D4_258 sto5 |>.iload D4_260 rfl |>.iload D4_262 rfl |>.icmpYes D4_264 (by decide) |>.aloadN D4_278 rfl rfl |>.aload D4_279 rfl rfl
  have o7 := ((pr17.keep K2 nin0).keep K3 nin0).keep K5 (ninS (nlt pr17.lt s_b2_3) nin0)
  obtain ⟨h8, K8, O8, k⟩ := k.putF (fl_31 hw) (pw_String_i_String_value hw) o7 0 pr18 (Or.inl rfl) D4_281 rfl rfl rfl ls0
  replace k := k |>.aloadN D4_284 rfl rfl |>.iconst D4_285 1
  obtain ⟨h9, K9, O9, k⟩ := k.putN (fp_32 hw) (pw_String_i_String_coder hw) O8 1 pr18 (Or.inl rfl) D4_286 rfl (v' := (.int 1)) (by decide) (by decide) ls1
  replace k := k |>.goto D4_289
  have o10 := (f5_0.keep K8 (ninS (nlt' pr17.lt s_b2_3) nin0)).keep K9 (ninS (nlt' pr17.lt s_b2_3) nin0)
  exact k.ret0 D4_879 rfl ⟨rfl, ((((((Keep.refl h0 [a1]).trans K2 all0).trans K3 all0).trans K5 (allS (Or.inr s_b2_3) all0)).trans K8 (allS (Or.inl (List.mem_of_getElem? (i := 0) rfl)) all0)).trans K9 (allS (Or.inl (List.mem_of_getElem? (i := 0) rfl)) all0)), b2_3, s_b2_3, O9, o10⟩
theorem R_String__init__9 {a1 a2 w_U8 : Addr} {p3 p4 w_CS : Int32} {w_SF : Value} (hw : HW a0 Z) (pr1 : Obj Z Z.heap w_U8 L_UTF_8 []) (pr2 : Ary Z h0 a2 ATB 2 (lv [.int p3, .int p4])) (pr3 : ¬ (w_CS = 0)) (pr4 : p3 < 0) (pr5 : ¬ ((p3 &&& 254) = 194)) (pr6 : (p3 >>> ((5 : Int32) &&& 31)) = (-2)) (pr7 : (p3 &&& 30) = 0) (pr8 : ¬ ((p3 >>> ((4 : Int32) &&& 31)) = (-2))) (pr9 : ¬ ((p3 >>> ((3 : Int32) &&& 31)) = (-2))) (pr10 : ¬ (p4 < 0)) (pr11 : Obj Z h0 a1 L_String [.null, .int 0]) (pr12 : n0 ≤ a1) (pr13 : w_SF.isRef = true) (pr14 : TS_UI Z w_U8) (pr15 : TS_CS Z w_CS) (pr16 : TS_SF Z w_SF) (pr17 : TS_AD Z) (pr18 : TS_HI Z) (pr19 : TS_LO Z) : Mt false [] l Y2 C2 (rmk 6 2 6 98) #[.ref a1, .ref a2, .ref w_U8] Z a0 h0 n0 (K0 h0 [a1] fun h => ∃ b2_3_2 : Addr, h0.size ≤ b2_3_2 ∧ Obj Z h a1 L_String [.ref b2_3_2, .int 1] ∧ Ary Z h b2_3_2 ATB 4 (lv [.int (-3), .int (-1), .int (((p4.toUInt32.toUInt16.toUInt32.toInt32) >>> ((0 : Int32) &&& 31)).toInt8.toInt32), .int (((p4.toUInt32.toUInt16.toUInt32.toInt32) >>> ((8 : Int32) &&& 31)).toInt8.toInt32)])) := by
  refine Mt.go PN2 (Or.inl rfl) ef_RRR_3 fun k => ?_
  replace k := k |>.aloadN D2_0 rfl rfl |>.aloadN D2_1 rfl rfl
  replace k := (k.callS (w_13 hw) (S3 hw) (R_Objects_requireNonNull_1 hw) D2_2 1 rfl).pv
  replace k := k |>.castY (w_17 hw) (Ins.of_exa (pr1.ext k.old.2).exa (w_18 hw)) D2_5 |>.aloadN D2_8 rfl rfl |>.iconst D2_9 0 |>.aloadN D2_10 rfl rfl |>.alen pr2 D2_11 (z := 2) (by decide)
  have z2 := k.sz
  obtain ⟨h2, K2, ⟨b2_3_2, f2_0, f2_1, f2_2⟩, k⟩ := (k.callI (w_19 hw) (I4 hw) (R_String__init__10 hw pr14 pr15 pr3 pr2 pr4 pr5 pr13 pr16 pr6 pr7 pr8 pr9 pr10 pr17 pr18 pr19 pr11 pr12) D2_12 0 rfl).k0 (allS pr12 all0)
  have s_b2_3_2 := Nat.le_trans z2 f2_0
  exact k.ret0 D2_15 rfl ⟨rfl, K2, b2_3_2, s_b2_3_2, f2_1, f2_2⟩
theorem R_Utf8_decodeName_5 {a1 w_U8 : Addr} {p2 p3 w_CS : Int32} {w_SF : Value} (hw : HW a0 Z) (pr1 : TS_U8 Z w_U8) (pr2 : Ary Z h0 a1 ATB 2 (lv [.int p2, .int p3])) (pr3 : ¬ (w_CS = 0)) (pr4 : p2 < 0) (pr5 : ¬ ((p2 &&& 254) = 194)) (pr6 : (p2 >>> ((5 : Int32) &&& 31)) = (-2)) (pr7 : (p2 &&& 30) = 0) (pr8 : ¬ ((p2 >>> ((4 : Int32) &&& 31)) = (-2))) (pr9 : ¬ ((p2 >>> ((3 : Int32) &&& 31)) = (-2))) (pr10 : ¬ (p3 < 0)) (pr11 : w_SF.isRef = true) (pr12 : Obj Z Z.heap w_U8 L_UTF_8 []) (pr13 : TS_UI Z w_U8) (pr14 : TS_CS Z w_CS) (pr15 : TS_SF Z w_SF) (pr16 : TS_AD Z) (pr17 : TS_HI Z) (pr18 : TS_LO Z) : Mt false [] l Y1 C1 (rmk 7 3 10 113) #[.ref a1] Z a0 h0 n0 (KpV h0 [] fun v h => ∃ b1 b2_3_2_2 : Addr, v = (.ref b1) ∧ h0.size ≤ b1 ∧ h0.size ≤ b2_3_2_2 ∧ b2_3_2_2 ≠ b1 ∧ Obj Z h b1 L_String [.ref b2_3_2_2, .int 1] ∧ Ary Z h b2_3_2_2 ATB 4 (lv [.int (-3), .int (-1), .int (((p3.toUInt32.toUInt16.toUInt32.toInt32) >>> ((0 : Int32) &&& 31)).toInt8.toInt32), .int (((p3.toUInt32.toUInt16.toUInt32.toInt32) >>> ((8 : Int32) &&& 31)).toInt8.toInt32)])) := by
  refine Mt.go PN1 (Or.inl rfl) ef_R_1 fun k => ?_
  have nz := k.n0le
  have z1 := k.sz
  obtain ⟨b1, h1, g1, K1, O1, k⟩ := k.new (w_5 hw) (nw_String hw) D1_0 (by decide) dvL_String
  replace k := k |>.dup D1_3 rfl |>.aloadN D1_4 rfl rfl |>.getS (fl_8 hw) pr1 D1_5
  have s_b1 := Nat.le_trans z1 g1
  have n_b1 := Nat.le_trans nz s_b1
  have o3 := pr2.keep K1 nin0
  have z2 := k.sz
  obtain ⟨h2, K2, ⟨b2_3_2_2, f2_0, f2_1, f2_2⟩, k⟩ := (k.callI (w_10 hw) (I2 hw) (R_String__init__9 hw pr12 o3 pr3 pr4 pr5 pr6 pr7 pr8 pr9 pr10 O1 n_b1 pr11 pr13 pr14 pr15 pr16 pr17 pr18) D1_8 1 rfl).k0 (allS n_b1 all0)
  have s_b2_3_2_2 := Nat.le_trans z2 f2_0
  exact k.retA D1_11 rfl ⟨_, rfl, (K1.trans K2 (allS (Or.inr s_b1) all0)), b1, b2_3_2_2, rfl, s_b1, s_b2_3_2_2, (nlt' O1.lt f2_0), f2_1, f2_2⟩
theorem own_d14 {p1 v0 v1 v2 v3 v4 : Int32} (e0 : v0 = (p1 &&& 127)) (e1 : v1 = ((128 ||| v0).toInt8.toInt32)) (e2 : v2 = (v1 &&& 254)) (e3 : v3 = (v1 >>> ((5 : Int32) &&& 31))) (e4 : v4 = (v1 &&& 30)) (q0 : ¬ (v2 = 194)) (q1 : v3 = (-2)) (q2 : ¬ (v4 = 0)) : v1 < 0 := by
  have := rng32 p1
  have : (127 : Int32).toInt = 127 := by decide
  have := e_mask e0 7 128
  have := e_hbN e1 7 128 128 (by omega)
  have : (254 : Int32).toInt = 254 := by decide
  have : v1.toInt % 256 = v1.toInt + 256 := by omega
  have := e_mask2 e2 1 7 256 2
  have : (194 : Int32).toInt = 194 := by decide
  have := i_neq q0
  have : (5 : Int32).toInt = 5 := by decide
  have := e_ishr e3 5 32
  have : (-2 : Int32).toInt = -2 := by decide
  have := i_eq q1
  have : (30 : Int32).toInt = 30 := by decide
  have := e_mask2 e4 1 4 32 2
  have : (0 : Int32).toInt = 0 := by decide
  have := i_neq q2
  exact o_lt (by omega)
theorem R_String__init__12 {a1 w_U8 a2 : Addr} {w_CS p3 p4 : Int32} {w_SF : Value} (hw : HW a0 Z) (pr1 : TS_UI Z w_U8) (pr2 : TS_CS Z w_CS) (pr3 : ¬ (w_CS = 0)) (pr4 : Ary Z h0 a2 ATB 2 (lv [.int p3, .int p4])) (pr5 : p3 < 0) (pr6 : ¬ ((p3 &&& 254) = 194)) (pr7 : w_SF.isRef = true) (pr8 : TS_SF Z w_SF) (pr9 : (p3 >>> ((5 : Int32) &&& 31)) = (-2)) (pr10 : ¬ ((p3 &&& 30) = 0)) (pr11 : ¬ ((p4 &&& 192) = 128)) (pr12 : ¬ (p4 < 0)) (pr13 : TS_AD Z) (pr14 : TS_HI Z) (pr15 : TS_LO Z) (pr16 : Obj Z h0 a1 L_String [.null, .int 0]) (pr17 : n0 ≤ a1) : Mt false [] l Y4 C4 (rmk 5 2 6 76) #[.ref a1, .ref w_U8, .ref a2, .int 0, .int 2] Z a0 h0 n0 (K0 h0 [a1] fun h => ∃ b2_3 : Addr, h0.size ≤ b2_3 ∧ Obj Z h a1 L_String [.ref b2_3, .int 1] ∧ Ary Z h b2_3 ATB 4 (lv [.int (-3), .int (-1), .int (((p4.toUInt32.toUInt16.toUInt32.toInt32) >>> ((0 : Int32) &&& 31)).toInt8.toInt32), .int (((p4.toUInt32.toUInt16.toUInt32.toInt32) >>> ((8 : Int32) &&& 31)).toInt8.toInt32)])) := by
  refine Mt.go PN4 (Or.inr ⟨_, rfl⟩) ef_RRRII_11_0_2 fun k => ?_
  have nz := k.n0le
  replace k := k |>.aloadN D4_0 rfl rfl |>.initO (w_23 hw) (w_24 hw) (w_25 hw) D4_1 0 |>.iload D4_4 rfl |>.ifYes D4_6 (by decide) |>.aloadN D4_30 rfl rfl |>.getS (fl_46 hw) pr1 D4_31 |>.acmpNo D4_34 rfl rfl true (decide_eq_true rfl) (by decide) |>.getS (fl_48 hw) pr2 D4_37 |>.ifNo D4_40 ((if0 _ _).trans (feq pr3).1) |>.aloadN D4_43 rfl rfl |>.iloadN D4_44 rfl |>.iload D4_45 rfl
  replace k := (k.callS (w_49 hw) (S5 hw) (R_StringCoding_countPositives_1 hw pr4 pr5) D4_47 0 rfl).pv
  replace k := k |>.istore D4_50 sto5 |>.iload D4_52 rfl |>.iload D4_54 rfl |>.icmpYes D4_56 (by decide) |>.aloadN D4_78 rfl rfl |>.iloadN D4_79 rfl |>.iloadN D4_80 rfl |>.iload D4_81 rfl |>.iadd D4_83 (z := 2) (by decide)
  have z2 := k.sz
  obtain ⟨_, h2, K2, ⟨b1_2, rfl, f2_0, f2_1⟩, k⟩ := (k.callS (w_53 hw) (S6 hw) (R_Arrays_copyOfRange_1 hw pr4) D4_84 0 rfl).kv
  replace k := k |>.astore D4_87 rfl sto6 |>.iload D4_89 rfl |>.istore D4_91 sto7 |>.iload D4_93 rfl |>.iload D4_95 rfl |>.icmpNo D4_97 (by decide) |>.aload D4_100 rfl rfl |>.iload D4_102 rfl |>.iinc D4_104 rfl (z := 1) (by decide) sto7 |>.bald f2_1 D4_107 (i := 0) (by decide) lvg0 |>.istore D4_108 sto8 |>.iload D4_110 rfl
  replace k := k |>.ifYes D4_112 ((if0 _ _).trans (tlt pr5).1) |>.iload D4_129 rfl |>.sipush D4_131 254 |>.iand D4_134 rfl |>.sipush D4_135 194 |>.icmpYes D4_138 (feq pr6).2 |>.iinc D4_184 rfl (z := 0) (by decide) sto7 |>.goto D4_187 |>.iload D4_190 rfl |>.iload D4_192 rfl |>.icmpYes D4_194 (by decide) |>.iload D4_226 rfl
  have z3 := k.sz
  obtain ⟨_, h3, K3, ⟨b2_3, rfl, f3_0, f3_1⟩, k⟩ := (k.callS (w_100 hw) (S7 hw) (R_StringUTF16_newBytesFor_1 hw) D4_228 0 rfl).kv
  replace k := k |>.astore D4_231 rfl sto8 |>.aload D4_233 rfl rfl |>.iconst D4_235 0 |>.aload D4_236 rfl rfl |>.iconst D4_238 0 |>.iload D4_239 rfl
  replace k := (k.callS (w_108 hw) (S9 hw) (R_StringLatin1_inflate_1 hw f3_1 pr7 pr8) D4_241 0 rfl).p0
  replace k := k |>.aload D4_244 rfl rfl |>.iload D4_246 rfl |>.iload D4_248 rfl |>.aload D4_250 rfl rfl |>.iload D4_252 rfl |>.iconst D4_254 1
  have s_b2_3 := Nat.le_trans z3 f3_0
  have n_b2_3 := Nat.le_trans nz s_b2_3
  have o6 := f2_1.keep K3 nin0
  obtain ⟨_, h5, K5, ⟨rfl, f5_0⟩, k⟩ := (k.callS (w_126 hw) (S15 hw) (R_String_decodeUTF8_UTF16_1 hw o6 pr5 pr9 pr10 pr11 f3_1 n_b2_3 pr13 pr14 pr15 (nlt f2_1.lt f3_0) pr12) D4_255 0 rfl).kv (allS n_b2_3 all0)
  replace k := k |>.istore D4_258 sto5 |>.iload D4_260 rfl |>.iload D4_262 rfl |>.icmpYes D4_264 (by decide) |>.aloadN D4_278 rfl rfl |>.aload D4_279 rfl rfl
  have o7 := ((pr16.keep K2 nin0).keep K3 nin0).keep K5 (ninS (nlt pr16.lt s_b2_3) nin0)
  obtain ⟨h8, K8, O8, k⟩ := k.putF (fl_31 hw) (pw_String_i_String_value hw) o7 0 pr17 (Or.inl rfl) D4_281 rfl rfl rfl ls0
  replace k := k |>.aloadN D4_284 rfl rfl |>.iconst D4_285 1
  obtain ⟨h9, K9, O9, k⟩ := k.putN (fp_32 hw) (pw_String_i_String_coder hw) O8 1 pr17 (Or.inl rfl) D4_286 rfl (v' := (.int 1)) (by decide) (by decide) ls1
  replace k := k |>.goto D4_289
  have o10 := (f5_0.keep K8 (ninS (nlt' pr16.lt s_b2_3) nin0)).keep K9 (ninS (nlt' pr16.lt s_b2_3) nin0)
  exact k.ret0 D4_879 rfl ⟨rfl, ((((((Keep.refl h0 [a1]).trans K2 all0).trans K3 all0).trans K5 (allS (Or.inr s_b2_3) all0)).trans K8 (allS (Or.inl (List.mem_of_getElem? (i := 0) rfl)) all0)).trans K9 (allS (Or.inl (List.mem_of_getElem? (i := 0) rfl)) all0)), b2_3, s_b2_3, O9, o10⟩
theorem R_String__init__11 {a1 a2 w_U8 : Addr} {p3 p4 w_CS : Int32} {w_SF : Value} (hw : HW a0 Z) (pr1 : Obj Z Z.heap w_U8 L_UTF_8 []) (pr2 : Ary Z h0 a2 ATB 2 (lv [.int p3, .int p4])) (pr3 : ¬ (w_CS = 0)) (pr4 : p3 < 0) (pr5 : ¬ ((p3 &&& 254) = 194)) (pr6 : (p3 >>> ((5 : Int32) &&& 31)) = (-2)) (pr7 : ¬ ((p3 &&& 30) = 0)) (pr8 : ¬ ((p4 &&& 192) = 128)) (pr9 : ¬ (p4 < 0)) (pr10 : Obj Z h0 a1 L_String [.null, .int 0]) (pr11 : n0 ≤ a1) (pr12 : w_SF.isRef = true) (pr13 : TS_UI Z w_U8) (pr14 : TS_CS Z w_CS) (pr15 : TS_SF Z w_SF) (pr16 : TS_AD Z) (pr17 : TS_HI Z) (pr18 : TS_LO Z) : Mt false [] l Y2 C2 (rmk 6 2 6 98) #[.ref a1, .ref a2, .ref w_U8] Z a0 h0 n0 (K0 h0 [a1] fun h => ∃ b2_3_2 : Addr, h0.size ≤ b2_3_2 ∧ Obj Z h a1 L_String [.ref b2_3_2, .int 1] ∧ Ary Z h b2_3_2 ATB 4 (lv [.int (-3), .int (-1), .int (((p4.toUInt32.toUInt16.toUInt32.toInt32) >>> ((0 : Int32) &&& 31)).toInt8.toInt32), .int (((p4.toUInt32.toUInt16.toUInt32.toInt32) >>> ((8 : Int32) &&& 31)).toInt8.toInt32)])) := by
  refine Mt.go PN2 (Or.inl rfl) ef_RRR_3 fun k => ?_
  replace k := k |>.aloadN D2_0 rfl rfl |>.aloadN D2_1 rfl rfl
  replace k := (k.callS (w_13 hw) (S3 hw) (R_Objects_requireNonNull_1 hw) D2_2 1 rfl).pv
  replace k := k |>.castY (w_17 hw) (Ins.of_exa (pr1.ext k.old.2).exa (w_18 hw)) D2_5 |>.aloadN D2_8 rfl rfl |>.iconst D2_9 0 |>.aloadN D2_10 rfl rfl |>.alen pr2 D2_11 (z := 2) (by decide)
  have z2 := k.sz
  obtain ⟨h2, K2, ⟨b2_3_2, f2_0, f2_1, f2_2⟩, k⟩ := (k.callI (w_19 hw) (I4 hw) (R_String__init__12 hw pr13 pr14 pr3 pr2 pr4 pr5 pr12 pr15 pr6 pr7 pr8 pr9 pr16 pr17 pr18 pr10 pr11) D2_12 0 rfl).k0 (allS pr11 all0)
  have s_b2_3_2 := Nat.le_trans z2 f2_0
  exact k.ret0 D2_15 rfl ⟨rfl, K2, b2_3_2, s_b2_3_2, f2_1, f2_2⟩
theorem R_Utf8_decodeName_6 {a1 w_U8 : Addr} {p2 p3 w_CS : Int32} {w_SF : Value} (hw : HW a0 Z) (pr1 : TS_U8 Z w_U8) (pr2 : Ary Z h0 a1 ATB 2 (lv [.int p2, .int p3])) (pr3 : ¬ (w_CS = 0)) (pr4 : p2 < 0) (pr5 : ¬ ((p2 &&& 254) = 194)) (pr6 : (p2 >>> ((5 : Int32) &&& 31)) = (-2)) (pr7 : ¬ ((p2 &&& 30) = 0)) (pr8 : ¬ ((p3 &&& 192) = 128)) (pr9 : ¬ (p3 < 0)) (pr10 : w_SF.isRef = true) (pr11 : Obj Z Z.heap w_U8 L_UTF_8 []) (pr12 : TS_UI Z w_U8) (pr13 : TS_CS Z w_CS) (pr14 : TS_SF Z w_SF) (pr15 : TS_AD Z) (pr16 : TS_HI Z) (pr17 : TS_LO Z) : Mt false [] l Y1 C1 (rmk 7 3 10 113) #[.ref a1] Z a0 h0 n0 (KpV h0 [] fun v h => ∃ b1 b2_3_2_2 : Addr, v = (.ref b1) ∧ h0.size ≤ b1 ∧ h0.size ≤ b2_3_2_2 ∧ b2_3_2_2 ≠ b1 ∧ Obj Z h b1 L_String [.ref b2_3_2_2, .int 1] ∧ Ary Z h b2_3_2_2 ATB 4 (lv [.int (-3), .int (-1), .int (((p3.toUInt32.toUInt16.toUInt32.toInt32) >>> ((0 : Int32) &&& 31)).toInt8.toInt32), .int (((p3.toUInt32.toUInt16.toUInt32.toInt32) >>> ((8 : Int32) &&& 31)).toInt8.toInt32)])) := by
  refine Mt.go PN1 (Or.inl rfl) ef_R_1 fun k => ?_
  have nz := k.n0le
  have z1 := k.sz
  obtain ⟨b1, h1, g1, K1, O1, k⟩ := k.new (w_5 hw) (nw_String hw) D1_0 (by decide) dvL_String
  replace k := k |>.dup D1_3 rfl |>.aloadN D1_4 rfl rfl |>.getS (fl_8 hw) pr1 D1_5
  have s_b1 := Nat.le_trans z1 g1
  have n_b1 := Nat.le_trans nz s_b1
  have o3 := pr2.keep K1 nin0
  have z2 := k.sz
  obtain ⟨h2, K2, ⟨b2_3_2_2, f2_0, f2_1, f2_2⟩, k⟩ := (k.callI (w_10 hw) (I2 hw) (R_String__init__11 hw pr11 o3 pr3 pr4 pr5 pr6 pr7 pr8 pr9 O1 n_b1 pr10 pr12 pr13 pr14 pr15 pr16 pr17) D1_8 1 rfl).k0 (allS n_b1 all0)
  have s_b2_3_2_2 := Nat.le_trans z2 f2_0
  exact k.retA D1_11 rfl ⟨_, rfl, (K1.trans K2 (allS (Or.inr s_b1) all0)), b1, b2_3_2_2, rfl, s_b1, s_b2_3_2_2, (nlt' O1.lt f2_0), f2_1, f2_2⟩
theorem D15_152 : Dc J15 152 (.iload_n 1) 1 153 := by decide +kernel
theorem D15_153 : Dc J15 153 (.iconst 1) 1 154 := by decide +kernel
theorem D15_154 : Dc J15 154 .iadd 1 155 := by decide +kernel
theorem D15_155 : Dc J15 155 (.iload_n 2) 1 156 := by decide +kernel
theorem D15_156 : Dj J15 156 (.if_icmp .ge 127) 127 159 283 := by decide +kernel
theorem D15_283 : Dc J15 283 (.iload_n 1) 1 284 := by decide +kernel
theorem D15_284 : Dc J15 284 (.iload_n 2) 1 285 := by decide +kernel
theorem D15_285 : Dj J15 285 (.if_icmp .ge 40) 40 288 325 := by decide +kernel
theorem D15_288 : Dc J15 288 (.iload 6) 2 290 := by decide +kernel
theorem D15_290 : Dc J15 290 (.aload_n 0) 1 291 := by decide +kernel
theorem D15_291 : Dc J15 291 (.iload_n 1) 1 292 := by decide +kernel
theorem D15_292 : Dc J15 292 .baload 1 293 := by decide +kernel
theorem D15_293 : Dc J15 293 (.invokestatic 407) 3 296 := by decide +kernel
abbrev Y27 : MethodName := ⟨"java/lang/String", "isMalformed3_2", "(II)Z"⟩
abbrev J27 := jdk_42_method_31_code
abbrev C27 : Cond := .code Y27 J27 2 (some .boolean)
theorem D27_0 : Dc J27 0 (.iload_n 0) 1 1 := by decide +kernel
theorem D27_1 : Dc J27 1 (.bipush (-32)) 2 3 := by decide +kernel
theorem D27_3 : Dj J27 3 (.if_icmp .ne 14) 14 6 17 := by decide +kernel
theorem own_d17 {p1 v0 v1 v2 v3 v4 : Int32} (e0 : v0 = (p1 &&& 127)) (e1 : v1 = ((128 ||| v0).toInt8.toInt32)) (e2 : v2 = (v1 &&& 254)) (e3 : v3 = (v1 >>> ((5 : Int32) &&& 31))) (e4 : v4 = (v1 >>> ((4 : Int32) &&& 31))) (q0 : ¬ (v2 = 194)) (q1 : ¬ (v3 = (-2))) (q2 : v4 = (-2)) (q3 : v1 = (-32)) : v1 < 0 := by
  have := rng32 p1
  have : (127 : Int32).toInt = 127 := by decide
  have := e_mask e0 7 128
  have := e_hbN e1 7 128 128 (by omega)
  have : (254 : Int32).toInt = 254 := by decide
  have : v1.toInt % 256 = v1.toInt + 256 := by omega
  have := e_mask2 e2 1 7 256 2
  have : (194 : Int32).toInt = 194 := by decide
  have := i_neq q0
  have : (5 : Int32).toInt = 5 := by decide
  have := e_ishr e3 5 32
  have : (-2 : Int32).toInt = -2 := by decide
  have := i_neq q1
  have : (4 : Int32).toInt = 4 := by decide
  have := e_ishr e4 4 16
  have := i_eq q2
  have : (-32 : Int32).toInt = -32 := by decide
  have := i_eq q3
  have : (0 : Int32).toInt = 0 := by decide
  exact o_lt (by omega)
theorem D27_6 : Dc J27 6 (.iload_n 1) 1 7 := by decide +kernel
theorem D27_7 : Dc J27 7 (.sipush 224) 3 10 := by decide +kernel
theorem D27_10 : Dc J27 10 .iand 1 11 := by decide +kernel
theorem D27_11 : Dc J27 11 (.sipush 128) 3 14 := by decide +kernel
theorem D27_14 : Dj J27 14 (.if_icmp .eq 14) 14 17 28 := by decide +kernel
theorem own_d18 {p2 v0 v1 v2 : Int32} (e0 : v0 = (p2 &&& 127)) (e1 : v1 = (v0.toInt8.toInt32)) (e2 : v2 = (v1 &&& 224)) : ¬ (v2 = 128) := by
  have := rng32 p2
  have : (127 : Int32).toInt = 127 := by decide
  have := e_mask e0 7 128
  have := e_i2bN e1 (by omega)
  have : (224 : Int32).toInt = 224 := by decide
  have : v1.toInt % 256 = v1.toInt := by omega
  have := e_mask2 e2 5 3 256 32
  have : (128 : Int32).toInt = 128 := by decide
  exact o_neq (by omega)
theorem D27_17 : Dc J27 17 (.iload_n 1) 1 18 := by decide +kernel
theorem D27_18 : Dc J27 18 (.sipush 192) 3 21 := by decide +kernel
theorem D27_21 : Dc J27 21 .iand 1 22 := by decide +kernel
theorem D27_22 : Dc J27 22 (.sipush 128) 3 25 := by decide +kernel
theorem D27_25 : Dj J27 25 (.if_icmp .eq 7) 7 28 32 := by decide +kernel
theorem D27_28 : Dc J27 28 (.iconst 1) 1 29 := by decide +kernel
theorem D27_29 : Dj J27 29 (.goto 4) 4 32 33 := by decide +kernel
theorem D27_33 : Dc J27 33 .ireturn 1 34 := by decide +kernel
theorem PN27 : plainFor Y27 = true := plainFor_of_name pn_String
theorem ef_II_2 {x0 : Int32} {x1 : Int32}  (m : MethodId) : entryFrame m #[(.int x0), (.int x1)] 2 = mkF m 0 #[.val (.int x0), .val (.int x1)] [] := by
  first | (simp [entryFrame, mkF, argsToLocals, Value.category]; done) | rfl
theorem R_String_isMalformed3_2_2 {p1 p2 : Int32} (hw : HW a0 Z) (pr1 : p1 = (-32)) (pr2 : ¬ ((p2 &&& 224) = 128)) (pr3 : ¬ ((p2 &&& 192) = 128)) : Mt false [] l Y27 C27 (rmk 0 0 0 0) #[.int p1, .int p2] Z a0 h0 n0 (Pv h0 (.int 1)) := by
  refine Mt.go PN27 (Or.inl rfl) ef_II_2 fun k => ?_
  replace k := k |>.iloadN D27_0 rfl |>.bipush D27_1 (-32) |>.icmpNo D27_3 (teq pr1).2 |>.iloadN D27_6 rfl |>.sipush D27_7 224 |>.iand D27_10 rfl |>.sipush D27_11 128 |>.icmpNo D27_14 (feq pr2).1 |>.iloadN D27_17 rfl |>.sipush D27_18 192 |>.iand D27_21 rfl |>.sipush D27_22 128
  replace k := k |>.icmpNo D27_25 (feq pr3).1 |>.iconst D27_28 1 |>.goto D27_29
  exact k.retN (t := .boolean) D27_33 rfl (by simp) (z' := 1) (by decide) ⟨rfl, rfl⟩
abbrev w_184 (hw : HW a0 Z) := hw _ (List.mem_of_getElem? (i := 184) rfl)
abbrev w_186 (hw : HW a0 Z) := hw _ (List.mem_of_getElem? (i := 186) rfl)
theorem pd_II_r_Z : parseMethodDescriptor "(II)Z" = some ⟨[.int, .int], some .boolean⟩ := by decide +kernel
abbrev w_185 (hw : HW a0 Z) := hw _ (List.mem_of_getElem? (i := 185) rfl)
theorem S27 (hw : HW a0 Z) : SC Z a0 Y27 C27 2 (some .boolean) 2 := ⟨(w_185 hw), ⟨⟨_, Or.inl rfl⟩, (w_186 hw), (w_7 hw), by decide, _, _, pd_II_r_Z, rfl⟩⟩
theorem D15_296 : Dj J15 296 (.ifCond .eq 29) 29 299 325 := by decide +kernel
theorem D15_299 : Dc J15 299 (.iload 5) 2 301 := by decide +kernel
theorem D15_301 : Dj J15 301 (.ifCond .ne 10) 10 304 311 := by decide +kernel
theorem D15_311 : Dc J15 311 (.aload_n 3) 1 312 := by decide +kernel
theorem D15_312 : Dc J15 312 (.iload 4) 2 314 := by decide +kernel
theorem D15_314 : Dc J15 314 (.iinc 4 1) 3 317 := by decide +kernel
theorem D15_317 : Dc J15 317 (.ldc 132) 2 319 := by decide +kernel
theorem D15_319 : Dc J15 319 (.invokestatic 64) 3 322 := by decide +kernel
theorem D15_322 : Dj J15 322 (.goto (-322)) (-322) 325 0 := by decide +kernel
theorem R_String_decodeUTF8_UTF16_7 {a1 a2 : Addr} {p3 p4 : Int32} (hw : HW a0 Z) (pr1 : Ary Z h0 a1 ATB 2 (lv [.int p3, .int p4])) (pr2 : p3 < 0) (pr3 : ¬ ((p3 >>> ((5 : Int32) &&& 31)) = (-2))) (pr4 : (p3 >>> ((4 : Int32) &&& 31)) = (-2)) (pr5 : p3 = (-32)) (pr6 : ¬ ((p4 &&& 224) = 128)) (pr7 : ¬ ((p4 &&& 192) = 128)) (pr8 : Ary Z h0 a2 ATB 4 (lv [.int 0, .int 0, .int 0, .int 0])) (pr9 : n0 ≤ a2) (pr10 : TS_AD Z) (pr11 : TS_HI Z) (pr12 : TS_LO Z) (pr13 : a1 ≠ a2) (pr14 : ¬ (p4 < 0)) : Mt false [] l Y15 C15 (rmk 1 0 0 14) #[.ref a1, .int 0, .int 2, .ref a2, .int 0, .int 1] Z a0 h0 n0 (KpV h0 [a2] fun v h => v = (.int 2) ∧ Ary Z h a2 ATB 4 (lv [.int (-3), .int (-1), .int (((p4.toUInt32.toUInt16.toUInt32.toInt32) >>> ((0 : Int32) &&& 31)).toInt8.toInt32), .int (((p4.toUInt32.toUInt16.toUInt32.toInt32) >>> ((8 : Int32) &&& 31)).toInt8.toInt32)])) := by
  refine Mt.go PN15 (Or.inl rfl) ef_RIIRII_11_0_2_0_1 fun k => ?_
  replace k := k |>.iloadN D15_0 rfl |>.iloadN D15_1 rfl |>.icmpNo D15_2 (by decide) |>.aloadN D15_5 rfl rfl |>.iloadN D15_6 rfl |>.iinc D15_7 rfl (z := 1) (by decide) sto1 |>.bald pr1 D15_10 (i := 0) (by decide) lvg0 |>.istore D15_11 sto6 |>.iload D15_13 rfl |>.ifYes D15_15 ((if0 _ _).trans (tlt pr2).1) |>.iload D15_33 rfl |>.iconst D15_35 5
  replace k := k |>.ishr D15_36 rfl |>.bipush D15_37 (-2) |>.icmpYes D15_39 (feq pr3).2 |>.iload D15_143 rfl |>.iconst D15_145 4 |>.ishr D15_146 rfl |>.bipush D15_147 (-2) |>.icmpNo D15_149 (teq pr4).2 |>.iloadN D15_152 rfl |>.iconst D15_153 1 |>.iadd D15_154 (z := 2) (by decide) |>.iloadN D15_155 rfl
  replace k := k |>.icmpYes D15_156 (by decide) |>.iloadN D15_283 rfl |>.iloadN D15_284 rfl |>.icmpNo D15_285 (by decide) |>.iload D15_288 rfl |>.aloadN D15_290 rfl rfl |>.iloadN D15_291 rfl |>.bald pr1 D15_292 (i := 1) (by decide) lvg1
  replace k := (k.callS (w_184 hw) (S27 hw) (R_String_isMalformed3_2_2 hw pr5 pr6 pr7) D15_293 0 rfl).pv
  replace k := k |>.ifNo D15_296 (by decide) |>.iload D15_299 rfl |>.ifYes D15_301 (by decide) |>.aloadN D15_311 rfl rfl |>.iload D15_312 rfl |>.iinc D15_314 rfl (z := 1) (by decide) sto4 |>.ldcI (w_179 hw) D15_317
  obtain ⟨h2, K2, f2_0, k⟩ := (k.callS (w_146 hw) (S17 hw) (R_StringUTF16_putChar_1 hw pr10 pr11 pr8 pr9 pr12) D15_319 0 rfl).k0 (allS pr9 all0)
  replace k := k |>.goto D15_322 |>.iloadN D15_0 rfl |>.iloadN D15_1 rfl |>.icmpNo D15_2 (by decide) |>.aloadN D15_5 rfl rfl |>.iloadN D15_6 rfl |>.iinc D15_7 rfl (z := 2) (by decide) sto1
  have o3 := pr1.keep K2 (ninS pr13 nin0)
  replace k := k |>.bald o3 D15_10 (i := 1) (by decide) lvg1 |>.istore D15_11 sto6 |>.iload D15_13 rfl |>.ifNo D15_15 ((if0 _ _).trans (flt pr14).1) |>.aloadN D15_18 rfl rfl |>.iload D15_19 rfl |>.iinc D15_21 rfl (z := 2) (by decide) sto4 |>.iload D15_24 rfl |>.i2c D15_26 rfl
  obtain ⟨h4, K4, f4_0, k⟩ := (k.callS (w_146 hw) (S17 hw) (R_StringUTF16_putChar_2 hw pr10 pr11 f2_0 pr9 pr12) D15_27 0 rfl).k0 (allS pr9 all0)
  replace k := k |>.goto D15_30 |>.goto D15_618 |>.iloadN D15_0 rfl |>.iloadN D15_1 rfl |>.icmpYes D15_2 (by decide) |>.iload D15_621 rfl
  exact k.retI D15_623 rfl ⟨_, rfl, (K2.trans K4 (allS (Or.inl (List.mem_of_getElem? (i := 0) rfl)) all0)), rfl, f4_0⟩
theorem R_String__init__18 {a1 w_U8 a2 : Addr} {w_CS p3 p4 : Int32} {w_SF : Value} (hw : HW a0 Z) (pr1 : TS_UI Z w_U8) (pr2 : TS_CS Z w_CS) (pr3 : ¬ (w_CS = 0)) (pr4 : Ary Z h0 a2 ATB 2 (lv [.int p3, .int p4])) (pr5 : p3 < 0) (pr6 : ¬ ((p3 &&& 254) = 194)) (pr7 : w_SF.isRef = true) (pr8 : TS_SF Z w_SF) (pr9 : ¬ ((p3 >>> ((5 : Int32) &&& 31)) = (-2))) (pr10 : (p3 >>> ((4 : Int32) &&& 31)) = (-2)) (pr11 : p3 = (-32)) (pr12 : ¬ ((p4 &&& 224) = 128)) (pr13 : ¬ ((p4 &&& 192) = 128)) (pr14 : ¬ (p4 < 0)) (pr15 : TS_AD Z) (pr16 : TS_HI Z) (pr17 : TS_LO Z) (pr18 : Obj Z h0 a1 L_String [.null, .int 0]) (pr19 : n0 ≤ a1) : Mt false [] l Y4 C4 (rmk 5 2 6 76) #[.ref a1, .ref w_U8, .ref a2, .int 0, .int 2] Z a0 h0 n0 (K0 h0 [a1] fun h => ∃ b2_3 : Addr, h0.size ≤ b2_3 ∧ Obj Z h a1 L_String [.ref b2_3, .int 1] ∧ Ary Z h b2_3 ATB 4 (lv [.int (-3), .int (-1), .int (((p4.toUInt32.toUInt16.toUInt32.toInt32) >>> ((0 : Int32) &&& 31)).toInt8.toInt32), .int (((p4.toUInt32.toUInt16.toUInt32.toInt32) >>> ((8 : Int32) &&& 31)).toInt8.toInt32)])) := by
  refine Mt.go PN4 (Or.inr ⟨_, rfl⟩) ef_RRRII_11_0_2 fun k => ?_
  have nz := k.n0le
  replace k := k |>.aloadN D4_0 rfl rfl |>.initO (w_23 hw) (w_24 hw) (w_25 hw) D4_1 0 |>.iload D4_4 rfl |>.ifYes D4_6 (by decide) |>.aloadN D4_30 rfl rfl |>.getS (fl_46 hw) pr1 D4_31 |>.acmpNo D4_34 rfl rfl true (decide_eq_true rfl) (by decide) |>.getS (fl_48 hw) pr2 D4_37 |>.ifNo D4_40 ((if0 _ _).trans (feq pr3).1) |>.aloadN D4_43 rfl rfl |>.iloadN D4_44 rfl |>.iload D4_45 rfl
  replace k := (k.callS (w_49 hw) (S5 hw) (R_StringCoding_countPositives_1 hw pr4 pr5) D4_47 0 rfl).pv
  replace k := k |>.istore D4_50 sto5 |>.iload D4_52 rfl |>.iload D4_54 rfl |>.icmpYes D4_56 (by decide) |>.aloadN D4_78 rfl rfl |>.iloadN D4_79 rfl |>.iloadN D4_80 rfl |>.iload D4_81 rfl |>.iadd D4_83 (z := 2) (by decide)
  have z2 := k.sz
  obtain ⟨_, h2, K2, ⟨b1_2, rfl, f2_0, f2_1⟩, k⟩ := (k.callS (w_53 hw) (S6 hw) (R_Arrays_copyOfRange_1 hw pr4) D4_84 0 rfl).kv
  replace k := k |>.astore D4_87 rfl sto6 |>.iload D4_89 rfl |>.istore D4_91 sto7 |>.iload D4_93 rfl |>.iload D4_95 rfl |>.icmpNo D4_97 (by decide) |>.aload D4_100 rfl rfl |>.iload D4_102 rfl |>.iinc D4_104 rfl (z := 1) (by decide) sto7 |>.bald f2_1 D4_107 (i := 0) (by decide) lvg0 |>.istore D4_108 sto8 |>.iload D4_110 rfl
  replace k := k |>.ifYes D4_112 ((if0 _ _).trans (tlt pr5).1) |>.iload D4_129 rfl |>.sipush D4_131 254 |>.iand D4_134 rfl |>.sipush D4_135 194 |>.icmpYes D4_138 (feq pr6).2 |>.iinc D4_184 rfl (z := 0) (by decide) sto7 |>.goto D4_187 |>.iload D4_190 rfl |>.iload D4_192 rfl |>.icmpYes D4_194 (by decide) |>.iload D4_226 rfl
  have z3 := k.sz
  obtain ⟨_, h3, K3, ⟨b2_3, rfl, f3_0, f3_1⟩, k⟩ := (k.callS (w_100 hw) (S7 hw) (R_StringUTF16_newBytesFor_1 hw) D4_228 0 rfl).kv
  replace k := k |>.astore D4_231 rfl sto8 |>.aload D4_233 rfl rfl |>.iconst D4_235 0 |>.aload D4_236 rfl rfl |>.iconst D4_238 0 |>.iload D4_239 rfl
  replace k := (k.callS (w_108 hw) (S9 hw) (R_StringLatin1_inflate_1 hw f3_1 pr7 pr8) D4_241 0 rfl).p0
  replace k := k |>.aload D4_244 rfl rfl |>.iload D4_246 rfl |>.iload D4_248 rfl |>.aload D4_250 rfl rfl |>.iload D4_252 rfl |>.iconst D4_254 1
  have s_b2_3 := Nat.le_trans z3 f3_0
  have n_b2_3 := Nat.le_trans nz s_b2_3
  have o6 := f2_1.keep K3 nin0
  obtain ⟨_, h5, K5, ⟨rfl, f5_0⟩, k⟩ := (k.callS (w_126 hw) (S15 hw) (R_String_decodeUTF8_UTF16_7 hw o6 pr5 pr9 pr10 pr11 pr12 pr13 f3_1 n_b2_3 pr15 pr16 pr17 (nlt f2_1.lt f3_0) pr14) D4_255 0 rfl).kv (allS n_b2_3 all0)
  replace k := k |>.istore D4_258 sto5 |>.iload D4_260 rfl |>.iload D4_262 rfl |>.icmpYes D4_264 (by decide) |>.aloadN D4_278 rfl rfl |>.aload D4_279 rfl rfl
  have o7 := ((pr18.keep K2 nin0).keep K3 nin0).keep K5 (ninS (nlt pr18.lt s_b2_3) nin0)
  obtain ⟨h8, K8, O8, k⟩ := k.putF (fl_31 hw) (pw_String_i_String_value hw) o7 0 pr19 (Or.inl rfl) D4_281 rfl rfl rfl ls0
  replace k := k |>.aloadN D4_284 rfl rfl |>.iconst D4_285 1
  obtain ⟨h9, K9, O9, k⟩ := k.putN (fp_32 hw) (pw_String_i_String_coder hw) O8 1 pr19 (Or.inl rfl) D4_286 rfl (v' := (.int 1)) (by decide) (by decide) ls1
  replace k := k |>.goto D4_289
  have o10 := (f5_0.keep K8 (ninS (nlt' pr18.lt s_b2_3) nin0)).keep K9 (ninS (nlt' pr18.lt s_b2_3) nin0)
  exact k.ret0 D4_879 rfl ⟨rfl, ((((((Keep.refl h0 [a1]).trans K2 all0).trans K3 all0).trans K5 (allS (Or.inr s_b2_3) all0)).trans K8 (allS (Or.inl (List.mem_of_getElem? (i := 0) rfl)) all0)).trans K9 (allS (Or.inl (List.mem_of_getElem? (i := 0) rfl)) all0)), b2_3, s_b2_3, O9, o10⟩
theorem R_String__init__17 {a1 a2 w_U8 : Addr} {p3 p4 w_CS : Int32} {w_SF : Value} (hw : HW a0 Z) (pr1 : Obj Z Z.heap w_U8 L_UTF_8 []) (pr2 : Ary Z h0 a2 ATB 2 (lv [.int p3, .int p4])) (pr3 : ¬ (w_CS = 0)) (pr4 : p3 < 0) (pr5 : ¬ ((p3 &&& 254) = 194)) (pr6 : ¬ ((p3 >>> ((5 : Int32) &&& 31)) = (-2))) (pr7 : (p3 >>> ((4 : Int32) &&& 31)) = (-2)) (pr8 : p3 = (-32)) (pr9 : ¬ ((p4 &&& 224) = 128)) (pr10 : ¬ ((p4 &&& 192) = 128)) (pr11 : ¬ (p4 < 0)) (pr12 : Obj Z h0 a1 L_String [.null, .int 0]) (pr13 : n0 ≤ a1) (pr14 : w_SF.isRef = true) (pr15 : TS_UI Z w_U8) (pr16 : TS_CS Z w_CS) (pr17 : TS_SF Z w_SF) (pr18 : TS_AD Z) (pr19 : TS_HI Z) (pr20 : TS_LO Z) : Mt false [] l Y2 C2 (rmk 6 2 6 98) #[.ref a1, .ref a2, .ref w_U8] Z a0 h0 n0 (K0 h0 [a1] fun h => ∃ b2_3_2 : Addr, h0.size ≤ b2_3_2 ∧ Obj Z h a1 L_String [.ref b2_3_2, .int 1] ∧ Ary Z h b2_3_2 ATB 4 (lv [.int (-3), .int (-1), .int (((p4.toUInt32.toUInt16.toUInt32.toInt32) >>> ((0 : Int32) &&& 31)).toInt8.toInt32), .int (((p4.toUInt32.toUInt16.toUInt32.toInt32) >>> ((8 : Int32) &&& 31)).toInt8.toInt32)])) := by
  refine Mt.go PN2 (Or.inl rfl) ef_RRR_3 fun k => ?_
  replace k := k |>.aloadN D2_0 rfl rfl |>.aloadN D2_1 rfl rfl
  replace k := (k.callS (w_13 hw) (S3 hw) (R_Objects_requireNonNull_1 hw) D2_2 1 rfl).pv
  replace k := k |>.castY (w_17 hw) (Ins.of_exa (pr1.ext k.old.2).exa (w_18 hw)) D2_5 |>.aloadN D2_8 rfl rfl |>.iconst D2_9 0 |>.aloadN D2_10 rfl rfl |>.alen pr2 D2_11 (z := 2) (by decide)
  have z2 := k.sz
  obtain ⟨h2, K2, ⟨b2_3_2, f2_0, f2_1, f2_2⟩, k⟩ := (k.callI (w_19 hw) (I4 hw) (R_String__init__18 hw pr15 pr16 pr3 pr2 pr4 pr5 pr14 pr17 pr6 pr7 pr8 pr9 pr10 pr11 pr18 pr19 pr20 pr12 pr13) D2_12 0 rfl).k0 (allS pr13 all0)
  have s_b2_3_2 := Nat.le_trans z2 f2_0
  exact k.ret0 D2_15 rfl ⟨rfl, K2, b2_3_2, s_b2_3_2, f2_1, f2_2⟩
theorem R_Utf8_decodeName_9 {a1 w_U8 : Addr} {p2 p3 w_CS : Int32} {w_SF : Value} (hw : HW a0 Z) (pr1 : TS_U8 Z w_U8) (pr2 : Ary Z h0 a1 ATB 2 (lv [.int p2, .int p3])) (pr3 : ¬ (w_CS = 0)) (pr4 : p2 < 0) (pr5 : ¬ ((p2 &&& 254) = 194)) (pr6 : ¬ ((p2 >>> ((5 : Int32) &&& 31)) = (-2))) (pr7 : (p2 >>> ((4 : Int32) &&& 31)) = (-2)) (pr8 : p2 = (-32)) (pr9 : ¬ ((p3 &&& 224) = 128)) (pr10 : ¬ ((p3 &&& 192) = 128)) (pr11 : ¬ (p3 < 0)) (pr12 : w_SF.isRef = true) (pr13 : Obj Z Z.heap w_U8 L_UTF_8 []) (pr14 : TS_UI Z w_U8) (pr15 : TS_CS Z w_CS) (pr16 : TS_SF Z w_SF) (pr17 : TS_AD Z) (pr18 : TS_HI Z) (pr19 : TS_LO Z) : Mt false [] l Y1 C1 (rmk 7 3 10 113) #[.ref a1] Z a0 h0 n0 (KpV h0 [] fun v h => ∃ b1 b2_3_2_2 : Addr, v = (.ref b1) ∧ h0.size ≤ b1 ∧ h0.size ≤ b2_3_2_2 ∧ b2_3_2_2 ≠ b1 ∧ Obj Z h b1 L_String [.ref b2_3_2_2, .int 1] ∧ Ary Z h b2_3_2_2 ATB 4 (lv [.int (-3), .int (-1), .int (((p3.toUInt32.toUInt16.toUInt32.toInt32) >>> ((0 : Int32) &&& 31)).toInt8.toInt32), .int (((p3.toUInt32.toUInt16.toUInt32.toInt32) >>> ((8 : Int32) &&& 31)).toInt8.toInt32)])) := by
  refine Mt.go PN1 (Or.inl rfl) ef_R_1 fun k => ?_
  have nz := k.n0le
  have z1 := k.sz
  obtain ⟨b1, h1, g1, K1, O1, k⟩ := k.new (w_5 hw) (nw_String hw) D1_0 (by decide) dvL_String
  replace k := k |>.dup D1_3 rfl |>.aloadN D1_4 rfl rfl |>.getS (fl_8 hw) pr1 D1_5
  have s_b1 := Nat.le_trans z1 g1
  have n_b1 := Nat.le_trans nz s_b1
  have o3 := pr2.keep K1 nin0
  have z2 := k.sz
  obtain ⟨h2, K2, ⟨b2_3_2_2, f2_0, f2_1, f2_2⟩, k⟩ := (k.callI (w_10 hw) (I2 hw) (R_String__init__17 hw pr13 o3 pr3 pr4 pr5 pr6 pr7 pr8 pr9 pr10 pr11 O1 n_b1 pr12 pr14 pr15 pr16 pr17 pr18 pr19) D1_8 1 rfl).k0 (allS n_b1 all0)
  have s_b2_3_2_2 := Nat.le_trans z2 f2_0
  exact k.retA D1_11 rfl ⟨_, rfl, (K1.trans K2 (allS (Or.inr s_b1) all0)), b1, b2_3_2_2, rfl, s_b1, s_b2_3_2_2, (nlt' O1.lt f2_0), f2_1, f2_2⟩
theorem own_d19 {p1 v0 v1 v2 v3 v4 : Int32} (e0 : v0 = (p1 &&& 127)) (e1 : v1 = ((128 ||| v0).toInt8.toInt32)) (e2 : v2 = (v1 &&& 254)) (e3 : v3 = (v1 >>> ((5 : Int32) &&& 31))) (e4 : v4 = (v1 >>> ((4 : Int32) &&& 31))) (q0 : ¬ (v2 = 194)) (q1 : ¬ (v3 = (-2))) (q2 : v4 = (-2)) (q3 : ¬ (v1 = (-32))) : v1 < 0 := by
  have := rng32 p1
  have : (127 : Int32).toInt = 127 := by decide
  have := e_mask e0 7 128
  have := e_hbN e1 7 128 128 (by omega)
  have : (254 : Int32).toInt = 254 := by decide
  have : v1.toInt % 256 = v1.toInt + 256 := by omega
  have := e_mask2 e2 1 7 256 2
  have : (194 : Int32).toInt = 194 := by decide
  have := i_neq q0
  have : (5 : Int32).toInt = 5 := by decide
  have := e_ishr e3 5 32
  have : (-2 : Int32).toInt = -2 := by decide
  have := i_neq q1
  have : (4 : Int32).toInt = 4 := by decide
  have := e_ishr e4 4 16
  have := i_eq q2
  have : (-32 : Int32).toInt = -32 := by decide
  have := i_neq q3
  have : (0 : Int32).toInt = 0 := by decide
  exact o_lt (by omega)
theorem R_String_isMalformed3_2_3 {p1 p2 : Int32} (hw : HW a0 Z) (pr1 : ¬ (p1 = (-32))) (pr2 : ¬ ((p2 &&& 192) = 128)) : Mt false [] l Y27 C27 (rmk 0 0 0 0) #[.int p1, .int p2] Z a0 h0 n0 (Pv h0 (.int 1)) := by
  refine Mt.go PN27 (Or.inl rfl) ef_II_2 fun k => ?_
  replace k := k |>.iloadN D27_0 rfl |>.bipush D27_1 (-32) |>.icmpYes D27_3 (feq pr1).2 |>.iloadN D27_17 rfl |>.sipush D27_18 192 |>.iand D27_21 rfl |>.sipush D27_22 128 |>.icmpNo D27_25 (feq pr2).1 |>.iconst D27_28 1 |>.goto D27_29
  exact k.retN (t := .boolean) D27_33 rfl (by simp) (z' := 1) (by decide) ⟨rfl, rfl⟩
theorem R_String_decodeUTF8_UTF16_8 {a1 a2 : Addr} {p3 p4 : Int32} (hw : HW a0 Z) (pr1 : Ary Z h0 a1 ATB 2 (lv [.int p3, .int p4])) (pr2 : p3 < 0) (pr3 : ¬ ((p3 >>> ((5 : Int32) &&& 31)) = (-2))) (pr4 : (p3 >>> ((4 : Int32) &&& 31)) = (-2)) (pr5 : ¬ (p3 = (-32))) (pr6 : ¬ ((p4 &&& 192) = 128)) (pr7 : Ary Z h0 a2 ATB 4 (lv [.int 0, .int 0, .int 0, .int 0])) (pr8 : n0 ≤ a2) (pr9 : TS_AD Z) (pr10 : TS_HI Z) (pr11 : TS_LO Z) (pr12 : a1 ≠ a2) (pr13 : ¬ (p4 < 0)) : Mt false [] l Y15 C15 (rmk 1 0 0 14) #[.ref a1, .int 0, .int 2, .ref a2, .int 0, .int 1] Z a0 h0 n0 (KpV h0 [a2] fun v h => v = (.int 2) ∧ Ary Z h a2 ATB 4 (lv [.int (-3), .int (-1), .int (((p4.toUInt32.toUInt16.toUInt32.toInt32) >>> ((0 : Int32) &&& 31)).toInt8.toInt32), .int (((p4.toUInt32.toUInt16.toUInt32.toInt32) >>> ((8 : Int32) &&& 31)).toInt8.toInt32)])) := by
  refine Mt.go PN15 (Or.inl rfl) ef_RIIRII_11_0_2_0_1 fun k => ?_
  replace k := k |>.iloadN D15_0 rfl |>.iloadN D15_1 rfl |>.icmpNo D15_2 (by decide) |>.aloadN D15_5 rfl rfl |>.iloadN D15_6 rfl |>.iinc D15_7 rfl (z := 1) (by decide) sto1 |>.bald pr1 D15_10 (i := 0) (by decide) lvg0 |>.istore D15_11 sto6 |>.iload D15_13 rfl |>.ifYes D15_15 ((if0 _ _).trans (tlt pr2).1) |>.iload D15_33 rfl |>.iconst D15_35 5
  replace k := k |>.ishr D15_36 rfl |>.bipush D15_37 (-2) |>.icmpYes D15_39 (feq pr3).2 |>.iload D15_143 rfl |>.iconst D15_145 4 |>.ishr D15_146 rfl |>.bipush D15_147 (-2) |>.icmpNo D15_149 (teq pr4).2 |>.iloadN D15_152 rfl |>.iconst D15_153 1 |>.iadd D15_154 (z := 2) (by decide) |>.iloadN D15_155 rfl
  replace k := k |>.icmpYes D15_156 (by decide) |>.iloadN D15_283 rfl |>.iloadN D15_284 rfl |>.icmpNo D15_285 (by decide) |>.iload D15_288 rfl |>.aloadN D15_290 rfl rfl |>.iloadN D15_291 rfl |>.bald pr1 D15_292 (i := 1) (by decide) lvg1
  replace k := (k.callS (w_184 hw) (S27 hw) (R_String_isMalformed3_2_3 hw pr5 pr6) D15_293 0 rfl).pv
  replace k := k |>.ifNo D15_296 (by decide) |>.iload D15_299 rfl |>.ifYes D15_301 (by decide) |>.aloadN D15_311 rfl rfl |>.iload D15_312 rfl |>.iinc D15_314 rfl (z := 1) (by decide) sto4 |>.ldcI (w_179 hw) D15_317
  obtain ⟨h2, K2, f2_0, k⟩ := (k.callS (w_146 hw) (S17 hw) (R_StringUTF16_putChar_1 hw pr9 pr10 pr7 pr8 pr11) D15_319 0 rfl).k0 (allS pr8 all0)
  replace k := k |>.goto D15_322 |>.iloadN D15_0 rfl |>.iloadN D15_1 rfl |>.icmpNo D15_2 (by decide) |>.aloadN D15_5 rfl rfl |>.iloadN D15_6 rfl |>.iinc D15_7 rfl (z := 2) (by decide) sto1
  have o3 := pr1.keep K2 (ninS pr12 nin0)
  replace k := k |>.bald o3 D15_10 (i := 1) (by decide) lvg1 |>.istore D15_11 sto6 |>.iload D15_13 rfl |>.ifNo D15_15 ((if0 _ _).trans (flt pr13).1) |>.aloadN D15_18 rfl rfl |>.iload D15_19 rfl |>.iinc D15_21 rfl (z := 2) (by decide) sto4 |>.iload D15_24 rfl |>.i2c D15_26 rfl
  obtain ⟨h4, K4, f4_0, k⟩ := (k.callS (w_146 hw) (S17 hw) (R_StringUTF16_putChar_2 hw pr9 pr10 f2_0 pr8 pr11) D15_27 0 rfl).k0 (allS pr8 all0)
  replace k := k |>.goto D15_30 |>.goto D15_618 |>.iloadN D15_0 rfl |>.iloadN D15_1 rfl |>.icmpYes D15_2 (by decide) |>.iload D15_621 rfl
  exact k.retI D15_623 rfl ⟨_, rfl, (K2.trans K4 (allS (Or.inl (List.mem_of_getElem? (i := 0) rfl)) all0)), rfl, f4_0⟩
theorem R_String__init__20 {a1 w_U8 a2 : Addr} {w_CS p3 p4 : Int32} {w_SF : Value} (hw : HW a0 Z) (pr1 : TS_UI Z w_U8) (pr2 : TS_CS Z w_CS) (pr3 : ¬ (w_CS = 0)) (pr4 : Ary Z h0 a2 ATB 2 (lv [.int p3, .int p4])) (pr5 : p3 < 0) (pr6 : ¬ ((p3 &&& 254) = 194)) (pr7 : w_SF.isRef = true) (pr8 : TS_SF Z w_SF) (pr9 : ¬ ((p3 >>> ((5 : Int32) &&& 31)) = (-2))) (pr10 : (p3 >>> ((4 : Int32) &&& 31)) = (-2)) (pr11 : ¬ (p3 = (-32))) (pr12 : ¬ ((p4 &&& 192) = 128)) (pr13 : ¬ (p4 < 0)) (pr14 : TS_AD Z) (pr15 : TS_HI Z) (pr16 : TS_LO Z) (pr17 : Obj Z h0 a1 L_String [.null, .int 0]) (pr18 : n0 ≤ a1) : Mt false [] l Y4 C4 (rmk 5 2 6 76) #[.ref a1, .ref w_U8, .ref a2, .int 0, .int 2] Z a0 h0 n0 (K0 h0 [a1] fun h => ∃ b2_3 : Addr, h0.size ≤ b2_3 ∧ Obj Z h a1 L_String [.ref b2_3, .int 1] ∧ Ary Z h b2_3 ATB 4 (lv [.int (-3), .int (-1), .int (((p4.toUInt32.toUInt16.toUInt32.toInt32) >>> ((0 : Int32) &&& 31)).toInt8.toInt32), .int (((p4.toUInt32.toUInt16.toUInt32.toInt32) >>> ((8 : Int32) &&& 31)).toInt8.toInt32)])) := by
  refine Mt.go PN4 (Or.inr ⟨_, rfl⟩) ef_RRRII_11_0_2 fun k => ?_
  have nz := k.n0le
  replace k := k |>.aloadN D4_0 rfl rfl |>.initO (w_23 hw) (w_24 hw) (w_25 hw) D4_1 0 |>.iload D4_4 rfl |>.ifYes D4_6 (by decide) |>.aloadN D4_30 rfl rfl |>.getS (fl_46 hw) pr1 D4_31 |>.acmpNo D4_34 rfl rfl true (decide_eq_true rfl) (by decide) |>.getS (fl_48 hw) pr2 D4_37 |>.ifNo D4_40 ((if0 _ _).trans (feq pr3).1) |>.aloadN D4_43 rfl rfl |>.iloadN D4_44 rfl |>.iload D4_45 rfl
  replace k := (k.callS (w_49 hw) (S5 hw) (R_StringCoding_countPositives_1 hw pr4 pr5) D4_47 0 rfl).pv
  replace k := k |>.istore D4_50 sto5 |>.iload D4_52 rfl |>.iload D4_54 rfl |>.icmpYes D4_56 (by decide) |>.aloadN D4_78 rfl rfl |>.iloadN D4_79 rfl |>.iloadN D4_80 rfl |>.iload D4_81 rfl |>.iadd D4_83 (z := 2) (by decide)
  have z2 := k.sz
  obtain ⟨_, h2, K2, ⟨b1_2, rfl, f2_0, f2_1⟩, k⟩ := (k.callS (w_53 hw) (S6 hw) (R_Arrays_copyOfRange_1 hw pr4) D4_84 0 rfl).kv
  replace k := k |>.astore D4_87 rfl sto6 |>.iload D4_89 rfl |>.istore D4_91 sto7 |>.iload D4_93 rfl |>.iload D4_95 rfl |>.icmpNo D4_97 (by decide) |>.aload D4_100 rfl rfl |>.iload D4_102 rfl |>.iinc D4_104 rfl (z := 1) (by decide) sto7 |>.bald f2_1 D4_107 (i := 0) (by decide) lvg0 |>.istore D4_108 sto8 |>.iload D4_110 rfl
  replace k := k |>.ifYes D4_112 ((if0 _ _).trans (tlt pr5).1) |>.iload D4_129 rfl |>.sipush D4_131 254 |>.iand D4_134 rfl |>.sipush D4_135 194 |>.icmpYes D4_138 (feq pr6).2 |>.iinc D4_184 rfl (z := 0) (by decide) sto7 |>.goto D4_187 |>.iload D4_190 rfl |>.iload D4_192 rfl |>.icmpYes D4_194 (by decide) |>.iload D4_226 rfl
  have z3 := k.sz
  obtain ⟨_, h3, K3, ⟨b2_3, rfl, f3_0, f3_1⟩, k⟩ := (k.callS (w_100 hw) (S7 hw) (R_StringUTF16_newBytesFor_1 hw) D4_228 0 rfl).kv
  replace k := k |>.astore D4_231 rfl sto8 |>.aload D4_233 rfl rfl |>.iconst D4_235 0 |>.aload D4_236 rfl rfl |>.iconst D4_238 0 |>.iload D4_239 rfl
  replace k := (k.callS (w_108 hw) (S9 hw) (R_StringLatin1_inflate_1 hw f3_1 pr7 pr8) D4_241 0 rfl).p0
  replace k := k |>.aload D4_244 rfl rfl |>.iload D4_246 rfl |>.iload D4_248 rfl |>.aload D4_250 rfl rfl |>.iload D4_252 rfl |>.iconst D4_254 1
  have s_b2_3 := Nat.le_trans z3 f3_0
  have n_b2_3 := Nat.le_trans nz s_b2_3
  have o6 := f2_1.keep K3 nin0
  obtain ⟨_, h5, K5, ⟨rfl, f5_0⟩, k⟩ := (k.callS (w_126 hw) (S15 hw) (R_String_decodeUTF8_UTF16_8 hw o6 pr5 pr9 pr10 pr11 pr12 f3_1 n_b2_3 pr14 pr15 pr16 (nlt f2_1.lt f3_0) pr13) D4_255 0 rfl).kv (allS n_b2_3 all0)
  replace k := k |>.istore D4_258 sto5 |>.iload D4_260 rfl |>.iload D4_262 rfl |>.icmpYes D4_264 (by decide) |>.aloadN D4_278 rfl rfl |>.aload D4_279 rfl rfl
  have o7 := ((pr17.keep K2 nin0).keep K3 nin0).keep K5 (ninS (nlt pr17.lt s_b2_3) nin0)
  obtain ⟨h8, K8, O8, k⟩ := k.putF (fl_31 hw) (pw_String_i_String_value hw) o7 0 pr18 (Or.inl rfl) D4_281 rfl rfl rfl ls0
  replace k := k |>.aloadN D4_284 rfl rfl |>.iconst D4_285 1
  obtain ⟨h9, K9, O9, k⟩ := k.putN (fp_32 hw) (pw_String_i_String_coder hw) O8 1 pr18 (Or.inl rfl) D4_286 rfl (v' := (.int 1)) (by decide) (by decide) ls1
  replace k := k |>.goto D4_289
  have o10 := (f5_0.keep K8 (ninS (nlt' pr17.lt s_b2_3) nin0)).keep K9 (ninS (nlt' pr17.lt s_b2_3) nin0)
  exact k.ret0 D4_879 rfl ⟨rfl, ((((((Keep.refl h0 [a1]).trans K2 all0).trans K3 all0).trans K5 (allS (Or.inr s_b2_3) all0)).trans K8 (allS (Or.inl (List.mem_of_getElem? (i := 0) rfl)) all0)).trans K9 (allS (Or.inl (List.mem_of_getElem? (i := 0) rfl)) all0)), b2_3, s_b2_3, O9, o10⟩
theorem R_String__init__19 {a1 a2 w_U8 : Addr} {p3 p4 w_CS : Int32} {w_SF : Value} (hw : HW a0 Z) (pr1 : Obj Z Z.heap w_U8 L_UTF_8 []) (pr2 : Ary Z h0 a2 ATB 2 (lv [.int p3, .int p4])) (pr3 : ¬ (w_CS = 0)) (pr4 : p3 < 0) (pr5 : ¬ ((p3 &&& 254) = 194)) (pr6 : ¬ ((p3 >>> ((5 : Int32) &&& 31)) = (-2))) (pr7 : (p3 >>> ((4 : Int32) &&& 31)) = (-2)) (pr8 : ¬ (p3 = (-32))) (pr9 : ¬ ((p4 &&& 192) = 128)) (pr10 : ¬ (p4 < 0)) (pr11 : Obj Z h0 a1 L_String [.null, .int 0]) (pr12 : n0 ≤ a1) (pr13 : w_SF.isRef = true) (pr14 : TS_UI Z w_U8) (pr15 : TS_CS Z w_CS) (pr16 : TS_SF Z w_SF) (pr17 : TS_AD Z) (pr18 : TS_HI Z) (pr19 : TS_LO Z) : Mt false [] l Y2 C2 (rmk 6 2 6 98) #[.ref a1, .ref a2, .ref w_U8] Z a0 h0 n0 (K0 h0 [a1] fun h => ∃ b2_3_2 : Addr, h0.size ≤ b2_3_2 ∧ Obj Z h a1 L_String [.ref b2_3_2, .int 1] ∧ Ary Z h b2_3_2 ATB 4 (lv [.int (-3), .int (-1), .int (((p4.toUInt32.toUInt16.toUInt32.toInt32) >>> ((0 : Int32) &&& 31)).toInt8.toInt32), .int (((p4.toUInt32.toUInt16.toUInt32.toInt32) >>> ((8 : Int32) &&& 31)).toInt8.toInt32)])) := by
  refine Mt.go PN2 (Or.inl rfl) ef_RRR_3 fun k => ?_
  replace k := k |>.aloadN D2_0 rfl rfl |>.aloadN D2_1 rfl rfl
  replace k := (k.callS (w_13 hw) (S3 hw) (R_Objects_requireNonNull_1 hw) D2_2 1 rfl).pv
  replace k := k |>.castY (w_17 hw) (Ins.of_exa (pr1.ext k.old.2).exa (w_18 hw)) D2_5 |>.aloadN D2_8 rfl rfl |>.iconst D2_9 0 |>.aloadN D2_10 rfl rfl |>.alen pr2 D2_11 (z := 2) (by decide)
  have z2 := k.sz
  obtain ⟨h2, K2, ⟨b2_3_2, f2_0, f2_1, f2_2⟩, k⟩ := (k.callI (w_19 hw) (I4 hw) (R_String__init__20 hw pr14 pr15 pr3 pr2 pr4 pr5 pr13 pr16 pr6 pr7 pr8 pr9 pr10 pr17 pr18 pr19 pr11 pr12) D2_12 0 rfl).k0 (allS pr12 all0)
  have s_b2_3_2 := Nat.le_trans z2 f2_0
  exact k.ret0 D2_15 rfl ⟨rfl, K2, b2_3_2, s_b2_3_2, f2_1, f2_2⟩
theorem R_Utf8_decodeName_10 {a1 w_U8 : Addr} {p2 p3 w_CS : Int32} {w_SF : Value} (hw : HW a0 Z) (pr1 : TS_U8 Z w_U8) (pr2 : Ary Z h0 a1 ATB 2 (lv [.int p2, .int p3])) (pr3 : ¬ (w_CS = 0)) (pr4 : p2 < 0) (pr5 : ¬ ((p2 &&& 254) = 194)) (pr6 : ¬ ((p2 >>> ((5 : Int32) &&& 31)) = (-2))) (pr7 : (p2 >>> ((4 : Int32) &&& 31)) = (-2)) (pr8 : ¬ (p2 = (-32))) (pr9 : ¬ ((p3 &&& 192) = 128)) (pr10 : ¬ (p3 < 0)) (pr11 : w_SF.isRef = true) (pr12 : Obj Z Z.heap w_U8 L_UTF_8 []) (pr13 : TS_UI Z w_U8) (pr14 : TS_CS Z w_CS) (pr15 : TS_SF Z w_SF) (pr16 : TS_AD Z) (pr17 : TS_HI Z) (pr18 : TS_LO Z) : Mt false [] l Y1 C1 (rmk 7 3 10 113) #[.ref a1] Z a0 h0 n0 (KpV h0 [] fun v h => ∃ b1 b2_3_2_2 : Addr, v = (.ref b1) ∧ h0.size ≤ b1 ∧ h0.size ≤ b2_3_2_2 ∧ b2_3_2_2 ≠ b1 ∧ Obj Z h b1 L_String [.ref b2_3_2_2, .int 1] ∧ Ary Z h b2_3_2_2 ATB 4 (lv [.int (-3), .int (-1), .int (((p3.toUInt32.toUInt16.toUInt32.toInt32) >>> ((0 : Int32) &&& 31)).toInt8.toInt32), .int (((p3.toUInt32.toUInt16.toUInt32.toInt32) >>> ((8 : Int32) &&& 31)).toInt8.toInt32)])) := by
  refine Mt.go PN1 (Or.inl rfl) ef_R_1 fun k => ?_
  have nz := k.n0le
  have z1 := k.sz
  obtain ⟨b1, h1, g1, K1, O1, k⟩ := k.new (w_5 hw) (nw_String hw) D1_0 (by decide) dvL_String
  replace k := k |>.dup D1_3 rfl |>.aloadN D1_4 rfl rfl |>.getS (fl_8 hw) pr1 D1_5
  have s_b1 := Nat.le_trans z1 g1
  have n_b1 := Nat.le_trans nz s_b1
  have o3 := pr2.keep K1 nin0
  have z2 := k.sz
  obtain ⟨h2, K2, ⟨b2_3_2_2, f2_0, f2_1, f2_2⟩, k⟩ := (k.callI (w_10 hw) (I2 hw) (R_String__init__19 hw pr12 o3 pr3 pr4 pr5 pr6 pr7 pr8 pr9 pr10 O1 n_b1 pr11 pr13 pr14 pr15 pr16 pr17 pr18) D1_8 1 rfl).k0 (allS n_b1 all0)
  have s_b2_3_2_2 := Nat.le_trans z2 f2_0
  exact k.retA D1_11 rfl ⟨_, rfl, (K1.trans K2 (allS (Or.inr s_b1) all0)), b1, b2_3_2_2, rfl, s_b1, s_b2_3_2_2, (nlt' O1.lt f2_0), f2_1, f2_2⟩
theorem D15_358 : Dc J15 358 (.iload_n 1) 1 359 := by decide +kernel
theorem D15_359 : Dc J15 359 (.iconst 2) 1 360 := by decide +kernel
theorem D15_360 : Dc J15 360 .iadd 1 361 := by decide +kernel
theorem D15_361 : Dc J15 361 (.iload_n 2) 1 362 := by decide +kernel
theorem D15_362 : Dj J15 362 (.if_icmp .ge 128) 128 365 490 := by decide +kernel
theorem D15_490 : Dc J15 490 (.iload 6) 2 492 := by decide +kernel
theorem D15_492 : Dc J15 492 (.sipush 255) 3 495 := by decide +kernel
theorem D15_495 : Dc J15 495 .iand 1 496 := by decide +kernel
theorem D15_496 : Dc J15 496 (.istore 6) 2 498 := by decide +kernel
theorem D15_498 : Dc J15 498 (.iload 6) 2 500 := by decide +kernel
theorem D15_500 : Dc J15 500 (.sipush 244) 3 503 := by decide +kernel
theorem D15_503 : Dj J15 503 (.if_icmp .gt 23) 23 506 526 := by decide +kernel
theorem own_d22 {p1 v0 v1 v2 v3 v4 v5 v6 : Int32} (e0 : v0 = (p1 &&& 127)) (e1 : v1 = ((128 ||| v0).toInt8.toInt32)) (e2 : v2 = (v1 &&& 254)) (e3 : v3 = (v1 >>> ((5 : Int32) &&& 31))) (e4 : v4 = (v1 >>> ((4 : Int32) &&& 31))) (e5 : v5 = (v1 >>> ((3 : Int32) &&& 31))) (e6 : v6 = (v1 &&& 255)) (q0 : ¬ (v2 = 194)) (q1 : ¬ (v3 = (-2))) (q2 : ¬ (v4 = (-2))) (q3 : v5 = (-2)) (q4 : 244 < v6) : v1 < 0 := by
  have := rng32 p1
  have : (127 : Int32).toInt = 127 := by decide
  have := e_mask e0 7 128
  have := e_hbN e1 7 128 128 (by omega)
  have : (254 : Int32).toInt = 254 := by decide
  have : v1.toInt % 256 = v1.toInt + 256 := by omega
  have := e_mask2 e2 1 7 256 2
  have : (194 : Int32).toInt = 194 := by decide
  have := i_neq q0
  have : (5 : Int32).toInt = 5 := by decide
  have := e_ishr e3 5 32
  have : (-2 : Int32).toInt = -2 := by decide
  have := i_neq q1
  have : (4 : Int32).toInt = 4 := by decide
  have := e_ishr e4 4 16
  have := i_neq q2
  have : (3 : Int32).toInt = 3 := by decide
  have := e_ishr e5 3 8
  have := i_eq q3
  have : (244 : Int32).toInt = 244 := by decide
  have : (255 : Int32).toInt = 255 := by decide
  have := e_mask e6 8 256
  have := i_lt q4
  have : (0 : Int32).toInt = 0 := by decide
  exact o_lt (by omega)
theorem D15_526 : Dc J15 526 (.iload 5) 2 528 := by decide +kernel
theorem D15_528 : Dj J15 528 (.ifCond .ne 10) 10 531 538 := by decide +kernel
theorem D15_538 : Dc J15 538 (.aload_n 3) 1 539 := by decide +kernel
theorem D15_539 : Dc J15 539 (.iload 4) 2 541 := by decide +kernel
theorem D15_541 : Dc J15 541 (.iinc 4 1) 3 544 := by decide +kernel
theorem D15_544 : Dc J15 544 (.ldc 132) 2 546 := by decide +kernel
theorem D15_546 : Dc J15 546 (.invokestatic 64) 3 549 := by decide +kernel
theorem D15_549 : Dj J15 549 (.goto (-549)) (-549) 552 0 := by decide +kernel
theorem R_String_decodeUTF8_UTF16_11 {a1 a2 : Addr} {p3 p4 : Int32} (hw : HW a0 Z) (pr1 : Ary Z h0 a1 ATB 2 (lv [.int p3, .int p4])) (pr2 : p3 < 0) (pr3 : ¬ ((p3 >>> ((5 : Int32) &&& 31)) = (-2))) (pr4 : ¬ ((p3 >>> ((4 : Int32) &&& 31)) = (-2))) (pr5 : (p3 >>> ((3 : Int32) &&& 31)) = (-2)) (pr6 : 244 < (p3 &&& 255)) (pr7 : Ary Z h0 a2 ATB 4 (lv [.int 0, .int 0, .int 0, .int 0])) (pr8 : n0 ≤ a2) (pr9 : TS_AD Z) (pr10 : TS_HI Z) (pr11 : TS_LO Z) (pr12 : a1 ≠ a2) (pr13 : ¬ (p4 < 0)) : Mt false [] l Y15 C15 (rmk 1 0 0 14) #[.ref a1, .int 0, .int 2, .ref a2, .int 0, .int 1] Z a0 h0 n0 (KpV h0 [a2] fun v h => v = (.int 2) ∧ Ary Z h a2 ATB 4 (lv [.int (-3), .int (-1), .int (((p4.toUInt32.toUInt16.toUInt32.toInt32) >>> ((0 : Int32) &&& 31)).toInt8.toInt32), .int (((p4.toUInt32.toUInt16.toUInt32.toInt32) >>> ((8 : Int32) &&& 31)).toInt8.toInt32)])) := by
  refine Mt.go PN15 (Or.inl rfl) ef_RIIRII_11_0_2_0_1 fun k => ?_
  replace k := k |>.iloadN D15_0 rfl |>.iloadN D15_1 rfl |>.icmpNo D15_2 (by decide) |>.aloadN D15_5 rfl rfl |>.iloadN D15_6 rfl |>.iinc D15_7 rfl (z := 1) (by decide) sto1 |>.bald pr1 D15_10 (i := 0) (by decide) lvg0 |>.istore D15_11 sto6 |>.iload D15_13 rfl |>.ifYes D15_15 ((if0 _ _).trans (tlt pr2).1) |>.iload D15_33 rfl |>.iconst D15_35 5
  replace k := k |>.ishr D15_36 rfl |>.bipush D15_37 (-2) |>.icmpYes D15_39 (feq pr3).2 |>.iload D15_143 rfl |>.iconst D15_145 4 |>.ishr D15_146 rfl |>.bipush D15_147 (-2) |>.icmpYes D15_149 (feq pr4).2 |>.iload D15_349 rfl |>.iconst D15_351 3 |>.ishr D15_352 rfl |>.bipush D15_353 (-2)
  replace k := k |>.icmpNo D15_355 (teq pr5).2 |>.iloadN D15_358 rfl |>.iconst D15_359 2 |>.iadd D15_360 (z := 3) (by decide) |>.iloadN D15_361 rfl |>.icmpYes D15_362 (by decide) |>.iload D15_490 rfl |>.sipush D15_492 255 |>.iand D15_495 rfl |>.istore D15_496 sto6 |>.iload D15_498 rfl |>.sipush D15_500 244
  replace k := k |>.icmpYes D15_503 (tlt pr6).2.2.1 |>.iload D15_526 rfl |>.ifYes D15_528 (by decide) |>.aloadN D15_538 rfl rfl |>.iload D15_539 rfl |>.iinc D15_541 rfl (z := 1) (by decide) sto4 |>.ldcI (w_179 hw) D15_544
  obtain ⟨h1, K1, f1_0, k⟩ := (k.callS (w_146 hw) (S17 hw) (R_StringUTF16_putChar_1 hw pr9 pr10 pr7 pr8 pr11) D15_546 0 rfl).k0 (allS pr8 all0)
  replace k := k |>.goto D15_549 |>.iloadN D15_0 rfl |>.iloadN D15_1 rfl |>.icmpNo D15_2 (by decide) |>.aloadN D15_5 rfl rfl |>.iloadN D15_6 rfl |>.iinc D15_7 rfl (z := 2) (by decide) sto1
  have o2 := pr1.keep K1 (ninS pr12 nin0)
  replace k := k |>.bald o2 D15_10 (i := 1) (by decide) lvg1 |>.istore D15_11 sto6 |>.iload D15_13 rfl |>.ifNo D15_15 ((if0 _ _).trans (flt pr13).1) |>.aloadN D15_18 rfl rfl |>.iload D15_19 rfl |>.iinc D15_21 rfl (z := 2) (by decide) sto4 |>.iload D15_24 rfl |>.i2c D15_26 rfl
  obtain ⟨h3, K3, f3_0, k⟩ := (k.callS (w_146 hw) (S17 hw) (R_StringUTF16_putChar_2 hw pr9 pr10 f1_0 pr8 pr11) D15_27 0 rfl).k0 (allS pr8 all0)
  replace k := k |>.goto D15_30 |>.goto D15_618 |>.iloadN D15_0 rfl |>.iloadN D15_1 rfl |>.icmpYes D15_2 (by decide) |>.iload D15_621 rfl
  exact k.retI D15_623 rfl ⟨_, rfl, (K1.trans K3 (allS (Or.inl (List.mem_of_getElem? (i := 0) rfl)) all0)), rfl, f3_0⟩
theorem R_String__init__26 {a1 w_U8 a2 : Addr} {w_CS p3 p4 : Int32} {w_SF : Value} (hw : HW a0 Z) (pr1 : TS_UI Z w_U8) (pr2 : TS_CS Z w_CS) (pr3 : ¬ (w_CS = 0)) (pr4 : Ary Z h0 a2 ATB 2 (lv [.int p3, .int p4])) (pr5 : p3 < 0) (pr6 : ¬ ((p3 &&& 254) = 194)) (pr7 : w_SF.isRef = true) (pr8 : TS_SF Z w_SF) (pr9 : ¬ ((p3 >>> ((5 : Int32) &&& 31)) = (-2))) (pr10 : ¬ ((p3 >>> ((4 : Int32) &&& 31)) = (-2))) (pr11 : (p3 >>> ((3 : Int32) &&& 31)) = (-2)) (pr12 : 244 < (p3 &&& 255)) (pr13 : ¬ (p4 < 0)) (pr14 : TS_AD Z) (pr15 : TS_HI Z) (pr16 : TS_LO Z) (pr17 : Obj Z h0 a1 L_String [.null, .int 0]) (pr18 : n0 ≤ a1) : Mt false [] l Y4 C4 (rmk 5 2 6 76) #[.ref a1, .ref w_U8, .ref a2, .int 0, .int 2] Z a0 h0 n0 (K0 h0 [a1] fun h => ∃ b2_3 : Addr, h0.size ≤ b2_3 ∧ Obj Z h a1 L_String [.ref b2_3, .int 1] ∧ Ary Z h b2_3 ATB 4 (lv [.int (-3), .int (-1), .int (((p4.toUInt32.toUInt16.toUInt32.toInt32) >>> ((0 : Int32) &&& 31)).toInt8.toInt32), .int (((p4.toUInt32.toUInt16.toUInt32.toInt32) >>> ((8 : Int32) &&& 31)).toInt8.toInt32)])) := by
  refine Mt.go PN4 (Or.inr ⟨_, rfl⟩) ef_RRRII_11_0_2 fun k => ?_
  have nz := k.n0le
  replace k := k |>.aloadN D4_0 rfl rfl |>.initO (w_23 hw) (w_24 hw) (w_25 hw) D4_1 0 |>.iload D4_4 rfl |>.ifYes D4_6 (by decide) |>.aloadN D4_30 rfl rfl |>.getS (fl_46 hw) pr1 D4_31 |>.acmpNo D4_34 rfl rfl true (decide_eq_true rfl) (by decide) |>.getS (fl_48 hw) pr2 D4_37 |>.ifNo D4_40 ((if0 _ _).trans (feq pr3).1) |>.aloadN D4_43 rfl rfl |>.iloadN D4_44 rfl |>.iload D4_45 rfl
  replace k := (k.callS (w_49 hw) (S5 hw) (R_StringCoding_countPositives_1 hw pr4 pr5) D4_47 0 rfl).pv
  replace k := k |>.istore D4_50 sto5 |>.iload D4_52 rfl |>.iload D4_54 rfl |>.icmpYes D4_56 (by decide) |>.aloadN D4_78 rfl rfl |>.iloadN D4_79 rfl |>.iloadN D4_80 rfl |>.iload D4_81 rfl |>.iadd D4_83 (z := 2) (by decide)
  have z2 := k.sz
  obtain ⟨_, h2, K2, ⟨b1_2, rfl, f2_0, f2_1⟩, k⟩ := (k.callS (w_53 hw) (S6 hw) (R_Arrays_copyOfRange_1 hw pr4) D4_84 0 rfl).kv
  replace k := k |>.astore D4_87 rfl sto6 |>.iload D4_89 rfl |>.istore D4_91 sto7 |>.iload D4_93 rfl |>.iload D4_95 rfl |>.icmpNo D4_97 (by decide) |>.aload D4_100 rfl rfl |>.iload D4_102 rfl |>.iinc D4_104 rfl (z := 1) (by decide) sto7 |>.bald f2_1 D4_107 (i := 0) (by decide) lvg0 |>.istore D4_108 sto8 |>.iload D4_110 rfl
  replace k := k |>.ifYes D4_112 ((if0 _ _).trans (tlt pr5).1) |>.iload D4_129 rfl |>.sipush D4_131 254 |>.iand D4_134 rfl |>.sipush D4_135 194 |>.icmpYes D4_138 (feq pr6).2 |>.iinc D4_184 rfl (z := 0) (by decide) sto7 |>.goto D4_187 |>.iload D4_190 rfl |>.iload D4_192 rfl |>.icmpYes D4_194 (by decide) |>.iload D4_226 rfl
  have z3 := k.sz
  obtain ⟨_, h3, K3, ⟨b2_3, rfl, f3_0, f3_1⟩, k⟩ := (k.callS (w_100 hw) (S7 hw) (R_StringUTF16_newBytesFor_1 hw) D4_228 0 rfl).kv
  replace k := k |>.astore D4_231 rfl sto8 |>.aload D4_233 rfl rfl |>.iconst D4_235 0 |>.aload D4_236 rfl rfl |>.iconst D4_238 0 |>.iload D4_239 rfl
  replace k := (k.callS (w_108 hw) (S9 hw) (R_StringLatin1_inflate_1 hw f3_1 pr7 pr8) D4_241 0 rfl).p0
  replace k := k |>.aload D4_244 rfl rfl |>.iload D4_246 rfl |>.iload D4_248 rfl |>.aload D4_250 rfl rfl |>.iload D4_252 rfl |>.iconst D4_254 1
  have s_b2_3 := Nat.le_trans z3 f3_0
  have n_b2_3 := Nat.le_trans nz s_b2_3
  have o6 := f2_1.keep K3 nin0
  obtain ⟨_, h5, K5, ⟨rfl, f5_0⟩, k⟩ := (k.callS (w_126 hw) (S15 hw) (R_String_decodeUTF8_UTF16_11 hw o6 pr5 pr9 pr10 pr11 pr12 f3_1 n_b2_3 pr14 pr15 pr16 (nlt f2_1.lt f3_0) pr13) D4_255 0 rfl).kv (allS n_b2_3 all0)
  replace k := k |>.istore D4_258 sto5 |>.iload D4_260 rfl |>.iload D4_262 rfl |>.icmpYes D4_264 (by decide) |>.aloadN D4_278 rfl rfl |>.aload D4_279 rfl rfl
  have o7 := ((pr17.keep K2 nin0).keep K3 nin0).keep K5 (ninS (nlt pr17.lt s_b2_3) nin0)
  obtain ⟨h8, K8, O8, k⟩ := k.putF (fl_31 hw) (pw_String_i_String_value hw) o7 0 pr18 (Or.inl rfl) D4_281 rfl rfl rfl ls0
  replace k := k |>.aloadN D4_284 rfl rfl |>.iconst D4_285 1
  obtain ⟨h9, K9, O9, k⟩ := k.putN (fp_32 hw) (pw_String_i_String_coder hw) O8 1 pr18 (Or.inl rfl) D4_286 rfl (v' := (.int 1)) (by decide) (by decide) ls1
  replace k := k |>.goto D4_289
  have o10 := (f5_0.keep K8 (ninS (nlt' pr17.lt s_b2_3) nin0)).keep K9 (ninS (nlt' pr17.lt s_b2_3) nin0)
  exact k.ret0 D4_879 rfl ⟨rfl, ((((((Keep.refl h0 [a1]).trans K2 all0).trans K3 all0).trans K5 (allS (Or.inr s_b2_3) all0)).trans K8 (allS (Or.inl (List.mem_of_getElem? (i := 0) rfl)) all0)).trans K9 (allS (Or.inl (List.mem_of_getElem? (i := 0) rfl)) all0)), b2_3, s_b2_3, O9, o10⟩
theorem R_String__init__25 {a1 a2 w_U8 : Addr} {p3 p4 w_CS : Int32} {w_SF : Value} (hw : HW a0 Z) (pr1 : Obj Z Z.heap w_U8 L_UTF_8 []) (pr2 : Ary Z h0 a2 ATB 2 (lv [.int p3, .int p4])) (pr3 : ¬ (w_CS = 0)) (pr4 : p3 < 0) (pr5 : ¬ ((p3 &&& 254) = 194)) (pr6 : ¬ ((p3 >>> ((5 : Int32) &&& 31)) = (-2))) (pr7 : ¬ ((p3 >>> ((4 : Int32) &&& 31)) = (-2))) (pr8 : (p3 >>> ((3 : Int32) &&& 31)) = (-2)) (pr9 : 244 < (p3 &&& 255)) (pr10 : ¬ (p4 < 0)) (pr11 : Obj Z h0 a1 L_String [.null, .int 0]) (pr12 : n0 ≤ a1) (pr13 : w_SF.isRef = true) (pr14 : TS_UI Z w_U8) (pr15 : TS_CS Z w_CS) (pr16 : TS_SF Z w_SF) (pr17 : TS_AD Z) (pr18 : TS_HI Z) (pr19 : TS_LO Z) : Mt false [] l Y2 C2 (rmk 6 2 6 98) #[.ref a1, .ref a2, .ref w_U8] Z a0 h0 n0 (K0 h0 [a1] fun h => ∃ b2_3_2 : Addr, h0.size ≤ b2_3_2 ∧ Obj Z h a1 L_String [.ref b2_3_2, .int 1] ∧ Ary Z h b2_3_2 ATB 4 (lv [.int (-3), .int (-1), .int (((p4.toUInt32.toUInt16.toUInt32.toInt32) >>> ((0 : Int32) &&& 31)).toInt8.toInt32), .int (((p4.toUInt32.toUInt16.toUInt32.toInt32) >>> ((8 : Int32) &&& 31)).toInt8.toInt32)])) := by
  refine Mt.go PN2 (Or.inl rfl) ef_RRR_3 fun k => ?_
  replace k := k |>.aloadN D2_0 rfl rfl |>.aloadN D2_1 rfl rfl
  replace k := (k.callS (w_13 hw) (S3 hw) (R_Objects_requireNonNull_1 hw) D2_2 1 rfl).pv
  replace k := k |>.castY (w_17 hw) (Ins.of_exa (pr1.ext k.old.2).exa (w_18 hw)) D2_5 |>.aloadN D2_8 rfl rfl |>.iconst D2_9 0 |>.aloadN D2_10 rfl rfl |>.alen pr2 D2_11 (z := 2) (by decide)
  have z2 := k.sz
  obtain ⟨h2, K2, ⟨b2_3_2, f2_0, f2_1, f2_2⟩, k⟩ := (k.callI (w_19 hw) (I4 hw) (R_String__init__26 hw pr14 pr15 pr3 pr2 pr4 pr5 pr13 pr16 pr6 pr7 pr8 pr9 pr10 pr17 pr18 pr19 pr11 pr12) D2_12 0 rfl).k0 (allS pr12 all0)
  have s_b2_3_2 := Nat.le_trans z2 f2_0
  exact k.ret0 D2_15 rfl ⟨rfl, K2, b2_3_2, s_b2_3_2, f2_1, f2_2⟩
theorem R_Utf8_decodeName_13 {a1 w_U8 : Addr} {p2 p3 w_CS : Int32} {w_SF : Value} (hw : HW a0 Z) (pr1 : TS_U8 Z w_U8) (pr2 : Ary Z h0 a1 ATB 2 (lv [.int p2, .int p3])) (pr3 : ¬ (w_CS = 0)) (pr4 : p2 < 0) (pr5 : ¬ ((p2 &&& 254) = 194)) (pr6 : ¬ ((p2 >>> ((5 : Int32) &&& 31)) = (-2))) (pr7 : ¬ ((p2 >>> ((4 : Int32) &&& 31)) = (-2))) (pr8 : (p2 >>> ((3 : Int32) &&& 31)) = (-2)) (pr9 : 244 < (p2 &&& 255)) (pr10 : ¬ (p3 < 0)) (pr11 : w_SF.isRef = true) (pr12 : Obj Z Z.heap w_U8 L_UTF_8 []) (pr13 : TS_UI Z w_U8) (pr14 : TS_CS Z w_CS) (pr15 : TS_SF Z w_SF) (pr16 : TS_AD Z) (pr17 : TS_HI Z) (pr18 : TS_LO Z) : Mt false [] l Y1 C1 (rmk 7 3 10 113) #[.ref a1] Z a0 h0 n0 (KpV h0 [] fun v h => ∃ b1 b2_3_2_2 : Addr, v = (.ref b1) ∧ h0.size ≤ b1 ∧ h0.size ≤ b2_3_2_2 ∧ b2_3_2_2 ≠ b1 ∧ Obj Z h b1 L_String [.ref b2_3_2_2, .int 1] ∧ Ary Z h b2_3_2_2 ATB 4 (lv [.int (-3), .int (-1), .int (((p3.toUInt32.toUInt16.toUInt32.toInt32) >>> ((0 : Int32) &&& 31)).toInt8.toInt32), .int (((p3.toUInt32.toUInt16.toUInt32.toInt32) >>> ((8 : Int32) &&& 31)).toInt8.toInt32)])) := by
  refine Mt.go PN1 (Or.inl rfl) ef_R_1 fun k => ?_
  have nz := k.n0le
  have z1 := k.sz
  obtain ⟨b1, h1, g1, K1, O1, k⟩ := k.new (w_5 hw) (nw_String hw) D1_0 (by decide) dvL_String
  replace k := k |>.dup D1_3 rfl |>.aloadN D1_4 rfl rfl |>.getS (fl_8 hw) pr1 D1_5
  have s_b1 := Nat.le_trans z1 g1
  have n_b1 := Nat.le_trans nz s_b1
  have o3 := pr2.keep K1 nin0
  have z2 := k.sz
  obtain ⟨h2, K2, ⟨b2_3_2_2, f2_0, f2_1, f2_2⟩, k⟩ := (k.callI (w_10 hw) (I2 hw) (R_String__init__25 hw pr12 o3 pr3 pr4 pr5 pr6 pr7 pr8 pr9 pr10 O1 n_b1 pr11 pr13 pr14 pr15 pr16 pr17 pr18) D1_8 1 rfl).k0 (allS n_b1 all0)
  have s_b2_3_2_2 := Nat.le_trans z2 f2_0
  exact k.retA D1_11 rfl ⟨_, rfl, (K1.trans K2 (allS (Or.inr s_b1) all0)), b1, b2_3_2_2, rfl, s_b1, s_b2_3_2_2, (nlt' O1.lt f2_0), f2_1, f2_2⟩
theorem D15_506 : Dc J15 506 (.iload_n 1) 1 507 := by decide +kernel
theorem D15_507 : Dc J15 507 (.iload_n 2) 1 508 := by decide +kernel
theorem D15_508 : Dj J15 508 (.if_icmp .ge 44) 44 511 552 := by decide +kernel
theorem D15_511 : Dc J15 511 (.iload 6) 2 513 := by decide +kernel
theorem D15_513 : Dc J15 513 (.aload_n 0) 1 514 := by decide +kernel
theorem D15_514 : Dc J15 514 (.iload_n 1) 1 515 := by decide +kernel
theorem D15_515 : Dc J15 515 .baload 1 516 := by decide +kernel
theorem D15_516 : Dc J15 516 (.sipush 255) 3 519 := by decide +kernel
theorem D15_519 : Dc J15 519 .iand 1 520 := by decide +kernel
theorem D15_520 : Dc J15 520 (.invokestatic 431) 3 523 := by decide +kernel
abbrev Y28 : MethodName := ⟨"java/lang/String", "isMalformed4_2", "(II)Z"⟩
abbrev J28 := jdk_42_method_33_code
abbrev C28 : Cond := .code Y28 J28 2 (some .boolean)
theorem D28_0 : Dc J28 0 (.iload_n 0) 1 1 := by decide +kernel
theorem D28_1 : Dc J28 1 (.sipush 240) 3 4 := by decide +kernel
theorem D28_4 : Dj J28 4 (.if_icmp .ne 17) 17 7 21 := by decide +kernel
theorem own_d24 {p1 v0 v1 v2 v3 v4 v5 v6 : Int32} (e0 : v0 = (p1 &&& 127)) (e1 : v1 = ((128 ||| v0).toInt8.toInt32)) (e2 : v2 = (v1 &&& 254)) (e3 : v3 = (v1 >>> ((5 : Int32) &&& 31))) (e4 : v4 = (v1 >>> ((4 : Int32) &&& 31))) (e5 : v5 = (v1 >>> ((3 : Int32) &&& 31))) (e6 : v6 = (v1 &&& 255)) (q0 : ¬ (v2 = 194)) (q1 : ¬ (v3 = (-2))) (q2 : ¬ (v4 = (-2))) (q3 : v5 = (-2)) (q4 : ¬ (244 < v6)) (q5 : v6 = 240) : v1 < 0 := by
  have := rng32 p1
  have : (127 : Int32).toInt = 127 := by decide
  have := e_mask e0 7 128
  have := e_hbN e1 7 128 128 (by omega)
  have : (254 : Int32).toInt = 254 := by decide
  have : v1.toInt % 256 = v1.toInt + 256 := by omega
  have := e_mask2 e2 1 7 256 2
  have : (194 : Int32).toInt = 194 := by decide
  have := i_neq q0
  have : (5 : Int32).toInt = 5 := by decide
  have := e_ishr e3 5 32
  have : (-2 : Int32).toInt = -2 := by decide
  have := i_neq q1
  have : (4 : Int32).toInt = 4 := by decide
  have := e_ishr e4 4 16
  have := i_neq q2
  have : (3 : Int32).toInt = 3 := by decide
  have := e_ishr e5 3 8
  have := i_eq q3
  have : (244 : Int32).toInt = 244 := by decide
  have : (255 : Int32).toInt = 255 := by decide
  have := e_mask e6 8 256
  have := i_nlt q4
  have : (240 : Int32).toInt = 240 := by decide
  have := i_eq q5
  have : (0 : Int32).toInt = 0 := by decide
  exact o_lt (by omega)
theorem D28_7 : Dc J28 7 (.iload_n 1) 1 8 := by decide +kernel
theorem D28_8 : Dc J28 8 (.sipush 144) 3 11 := by decide +kernel
theorem D28_11 : Dj J28 11 (.if_icmp .lt 39) 39 14 50 := by decide +kernel
theorem own_d25 {p2 v0 v1 v2 : Int32} (e0 : v0 = (p2 &&& 127)) (e1 : v1 = (v0.toInt8.toInt32)) (e2 : v2 = (v1 &&& 255)) : v2 < 144 := by
  have := rng32 p2
  have : (127 : Int32).toInt = 127 := by decide
  have := e_mask e0 7 128
  have := e_i2bN e1 (by omega)
  have : (255 : Int32).toInt = 255 := by decide
  have := e_mask e2 8 256
  have : (144 : Int32).toInt = 144 := by decide
  exact o_lt (by omega)
theorem D28_50 : Dc J28 50 (.iconst 1) 1 51 := by decide +kernel
theorem D28_51 : Dj J28 51 (.goto 4) 4 54 55 := by decide +kernel
theorem D28_55 : Dc J28 55 .ireturn 1 56 := by decide +kernel
theorem PN28 : plainFor Y28 = true := plainFor_of_name pn_String
theorem R_String_isMalformed4_2_2 {p1 p2 : Int32} (hw : HW a0 Z) (pr1 : p1 = 240) (pr2 : p2 < 144) : Mt false [] l Y28 C28 (rmk 0 0 0 0) #[.int p1, .int p2] Z a0 h0 n0 (Pv h0 (.int 1)) := by
  refine Mt.go PN28 (Or.inl rfl) ef_II_2 fun k => ?_
  replace k := k |>.iloadN D28_0 rfl |>.sipush D28_1 240 |>.icmpNo D28_4 (teq pr1).2 |>.iloadN D28_7 rfl |>.sipush D28_8 144 |>.icmpYes D28_11 (tlt pr2).1 |>.iconst D28_50 1 |>.goto D28_51
  exact k.retN (t := .boolean) D28_55 rfl (by simp) (z' := 1) (by decide) ⟨rfl, rfl⟩
abbrev w_181 (hw : HW a0 Z) := hw _ (List.mem_of_getElem? (i := 181) rfl)
abbrev w_183 (hw : HW a0 Z) := hw _ (List.mem_of_getElem? (i := 183) rfl)
abbrev w_182 (hw : HW a0 Z) := hw _ (List.mem_of_getElem? (i := 182) rfl)
theorem S28 (hw : HW a0 Z) : SC Z a0 Y28 C28 2 (some .boolean) 2 := ⟨(w_182 hw), ⟨⟨_, Or.inl rfl⟩, (w_183 hw), (w_7 hw), by decide, _, _, pd_II_r_Z, rfl⟩⟩
theorem D15_523 : Dj J15 523 (.ifCond .eq 29) 29 526 552 := by decide +kernel
theorem R_String_decodeUTF8_UTF16_13 {a1 a2 : Addr} {p3 p4 : Int32} (hw : HW a0 Z) (pr1 : Ary Z h0 a1 ATB 2 (lv [.int p3, .int p4])) (pr2 : p3 < 0) (pr3 : ¬ ((p3 >>> ((5 : Int32) &&& 31)) = (-2))) (pr4 : ¬ ((p3 >>> ((4 : Int32) &&& 31)) = (-2))) (pr5 : (p3 >>> ((3 : Int32) &&& 31)) = (-2)) (pr6 : ¬ (244 < (p3 &&& 255))) (pr7 : (p3 &&& 255) = 240) (pr8 : (p4 &&& 255) < 144) (pr9 : Ary Z h0 a2 ATB 4 (lv [.int 0, .int 0, .int 0, .int 0])) (pr10 : n0 ≤ a2) (pr11 : TS_AD Z) (pr12 : TS_HI Z) (pr13 : TS_LO Z) (pr14 : a1 ≠ a2) (pr15 : ¬ (p4 < 0)) : Mt false [] l Y15 C15 (rmk 1 0 0 14) #[.ref a1, .int 0, .int 2, .ref a2, .int 0, .int 1] Z a0 h0 n0 (KpV h0 [a2] fun v h => v = (.int 2) ∧ Ary Z h a2 ATB 4 (lv [.int (-3), .int (-1), .int (((p4.toUInt32.toUInt16.toUInt32.toInt32) >>> ((0 : Int32) &&& 31)).toInt8.toInt32), .int (((p4.toUInt32.toUInt16.toUInt32.toInt32) >>> ((8 : Int32) &&& 31)).toInt8.toInt32)])) := by
  refine Mt.go PN15 (Or.inl rfl) ef_RIIRII_11_0_2_0_1 fun k => ?_
  replace k := k |>.iloadN D15_0 rfl |>.iloadN D15_1 rfl |>.icmpNo D15_2 (by decide) |>.aloadN D15_5 rfl rfl |>.iloadN D15_6 rfl |>.iinc D15_7 rfl (z := 1) (by decide) sto1 |>.bald pr1 D15_10 (i := 0) (by decide) lvg0 |>.istore D15_11 sto6 |>.iload D15_13 rfl |>.ifYes D15_15 ((if0 _ _).trans (tlt pr2).1) |>.iload D15_33 rfl |>.iconst D15_35 5
  replace k := k |>.ishr D15_36 rfl |>.bipush D15_37 (-2) |>.icmpYes D15_39 (feq pr3).2 |>.iload D15_143 rfl |>.iconst D15_145 4 |>.ishr D15_146 rfl |>.bipush D15_147 (-2) |>.icmpYes D15_149 (feq pr4).2 |>.iload D15_349 rfl |>.iconst D15_351 3 |>.ishr D15_352 rfl |>.bipush D15_353 (-2)
  replace k := k |>.icmpNo D15_355 (teq pr5).2 |>.iloadN D15_358 rfl |>.iconst D15_359 2 |>.iadd D15_360 (z := 3) (by decide) |>.iloadN D15_361 rfl |>.icmpYes D15_362 (by decide) |>.iload D15_490 rfl |>.sipush D15_492 255 |>.iand D15_495 rfl |>.istore D15_496 sto6 |>.iload D15_498 rfl |>.sipush D15_500 244
  replace k := k |>.icmpNo D15_503 (flt pr6).2.2.1 |>.iloadN D15_506 rfl |>.iloadN D15_507 rfl |>.icmpNo D15_508 (by decide) |>.iload D15_511 rfl |>.aloadN D15_513 rfl rfl |>.iloadN D15_514 rfl |>.bald pr1 D15_515 (i := 1) (by decide) lvg1 |>.sipush D15_516 255 |>.iand D15_519 rfl
  replace k := (k.callS (w_181 hw) (S28 hw) (R_String_isMalformed4_2_2 hw pr7 pr8) D15_520 0 rfl).pv
  replace k := k |>.ifNo D15_523 (by decide) |>.iload D15_526 rfl |>.ifYes D15_528 (by decide) |>.aloadN D15_538 rfl rfl |>.iload D15_539 rfl |>.iinc D15_541 rfl (z := 1) (by decide) sto4 |>.ldcI (w_179 hw) D15_544
  obtain ⟨h2, K2, f2_0, k⟩ := (k.callS (w_146 hw) (S17 hw) (R_StringUTF16_putChar_1 hw pr11 pr12 pr9 pr10 pr13) D15_546 0 rfl).k0 (allS pr10 all0)
  replace k := k |>.goto D15_549 |>.iloadN D15_0 rfl |>.iloadN D15_1 rfl |>.icmpNo D15_2 (by decide) |>.aloadN D15_5 rfl rfl |>.iloadN D15_6 rfl |>.iinc D15_7 rfl (z := 2) (by decide) sto1
  have o3 := pr1.keep K2 (ninS pr14 nin0)
  replace k := k |>.bald o3 D15_10 (i := 1) (by decide) lvg1 |>.istore D15_11 sto6 |>.iload D15_13 rfl |>.ifNo D15_15 ((if0 _ _).trans (flt pr15).1) |>.aloadN D15_18 rfl rfl |>.iload D15_19 rfl |>.iinc D15_21 rfl (z := 2) (by decide) sto4 |>.iload D15_24 rfl |>.i2c D15_26 rfl
  obtain ⟨h4, K4, f4_0, k⟩ := (k.callS (w_146 hw) (S17 hw) (R_StringUTF16_putChar_2 hw pr11 pr12 f2_0 pr10 pr13) D15_27 0 rfl).k0 (allS pr10 all0)
  replace k := k |>.goto D15_30 |>.goto D15_618 |>.iloadN D15_0 rfl |>.iloadN D15_1 rfl |>.icmpYes D15_2 (by decide) |>.iload D15_621 rfl
  exact k.retI D15_623 rfl ⟨_, rfl, (K2.trans K4 (allS (Or.inl (List.mem_of_getElem? (i := 0) rfl)) all0)), rfl, f4_0⟩
theorem R_String__init__30 {a1 w_U8 a2 : Addr} {w_CS p3 p4 : Int32} {w_SF : Value} (hw : HW a0 Z) (pr1 : TS_UI Z w_U8) (pr2 : TS_CS Z w_CS) (pr3 : ¬ (w_CS = 0)) (pr4 : Ary Z h0 a2 ATB 2 (lv [.int p3, .int p4])) (pr5 : p3 < 0) (pr6 : ¬ ((p3 &&& 254) = 194)) (pr7 : w_SF.isRef = true) (pr8 : TS_SF Z w_SF) (pr9 : ¬ ((p3 >>> ((5 : Int32) &&& 31)) = (-2))) (pr10 : ¬ ((p3 >>> ((4 : Int32) &&& 31)) = (-2))) (pr11 : (p3 >>> ((3 : Int32) &&& 31)) = (-2)) (pr12 : ¬ (244 < (p3 &&& 255))) (pr13 : (p3 &&& 255) = 240) (pr14 : (p4 &&& 255) < 144) (pr15 : ¬ (p4 < 0)) (pr16 : TS_AD Z) (pr17 : TS_HI Z) (pr18 : TS_LO Z) (pr19 : Obj Z h0 a1 L_String [.null, .int 0]) (pr20 : n0 ≤ a1) : Mt false [] l Y4 C4 (rmk 5 2 6 76) #[.ref a1, .ref w_U8, .ref a2, .int 0, .int 2] Z a0 h0 n0 (K0 h0 [a1] fun h => ∃ b2_3 : Addr, h0.size ≤ b2_3 ∧ Obj Z h a1 L_String [.ref b2_3, .int 1] ∧ Ary Z h b2_3 ATB 4 (lv [.int (-3), .int (-1), .int (((p4.toUInt32.toUInt16.toUInt32.toInt32) >>> ((0 : Int32) &&& 31)).toInt8.toInt32), .int (((p4.toUInt32.toUInt16.toUInt32.toInt32) >>> ((8 : Int32) &&& 31)).toInt8.toInt32)])) := by
  refine Mt.go PN4 (Or.inr ⟨_, rfl⟩) ef_RRRII_11_0_2 fun k => ?_
  have nz := k.n0le
  replace k := k |>.aloadN D4_0 rfl rfl |>.initO (w_23 hw) (w_24 hw) (w_25 hw) D4_1 0 |>.iload D4_4 rfl |>.ifYes D4_6 (by decide) |>.aloadN D4_30 rfl rfl |>.getS (fl_46 hw) pr1 D4_31 |>.acmpNo D4_34 rfl rfl true (decide_eq_true rfl) (by decide) |>.getS (fl_48 hw) pr2 D4_37 |>.ifNo D4_40 ((if0 _ _).trans (feq pr3).1) |>.aloadN D4_43 rfl rfl |>.iloadN D4_44 rfl |>.iload D4_45 rfl
  replace k := (k.callS (w_49 hw) (S5 hw) (R_StringCoding_countPositives_1 hw pr4 pr5) D4_47 0 rfl).pv
  replace k := k |>.istore D4_50 sto5 |>.iload D4_52 rfl |>.iload D4_54 rfl |>.icmpYes D4_56 (by decide) |>.aloadN D4_78 rfl rfl |>.iloadN D4_79 rfl |>.iloadN D4_80 rfl |>.iload D4_81 rfl |>.iadd D4_83 (z := 2) (by decide)
  have z2 := k.sz
  obtain ⟨_, h2, K2, ⟨b1_2, rfl, f2_0, f2_1⟩, k⟩ := (k.callS (w_53 hw) (S6 hw) (R_Arrays_copyOfRange_1 hw pr4) D4_84 0 rfl).kv
  replace k := k |>.astore D4_87 rfl sto6 |>.iload D4_89 rfl |>.istore D4_91 sto7 |>.iload D4_93 rfl |>.iload D4_95 rfl |>.icmpNo D4_97 (by decide) |>.aload D4_100 rfl rfl |>.iload D4_102 rfl |>.iinc D4_104 rfl (z := 1) (by decide) sto7 |>.bald f2_1 D4_107 (i := 0) (by decide) lvg0 |>.istore D4_108 sto8 |>.iload D4_110 rfl
  replace k := k |>.ifYes D4_112 ((if0 _ _).trans (tlt pr5).1) |>.iload D4_129 rfl |>.sipush D4_131 254 |>.iand D4_134 rfl |>.sipush D4_135 194 |>.icmpYes D4_138 (feq pr6).2 |>.iinc D4_184 rfl (z := 0) (by decide) sto7 |>.goto D4_187 |>.iload D4_190 rfl |>.iload D4_192 rfl |>.icmpYes D4_194 (by decide) |>.iload D4_226 rfl
  have z3 := k.sz
  obtain ⟨_, h3, K3, ⟨b2_3, rfl, f3_0, f3_1⟩, k⟩ := (k.callS (w_100 hw) (S7 hw) (R_StringUTF16_newBytesFor_1 hw) D4_228 0 rfl).kv
  replace k := k |>.astore D4_231 rfl sto8 |>.aload D4_233 rfl rfl |>.iconst D4_235 0 |>.aload D4_236 rfl rfl |>.iconst D4_238 0 |>.iload D4_239 rfl
  replace k := (k.callS (w_108 hw) (S9 hw) (R_StringLatin1_inflate_1 hw f3_1 pr7 pr8) D4_241 0 rfl).p0
  replace k := k |>.aload D4_244 rfl rfl |>.iload D4_246 rfl |>.iload D4_248 rfl |>.aload D4_250 rfl rfl |>.iload D4_252 rfl |>.iconst D4_254 1
  have s_b2_3 := Nat.le_trans z3 f3_0
  have n_b2_3 := Nat.le_trans nz s_b2_3
  have o6 := f2_1.keep K3 nin0
  obtain ⟨_, h5, K5, ⟨rfl, f5_0⟩, k⟩ := (k.callS (w_126 hw) (S15 hw) (R_String_decodeUTF8_UTF16_13 hw o6 pr5 pr9 pr10 pr11 pr12 pr13 pr14 f3_1 n_b2_3 pr16 pr17 pr18 (nlt f2_1.lt f3_0) pr15) D4_255 0 rfl).kv (allS n_b2_3 all0)
  replace k := k |>.istore D4_258 sto5 |>.iload D4_260 rfl |>.iload D4_262 rfl |>.icmpYes D4_264 (by decide) |>.aloadN D4_278 rfl rfl |>.aload D4_279 rfl rfl
  have o7 := ((pr19.keep K2 nin0).keep K3 nin0).keep K5 (ninS (nlt pr19.lt s_b2_3) nin0)
  obtain ⟨h8, K8, O8, k⟩ := k.putF (fl_31 hw) (pw_String_i_String_value hw) o7 0 pr20 (Or.inl rfl) D4_281 rfl rfl rfl ls0
  replace k := k |>.aloadN D4_284 rfl rfl |>.iconst D4_285 1
  obtain ⟨h9, K9, O9, k⟩ := k.putN (fp_32 hw) (pw_String_i_String_coder hw) O8 1 pr20 (Or.inl rfl) D4_286 rfl (v' := (.int 1)) (by decide) (by decide) ls1
  replace k := k |>.goto D4_289
  have o10 := (f5_0.keep K8 (ninS (nlt' pr19.lt s_b2_3) nin0)).keep K9 (ninS (nlt' pr19.lt s_b2_3) nin0)
  exact k.ret0 D4_879 rfl ⟨rfl, ((((((Keep.refl h0 [a1]).trans K2 all0).trans K3 all0).trans K5 (allS (Or.inr s_b2_3) all0)).trans K8 (allS (Or.inl (List.mem_of_getElem? (i := 0) rfl)) all0)).trans K9 (allS (Or.inl (List.mem_of_getElem? (i := 0) rfl)) all0)), b2_3, s_b2_3, O9, o10⟩
theorem R_String__init__29 {a1 a2 w_U8 : Addr} {p3 p4 w_CS : Int32} {w_SF : Value} (hw : HW a0 Z) (pr1 : Obj Z Z.heap w_U8 L_UTF_8 []) (pr2 : Ary Z h0 a2 ATB 2 (lv [.int p3, .int p4])) (pr3 : ¬ (w_CS = 0)) (pr4 : p3 < 0) (pr5 : ¬ ((p3 &&& 254) = 194)) (pr6 : ¬ ((p3 >>> ((5 : Int32) &&& 31)) = (-2))) (pr7 : ¬ ((p3 >>> ((4 : Int32) &&& 31)) = (-2))) (pr8 : (p3 >>> ((3 : Int32) &&& 31)) = (-2)) (pr9 : ¬ (244 < (p3 &&& 255))) (pr10 : (p3 &&& 255) = 240) (pr11 : (p4 &&& 255) < 144) (pr12 : ¬ (p4 < 0)) (pr13 : Obj Z h0 a1 L_String [.null, .int 0]) (pr14 : n0 ≤ a1) (pr15 : w_SF.isRef = true) (pr16 : TS_UI Z w_U8) (pr17 : TS_CS Z w_CS) (pr18 : TS_SF Z w_SF) (pr19 : TS_AD Z) (pr20 : TS_HI Z) (pr21 : TS_LO Z) : Mt false [] l Y2 C2 (rmk 6 2 6 98) #[.ref a1, .ref a2, .ref w_U8] Z a0 h0 n0 (K0 h0 [a1] fun h => ∃ b2_3_2 : Addr, h0.size ≤ b2_3_2 ∧ Obj Z h a1 L_String [.ref b2_3_2, .int 1] ∧ Ary Z h b2_3_2 ATB 4 (lv [.int (-3), .int (-1), .int (((p4.toUInt32.toUInt16.toUInt32.toInt32) >>> ((0 : Int32) &&& 31)).toInt8.toInt32), .int (((p4.toUInt32.toUInt16.toUInt32.toInt32) >>> ((8 : Int32) &&& 31)).toInt8.toInt32)])) := by
  refine Mt.go PN2 (Or.inl rfl) ef_RRR_3 fun k => ?_
  replace k := k |>.aloadN D2_0 rfl rfl |>.aloadN D2_1 rfl rfl
  replace k := (k.callS (w_13 hw) (S3 hw) (R_Objects_requireNonNull_1 hw) D2_2 1 rfl).pv
  replace k := k |>.castY (w_17 hw) (Ins.of_exa (pr1.ext k.old.2).exa (w_18 hw)) D2_5 |>.aloadN D2_8 rfl rfl |>.iconst D2_9 0 |>.aloadN D2_10 rfl rfl |>.alen pr2 D2_11 (z := 2) (by decide)
  have z2 := k.sz
  obtain ⟨h2, K2, ⟨b2_3_2, f2_0, f2_1, f2_2⟩, k⟩ := (k.callI (w_19 hw) (I4 hw) (R_String__init__30 hw pr16 pr17 pr3 pr2 pr4 pr5 pr15 pr18 pr6 pr7 pr8 pr9 pr10 pr11 pr12 pr19 pr20 pr21 pr13 pr14) D2_12 0 rfl).k0 (allS pr14 all0)
  have s_b2_3_2 := Nat.le_trans z2 f2_0
  exact k.ret0 D2_15 rfl ⟨rfl, K2, b2_3_2, s_b2_3_2, f2_1, f2_2⟩
theorem R_Utf8_decodeName_15 {a1 w_U8 : Addr} {p2 p3 w_CS : Int32} {w_SF : Value} (hw : HW a0 Z) (pr1 : TS_U8 Z w_U8) (pr2 : Ary Z h0 a1 ATB 2 (lv [.int p2, .int p3])) (pr3 : ¬ (w_CS = 0)) (pr4 : p2 < 0) (pr5 : ¬ ((p2 &&& 254) = 194)) (pr6 : ¬ ((p2 >>> ((5 : Int32) &&& 31)) = (-2))) (pr7 : ¬ ((p2 >>> ((4 : Int32) &&& 31)) = (-2))) (pr8 : (p2 >>> ((3 : Int32) &&& 31)) = (-2)) (pr9 : ¬ (244 < (p2 &&& 255))) (pr10 : (p2 &&& 255) = 240) (pr11 : (p3 &&& 255) < 144) (pr12 : ¬ (p3 < 0)) (pr13 : w_SF.isRef = true) (pr14 : Obj Z Z.heap w_U8 L_UTF_8 []) (pr15 : TS_UI Z w_U8) (pr16 : TS_CS Z w_CS) (pr17 : TS_SF Z w_SF) (pr18 : TS_AD Z) (pr19 : TS_HI Z) (pr20 : TS_LO Z) : Mt false [] l Y1 C1 (rmk 7 3 10 113) #[.ref a1] Z a0 h0 n0 (KpV h0 [] fun v h => ∃ b1 b2_3_2_2 : Addr, v = (.ref b1) ∧ h0.size ≤ b1 ∧ h0.size ≤ b2_3_2_2 ∧ b2_3_2_2 ≠ b1 ∧ Obj Z h b1 L_String [.ref b2_3_2_2, .int 1] ∧ Ary Z h b2_3_2_2 ATB 4 (lv [.int (-3), .int (-1), .int (((p3.toUInt32.toUInt16.toUInt32.toInt32) >>> ((0 : Int32) &&& 31)).toInt8.toInt32), .int (((p3.toUInt32.toUInt16.toUInt32.toInt32) >>> ((8 : Int32) &&& 31)).toInt8.toInt32)])) := by
  refine Mt.go PN1 (Or.inl rfl) ef_R_1 fun k => ?_
  have nz := k.n0le
  have z1 := k.sz
  obtain ⟨b1, h1, g1, K1, O1, k⟩ := k.new (w_5 hw) (nw_String hw) D1_0 (by decide) dvL_String
  replace k := k |>.dup D1_3 rfl |>.aloadN D1_4 rfl rfl |>.getS (fl_8 hw) pr1 D1_5
  have s_b1 := Nat.le_trans z1 g1
  have n_b1 := Nat.le_trans nz s_b1
  have o3 := pr2.keep K1 nin0
  have z2 := k.sz
  obtain ⟨h2, K2, ⟨b2_3_2_2, f2_0, f2_1, f2_2⟩, k⟩ := (k.callI (w_10 hw) (I2 hw) (R_String__init__29 hw pr14 o3 pr3 pr4 pr5 pr6 pr7 pr8 pr9 pr10 pr11 pr12 O1 n_b1 pr13 pr15 pr16 pr17 pr18 pr19 pr20) D1_8 1 rfl).k0 (allS n_b1 all0)
  have s_b2_3_2_2 := Nat.le_trans z2 f2_0
  exact k.retA D1_11 rfl ⟨_, rfl, (K1.trans K2 (allS (Or.inr s_b1) all0)), b1, b2_3_2_2, rfl, s_b1, s_b2_3_2_2, (nlt' O1.lt f2_0), f2_1, f2_2⟩
theorem D28_21 : Dc J28 21 (.iload_n 0) 1 22 := by decide +kernel
theorem D28_22 : Dc J28 22 (.sipush 244) 3 25 := by decide +kernel
theorem D28_25 : Dj J28 25 (.if_icmp .ne 14) 14 28 39 := by decide +kernel
theorem own_d27 {p1 v0 v1 v2 v3 v4 v5 v6 : Int32} (e0 : v0 = (p1 &&& 127)) (e1 : v1 = ((128 ||| v0).toInt8.toInt32)) (e2 : v2 = (v1 &&& 254)) (e3 : v3 = (v1 >>> ((5 : Int32) &&& 31))) (e4 : v4 = (v1 >>> ((4 : Int32) &&& 31))) (e5 : v5 = (v1 >>> ((3 : Int32) &&& 31))) (e6 : v6 = (v1 &&& 255)) (q0 : ¬ (v2 = 194)) (q1 : ¬ (v3 = (-2))) (q2 : ¬ (v4 = (-2))) (q3 : v5 = (-2)) (q4 : ¬ (244 < v6)) (q5 : ¬ (v6 = 240)) (q6 : v6 = 244) : v1 < 0 := by
  have := rng32 p1
  have : (127 : Int32).toInt = 127 := by decide
  have := e_mask e0 7 128
  have := e_hbN e1 7 128 128 (by omega)
  have : (254 : Int32).toInt = 254 := by decide
  have : v1.toInt % 256 = v1.toInt + 256 := by omega
  have := e_mask2 e2 1 7 256 2
  have : (194 : Int32).toInt = 194 := by decide
  have := i_neq q0
  have : (5 : Int32).toInt = 5 := by decide
  have := e_ishr e3 5 32
  have : (-2 : Int32).toInt = -2 := by decide
  have := i_neq q1
  have : (4 : Int32).toInt = 4 := by decide
  have := e_ishr e4 4 16
  have := i_neq q2
  have : (3 : Int32).toInt = 3 := by decide
  have := e_ishr e5 3 8
  have := i_eq q3
  have : (244 : Int32).toInt = 244 := by decide
  have : (255 : Int32).toInt = 255 := by decide
  have := e_mask e6 8 256
  have := i_nlt q4
  have : (240 : Int32).toInt = 240 := by decide
  have := i_neq q5
  have := i_eq q6
  have : (0 : Int32).toInt = 0 := by decide
  exact o_lt (by omega)
theorem D28_28 : Dc J28 28 (.iload_n 1) 1 29 := by decide +kernel
theorem D28_29 : Dc J28 29 (.sipush 240) 3 32 := by decide +kernel
theorem D28_32 : Dc J28 32 .iand 1 33 := by decide +kernel
theorem D28_33 : Dc J28 33 (.sipush 128) 3 36 := by decide +kernel
theorem D28_36 : Dj J28 36 (.if_icmp .ne 14) 14 39 50 := by decide +kernel
theorem own_d28 {p2 v0 v1 v2 v3 : Int32} (e0 : v0 = (p2 &&& 127)) (e1 : v1 = (v0.toInt8.toInt32)) (e2 : v2 = (v1 &&& 255)) (e3 : v3 = (v2 &&& 240)) : ¬ (v3 = 128) := by
  have := rng32 p2
  have : (127 : Int32).toInt = 127 := by decide
  have := e_mask e0 7 128
  have := e_i2bN e1 (by omega)
  have : (255 : Int32).toInt = 255 := by decide
  have := e_mask e2 8 256
  have : (240 : Int32).toInt = 240 := by decide
  have : v2.toInt % 256 = v2.toInt := by omega
  have := e_mask2 e3 4 4 256 16
  have : (128 : Int32).toInt = 128 := by decide
  exact o_neq (by omega)
theorem R_String_isMalformed4_2_4 {p1 p2 : Int32} (hw : HW a0 Z) (pr1 : ¬ (p1 = 240)) (pr2 : p1 = 244) (pr3 : ¬ ((p2 &&& 240) = 128)) : Mt false [] l Y28 C28 (rmk 0 0 0 0) #[.int p1, .int p2] Z a0 h0 n0 (Pv h0 (.int 1)) := by
  refine Mt.go PN28 (Or.inl rfl) ef_II_2 fun k => ?_
  replace k := k |>.iloadN D28_0 rfl |>.sipush D28_1 240 |>.icmpYes D28_4 (feq pr1).2 |>.iloadN D28_21 rfl |>.sipush D28_22 244 |>.icmpNo D28_25 (teq pr2).2 |>.iloadN D28_28 rfl |>.sipush D28_29 240 |>.iand D28_32 rfl |>.sipush D28_33 128 |>.icmpYes D28_36 (feq pr3).2 |>.iconst D28_50 1
  replace k := k |>.goto D28_51
  exact k.retN (t := .boolean) D28_55 rfl (by simp) (z' := 1) (by decide) ⟨rfl, rfl⟩
theorem R_String_decodeUTF8_UTF16_15 {a1 a2 : Addr} {p3 p4 : Int32} (hw : HW a0 Z) (pr1 : Ary Z h0 a1 ATB 2 (lv [.int p3, .int p4])) (pr2 : p3 < 0) (pr3 : ¬ ((p3 >>> ((5 : Int32) &&& 31)) = (-2))) (pr4 : ¬ ((p3 >>> ((4 : Int32) &&& 31)) = (-2))) (pr5 : (p3 >>> ((3 : Int32) &&& 31)) = (-2)) (pr6 : ¬ (244 < (p3 &&& 255))) (pr7 : ¬ ((p3 &&& 255) = 240)) (pr8 : (p3 &&& 255) = 244) (pr9 : ¬ (((p4 &&& 255) &&& 240) = 128)) (pr10 : Ary Z h0 a2 ATB 4 (lv [.int 0, .int 0, .int 0, .int 0])) (pr11 : n0 ≤ a2) (pr12 : TS_AD Z) (pr13 : TS_HI Z) (pr14 : TS_LO Z) (pr15 : a1 ≠ a2) (pr16 : ¬ (p4 < 0)) : Mt false [] l Y15 C15 (rmk 1 0 0 14) #[.ref a1, .int 0, .int 2, .ref a2, .int 0, .int 1] Z a0 h0 n0 (KpV h0 [a2] fun v h => v = (.int 2) ∧ Ary Z h a2 ATB 4 (lv [.int (-3), .int (-1), .int (((p4.toUInt32.toUInt16.toUInt32.toInt32) >>> ((0 : Int32) &&& 31)).toInt8.toInt32), .int (((p4.toUInt32.toUInt16.toUInt32.toInt32) >>> ((8 : Int32) &&& 31)).toInt8.toInt32)])) := by
  refine Mt.go PN15 (Or.inl rfl) ef_RIIRII_11_0_2_0_1 fun k => ?_
  replace k := k |>.iloadN D15_0 rfl |>.iloadN D15_1 rfl |>.icmpNo D15_2 (by decide) |>.aloadN D15_5 rfl rfl |>.iloadN D15_6 rfl |>.iinc D15_7 rfl (z := 1) (by decide) sto1 |>.bald pr1 D15_10 (i := 0) (by decide) lvg0 |>.istore D15_11 sto6 |>.iload D15_13 rfl |>.ifYes D15_15 ((if0 _ _).trans (tlt pr2).1) |>.iload D15_33 rfl |>.iconst D15_35 5
  replace k := k |>.ishr D15_36 rfl |>.bipush D15_37 (-2) |>.icmpYes D15_39 (feq pr3).2 |>.iload D15_143 rfl |>.iconst D15_145 4 |>.ishr D15_146 rfl |>.bipush D15_147 (-2) |>.icmpYes D15_149 (feq pr4).2 |>.iload D15_349 rfl |>.iconst D15_351 3 |>.ishr D15_352 rfl |>.bipush D15_353 (-2)
  replace k := k |>.icmpNo D15_355 (teq pr5).2 |>.iloadN D15_358 rfl |>.iconst D15_359 2 |>.iadd D15_360 (z := 3) (by decide) |>.iloadN D15_361 rfl |>.icmpYes D15_362 (by decide) |>.iload D15_490 rfl |>.sipush D15_492 255 |>.iand D15_495 rfl |>.istore D15_496 sto6 |>.iload D15_498 rfl |>.sipush D15_500 244
  replace k := k |>.icmpNo D15_503 (flt pr6).2.2.1 |>.iloadN D15_506 rfl |>.iloadN D15_507 rfl |>.icmpNo D15_508 (by decide) |>.iload D15_511 rfl |>.aloadN D15_513 rfl rfl |>.iloadN D15_514 rfl |>.bald pr1 D15_515 (i := 1) (by decide) lvg1 |>.sipush D15_516 255 |>.iand D15_519 rfl
  replace k := (k.callS (w_181 hw) (S28 hw) (R_String_isMalformed4_2_4 hw pr7 pr8 pr9) D15_520 0 rfl).pv
  replace k := k |>.ifNo D15_523 (by decide) |>.iload D15_526 rfl |>.ifYes D15_528 (by decide) |>.aloadN D15_538 rfl rfl |>.iload D15_539 rfl |>.iinc D15_541 rfl (z := 1) (by decide) sto4 |>.ldcI (w_179 hw) D15_544
  obtain ⟨h2, K2, f2_0, k⟩ := (k.callS (w_146 hw) (S17 hw) (R_StringUTF16_putChar_1 hw pr12 pr13 pr10 pr11 pr14) D15_546 0 rfl).k0 (allS pr11 all0)
  replace k := k |>.goto D15_549 |>.iloadN D15_0 rfl |>.iloadN D15_1 rfl |>.icmpNo D15_2 (by decide) |>.aloadN D15_5 rfl rfl |>.iloadN D15_6 rfl |>.iinc D15_7 rfl (z := 2) (by decide) sto1
  have o3 := pr1.keep K2 (ninS pr15 nin0)
  replace k := k |>.bald o3 D15_10 (i := 1) (by decide) lvg1 |>.istore D15_11 sto6 |>.iload D15_13 rfl |>.ifNo D15_15 ((if0 _ _).trans (flt pr16).1) |>.aloadN D15_18 rfl rfl |>.iload D15_19 rfl |>.iinc D15_21 rfl (z := 2) (by decide) sto4 |>.iload D15_24 rfl |>.i2c D15_26 rfl
  obtain ⟨h4, K4, f4_0, k⟩ := (k.callS (w_146 hw) (S17 hw) (R_StringUTF16_putChar_2 hw pr12 pr13 f2_0 pr11 pr14) D15_27 0 rfl).k0 (allS pr11 all0)
  replace k := k |>.goto D15_30 |>.goto D15_618 |>.iloadN D15_0 rfl |>.iloadN D15_1 rfl |>.icmpYes D15_2 (by decide) |>.iload D15_621 rfl
  exact k.retI D15_623 rfl ⟨_, rfl, (K2.trans K4 (allS (Or.inl (List.mem_of_getElem? (i := 0) rfl)) all0)), rfl, f4_0⟩
theorem R_String__init__34 {a1 w_U8 a2 : Addr} {w_CS p3 p4 : Int32} {w_SF : Value} (hw : HW a0 Z) (pr1 : TS_UI Z w_U8) (pr2 : TS_CS Z w_CS) (pr3 : ¬ (w_CS = 0)) (pr4 : Ary Z h0 a2 ATB 2 (lv [.int p3, .int p4])) (pr5 : p3 < 0) (pr6 : ¬ ((p3 &&& 254) = 194)) (pr7 : w_SF.isRef = true) (pr8 : TS_SF Z w_SF) (pr9 : ¬ ((p3 >>> ((5 : Int32) &&& 31)) = (-2))) (pr10 : ¬ ((p3 >>> ((4 : Int32) &&& 31)) = (-2))) (pr11 : (p3 >>> ((3 : Int32) &&& 31)) = (-2)) (pr12 : ¬ (244 < (p3 &&& 255))) (pr13 : ¬ ((p3 &&& 255) = 240)) (pr14 : (p3 &&& 255) = 244) (pr15 : ¬ (((p4 &&& 255) &&& 240) = 128)) (pr16 : ¬ (p4 < 0)) (pr17 : TS_AD Z) (pr18 : TS_HI Z) (pr19 : TS_LO Z) (pr20 : Obj Z h0 a1 L_String [.null, .int 0]) (pr21 : n0 ≤ a1) : Mt false [] l Y4 C4 (rmk 5 2 6 76) #[.ref a1, .ref w_U8, .ref a2, .int 0, .int 2] Z a0 h0 n0 (K0 h0 [a1] fun h => ∃ b2_3 : Addr, h0.size ≤ b2_3 ∧ Obj Z h a1 L_String [.ref b2_3, .int 1] ∧ Ary Z h b2_3 ATB 4 (lv [.int (-3), .int (-1), .int (((p4.toUInt32.toUInt16.toUInt32.toInt32) >>> ((0 : Int32) &&& 31)).toInt8.toInt32), .int (((p4.toUInt32.toUInt16.toUInt32.toInt32) >>> ((8 : Int32) &&& 31)).toInt8.toInt32)])) := by
  refine Mt.go PN4 (Or.inr ⟨_, rfl⟩) ef_RRRII_11_0_2 fun k => ?_
  have nz := k.n0le
  replace k := k |>.aloadN D4_0 rfl rfl |>.initO (w_23 hw) (w_24 hw) (w_25 hw) D4_1 0 |>.iload D4_4 rfl |>.ifYes D4_6 (by decide) |>.aloadN D4_30 rfl rfl |>.getS (fl_46 hw) pr1 D4_31 |>.acmpNo D4_34 rfl rfl true (decide_eq_true rfl) (by decide) |>.getS (fl_48 hw) pr2 D4_37 |>.ifNo D4_40 ((if0 _ _).trans (feq pr3).1) |>.aloadN D4_43 rfl rfl |>.iloadN D4_44 rfl |>.iload D4_45 rfl
  replace k := (k.callS (w_49 hw) (S5 hw) (R_StringCoding_countPositives_1 hw pr4 pr5) D4_47 0 rfl).pv
  replace k := k |>.istore D4_50 sto5 |>.iload D4_52 rfl |>.iload D4_54 rfl |>.icmpYes D4_56 (by decide) |>.aloadN D4_78 rfl rfl |>.iloadN D4_79 rfl |>.iloadN D4_80 rfl |>.iload D4_81 rfl |>.iadd D4_83 (z := 2) (by decide)
  have z2 := k.sz
  obtain ⟨_, h2, K2, ⟨b1_2, rfl, f2_0, f2_1⟩, k⟩ := (k.callS (w_53 hw) (S6 hw) (R_Arrays_copyOfRange_1 hw pr4) D4_84 0 rfl).kv
  replace k := k |>.astore D4_87 rfl sto6 |>.iload D4_89 rfl |>.istore D4_91 sto7 |>.iload D4_93 rfl |>.iload D4_95 rfl |>.icmpNo D4_97 (by decide) |>.aload D4_100 rfl rfl |>.iload D4_102 rfl |>.iinc D4_104 rfl (z := 1) (by decide) sto7 |>.bald f2_1 D4_107 (i := 0) (by decide) lvg0 |>.istore D4_108 sto8 |>.iload D4_110 rfl
  replace k := k |>.ifYes D4_112 ((if0 _ _).trans (tlt pr5).1) |>.iload D4_129 rfl |>.sipush D4_131 254 |>.iand D4_134 rfl |>.sipush D4_135 194 |>.icmpYes D4_138 (feq pr6).2 |>.iinc D4_184 rfl (z := 0) (by decide) sto7 |>.goto D4_187 |>.iload D4_190 rfl |>.iload D4_192 rfl |>.icmpYes D4_194 (by decide) |>.iload D4_226 rfl
  have z3 := k.sz
  obtain ⟨_, h3, K3, ⟨b2_3, rfl, f3_0, f3_1⟩, k⟩ := (k.callS (w_100 hw) (S7 hw) (R_StringUTF16_newBytesFor_1 hw) D4_228 0 rfl).kv
  replace k := k |>.astore D4_231 rfl sto8 |>.aload D4_233 rfl rfl |>.iconst D4_235 0 |>.aload D4_236 rfl rfl |>.iconst D4_238 0 |>.iload D4_239 rfl
  replace k := (k.callS (w_108 hw) (S9 hw) (R_StringLatin1_inflate_1 hw f3_1 pr7 pr8) D4_241 0 rfl).p0
  replace k := k |>.aload D4_244 rfl rfl |>.iload D4_246 rfl |>.iload D4_248 rfl |>.aload D4_250 rfl rfl |>.iload D4_252 rfl |>.iconst D4_254 1
  have s_b2_3 := Nat.le_trans z3 f3_0
  have n_b2_3 := Nat.le_trans nz s_b2_3
  have o6 := f2_1.keep K3 nin0
  obtain ⟨_, h5, K5, ⟨rfl, f5_0⟩, k⟩ := (k.callS (w_126 hw) (S15 hw) (R_String_decodeUTF8_UTF16_15 hw o6 pr5 pr9 pr10 pr11 pr12 pr13 pr14 pr15 f3_1 n_b2_3 pr17 pr18 pr19 (nlt f2_1.lt f3_0) pr16) D4_255 0 rfl).kv (allS n_b2_3 all0)
  replace k := k |>.istore D4_258 sto5 |>.iload D4_260 rfl |>.iload D4_262 rfl |>.icmpYes D4_264 (by decide) |>.aloadN D4_278 rfl rfl |>.aload D4_279 rfl rfl
  have o7 := ((pr20.keep K2 nin0).keep K3 nin0).keep K5 (ninS (nlt pr20.lt s_b2_3) nin0)
  obtain ⟨h8, K8, O8, k⟩ := k.putF (fl_31 hw) (pw_String_i_String_value hw) o7 0 pr21 (Or.inl rfl) D4_281 rfl rfl rfl ls0
  replace k := k |>.aloadN D4_284 rfl rfl |>.iconst D4_285 1
  obtain ⟨h9, K9, O9, k⟩ := k.putN (fp_32 hw) (pw_String_i_String_coder hw) O8 1 pr21 (Or.inl rfl) D4_286 rfl (v' := (.int 1)) (by decide) (by decide) ls1
  replace k := k |>.goto D4_289
  have o10 := (f5_0.keep K8 (ninS (nlt' pr20.lt s_b2_3) nin0)).keep K9 (ninS (nlt' pr20.lt s_b2_3) nin0)
  exact k.ret0 D4_879 rfl ⟨rfl, ((((((Keep.refl h0 [a1]).trans K2 all0).trans K3 all0).trans K5 (allS (Or.inr s_b2_3) all0)).trans K8 (allS (Or.inl (List.mem_of_getElem? (i := 0) rfl)) all0)).trans K9 (allS (Or.inl (List.mem_of_getElem? (i := 0) rfl)) all0)), b2_3, s_b2_3, O9, o10⟩
theorem R_String__init__33 {a1 a2 w_U8 : Addr} {p3 p4 w_CS : Int32} {w_SF : Value} (hw : HW a0 Z) (pr1 : Obj Z Z.heap w_U8 L_UTF_8 []) (pr2 : Ary Z h0 a2 ATB 2 (lv [.int p3, .int p4])) (pr3 : ¬ (w_CS = 0)) (pr4 : p3 < 0) (pr5 : ¬ ((p3 &&& 254) = 194)) (pr6 : ¬ ((p3 >>> ((5 : Int32) &&& 31)) = (-2))) (pr7 : ¬ ((p3 >>> ((4 : Int32) &&& 31)) = (-2))) (pr8 : (p3 >>> ((3 : Int32) &&& 31)) = (-2)) (pr9 : ¬ (244 < (p3 &&& 255))) (pr10 : ¬ ((p3 &&& 255) = 240)) (pr11 : (p3 &&& 255) = 244) (pr12 : ¬ (((p4 &&& 255) &&& 240) = 128)) (pr13 : ¬ (p4 < 0)) (pr14 : Obj Z h0 a1 L_String [.null, .int 0]) (pr15 : n0 ≤ a1) (pr16 : w_SF.isRef = true) (pr17 : TS_UI Z w_U8) (pr18 : TS_CS Z w_CS) (pr19 : TS_SF Z w_SF) (pr20 : TS_AD Z) (pr21 : TS_HI Z) (pr22 : TS_LO Z) : Mt false [] l Y2 C2 (rmk 6 2 6 98) #[.ref a1, .ref a2, .ref w_U8] Z a0 h0 n0 (K0 h0 [a1] fun h => ∃ b2_3_2 : Addr, h0.size ≤ b2_3_2 ∧ Obj Z h a1 L_String [.ref b2_3_2, .int 1] ∧ Ary Z h b2_3_2 ATB 4 (lv [.int (-3), .int (-1), .int (((p4.toUInt32.toUInt16.toUInt32.toInt32) >>> ((0 : Int32) &&& 31)).toInt8.toInt32), .int (((p4.toUInt32.toUInt16.toUInt32.toInt32) >>> ((8 : Int32) &&& 31)).toInt8.toInt32)])) := by
  refine Mt.go PN2 (Or.inl rfl) ef_RRR_3 fun k => ?_
  replace k := k |>.aloadN D2_0 rfl rfl |>.aloadN D2_1 rfl rfl
  replace k := (k.callS (w_13 hw) (S3 hw) (R_Objects_requireNonNull_1 hw) D2_2 1 rfl).pv
  replace k := k |>.castY (w_17 hw) (Ins.of_exa (pr1.ext k.old.2).exa (w_18 hw)) D2_5 |>.aloadN D2_8 rfl rfl |>.iconst D2_9 0 |>.aloadN D2_10 rfl rfl |>.alen pr2 D2_11 (z := 2) (by decide)
  have z2 := k.sz
  obtain ⟨h2, K2, ⟨b2_3_2, f2_0, f2_1, f2_2⟩, k⟩ := (k.callI (w_19 hw) (I4 hw) (R_String__init__34 hw pr17 pr18 pr3 pr2 pr4 pr5 pr16 pr19 pr6 pr7 pr8 pr9 pr10 pr11 pr12 pr13 pr20 pr21 pr22 pr14 pr15) D2_12 0 rfl).k0 (allS pr15 all0)
  have s_b2_3_2 := Nat.le_trans z2 f2_0
  exact k.ret0 D2_15 rfl ⟨rfl, K2, b2_3_2, s_b2_3_2, f2_1, f2_2⟩
theorem R_Utf8_decodeName_17 {a1 w_U8 : Addr} {p2 p3 w_CS : Int32} {w_SF : Value} (hw : HW a0 Z) (pr1 : TS_U8 Z w_U8) (pr2 : Ary Z h0 a1 ATB 2 (lv [.int p2, .int p3])) (pr3 : ¬ (w_CS = 0)) (pr4 : p2 < 0) (pr5 : ¬ ((p2 &&& 254) = 194)) (pr6 : ¬ ((p2 >>> ((5 : Int32) &&& 31)) = (-2))) (pr7 : ¬ ((p2 >>> ((4 : Int32) &&& 31)) = (-2))) (pr8 : (p2 >>> ((3 : Int32) &&& 31)) = (-2)) (pr9 : ¬ (244 < (p2 &&& 255))) (pr10 : ¬ ((p2 &&& 255) = 240)) (pr11 : (p2 &&& 255) = 244) (pr12 : ¬ (((p3 &&& 255) &&& 240) = 128)) (pr13 : ¬ (p3 < 0)) (pr14 : w_SF.isRef = true) (pr15 : Obj Z Z.heap w_U8 L_UTF_8 []) (pr16 : TS_UI Z w_U8) (pr17 : TS_CS Z w_CS) (pr18 : TS_SF Z w_SF) (pr19 : TS_AD Z) (pr20 : TS_HI Z) (pr21 : TS_LO Z) : Mt false [] l Y1 C1 (rmk 7 3 10 113) #[.ref a1] Z a0 h0 n0 (KpV h0 [] fun v h => ∃ b1 b2_3_2_2 : Addr, v = (.ref b1) ∧ h0.size ≤ b1 ∧ h0.size ≤ b2_3_2_2 ∧ b2_3_2_2 ≠ b1 ∧ Obj Z h b1 L_String [.ref b2_3_2_2, .int 1] ∧ Ary Z h b2_3_2_2 ATB 4 (lv [.int (-3), .int (-1), .int (((p3.toUInt32.toUInt16.toUInt32.toInt32) >>> ((0 : Int32) &&& 31)).toInt8.toInt32), .int (((p3.toUInt32.toUInt16.toUInt32.toInt32) >>> ((8 : Int32) &&& 31)).toInt8.toInt32)])) := by
  refine Mt.go PN1 (Or.inl rfl) ef_R_1 fun k => ?_
  have nz := k.n0le
  have z1 := k.sz
  obtain ⟨b1, h1, g1, K1, O1, k⟩ := k.new (w_5 hw) (nw_String hw) D1_0 (by decide) dvL_String
  replace k := k |>.dup D1_3 rfl |>.aloadN D1_4 rfl rfl |>.getS (fl_8 hw) pr1 D1_5
  have s_b1 := Nat.le_trans z1 g1
  have n_b1 := Nat.le_trans nz s_b1
  have o3 := pr2.keep K1 nin0
  have z2 := k.sz
  obtain ⟨h2, K2, ⟨b2_3_2_2, f2_0, f2_1, f2_2⟩, k⟩ := (k.callI (w_10 hw) (I2 hw) (R_String__init__33 hw pr15 o3 pr3 pr4 pr5 pr6 pr7 pr8 pr9 pr10 pr11 pr12 pr13 O1 n_b1 pr14 pr16 pr17 pr18 pr19 pr20 pr21) D1_8 1 rfl).k0 (allS n_b1 all0)
  have s_b2_3_2_2 := Nat.le_trans z2 f2_0
  exact k.retA D1_11 rfl ⟨_, rfl, (K1.trans K2 (allS (Or.inr s_b1) all0)), b1, b2_3_2_2, rfl, s_b1, s_b2_3_2_2, (nlt' O1.lt f2_0), f2_1, f2_2⟩
theorem own_d29 {p1 v0 v1 v2 v3 v4 v5 v6 : Int32} (e0 : v0 = (p1 &&& 127)) (e1 : v1 = ((128 ||| v0).toInt8.toInt32)) (e2 : v2 = (v1 &&& 254)) (e3 : v3 = (v1 >>> ((5 : Int32) &&& 31))) (e4 : v4 = (v1 >>> ((4 : Int32) &&& 31))) (e5 : v5 = (v1 >>> ((3 : Int32) &&& 31))) (e6 : v6 = (v1 &&& 255)) (q0 : ¬ (v2 = 194)) (q1 : ¬ (v3 = (-2))) (q2 : ¬ (v4 = (-2))) (q3 : v5 = (-2)) (q4 : ¬ (244 < v6)) (q5 : ¬ (v6 = 240)) (q6 : ¬ (v6 = 244)) : v1 < 0 := by
  have := rng32 p1
  have : (127 : Int32).toInt = 127 := by decide
  have := e_mask e0 7 128
  have := e_hbN e1 7 128 128 (by omega)
  have : (254 : Int32).toInt = 254 := by decide
  have : v1.toInt % 256 = v1.toInt + 256 := by omega
  have := e_mask2 e2 1 7 256 2
  have : (194 : Int32).toInt = 194 := by decide
  have := i_neq q0
  have : (5 : Int32).toInt = 5 := by decide
  have := e_ishr e3 5 32
  have : (-2 : Int32).toInt = -2 := by decide
  have := i_neq q1
  have : (4 : Int32).toInt = 4 := by decide
  have := e_ishr e4 4 16
  have := i_neq q2
  have : (3 : Int32).toInt = 3 := by decide
  have := e_ishr e5 3 8
  have := i_eq q3
  have : (244 : Int32).toInt = 244 := by decide
  have : (255 : Int32).toInt = 255 := by decide
  have := e_mask e6 8 256
  have := i_nlt q4
  have : (240 : Int32).toInt = 240 := by decide
  have := i_neq q5
  have := i_neq q6
  have : (0 : Int32).toInt = 0 := by decide
  exact o_lt (by omega)
theorem D28_39 : Dc J28 39 (.iload_n 1) 1 40 := by decide +kernel
theorem D28_40 : Dc J28 40 (.sipush 192) 3 43 := by decide +kernel
theorem D28_43 : Dc J28 43 .iand 1 44 := by decide +kernel
theorem D28_44 : Dc J28 44 (.sipush 128) 3 47 := by decide +kernel
theorem D28_47 : Dj J28 47 (.if_icmp .eq 7) 7 50 54 := by decide +kernel
theorem own_d30 {p2 v0 v1 v2 v3 : Int32} (e0 : v0 = (p2 &&& 127)) (e1 : v1 = (v0.toInt8.toInt32)) (e2 : v2 = (v1 &&& 255)) (e3 : v3 = (v2 &&& 192)) : ¬ (v3 = 128) := by
  have := rng32 p2
  have : (127 : Int32).toInt = 127 := by decide
  have := e_mask e0 7 128
  have := e_i2bN e1 (by omega)
  have : (255 : Int32).toInt = 255 := by decide
  have := e_mask e2 8 256
  have : (192 : Int32).toInt = 192 := by decide
  have : v2.toInt % 256 = v2.toInt := by omega
  have := e_mask2 e3 6 2 256 64
  have : (128 : Int32).toInt = 128 := by decide
  exact o_neq (by omega)
theorem R_String_isMalformed4_2_5 {p1 p2 : Int32} (hw : HW a0 Z) (pr1 : ¬ (p1 = 240)) (pr2 : ¬ (p1 = 244)) (pr3 : ¬ ((p2 &&& 192) = 128)) : Mt false [] l Y28 C28 (rmk 0 0 0 0) #[.int p1, .int p2] Z a0 h0 n0 (Pv h0 (.int 1)) := by
  refine Mt.go PN28 (Or.inl rfl) ef_II_2 fun k => ?_
  replace k := k |>.iloadN D28_0 rfl |>.sipush D28_1 240 |>.icmpYes D28_4 (feq pr1).2 |>.iloadN D28_21 rfl |>.sipush D28_22 244 |>.icmpYes D28_25 (feq pr2).2 |>.iloadN D28_39 rfl |>.sipush D28_40 192 |>.iand D28_43 rfl |>.sipush D28_44 128 |>.icmpNo D28_47 (feq pr3).1 |>.iconst D28_50 1
  replace k := k |>.goto D28_51
  exact k.retN (t := .boolean) D28_55 rfl (by simp) (z' := 1) (by decide) ⟨rfl, rfl⟩
theorem R_String_decodeUTF8_UTF16_16 {a1 a2 : Addr} {p3 p4 : Int32} (hw : HW a0 Z) (pr1 : Ary Z h0 a1 ATB 2 (lv [.int p3, .int p4])) (pr2 : p3 < 0) (pr3 : ¬ ((p3 >>> ((5 : Int32) &&& 31)) = (-2))) (pr4 : ¬ ((p3 >>> ((4 : Int32) &&& 31)) = (-2))) (pr5 : (p3 >>> ((3 : Int32) &&& 31)) = (-2)) (pr6 : ¬ (244 < (p3 &&& 255))) (pr7 : ¬ ((p3 &&& 255) = 240)) (pr8 : ¬ ((p3 &&& 255) = 244)) (pr9 : ¬ (((p4 &&& 255) &&& 192) = 128)) (pr10 : Ary Z h0 a2 ATB 4 (lv [.int 0, .int 0, .int 0, .int 0])) (pr11 : n0 ≤ a2) (pr12 : TS_AD Z) (pr13 : TS_HI Z) (pr14 : TS_LO Z) (pr15 : a1 ≠ a2) (pr16 : ¬ (p4 < 0)) : Mt false [] l Y15 C15 (rmk 1 0 0 14) #[.ref a1, .int 0, .int 2, .ref a2, .int 0, .int 1] Z a0 h0 n0 (KpV h0 [a2] fun v h => v = (.int 2) ∧ Ary Z h a2 ATB 4 (lv [.int (-3), .int (-1), .int (((p4.toUInt32.toUInt16.toUInt32.toInt32) >>> ((0 : Int32) &&& 31)).toInt8.toInt32), .int (((p4.toUInt32.toUInt16.toUInt32.toInt32) >>> ((8 : Int32) &&& 31)).toInt8.toInt32)])) := by
  refine Mt.go PN15 (Or.inl rfl) ef_RIIRII_11_0_2_0_1 fun k => ?_
  replace k := k |>.iloadN D15_0 rfl |>.iloadN D15_1 rfl |>.icmpNo D15_2 (by decide) |>.aloadN D15_5 rfl rfl |>.iloadN D15_6 rfl |>.iinc D15_7 rfl (z := 1) (by decide) sto1 |>.bald pr1 D15_10 (i := 0) (by decide) lvg0 |>.istore D15_11 sto6 |>.iload D15_13 rfl |>.ifYes D15_15 ((if0 _ _).trans (tlt pr2).1) |>.iload D15_33 rfl |>.iconst D15_35 5
  replace k := k |>.ishr D15_36 rfl |>.bipush D15_37 (-2) |>.icmpYes D15_39 (feq pr3).2 |>.iload D15_143 rfl |>.iconst D15_145 4 |>.ishr D15_146 rfl |>.bipush D15_147 (-2) |>.icmpYes D15_149 (feq pr4).2 |>.iload D15_349 rfl |>.iconst D15_351 3 |>.ishr D15_352 rfl |>.bipush D15_353 (-2)
  replace k := k |>.icmpNo D15_355 (teq pr5).2 |>.iloadN D15_358 rfl |>.iconst D15_359 2 |>.iadd D15_360 (z := 3) (by decide) |>.iloadN D15_361 rfl |>.icmpYes D15_362 (by decide) |>.iload D15_490 rfl |>.sipush D15_492 255 |>.iand D15_495 rfl |>.istore D15_496 sto6 |>.iload D15_498 rfl |>.sipush D15_500 244
  replace k := k |>.icmpNo D15_503 (flt pr6).2.2.1 |>.iloadN D15_506 rfl |>.iloadN D15_507 rfl |>.icmpNo D15_508 (by decide) |>.iload D15_511 rfl |>.aloadN D15_513 rfl rfl |>.iloadN D15_514 rfl |>.bald pr1 D15_515 (i := 1) (by decide) lvg1 |>.sipush D15_516 255 |>.iand D15_519 rfl
  replace k := (k.callS (w_181 hw) (S28 hw) (R_String_isMalformed4_2_5 hw pr7 pr8 pr9) D15_520 0 rfl).pv
  replace k := k |>.ifNo D15_523 (by decide) |>.iload D15_526 rfl |>.ifYes D15_528 (by decide) |>.aloadN D15_538 rfl rfl |>.iload D15_539 rfl |>.iinc D15_541 rfl (z := 1) (by decide) sto4 |>.ldcI (w_179 hw) D15_544
  obtain ⟨h2, K2, f2_0, k⟩ := (k.callS (w_146 hw) (S17 hw) (R_StringUTF16_putChar_1 hw pr12 pr13 pr10 pr11 pr14) D15_546 0 rfl).k0 (allS pr11 all0)
  replace k := k |>.goto D15_549 |>.iloadN D15_0 rfl |>.iloadN D15_1 rfl |>.icmpNo D15_2 (by decide) |>.aloadN D15_5 rfl rfl |>.iloadN D15_6 rfl |>.iinc D15_7 rfl (z := 2) (by decide) sto1
  have o3 := pr1.keep K2 (ninS pr15 nin0)
  replace k := k |>.bald o3 D15_10 (i := 1) (by decide) lvg1 |>.istore D15_11 sto6 |>.iload D15_13 rfl |>.ifNo D15_15 ((if0 _ _).trans (flt pr16).1) |>.aloadN D15_18 rfl rfl |>.iload D15_19 rfl |>.iinc D15_21 rfl (z := 2) (by decide) sto4 |>.iload D15_24 rfl |>.i2c D15_26 rfl
  obtain ⟨h4, K4, f4_0, k⟩ := (k.callS (w_146 hw) (S17 hw) (R_StringUTF16_putChar_2 hw pr12 pr13 f2_0 pr11 pr14) D15_27 0 rfl).k0 (allS pr11 all0)
  replace k := k |>.goto D15_30 |>.goto D15_618 |>.iloadN D15_0 rfl |>.iloadN D15_1 rfl |>.icmpYes D15_2 (by decide) |>.iload D15_621 rfl
  exact k.retI D15_623 rfl ⟨_, rfl, (K2.trans K4 (allS (Or.inl (List.mem_of_getElem? (i := 0) rfl)) all0)), rfl, f4_0⟩
theorem R_String__init__36 {a1 w_U8 a2 : Addr} {w_CS p3 p4 : Int32} {w_SF : Value} (hw : HW a0 Z) (pr1 : TS_UI Z w_U8) (pr2 : TS_CS Z w_CS) (pr3 : ¬ (w_CS = 0)) (pr4 : Ary Z h0 a2 ATB 2 (lv [.int p3, .int p4])) (pr5 : p3 < 0) (pr6 : ¬ ((p3 &&& 254) = 194)) (pr7 : w_SF.isRef = true) (pr8 : TS_SF Z w_SF) (pr9 : ¬ ((p3 >>> ((5 : Int32) &&& 31)) = (-2))) (pr10 : ¬ ((p3 >>> ((4 : Int32) &&& 31)) = (-2))) (pr11 : (p3 >>> ((3 : Int32) &&& 31)) = (-2)) (pr12 : ¬ (244 < (p3 &&& 255))) (pr13 : ¬ ((p3 &&& 255) = 240)) (pr14 : ¬ ((p3 &&& 255) = 244)) (pr15 : ¬ (((p4 &&& 255) &&& 192) = 128)) (pr16 : ¬ (p4 < 0)) (pr17 : TS_AD Z) (pr18 : TS_HI Z) (pr19 : TS_LO Z) (pr20 : Obj Z h0 a1 L_String [.null, .int 0]) (pr21 : n0 ≤ a1) : Mt false [] l Y4 C4 (rmk 5 2 6 76) #[.ref a1, .ref w_U8, .ref a2, .int 0, .int 2] Z a0 h0 n0 (K0 h0 [a1] fun h => ∃ b2_3 : Addr, h0.size ≤ b2_3 ∧ Obj Z h a1 L_String [.ref b2_3, .int 1] ∧ Ary Z h b2_3 ATB 4 (lv [.int (-3), .int (-1), .int (((p4.toUInt32.toUInt16.toUInt32.toInt32) >>> ((0 : Int32) &&& 31)).toInt8.toInt32), .int (((p4.toUInt32.toUInt16.toUInt32.toInt32) >>> ((8 : Int32) &&& 31)).toInt8.toInt32)])) := by
  refine Mt.go PN4 (Or.inr ⟨_, rfl⟩) ef_RRRII_11_0_2 fun k => ?_
  have nz := k.n0le
  replace k := k |>.aloadN D4_0 rfl rfl |>.initO (w_23 hw) (w_24 hw) (w_25 hw) D4_1 0 |>.iload D4_4 rfl |>.ifYes D4_6 (by decide) |>.aloadN D4_30 rfl rfl |>.getS (fl_46 hw) pr1 D4_31 |>.acmpNo D4_34 rfl rfl true (decide_eq_true rfl) (by decide) |>.getS (fl_48 hw) pr2 D4_37 |>.ifNo D4_40 ((if0 _ _).trans (feq pr3).1) |>.aloadN D4_43 rfl rfl |>.iloadN D4_44 rfl |>.iload D4_45 rfl
  replace k := (k.callS (w_49 hw) (S5 hw) (R_StringCoding_countPositives_1 hw pr4 pr5) D4_47 0 rfl).pv
  replace k := k |>.istore D4_50 sto5 |>.iload D4_52 rfl |>.iload D4_54 rfl |>.icmpYes D4_56 (by decide) |>.aloadN D4_78 rfl rfl |>.iloadN D4_79 rfl |>.iloadN D4_80 rfl |>.iload D4_81 rfl |>.iadd D4_83 (z := 2) (by decide)
  have z2 := k.sz
  obtain ⟨_, h2, K2, ⟨b1_2, rfl, f2_0, f2_1⟩, k⟩ := (k.callS (w_53 hw) (S6 hw) (R_Arrays_copyOfRange_1 hw pr4) D4_84 0 rfl).kv
  replace k := k |>.astore D4_87 rfl sto6 |>.iload D4_89 rfl |>.istore D4_91 sto7 |>.iload D4_93 rfl |>.iload D4_95 rfl |>.icmpNo D4_97 (by decide) |>.aload D4_100 rfl rfl |>.iload D4_102 rfl |>.iinc D4_104 rfl (z := 1) (by decide) sto7 |>.bald f2_1 D4_107 (i := 0) (by decide) lvg0 |>.istore D4_108 sto8 |>.iload D4_110 rfl
  replace k := k |>.ifYes D4_112 ((if0 _ _).trans (tlt pr5).1) |>.iload D4_129 rfl |>.sipush D4_131 254 |>.iand D4_134 rfl |>.sipush D4_135 194 |>.icmpYes D4_138 (feq pr6).2 |>.iinc D4_184 rfl (z := 0) (by decide) sto7 |>.goto D4_187 |>.iload D4_190 rfl |>.iload D4_192 rfl |>.icmpYes D4_194 (by decide) |>.iload D4_226 rfl
  have z3 := k.sz
  obtain ⟨_, h3, K3, ⟨b2_3, rfl, f3_0, f3_1⟩, k⟩ := (k.callS (w_100 hw) (S7 hw) (R_StringUTF16_newBytesFor_1 hw) D4_228 0 rfl).kv
  replace k := k |>.astore D4_231 rfl sto8 |>.aload D4_233 rfl rfl |>.iconst D4_235 0 |>.aload D4_236 rfl rfl |>.iconst D4_238 0 |>.iload D4_239 rfl
  replace k := (k.callS (w_108 hw) (S9 hw) (R_StringLatin1_inflate_1 hw f3_1 pr7 pr8) D4_241 0 rfl).p0
  replace k := k |>.aload D4_244 rfl rfl |>.iload D4_246 rfl |>.iload D4_248 rfl |>.aload D4_250 rfl rfl |>.iload D4_252 rfl |>.iconst D4_254 1
  have s_b2_3 := Nat.le_trans z3 f3_0
  have n_b2_3 := Nat.le_trans nz s_b2_3
  have o6 := f2_1.keep K3 nin0
  obtain ⟨_, h5, K5, ⟨rfl, f5_0⟩, k⟩ := (k.callS (w_126 hw) (S15 hw) (R_String_decodeUTF8_UTF16_16 hw o6 pr5 pr9 pr10 pr11 pr12 pr13 pr14 pr15 f3_1 n_b2_3 pr17 pr18 pr19 (nlt f2_1.lt f3_0) pr16) D4_255 0 rfl).kv (allS n_b2_3 all0)
  replace k := k |>.istore D4_258 sto5 |>.iload D4_260 rfl |>.iload D4_262 rfl |>.icmpYes D4_264 (by decide) |>.aloadN D4_278 rfl rfl |>.aload D4_279 rfl rfl
  have o7 := ((pr20.keep K2 nin0).keep K3 nin0).keep K5 (ninS (nlt pr20.lt s_b2_3) nin0)
  obtain ⟨h8, K8, O8, k⟩ := k.putF (fl_31 hw) (pw_String_i_String_value hw) o7 0 pr21 (Or.inl rfl) D4_281 rfl rfl rfl ls0
  replace k := k |>.aloadN D4_284 rfl rfl |>.iconst D4_285 1
  obtain ⟨h9, K9, O9, k⟩ := k.putN (fp_32 hw) (pw_String_i_String_coder hw) O8 1 pr21 (Or.inl rfl) D4_286 rfl (v' := (.int 1)) (by decide) (by decide) ls1
  replace k := k |>.goto D4_289
  have o10 := (f5_0.keep K8 (ninS (nlt' pr20.lt s_b2_3) nin0)).keep K9 (ninS (nlt' pr20.lt s_b2_3) nin0)
  exact k.ret0 D4_879 rfl ⟨rfl, ((((((Keep.refl h0 [a1]).trans K2 all0).trans K3 all0).trans K5 (allS (Or.inr s_b2_3) all0)).trans K8 (allS (Or.inl (List.mem_of_getElem? (i := 0) rfl)) all0)).trans K9 (allS (Or.inl (List.mem_of_getElem? (i := 0) rfl)) all0)), b2_3, s_b2_3, O9, o10⟩
theorem R_String__init__35 {a1 a2 w_U8 : Addr} {p3 p4 w_CS : Int32} {w_SF : Value} (hw : HW a0 Z) (pr1 : Obj Z Z.heap w_U8 L_UTF_8 []) (pr2 : Ary Z h0 a2 ATB 2 (lv [.int p3, .int p4])) (pr3 : ¬ (w_CS = 0)) (pr4 : p3 < 0) (pr5 : ¬ ((p3 &&& 254) = 194)) (pr6 : ¬ ((p3 >>> ((5 : Int32) &&& 31)) = (-2))) (pr7 : ¬ ((p3 >>> ((4 : Int32) &&& 31)) = (-2))) (pr8 : (p3 >>> ((3 : Int32) &&& 31)) = (-2)) (pr9 : ¬ (244 < (p3 &&& 255))) (pr10 : ¬ ((p3 &&& 255) = 240)) (pr11 : ¬ ((p3 &&& 255) = 244)) (pr12 : ¬ (((p4 &&& 255) &&& 192) = 128)) (pr13 : ¬ (p4 < 0)) (pr14 : Obj Z h0 a1 L_String [.null, .int 0]) (pr15 : n0 ≤ a1) (pr16 : w_SF.isRef = true) (pr17 : TS_UI Z w_U8) (pr18 : TS_CS Z w_CS) (pr19 : TS_SF Z w_SF) (pr20 : TS_AD Z) (pr21 : TS_HI Z) (pr22 : TS_LO Z) : Mt false [] l Y2 C2 (rmk 6 2 6 98) #[.ref a1, .ref a2, .ref w_U8] Z a0 h0 n0 (K0 h0 [a1] fun h => ∃ b2_3_2 : Addr, h0.size ≤ b2_3_2 ∧ Obj Z h a1 L_String [.ref b2_3_2, .int 1] ∧ Ary Z h b2_3_2 ATB 4 (lv [.int (-3), .int (-1), .int (((p4.toUInt32.toUInt16.toUInt32.toInt32) >>> ((0 : Int32) &&& 31)).toInt8.toInt32), .int (((p4.toUInt32.toUInt16.toUInt32.toInt32) >>> ((8 : Int32) &&& 31)).toInt8.toInt32)])) := by
  refine Mt.go PN2 (Or.inl rfl) ef_RRR_3 fun k => ?_
  replace k := k |>.aloadN D2_0 rfl rfl |>.aloadN D2_1 rfl rfl
  replace k := (k.callS (w_13 hw) (S3 hw) (R_Objects_requireNonNull_1 hw) D2_2 1 rfl).pv
  replace k := k |>.castY (w_17 hw) (Ins.of_exa (pr1.ext k.old.2).exa (w_18 hw)) D2_5 |>.aloadN D2_8 rfl rfl |>.iconst D2_9 0 |>.aloadN D2_10 rfl rfl |>.alen pr2 D2_11 (z := 2) (by decide)
  have z2 := k.sz
  obtain ⟨h2, K2, ⟨b2_3_2, f2_0, f2_1, f2_2⟩, k⟩ := (k.callI (w_19 hw) (I4 hw) (R_String__init__36 hw pr17 pr18 pr3 pr2 pr4 pr5 pr16 pr19 pr6 pr7 pr8 pr9 pr10 pr11 pr12 pr13 pr20 pr21 pr22 pr14 pr15) D2_12 0 rfl).k0 (allS pr15 all0)
  have s_b2_3_2 := Nat.le_trans z2 f2_0
  exact k.ret0 D2_15 rfl ⟨rfl, K2, b2_3_2, s_b2_3_2, f2_1, f2_2⟩
theorem R_Utf8_decodeName_18 {a1 w_U8 : Addr} {p2 p3 w_CS : Int32} {w_SF : Value} (hw : HW a0 Z) (pr1 : TS_U8 Z w_U8) (pr2 : Ary Z h0 a1 ATB 2 (lv [.int p2, .int p3])) (pr3 : ¬ (w_CS = 0)) (pr4 : p2 < 0) (pr5 : ¬ ((p2 &&& 254) = 194)) (pr6 : ¬ ((p2 >>> ((5 : Int32) &&& 31)) = (-2))) (pr7 : ¬ ((p2 >>> ((4 : Int32) &&& 31)) = (-2))) (pr8 : (p2 >>> ((3 : Int32) &&& 31)) = (-2)) (pr9 : ¬ (244 < (p2 &&& 255))) (pr10 : ¬ ((p2 &&& 255) = 240)) (pr11 : ¬ ((p2 &&& 255) = 244)) (pr12 : ¬ (((p3 &&& 255) &&& 192) = 128)) (pr13 : ¬ (p3 < 0)) (pr14 : w_SF.isRef = true) (pr15 : Obj Z Z.heap w_U8 L_UTF_8 []) (pr16 : TS_UI Z w_U8) (pr17 : TS_CS Z w_CS) (pr18 : TS_SF Z w_SF) (pr19 : TS_AD Z) (pr20 : TS_HI Z) (pr21 : TS_LO Z) : Mt false [] l Y1 C1 (rmk 7 3 10 113) #[.ref a1] Z a0 h0 n0 (KpV h0 [] fun v h => ∃ b1 b2_3_2_2 : Addr, v = (.ref b1) ∧ h0.size ≤ b1 ∧ h0.size ≤ b2_3_2_2 ∧ b2_3_2_2 ≠ b1 ∧ Obj Z h b1 L_String [.ref b2_3_2_2, .int 1] ∧ Ary Z h b2_3_2_2 ATB 4 (lv [.int (-3), .int (-1), .int (((p3.toUInt32.toUInt16.toUInt32.toInt32) >>> ((0 : Int32) &&& 31)).toInt8.toInt32), .int (((p3.toUInt32.toUInt16.toUInt32.toInt32) >>> ((8 : Int32) &&& 31)).toInt8.toInt32)])) := by
  refine Mt.go PN1 (Or.inl rfl) ef_R_1 fun k => ?_
  have nz := k.n0le
  have z1 := k.sz
  obtain ⟨b1, h1, g1, K1, O1, k⟩ := k.new (w_5 hw) (nw_String hw) D1_0 (by decide) dvL_String
  replace k := k |>.dup D1_3 rfl |>.aloadN D1_4 rfl rfl |>.getS (fl_8 hw) pr1 D1_5
  have s_b1 := Nat.le_trans z1 g1
  have n_b1 := Nat.le_trans nz s_b1
  have o3 := pr2.keep K1 nin0
  have z2 := k.sz
  obtain ⟨h2, K2, ⟨b2_3_2_2, f2_0, f2_1, f2_2⟩, k⟩ := (k.callI (w_10 hw) (I2 hw) (R_String__init__35 hw pr15 o3 pr3 pr4 pr5 pr6 pr7 pr8 pr9 pr10 pr11 pr12 pr13 O1 n_b1 pr14 pr16 pr17 pr18 pr19 pr20 pr21) D1_8 1 rfl).k0 (allS n_b1 all0)
  have s_b2_3_2_2 := Nat.le_trans z2 f2_0
  exact k.retA D1_11 rfl ⟨_, rfl, (K1.trans K2 (allS (Or.inr s_b1) all0)), b1, b2_3_2_2, rfl, s_b1, s_b2_3_2_2, (nlt' O1.lt f2_0), f2_1, f2_2⟩
theorem own_d31 {p1 v0 v1 v2 v3 v4 v5 : Int32} (e0 : v0 = (p1 &&& 127)) (e1 : v1 = ((128 ||| v0).toInt8.toInt32)) (e2 : v2 = (v1 &&& 254)) (e3 : v3 = (v1 >>> ((5 : Int32) &&& 31))) (e4 : v4 = (v1 >>> ((4 : Int32) &&& 31))) (e5 : v5 = (v1 >>> ((3 : Int32) &&& 31))) (q0 : ¬ (v2 = 194)) (q1 : ¬ (v3 = (-2))) (q2 : ¬ (v4 = (-2))) (q3 : ¬ (v5 = (-2))) : v1 < 0 := by
  have := rng32 p1
  have : (127 : Int32).toInt = 127 := by decide
  have := e_mask e0 7 128
  have := e_hbN e1 7 128 128 (by omega)
  have : (254 : Int32).toInt = 254 := by decide
  have : v1.toInt % 256 = v1.toInt + 256 := by omega
  have := e_mask2 e2 1 7 256 2
  have : (194 : Int32).toInt = 194 := by decide
  have := i_neq q0
  have : (5 : Int32).toInt = 5 := by decide
  have := e_ishr e3 5 32
  have : (-2 : Int32).toInt = -2 := by decide
  have := i_neq q1
  have : (4 : Int32).toInt = 4 := by decide
  have := e_ishr e4 4 16
  have := i_neq q2
  have : (3 : Int32).toInt = 3 := by decide
  have := e_ishr e5 3 8
  have := i_neq q3
  have : (0 : Int32).toInt = 0 := by decide
  exact o_lt (by omega)
theorem R_String_decodeUTF8_UTF16_17 {a1 a2 : Addr} {p3 p4 : Int32} (hw : HW a0 Z) (pr1 : Ary Z h0 a1 ATB 2 (lv [.int p3, .int p4])) (pr2 : p3 < 0) (pr3 : ¬ ((p3 >>> ((5 : Int32) &&& 31)) = (-2))) (pr4 : ¬ ((p3 >>> ((4 : Int32) &&& 31)) = (-2))) (pr5 : ¬ ((p3 >>> ((3 : Int32) &&& 31)) = (-2))) (pr6 : Ary Z h0 a2 ATB 4 (lv [.int 0, .int 0, .int 0, .int 0])) (pr7 : n0 ≤ a2) (pr8 : TS_AD Z) (pr9 : TS_HI Z) (pr10 : TS_LO Z) (pr11 : a1 ≠ a2) (pr12 : ¬ (p4 < 0)) : Mt false [] l Y15 C15 (rmk 1 0 0 14) #[.ref a1, .int 0, .int 2, .ref a2, .int 0, .int 1] Z a0 h0 n0 (KpV h0 [a2] fun v h => v = (.int 2) ∧ Ary Z h a2 ATB 4 (lv [.int (-3), .int (-1), .int (((p4.toUInt32.toUInt16.toUInt32.toInt32) >>> ((0 : Int32) &&& 31)).toInt8.toInt32), .int (((p4.toUInt32.toUInt16.toUInt32.toInt32) >>> ((8 : Int32) &&& 31)).toInt8.toInt32)])) := by
  refine Mt.go PN15 (Or.inl rfl) ef_RIIRII_11_0_2_0_1 fun k => ?_
  replace k := k |>.iloadN D15_0 rfl |>.iloadN D15_1 rfl |>.icmpNo D15_2 (by decide) |>.aloadN D15_5 rfl rfl |>.iloadN D15_6 rfl |>.iinc D15_7 rfl (z := 1) (by decide) sto1 |>.bald pr1 D15_10 (i := 0) (by decide) lvg0 |>.istore D15_11 sto6 |>.iload D15_13 rfl |>.ifYes D15_15 ((if0 _ _).trans (tlt pr2).1) |>.iload D15_33 rfl |>.iconst D15_35 5
  replace k := k |>.ishr D15_36 rfl |>.bipush D15_37 (-2) |>.icmpYes D15_39 (feq pr3).2 |>.iload D15_143 rfl |>.iconst D15_145 4 |>.ishr D15_146 rfl |>.bipush D15_147 (-2) |>.icmpYes D15_149 (feq pr4).2 |>.iload D15_349 rfl |>.iconst D15_351 3 |>.ishr D15_352 rfl |>.bipush D15_353 (-2)
  replace k := k |>.icmpYes D15_355 (feq pr5).2 |>.iload D15_595 rfl |>.ifYes D15_597 (by decide) |>.aloadN D15_607 rfl rfl |>.iload D15_608 rfl |>.iinc D15_610 rfl (z := 1) (by decide) sto4 |>.ldcI (w_179 hw) D15_613
  obtain ⟨h1, K1, f1_0, k⟩ := (k.callS (w_146 hw) (S17 hw) (R_StringUTF16_putChar_1 hw pr8 pr9 pr6 pr7 pr10) D15_615 0 rfl).k0 (allS pr7 all0)
  replace k := k |>.goto D15_618 |>.iloadN D15_0 rfl |>.iloadN D15_1 rfl |>.icmpNo D15_2 (by decide) |>.aloadN D15_5 rfl rfl |>.iloadN D15_6 rfl |>.iinc D15_7 rfl (z := 2) (by decide) sto1
  have o2 := pr1.keep K1 (ninS pr11 nin0)
  replace k := k |>.bald o2 D15_10 (i := 1) (by decide) lvg1 |>.istore D15_11 sto6 |>.iload D15_13 rfl |>.ifNo D15_15 ((if0 _ _).trans (flt pr12).1) |>.aloadN D15_18 rfl rfl |>.iload D15_19 rfl |>.iinc D15_21 rfl (z := 2) (by decide) sto4 |>.iload D15_24 rfl |>.i2c D15_26 rfl
  obtain ⟨h3, K3, f3_0, k⟩ := (k.callS (w_146 hw) (S17 hw) (R_StringUTF16_putChar_2 hw pr8 pr9 f1_0 pr7 pr10) D15_27 0 rfl).k0 (allS pr7 all0)
  replace k := k |>.goto D15_30 |>.goto D15_618 |>.iloadN D15_0 rfl |>.iloadN D15_1 rfl |>.icmpYes D15_2 (by decide) |>.iload D15_621 rfl
  exact k.retI D15_623 rfl ⟨_, rfl, (K1.trans K3 (allS (Or.inl (List.mem_of_getElem? (i := 0) rfl)) all0)), rfl, f3_0⟩
theorem R_String__init__38 {a1 w_U8 a2 : Addr} {w_CS p3 p4 : Int32} {w_SF : Value} (hw : HW a0 Z) (pr1 : TS_UI Z w_U8) (pr2 : TS_CS Z w_CS) (pr3 : ¬ (w_CS = 0)) (pr4 : Ary Z h0 a2 ATB 2 (lv [.int p3, .int p4])) (pr5 : p3 < 0) (pr6 : ¬ ((p3 &&& 254) = 194)) (pr7 : w_SF.isRef = true) (pr8 : TS_SF Z w_SF) (pr9 : ¬ ((p3 >>> ((5 : Int32) &&& 31)) = (-2))) (pr10 : ¬ ((p3 >>> ((4 : Int32) &&& 31)) = (-2))) (pr11 : ¬ ((p3 >>> ((3 : Int32) &&& 31)) = (-2))) (pr12 : ¬ (p4 < 0)) (pr13 : TS_AD Z) (pr14 : TS_HI Z) (pr15 : TS_LO Z) (pr16 : Obj Z h0 a1 L_String [.null, .int 0]) (pr17 : n0 ≤ a1) : Mt false [] l Y4 C4 (rmk 5 2 6 76) #[.ref a1, .ref w_U8, .ref a2, .int 0, .int 2] Z a0 h0 n0 (K0 h0 [a1] fun h => ∃ b2_3 : Addr, h0.size ≤ b2_3 ∧ Obj Z h a1 L_String [.ref b2_3, .int 1] ∧ Ary Z h b2_3 ATB 4 (lv [.int (-3), .int (-1), .int (((p4.toUInt32.toUInt16.toUInt32.toInt32) >>> ((0 : Int32) &&& 31)).toInt8.toInt32), .int (((p4.toUInt32.toUInt16.toUInt32.toInt32) >>> ((8 : Int32) &&& 31)).toInt8.toInt32)])) := by
  refine Mt.go PN4 (Or.inr ⟨_, rfl⟩) ef_RRRII_11_0_2 fun k => ?_
  have nz := k.n0le
  replace k := k |>.aloadN D4_0 rfl rfl |>.initO (w_23 hw) (w_24 hw) (w_25 hw) D4_1 0 |>.iload D4_4 rfl |>.ifYes D4_6 (by decide) |>.aloadN D4_30 rfl rfl |>.getS (fl_46 hw) pr1 D4_31 |>.acmpNo D4_34 rfl rfl true (decide_eq_true rfl) (by decide) |>.getS (fl_48 hw) pr2 D4_37 |>.ifNo D4_40 ((if0 _ _).trans (feq pr3).1) |>.aloadN D4_43 rfl rfl |>.iloadN D4_44 rfl |>.iload D4_45 rfl
  replace k := (k.callS (w_49 hw) (S5 hw) (R_StringCoding_countPositives_1 hw pr4 pr5) D4_47 0 rfl).pv
  replace k := k |>.istore D4_50 sto5 |>.iload D4_52 rfl |>.iload D4_54 rfl |>.icmpYes D4_56 (by decide) |>.aloadN D4_78 rfl rfl |>.iloadN D4_79 rfl |>.iloadN D4_80 rfl |>.iload D4_81 rfl |>.iadd D4_83 (z := 2) (by decide)
  have z2 := k.sz
  obtain ⟨_, h2, K2, ⟨b1_2, rfl, f2_0, f2_1⟩, k⟩ := (k.callS (w_53 hw) (S6 hw) (R_Arrays_copyOfRange_1 hw pr4) D4_84 0 rfl).kv
  replace k := k |>.astore D4_87 rfl sto6 |>.iload D4_89 rfl |>.istore D4_91 sto7 |>.iload D4_93 rfl |>.iload D4_95 rfl |>.icmpNo D4_97 (by decide) |>.aload D4_100 rfl rfl |>.iload D4_102 rfl |>.iinc D4_104 rfl (z := 1) (by decide) sto7 |>.bald f2_1 D4_107 (i := 0) (by decide) lvg0 |>.istore D4_108 sto8 |>.iload D4_110 rfl
  replace k := k |>.ifYes D4_112 ((if0 _ _).trans (tlt pr5).1) |>.iload D4_129 rfl |>.sipush D4_131 254 |>.iand D4_134 rfl |>.sipush D4_135 194 |>.icmpYes D4_138 (feq pr6).2 |>.iinc D4_184 rfl (z := 0) (by decide) sto7 |>.goto D4_187 |>.iload D4_190 rfl |>.iload D4_192 rfl |>.icmpYes D4_194 (by decide) |>.iload D4_226 rfl
  have z3 := k.sz
  obtain ⟨_, h3, K3, ⟨b2_3, rfl, f3_0, f3_1⟩, k⟩ := (k.callS (w_100 hw) (S7 hw) (R_StringUTF16_newBytesFor_1 hw) D4_228 0 rfl).kv
  replace k := k |>.astore D4_231 rfl sto8 |>.aload D4_233 rfl rfl |>.iconst D4_235 0 |>.aload D4_236 rfl rfl |>.iconst D4_238 0 |>.iload D4_239 rfl
  replace k := (k.callS (w_108 hw) (S9 hw) (R_StringLatin1_inflate_1 hw f3_1 pr7 pr8) D4_241 0 rfl).p0
  replace k := k |>.aload D4_244 rfl rfl |>.iload D4_246 rfl |>.iload D4_248 rfl |>.aload D4_250 rfl rfl |>.iload D4_252 rfl |>.iconst D4_254 1
  have s_b2_3 := Nat.le_trans z3 f3_0
  have n_b2_3 := Nat.le_trans nz s_b2_3
  have o6 := f2_1.keep K3 nin0
  obtain ⟨_, h5, K5, ⟨rfl, f5_0⟩, k⟩ := (k.callS (w_126 hw) (S15 hw) (R_String_decodeUTF8_UTF16_17 hw o6 pr5 pr9 pr10 pr11 f3_1 n_b2_3 pr13 pr14 pr15 (nlt f2_1.lt f3_0) pr12) D4_255 0 rfl).kv (allS n_b2_3 all0)
  replace k := k |>.istore D4_258 sto5 |>.iload D4_260 rfl |>.iload D4_262 rfl |>.icmpYes D4_264 (by decide) |>.aloadN D4_278 rfl rfl |>.aload D4_279 rfl rfl
  have o7 := ((pr16.keep K2 nin0).keep K3 nin0).keep K5 (ninS (nlt pr16.lt s_b2_3) nin0)
  obtain ⟨h8, K8, O8, k⟩ := k.putF (fl_31 hw) (pw_String_i_String_value hw) o7 0 pr17 (Or.inl rfl) D4_281 rfl rfl rfl ls0
  replace k := k |>.aloadN D4_284 rfl rfl |>.iconst D4_285 1
  obtain ⟨h9, K9, O9, k⟩ := k.putN (fp_32 hw) (pw_String_i_String_coder hw) O8 1 pr17 (Or.inl rfl) D4_286 rfl (v' := (.int 1)) (by decide) (by decide) ls1
  replace k := k |>.goto D4_289
  have o10 := (f5_0.keep K8 (ninS (nlt' pr16.lt s_b2_3) nin0)).keep K9 (ninS (nlt' pr16.lt s_b2_3) nin0)
  exact k.ret0 D4_879 rfl ⟨rfl, ((((((Keep.refl h0 [a1]).trans K2 all0).trans K3 all0).trans K5 (allS (Or.inr s_b2_3) all0)).trans K8 (allS (Or.inl (List.mem_of_getElem? (i := 0) rfl)) all0)).trans K9 (allS (Or.inl (List.mem_of_getElem? (i := 0) rfl)) all0)), b2_3, s_b2_3, O9, o10⟩
theorem R_String__init__37 {a1 a2 w_U8 : Addr} {p3 p4 w_CS : Int32} {w_SF : Value} (hw : HW a0 Z) (pr1 : Obj Z Z.heap w_U8 L_UTF_8 []) (pr2 : Ary Z h0 a2 ATB 2 (lv [.int p3, .int p4])) (pr3 : ¬ (w_CS = 0)) (pr4 : p3 < 0) (pr5 : ¬ ((p3 &&& 254) = 194)) (pr6 : ¬ ((p3 >>> ((5 : Int32) &&& 31)) = (-2))) (pr7 : ¬ ((p3 >>> ((4 : Int32) &&& 31)) = (-2))) (pr8 : ¬ ((p3 >>> ((3 : Int32) &&& 31)) = (-2))) (pr9 : ¬ (p4 < 0)) (pr10 : Obj Z h0 a1 L_String [.null, .int 0]) (pr11 : n0 ≤ a1) (pr12 : w_SF.isRef = true) (pr13 : TS_UI Z w_U8) (pr14 : TS_CS Z w_CS) (pr15 : TS_SF Z w_SF) (pr16 : TS_AD Z) (pr17 : TS_HI Z) (pr18 : TS_LO Z) : Mt false [] l Y2 C2 (rmk 6 2 6 98) #[.ref a1, .ref a2, .ref w_U8] Z a0 h0 n0 (K0 h0 [a1] fun h => ∃ b2_3_2 : Addr, h0.size ≤ b2_3_2 ∧ Obj Z h a1 L_String [.ref b2_3_2, .int 1] ∧ Ary Z h b2_3_2 ATB 4 (lv [.int (-3), .int (-1), .int (((p4.toUInt32.toUInt16.toUInt32.toInt32) >>> ((0 : Int32) &&& 31)).toInt8.toInt32), .int (((p4.toUInt32.toUInt16.toUInt32.toInt32) >>> ((8 : Int32) &&& 31)).toInt8.toInt32)])) := by
  refine Mt.go PN2 (Or.inl rfl) ef_RRR_3 fun k => ?_
  replace k := k |>.aloadN D2_0 rfl rfl |>.aloadN D2_1 rfl rfl
  replace k := (k.callS (w_13 hw) (S3 hw) (R_Objects_requireNonNull_1 hw) D2_2 1 rfl).pv
  replace k := k |>.castY (w_17 hw) (Ins.of_exa (pr1.ext k.old.2).exa (w_18 hw)) D2_5 |>.aloadN D2_8 rfl rfl |>.iconst D2_9 0 |>.aloadN D2_10 rfl rfl |>.alen pr2 D2_11 (z := 2) (by decide)
  have z2 := k.sz
  obtain ⟨h2, K2, ⟨b2_3_2, f2_0, f2_1, f2_2⟩, k⟩ := (k.callI (w_19 hw) (I4 hw) (R_String__init__38 hw pr13 pr14 pr3 pr2 pr4 pr5 pr12 pr15 pr6 pr7 pr8 pr9 pr16 pr17 pr18 pr10 pr11) D2_12 0 rfl).k0 (allS pr11 all0)
  have s_b2_3_2 := Nat.le_trans z2 f2_0
  exact k.ret0 D2_15 rfl ⟨rfl, K2, b2_3_2, s_b2_3_2, f2_1, f2_2⟩
theorem R_Utf8_decodeName_19 {a1 w_U8 : Addr} {p2 p3 w_CS : Int32} {w_SF : Value} (hw : HW a0 Z) (pr1 : TS_U8 Z w_U8) (pr2 : Ary Z h0 a1 ATB 2 (lv [.int p2, .int p3])) (pr3 : ¬ (w_CS = 0)) (pr4 : p2 < 0) (pr5 : ¬ ((p2 &&& 254) = 194)) (pr6 : ¬ ((p2 >>> ((5 : Int32) &&& 31)) = (-2))) (pr7 : ¬ ((p2 >>> ((4 : Int32) &&& 31)) = (-2))) (pr8 : ¬ ((p2 >>> ((3 : Int32) &&& 31)) = (-2))) (pr9 : ¬ (p3 < 0)) (pr10 : w_SF.isRef = true) (pr11 : Obj Z Z.heap w_U8 L_UTF_8 []) (pr12 : TS_UI Z w_U8) (pr13 : TS_CS Z w_CS) (pr14 : TS_SF Z w_SF) (pr15 : TS_AD Z) (pr16 : TS_HI Z) (pr17 : TS_LO Z) : Mt false [] l Y1 C1 (rmk 7 3 10 113) #[.ref a1] Z a0 h0 n0 (KpV h0 [] fun v h => ∃ b1 b2_3_2_2 : Addr, v = (.ref b1) ∧ h0.size ≤ b1 ∧ h0.size ≤ b2_3_2_2 ∧ b2_3_2_2 ≠ b1 ∧ Obj Z h b1 L_String [.ref b2_3_2_2, .int 1] ∧ Ary Z h b2_3_2_2 ATB 4 (lv [.int (-3), .int (-1), .int (((p3.toUInt32.toUInt16.toUInt32.toInt32) >>> ((0 : Int32) &&& 31)).toInt8.toInt32), .int (((p3.toUInt32.toUInt16.toUInt32.toInt32) >>> ((8 : Int32) &&& 31)).toInt8.toInt32)])) := by
  refine Mt.go PN1 (Or.inl rfl) ef_R_1 fun k => ?_
  have nz := k.n0le
  have z1 := k.sz
  obtain ⟨b1, h1, g1, K1, O1, k⟩ := k.new (w_5 hw) (nw_String hw) D1_0 (by decide) dvL_String
  replace k := k |>.dup D1_3 rfl |>.aloadN D1_4 rfl rfl |>.getS (fl_8 hw) pr1 D1_5
  have s_b1 := Nat.le_trans z1 g1
  have n_b1 := Nat.le_trans nz s_b1
  have o3 := pr2.keep K1 nin0
  have z2 := k.sz
  obtain ⟨h2, K2, ⟨b2_3_2_2, f2_0, f2_1, f2_2⟩, k⟩ := (k.callI (w_10 hw) (I2 hw) (R_String__init__37 hw pr11 o3 pr3 pr4 pr5 pr6 pr7 pr8 pr9 O1 n_b1 pr10 pr12 pr13 pr14 pr15 pr16 pr17) D1_8 1 rfl).k0 (allS n_b1 all0)
  have s_b2_3_2_2 := Nat.le_trans z2 f2_0
  exact k.retA D1_11 rfl ⟨_, rfl, (K1.trans K2 (allS (Or.inr s_b1) all0)), b1, b2_3_2_2, rfl, s_b1, s_b2_3_2_2, (nlt' O1.lt f2_0), f2_1, f2_2⟩
theorem D0_101 : Dc code 101 (.iload_n 3) 1 102 := ⟨at_101, rfl⟩
theorem D0_102 : Dj code 102 (.ifCond .ne 7) 7 105 109 := ⟨at_102, rfl, by decide, by decide⟩
theorem D0_105 : Dc code 105 (.iconst 1) 1 106 := ⟨at_105, rfl⟩
theorem D0_106 : Dj code 106 (.goto 4) 4 109 110 := ⟨at_106, rfl, by decide, by decide⟩
theorem D0_110 : Dc code 110 (.istore 5) 2 112 := ⟨at_110, rfl⟩
theorem D0_112 : Dc code 112 (.iload_n 2) 1 113 := ⟨at_112, rfl⟩
theorem D0_113 : Dc code 113 (.iconst 2) 1 114 := ⟨at_113, rfl⟩
theorem D0_114 : Dc code 114 .iushr 1 115 := ⟨at_114, rfl⟩
theorem D0_115 : Dc code 115 (.iconst 3) 1 116 := ⟨at_115, rfl⟩
theorem D0_116 : Dc code 116 .iand 1 117 := ⟨at_116, rfl⟩
theorem D0_117 : Dc code 117 (.istore 6) 2 119 := ⟨at_117, rfl⟩
theorem D0_119 : Dc code 119 (.iload_n 0) 1 120 := ⟨at_119, rfl⟩
theorem D0_120 : Dc code 120 (.ldc 33) 2 122 := ⟨at_120, rfl⟩
abbrev w_38 (hw : HW a0 Z) := hw _ (List.mem_of_getElem? (i := 38) rfl)
theorem D0_122 : Dc code 122 .iand 1 123 := ⟨at_122, rfl⟩
theorem D0_123 : Dc code 123 (.istore 7) 2 125 := ⟨at_123, rfl⟩
theorem D0_125 : Dc code 125 (.iload 6) 2 127 := ⟨at_125, rfl⟩
theorem D0_127 : Dc code 127 (.iload 7) 2 129 := ⟨at_127, rfl⟩
theorem D0_129 : Dc code 129 (.invokestatic 34) 3 132 := ⟨at_129, rfl⟩
abbrev Y29 : MethodName := ⟨"com/example/sparsewrite/sparsewrite/cli/Utf8DecodeNamePinLaw", "codePoint", "(II)I"⟩
abbrev J29 := method_2_code
abbrev C29 : Cond := .code Y29 J29 3 (some .int)
theorem D29_0 : Dc J29 0 (.iload_n 0) 1 1 := by decide +kernel
theorem D29_1 : Dj J29 1 (.ifCond .ne 8) 8 4 9 := by decide +kernel
theorem D29_4 : Dc J29 4 (.iload_n 1) 1 5 := by decide +kernel
theorem D29_5 : Dc J29 5 (.bipush 127) 2 7 := by decide +kernel
theorem D29_7 : Dc J29 7 .iand 1 8 := by decide +kernel
theorem D29_8 : Dc J29 8 .ireturn 1 9 := by decide +kernel
theorem pn_Utf8DecodeNamePinLaw : plainName "com/example/sparsewrite/sparsewrite/cli/Utf8DecodeNamePinLaw" = true := by first | (simp [plainName, overriddenIn]; done) | decide +kernel
theorem PN29 : plainFor Y29 = true := plainFor_of_name pn_Utf8DecodeNamePinLaw
theorem ef_II_3 {x0 : Int32} {x1 : Int32}  (m : MethodId) : entryFrame m #[(.int x0), (.int x1)] 3 = mkF m 0 #[.val (.int x0), .val (.int x1), .unset] [] := by
  first | (simp [entryFrame, mkF, argsToLocals, Value.category]; done) | rfl
theorem R_Utf8DecodeNamePinLaw_codePoint_2 {p1 p2 : Int32} (hw : HW a0 Z) (pr1 : p1 = 0) : Mt false [] l Y29 C29 (rmk 0 0 0 0) #[.int p1, .int p2] Z a0 h0 n0 (Pv h0 (.int (p2 &&& 127))) := by
  refine Mt.go PN29 (Or.inl rfl) ef_II_3 fun k => ?_
  replace k := k |>.iloadN D29_0 rfl |>.ifNo D29_1 ((if0 _ _).trans (teq pr1).2) |>.iloadN D29_4 rfl |>.bipush D29_5 127 |>.iand D29_7 rfl
  exact k.retI D29_8 rfl ⟨rfl, rfl⟩
abbrev w_39 (hw : HW a0 Z) := hw _ (List.mem_of_getElem? (i := 39) rfl)
abbrev w_42 (hw : HW a0 Z) := hw _ (List.mem_of_getElem? (i := 42) rfl)
abbrev w_41 (hw : HW a0 Z) := hw _ (List.mem_of_getElem? (i := 41) rfl)
theorem pd_II_r_I : parseMethodDescriptor "(II)I" = some ⟨[.int, .int], some .int⟩ := by decide +kernel
abbrev w_40 (hw : HW a0 Z) := hw _ (List.mem_of_getElem? (i := 40) rfl)
theorem S29 (hw : HW a0 Z) : SC Z a0 Y29 C29 3 (some .int) 2 := ⟨(w_40 hw), ⟨⟨_, Or.inl rfl⟩, (w_42 hw), (w_41 hw), by decide, _, _, pd_II_r_I, rfl⟩⟩
theorem D0_132 : Dc code 132 (.istore 8) 2 134 := ⟨at_132, rfl⟩
theorem D0_134 : Dc code 134 (.iload 8) 2 136 := ⟨at_134, rfl⟩
theorem D0_136 : Dc code 136 (.iload 6) 2 138 := ⟨at_136, rfl⟩
theorem D0_138 : Dc code 138 (.iload 5) 2 140 := ⟨at_138, rfl⟩
theorem D0_140 : Dc code 140 (.iload 4) 2 142 := ⟨at_140, rfl⟩
theorem D0_142 : Dc code 142 (.invokestatic 40) 3 145 := ⟨at_142, rfl⟩
abbrev Y30 : MethodName := ⟨"com/example/sparsewrite/sparsewrite/cli/Utf8DecodeNamePinLaw", "encode", "(IIZI)[B"⟩
abbrev J30 := method_3_code
abbrev C30 : Cond := .code Y30 J30 9 (some (.array .byte))
theorem D30_0 : Dc J30 0 (.iload_n 3) 1 1 := by decide +kernel
theorem D30_1 : Dc J30 1 .i2b 1 2 := by decide +kernel
theorem D30_2 : Dc J30 2 (.istore 4) 2 4 := by decide +kernel
theorem D30_4 : Dc J30 4 (.iload_n 1) 1 5 := by decide +kernel
theorem D30_5 : Dj J30 5 (.ifCond .ne 34) 34 8 39 := by decide +kernel
theorem D30_8 : Dc J30 8 (.iload_n 0) 1 9 := by decide +kernel
theorem D30_9 : Dc J30 9 .i2b 1 10 := by decide +kernel
theorem D30_10 : Dc J30 10 (.istore 5) 2 12 := by decide +kernel
theorem D30_12 : Dc J30 12 (.iload_n 2) 1 13 := by decide +kernel
theorem D30_13 : Dj J30 13 (.ifCond .eq 17) 17 16 30 := by decide +kernel
theorem D30_16 : Dc J30 16 (.iconst 2) 1 17 := by decide +kernel
theorem D30_17 : Dc J30 17 (.newarray .byte) 2 19 := by decide +kernel
theorem D30_19 : Dc J30 19 .dup 1 20 := by decide +kernel
theorem D30_20 : Dc J30 20 (.iconst 0) 1 21 := by decide +kernel
theorem D30_21 : Dc J30 21 (.iload 5) 2 23 := by decide +kernel
theorem D30_23 : Dc J30 23 .bastore 1 24 := by decide +kernel
theorem D30_24 : Dc J30 24 .dup 1 25 := by decide +kernel
theorem D30_25 : Dc J30 25 (.iconst 1) 1 26 := by decide +kernel
theorem D30_26 : Dc J30 26 (.iload 4) 2 28 := by decide +kernel
theorem D30_28 : Dc J30 28 .bastore 1 29 := by decide +kernel
theorem D30_29 : Dc J30 29 .areturn 1 30 := by decide +kernel
theorem PN30 : plainFor Y30 = true := plainFor_of_name pn_Utf8DecodeNamePinLaw
theorem ef_IIII_9_1 {x0 : Int32} {x1 : Int32} {x3 : Int32}  (m : MethodId) : entryFrame m #[(.int x0), (.int x1), (.int 1), (.int x3)] 9 = mkF m 0 #[.val (.int x0), .val (.int x1), .val (.int 1), .val (.int x3), .unset, .unset, .unset, .unset, .unset] [] := by
  first | (simp [entryFrame, mkF, argsToLocals, Value.category]; done) | rfl
theorem R_Utf8DecodeNamePinLaw_encode_1 {p1 p2 p3 : Int32} (hw : HW a0 Z) (pr1 : p2 = 0) : Mt false [] l Y30 C30 (rmk 0 1 2 0) #[.int p1, .int p2, .int 1, .int p3] Z a0 h0 n0 (KpV h0 [] fun v h => ∃ b1 : Addr, v = (.ref b1) ∧ h0.size ≤ b1 ∧ Ary Z h b1 ATB 2 (lv [.int (p1.toInt8.toInt32), .int (p3.toInt8.toInt32)])) := by
  refine Mt.go PN30 (Or.inl rfl) ef_IIII_9_1 fun k => ?_
  have nz := k.n0le
  replace k := k |>.iloadN D30_0 rfl |>.i2b D30_1 rfl |>.istore D30_2 sto4 |>.iloadN D30_4 rfl |>.ifNo D30_5 ((if0 _ _).trans (teq pr1).2) |>.iloadN D30_8 rfl |>.i2b D30_9 rfl |>.istore D30_10 sto5 |>.iloadN D30_12 rfl |>.ifNo D30_13 (by decide) |>.iconst D30_16 2
  have z1 := k.sz
  obtain ⟨b1, h1, g1, K1, O1, k⟩ := k.newP (aty := .byte) "[B" (w_0 hw) (by decide) D30_17 2 (by decide) (n := 2) (by decide) (by decide) (by decide) (lv_const (V := [(.int 0), (.int 0)]) rfl)
  replace k := k |>.dup D30_19 rfl |>.iconst D30_20 0 |>.iload D30_21 rfl
  have s_b1 := Nat.le_trans z1 g1
  have n_b1 := Nat.le_trans nz s_b1
  obtain ⟨h2, K2, O2, k⟩ := k.stB O1 n_b1 (Or.inl rfl) D30_23 (i := 0) (by decide) (v := (.int (p1.toInt8.toInt32))) (congrArg Value.int (own_nnBi2b _)) (own_fitBi2b _) lvs0
  replace k := k |>.dup D30_24 rfl |>.iconst D30_25 1 |>.iload D30_26 rfl
  obtain ⟨h3, K3, O3, k⟩ := k.stB O2 n_b1 (Or.inl rfl) D30_28 (i := 1) (by decide) (v := (.int (p3.toInt8.toInt32))) (congrArg Value.int (own_nnBi2b _)) (own_fitBi2b _) lvs1
  exact k.retA D30_29 rfl ⟨_, rfl, ((K1.trans K2 (allS (Or.inr s_b1) all0)).trans K3 (allS (Or.inr s_b1) all0)), b1, rfl, s_b1, O3⟩
abbrev w_43 (hw : HW a0 Z) := hw _ (List.mem_of_getElem? (i := 43) rfl)
abbrev w_45 (hw : HW a0 Z) := hw _ (List.mem_of_getElem? (i := 45) rfl)
theorem pd_IIZI_r_AB : parseMethodDescriptor "(IIZI)[B" = some ⟨[.int, .int, .boolean, .int], some (.array .byte)⟩ := by decide +kernel
abbrev w_44 (hw : HW a0 Z) := hw _ (List.mem_of_getElem? (i := 44) rfl)
theorem S30 (hw : HW a0 Z) : SC Z a0 Y30 C30 9 (some (.array .byte)) 4 := ⟨(w_44 hw), ⟨⟨_, Or.inl rfl⟩, (w_45 hw), (w_41 hw), by decide, _, _, pd_IIZI_r_AB, rfl⟩⟩
theorem D0_145 : Dc code 145 (.astore 9) 2 147 := ⟨at_145, rfl⟩
theorem D0_147 : Dc code 147 (.aload 9) 2 149 := ⟨at_147, rfl⟩
theorem D0_149 : Dc code 149 (.invokestatic 12) 3 152 := ⟨at_149, rfl⟩
theorem own_d32 {p1 v0 v1 v2 : Int32} (e0 : v0 = (p1 &&& 2147483647)) (e1 : v1 = (v0 &&& 127)) (e2 : v2 = (v1.toInt8.toInt32)) : ¬ (v2 < 0) := by
  have := rng32 p1
  have : (2147483647 : Int32).toInt = 2147483647 := by decide
  have := e_mask e0 31 2147483648
  have : (127 : Int32).toInt = 127 := by decide
  have := e_mask e1 7 128
  have := e_i2bN e2 (by omega)
  have : (0 : Int32).toInt = 0 := by decide
  exact o_nlt (by omega)
theorem D5_25 : Dc J5 25 (.iinc 4 1) 3 28 := by decide +kernel
theorem D5_28 : Dj J5 28 (.goto (-21)) (-21) 31 7 := by decide +kernel
theorem D5_31 : Dc J5 31 (.iload_n 2) 1 32 := by decide +kernel
theorem D5_32 : Dc J5 32 .ireturn 1 33 := by decide +kernel
theorem R_StringCoding_countPositives_2 {a1 : Addr} {p2 p3 : Int32} (hw : HW a0 Z) (pr1 : Ary Z h0 a1 ATB 2 (lv [.int p2, .int p3])) (pr2 : ¬ (p2 < 0)) (pr3 : ¬ (p3 < 0)) : Mt false [] l Y5 C5 (rmk 0 0 0 0) #[.ref a1, .int 0, .int 2] Z a0 h0 n0 (Pv h0 (.int 2)) := by
  refine Mt.go PN5 (Or.inl rfl) ef_RII_5_0_2 fun k => ?_
  replace k := k |>.iloadN D5_0 rfl |>.iloadN D5_1 rfl |>.iadd D5_2 (z := 2) (by decide) |>.istoreN D5_3 sto3 |>.iloadN D5_4 rfl |>.istore D5_5 sto4 |>.iload D5_7 rfl |>.iloadN D5_9 rfl |>.icmpNo D5_10 (by decide) |>.aloadN D5_13 rfl rfl |>.iload D5_14 rfl |>.bald pr1 D5_16 (i := 0) (by decide) lvg0
  replace k := k |>.ifYes D5_17 ((if0 _ _).trans (flt pr2).2.1) |>.iinc D5_25 rfl (z := 1) (by decide) sto4 |>.goto D5_28 |>.iload D5_7 rfl |>.iloadN D5_9 rfl |>.icmpNo D5_10 (by decide) |>.aloadN D5_13 rfl rfl |>.iload D5_14 rfl |>.bald pr1 D5_16 (i := 1) (by decide) lvg1 |>.ifYes D5_17 ((if0 _ _).trans (flt pr3).2.1) |>.iinc D5_25 rfl (z := 2) (by decide) sto4 |>.goto D5_28
  replace k := k |>.iload D5_7 rfl |>.iloadN D5_9 rfl |>.icmpYes D5_10 (by decide) |>.iloadN D5_31 rfl
  exact k.retI D5_32 rfl ⟨rfl, rfl⟩
theorem D4_59 : Dc J4 59 (.aload_n 0) 1 60 := by decide +kernel
theorem D4_60 : Dc J4 60 (.aload_n 2) 1 61 := by decide +kernel
theorem D4_61 : Dc J4 61 (.iload_n 3) 1 62 := by decide +kernel
theorem D4_62 : Dc J4 62 (.iload_n 3) 1 63 := by decide +kernel
theorem D4_63 : Dc J4 63 (.iload 4) 2 65 := by decide +kernel
theorem D4_65 : Dc J4 65 .iadd 1 66 := by decide +kernel
theorem D4_66 : Dc J4 66 (.invokestatic 54) 3 69 := by decide +kernel
theorem D4_69 : Dc J4 69 (.putfield 9) 3 72 := by decide +kernel
theorem D4_72 : Dc J4 72 (.aload_n 0) 1 73 := by decide +kernel
theorem D4_73 : Dc J4 73 (.iconst 0) 1 74 := by decide +kernel
theorem D4_74 : Dc J4 74 (.putfield 15) 3 77 := by decide +kernel
theorem D4_77 : Dc J4 77 .return_ 1 78 := by decide +kernel
theorem R_String__init__40 {a1 w_U8 a2 : Addr} {w_CS p3 p4 : Int32} (hw : HW a0 Z) (pr1 : TS_UI Z w_U8) (pr2 : TS_CS Z w_CS) (pr3 : ¬ (w_CS = 0)) (pr4 : Ary Z h0 a2 ATB 2 (lv [.int p3, .int p4])) (pr5 : ¬ (p3 < 0)) (pr6 : ¬ (p4 < 0)) (pr7 : Obj Z h0 a1 L_String [.null, .int 0]) (pr8 : n0 ≤ a1) : Mt false [] l Y4 C4 (rmk 2 1 2 29) #[.ref a1, .ref w_U8, .ref a2, .int 0, .int 2] Z a0 h0 n0 (K0 h0 [a1] fun h => ∃ b1_2 : Addr, h0.size ≤ b1_2 ∧ Obj Z h a1 L_String [.ref b1_2, .int 0] ∧ Ary Z h b1_2 ATB 2 (lv [.int p3, .int p4])) := by
  refine Mt.go PN4 (Or.inr ⟨_, rfl⟩) ef_RRRII_11_0_2 fun k => ?_
  replace k := k |>.aloadN D4_0 rfl rfl |>.initO (w_23 hw) (w_24 hw) (w_25 hw) D4_1 0 |>.iload D4_4 rfl |>.ifYes D4_6 (by decide) |>.aloadN D4_30 rfl rfl |>.getS (fl_46 hw) pr1 D4_31 |>.acmpNo D4_34 rfl rfl true (decide_eq_true rfl) (by decide) |>.getS (fl_48 hw) pr2 D4_37 |>.ifNo D4_40 ((if0 _ _).trans (feq pr3).1) |>.aloadN D4_43 rfl rfl |>.iloadN D4_44 rfl |>.iload D4_45 rfl
  replace k := (k.callS (w_49 hw) (S5 hw) (R_StringCoding_countPositives_2 hw pr4 pr5 pr6) D4_47 0 rfl).pv
  replace k := k |>.istore D4_50 sto5 |>.iload D4_52 rfl |>.iload D4_54 rfl |>.icmpNo D4_56 (by decide) |>.aloadN D4_59 rfl rfl |>.aloadN D4_60 rfl rfl |>.iloadN D4_61 rfl |>.iloadN D4_62 rfl |>.iload D4_63 rfl |>.iadd D4_65 (z := 2) (by decide)
  have z2 := k.sz
  obtain ⟨_, h2, K2, ⟨b1_2, rfl, f2_0, f2_1⟩, k⟩ := (k.callS (w_53 hw) (S6 hw) (R_Arrays_copyOfRange_1 hw pr4) D4_66 1 rfl).kv
  have o3 := pr7.keep K2 nin0
  obtain ⟨h4, K4, O4, k⟩ := k.putF (fl_31 hw) (pw_String_i_String_value hw) o3 0 pr8 (Or.inl rfl) D4_69 rfl rfl rfl ls0
  replace k := k |>.aloadN D4_72 rfl rfl |>.iconst D4_73 0
  obtain ⟨h5, K5, O5, k⟩ := k.putN (fp_32 hw) (pw_String_i_String_coder hw) O4 1 pr8 (Or.inl rfl) D4_74 rfl (v' := (.int 0)) (by decide) (by decide) ls1
  have s_b1_2 := Nat.le_trans z2 f2_0
  have o6 := (f2_1.keep K4 (ninS (nlt' pr7.lt s_b1_2) nin0)).keep K5 (ninS (nlt' pr7.lt s_b1_2) nin0)
  exact k.ret0 D4_77 rfl ⟨rfl, ((((Keep.refl h0 [a1]).trans K2 all0).trans K4 (allS (Or.inl (List.mem_of_getElem? (i := 0) rfl)) all0)).trans K5 (allS (Or.inl (List.mem_of_getElem? (i := 0) rfl)) all0)), b1_2, s_b1_2, O5, o6⟩
theorem R_String__init__39 {a1 a2 w_U8 : Addr} {p3 p4 w_CS : Int32} (hw : HW a0 Z) (pr1 : Obj Z Z.heap w_U8 L_UTF_8 []) (pr2 : Ary Z h0 a2 ATB 2 (lv [.int p3, .int p4])) (pr3 : ¬ (w_CS = 0)) (pr4 : ¬ (p3 < 0)) (pr5 : ¬ (p4 < 0)) (pr6 : Obj Z h0 a1 L_String [.null, .int 0]) (pr7 : n0 ≤ a1) (pr8 : TS_UI Z w_U8) (pr9 : TS_CS Z w_CS) : Mt false [] l Y2 C2 (rmk 3 1 2 51) #[.ref a1, .ref a2, .ref w_U8] Z a0 h0 n0 (K0 h0 [a1] fun h => ∃ b1_2_2 : Addr, h0.size ≤ b1_2_2 ∧ Obj Z h a1 L_String [.ref b1_2_2, .int 0] ∧ Ary Z h b1_2_2 ATB 2 (lv [.int p3, .int p4])) := by
  refine Mt.go PN2 (Or.inl rfl) ef_RRR_3 fun k => ?_
  replace k := k |>.aloadN D2_0 rfl rfl |>.aloadN D2_1 rfl rfl
  replace k := (k.callS (w_13 hw) (S3 hw) (R_Objects_requireNonNull_1 hw) D2_2 1 rfl).pv
  replace k := k |>.castY (w_17 hw) (Ins.of_exa (pr1.ext k.old.2).exa (w_18 hw)) D2_5 |>.aloadN D2_8 rfl rfl |>.iconst D2_9 0 |>.aloadN D2_10 rfl rfl |>.alen pr2 D2_11 (z := 2) (by decide)
  have z2 := k.sz
  obtain ⟨h2, K2, ⟨b1_2_2, f2_0, f2_1, f2_2⟩, k⟩ := (k.callI (w_19 hw) (I4 hw) (R_String__init__40 hw pr8 pr9 pr3 pr2 pr4 pr5 pr6 pr7) D2_12 0 rfl).k0 (allS pr7 all0)
  have s_b1_2_2 := Nat.le_trans z2 f2_0
  exact k.ret0 D2_15 rfl ⟨rfl, K2, b1_2_2, s_b1_2_2, f2_1, f2_2⟩
theorem R_Utf8_decodeName_20 {a1 w_U8 : Addr} {p2 p3 w_CS : Int32} (hw : HW a0 Z) (pr1 : TS_U8 Z w_U8) (pr2 : Ary Z h0 a1 ATB 2 (lv [.int p2, .int p3])) (pr3 : ¬ (w_CS = 0)) (pr4 : ¬ (p2 < 0)) (pr5 : ¬ (p3 < 0)) (pr6 : Obj Z Z.heap w_U8 L_UTF_8 []) (pr7 : TS_UI Z w_U8) (pr8 : TS_CS Z w_CS) : Mt false [] l Y1 C1 (rmk 4 2 6 66) #[.ref a1] Z a0 h0 n0 (KpV h0 [] fun v h => ∃ b1 b1_2_2_2 : Addr, v = (.ref b1) ∧ h0.size ≤ b1 ∧ h0.size ≤ b1_2_2_2 ∧ b1_2_2_2 ≠ b1 ∧ Obj Z h b1 L_String [.ref b1_2_2_2, .int 0] ∧ Ary Z h b1_2_2_2 ATB 2 (lv [.int p2, .int p3])) := by
  refine Mt.go PN1 (Or.inl rfl) ef_R_1 fun k => ?_
  have nz := k.n0le
  have z1 := k.sz
  obtain ⟨b1, h1, g1, K1, O1, k⟩ := k.new (w_5 hw) (nw_String hw) D1_0 (by decide) dvL_String
  replace k := k |>.dup D1_3 rfl |>.aloadN D1_4 rfl rfl |>.getS (fl_8 hw) pr1 D1_5
  have s_b1 := Nat.le_trans z1 g1
  have n_b1 := Nat.le_trans nz s_b1
  have o3 := pr2.keep K1 nin0
  have z2 := k.sz
  obtain ⟨h2, K2, ⟨b1_2_2_2, f2_0, f2_1, f2_2⟩, k⟩ := (k.callI (w_10 hw) (I2 hw) (R_String__init__39 hw pr6 o3 pr3 pr4 pr5 O1 n_b1 pr7 pr8) D1_8 1 rfl).k0 (allS n_b1 all0)
  have s_b1_2_2_2 := Nat.le_trans z2 f2_0
  exact k.retA D1_11 rfl ⟨_, rfl, (K1.trans K2 (allS (Or.inr s_b1) all0)), b1, b1_2_2_2, rfl, s_b1, s_b1_2_2_2, (nlt' O1.lt f2_0), f2_1, f2_2⟩
theorem D0_152 : Dc code 152 (.astore 10) 2 154 := ⟨at_152, rfl⟩
theorem sto10 {x0 x1 x2 x3 x4 x5 x6 x7 x8 x9 x : Slot} {t : List Slot} {v : Value} (hx : okS x = true := by rfl) (hv : v.category = 1 := by rfl) : storeLocals (List.toArray (x0 :: x1 :: x2 :: x3 :: x4 :: x5 :: x6 :: x7 :: x8 :: x9 :: x :: t)) 10 v = some (List.toArray (x0 :: x1 :: x2 :: x3 :: x4 :: x5 :: x6 :: x7 :: x8 :: x9 :: .val v :: t)) := stoA (A := [x0, x1, x2, x3, x4, x5, x6, x7, x8, x9]) hx hv
theorem D0_154 : Dc code 154 (.iload 5) 2 156 := ⟨at_154, rfl⟩
theorem D0_156 : Dj code 156 (.ifCond .eq 7) 7 159 163 := ⟨at_156, rfl, by decide, by decide⟩
theorem D0_159 : Dc code 159 (.iconst 1) 1 160 := ⟨at_159, rfl⟩
theorem D0_160 : Dj code 160 (.goto 4) 4 163 164 := ⟨at_160, rfl, by decide, by decide⟩
theorem D0_164 : Dc code 164 (.istore 11) 2 166 := ⟨at_164, rfl⟩
theorem sto11 {x0 x1 x2 x3 x4 x5 x6 x7 x8 x9 x10 x : Slot} {t : List Slot} {v : Value} (hx : okS x = true := by rfl) (hv : v.category = 1 := by rfl) : storeLocals (List.toArray (x0 :: x1 :: x2 :: x3 :: x4 :: x5 :: x6 :: x7 :: x8 :: x9 :: x10 :: x :: t)) 11 v = some (List.toArray (x0 :: x1 :: x2 :: x3 :: x4 :: x5 :: x6 :: x7 :: x8 :: x9 :: x10 :: .val v :: t)) := stoA (A := [x0, x1, x2, x3, x4, x5, x6, x7, x8, x9, x10]) hx hv
theorem D0_166 : Dc code 166 (.iload 8) 2 168 := ⟨at_166, rfl⟩
theorem D0_168 : Dc code 168 (.ldc 10) 2 170 := ⟨at_168, rfl⟩
abbrev w_66 (hw : HW a0 Z) := hw _ (List.mem_of_getElem? (i := 66) rfl)
theorem D0_170 : Dj code 170 (.if_icmp .ge 48) 48 173 218 := ⟨at_170, rfl, by decide, by decide⟩
theorem own_d33 {p1 v0 v1 : Int32} (e0 : v0 = (p1 &&& 2147483647)) (e1 : v1 = (v0 &&& 127)) : v1 < 65536 := by
  have := rng32 p1
  have : (2147483647 : Int32).toInt = 2147483647 := by decide
  have := e_mask e0 31 2147483648
  have : (127 : Int32).toInt = 127 := by decide
  have := e_mask e1 7 128
  have : (65536 : Int32).toInt = 65536 := by decide
  exact o_lt (by omega)
theorem D0_173 : Dc code 173 (.aload 10) 2 175 := ⟨at_173, rfl⟩
theorem D0_175 : Dc code 175 (.invokevirtual 24) 3 178 := ⟨at_175, rfl⟩
theorem R_String_coder_2 {a1 a2 : Addr} {w_CS : Int32} (hw : HW a0 Z) (pr1 : TS_CS Z w_CS) (pr2 : ¬ (w_CS = 0)) (pr3 : Obj Z h0 a1 L_String [.ref a2, .int 0]) : Mt false [] l Y19 C19 (rmk 0 0 0 0) #[.ref a1] Z a0 h0 n0 (Pv h0 (.int 0)) := by
  refine Mt.go PN19 (Or.inl rfl) ef_R_1 fun k => ?_
  replace k := k |>.getS (fl_48 hw) pr1 D19_0 |>.ifNo D19_3 ((if0 _ _).trans (feq pr2).1) |>.aloadN D19_6 rfl rfl |>.getF (fl_32 hw) pr3 1 D19_7 rfl rfl |>.goto D19_10
  exact k.retN (t := .byte) D19_14 rfl (by simp) (z' := 0) (by decide) ⟨rfl, rfl⟩
theorem R_String_length_2 {a1 a2 : Addr} {p3 p4 w_CS : Int32} (hw : HW a0 Z) (pr1 : Obj Z h0 a1 L_String [.ref a2, .int 0]) (pr2 : Ary Z h0 a2 ATB 2 (lv [.int p3, .int p4])) (pr3 : ¬ (w_CS = 0)) (pr4 : TS_CS Z w_CS) : Mt false [] l Y18 C18 (rmk 1 0 0 13) #[.ref a1] Z a0 h0 n0 (Pv h0 (.int 2)) := by
  refine Mt.go PN18 (Or.inl rfl) ef_R_1 fun k => ?_
  replace k := k |>.aloadN D18_0 rfl rfl |>.getF (fl_31 hw) pr1 0 D18_1 rfl rfl |>.alen pr2 D18_4 (z := 2) (by decide) |>.aloadN D18_5 rfl rfl
  replace k := (k.callV (w_72 hw) (V_Y19_19_String hw) pr1.exa (R_String_coder_2 hw pr4 pr3 pr1) D18_6 1 rfl).pv
  replace k := k |>.ishr D18_9 (z := 2) (by decide)
  exact k.retI D18_10 rfl ⟨rfl, rfl⟩
theorem D0_178 : Dc code 178 (.iconst 1) 1 179 := ⟨at_178, rfl⟩
theorem D0_179 : Dc code 179 (.iload 11) 2 181 := ⟨at_179, rfl⟩
theorem D0_181 : Dc code 181 .iadd 1 182 := ⟨at_181, rfl⟩
theorem D0_182 : Dj code 182 (.if_icmp .ne 34) 34 185 216 := ⟨at_182, rfl, by decide, by decide⟩
theorem D0_185 : Dc code 185 (.aload 10) 2 187 := ⟨at_185, rfl⟩
theorem D0_187 : Dc code 187 (.iconst 0) 1 188 := ⟨at_187, rfl⟩
theorem D0_188 : Dc code 188 (.invokevirtual 28) 3 191 := ⟨at_188, rfl⟩
theorem D21_13 : Dc J21 13 (.iconst 1) 1 14 := by decide +kernel
theorem D21_14 : Dj J21 14 (.goto 4) 4 17 18 := by decide +kernel
theorem R_String_isLatin1_2 {a1 a2 : Addr} {w_CS : Int32} (hw : HW a0 Z) (pr1 : TS_CS Z w_CS) (pr2 : ¬ (w_CS = 0)) (pr3 : Obj Z h0 a1 L_String [.ref a2, .int 0]) : Mt false [] l Y21 C21 (rmk 0 0 0 0) #[.ref a1] Z a0 h0 n0 (Pv h0 (.int 1)) := by
  refine Mt.go PN21 (Or.inl rfl) ef_R_1 fun k => ?_
  replace k := k |>.getS (fl_48 hw) pr1 D21_0 |>.ifNo D21_3 ((if0 _ _).trans (feq pr2).1) |>.aloadN D21_6 rfl rfl |>.getF (fl_32 hw) pr3 1 D21_7 rfl rfl |>.ifNo D21_10 (by decide) |>.iconst D21_13 1 |>.goto D21_14
  exact k.retN (t := .boolean) D21_18 rfl (by simp) (z' := 1) (by decide) ⟨rfl, rfl⟩
theorem D20_7 : Dc J20 7 (.aload_n 0) 1 8 := by decide +kernel
theorem D20_8 : Dc J20 8 (.getfield 9) 3 11 := by decide +kernel
theorem D20_11 : Dc J20 11 (.iload_n 1) 1 12 := by decide +kernel
theorem D20_12 : Dc J20 12 (.invokestatic 495) 3 15 := by decide +kernel
abbrev Y31 : MethodName := ⟨"java/lang/StringLatin1", "charAt", "([BI)C"⟩
abbrev J31 := jdk_43_method_2_code
abbrev C31 : Cond := .code Y31 J31 2 (some .char)
theorem D31_0 : Dc J31 0 (.iload_n 1) 1 1 := by decide +kernel
theorem D31_1 : Dc J31 1 (.aload_n 0) 1 2 := by decide +kernel
theorem D31_2 : Dc J31 2 .arraylength 1 3 := by decide +kernel
theorem D31_3 : Dc J31 3 (.invokestatic 9) 3 6 := by decide +kernel
abbrev w_91 (hw : HW a0 Z) := hw _ (List.mem_of_getElem? (i := 91) rfl)
theorem D31_6 : Dc J31 6 (.aload_n 0) 1 7 := by decide +kernel
theorem D31_7 : Dc J31 7 (.iload_n 1) 1 8 := by decide +kernel
theorem D31_8 : Dc J31 8 .baload 1 9 := by decide +kernel
theorem D31_9 : Dc J31 9 (.sipush 255) 3 12 := by decide +kernel
theorem D31_12 : Dc J31 12 .iand 1 13 := by decide +kernel
theorem D31_13 : Dc J31 13 .i2c 1 14 := by decide +kernel
theorem D31_14 : Dc J31 14 .ireturn 1 15 := by decide +kernel
theorem PN31 : plainFor Y31 = true := plainFor_of_name pn_StringLatin1
theorem R_StringLatin1_charAt_1 {a1 : Addr} {p2 p3 : Int32} {w_SF : Value} (hw : HW a0 Z) (pr1 : Ary Z h0 a1 ATB 2 (lv [.int p2, .int p3])) (pr2 : w_SF.isRef = true) (pr3 : TS_SF Z w_SF) : Mt false [] l Y31 C31 (rmk 2 0 0 27) #[.ref a1, .int 0] Z a0 h0 n0 (Pv h0 (.int ((p2 &&& 255).toUInt32.toUInt16.toUInt32.toInt32))) := by
  refine Mt.go PN31 (Or.inl rfl) ef_RI_2_0 fun k => ?_
  replace k := k |>.iloadN D31_0 rfl |>.aloadN D31_1 rfl rfl |>.alen pr1 D31_2 (z := 2) (by decide)
  replace k := (k.callS (w_91 hw) (S24 hw) (R_String_checkIndex_1 hw pr2 pr3) D31_3 0 rfl).p0
  replace k := k |>.aloadN D31_6 rfl rfl |>.iloadN D31_7 rfl |>.bald pr1 D31_8 (i := 0) (by decide) lvg0 |>.sipush D31_9 255 |>.iand D31_12 rfl |>.i2c D31_13 rfl
  exact k.retN (t := .char) D31_14 rfl (by simp) (own_nnCi2c _) ⟨rfl, rfl⟩
abbrev w_87 (hw : HW a0 Z) := hw _ (List.mem_of_getElem? (i := 87) rfl)
abbrev w_90 (hw : HW a0 Z) := hw _ (List.mem_of_getElem? (i := 90) rfl)
abbrev w_88 (hw : HW a0 Z) := hw _ (List.mem_of_getElem? (i := 88) rfl)
theorem S31 (hw : HW a0 Z) : SC Z a0 Y31 C31 2 (some .char) 2 := ⟨(w_88 hw), ⟨⟨_, Or.inl rfl⟩, (w_90 hw), (w_89 hw), by decide, _, _, pd_ABI_r_C, rfl⟩⟩
theorem D20_15 : Dc J20 15 .ireturn 1 16 := by decide +kernel
theorem R_String_charAt_3 {a1 a2 : Addr} {w_CS p3 p4 : Int32} {w_SF : Value} (hw : HW a0 Z) (pr1 : Obj Z h0 a1 L_String [.ref a2, .int 0]) (pr2 : ¬ (w_CS = 0)) (pr3 : TS_CS Z w_CS) (pr4 : Ary Z h0 a2 ATB 2 (lv [.int p3, .int p4])) (pr5 : w_SF.isRef = true) (pr6 : TS_SF Z w_SF) : Mt false [] l Y20 C20 (rmk 3 0 0 40) #[.ref a1, .int 0] Z a0 h0 n0 (Pv h0 (.int ((p3 &&& 255).toUInt32.toUInt16.toUInt32.toInt32))) := by
  refine Mt.go PN20 (Or.inl rfl) ef_RI_2_0 fun k => ?_
  replace k := k |>.aloadN D20_0 rfl rfl
  replace k := (k.callV (w_82 hw) (V_Y21_21_String hw) pr1.exa (R_String_isLatin1_2 hw pr3 pr2 pr1) D20_1 0 rfl).pv
  replace k := k |>.ifNo D20_4 (by decide) |>.aloadN D20_7 rfl rfl |>.getF (fl_31 hw) pr1 0 D20_8 rfl rfl |>.iloadN D20_11 rfl
  replace k := (k.callS (w_87 hw) (S31 hw) (R_StringLatin1_charAt_1 hw pr4 pr5 pr6) D20_12 0 rfl).pv
  exact k.retN (t := .char) D20_15 rfl (by simp) (own_nnCi2c _) ⟨rfl, rfl⟩
theorem D0_191 : Dc code 191 (.iload 8) 2 193 := ⟨at_191, rfl⟩
theorem D0_193 : Dj code 193 (.if_icmp .ne 23) 23 196 216 := ⟨at_193, rfl, by decide, by decide⟩
theorem own_d34 {p1 v0 v1 v2 : Int32} (e0 : v0 = (p1 &&& 2147483647)) (e1 : v1 = (v0 &&& 127)) (e2 : v2 = ((v1.toInt8.toInt32 &&& 255).toUInt32.toUInt16.toUInt32.toInt32)) : v2 = v1 := by
  have := rng32 p1
  have : (2147483647 : Int32).toInt = 2147483647 := by decide
  have := e_mask e0 31 2147483648
  have : (127 : Int32).toInt = 127 := by decide
  have := e_mask e1 7 128
  have := e_lat e2 (by omega) (by omega)
  exact o_eq (by omega)
theorem D0_196 : Dc code 196 (.iload 5) 2 198 := ⟨at_196, rfl⟩
theorem D0_198 : Dj code 198 (.ifCond .eq 14) 14 201 212 := ⟨at_198, rfl, by decide, by decide⟩
theorem D0_201 : Dc code 201 (.aload 10) 2 203 := ⟨at_201, rfl⟩
theorem D0_203 : Dc code 203 (.iconst 1) 1 204 := ⟨at_203, rfl⟩
theorem D0_204 : Dc code 204 (.invokevirtual 28) 3 207 := ⟨at_204, rfl⟩
theorem R_StringLatin1_charAt_2 {a1 : Addr} {p2 p3 : Int32} {w_SF : Value} (hw : HW a0 Z) (pr1 : Ary Z h0 a1 ATB 2 (lv [.int p2, .int p3])) (pr2 : w_SF.isRef = true) (pr3 : TS_SF Z w_SF) : Mt false [] l Y31 C31 (rmk 2 0 0 27) #[.ref a1, .int 1] Z a0 h0 n0 (Pv h0 (.int ((p3 &&& 255).toUInt32.toUInt16.toUInt32.toInt32))) := by
  refine Mt.go PN31 (Or.inl rfl) ef_RI_2_1 fun k => ?_
  replace k := k |>.iloadN D31_0 rfl |>.aloadN D31_1 rfl rfl |>.alen pr1 D31_2 (z := 2) (by decide)
  replace k := (k.callS (w_91 hw) (S24 hw) (R_String_checkIndex_2 hw pr2 pr3) D31_3 0 rfl).p0
  replace k := k |>.aloadN D31_6 rfl rfl |>.iloadN D31_7 rfl |>.bald pr1 D31_8 (i := 1) (by decide) lvg1 |>.sipush D31_9 255 |>.iand D31_12 rfl |>.i2c D31_13 rfl
  exact k.retN (t := .char) D31_14 rfl (by simp) (own_nnCi2c _) ⟨rfl, rfl⟩
theorem R_String_charAt_4 {a1 a2 : Addr} {w_CS p3 p4 : Int32} {w_SF : Value} (hw : HW a0 Z) (pr1 : Obj Z h0 a1 L_String [.ref a2, .int 0]) (pr2 : ¬ (w_CS = 0)) (pr3 : TS_CS Z w_CS) (pr4 : Ary Z h0 a2 ATB 2 (lv [.int p3, .int p4])) (pr5 : w_SF.isRef = true) (pr6 : TS_SF Z w_SF) : Mt false [] l Y20 C20 (rmk 3 0 0 40) #[.ref a1, .int 1] Z a0 h0 n0 (Pv h0 (.int ((p4 &&& 255).toUInt32.toUInt16.toUInt32.toInt32))) := by
  refine Mt.go PN20 (Or.inl rfl) ef_RI_2_1 fun k => ?_
  replace k := k |>.aloadN D20_0 rfl rfl
  replace k := (k.callV (w_82 hw) (V_Y21_21_String hw) pr1.exa (R_String_isLatin1_2 hw pr3 pr2 pr1) D20_1 0 rfl).pv
  replace k := k |>.ifNo D20_4 (by decide) |>.aloadN D20_7 rfl rfl |>.getF (fl_31 hw) pr1 0 D20_8 rfl rfl |>.iloadN D20_11 rfl
  replace k := (k.callS (w_87 hw) (S31 hw) (R_StringLatin1_charAt_2 hw pr4 pr5 pr6) D20_12 0 rfl).pv
  exact k.retN (t := .char) D20_15 rfl (by simp) (own_nnCi2c _) ⟨rfl, rfl⟩
theorem D0_207 : Dc code 207 (.iload 4) 2 209 := ⟨at_207, rfl⟩
theorem D0_209 : Dj code 209 (.if_icmp .ne 7) 7 212 216 := ⟨at_209, rfl, by decide, by decide⟩
theorem own_d35 {p2 v0 v1 : Int32} (e0 : v0 = (p2 &&& 127)) (e1 : v1 = ((v0.toInt8.toInt32 &&& 255).toUInt32.toUInt16.toUInt32.toInt32)) : v1 = v0 := by
  have := rng32 p2
  have : (127 : Int32).toInt = 127 := by decide
  have := e_mask e0 7 128
  have := e_lat e1 (by omega) (by omega)
  exact o_eq (by omega)
theorem D0_212 : Dc code 212 (.iconst 1) 1 213 := ⟨at_212, rfl⟩
theorem D0_213 : Dj code 213 (.goto 4) 4 216 217 := ⟨at_213, rfl, by decide, by decide⟩
theorem D0_217 : Dc code 217 .ireturn 1 218 := ⟨at_217, rfl⟩
theorem D29_9 : Dc J29 9 (.iload_n 0) 1 10 := by decide +kernel
theorem D29_10 : Dc J29 10 (.iconst 1) 1 11 := by decide +kernel
theorem D29_11 : Dj J29 11 (.if_icmp .ne 13) 13 14 24 := by decide +kernel
theorem D29_14 : Dc J29 14 (.sipush 128) 3 17 := by decide +kernel
theorem D29_17 : Dc J29 17 (.iload_n 1) 1 18 := by decide +kernel
theorem D29_18 : Dc J29 18 (.sipush 1920) 3 21 := by decide +kernel
theorem D29_21 : Dc J29 21 .irem 1 22 := by decide +kernel
theorem D29_22 : Dc J29 22 .iadd 1 23 := by decide +kernel
theorem D29_23 : Dc J29 23 .ireturn 1 24 := by decide +kernel
theorem R_Utf8DecodeNamePinLaw_codePoint_4 {p1 p2 : Int32} (hw : HW a0 Z) (pr1 : ¬ (p1 = 0)) (pr2 : p1 = 1) : Mt false [] l Y29 C29 (rmk 0 0 0 0) #[.int p1, .int p2] Z a0 h0 n0 (Pv h0 (.int (128 + (p2 % 1920)))) := by
  refine Mt.go PN29 (Or.inl rfl) ef_II_3 fun k => ?_
  replace k := k |>.iloadN D29_0 rfl |>.ifYes D29_1 ((if0 _ _).trans (feq pr1).2) |>.iloadN D29_9 rfl |>.iconst D29_10 1 |>.icmpNo D29_11 (teq pr2).2 |>.sipush D29_14 128 |>.iloadN D29_17 rfl |>.sipush D29_18 1920 |>.irem D29_21 (by decide) rfl |>.iadd D29_22 rfl
  exact k.retI D29_23 rfl ⟨rfl, rfl⟩
theorem D30_39 : Dc J30 39 (.iload_n 1) 1 40 := by decide +kernel
theorem D30_40 : Dc J30 40 (.iconst 1) 1 41 := by decide +kernel
theorem D30_41 : Dj J30 41 (.if_icmp .ne 62) 62 44 103 := by decide +kernel
theorem D30_44 : Dc J30 44 (.sipush 192) 3 47 := by decide +kernel
theorem D30_47 : Dc J30 47 (.iload_n 0) 1 48 := by decide +kernel
theorem D30_48 : Dc J30 48 (.bipush 6) 2 50 := by decide +kernel
theorem D30_50 : Dc J30 50 .ishr 1 51 := by decide +kernel
theorem D30_51 : Dc J30 51 .ior 1 52 := by decide +kernel
theorem D30_52 : Dc J30 52 .i2b 1 53 := by decide +kernel
theorem D30_53 : Dc J30 53 (.istore 5) 2 55 := by decide +kernel
theorem D30_55 : Dc J30 55 (.sipush 128) 3 58 := by decide +kernel
theorem D30_58 : Dc J30 58 (.iload_n 0) 1 59 := by decide +kernel
theorem D30_59 : Dc J30 59 (.bipush 63) 2 61 := by decide +kernel
theorem D30_61 : Dc J30 61 .iand 1 62 := by decide +kernel
theorem D30_62 : Dc J30 62 .ior 1 63 := by decide +kernel
theorem D30_63 : Dc J30 63 .i2b 1 64 := by decide +kernel
theorem D30_64 : Dc J30 64 (.istore 6) 2 66 := by decide +kernel
theorem D30_66 : Dc J30 66 (.iload_n 2) 1 67 := by decide +kernel
theorem D30_67 : Dj J30 67 (.ifCond .eq 22) 22 70 89 := by decide +kernel
theorem D30_70 : Dc J30 70 (.iconst 3) 1 71 := by decide +kernel
theorem D30_71 : Dc J30 71 (.newarray .byte) 2 73 := by decide +kernel
theorem D30_73 : Dc J30 73 .dup 1 74 := by decide +kernel
theorem D30_74 : Dc J30 74 (.iconst 0) 1 75 := by decide +kernel
theorem D30_75 : Dc J30 75 (.iload 5) 2 77 := by decide +kernel
theorem D30_77 : Dc J30 77 .bastore 1 78 := by decide +kernel
theorem D30_78 : Dc J30 78 .dup 1 79 := by decide +kernel
theorem D30_79 : Dc J30 79 (.iconst 1) 1 80 := by decide +kernel
theorem D30_80 : Dc J30 80 (.iload 6) 2 82 := by decide +kernel
theorem D30_82 : Dc J30 82 .bastore 1 83 := by decide +kernel
theorem D30_83 : Dc J30 83 .dup 1 84 := by decide +kernel
theorem D30_84 : Dc J30 84 (.iconst 2) 1 85 := by decide +kernel
theorem D30_85 : Dc J30 85 (.iload 4) 2 87 := by decide +kernel
theorem D30_87 : Dc J30 87 .bastore 1 88 := by decide +kernel
theorem D30_88 : Dc J30 88 .areturn 1 89 := by decide +kernel
theorem R_Utf8DecodeNamePinLaw_encode_2 {p1 p2 p3 : Int32} (hw : HW a0 Z) (pr1 : ¬ (p2 = 0)) (pr2 : p2 = 1) : Mt false [] l Y30 C30 (rmk 0 1 3 0) #[.int p1, .int p2, .int 1, .int p3] Z a0 h0 n0 (KpV h0 [] fun v h => ∃ b1 : Addr, v = (.ref b1) ∧ h0.size ≤ b1 ∧ Ary Z h b1 ATB 3 (lv [.int ((192 ||| (p1 >>> ((6 : Int32) &&& 31))).toInt8.toInt32), .int ((128 ||| (p1 &&& 63)).toInt8.toInt32), .int (p3.toInt8.toInt32)])) := by
  refine Mt.go PN30 (Or.inl rfl) ef_IIII_9_1 fun k => ?_
  have nz := k.n0le
  replace k := k |>.iloadN D30_0 rfl |>.i2b D30_1 rfl |>.istore D30_2 sto4 |>.iloadN D30_4 rfl |>.ifYes D30_5 ((if0 _ _).trans (feq pr1).2) |>.iloadN D30_39 rfl |>.iconst D30_40 1 |>.icmpNo D30_41 (teq pr2).2 |>.sipush D30_44 192 |>.iloadN D30_47 rfl |>.bipush D30_48 6 |>.ishr D30_50 rfl
  replace k := k |>.ior D30_51 rfl |>.i2b D30_52 rfl |>.istore D30_53 sto5 |>.sipush D30_55 128 |>.iloadN D30_58 rfl |>.bipush D30_59 63 |>.iand D30_61 rfl |>.ior D30_62 rfl |>.i2b D30_63 rfl |>.istore D30_64 sto6 |>.iloadN D30_66 rfl |>.ifNo D30_67 (by decide)
  replace k := k |>.iconst D30_70 3
  have z1 := k.sz
  obtain ⟨b1, h1, g1, K1, O1, k⟩ := k.newP (aty := .byte) "[B" (w_0 hw) (by decide) D30_71 3 (by decide) (n := 3) (by decide) (by decide) (by decide) (lv_const (V := [(.int 0), (.int 0), (.int 0)]) rfl)
  replace k := k |>.dup D30_73 rfl |>.iconst D30_74 0 |>.iload D30_75 rfl
  have s_b1 := Nat.le_trans z1 g1
  have n_b1 := Nat.le_trans nz s_b1
  obtain ⟨h2, K2, O2, k⟩ := k.stB O1 n_b1 (Or.inl rfl) D30_77 (i := 0) (by decide) (v := (.int ((192 ||| (p1 >>> ((6 : Int32) &&& 31))).toInt8.toInt32))) (congrArg Value.int (own_nnBi2b _)) (own_fitBi2b _) lvs0
  replace k := k |>.dup D30_78 rfl |>.iconst D30_79 1 |>.iload D30_80 rfl
  obtain ⟨h3, K3, O3, k⟩ := k.stB O2 n_b1 (Or.inl rfl) D30_82 (i := 1) (by decide) (v := (.int ((128 ||| (p1 &&& 63)).toInt8.toInt32))) (congrArg Value.int (own_nnBi2b _)) (own_fitBi2b _) lvs1
  replace k := k |>.dup D30_83 rfl |>.iconst D30_84 2 |>.iload D30_85 rfl
  obtain ⟨h4, K4, O4, k⟩ := k.stB O3 n_b1 (Or.inl rfl) D30_87 (i := 2) (by decide) (v := (.int (p3.toInt8.toInt32))) (congrArg Value.int (own_nnBi2b _)) (own_fitBi2b _) lvs2
  exact k.retA D30_88 rfl ⟨_, rfl, (((K1.trans K2 (allS (Or.inr s_b1) all0)).trans K3 (allS (Or.inr s_b1) all0)).trans K4 (allS (Or.inr s_b1) all0)), b1, rfl, s_b1, O4⟩
theorem ef_RII_5_0_3 {x0 : Addr}  (m : MethodId) : entryFrame m #[(.ref x0), (.int 0), (.int 3)] 5 = mkF m 0 #[.val (.ref x0), .val (.int 0), .val (.int 3), .unset, .unset] [] := by
  first | (simp [entryFrame, mkF, argsToLocals, Value.category]; done) | rfl
theorem R_StringCoding_countPositives_3 {a1 : Addr} {p2 p3 p4 : Int32} (hw : HW a0 Z) (pr1 : Ary Z h0 a1 ATB 3 (lv [.int p2, .int p3, .int p4])) (pr2 : p2 < 0) : Mt false [] l Y5 C5 (rmk 0 0 0 0) #[.ref a1, .int 0, .int 3] Z a0 h0 n0 (Pv h0 (.int 0)) := by
  refine Mt.go PN5 (Or.inl rfl) ef_RII_5_0_3 fun k => ?_
  replace k := k |>.iloadN D5_0 rfl |>.iloadN D5_1 rfl |>.iadd D5_2 (z := 3) (by decide) |>.istoreN D5_3 sto3 |>.iloadN D5_4 rfl |>.istore D5_5 sto4 |>.iload D5_7 rfl |>.iloadN D5_9 rfl |>.icmpNo D5_10 (by decide) |>.aloadN D5_13 rfl rfl |>.iload D5_14 rfl |>.bald pr1 D5_16 (i := 0) (by decide) lvg0
  replace k := k |>.ifNo D5_17 ((if0 _ _).trans (tlt pr2).2.1) |>.iload D5_20 rfl |>.iloadN D5_22 rfl |>.isub D5_23 (z := 0) (by decide)
  exact k.retI D5_24 rfl ⟨rfl, rfl⟩
theorem ef_RII_3_0_3 {x0 : Addr}  (m : MethodId) : entryFrame m #[(.ref x0), (.int 0), (.int 3)] 3 = mkF m 0 #[.val (.ref x0), .val (.int 0), .val (.int 3)] [] := by
  first | (simp [entryFrame, mkF, argsToLocals, Value.category]; done) | rfl
theorem R_Arrays_copyOfRange_2 {a1 : Addr} {p2 p3 p4 : Int32} (hw : HW a0 Z) (pr1 : Ary Z h0 a1 ATB 3 (lv [.int p2, .int p3, .int p4])) : Mt false [] l Y6 C6 (rmk 1 1 3 14) #[.ref a1, .int 0, .int 3] Z a0 h0 n0 (KpV h0 [] fun v h => ∃ b1 : Addr, v = (.ref b1) ∧ h0.size ≤ b1 ∧ Ary Z h b1 ATB 3 (lv [.int p2, .int p3, .int p4])) := by
  refine Mt.go PN6 (Or.inl rfl) ef_RII_3_0_3 fun k => ?_
  replace k := k |>.iloadN D6_0 rfl |>.ifNo D6_1 (by decide) |>.iloadN D6_4 rfl |>.aloadN D6_5 rfl rfl |>.alen pr1 D6_6 (z := 3) (by decide) |>.icmpYes D6_7 (by decide) |>.aloadN D6_17 rfl rfl
  have z1 := k.sz
  obtain ⟨b1, h1, g1, K1, O1, k⟩ := k.aclone (w_57 hw) (w_58 hw) (w_62 hw) (w_60 hw) (w_61 hw) (w_63 hw) pr1 (by decide) D6_18 0
  replace k := k |>.castY (w_64 hw) (Ins.self (O1.exa (by decide))) D6_21
  have s_b1 := Nat.le_trans z1 g1
  exact k.retA D6_24 rfl ⟨_, rfl, K1, b1, rfl, s_b1, O1⟩
theorem own_d37 {p1 v0 v1 v2 v3 v4 v5 : Int32} (e0 : v0 = (p1 &&& 2147483647)) (e1 : v1 = (v0 % 1920)) (e2 : v2 = (128 + v1)) (e3 : v3 = (v2 >>> ((6 : Int32) &&& 31))) (e4 : v4 = ((192 ||| v3).toInt8.toInt32)) (e5 : v5 = (v4 &&& 254)) (q0 : v5 = 194) : v4 < 0 := by
  have : (128 : Int32).toInt = 128 := by decide
  have := rng32 p1
  have : (2147483647 : Int32).toInt = 2147483647 := by decide
  have := e_mask e0 31 2147483648
  have : (1920 : Int32).toInt = 1920 := by decide
  have := e_iremN e1 1920 (by omega)
  have := e_iaddN e2 (by omega)
  have : (6 : Int32).toInt = 6 := by decide
  have := e_ishr e3 6 64
  have := e_hbN e4 6 64 192 (by omega)
  have : (254 : Int32).toInt = 254 := by decide
  have : v4.toInt % 256 = v4.toInt + 256 := by omega
  have := e_mask2 e5 1 7 256 2
  have : (194 : Int32).toInt = 194 := by decide
  have := i_eq q0
  have : (0 : Int32).toInt = 0 := by decide
  exact o_lt (by omega)
theorem own_d38 {p1 v0 v1 v2 v3 v4 v5 v6 v7 : Int32} (e0 : v0 = (p1 &&& 2147483647)) (e1 : v1 = (v0 % 1920)) (e2 : v2 = (128 + v1)) (e3 : v3 = (v2 >>> ((6 : Int32) &&& 31))) (e4 : v4 = ((192 ||| v3).toInt8.toInt32)) (e5 : v5 = (v4 &&& 254)) (e6 : v6 = (v2 &&& 63)) (e7 : v7 = ((128 ||| v6).toInt8.toInt32)) (q0 : v5 = 194) : v7 < (-64) := by
  have : (128 : Int32).toInt = 128 := by decide
  have := rng32 p1
  have : (2147483647 : Int32).toInt = 2147483647 := by decide
  have := e_mask e0 31 2147483648
  have : (1920 : Int32).toInt = 1920 := by decide
  have := e_iremN e1 1920 (by omega)
  have := e_iaddN e2 (by omega)
  have : (6 : Int32).toInt = 6 := by decide
  have := e_ishr e3 6 64
  have := e_hbN e4 6 64 192 (by omega)
  have : (254 : Int32).toInt = 254 := by decide
  have : v4.toInt % 256 = v4.toInt + 256 := by omega
  have := e_mask2 e5 1 7 256 2
  have : (194 : Int32).toInt = 194 := by decide
  have := i_eq q0
  have : (63 : Int32).toInt = 63 := by decide
  have := e_mask e6 6 64
  have := e_hbN e7 7 128 128 (by omega)
  have : (-64 : Int32).toInt = -64 := by decide
  exact o_lt (by omega)
theorem D4_162 : Dc J4 162 (.aload 6) 2 164 := by decide +kernel
theorem D4_164 : Dc J4 164 (.iload 5) 2 166 := by decide +kernel
theorem D4_166 : Dc J4 166 (.iinc 5 1) 3 169 := by decide +kernel
theorem D4_169 : Dc J4 169 (.iload 8) 2 171 := by decide +kernel
theorem D4_171 : Dc J4 171 (.iload 9) 2 173 := by decide +kernel
theorem D4_173 : Dc J4 173 (.invokestatic 98) 3 176 := by decide +kernel
abbrev Y32 : MethodName := ⟨"java/lang/String", "decode2", "(II)C"⟩
abbrev J32 := jdk_42_method_35_code
abbrev C32 : Cond := .code Y32 J32 2 (some .char)
theorem D32_0 : Dc J32 0 (.iload_n 0) 1 1 := by decide +kernel
theorem D32_1 : Dc J32 1 (.bipush 6) 2 3 := by decide +kernel
theorem D32_3 : Dc J32 3 .ishl 1 4 := by decide +kernel
theorem D32_4 : Dc J32 4 (.iload_n 1) 1 5 := by decide +kernel
theorem D32_5 : Dc J32 5 .ixor 1 6 := by decide +kernel
theorem D32_6 : Dc J32 6 (.sipush 3968) 3 9 := by decide +kernel
theorem D32_9 : Dc J32 9 .ixor 1 10 := by decide +kernel
theorem D32_10 : Dc J32 10 .i2c 1 11 := by decide +kernel
theorem D32_11 : Dc J32 11 .ireturn 1 12 := by decide +kernel
theorem PN32 : plainFor Y32 = true := plainFor_of_name pn_String
theorem R_String_decode2_1 {p1 p2 : Int32} (hw : HW a0 Z) : Mt false [] l Y32 C32 (rmk 0 0 0 0) #[.int p1, .int p2] Z a0 h0 n0 (Pv h0 (.int ((((p1 <<< ((6 : Int32) &&& 31)) ^^^ p2) ^^^ 3968).toUInt32.toUInt16.toUInt32.toInt32))) := by
  refine Mt.go PN32 (Or.inl rfl) ef_II_2 fun k => ?_
  replace k := k |>.iloadN D32_0 rfl |>.bipush D32_1 6 |>.ishl D32_3 rfl |>.iloadN D32_4 rfl |>.ixor D32_5 rfl |>.sipush D32_6 3968 |>.ixor D32_9 rfl |>.i2c D32_10 rfl
  exact k.retN (t := .char) D32_11 rfl (by simp) (own_nnCi2c _) ⟨rfl, rfl⟩
abbrev w_190 (hw : HW a0 Z) := hw _ (List.mem_of_getElem? (i := 190) rfl)
abbrev w_192 (hw : HW a0 Z) := hw _ (List.mem_of_getElem? (i := 192) rfl)
theorem pd_II_r_C : parseMethodDescriptor "(II)C" = some ⟨[.int, .int], some .char⟩ := by decide +kernel
abbrev w_191 (hw : HW a0 Z) := hw _ (List.mem_of_getElem? (i := 191) rfl)
theorem S32 (hw : HW a0 Z) : SC Z a0 Y32 C32 2 (some .char) 2 := ⟨(w_191 hw), ⟨⟨_, Or.inl rfl⟩, (w_192 hw), (w_7 hw), by decide, _, _, pd_II_r_C, rfl⟩⟩
theorem D4_176 : Dc J4 176 .i2b 1 177 := by decide +kernel
theorem D4_177 : Dc J4 177 .bastore 1 178 := by decide +kernel
theorem D4_178 : Dc J4 178 (.iinc 7 1) 3 181 := by decide +kernel
theorem D4_181 : Dj J4 181 (.goto (-88)) (-88) 184 93 := by decide +kernel
theorem D4_115 : Dc J4 115 (.aload 6) 2 117 := by decide +kernel
theorem D4_117 : Dc J4 117 (.iload 5) 2 119 := by decide +kernel
theorem D4_119 : Dc J4 119 (.iinc 5 1) 3 122 := by decide +kernel
theorem D4_122 : Dc J4 122 (.iload 8) 2 124 := by decide +kernel
theorem D4_124 : Dc J4 124 .i2b 1 125 := by decide +kernel
theorem D4_125 : Dc J4 125 .bastore 1 126 := by decide +kernel
theorem D4_126 : Dj J4 126 (.goto (-33)) (-33) 129 93 := by decide +kernel
theorem D4_197 : Dc J4 197 (.iload 5) 2 199 := by decide +kernel
theorem D4_199 : Dc J4 199 (.aload 6) 2 201 := by decide +kernel
theorem D4_201 : Dc J4 201 .arraylength 1 202 := by decide +kernel
theorem D4_202 : Dj J4 202 (.if_icmp .eq 12) 12 205 214 := by decide +kernel
theorem D4_205 : Dc J4 205 (.aload 6) 2 207 := by decide +kernel
theorem D4_207 : Dc J4 207 (.iload 5) 2 209 := by decide +kernel
theorem D4_209 : Dc J4 209 (.invokestatic 102) 3 212 := by decide +kernel
abbrev Y33 : MethodName := ⟨"java/util/Arrays", "copyOf", "([BI)[B"⟩
abbrev J33 := jdk_65_method_121_code
abbrev C33 : Cond := .code Y33 J33 3 (some (.array .byte))
theorem D33_0 : Dc J33 0 (.iload_n 1) 1 1 := by decide +kernel
theorem D33_1 : Dc J33 1 (.aload_n 0) 1 2 := by decide +kernel
theorem D33_2 : Dc J33 2 .arraylength 1 3 := by decide +kernel
theorem D33_3 : Dj J33 3 (.if_icmp .ne 11) 11 6 14 := by decide +kernel
theorem D33_14 : Dc J33 14 (.iload_n 1) 1 15 := by decide +kernel
theorem D33_15 : Dc J33 15 (.newarray .byte) 2 17 := by decide +kernel
theorem D33_17 : Dc J33 17 (.astore_n 2) 1 18 := by decide +kernel
theorem sto2 {x0 x1 x : Slot} {t : List Slot} {v : Value} (hx : okS x = true := by rfl) (hv : v.category = 1 := by rfl) : storeLocals (List.toArray (x0 :: x1 :: x :: t)) 2 v = some (List.toArray (x0 :: x1 :: .val v :: t)) := stoA (A := [x0, x1]) hx hv
theorem D33_18 : Dc J33 18 (.aload_n 0) 1 19 := by decide +kernel
theorem D33_19 : Dc J33 19 (.iconst 0) 1 20 := by decide +kernel
theorem D33_20 : Dc J33 20 (.aload_n 2) 1 21 := by decide +kernel
theorem D33_21 : Dc J33 21 (.iconst 0) 1 22 := by decide +kernel
theorem D33_22 : Dc J33 22 (.aload_n 0) 1 23 := by decide +kernel
theorem D33_23 : Dc J33 23 .arraylength 1 24 := by decide +kernel
theorem D33_24 : Dc J33 24 (.iload_n 1) 1 25 := by decide +kernel
theorem D33_25 : Dc J33 25 (.invokestatic 304) 3 28 := by decide +kernel
abbrev Y34 : MethodName := ⟨"java/lang/Math", "min", "(II)I"⟩
abbrev J34 := jdk_29_method_69_code
abbrev C34 : Cond := .code Y34 J34 2 (some .int)
theorem D34_0 : Dc J34 0 (.iload_n 0) 1 1 := by decide +kernel
theorem D34_1 : Dc J34 1 (.iload_n 1) 1 2 := by decide +kernel
theorem D34_2 : Dj J34 2 (.if_icmp .gt 7) 7 5 9 := by decide +kernel
theorem D34_9 : Dc J34 9 (.iload_n 1) 1 10 := by decide +kernel
theorem D34_10 : Dc J34 10 .ireturn 1 11 := by decide +kernel
theorem PN34 : plainFor Y34 = true := Jvm.Free.JP.mathPlain rfl (by decide +kernel)
theorem ef_II_2_3_2   (m : MethodId) : entryFrame m #[(.int 3), (.int 2)] 2 = mkF m 0 #[.val (.int 3), .val (.int 2)] [] := by
  first | (simp [entryFrame, mkF, argsToLocals, Value.category]; done) | rfl
theorem R_Math_min_1 (hw : HW a0 Z) : Mt false [] l Y34 C34 (rmk 0 0 0 0) #[.int 3, .int 2] Z a0 h0 n0 (Pv h0 (.int 2)) := by
  refine Mt.go PN34 (Or.inl rfl) ef_II_2_3_2 fun k => ?_
  replace k := k |>.iloadN D34_0 rfl |>.iloadN D34_1 rfl |>.icmpYes D34_2 (by decide) |>.iloadN D34_9 rfl
  exact k.retI D34_10 rfl ⟨rfl, rfl⟩
abbrev w_159 (hw : HW a0 Z) := hw _ (List.mem_of_getElem? (i := 159) rfl)
abbrev w_162 (hw : HW a0 Z) := hw _ (List.mem_of_getElem? (i := 162) rfl)
abbrev w_161 (hw : HW a0 Z) := hw _ (List.mem_of_getElem? (i := 161) rfl)
abbrev w_160 (hw : HW a0 Z) := hw _ (List.mem_of_getElem? (i := 160) rfl)
theorem S34 (hw : HW a0 Z) : SC Z a0 Y34 C34 2 (some .int) 2 := ⟨(w_160 hw), ⟨⟨_, Or.inl rfl⟩, (w_162 hw), (w_161 hw), by decide, _, _, pd_II_r_I, rfl⟩⟩
theorem D33_28 : Dc J33 28 (.invokestatic 150) 3 31 := by decide +kernel
abbrev w_163 (hw : HW a0 Z) := hw _ (List.mem_of_getElem? (i := 163) rfl)
abbrev w_166 (hw : HW a0 Z) := hw _ (List.mem_of_getElem? (i := 166) rfl)
abbrev w_164 (hw : HW a0 Z) := hw _ (List.mem_of_getElem? (i := 164) rfl)
abbrev w_165 (hw : HW a0 Z) := hw _ (List.mem_of_getElem? (i := 165) rfl)
theorem D33_31 : Dc J33 31 (.aload_n 2) 1 32 := by decide +kernel
theorem D33_32 : Dc J33 32 .areturn 1 33 := by decide +kernel
theorem PN33 : plainFor Y33 = true := plainFor_of_name pn_Arrays
theorem ef_RI_3_2 {x0 : Addr}  (m : MethodId) : entryFrame m #[(.ref x0), (.int 2)] 3 = mkF m 0 #[.val (.ref x0), .val (.int 2), .unset] [] := by
  first | (simp [entryFrame, mkF, argsToLocals, Value.category]; done) | rfl
theorem R_Arrays_copyOf_1 {a1 : Addr} {p2 p3 p4 : Int32} (hw : HW a0 Z) (pr1 : Ary Z h0 a1 ATB 3 (lv [.int p2, .int p3, .int p4])) : Mt false [] l Y33 C33 (rmk 1 1 2 18) #[.ref a1, .int 2] Z a0 h0 n0 (KpV h0 [] fun v h => ∃ b1 : Addr, v = (.ref b1) ∧ h0.size ≤ b1 ∧ Ary Z h b1 ATB 2 (lv [.int p2, .int p3])) := by
  refine Mt.go PN33 (Or.inl rfl) ef_RI_3_2 fun k => ?_
  have nz := k.n0le
  replace k := k |>.iloadN D33_0 rfl |>.aloadN D33_1 rfl rfl |>.alen pr1 D33_2 (z := 3) (by decide) |>.icmpYes D33_3 (by decide) |>.iloadN D33_14 rfl
  have z1 := k.sz
  obtain ⟨b1, h1, g1, K1, O1, k⟩ := k.newP (aty := .byte) "[B" (w_0 hw) (by decide) D33_15 2 (by decide) (n := 2) (by decide) (by decide) (by decide) (lv_const (V := [(.int 0), (.int 0)]) rfl)
  replace k := k |>.astoreN D33_17 rfl sto2 |>.aloadN D33_18 rfl rfl |>.iconst D33_19 0 |>.aloadN D33_20 rfl rfl |>.iconst D33_21 0 |>.aloadN D33_22 rfl rfl
  have o2 := pr1.keep K1 nin0
  replace k := k |>.alen o2 D33_23 (z := 3) (by decide) |>.iloadN D33_24 rfl
  replace k := (k.callS (w_159 hw) (S34 hw) (R_Math_min_1 hw) D33_25 4 rfl).pv
  have s_b1 := Nat.le_trans z1 g1
  have n_b1 := Nat.le_trans nz s_b1
  obtain ⟨h4, K4, O4, k⟩ := k.acopy (w_163 hw) (w_166 hw) (w_164 hw) (w_165 hw) o2 O1 ⟨rfl, rfl⟩ (sp' := 0) (by decide) (dp' := 0) (by decide) (nn' := 2) (by decide) (by decide) (by decide) (lv_cpy (V' := [.int p2, .int p3]) rfl rfl) n_b1 D33_28 0
  replace k := k |>.aloadN D33_31 rfl rfl
  exact k.retA D33_32 rfl ⟨_, rfl, (K1.trans K4 (allS (Or.inr s_b1) all0)), b1, rfl, s_b1, O4⟩
abbrev w_156 (hw : HW a0 Z) := hw _ (List.mem_of_getElem? (i := 156) rfl)
abbrev w_158 (hw : HW a0 Z) := hw _ (List.mem_of_getElem? (i := 158) rfl)
theorem pd_ABI_r_AB : parseMethodDescriptor "([BI)[B" = some ⟨[(.array .byte), .int], some (.array .byte)⟩ := by decide +kernel
abbrev w_157 (hw : HW a0 Z) := hw _ (List.mem_of_getElem? (i := 157) rfl)
theorem S33 (hw : HW a0 Z) : SC Z a0 Y33 C33 3 (some (.array .byte)) 2 := ⟨(w_157 hw), ⟨⟨_, Or.inl rfl⟩, (w_158 hw), (w_55 hw), by decide, _, _, pd_ABI_r_AB, rfl⟩⟩
theorem D4_212 : Dc J4 212 (.astore 6) 2 214 := by decide +kernel
theorem D4_214 : Dc J4 214 (.aload_n 0) 1 215 := by decide +kernel
theorem D4_215 : Dc J4 215 (.aload 6) 2 217 := by decide +kernel
theorem D4_217 : Dc J4 217 (.putfield 9) 3 220 := by decide +kernel
theorem D4_220 : Dc J4 220 (.aload_n 0) 1 221 := by decide +kernel
theorem D4_221 : Dc J4 221 (.iconst 0) 1 222 := by decide +kernel
theorem D4_222 : Dc J4 222 (.putfield 15) 3 225 := by decide +kernel
theorem D4_225 : Dc J4 225 .return_ 1 226 := by decide +kernel
theorem ef_RRRII_11_0_3 {x0 : Addr} {x1 : Addr} {x2 : Addr}  (m : MethodId) : entryFrame m #[(.ref x0), (.ref x1), (.ref x2), (.int 0), (.int 3)] 11 = mkF m 0 #[.val (.ref x0), .val (.ref x1), .val (.ref x2), .val (.int 0), .val (.int 3), .unset, .unset, .unset, .unset, .unset, .unset] [] := by
  first | (simp [entryFrame, mkF, argsToLocals, Value.category]; done) | rfl
theorem R_String__init__44 {a1 w_U8 a2 : Addr} {w_CS p3 p4 p5 : Int32} (hw : HW a0 Z) (pr1 : TS_UI Z w_U8) (pr2 : TS_CS Z w_CS) (pr3 : ¬ (w_CS = 0)) (pr4 : Ary Z h0 a2 ATB 3 (lv [.int p3, .int p4, .int p5])) (pr5 : p3 < 0) (pr6 : (p3 &&& 254) = 194) (pr7 : p4 < (-64)) (pr8 : ¬ (p5 < 0)) (pr9 : Obj Z h0 a1 L_String [.null, .int 0]) (pr10 : n0 ≤ a1) : Mt false [] l Y4 C4 (rmk 2 2 5 32) #[.ref a1, .ref w_U8, .ref a2, .int 0, .int 3] Z a0 h0 n0 (K0 h0 [a1] fun h => ∃ b1_6 : Addr, h0.size ≤ b1_6 ∧ Obj Z h a1 L_String [.ref b1_6, .int 0] ∧ Ary Z h b1_6 ATB 2 (lv [.int (((((p3 <<< ((6 : Int32) &&& 31)) ^^^ p4) ^^^ 3968).toUInt32.toUInt16.toUInt32.toInt32).toInt8.toInt32), .int (p5.toInt8.toInt32)])) := by
  refine Mt.go PN4 (Or.inr ⟨_, rfl⟩) ef_RRRII_11_0_3 fun k => ?_
  have nz := k.n0le
  replace k := k |>.aloadN D4_0 rfl rfl |>.initO (w_23 hw) (w_24 hw) (w_25 hw) D4_1 0 |>.iload D4_4 rfl |>.ifYes D4_6 (by decide) |>.aloadN D4_30 rfl rfl |>.getS (fl_46 hw) pr1 D4_31 |>.acmpNo D4_34 rfl rfl true (decide_eq_true rfl) (by decide) |>.getS (fl_48 hw) pr2 D4_37 |>.ifNo D4_40 ((if0 _ _).trans (feq pr3).1) |>.aloadN D4_43 rfl rfl |>.iloadN D4_44 rfl |>.iload D4_45 rfl
  replace k := (k.callS (w_49 hw) (S5 hw) (R_StringCoding_countPositives_3 hw pr4 pr5) D4_47 0 rfl).pv
  replace k := k |>.istore D4_50 sto5 |>.iload D4_52 rfl |>.iload D4_54 rfl |>.icmpYes D4_56 (by decide) |>.aloadN D4_78 rfl rfl |>.iloadN D4_79 rfl |>.iloadN D4_80 rfl |>.iload D4_81 rfl |>.iadd D4_83 (z := 3) (by decide)
  have z2 := k.sz
  obtain ⟨_, h2, K2, ⟨b1_2, rfl, f2_0, f2_1⟩, k⟩ := (k.callS (w_53 hw) (S6 hw) (R_Arrays_copyOfRange_2 hw pr4) D4_84 0 rfl).kv
  replace k := k |>.astore D4_87 rfl sto6 |>.iload D4_89 rfl |>.istore D4_91 sto7 |>.iload D4_93 rfl |>.iload D4_95 rfl |>.icmpNo D4_97 (by decide) |>.aload D4_100 rfl rfl |>.iload D4_102 rfl |>.iinc D4_104 rfl (z := 1) (by decide) sto7 |>.bald f2_1 D4_107 (i := 0) (by decide) lvg0 |>.istore D4_108 sto8 |>.iload D4_110 rfl
  replace k := k |>.ifYes D4_112 ((if0 _ _).trans (tlt pr5).1) |>.iload D4_129 rfl |>.sipush D4_131 254 |>.iand D4_134 rfl |>.sipush D4_135 194 |>.icmpNo D4_138 (teq pr6).2 |>.iload D4_141 rfl |>.iload D4_143 rfl |>.icmpNo D4_145 (by decide) |>.aload D4_148 rfl rfl |>.iload D4_150 rfl |>.bald f2_1 D4_152 (i := 1) (by decide) lvg1
  replace k := k |>.istore D4_153 sto9 |>.iload D4_155 rfl |>.bipush D4_157 (-64) |>.icmpNo D4_159 (tlt pr7).2.1 |>.aload D4_162 rfl rfl |>.iload D4_164 rfl |>.iinc D4_166 rfl (z := 1) (by decide) sto5 |>.iload D4_169 rfl |>.iload D4_171 rfl
  replace k := (k.callS (w_190 hw) (S32 hw) (R_String_decode2_1 hw) D4_173 2 rfl).pv
  replace k := k |>.i2b D4_176 rfl
  have s_b1_2 := Nat.le_trans z2 f2_0
  have n_b1_2 := Nat.le_trans nz s_b1_2
  obtain ⟨h4, K4, O4, k⟩ := k.stB f2_1 n_b1_2 (Or.inl rfl) D4_177 (i := 0) (by decide) (v := (.int (((((p3 <<< ((6 : Int32) &&& 31)) ^^^ p4) ^^^ 3968).toUInt32.toUInt16.toUInt32.toInt32).toInt8.toInt32))) (congrArg Value.int (own_nnBi2b _)) (own_fitBi2b _) lvs0
  replace k := k |>.iinc D4_178 rfl (z := 2) (by decide) sto7 |>.goto D4_181 |>.iload D4_93 rfl |>.iload D4_95 rfl |>.icmpNo D4_97 (by decide) |>.aload D4_100 rfl rfl |>.iload D4_102 rfl |>.iinc D4_104 rfl (z := 3) (by decide) sto7 |>.bald O4 D4_107 (i := 2) (by decide) lvg2 |>.istore D4_108 sto8 |>.iload D4_110 rfl |>.ifNo D4_112 ((if0 _ _).trans (flt pr8).1)
  replace k := k |>.aload D4_115 rfl rfl |>.iload D4_117 rfl |>.iinc D4_119 rfl (z := 2) (by decide) sto5 |>.iload D4_122 rfl |>.i2b D4_124 rfl
  obtain ⟨h5, K5, O5, k⟩ := k.stB O4 n_b1_2 (Or.inl rfl) D4_125 (i := 1) (by decide) (v := (.int (p5.toInt8.toInt32))) (congrArg Value.int (own_nnBi2b _)) (own_fitBi2b _) lvs1
  replace k := k |>.goto D4_126 |>.iload D4_93 rfl |>.iload D4_95 rfl |>.icmpYes D4_97 (by decide) |>.iload D4_190 rfl |>.iload D4_192 rfl |>.icmpNo D4_194 (by decide) |>.iload D4_197 rfl |>.aload D4_199 rfl rfl |>.alen O5 D4_201 (z := 3) (by decide) |>.icmpNo D4_202 (by decide) |>.aload D4_205 rfl rfl
  replace k := k |>.iload D4_207 rfl
  have z6 := k.sz
  obtain ⟨_, h6, K6, ⟨b1_6, rfl, f6_0, f6_1⟩, k⟩ := (k.callS (w_156 hw) (S33 hw) (R_Arrays_copyOf_1 hw O5) D4_209 0 rfl).kv
  replace k := k |>.astore D4_212 rfl sto6 |>.aloadN D4_214 rfl rfl |>.aload D4_215 rfl rfl
  have o7 := (((pr9.keep K2 nin0).keep K4 (ninS (nlt pr9.lt s_b1_2) nin0)).keep K5 (ninS (nlt pr9.lt s_b1_2) nin0)).keep K6 nin0
  obtain ⟨h8, K8, O8, k⟩ := k.putF (fl_31 hw) (pw_String_i_String_value hw) o7 0 pr10 (Or.inl rfl) D4_217 rfl rfl rfl ls0
  replace k := k |>.aloadN D4_220 rfl rfl |>.iconst D4_221 0
  obtain ⟨h9, K9, O9, k⟩ := k.putN (fp_32 hw) (pw_String_i_String_coder hw) O8 1 pr10 (Or.inl rfl) D4_222 rfl (v' := (.int 0)) (by decide) (by decide) ls1
  have s_b1_6 := Nat.le_trans z6 f6_0
  have o10 := (f6_1.keep K8 (ninS (nlt' pr9.lt s_b1_6) nin0)).keep K9 (ninS (nlt' pr9.lt s_b1_6) nin0)
  exact k.ret0 D4_225 rfl ⟨rfl, (((((((Keep.refl h0 [a1]).trans K2 all0).trans K4 (allS (Or.inr s_b1_2) all0)).trans K5 (allS (Or.inr s_b1_2) all0)).trans K6 all0).trans K8 (allS (Or.inl (List.mem_of_getElem? (i := 0) rfl)) all0)).trans K9 (allS (Or.inl (List.mem_of_getElem? (i := 0) rfl)) all0)), b1_6, s_b1_6, O9, o10⟩
theorem R_String__init__43 {a1 a2 w_U8 : Addr} {p3 p4 p5 w_CS : Int32} (hw : HW a0 Z) (pr1 : Obj Z Z.heap w_U8 L_UTF_8 []) (pr2 : Ary Z h0 a2 ATB 3 (lv [.int p3, .int p4, .int p5])) (pr3 : ¬ (w_CS = 0)) (pr4 : p3 < 0) (pr5 : (p3 &&& 254) = 194) (pr6 : p4 < (-64)) (pr7 : ¬ (p5 < 0)) (pr8 : Obj Z h0 a1 L_String [.null, .int 0]) (pr9 : n0 ≤ a1) (pr10 : TS_UI Z w_U8) (pr11 : TS_CS Z w_CS) : Mt false [] l Y2 C2 (rmk 3 2 5 54) #[.ref a1, .ref a2, .ref w_U8] Z a0 h0 n0 (K0 h0 [a1] fun h => ∃ b1_6_2 : Addr, h0.size ≤ b1_6_2 ∧ Obj Z h a1 L_String [.ref b1_6_2, .int 0] ∧ Ary Z h b1_6_2 ATB 2 (lv [.int (((((p3 <<< ((6 : Int32) &&& 31)) ^^^ p4) ^^^ 3968).toUInt32.toUInt16.toUInt32.toInt32).toInt8.toInt32), .int (p5.toInt8.toInt32)])) := by
  refine Mt.go PN2 (Or.inl rfl) ef_RRR_3 fun k => ?_
  replace k := k |>.aloadN D2_0 rfl rfl |>.aloadN D2_1 rfl rfl
  replace k := (k.callS (w_13 hw) (S3 hw) (R_Objects_requireNonNull_1 hw) D2_2 1 rfl).pv
  replace k := k |>.castY (w_17 hw) (Ins.of_exa (pr1.ext k.old.2).exa (w_18 hw)) D2_5 |>.aloadN D2_8 rfl rfl |>.iconst D2_9 0 |>.aloadN D2_10 rfl rfl |>.alen pr2 D2_11 (z := 3) (by decide)
  have z2 := k.sz
  obtain ⟨h2, K2, ⟨b1_6_2, f2_0, f2_1, f2_2⟩, k⟩ := (k.callI (w_19 hw) (I4 hw) (R_String__init__44 hw pr10 pr11 pr3 pr2 pr4 pr5 pr6 pr7 pr8 pr9) D2_12 0 rfl).k0 (allS pr9 all0)
  have s_b1_6_2 := Nat.le_trans z2 f2_0
  exact k.ret0 D2_15 rfl ⟨rfl, K2, b1_6_2, s_b1_6_2, f2_1, f2_2⟩
theorem R_Utf8_decodeName_22 {a1 w_U8 : Addr} {p2 p3 p4 w_CS : Int32} (hw : HW a0 Z) (pr1 : TS_U8 Z w_U8) (pr2 : Ary Z h0 a1 ATB 3 (lv [.int p2, .int p3, .int p4])) (pr3 : ¬ (w_CS = 0)) (pr4 : p2 < 0) (pr5 : (p2 &&& 254) = 194) (pr6 : p3 < (-64)) (pr7 : ¬ (p4 < 0)) (pr8 : Obj Z Z.heap w_U8 L_UTF_8 []) (pr9 : TS_UI Z w_U8) (pr10 : TS_CS Z w_CS) : Mt false [] l Y1 C1 (rmk 4 3 9 69) #[.ref a1] Z a0 h0 n0 (KpV h0 [] fun v h => ∃ b1 b1_6_2_2 : Addr, v = (.ref b1) ∧ h0.size ≤ b1 ∧ h0.size ≤ b1_6_2_2 ∧ b1_6_2_2 ≠ b1 ∧ Obj Z h b1 L_String [.ref b1_6_2_2, .int 0] ∧ Ary Z h b1_6_2_2 ATB 2 (lv [.int (((((p2 <<< ((6 : Int32) &&& 31)) ^^^ p3) ^^^ 3968).toUInt32.toUInt16.toUInt32.toInt32).toInt8.toInt32), .int (p4.toInt8.toInt32)])) := by
  refine Mt.go PN1 (Or.inl rfl) ef_R_1 fun k => ?_
  have nz := k.n0le
  have z1 := k.sz
  obtain ⟨b1, h1, g1, K1, O1, k⟩ := k.new (w_5 hw) (nw_String hw) D1_0 (by decide) dvL_String
  replace k := k |>.dup D1_3 rfl |>.aloadN D1_4 rfl rfl |>.getS (fl_8 hw) pr1 D1_5
  have s_b1 := Nat.le_trans z1 g1
  have n_b1 := Nat.le_trans nz s_b1
  have o3 := pr2.keep K1 nin0
  have z2 := k.sz
  obtain ⟨h2, K2, ⟨b1_6_2_2, f2_0, f2_1, f2_2⟩, k⟩ := (k.callI (w_10 hw) (I2 hw) (R_String__init__43 hw pr8 o3 pr3 pr4 pr5 pr6 pr7 O1 n_b1 pr9 pr10) D1_8 1 rfl).k0 (allS n_b1 all0)
  have s_b1_6_2_2 := Nat.le_trans z2 f2_0
  exact k.retA D1_11 rfl ⟨_, rfl, (K1.trans K2 (allS (Or.inr s_b1) all0)), b1, b1_6_2_2, rfl, s_b1, s_b1_6_2_2, (nlt' O1.lt f2_0), f2_1, f2_2⟩
theorem own_d39 {p1 v0 v1 v2 v3 v4 v5 : Int32} (e0 : v0 = (p1 &&& 2147483647)) (e1 : v1 = (v0 % 1920)) (e2 : v2 = (128 + v1)) (e3 : v3 = (v2 >>> ((6 : Int32) &&& 31))) (e4 : v4 = ((192 ||| v3).toInt8.toInt32)) (e5 : v5 = (v4 &&& 254)) (q0 : v5 = 194) : v2 < 65536 := by
  have : (128 : Int32).toInt = 128 := by decide
  have := rng32 p1
  have : (2147483647 : Int32).toInt = 2147483647 := by decide
  have := e_mask e0 31 2147483648
  have : (1920 : Int32).toInt = 1920 := by decide
  have := e_iremN e1 1920 (by omega)
  have := e_iaddN e2 (by omega)
  have : (6 : Int32).toInt = 6 := by decide
  have := e_ishr e3 6 64
  have := e_hbN e4 6 64 192 (by omega)
  have : (254 : Int32).toInt = 254 := by decide
  have : v4.toInt % 256 = v4.toInt + 256 := by omega
  have := e_mask2 e5 1 7 256 2
  have : (194 : Int32).toInt = 194 := by decide
  have := i_eq q0
  have : (65536 : Int32).toInt = 65536 := by decide
  exact o_lt (by omega)
theorem own_d40 {p1 v0 v1 v2 v3 v4 v5 v6 v7 v8 v9 : Int32} (e0 : v0 = (p1 &&& 2147483647)) (e1 : v1 = (v0 % 1920)) (e2 : v2 = (128 + v1)) (e3 : v3 = (v2 >>> ((6 : Int32) &&& 31))) (e4 : v4 = ((192 ||| v3).toInt8.toInt32)) (e5 : v5 = (v4 &&& 254)) (e6 : v6 = (v2 &&& 63)) (e7 : v7 = ((((192 ||| v3).toInt8.toInt32 <<< ((6 : Int32) &&& 31)) ^^^ (128 ||| v6).toInt8.toInt32) ^^^ 3968)) (e8 : v8 = (v7.toUInt32.toUInt16.toUInt32.toInt32)) (e9 : v9 = ((v8.toInt8.toInt32 &&& 255).toUInt32.toUInt16.toUInt32.toInt32)) (q0 : v5 = 194) : v9 = v2 := by
  have : (128 : Int32).toInt = 128 := by decide
  have := rng32 p1
  have : (2147483647 : Int32).toInt = 2147483647 := by decide
  have := e_mask e0 31 2147483648
  have : (1920 : Int32).toInt = 1920 := by decide
  have := e_iremN e1 1920 (by omega)
  have := e_iaddN e2 (by omega)
  have : (6 : Int32).toInt = 6 := by decide
  have := e_ishr e3 6 64
  have := e_hbN e4 6 64 192 (by omega)
  have : (254 : Int32).toInt = 254 := by decide
  have : v4.toInt % 256 = v4.toInt + 256 := by omega
  have := e_mask2 e5 1 7 256 2
  have : (194 : Int32).toInt = 194 := by decide
  have := i_eq q0
  have : (63 : Int32).toInt = 63 := by decide
  have := e_mask e6 6 64
  have := e_dec2 e7 (by omega) (by omega) (by omega) (by omega)
  have := e_i2cN e8 (by omega)
  have := e_lat e9 (by omega) (by omega)
  exact o_eq (by omega)
theorem own_d41 {p2 v0 v1 v2 : Int32} (e0 : v0 = (p2 &&& 127)) (e1 : v1 = (v0.toInt8.toInt32)) (e2 : v2 = ((v1.toInt8.toInt32 &&& 255).toUInt32.toUInt16.toUInt32.toInt32)) : v2 = v0 := by
  have := rng32 p2
  have : (127 : Int32).toInt = 127 := by decide
  have := e_mask e0 7 128
  have := e_i2bN e1 (by omega)
  have := e_lat e2 (by omega) (by omega)
  exact o_eq (by omega)
theorem own_d42 {p1 v0 v1 v2 v3 v4 v5 : Int32} (e0 : v0 = (p1 &&& 2147483647)) (e1 : v1 = (v0 % 1920)) (e2 : v2 = (128 + v1)) (e3 : v3 = (v2 >>> ((6 : Int32) &&& 31))) (e4 : v4 = ((192 ||| v3).toInt8.toInt32)) (e5 : v5 = (v4 &&& 254)) (q0 : ¬ (v5 = 194)) : v4 < 0 := by
  have : (128 : Int32).toInt = 128 := by decide
  have := rng32 p1
  have : (2147483647 : Int32).toInt = 2147483647 := by decide
  have := e_mask e0 31 2147483648
  have : (1920 : Int32).toInt = 1920 := by decide
  have := e_iremN e1 1920 (by omega)
  have := e_iaddN e2 (by omega)
  have : (6 : Int32).toInt = 6 := by decide
  have := e_ishr e3 6 64
  have := e_hbN e4 6 64 192 (by omega)
  have : (254 : Int32).toInt = 254 := by decide
  have : v4.toInt % 256 = v4.toInt + 256 := by omega
  have := e_mask2 e5 1 7 256 2
  have : (194 : Int32).toInt = 194 := by decide
  have := i_neq q0
  have : (0 : Int32).toInt = 0 := by decide
  exact o_lt (by omega)
theorem ef_I_1_3   (m : MethodId) : entryFrame m #[(.int 3)] 1 = mkF m 0 #[.val (.int 3)] [] := by
  first | (simp [entryFrame, mkF, argsToLocals, Value.category]; done) | rfl
theorem R_StringUTF16_newBytesLength_2 (hw : HW a0 Z) : Mt false [] l Y8 C8 (rmk 0 0 0 0) #[.int 3] Z a0 h0 n0 (Pv h0 (.int 6)) := by
  refine Mt.go PN8 (Or.inl rfl) ef_I_1_3 fun k => ?_
  replace k := k |>.iloadN D8_0 rfl |>.ifYes D8_1 (by decide) |>.iloadN D8_12 rfl |>.ldcI (w_107 hw) D8_13 |>.icmpYes D8_15 (by decide) |>.iloadN D8_55 rfl |>.iconst D8_56 1 |>.ishl D8_57 (z := 6) (by decide)
  exact k.retI D8_58 rfl ⟨rfl, rfl⟩
theorem R_StringUTF16_newBytesFor_2 (hw : HW a0 Z) : Mt false [] l Y7 C7 (rmk 1 1 6 12) #[.int 3] Z a0 h0 n0 (KpV h0 [] fun v h => ∃ b2 : Addr, v = (.ref b2) ∧ h0.size ≤ b2 ∧ Ary Z h b2 ATB 6 (lv [.int 0, .int 0, .int 0, .int 0, .int 0, .int 0])) := by
  refine Mt.go PN7 (Or.inl rfl) ef_I_1_3 fun k => ?_
  replace k := k |>.iloadN D7_0 rfl
  replace k := (k.callS (w_104 hw) (S8 hw) (R_StringUTF16_newBytesLength_2 hw) D7_1 0 rfl).pv
  have z2 := k.sz
  obtain ⟨b2, h2, g2, K2, O2, k⟩ := k.newP (aty := .byte) "[B" (w_0 hw) (by decide) D7_4 6 (by decide) (n := 6) (by decide) (by decide) (by decide) (lv_const (V := [(.int 0), (.int 0), (.int 0), (.int 0), (.int 0), (.int 0)]) rfl)
  have s_b2 := Nat.le_trans z2 g2
  exact k.retA D7_6 rfl ⟨_, rfl, K2, b2, rfl, s_b2, O2⟩
theorem R_StringUTF16_length_3 {a1 : Addr} (hw : HW a0 Z) (pr1 : Ary Z h0 a1 ATB 6 (lv [.int 0, .int 0, .int 0, .int 0, .int 0, .int 0])) : Mt false [] l Y12 C12 (rmk 0 0 0 0) #[.ref a1] Z a0 h0 n0 (Pv h0 (.int 3)) := by
  refine Mt.go PN12 (Or.inl rfl) ef_R_1 fun k => ?_
  replace k := k |>.aloadN D12_0 rfl rfl |>.alen pr1 D12_1 (z := 6) (by decide) |>.iconst D12_2 1 |>.ishr D12_3 (z := 3) (by decide)
  exact k.retI D12_4 rfl ⟨rfl, rfl⟩
theorem ef_IIIV_4_0_0_3 {x3 : Value} (r3 : x3.isRef = true) (m : MethodId) : entryFrame m #[(.int 0), (.int 0), (.int 3), x3] 4 = mkF m 0 #[.val (.int 0), .val (.int 0), .val (.int 3), .val x3] [] := by
  rcases ref_cases r3 with rfl | ⟨_, rfl⟩
  all_goals
  first | (simp [entryFrame, mkF, argsToLocals, Value.category]; done) | rfl
theorem R_Preconditions_checkFromIndexSize_2 {w_SF : Value} (hw : HW a0 Z) (pr1 : w_SF.isRef = true) : Mt false [] l Y14 C14 (rmk 0 0 0 0) #[.int 0, .int 0, .int 3, w_SF] Z a0 h0 n0 (Pv h0 (.int 0)) := by
  refine Mt.go PN14 (Or.inl rfl) (ef_IIIV_4_0_0_3 pr1) fun k => ?_
  replace k := k |>.iloadN D14_0 rfl |>.iloadN D14_1 rfl |>.ior D14_2 (z := 3) (by decide) |>.iloadN D14_3 rfl |>.ior D14_4 (z := 3) (by decide) |>.ifNo D14_5 (by decide) |>.iloadN D14_8 rfl |>.iloadN D14_9 rfl |>.iloadN D14_10 rfl |>.isub D14_11 (z := 3) (by decide) |>.icmpYes D14_12 (by decide) |>.iloadN D14_23 rfl
  exact k.retI D14_24 rfl ⟨rfl, rfl⟩
theorem ef_III_3_0_0_3   (m : MethodId) : entryFrame m #[(.int 0), (.int 0), (.int 3)] 3 = mkF m 0 #[.val (.int 0), .val (.int 0), .val (.int 3)] [] := by
  first | (simp [entryFrame, mkF, argsToLocals, Value.category]; done) | rfl
theorem R_String_checkBoundsOffCount_2 {w_SF : Value} (hw : HW a0 Z) (pr1 : w_SF.isRef = true) (pr2 : TS_SF Z w_SF) : Mt false [] l Y13 C13 (rmk 1 0 0 15) #[.int 0, .int 0, .int 3] Z a0 h0 n0 (Pv h0 (.int 0)) := by
  refine Mt.go PN13 (Or.inl rfl) ef_III_3_0_0_3 fun k => ?_
  replace k := k |>.iloadN D13_0 rfl |>.iloadN D13_1 rfl |>.iloadN D13_2 rfl |>.getS (fl_94 hw) pr2 D13_3
  replace k := (k.callS (w_123 hw) (S14 hw) (R_Preconditions_checkFromIndexSize_2 hw pr1) D13_6 0 rfl).pv
  exact k.retI D13_9 rfl ⟨rfl, rfl⟩
theorem R_StringUTF16_checkBoundsOffCount_2 {a1 : Addr} {w_SF : Value} (hw : HW a0 Z) (pr1 : Ary Z h0 a1 ATB 6 (lv [.int 0, .int 0, .int 0, .int 0, .int 0, .int 0])) (pr2 : w_SF.isRef = true) (pr3 : TS_SF Z w_SF) : Mt false [] l Y11 C11 (rmk 2 0 0 29) #[.int 0, .int 0, .ref a1] Z a0 h0 n0 (P0 h0) := by
  refine Mt.go PN11 (Or.inl rfl) ef_IIR_3_0_0 fun k => ?_
  replace k := k |>.iloadN D11_0 rfl |>.iloadN D11_1 rfl |>.aloadN D11_2 rfl rfl
  replace k := (k.callS (w_117 hw) (S12 hw) (R_StringUTF16_length_3 hw pr1) D11_3 2 rfl).pv
  replace k := (k.callS (w_120 hw) (S13 hw) (R_String_checkBoundsOffCount_2 hw pr2 pr3) D11_6 0 rfl).pv
  replace k := k |>.pop D11_9 rfl
  exact k.ret0 D11_10 rfl ⟨rfl, rfl⟩
theorem R_StringUTF16_inflate_2 {a1 a2 : Addr} {w_SF : Value} (hw : HW a0 Z) (pr1 : Ary Z h0 a2 ATB 6 (lv [.int 0, .int 0, .int 0, .int 0, .int 0, .int 0])) (pr2 : w_SF.isRef = true) (pr3 : TS_SF Z w_SF) : Mt false [] l Y10 C10 (rmk 3 0 0 43) #[.ref a1, .int 0, .ref a2, .int 0, .int 0] Z a0 h0 n0 (P0 h0) := by
  refine Mt.go PN10 (Or.inl rfl) ef_RIRII_6_0_0_0 fun k => ?_
  replace k := k |>.iloadN D10_0 rfl |>.iload D10_1 rfl |>.aloadN D10_3 rfl rfl
  replace k := (k.callS (w_114 hw) (S11 hw) (R_StringUTF16_checkBoundsOffCount_2 hw pr1 pr2 pr3) D10_4 0 rfl).p0
  replace k := k |>.iconst D10_7 0 |>.istore D10_8 sto5 |>.iload D10_10 rfl |>.iload D10_12 rfl |>.icmpYes D10_14 (by decide)
  exact k.ret0 D10_41 rfl ⟨rfl, rfl⟩
theorem R_StringLatin1_inflate_2 {a1 a2 : Addr} {w_SF : Value} (hw : HW a0 Z) (pr1 : Ary Z h0 a2 ATB 6 (lv [.int 0, .int 0, .int 0, .int 0, .int 0, .int 0])) (pr2 : w_SF.isRef = true) (pr3 : TS_SF Z w_SF) : Mt false [] l Y9 C9 (rmk 4 0 0 60) #[.ref a1, .int 0, .ref a2, .int 0, .int 0] Z a0 h0 n0 (P0 h0) := by
  refine Mt.go PN9 (Or.inl rfl) ef_RIRII_5_0_0_0 fun k => ?_
  replace k := k |>.aloadN D9_0 rfl rfl |>.iloadN D9_1 rfl |>.aloadN D9_2 rfl rfl |>.iloadN D9_3 rfl |>.iload D9_4 rfl
  replace k := (k.callS (w_111 hw) (S10 hw) (R_StringUTF16_inflate_2 hw pr1 pr2 pr3) D9_6 0 rfl).p0
  exact k.ret0 D9_9 rfl ⟨rfl, rfl⟩
theorem own_d43 {p1 v0 v1 v2 v3 v4 v5 v6 : Int32} (e0 : v0 = (p1 &&& 2147483647)) (e1 : v1 = (v0 % 1920)) (e2 : v2 = (128 + v1)) (e3 : v3 = (v2 >>> ((6 : Int32) &&& 31))) (e4 : v4 = ((192 ||| v3).toInt8.toInt32)) (e5 : v5 = (v4 &&& 254)) (e6 : v6 = (v4 >>> ((5 : Int32) &&& 31))) (q0 : ¬ (v5 = 194)) : v6 = (-2) := by
  have : (128 : Int32).toInt = 128 := by decide
  have := rng32 p1
  have : (2147483647 : Int32).toInt = 2147483647 := by decide
  have := e_mask e0 31 2147483648
  have : (1920 : Int32).toInt = 1920 := by decide
  have := e_iremN e1 1920 (by omega)
  have := e_iaddN e2 (by omega)
  have : (6 : Int32).toInt = 6 := by decide
  have := e_ishr e3 6 64
  have := e_hbN e4 6 64 192 (by omega)
  have : (254 : Int32).toInt = 254 := by decide
  have : v4.toInt % 256 = v4.toInt + 256 := by omega
  have := e_mask2 e5 1 7 256 2
  have : (194 : Int32).toInt = 194 := by decide
  have := i_neq q0
  have : (5 : Int32).toInt = 5 := by decide
  have := e_ishr e6 5 32
  have : (-2 : Int32).toInt = -2 := by decide
  exact o_eq (by omega)
theorem own_d44 {p1 v0 v1 v2 v3 v4 v5 v6 : Int32} (e0 : v0 = (p1 &&& 2147483647)) (e1 : v1 = (v0 % 1920)) (e2 : v2 = (128 + v1)) (e3 : v3 = (v2 >>> ((6 : Int32) &&& 31))) (e4 : v4 = ((192 ||| v3).toInt8.toInt32)) (e5 : v5 = (v4 &&& 254)) (e6 : v6 = (v4 &&& 30)) (q0 : ¬ (v5 = 194)) : ¬ (v6 = 0) := by
  have : (128 : Int32).toInt = 128 := by decide
  have := rng32 p1
  have : (2147483647 : Int32).toInt = 2147483647 := by decide
  have := e_mask e0 31 2147483648
  have : (1920 : Int32).toInt = 1920 := by decide
  have := e_iremN e1 1920 (by omega)
  have := e_iaddN e2 (by omega)
  have : (6 : Int32).toInt = 6 := by decide
  have := e_ishr e3 6 64
  have := e_hbN e4 6 64 192 (by omega)
  have : (254 : Int32).toInt = 254 := by decide
  have : v4.toInt % 256 = v4.toInt + 256 := by omega
  have := e_mask2 e5 1 7 256 2
  have : (194 : Int32).toInt = 194 := by decide
  have := i_neq q0
  have : (30 : Int32).toInt = 30 := by decide
  have := e_mask2 e6 1 4 32 2
  have : (0 : Int32).toInt = 0 := by decide
  exact o_neq (by omega)
theorem own_d45 {p1 v0 v1 v2 v3 v4 v5 v6 v7 v8 : Int32} (e0 : v0 = (p1 &&& 2147483647)) (e1 : v1 = (v0 % 1920)) (e2 : v2 = (128 + v1)) (e3 : v3 = (v2 >>> ((6 : Int32) &&& 31))) (e4 : v4 = ((192 ||| v3).toInt8.toInt32)) (e5 : v5 = (v4 &&& 254)) (e6 : v6 = (v2 &&& 63)) (e7 : v7 = ((128 ||| v6).toInt8.toInt32)) (e8 : v8 = (v7 &&& 192)) (q0 : ¬ (v5 = 194)) : v8 = 128 := by
  have : (128 : Int32).toInt = 128 := by decide
  have := rng32 p1
  have : (2147483647 : Int32).toInt = 2147483647 := by decide
  have := e_mask e0 31 2147483648
  have : (1920 : Int32).toInt = 1920 := by decide
  have := e_iremN e1 1920 (by omega)
  have := e_iaddN e2 (by omega)
  have : (6 : Int32).toInt = 6 := by decide
  have := e_ishr e3 6 64
  have := e_hbN e4 6 64 192 (by omega)
  have : (254 : Int32).toInt = 254 := by decide
  have : v4.toInt % 256 = v4.toInt + 256 := by omega
  have := e_mask2 e5 1 7 256 2
  have : (194 : Int32).toInt = 194 := by decide
  have := i_neq q0
  have : (63 : Int32).toInt = 63 := by decide
  have := e_mask e6 6 64
  have := e_hbN e7 7 128 128 (by omega)
  have : (192 : Int32).toInt = 192 := by decide
  have : v7.toInt % 256 = v7.toInt + 256 := by omega
  have := e_mask2 e8 6 2 256 64
  exact o_eq (by omega)
theorem D16_15 : Dc J16 15 (.iconst 0) 1 16 := by decide +kernel
theorem R_String_isNotContinuation_2 {p1 : Int32} (hw : HW a0 Z) (pr1 : (p1 &&& 192) = 128) : Mt false [] l Y16 C16 (rmk 0 0 0 0) #[.int p1] Z a0 h0 n0 (Pv h0 (.int 0)) := by
  refine Mt.go PN16 (Or.inl rfl) ef_I_1 fun k => ?_
  replace k := k |>.iloadN D16_0 rfl |>.sipush D16_1 192 |>.iand D16_4 rfl |>.sipush D16_5 128 |>.icmpYes D16_8 (teq pr1).1 |>.iconst D16_15 0
  exact k.retN (t := .boolean) D16_16 rfl (by simp) (z' := 0) (by decide) ⟨rfl, rfl⟩
theorem D15_100 : Dc J15 100 (.aload_n 3) 1 101 := by decide +kernel
theorem D15_101 : Dc J15 101 (.iload 4) 2 103 := by decide +kernel
theorem D15_103 : Dc J15 103 (.iinc 4 1) 3 106 := by decide +kernel
theorem D15_106 : Dc J15 106 (.iload 6) 2 108 := by decide +kernel
theorem D15_108 : Dc J15 108 (.iload 7) 2 110 := by decide +kernel
theorem D15_110 : Dc J15 110 (.invokestatic 98) 3 113 := by decide +kernel
theorem D15_113 : Dc J15 113 (.invokestatic 64) 3 116 := by decide +kernel
theorem ef_RII_3_0 {x0 : Addr} {x2 : Int32}  (m : MethodId) : entryFrame m #[(.ref x0), (.int 0), (.int x2)] 3 = mkF m 0 #[.val (.ref x0), .val (.int 0), .val (.int x2)] [] := by
  first | (simp [entryFrame, mkF, argsToLocals, Value.category]; done) | rfl
theorem R_StringUTF16_putChar_3 {a1 : Addr} {p2 : Int32} (hw : HW a0 Z) (pr1 : TS_AD Z) (pr2 : TS_HI Z) (pr3 : Ary Z h0 a1 ATB 6 (lv [.int 0, .int 0, .int 0, .int 0, .int 0, .int 0])) (pr4 : n0 ≤ a1) (pr5 : TS_LO Z) : Mt false [] l Y17 C17 (rmk 0 0 0 0) #[.ref a1, .int 0, .int p2] Z a0 h0 n0 (K0 h0 [a1] fun h => Ary Z h a1 ATB 6 (lv [.int ((p2 >>> ((0 : Int32) &&& 31)).toInt8.toInt32), .int ((p2 >>> ((8 : Int32) &&& 31)).toInt8.toInt32), .int 0, .int 0, .int 0, .int 0])) := by
  refine Mt.go PN17 (Or.inl rfl) ef_RII_3_0 fun k => ?_
  replace k := k |>.getS (fl_149 hw) pr1 D17_0 |>.ifYes D17_3 (by decide) |>.iloadN D17_28 rfl |>.iconst D17_29 1 |>.ishl D17_30 (z := 0) (by decide) |>.istoreN D17_31 sto1 |>.aloadN D17_32 rfl rfl |>.iloadN D17_33 rfl |>.iinc D17_34 rfl (z := 1) (by decide) sto1 |>.iloadN D17_37 rfl |>.getS (fl_150 hw) pr2 D17_38 |>.ishr D17_41 rfl
  replace k := k |>.i2b D17_42 rfl
  obtain ⟨h1, K1, O1, k⟩ := k.stB pr3 pr4 (Or.inl rfl) D17_43 (i := 0) (by decide) (v := (.int ((p2 >>> ((0 : Int32) &&& 31)).toInt8.toInt32))) (congrArg Value.int (own_nnBi2b _)) (own_fitBi2b _) lvs0
  replace k := k |>.aloadN D17_44 rfl rfl |>.iloadN D17_45 rfl |>.iloadN D17_46 rfl |>.getS (fl_151 hw) pr5 D17_47 |>.ishr D17_50 rfl |>.i2b D17_51 rfl
  obtain ⟨h2, K2, O2, k⟩ := k.stB O1 pr4 (Or.inl rfl) D17_52 (i := 1) (by decide) (v := (.int ((p2 >>> ((8 : Int32) &&& 31)).toInt8.toInt32))) (congrArg Value.int (own_nnBi2b _)) (own_fitBi2b _) lvs1
  exact k.ret0 D17_53 rfl ⟨rfl, (K1.trans K2 (allS (Or.inl (List.mem_of_getElem? (i := 0) rfl)) all0)), O2⟩
theorem D15_116 : Dj J15 116 (.goto (-116)) (-116) 119 0 := by decide +kernel
theorem R_StringUTF16_putChar_4 {a1 : Addr} {p2 p3 p4 : Int32} (hw : HW a0 Z) (pr1 : TS_AD Z) (pr2 : TS_HI Z) (pr3 : Ary Z h0 a1 ATB 6 (lv [.int p3, .int p4, .int 0, .int 0, .int 0, .int 0])) (pr4 : n0 ≤ a1) (pr5 : TS_LO Z) : Mt false [] l Y17 C17 (rmk 0 0 0 0) #[.ref a1, .int 1, .int p2] Z a0 h0 n0 (K0 h0 [a1] fun h => Ary Z h a1 ATB 6 (lv [.int p3, .int p4, .int ((p2 >>> ((0 : Int32) &&& 31)).toInt8.toInt32), .int ((p2 >>> ((8 : Int32) &&& 31)).toInt8.toInt32), .int 0, .int 0])) := by
  refine Mt.go PN17 (Or.inl rfl) ef_RII_3_1 fun k => ?_
  replace k := k |>.getS (fl_149 hw) pr1 D17_0 |>.ifYes D17_3 (by decide) |>.iloadN D17_28 rfl |>.iconst D17_29 1 |>.ishl D17_30 (z := 2) (by decide) |>.istoreN D17_31 sto1 |>.aloadN D17_32 rfl rfl |>.iloadN D17_33 rfl |>.iinc D17_34 rfl (z := 3) (by decide) sto1 |>.iloadN D17_37 rfl |>.getS (fl_150 hw) pr2 D17_38 |>.ishr D17_41 rfl
  replace k := k |>.i2b D17_42 rfl
  obtain ⟨h1, K1, O1, k⟩ := k.stB pr3 pr4 (Or.inl rfl) D17_43 (i := 2) (by decide) (v := (.int ((p2 >>> ((0 : Int32) &&& 31)).toInt8.toInt32))) (congrArg Value.int (own_nnBi2b _)) (own_fitBi2b _) lvs2
  replace k := k |>.aloadN D17_44 rfl rfl |>.iloadN D17_45 rfl |>.iloadN D17_46 rfl |>.getS (fl_151 hw) pr5 D17_47 |>.ishr D17_50 rfl |>.i2b D17_51 rfl
  obtain ⟨h2, K2, O2, k⟩ := k.stB O1 pr4 (Or.inl rfl) D17_52 (i := 3) (by decide) (v := (.int ((p2 >>> ((8 : Int32) &&& 31)).toInt8.toInt32))) (congrArg Value.int (own_nnBi2b _)) (own_fitBi2b _) lvs3
  exact k.ret0 D17_53 rfl ⟨rfl, (K1.trans K2 (allS (Or.inl (List.mem_of_getElem? (i := 0) rfl)) all0)), O2⟩
theorem ef_RIIRII_11_0_3_0_1 {x0 : Addr} {x3 : Addr}  (m : MethodId) : entryFrame m #[(.ref x0), (.int 0), (.int 3), (.ref x3), (.int 0), (.int 1)] 11 = mkF m 0 #[.val (.ref x0), .val (.int 0), .val (.int 3), .val (.ref x3), .val (.int 0), .val (.int 1), .unset, .unset, .unset, .unset, .unset] [] := by
  first | (simp [entryFrame, mkF, argsToLocals, Value.category]; done) | rfl
theorem R_String_decodeUTF8_UTF16_18 {a1 a2 : Addr} {p3 p4 p5 : Int32} (hw : HW a0 Z) (pr1 : Ary Z h0 a1 ATB 3 (lv [.int p3, .int p4, .int p5])) (pr2 : p3 < 0) (pr3 : (p3 >>> ((5 : Int32) &&& 31)) = (-2)) (pr4 : ¬ ((p3 &&& 30) = 0)) (pr5 : (p4 &&& 192) = 128) (pr6 : Ary Z h0 a2 ATB 6 (lv [.int 0, .int 0, .int 0, .int 0, .int 0, .int 0])) (pr7 : n0 ≤ a2) (pr8 : TS_AD Z) (pr9 : TS_HI Z) (pr10 : TS_LO Z) (pr11 : a1 ≠ a2) (pr12 : ¬ (p5 < 0)) : Mt false [] l Y15 C15 (rmk 1 0 0 15) #[.ref a1, .int 0, .int 3, .ref a2, .int 0, .int 1] Z a0 h0 n0 (KpV h0 [a2] fun v h => v = (.int 2) ∧ Ary Z h a2 ATB 6 (lv [.int ((((((p3 <<< ((6 : Int32) &&& 31)) ^^^ p4) ^^^ 3968).toUInt32.toUInt16.toUInt32.toInt32) >>> ((0 : Int32) &&& 31)).toInt8.toInt32), .int ((((((p3 <<< ((6 : Int32) &&& 31)) ^^^ p4) ^^^ 3968).toUInt32.toUInt16.toUInt32.toInt32) >>> ((8 : Int32) &&& 31)).toInt8.toInt32), .int (((p5.toUInt32.toUInt16.toUInt32.toInt32) >>> ((0 : Int32) &&& 31)).toInt8.toInt32), .int (((p5.toUInt32.toUInt16.toUInt32.toInt32) >>> ((8 : Int32) &&& 31)).toInt8.toInt32), .int 0, .int 0])) := by
  refine Mt.go PN15 (Or.inl rfl) ef_RIIRII_11_0_3_0_1 fun k => ?_
  replace k := k |>.iloadN D15_0 rfl |>.iloadN D15_1 rfl |>.icmpNo D15_2 (by decide) |>.aloadN D15_5 rfl rfl |>.iloadN D15_6 rfl |>.iinc D15_7 rfl (z := 1) (by decide) sto1 |>.bald pr1 D15_10 (i := 0) (by decide) lvg0 |>.istore D15_11 sto6 |>.iload D15_13 rfl |>.ifYes D15_15 ((if0 _ _).trans (tlt pr2).1) |>.iload D15_33 rfl |>.iconst D15_35 5
  replace k := k |>.ishr D15_36 rfl |>.bipush D15_37 (-2) |>.icmpNo D15_39 (teq pr3).2 |>.iload D15_42 rfl |>.bipush D15_44 30 |>.iand D15_46 rfl |>.ifNo D15_47 ((if0 _ _).trans (feq pr4).1) |>.iloadN D15_50 rfl |>.iloadN D15_51 rfl |>.icmpNo D15_52 (by decide) |>.aloadN D15_55 rfl rfl |>.iloadN D15_56 rfl
  replace k := k |>.iinc D15_57 rfl (z := 2) (by decide) sto1 |>.bald pr1 D15_60 (i := 1) (by decide) lvg1 |>.istore D15_61 sto7 |>.iload D15_63 rfl
  replace k := (k.callS (w_187 hw) (S16 hw) (R_String_isNotContinuation_2 hw pr5) D15_65 0 rfl).pv
  replace k := k |>.ifYes D15_68 (by decide) |>.aloadN D15_100 rfl rfl |>.iload D15_101 rfl |>.iinc D15_103 rfl (z := 1) (by decide) sto4 |>.iload D15_106 rfl |>.iload D15_108 rfl
  replace k := (k.callS (w_190 hw) (S32 hw) (R_String_decode2_1 hw) D15_110 2 rfl).pv
  obtain ⟨h3, K3, f3_0, k⟩ := (k.callS (w_146 hw) (S17 hw) (R_StringUTF16_putChar_3 hw pr8 pr9 pr6 pr7 pr10) D15_113 0 rfl).k0 (allS pr7 all0)
  replace k := k |>.goto D15_116 |>.iloadN D15_0 rfl |>.iloadN D15_1 rfl |>.icmpNo D15_2 (by decide) |>.aloadN D15_5 rfl rfl |>.iloadN D15_6 rfl |>.iinc D15_7 rfl (z := 3) (by decide) sto1
  have o4 := pr1.keep K3 (ninS pr11 nin0)
  replace k := k |>.bald o4 D15_10 (i := 2) (by decide) lvg2 |>.istore D15_11 sto6 |>.iload D15_13 rfl |>.ifNo D15_15 ((if0 _ _).trans (flt pr12).1) |>.aloadN D15_18 rfl rfl |>.iload D15_19 rfl |>.iinc D15_21 rfl (z := 2) (by decide) sto4 |>.iload D15_24 rfl |>.i2c D15_26 rfl
  obtain ⟨h5, K5, f5_0, k⟩ := (k.callS (w_146 hw) (S17 hw) (R_StringUTF16_putChar_4 hw pr8 pr9 f3_0 pr7 pr10) D15_27 0 rfl).k0 (allS pr7 all0)
  replace k := k |>.goto D15_30 |>.goto D15_618 |>.iloadN D15_0 rfl |>.iloadN D15_1 rfl |>.icmpYes D15_2 (by decide) |>.iload D15_621 rfl
  exact k.retI D15_623 rfl ⟨_, rfl, (K3.trans K5 (allS (Or.inl (List.mem_of_getElem? (i := 0) rfl)) all0)), rfl, f5_0⟩
theorem D4_267 : Dc J4 267 (.aload 8) 2 269 := by decide +kernel
theorem D4_269 : Dc J4 269 (.iload 5) 2 271 := by decide +kernel
theorem D4_271 : Dc J4 271 (.iconst 1) 1 272 := by decide +kernel
theorem D4_272 : Dc J4 272 .ishl 1 273 := by decide +kernel
theorem D4_273 : Dc J4 273 (.invokestatic 102) 3 276 := by decide +kernel
theorem ef_II_2_6_4   (m : MethodId) : entryFrame m #[(.int 6), (.int 4)] 2 = mkF m 0 #[.val (.int 6), .val (.int 4)] [] := by
  first | (simp [entryFrame, mkF, argsToLocals, Value.category]; done) | rfl
theorem R_Math_min_2 (hw : HW a0 Z) : Mt false [] l Y34 C34 (rmk 0 0 0 0) #[.int 6, .int 4] Z a0 h0 n0 (Pv h0 (.int 4)) := by
  refine Mt.go PN34 (Or.inl rfl) ef_II_2_6_4 fun k => ?_
  replace k := k |>.iloadN D34_0 rfl |>.iloadN D34_1 rfl |>.icmpYes D34_2 (by decide) |>.iloadN D34_9 rfl
  exact k.retI D34_10 rfl ⟨rfl, rfl⟩
theorem ef_RI_3_4 {x0 : Addr}  (m : MethodId) : entryFrame m #[(.ref x0), (.int 4)] 3 = mkF m 0 #[.val (.ref x0), .val (.int 4), .unset] [] := by
  first | (simp [entryFrame, mkF, argsToLocals, Value.category]; done) | rfl
theorem R_Arrays_copyOf_2 {a1 : Addr} {p2 p3 p4 p5 : Int32} (hw : HW a0 Z) (pr1 : Ary Z h0 a1 ATB 6 (lv [.int p2, .int p3, .int p4, .int p5, .int 0, .int 0])) : Mt false [] l Y33 C33 (rmk 1 1 4 18) #[.ref a1, .int 4] Z a0 h0 n0 (KpV h0 [] fun v h => ∃ b1 : Addr, v = (.ref b1) ∧ h0.size ≤ b1 ∧ Ary Z h b1 ATB 4 (lv [.int p2, .int p3, .int p4, .int p5])) := by
  refine Mt.go PN33 (Or.inl rfl) ef_RI_3_4 fun k => ?_
  have nz := k.n0le
  replace k := k |>.iloadN D33_0 rfl |>.aloadN D33_1 rfl rfl |>.alen pr1 D33_2 (z := 6) (by decide) |>.icmpYes D33_3 (by decide) |>.iloadN D33_14 rfl
  have z1 := k.sz
  obtain ⟨b1, h1, g1, K1, O1, k⟩ := k.newP (aty := .byte) "[B" (w_0 hw) (by decide) D33_15 4 (by decide) (n := 4) (by decide) (by decide) (by decide) (lv_const (V := [(.int 0), (.int 0), (.int 0), (.int 0)]) rfl)
  replace k := k |>.astoreN D33_17 rfl sto2 |>.aloadN D33_18 rfl rfl |>.iconst D33_19 0 |>.aloadN D33_20 rfl rfl |>.iconst D33_21 0 |>.aloadN D33_22 rfl rfl
  have o2 := pr1.keep K1 nin0
  replace k := k |>.alen o2 D33_23 (z := 6) (by decide) |>.iloadN D33_24 rfl
  replace k := (k.callS (w_159 hw) (S34 hw) (R_Math_min_2 hw) D33_25 4 rfl).pv
  have s_b1 := Nat.le_trans z1 g1
  have n_b1 := Nat.le_trans nz s_b1
  obtain ⟨h4, K4, O4, k⟩ := k.acopy (w_163 hw) (w_166 hw) (w_164 hw) (w_165 hw) o2 O1 ⟨rfl, rfl⟩ (sp' := 0) (by decide) (dp' := 0) (by decide) (nn' := 4) (by decide) (by decide) (by decide) (lv_cpy (V' := [.int p2, .int p3, .int p4, .int p5]) rfl rfl) n_b1 D33_28 0
  replace k := k |>.aloadN D33_31 rfl rfl
  exact k.retA D33_32 rfl ⟨_, rfl, (K1.trans K4 (allS (Or.inr s_b1) all0)), b1, rfl, s_b1, O4⟩
theorem D4_276 : Dc J4 276 (.astore 8) 2 278 := by decide +kernel
theorem R_String__init__46 {a1 w_U8 a2 : Addr} {w_CS p3 p4 p5 : Int32} {w_SF : Value} (hw : HW a0 Z) (pr1 : TS_UI Z w_U8) (pr2 : TS_CS Z w_CS) (pr3 : ¬ (w_CS = 0)) (pr4 : Ary Z h0 a2 ATB 3 (lv [.int p3, .int p4, .int p5])) (pr5 : p3 < 0) (pr6 : ¬ ((p3 &&& 254) = 194)) (pr7 : w_SF.isRef = true) (pr8 : TS_SF Z w_SF) (pr9 : (p3 >>> ((5 : Int32) &&& 31)) = (-2)) (pr10 : ¬ ((p3 &&& 30) = 0)) (pr11 : (p4 &&& 192) = 128) (pr12 : ¬ (p5 < 0)) (pr13 : TS_AD Z) (pr14 : TS_HI Z) (pr15 : TS_LO Z) (pr16 : Obj Z h0 a1 L_String [.null, .int 0]) (pr17 : n0 ≤ a1) : Mt false [] l Y4 C4 (rmk 5 3 13 76) #[.ref a1, .ref w_U8, .ref a2, .int 0, .int 3] Z a0 h0 n0 (K0 h0 [a1] fun h => ∃ b1_7 : Addr, h0.size ≤ b1_7 ∧ Obj Z h a1 L_String [.ref b1_7, .int 1] ∧ Ary Z h b1_7 ATB 4 (lv [.int ((((((p3 <<< ((6 : Int32) &&& 31)) ^^^ p4) ^^^ 3968).toUInt32.toUInt16.toUInt32.toInt32) >>> ((0 : Int32) &&& 31)).toInt8.toInt32), .int ((((((p3 <<< ((6 : Int32) &&& 31)) ^^^ p4) ^^^ 3968).toUInt32.toUInt16.toUInt32.toInt32) >>> ((8 : Int32) &&& 31)).toInt8.toInt32), .int (((p5.toUInt32.toUInt16.toUInt32.toInt32) >>> ((0 : Int32) &&& 31)).toInt8.toInt32), .int (((p5.toUInt32.toUInt16.toUInt32.toInt32) >>> ((8 : Int32) &&& 31)).toInt8.toInt32)])) := by
  refine Mt.go PN4 (Or.inr ⟨_, rfl⟩) ef_RRRII_11_0_3 fun k => ?_
  have nz := k.n0le
  replace k := k |>.aloadN D4_0 rfl rfl |>.initO (w_23 hw) (w_24 hw) (w_25 hw) D4_1 0 |>.iload D4_4 rfl |>.ifYes D4_6 (by decide) |>.aloadN D4_30 rfl rfl |>.getS (fl_46 hw) pr1 D4_31 |>.acmpNo D4_34 rfl rfl true (decide_eq_true rfl) (by decide) |>.getS (fl_48 hw) pr2 D4_37 |>.ifNo D4_40 ((if0 _ _).trans (feq pr3).1) |>.aloadN D4_43 rfl rfl |>.iloadN D4_44 rfl |>.iload D4_45 rfl
  replace k := (k.callS (w_49 hw) (S5 hw) (R_StringCoding_countPositives_3 hw pr4 pr5) D4_47 0 rfl).pv
  replace k := k |>.istore D4_50 sto5 |>.iload D4_52 rfl |>.iload D4_54 rfl |>.icmpYes D4_56 (by decide) |>.aloadN D4_78 rfl rfl |>.iloadN D4_79 rfl |>.iloadN D4_80 rfl |>.iload D4_81 rfl |>.iadd D4_83 (z := 3) (by decide)
  have z2 := k.sz
  obtain ⟨_, h2, K2, ⟨b1_2, rfl, f2_0, f2_1⟩, k⟩ := (k.callS (w_53 hw) (S6 hw) (R_Arrays_copyOfRange_2 hw pr4) D4_84 0 rfl).kv
  replace k := k |>.astore D4_87 rfl sto6 |>.iload D4_89 rfl |>.istore D4_91 sto7 |>.iload D4_93 rfl |>.iload D4_95 rfl |>.icmpNo D4_97 (by decide) |>.aload D4_100 rfl rfl |>.iload D4_102 rfl |>.iinc D4_104 rfl (z := 1) (by decide) sto7 |>.bald f2_1 D4_107 (i := 0) (by decide) lvg0 |>.istore D4_108 sto8 |>.iload D4_110 rfl
  replace k := k |>.ifYes D4_112 ((if0 _ _).trans (tlt pr5).1) |>.iload D4_129 rfl |>.sipush D4_131 254 |>.iand D4_134 rfl |>.sipush D4_135 194 |>.icmpYes D4_138 (feq pr6).2 |>.iinc D4_184 rfl (z := 0) (by decide) sto7 |>.goto D4_187 |>.iload D4_190 rfl |>.iload D4_192 rfl |>.icmpYes D4_194 (by decide) |>.iload D4_226 rfl
  have z3 := k.sz
  obtain ⟨_, h3, K3, ⟨b2_3, rfl, f3_0, f3_1⟩, k⟩ := (k.callS (w_100 hw) (S7 hw) (R_StringUTF16_newBytesFor_2 hw) D4_228 0 rfl).kv
  replace k := k |>.astore D4_231 rfl sto8 |>.aload D4_233 rfl rfl |>.iconst D4_235 0 |>.aload D4_236 rfl rfl |>.iconst D4_238 0 |>.iload D4_239 rfl
  replace k := (k.callS (w_108 hw) (S9 hw) (R_StringLatin1_inflate_2 hw f3_1 pr7 pr8) D4_241 0 rfl).p0
  replace k := k |>.aload D4_244 rfl rfl |>.iload D4_246 rfl |>.iload D4_248 rfl |>.aload D4_250 rfl rfl |>.iload D4_252 rfl |>.iconst D4_254 1
  have s_b2_3 := Nat.le_trans z3 f3_0
  have n_b2_3 := Nat.le_trans nz s_b2_3
  have o6 := f2_1.keep K3 nin0
  obtain ⟨_, h5, K5, ⟨rfl, f5_0⟩, k⟩ := (k.callS (w_126 hw) (S15 hw) (R_String_decodeUTF8_UTF16_18 hw o6 pr5 pr9 pr10 pr11 f3_1 n_b2_3 pr13 pr14 pr15 (nlt f2_1.lt f3_0) pr12) D4_255 0 rfl).kv (allS n_b2_3 all0)
  replace k := k |>.istore D4_258 sto5 |>.iload D4_260 rfl |>.iload D4_262 rfl |>.icmpNo D4_264 (by decide) |>.aload D4_267 rfl rfl |>.iload D4_269 rfl |>.iconst D4_271 1 |>.ishl D4_272 (z := 4) (by decide)
  have z7 := k.sz
  obtain ⟨_, h7, K7, ⟨b1_7, rfl, f7_0, f7_1⟩, k⟩ := (k.callS (w_156 hw) (S33 hw) (R_Arrays_copyOf_2 hw f5_0) D4_273 0 rfl).kv
  replace k := k |>.astore D4_276 rfl sto8 |>.aloadN D4_278 rfl rfl |>.aload D4_279 rfl rfl
  have o8 := (((pr16.keep K2 nin0).keep K3 nin0).keep K5 (ninS (nlt pr16.lt s_b2_3) nin0)).keep K7 nin0
  obtain ⟨h9, K9, O9, k⟩ := k.putF (fl_31 hw) (pw_String_i_String_value hw) o8 0 pr17 (Or.inl rfl) D4_281 rfl rfl rfl ls0
  replace k := k |>.aloadN D4_284 rfl rfl |>.iconst D4_285 1
  obtain ⟨h10, K10, O10, k⟩ := k.putN (fp_32 hw) (pw_String_i_String_coder hw) O9 1 pr17 (Or.inl rfl) D4_286 rfl (v' := (.int 1)) (by decide) (by decide) ls1
  replace k := k |>.goto D4_289
  have s_b1_7 := Nat.le_trans z7 f7_0
  have o11 := (f7_1.keep K9 (ninS (nlt' pr16.lt s_b1_7) nin0)).keep K10 (ninS (nlt' pr16.lt s_b1_7) nin0)
  exact k.ret0 D4_879 rfl ⟨rfl, (((((((Keep.refl h0 [a1]).trans K2 all0).trans K3 all0).trans K5 (allS (Or.inr s_b2_3) all0)).trans K7 all0).trans K9 (allS (Or.inl (List.mem_of_getElem? (i := 0) rfl)) all0)).trans K10 (allS (Or.inl (List.mem_of_getElem? (i := 0) rfl)) all0)), b1_7, s_b1_7, O10, o11⟩
theorem R_String__init__45 {a1 a2 w_U8 : Addr} {p3 p4 p5 w_CS : Int32} {w_SF : Value} (hw : HW a0 Z) (pr1 : Obj Z Z.heap w_U8 L_UTF_8 []) (pr2 : Ary Z h0 a2 ATB 3 (lv [.int p3, .int p4, .int p5])) (pr3 : ¬ (w_CS = 0)) (pr4 : p3 < 0) (pr5 : ¬ ((p3 &&& 254) = 194)) (pr6 : (p3 >>> ((5 : Int32) &&& 31)) = (-2)) (pr7 : ¬ ((p3 &&& 30) = 0)) (pr8 : (p4 &&& 192) = 128) (pr9 : ¬ (p5 < 0)) (pr10 : Obj Z h0 a1 L_String [.null, .int 0]) (pr11 : n0 ≤ a1) (pr12 : w_SF.isRef = true) (pr13 : TS_UI Z w_U8) (pr14 : TS_CS Z w_CS) (pr15 : TS_SF Z w_SF) (pr16 : TS_AD Z) (pr17 : TS_HI Z) (pr18 : TS_LO Z) : Mt false [] l Y2 C2 (rmk 6 3 13 98) #[.ref a1, .ref a2, .ref w_U8] Z a0 h0 n0 (K0 h0 [a1] fun h => ∃ b1_7_2 : Addr, h0.size ≤ b1_7_2 ∧ Obj Z h a1 L_String [.ref b1_7_2, .int 1] ∧ Ary Z h b1_7_2 ATB 4 (lv [.int ((((((p3 <<< ((6 : Int32) &&& 31)) ^^^ p4) ^^^ 3968).toUInt32.toUInt16.toUInt32.toInt32) >>> ((0 : Int32) &&& 31)).toInt8.toInt32), .int ((((((p3 <<< ((6 : Int32) &&& 31)) ^^^ p4) ^^^ 3968).toUInt32.toUInt16.toUInt32.toInt32) >>> ((8 : Int32) &&& 31)).toInt8.toInt32), .int (((p5.toUInt32.toUInt16.toUInt32.toInt32) >>> ((0 : Int32) &&& 31)).toInt8.toInt32), .int (((p5.toUInt32.toUInt16.toUInt32.toInt32) >>> ((8 : Int32) &&& 31)).toInt8.toInt32)])) := by
  refine Mt.go PN2 (Or.inl rfl) ef_RRR_3 fun k => ?_
  replace k := k |>.aloadN D2_0 rfl rfl |>.aloadN D2_1 rfl rfl
  replace k := (k.callS (w_13 hw) (S3 hw) (R_Objects_requireNonNull_1 hw) D2_2 1 rfl).pv
  replace k := k |>.castY (w_17 hw) (Ins.of_exa (pr1.ext k.old.2).exa (w_18 hw)) D2_5 |>.aloadN D2_8 rfl rfl |>.iconst D2_9 0 |>.aloadN D2_10 rfl rfl |>.alen pr2 D2_11 (z := 3) (by decide)
  have z2 := k.sz
  obtain ⟨h2, K2, ⟨b1_7_2, f2_0, f2_1, f2_2⟩, k⟩ := (k.callI (w_19 hw) (I4 hw) (R_String__init__46 hw pr13 pr14 pr3 pr2 pr4 pr5 pr12 pr15 pr6 pr7 pr8 pr9 pr16 pr17 pr18 pr10 pr11) D2_12 0 rfl).k0 (allS pr11 all0)
  have s_b1_7_2 := Nat.le_trans z2 f2_0
  exact k.ret0 D2_15 rfl ⟨rfl, K2, b1_7_2, s_b1_7_2, f2_1, f2_2⟩
theorem R_Utf8_decodeName_23 {a1 w_U8 : Addr} {p2 p3 p4 w_CS : Int32} {w_SF : Value} (hw : HW a0 Z) (pr1 : TS_U8 Z w_U8) (pr2 : Ary Z h0 a1 ATB 3 (lv [.int p2, .int p3, .int p4])) (pr3 : ¬ (w_CS = 0)) (pr4 : p2 < 0) (pr5 : ¬ ((p2 &&& 254) = 194)) (pr6 : (p2 >>> ((5 : Int32) &&& 31)) = (-2)) (pr7 : ¬ ((p2 &&& 30) = 0)) (pr8 : (p3 &&& 192) = 128) (pr9 : ¬ (p4 < 0)) (pr10 : w_SF.isRef = true) (pr11 : Obj Z Z.heap w_U8 L_UTF_8 []) (pr12 : TS_UI Z w_U8) (pr13 : TS_CS Z w_CS) (pr14 : TS_SF Z w_SF) (pr15 : TS_AD Z) (pr16 : TS_HI Z) (pr17 : TS_LO Z) : Mt false [] l Y1 C1 (rmk 7 4 17 113) #[.ref a1] Z a0 h0 n0 (KpV h0 [] fun v h => ∃ b1 b1_7_2_2 : Addr, v = (.ref b1) ∧ h0.size ≤ b1 ∧ h0.size ≤ b1_7_2_2 ∧ b1_7_2_2 ≠ b1 ∧ Obj Z h b1 L_String [.ref b1_7_2_2, .int 1] ∧ Ary Z h b1_7_2_2 ATB 4 (lv [.int ((((((p2 <<< ((6 : Int32) &&& 31)) ^^^ p3) ^^^ 3968).toUInt32.toUInt16.toUInt32.toInt32) >>> ((0 : Int32) &&& 31)).toInt8.toInt32), .int ((((((p2 <<< ((6 : Int32) &&& 31)) ^^^ p3) ^^^ 3968).toUInt32.toUInt16.toUInt32.toInt32) >>> ((8 : Int32) &&& 31)).toInt8.toInt32), .int (((p4.toUInt32.toUInt16.toUInt32.toInt32) >>> ((0 : Int32) &&& 31)).toInt8.toInt32), .int (((p4.toUInt32.toUInt16.toUInt32.toInt32) >>> ((8 : Int32) &&& 31)).toInt8.toInt32)])) := by
  refine Mt.go PN1 (Or.inl rfl) ef_R_1 fun k => ?_
  have nz := k.n0le
  have z1 := k.sz
  obtain ⟨b1, h1, g1, K1, O1, k⟩ := k.new (w_5 hw) (nw_String hw) D1_0 (by decide) dvL_String
  replace k := k |>.dup D1_3 rfl |>.aloadN D1_4 rfl rfl |>.getS (fl_8 hw) pr1 D1_5
  have s_b1 := Nat.le_trans z1 g1
  have n_b1 := Nat.le_trans nz s_b1
  have o3 := pr2.keep K1 nin0
  have z2 := k.sz
  obtain ⟨h2, K2, ⟨b1_7_2_2, f2_0, f2_1, f2_2⟩, k⟩ := (k.callI (w_10 hw) (I2 hw) (R_String__init__45 hw pr11 o3 pr3 pr4 pr5 pr6 pr7 pr8 pr9 O1 n_b1 pr10 pr12 pr13 pr14 pr15 pr16 pr17) D1_8 1 rfl).k0 (allS n_b1 all0)
  have s_b1_7_2_2 := Nat.le_trans z2 f2_0
  exact k.retA D1_11 rfl ⟨_, rfl, (K1.trans K2 (allS (Or.inr s_b1) all0)), b1, b1_7_2_2, rfl, s_b1, s_b1_7_2_2, (nlt' O1.lt f2_0), f2_1, f2_2⟩
theorem own_d46 {p1 v0 v1 v2 v3 v4 v5 : Int32} (e0 : v0 = (p1 &&& 2147483647)) (e1 : v1 = (v0 % 1920)) (e2 : v2 = (128 + v1)) (e3 : v3 = (v2 >>> ((6 : Int32) &&& 31))) (e4 : v4 = ((192 ||| v3).toInt8.toInt32)) (e5 : v5 = (v4 &&& 254)) (q0 : ¬ (v5 = 194)) : v2 < 65536 := by
  have : (128 : Int32).toInt = 128 := by decide
  have := rng32 p1
  have : (2147483647 : Int32).toInt = 2147483647 := by decide
  have := e_mask e0 31 2147483648
  have : (1920 : Int32).toInt = 1920 := by decide
  have := e_iremN e1 1920 (by omega)
  have := e_iaddN e2 (by omega)
  have : (6 : Int32).toInt = 6 := by decide
  have := e_ishr e3 6 64
  have := e_hbN e4 6 64 192 (by omega)
  have : (254 : Int32).toInt = 254 := by decide
  have : v4.toInt % 256 = v4.toInt + 256 := by omega
  have := e_mask2 e5 1 7 256 2
  have : (194 : Int32).toInt = 194 := by decide
  have := i_neq q0
  have : (65536 : Int32).toInt = 65536 := by decide
  exact o_lt (by omega)
theorem R_String_length_3 {a1 a2 : Addr} {p3 p4 p5 p6 w_CS : Int32} (hw : HW a0 Z) (pr1 : Obj Z h0 a1 L_String [.ref a2, .int 1]) (pr2 : Ary Z h0 a2 ATB 4 (lv [.int p3, .int p4, .int p5, .int p6])) (pr3 : ¬ (w_CS = 0)) (pr4 : TS_CS Z w_CS) : Mt false [] l Y18 C18 (rmk 1 0 0 13) #[.ref a1] Z a0 h0 n0 (Pv h0 (.int 2)) := by
  refine Mt.go PN18 (Or.inl rfl) ef_R_1 fun k => ?_
  replace k := k |>.aloadN D18_0 rfl rfl |>.getF (fl_31 hw) pr1 0 D18_1 rfl rfl |>.alen pr2 D18_4 (z := 4) (by decide) |>.aloadN D18_5 rfl rfl
  replace k := (k.callV (w_72 hw) (V_Y19_19_String hw) pr1.exa (R_String_coder_1 hw pr4 pr3 pr1) D18_6 1 rfl).pv
  replace k := k |>.ishr D18_9 (z := 2) (by decide)
  exact k.retI D18_10 rfl ⟨rfl, rfl⟩
theorem R_StringUTF16_length_4 {a1 : Addr} {p2 p3 p4 p5 : Int32} (hw : HW a0 Z) (pr1 : Ary Z h0 a1 ATB 4 (lv [.int p2, .int p3, .int p4, .int p5])) : Mt false [] l Y12 C12 (rmk 0 0 0 0) #[.ref a1] Z a0 h0 n0 (Pv h0 (.int 2)) := by
  refine Mt.go PN12 (Or.inl rfl) ef_R_1 fun k => ?_
  replace k := k |>.aloadN D12_0 rfl rfl |>.alen pr1 D12_1 (z := 4) (by decide) |>.iconst D12_2 1 |>.ishr D12_3 (z := 2) (by decide)
  exact k.retI D12_4 rfl ⟨rfl, rfl⟩
theorem R_StringUTF16_checkIndex_3 {a1 : Addr} {p2 p3 p4 p5 : Int32} {w_SF : Value} (hw : HW a0 Z) (pr1 : Ary Z h0 a1 ATB 4 (lv [.int p2, .int p3, .int p4, .int p5])) (pr2 : w_SF.isRef = true) (pr3 : TS_SF Z w_SF) : Mt false [] l Y23 C23 (rmk 2 0 0 27) #[.int 0, .ref a1] Z a0 h0 n0 (P0 h0) := by
  refine Mt.go PN23 (Or.inl rfl) ef_IR_2_0 fun k => ?_
  replace k := k |>.iloadN D23_0 rfl |>.aloadN D23_1 rfl rfl
  replace k := (k.callS (w_117 hw) (S12 hw) (R_StringUTF16_length_4 hw pr1) D23_2 1 rfl).pv
  replace k := (k.callS (w_173 hw) (S24 hw) (R_String_checkIndex_1 hw pr2 pr3) D23_5 0 rfl).p0
  exact k.ret0 D23_8 rfl ⟨rfl, rfl⟩
theorem R_StringUTF16_getChar_3 {a1 : Addr} {p2 p3 p4 p5 : Int32} (hw : HW a0 Z) (pr1 : TS_AD Z) (pr2 : Ary Z h0 a1 ATB 4 (lv [.int p2, .int p3, .int p4, .int p5])) (pr3 : TS_HI Z) (pr4 : TS_LO Z) : Mt false [] l Y26 C26 (rmk 0 0 0 0) #[.ref a1, .int 0] Z a0 h0 n0 (Pv h0 (.int ((((p2 &&& 255) <<< ((0 : Int32) &&& 31)) ||| ((p3 &&& 255) <<< ((8 : Int32) &&& 31))).toUInt32.toUInt16.toUInt32.toInt32))) := by
  refine Mt.go PN26 (Or.inl rfl) ef_RI_2_0 fun k => ?_
  replace k := k |>.getS (fl_149 hw) pr1 D26_0 |>.ifYes D26_3 (by decide) |>.iloadN D26_28 rfl |>.iconst D26_29 1 |>.ishl D26_30 (z := 0) (by decide) |>.istoreN D26_31 sto1 |>.aloadN D26_32 rfl rfl |>.iloadN D26_33 rfl |>.iinc D26_34 rfl (z := 1) (by decide) sto1 |>.bald pr2 D26_37 (i := 0) (by decide) lvg0 |>.sipush D26_38 255 |>.iand D26_41 rfl
  replace k := k |>.getS (fl_150 hw) pr3 D26_42 |>.ishl D26_45 rfl |>.aloadN D26_46 rfl rfl |>.iloadN D26_47 rfl |>.bald pr2 D26_48 (i := 1) (by decide) lvg1 |>.sipush D26_49 255 |>.iand D26_52 rfl |>.getS (fl_151 hw) pr4 D26_53 |>.ishl D26_56 rfl |>.ior D26_57 rfl |>.i2c D26_58 rfl
  exact k.retN (t := .char) D26_59 rfl (by simp) (own_nnCi2c _) ⟨rfl, rfl⟩
theorem R_StringUTF16_charAt_3 {a1 : Addr} {p2 p3 p4 p5 : Int32} {w_SF : Value} (hw : HW a0 Z) (pr1 : Ary Z h0 a1 ATB 4 (lv [.int p2, .int p3, .int p4, .int p5])) (pr2 : w_SF.isRef = true) (pr3 : TS_SF Z w_SF) (pr4 : TS_AD Z) (pr5 : TS_HI Z) (pr6 : TS_LO Z) : Mt false [] l Y22 C22 (rmk 3 0 0 40) #[.ref a1, .int 0] Z a0 h0 n0 (Pv h0 (.int ((((p2 &&& 255) <<< ((0 : Int32) &&& 31)) ||| ((p3 &&& 255) <<< ((8 : Int32) &&& 31))).toUInt32.toUInt16.toUInt32.toInt32))) := by
  refine Mt.go PN22 (Or.inl rfl) ef_RI_2_0 fun k => ?_
  replace k := k |>.iloadN D22_0 rfl |>.aloadN D22_1 rfl rfl
  replace k := (k.callS (w_170 hw) (S23 hw) (R_StringUTF16_checkIndex_3 hw pr1 pr2 pr3) D22_2 0 rfl).p0
  replace k := k |>.aloadN D22_5 rfl rfl |>.iloadN D22_6 rfl
  replace k := (k.callS (w_174 hw) (S26 hw) (R_StringUTF16_getChar_3 hw pr4 pr1 pr5 pr6) D22_7 0 rfl).pv
  exact k.retN (t := .char) D22_10 rfl (by simp) (own_nnCi2c _) ⟨rfl, rfl⟩
theorem R_String_charAt_5 {a1 a2 : Addr} {w_CS p3 p4 p5 p6 : Int32} {w_SF : Value} (hw : HW a0 Z) (pr1 : Obj Z h0 a1 L_String [.ref a2, .int 1]) (pr2 : ¬ (w_CS = 0)) (pr3 : TS_CS Z w_CS) (pr4 : Ary Z h0 a2 ATB 4 (lv [.int p3, .int p4, .int p5, .int p6])) (pr5 : w_SF.isRef = true) (pr6 : TS_SF Z w_SF) (pr7 : TS_AD Z) (pr8 : TS_HI Z) (pr9 : TS_LO Z) : Mt false [] l Y20 C20 (rmk 4 0 0 53) #[.ref a1, .int 0] Z a0 h0 n0 (Pv h0 (.int ((((p3 &&& 255) <<< ((0 : Int32) &&& 31)) ||| ((p4 &&& 255) <<< ((8 : Int32) &&& 31))).toUInt32.toUInt16.toUInt32.toInt32))) := by
  refine Mt.go PN20 (Or.inl rfl) ef_RI_2_0 fun k => ?_
  replace k := k |>.aloadN D20_0 rfl rfl
  replace k := (k.callV (w_82 hw) (V_Y21_21_String hw) pr1.exa (R_String_isLatin1_1 hw pr3 pr2 pr1) D20_1 0 rfl).pv
  replace k := k |>.ifYes D20_4 (by decide) |>.aloadN D20_16 rfl rfl |>.getF (fl_31 hw) pr1 0 D20_17 rfl rfl |>.iloadN D20_20 rfl
  replace k := (k.callS (w_167 hw) (S22 hw) (R_StringUTF16_charAt_3 hw pr4 pr5 pr6 pr7 pr8 pr9) D20_21 0 rfl).pv
  exact k.retN (t := .char) D20_24 rfl (by simp) (own_nnCi2c _) ⟨rfl, rfl⟩
theorem own_d47 {p1 v0 v1 v2 v3 v4 v5 v6 v7 v8 v9 : Int32} (e0 : v0 = (p1 &&& 2147483647)) (e1 : v1 = (v0 % 1920)) (e2 : v2 = (128 + v1)) (e3 : v3 = (v2 >>> ((6 : Int32) &&& 31))) (e4 : v4 = ((192 ||| v3).toInt8.toInt32)) (e5 : v5 = (v4 &&& 254)) (e6 : v6 = (v2 &&& 63)) (e7 : v7 = ((((192 ||| v3).toInt8.toInt32 <<< ((6 : Int32) &&& 31)) ^^^ (128 ||| v6).toInt8.toInt32) ^^^ 3968)) (e8 : v8 = (v7.toUInt32.toUInt16.toUInt32.toInt32)) (e9 : v9 = (((((v8 >>> ((0 : Int32) &&& 31)).toInt8.toInt32) &&& 255) <<< ((0 : Int32) &&& 31)) ||| ((((v8 >>> ((8 : Int32) &&& 31)).toInt8.toInt32) &&& 255) <<< ((8 : Int32) &&& 31))).toUInt32.toUInt16.toUInt32.toInt32) (q0 : ¬ (v5 = 194)) : v9 = v2 := by
  have : (128 : Int32).toInt = 128 := by decide
  have := rng32 p1
  have : (2147483647 : Int32).toInt = 2147483647 := by decide
  have := e_mask e0 31 2147483648
  have : (1920 : Int32).toInt = 1920 := by decide
  have := e_iremN e1 1920 (by omega)
  have := e_iaddN e2 (by omega)
  have : (6 : Int32).toInt = 6 := by decide
  have := e_ishr e3 6 64
  have := e_hbN e4 6 64 192 (by omega)
  have : (254 : Int32).toInt = 254 := by decide
  have : v4.toInt % 256 = v4.toInt + 256 := by omega
  have := e_mask2 e5 1 7 256 2
  have : (194 : Int32).toInt = 194 := by decide
  have := i_neq q0
  have : (63 : Int32).toInt = 63 := by decide
  have := e_mask e6 6 64
  have := e_dec2 e7 (by omega) (by omega) (by omega) (by omega)
  have := e_i2cN e8 (by omega)
  have := e_gc e9 (by omega) (by omega)
  exact o_eq (by omega)
theorem R_StringUTF16_checkIndex_4 {a1 : Addr} {p2 p3 p4 p5 : Int32} {w_SF : Value} (hw : HW a0 Z) (pr1 : Ary Z h0 a1 ATB 4 (lv [.int p2, .int p3, .int p4, .int p5])) (pr2 : w_SF.isRef = true) (pr3 : TS_SF Z w_SF) : Mt false [] l Y23 C23 (rmk 2 0 0 27) #[.int 1, .ref a1] Z a0 h0 n0 (P0 h0) := by
  refine Mt.go PN23 (Or.inl rfl) ef_IR_2_1 fun k => ?_
  replace k := k |>.iloadN D23_0 rfl |>.aloadN D23_1 rfl rfl
  replace k := (k.callS (w_117 hw) (S12 hw) (R_StringUTF16_length_4 hw pr1) D23_2 1 rfl).pv
  replace k := (k.callS (w_173 hw) (S24 hw) (R_String_checkIndex_2 hw pr2 pr3) D23_5 0 rfl).p0
  exact k.ret0 D23_8 rfl ⟨rfl, rfl⟩
theorem R_StringUTF16_getChar_4 {a1 : Addr} {p2 p3 p4 p5 : Int32} (hw : HW a0 Z) (pr1 : TS_AD Z) (pr2 : Ary Z h0 a1 ATB 4 (lv [.int p2, .int p3, .int p4, .int p5])) (pr3 : TS_HI Z) (pr4 : TS_LO Z) : Mt false [] l Y26 C26 (rmk 0 0 0 0) #[.ref a1, .int 1] Z a0 h0 n0 (Pv h0 (.int ((((p4 &&& 255) <<< ((0 : Int32) &&& 31)) ||| ((p5 &&& 255) <<< ((8 : Int32) &&& 31))).toUInt32.toUInt16.toUInt32.toInt32))) := by
  refine Mt.go PN26 (Or.inl rfl) ef_RI_2_1 fun k => ?_
  replace k := k |>.getS (fl_149 hw) pr1 D26_0 |>.ifYes D26_3 (by decide) |>.iloadN D26_28 rfl |>.iconst D26_29 1 |>.ishl D26_30 (z := 2) (by decide) |>.istoreN D26_31 sto1 |>.aloadN D26_32 rfl rfl |>.iloadN D26_33 rfl |>.iinc D26_34 rfl (z := 3) (by decide) sto1 |>.bald pr2 D26_37 (i := 2) (by decide) lvg2 |>.sipush D26_38 255 |>.iand D26_41 rfl
  replace k := k |>.getS (fl_150 hw) pr3 D26_42 |>.ishl D26_45 rfl |>.aloadN D26_46 rfl rfl |>.iloadN D26_47 rfl |>.bald pr2 D26_48 (i := 3) (by decide) lvg3 |>.sipush D26_49 255 |>.iand D26_52 rfl |>.getS (fl_151 hw) pr4 D26_53 |>.ishl D26_56 rfl |>.ior D26_57 rfl |>.i2c D26_58 rfl
  exact k.retN (t := .char) D26_59 rfl (by simp) (own_nnCi2c _) ⟨rfl, rfl⟩
theorem R_StringUTF16_charAt_4 {a1 : Addr} {p2 p3 p4 p5 : Int32} {w_SF : Value} (hw : HW a0 Z) (pr1 : Ary Z h0 a1 ATB 4 (lv [.int p2, .int p3, .int p4, .int p5])) (pr2 : w_SF.isRef = true) (pr3 : TS_SF Z w_SF) (pr4 : TS_AD Z) (pr5 : TS_HI Z) (pr6 : TS_LO Z) : Mt false [] l Y22 C22 (rmk 3 0 0 40) #[.ref a1, .int 1] Z a0 h0 n0 (Pv h0 (.int ((((p4 &&& 255) <<< ((0 : Int32) &&& 31)) ||| ((p5 &&& 255) <<< ((8 : Int32) &&& 31))).toUInt32.toUInt16.toUInt32.toInt32))) := by
  refine Mt.go PN22 (Or.inl rfl) ef_RI_2_1 fun k => ?_
  replace k := k |>.iloadN D22_0 rfl |>.aloadN D22_1 rfl rfl
  replace k := (k.callS (w_170 hw) (S23 hw) (R_StringUTF16_checkIndex_4 hw pr1 pr2 pr3) D22_2 0 rfl).p0
  replace k := k |>.aloadN D22_5 rfl rfl |>.iloadN D22_6 rfl
  replace k := (k.callS (w_174 hw) (S26 hw) (R_StringUTF16_getChar_4 hw pr4 pr1 pr5 pr6) D22_7 0 rfl).pv
  exact k.retN (t := .char) D22_10 rfl (by simp) (own_nnCi2c _) ⟨rfl, rfl⟩
theorem R_String_charAt_6 {a1 a2 : Addr} {w_CS p3 p4 p5 p6 : Int32} {w_SF : Value} (hw : HW a0 Z) (pr1 : Obj Z h0 a1 L_String [.ref a2, .int 1]) (pr2 : ¬ (w_CS = 0)) (pr3 : TS_CS Z w_CS) (pr4 : Ary Z h0 a2 ATB 4 (lv [.int p3, .int p4, .int p5, .int p6])) (pr5 : w_SF.isRef = true) (pr6 : TS_SF Z w_SF) (pr7 : TS_AD Z) (pr8 : TS_HI Z) (pr9 : TS_LO Z) : Mt false [] l Y20 C20 (rmk 4 0 0 53) #[.ref a1, .int 1] Z a0 h0 n0 (Pv h0 (.int ((((p5 &&& 255) <<< ((0 : Int32) &&& 31)) ||| ((p6 &&& 255) <<< ((8 : Int32) &&& 31))).toUInt32.toUInt16.toUInt32.toInt32))) := by
  refine Mt.go PN20 (Or.inl rfl) ef_RI_2_1 fun k => ?_
  replace k := k |>.aloadN D20_0 rfl rfl
  replace k := (k.callV (w_82 hw) (V_Y21_21_String hw) pr1.exa (R_String_isLatin1_1 hw pr3 pr2 pr1) D20_1 0 rfl).pv
  replace k := k |>.ifYes D20_4 (by decide) |>.aloadN D20_16 rfl rfl |>.getF (fl_31 hw) pr1 0 D20_17 rfl rfl |>.iloadN D20_20 rfl
  replace k := (k.callS (w_167 hw) (S22 hw) (R_StringUTF16_charAt_4 hw pr4 pr5 pr6 pr7 pr8 pr9) D20_21 0 rfl).pv
  exact k.retN (t := .char) D20_24 rfl (by simp) (own_nnCi2c _) ⟨rfl, rfl⟩
theorem D29_24 : Dc J29 24 (.iload_n 0) 1 25 := by decide +kernel
theorem D29_25 : Dc J29 25 (.iconst 2) 1 26 := by decide +kernel
theorem D29_26 : Dj J29 26 (.if_icmp .ne 32) 32 29 58 := by decide +kernel
theorem D29_29 : Dc J29 29 (.sipush 2048) 3 32 := by decide +kernel
theorem D29_32 : Dc J29 32 (.iload_n 1) 1 33 := by decide +kernel
theorem D29_33 : Dc J29 33 (.ldc 7) 2 35 := by decide +kernel
abbrev w_193 (hw : HW a0 Z) := hw _ (List.mem_of_getElem? (i := 193) rfl)
theorem D29_35 : Dc J29 35 .irem 1 36 := by decide +kernel
theorem D29_36 : Dc J29 36 .iadd 1 37 := by decide +kernel
theorem D29_37 : Dc J29 37 (.istore_n 2) 1 38 := by decide +kernel
theorem D29_38 : Dc J29 38 (.iload_n 2) 1 39 := by decide +kernel
theorem D29_39 : Dc J29 39 (.ldc 8) 2 41 := by decide +kernel
abbrev w_177 (hw : HW a0 Z) := hw _ (List.mem_of_getElem? (i := 177) rfl)
theorem D29_41 : Dj J29 41 (.if_icmp .lt 15) 15 44 56 := by decide +kernel
theorem D29_56 : Dc J29 56 (.iload_n 2) 1 57 := by decide +kernel
theorem D29_57 : Dc J29 57 .ireturn 1 58 := by decide +kernel
theorem R_Utf8DecodeNamePinLaw_codePoint_7 {p1 p2 : Int32} (hw : HW a0 Z) (pr1 : ¬ (p1 = 0)) (pr2 : ¬ (p1 = 1)) (pr3 : p1 = 2) (pr4 : (2048 + (p2 % 63488)) < 55296) : Mt false [] l Y29 C29 (rmk 0 0 0 0) #[.int p1, .int p2] Z a0 h0 n0 (Pv h0 (.int (2048 + (p2 % 63488)))) := by
  refine Mt.go PN29 (Or.inl rfl) ef_II_3 fun k => ?_
  replace k := k |>.iloadN D29_0 rfl |>.ifYes D29_1 ((if0 _ _).trans (feq pr1).2) |>.iloadN D29_9 rfl |>.iconst D29_10 1 |>.icmpYes D29_11 (feq pr2).2 |>.iloadN D29_24 rfl |>.iconst D29_25 2 |>.icmpNo D29_26 (teq pr3).2 |>.sipush D29_29 2048 |>.iloadN D29_32 rfl |>.ldcI (w_193 hw) D29_33 |>.irem D29_35 (by decide) rfl
  replace k := k |>.iadd D29_36 rfl |>.istoreN D29_37 sto2 |>.iloadN D29_38 rfl |>.ldcI (w_177 hw) D29_39 |>.icmpYes D29_41 (tlt pr4).1 |>.iloadN D29_56 rfl
  exact k.retI D29_57 rfl ⟨rfl, rfl⟩
theorem D30_103 : Dc J30 103 (.iload_n 1) 1 104 := by decide +kernel
theorem D30_104 : Dc J30 104 (.iconst 2) 1 105 := by decide +kernel
theorem D30_105 : Dj J30 105 (.if_icmp .ne 86) 86 108 191 := by decide +kernel
theorem D30_108 : Dc J30 108 (.sipush 224) 3 111 := by decide +kernel
theorem D30_111 : Dc J30 111 (.iload_n 0) 1 112 := by decide +kernel
theorem D30_112 : Dc J30 112 (.bipush 12) 2 114 := by decide +kernel
theorem D30_114 : Dc J30 114 .ishr 1 115 := by decide +kernel
theorem D30_115 : Dc J30 115 .ior 1 116 := by decide +kernel
theorem D30_116 : Dc J30 116 .i2b 1 117 := by decide +kernel
theorem D30_117 : Dc J30 117 (.istore 5) 2 119 := by decide +kernel
theorem D30_119 : Dc J30 119 (.sipush 128) 3 122 := by decide +kernel
theorem D30_122 : Dc J30 122 (.iload_n 0) 1 123 := by decide +kernel
theorem D30_123 : Dc J30 123 (.bipush 6) 2 125 := by decide +kernel
theorem D30_125 : Dc J30 125 .ishr 1 126 := by decide +kernel
theorem D30_126 : Dc J30 126 (.bipush 63) 2 128 := by decide +kernel
theorem D30_128 : Dc J30 128 .iand 1 129 := by decide +kernel
theorem D30_129 : Dc J30 129 .ior 1 130 := by decide +kernel
theorem D30_130 : Dc J30 130 .i2b 1 131 := by decide +kernel
theorem D30_131 : Dc J30 131 (.istore 6) 2 133 := by decide +kernel
theorem D30_133 : Dc J30 133 (.sipush 128) 3 136 := by decide +kernel
theorem D30_136 : Dc J30 136 (.iload_n 0) 1 137 := by decide +kernel
theorem D30_137 : Dc J30 137 (.bipush 63) 2 139 := by decide +kernel
theorem D30_139 : Dc J30 139 .iand 1 140 := by decide +kernel
theorem D30_140 : Dc J30 140 .ior 1 141 := by decide +kernel
theorem D30_141 : Dc J30 141 .i2b 1 142 := by decide +kernel
theorem D30_142 : Dc J30 142 (.istore 7) 2 144 := by decide +kernel
theorem D30_144 : Dc J30 144 (.iload_n 2) 1 145 := by decide +kernel
theorem D30_145 : Dj J30 145 (.ifCond .eq 27) 27 148 172 := by decide +kernel
theorem D30_148 : Dc J30 148 (.iconst 4) 1 149 := by decide +kernel
theorem D30_149 : Dc J30 149 (.newarray .byte) 2 151 := by decide +kernel
theorem D30_151 : Dc J30 151 .dup 1 152 := by decide +kernel
theorem D30_152 : Dc J30 152 (.iconst 0) 1 153 := by decide +kernel
theorem D30_153 : Dc J30 153 (.iload 5) 2 155 := by decide +kernel
theorem D30_155 : Dc J30 155 .bastore 1 156 := by decide +kernel
theorem D30_156 : Dc J30 156 .dup 1 157 := by decide +kernel
theorem D30_157 : Dc J30 157 (.iconst 1) 1 158 := by decide +kernel
theorem D30_158 : Dc J30 158 (.iload 6) 2 160 := by decide +kernel
theorem D30_160 : Dc J30 160 .bastore 1 161 := by decide +kernel
theorem D30_161 : Dc J30 161 .dup 1 162 := by decide +kernel
theorem D30_162 : Dc J30 162 (.iconst 2) 1 163 := by decide +kernel
theorem D30_163 : Dc J30 163 (.iload 7) 2 165 := by decide +kernel
theorem D30_165 : Dc J30 165 .bastore 1 166 := by decide +kernel
theorem D30_166 : Dc J30 166 .dup 1 167 := by decide +kernel
theorem D30_167 : Dc J30 167 (.iconst 3) 1 168 := by decide +kernel
theorem D30_168 : Dc J30 168 (.iload 4) 2 170 := by decide +kernel
theorem D30_170 : Dc J30 170 .bastore 1 171 := by decide +kernel
theorem D30_171 : Dc J30 171 .areturn 1 172 := by decide +kernel
theorem R_Utf8DecodeNamePinLaw_encode_3 {p1 p2 p3 : Int32} (hw : HW a0 Z) (pr1 : ¬ (p2 = 0)) (pr2 : ¬ (p2 = 1)) (pr3 : p2 = 2) : Mt false [] l Y30 C30 (rmk 0 1 4 0) #[.int p1, .int p2, .int 1, .int p3] Z a0 h0 n0 (KpV h0 [] fun v h => ∃ b1 : Addr, v = (.ref b1) ∧ h0.size ≤ b1 ∧ Ary Z h b1 ATB 4 (lv [.int ((224 ||| (p1 >>> ((12 : Int32) &&& 31))).toInt8.toInt32), .int ((128 ||| ((p1 >>> ((6 : Int32) &&& 31)) &&& 63)).toInt8.toInt32), .int ((128 ||| (p1 &&& 63)).toInt8.toInt32), .int (p3.toInt8.toInt32)])) := by
  refine Mt.go PN30 (Or.inl rfl) ef_IIII_9_1 fun k => ?_
  have nz := k.n0le
  replace k := k |>.iloadN D30_0 rfl |>.i2b D30_1 rfl |>.istore D30_2 sto4 |>.iloadN D30_4 rfl |>.ifYes D30_5 ((if0 _ _).trans (feq pr1).2) |>.iloadN D30_39 rfl |>.iconst D30_40 1 |>.icmpYes D30_41 (feq pr2).2 |>.iloadN D30_103 rfl |>.iconst D30_104 2 |>.icmpNo D30_105 (teq pr3).2 |>.sipush D30_108 224
  replace k := k |>.iloadN D30_111 rfl |>.bipush D30_112 12 |>.ishr D30_114 rfl |>.ior D30_115 rfl |>.i2b D30_116 rfl |>.istore D30_117 sto5 |>.sipush D30_119 128 |>.iloadN D30_122 rfl |>.bipush D30_123 6 |>.ishr D30_125 rfl |>.bipush D30_126 63 |>.iand D30_128 rfl
  replace k := k |>.ior D30_129 rfl |>.i2b D30_130 rfl |>.istore D30_131 sto6 |>.sipush D30_133 128 |>.iloadN D30_136 rfl |>.bipush D30_137 63 |>.iand D30_139 rfl |>.ior D30_140 rfl |>.i2b D30_141 rfl |>.istore D30_142 sto7 |>.iloadN D30_144 rfl |>.ifNo D30_145 (by decide)
  replace k := k |>.iconst D30_148 4
  have z1 := k.sz
  obtain ⟨b1, h1, g1, K1, O1, k⟩ := k.newP (aty := .byte) "[B" (w_0 hw) (by decide) D30_149 4 (by decide) (n := 4) (by decide) (by decide) (by decide) (lv_const (V := [(.int 0), (.int 0), (.int 0), (.int 0)]) rfl)
  replace k := k |>.dup D30_151 rfl |>.iconst D30_152 0 |>.iload D30_153 rfl
  have s_b1 := Nat.le_trans z1 g1
  have n_b1 := Nat.le_trans nz s_b1
  obtain ⟨h2, K2, O2, k⟩ := k.stB O1 n_b1 (Or.inl rfl) D30_155 (i := 0) (by decide) (v := (.int ((224 ||| (p1 >>> ((12 : Int32) &&& 31))).toInt8.toInt32))) (congrArg Value.int (own_nnBi2b _)) (own_fitBi2b _) lvs0
  replace k := k |>.dup D30_156 rfl |>.iconst D30_157 1 |>.iload D30_158 rfl
  obtain ⟨h3, K3, O3, k⟩ := k.stB O2 n_b1 (Or.inl rfl) D30_160 (i := 1) (by decide) (v := (.int ((128 ||| ((p1 >>> ((6 : Int32) &&& 31)) &&& 63)).toInt8.toInt32))) (congrArg Value.int (own_nnBi2b _)) (own_fitBi2b _) lvs1
  replace k := k |>.dup D30_161 rfl |>.iconst D30_162 2 |>.iload D30_163 rfl
  obtain ⟨h4, K4, O4, k⟩ := k.stB O3 n_b1 (Or.inl rfl) D30_165 (i := 2) (by decide) (v := (.int ((128 ||| (p1 &&& 63)).toInt8.toInt32))) (congrArg Value.int (own_nnBi2b _)) (own_fitBi2b _) lvs2
  replace k := k |>.dup D30_166 rfl |>.iconst D30_167 3 |>.iload D30_168 rfl
  obtain ⟨h5, K5, O5, k⟩ := k.stB O4 n_b1 (Or.inl rfl) D30_170 (i := 3) (by decide) (v := (.int (p3.toInt8.toInt32))) (congrArg Value.int (own_nnBi2b _)) (own_fitBi2b _) lvs3
  exact k.retA D30_171 rfl ⟨_, rfl, ((((K1.trans K2 (allS (Or.inr s_b1) all0)).trans K3 (allS (Or.inr s_b1) all0)).trans K4 (allS (Or.inr s_b1) all0)).trans K5 (allS (Or.inr s_b1) all0)), b1, rfl, s_b1, O5⟩
theorem ef_RII_5_0_4 {x0 : Addr}  (m : MethodId) : entryFrame m #[(.ref x0), (.int 0), (.int 4)] 5 = mkF m 0 #[.val (.ref x0), .val (.int 0), .val (.int 4), .unset, .unset] [] := by
  first | (simp [entryFrame, mkF, argsToLocals, Value.category]; done) | rfl
theorem R_StringCoding_countPositives_4 {a1 : Addr} {p2 p3 p4 p5 : Int32} (hw : HW a0 Z) (pr1 : Ary Z h0 a1 ATB 4 (lv [.int p2, .int p3, .int p4, .int p5])) (pr2 : p2 < 0) : Mt false [] l Y5 C5 (rmk 0 0 0 0) #[.ref a1, .int 0, .int 4] Z a0 h0 n0 (Pv h0 (.int 0)) := by
  refine Mt.go PN5 (Or.inl rfl) ef_RII_5_0_4 fun k => ?_
  replace k := k |>.iloadN D5_0 rfl |>.iloadN D5_1 rfl |>.iadd D5_2 (z := 4) (by decide) |>.istoreN D5_3 sto3 |>.iloadN D5_4 rfl |>.istore D5_5 sto4 |>.iload D5_7 rfl |>.iloadN D5_9 rfl |>.icmpNo D5_10 (by decide) |>.aloadN D5_13 rfl rfl |>.iload D5_14 rfl |>.bald pr1 D5_16 (i := 0) (by decide) lvg0
  replace k := k |>.ifNo D5_17 ((if0 _ _).trans (tlt pr2).2.1) |>.iload D5_20 rfl |>.iloadN D5_22 rfl |>.isub D5_23 (z := 0) (by decide)
  exact k.retI D5_24 rfl ⟨rfl, rfl⟩
theorem ef_RII_3_0_4 {x0 : Addr}  (m : MethodId) : entryFrame m #[(.ref x0), (.int 0), (.int 4)] 3 = mkF m 0 #[.val (.ref x0), .val (.int 0), .val (.int 4)] [] := by
  first | (simp [entryFrame, mkF, argsToLocals, Value.category]; done) | rfl
theorem R_Arrays_copyOfRange_3 {a1 : Addr} {p2 p3 p4 p5 : Int32} (hw : HW a0 Z) (pr1 : Ary Z h0 a1 ATB 4 (lv [.int p2, .int p3, .int p4, .int p5])) : Mt false [] l Y6 C6 (rmk 1 1 4 14) #[.ref a1, .int 0, .int 4] Z a0 h0 n0 (KpV h0 [] fun v h => ∃ b1 : Addr, v = (.ref b1) ∧ h0.size ≤ b1 ∧ Ary Z h b1 ATB 4 (lv [.int p2, .int p3, .int p4, .int p5])) := by
  refine Mt.go PN6 (Or.inl rfl) ef_RII_3_0_4 fun k => ?_
  replace k := k |>.iloadN D6_0 rfl |>.ifNo D6_1 (by decide) |>.iloadN D6_4 rfl |>.aloadN D6_5 rfl rfl |>.alen pr1 D6_6 (z := 4) (by decide) |>.icmpYes D6_7 (by decide) |>.aloadN D6_17 rfl rfl
  have z1 := k.sz
  obtain ⟨b1, h1, g1, K1, O1, k⟩ := k.aclone (w_57 hw) (w_58 hw) (w_62 hw) (w_60 hw) (w_61 hw) (w_63 hw) pr1 (by decide) D6_18 0
  replace k := k |>.castY (w_64 hw) (Ins.self (O1.exa (by decide))) D6_21
  have s_b1 := Nat.le_trans z1 g1
  exact k.retA D6_24 rfl ⟨_, rfl, K1, b1, rfl, s_b1, O1⟩
theorem ef_I_1_4   (m : MethodId) : entryFrame m #[(.int 4)] 1 = mkF m 0 #[.val (.int 4)] [] := by
  first | (simp [entryFrame, mkF, argsToLocals, Value.category]; done) | rfl
theorem R_StringUTF16_newBytesLength_3 (hw : HW a0 Z) : Mt false [] l Y8 C8 (rmk 0 0 0 0) #[.int 4] Z a0 h0 n0 (Pv h0 (.int 8)) := by
  refine Mt.go PN8 (Or.inl rfl) ef_I_1_4 fun k => ?_
  replace k := k |>.iloadN D8_0 rfl |>.ifYes D8_1 (by decide) |>.iloadN D8_12 rfl |>.ldcI (w_107 hw) D8_13 |>.icmpYes D8_15 (by decide) |>.iloadN D8_55 rfl |>.iconst D8_56 1 |>.ishl D8_57 (z := 8) (by decide)
  exact k.retI D8_58 rfl ⟨rfl, rfl⟩
theorem R_StringUTF16_newBytesFor_3 (hw : HW a0 Z) : Mt false [] l Y7 C7 (rmk 1 1 8 12) #[.int 4] Z a0 h0 n0 (KpV h0 [] fun v h => ∃ b2 : Addr, v = (.ref b2) ∧ h0.size ≤ b2 ∧ Ary Z h b2 ATB 8 (lv [.int 0, .int 0, .int 0, .int 0, .int 0, .int 0, .int 0, .int 0])) := by
  refine Mt.go PN7 (Or.inl rfl) ef_I_1_4 fun k => ?_
  replace k := k |>.iloadN D7_0 rfl
  replace k := (k.callS (w_104 hw) (S8 hw) (R_StringUTF16_newBytesLength_3 hw) D7_1 0 rfl).pv
  have z2 := k.sz
  obtain ⟨b2, h2, g2, K2, O2, k⟩ := k.newP (aty := .byte) "[B" (w_0 hw) (by decide) D7_4 8 (by decide) (n := 8) (by decide) (by decide) (by decide) (lv_const (V := [(.int 0), (.int 0), (.int 0), (.int 0), (.int 0), (.int 0), (.int 0), (.int 0)]) rfl)
  have s_b2 := Nat.le_trans z2 g2
  exact k.retA D7_6 rfl ⟨_, rfl, K2, b2, rfl, s_b2, O2⟩
theorem R_StringUTF16_length_5 {a1 : Addr} (hw : HW a0 Z) (pr1 : Ary Z h0 a1 ATB 8 (lv [.int 0, .int 0, .int 0, .int 0, .int 0, .int 0, .int 0, .int 0])) : Mt false [] l Y12 C12 (rmk 0 0 0 0) #[.ref a1] Z a0 h0 n0 (Pv h0 (.int 4)) := by
  refine Mt.go PN12 (Or.inl rfl) ef_R_1 fun k => ?_
  replace k := k |>.aloadN D12_0 rfl rfl |>.alen pr1 D12_1 (z := 8) (by decide) |>.iconst D12_2 1 |>.ishr D12_3 (z := 4) (by decide)
  exact k.retI D12_4 rfl ⟨rfl, rfl⟩
theorem ef_IIIV_4_0_0_4 {x3 : Value} (r3 : x3.isRef = true) (m : MethodId) : entryFrame m #[(.int 0), (.int 0), (.int 4), x3] 4 = mkF m 0 #[.val (.int 0), .val (.int 0), .val (.int 4), .val x3] [] := by
  rcases ref_cases r3 with rfl | ⟨_, rfl⟩
  all_goals
  first | (simp [entryFrame, mkF, argsToLocals, Value.category]; done) | rfl
theorem R_Preconditions_checkFromIndexSize_3 {w_SF : Value} (hw : HW a0 Z) (pr1 : w_SF.isRef = true) : Mt false [] l Y14 C14 (rmk 0 0 0 0) #[.int 0, .int 0, .int 4, w_SF] Z a0 h0 n0 (Pv h0 (.int 0)) := by
  refine Mt.go PN14 (Or.inl rfl) (ef_IIIV_4_0_0_4 pr1) fun k => ?_
  replace k := k |>.iloadN D14_0 rfl |>.iloadN D14_1 rfl |>.ior D14_2 (z := 4) (by decide) |>.iloadN D14_3 rfl |>.ior D14_4 (z := 4) (by decide) |>.ifNo D14_5 (by decide) |>.iloadN D14_8 rfl |>.iloadN D14_9 rfl |>.iloadN D14_10 rfl |>.isub D14_11 (z := 4) (by decide) |>.icmpYes D14_12 (by decide) |>.iloadN D14_23 rfl
  exact k.retI D14_24 rfl ⟨rfl, rfl⟩
theorem ef_III_3_0_0_4   (m : MethodId) : entryFrame m #[(.int 0), (.int 0), (.int 4)] 3 = mkF m 0 #[.val (.int 0), .val (.int 0), .val (.int 4)] [] := by
  first | (simp [entryFrame, mkF, argsToLocals, Value.category]; done) | rfl
theorem R_String_checkBoundsOffCount_3 {w_SF : Value} (hw : HW a0 Z) (pr1 : w_SF.isRef = true) (pr2 : TS_SF Z w_SF) : Mt false [] l Y13 C13 (rmk 1 0 0 15) #[.int 0, .int 0, .int 4] Z a0 h0 n0 (Pv h0 (.int 0)) := by
  refine Mt.go PN13 (Or.inl rfl) ef_III_3_0_0_4 fun k => ?_
  replace k := k |>.iloadN D13_0 rfl |>.iloadN D13_1 rfl |>.iloadN D13_2 rfl |>.getS (fl_94 hw) pr2 D13_3
  replace k := (k.callS (w_123 hw) (S14 hw) (R_Preconditions_checkFromIndexSize_3 hw pr1) D13_6 0 rfl).pv
  exact k.retI D13_9 rfl ⟨rfl, rfl⟩
theorem R_StringUTF16_checkBoundsOffCount_3 {a1 : Addr} {w_SF : Value} (hw : HW a0 Z) (pr1 : Ary Z h0 a1 ATB 8 (lv [.int 0, .int 0, .int 0, .int 0, .int 0, .int 0, .int 0, .int 0])) (pr2 : w_SF.isRef = true) (pr3 : TS_SF Z w_SF) : Mt false [] l Y11 C11 (rmk 2 0 0 29) #[.int 0, .int 0, .ref a1] Z a0 h0 n0 (P0 h0) := by
  refine Mt.go PN11 (Or.inl rfl) ef_IIR_3_0_0 fun k => ?_
  replace k := k |>.iloadN D11_0 rfl |>.iloadN D11_1 rfl |>.aloadN D11_2 rfl rfl
  replace k := (k.callS (w_117 hw) (S12 hw) (R_StringUTF16_length_5 hw pr1) D11_3 2 rfl).pv
  replace k := (k.callS (w_120 hw) (S13 hw) (R_String_checkBoundsOffCount_3 hw pr2 pr3) D11_6 0 rfl).pv
  replace k := k |>.pop D11_9 rfl
  exact k.ret0 D11_10 rfl ⟨rfl, rfl⟩
theorem R_StringUTF16_inflate_3 {a1 a2 : Addr} {w_SF : Value} (hw : HW a0 Z) (pr1 : Ary Z h0 a2 ATB 8 (lv [.int 0, .int 0, .int 0, .int 0, .int 0, .int 0, .int 0, .int 0])) (pr2 : w_SF.isRef = true) (pr3 : TS_SF Z w_SF) : Mt false [] l Y10 C10 (rmk 3 0 0 43) #[.ref a1, .int 0, .ref a2, .int 0, .int 0] Z a0 h0 n0 (P0 h0) := by
  refine Mt.go PN10 (Or.inl rfl) ef_RIRII_6_0_0_0 fun k => ?_
  replace k := k |>.iloadN D10_0 rfl |>.iload D10_1 rfl |>.aloadN D10_3 rfl rfl
  replace k := (k.callS (w_114 hw) (S11 hw) (R_StringUTF16_checkBoundsOffCount_3 hw pr1 pr2 pr3) D10_4 0 rfl).p0
  replace k := k |>.iconst D10_7 0 |>.istore D10_8 sto5 |>.iload D10_10 rfl |>.iload D10_12 rfl |>.icmpYes D10_14 (by decide)
  exact k.ret0 D10_41 rfl ⟨rfl, rfl⟩
theorem R_StringLatin1_inflate_3 {a1 a2 : Addr} {w_SF : Value} (hw : HW a0 Z) (pr1 : Ary Z h0 a2 ATB 8 (lv [.int 0, .int 0, .int 0, .int 0, .int 0, .int 0, .int 0, .int 0])) (pr2 : w_SF.isRef = true) (pr3 : TS_SF Z w_SF) : Mt false [] l Y9 C9 (rmk 4 0 0 60) #[.ref a1, .int 0, .ref a2, .int 0, .int 0] Z a0 h0 n0 (P0 h0) := by
  refine Mt.go PN9 (Or.inl rfl) ef_RIRII_5_0_0_0 fun k => ?_
  replace k := k |>.aloadN D9_0 rfl rfl |>.iloadN D9_1 rfl |>.aloadN D9_2 rfl rfl |>.iloadN D9_3 rfl |>.iload D9_4 rfl
  replace k := (k.callS (w_111 hw) (S10 hw) (R_StringUTF16_inflate_3 hw pr1 pr2 pr3) D9_6 0 rfl).p0
  exact k.ret0 D9_9 rfl ⟨rfl, rfl⟩
theorem D15_159 : Dc J15 159 (.aload_n 0) 1 160 := by decide +kernel
theorem D15_160 : Dc J15 160 (.iload_n 1) 1 161 := by decide +kernel
theorem D15_161 : Dc J15 161 (.iinc 1 1) 3 164 := by decide +kernel
theorem D15_164 : Dc J15 164 .baload 1 165 := by decide +kernel
theorem D15_165 : Dc J15 165 (.istore 7) 2 167 := by decide +kernel
theorem D15_167 : Dc J15 167 (.aload_n 0) 1 168 := by decide +kernel
theorem D15_168 : Dc J15 168 (.iload_n 1) 1 169 := by decide +kernel
theorem D15_169 : Dc J15 169 (.iinc 1 1) 3 172 := by decide +kernel
theorem D15_172 : Dc J15 172 .baload 1 173 := by decide +kernel
theorem D15_173 : Dc J15 173 (.istore 8) 2 175 := by decide +kernel
theorem D15_175 : Dc J15 175 (.iload 6) 2 177 := by decide +kernel
theorem D15_177 : Dc J15 177 (.iload 7) 2 179 := by decide +kernel
theorem D15_179 : Dc J15 179 (.iload 8) 2 181 := by decide +kernel
theorem D15_181 : Dc J15 181 (.invokestatic 392) 3 184 := by decide +kernel
abbrev Y35 : MethodName := ⟨"java/lang/String", "isMalformed3", "(III)Z"⟩
abbrev J35 := jdk_42_method_30_code
abbrev C35 : Cond := .code Y35 J35 3 (some .boolean)
theorem D35_0 : Dc J35 0 (.iload_n 0) 1 1 := by decide +kernel
theorem D35_1 : Dc J35 1 (.bipush (-32)) 2 3 := by decide +kernel
theorem D35_3 : Dj J35 3 (.if_icmp .ne 14) 14 6 17 := by decide +kernel
theorem own_d52 {p1 v0 v1 v2 v3 v4 : Int32} (e0 : v0 = (p1 &&& 2147483647)) (e1 : v1 = (v0 % 63488)) (e2 : v2 = (2048 + v1)) (e3 : v3 = (v2 >>> ((12 : Int32) &&& 31))) (e4 : v4 = ((224 ||| v3).toInt8.toInt32)) (q0 : v2 < 55296) (q1 : v4 = (-32)) : v4 < 0 := by
  have : (2048 : Int32).toInt = 2048 := by decide
  have := rng32 p1
  have : (2147483647 : Int32).toInt = 2147483647 := by decide
  have := e_mask e0 31 2147483648
  have : (63488 : Int32).toInt = 63488 := by decide
  have := e_iremN e1 63488 (by omega)
  have := e_iaddN e2 (by omega)
  have : (55296 : Int32).toInt = 55296 := by decide
  have := i_lt q0
  have : (12 : Int32).toInt = 12 := by decide
  have := e_ishr e3 12 4096
  have := e_hbN e4 5 32 224 (by omega)
  have : (-32 : Int32).toInt = -32 := by decide
  have := i_eq q1
  have : (0 : Int32).toInt = 0 := by decide
  exact o_lt (by omega)
theorem own_d53 {p1 v0 v1 v2 v3 v4 v5 : Int32} (e0 : v0 = (p1 &&& 2147483647)) (e1 : v1 = (v0 % 63488)) (e2 : v2 = (2048 + v1)) (e3 : v3 = (v2 >>> ((12 : Int32) &&& 31))) (e4 : v4 = ((224 ||| v3).toInt8.toInt32)) (e5 : v5 = (v4 &&& 254)) (q0 : v2 < 55296) (q1 : v4 = (-32)) : ¬ (v5 = 194) := by
  have : (2048 : Int32).toInt = 2048 := by decide
  have := rng32 p1
  have : (2147483647 : Int32).toInt = 2147483647 := by decide
  have := e_mask e0 31 2147483648
  have : (63488 : Int32).toInt = 63488 := by decide
  have := e_iremN e1 63488 (by omega)
  have := e_iaddN e2 (by omega)
  have : (55296 : Int32).toInt = 55296 := by decide
  have := i_lt q0
  have : (12 : Int32).toInt = 12 := by decide
  have := e_ishr e3 12 4096
  have := e_hbN e4 5 32 224 (by omega)
  have : (-32 : Int32).toInt = -32 := by decide
  have := i_eq q1
  have : (254 : Int32).toInt = 254 := by decide
  have : v4.toInt % 256 = v4.toInt + 256 := by omega
  have := e_mask2 e5 1 7 256 2
  have : (194 : Int32).toInt = 194 := by decide
  exact o_neq (by omega)
theorem own_d54 {p1 v0 v1 v2 v3 v4 v5 : Int32} (e0 : v0 = (p1 &&& 2147483647)) (e1 : v1 = (v0 % 63488)) (e2 : v2 = (2048 + v1)) (e3 : v3 = (v2 >>> ((12 : Int32) &&& 31))) (e4 : v4 = ((224 ||| v3).toInt8.toInt32)) (e5 : v5 = (v4 >>> ((5 : Int32) &&& 31))) (q0 : v2 < 55296) (q1 : v4 = (-32)) : ¬ (v5 = (-2)) := by
  have : (2048 : Int32).toInt = 2048 := by decide
  have := rng32 p1
  have : (2147483647 : Int32).toInt = 2147483647 := by decide
  have := e_mask e0 31 2147483648
  have : (63488 : Int32).toInt = 63488 := by decide
  have := e_iremN e1 63488 (by omega)
  have := e_iaddN e2 (by omega)
  have : (55296 : Int32).toInt = 55296 := by decide
  have := i_lt q0
  have : (12 : Int32).toInt = 12 := by decide
  have := e_ishr e3 12 4096
  have := e_hbN e4 5 32 224 (by omega)
  have : (-32 : Int32).toInt = -32 := by decide
  have := i_eq q1
  have : (5 : Int32).toInt = 5 := by decide
  have := e_ishr e5 5 32
  have : (-2 : Int32).toInt = -2 := by decide
  exact o_neq (by omega)
theorem own_d55 {p1 v0 v1 v2 v3 v4 v5 : Int32} (e0 : v0 = (p1 &&& 2147483647)) (e1 : v1 = (v0 % 63488)) (e2 : v2 = (2048 + v1)) (e3 : v3 = (v2 >>> ((12 : Int32) &&& 31))) (e4 : v4 = ((224 ||| v3).toInt8.toInt32)) (e5 : v5 = (v4 >>> ((4 : Int32) &&& 31))) (q0 : v2 < 55296) (q1 : v4 = (-32)) : v5 = (-2) := by
  have : (2048 : Int32).toInt = 2048 := by decide
  have := rng32 p1
  have : (2147483647 : Int32).toInt = 2147483647 := by decide
  have := e_mask e0 31 2147483648
  have : (63488 : Int32).toInt = 63488 := by decide
  have := e_iremN e1 63488 (by omega)
  have := e_iaddN e2 (by omega)
  have : (55296 : Int32).toInt = 55296 := by decide
  have := i_lt q0
  have : (12 : Int32).toInt = 12 := by decide
  have := e_ishr e3 12 4096
  have := e_hbN e4 5 32 224 (by omega)
  have : (-32 : Int32).toInt = -32 := by decide
  have := i_eq q1
  have : (4 : Int32).toInt = 4 := by decide
  have := e_ishr e5 4 16
  have : (-2 : Int32).toInt = -2 := by decide
  exact o_eq (by omega)
theorem D35_6 : Dc J35 6 (.iload_n 1) 1 7 := by decide +kernel
theorem D35_7 : Dc J35 7 (.sipush 224) 3 10 := by decide +kernel
theorem D35_10 : Dc J35 10 .iand 1 11 := by decide +kernel
theorem D35_11 : Dc J35 11 (.sipush 128) 3 14 := by decide +kernel
theorem D35_14 : Dj J35 14 (.if_icmp .eq 25) 25 17 39 := by decide +kernel
theorem own_d56 {p1 v0 v1 v2 v3 v4 v5 v6 v7 v8 : Int32} (e0 : v0 = (p1 &&& 2147483647)) (e1 : v1 = (v0 % 63488)) (e2 : v2 = (2048 + v1)) (e3 : v3 = (v2 >>> ((12 : Int32) &&& 31))) (e4 : v4 = ((224 ||| v3).toInt8.toInt32)) (e5 : v5 = (v2 >>> ((6 : Int32) &&& 31))) (e6 : v6 = (v5 &&& 63)) (e7 : v7 = ((128 ||| v6).toInt8.toInt32)) (e8 : v8 = (v7 &&& 224)) (q0 : v2 < 55296) (q1 : v4 = (-32)) : ¬ (v8 = 128) := by
  have : (2048 : Int32).toInt = 2048 := by decide
  have := rng32 p1
  have : (2147483647 : Int32).toInt = 2147483647 := by decide
  have := e_mask e0 31 2147483648
  have : (63488 : Int32).toInt = 63488 := by decide
  have := e_iremN e1 63488 (by omega)
  have := e_iaddN e2 (by omega)
  have : (55296 : Int32).toInt = 55296 := by decide
  have := i_lt q0
  have : (12 : Int32).toInt = 12 := by decide
  have := e_ishr e3 12 4096
  have := e_hbN e4 5 32 224 (by omega)
  have : (-32 : Int32).toInt = -32 := by decide
  have := i_eq q1
  have : (6 : Int32).toInt = 6 := by decide
  have := e_ishr e5 6 64
  have : (63 : Int32).toInt = 63 := by decide
  have := e_mask e6 6 64
  have := e_hbN e7 7 128 128 (by omega)
  have : (224 : Int32).toInt = 224 := by decide
  have : v7.toInt % 256 = v7.toInt + 256 := by omega
  have := e_mask2 e8 5 3 256 32
  have : (128 : Int32).toInt = 128 := by decide
  exact o_neq (by omega)
theorem D35_17 : Dc J35 17 (.iload_n 1) 1 18 := by decide +kernel
theorem D35_18 : Dc J35 18 (.sipush 192) 3 21 := by decide +kernel
theorem D35_21 : Dc J35 21 .iand 1 22 := by decide +kernel
theorem D35_22 : Dc J35 22 (.sipush 128) 3 25 := by decide +kernel
theorem D35_25 : Dj J35 25 (.if_icmp .ne 14) 14 28 39 := by decide +kernel
theorem own_d57 {p1 v0 v1 v2 v3 v4 v5 v6 v7 v8 : Int32} (e0 : v0 = (p1 &&& 2147483647)) (e1 : v1 = (v0 % 63488)) (e2 : v2 = (2048 + v1)) (e3 : v3 = (v2 >>> ((12 : Int32) &&& 31))) (e4 : v4 = ((224 ||| v3).toInt8.toInt32)) (e5 : v5 = (v2 >>> ((6 : Int32) &&& 31))) (e6 : v6 = (v5 &&& 63)) (e7 : v7 = ((128 ||| v6).toInt8.toInt32)) (e8 : v8 = (v7 &&& 192)) (q0 : v2 < 55296) (q1 : v4 = (-32)) : v8 = 128 := by
  have : (2048 : Int32).toInt = 2048 := by decide
  have := rng32 p1
  have : (2147483647 : Int32).toInt = 2147483647 := by decide
  have := e_mask e0 31 2147483648
  have : (63488 : Int32).toInt = 63488 := by decide
  have := e_iremN e1 63488 (by omega)
  have := e_iaddN e2 (by omega)
  have : (55296 : Int32).toInt = 55296 := by decide
  have := i_lt q0
  have : (12 : Int32).toInt = 12 := by decide
  have := e_ishr e3 12 4096
  have := e_hbN e4 5 32 224 (by omega)
  have : (-32 : Int32).toInt = -32 := by decide
  have := i_eq q1
  have : (6 : Int32).toInt = 6 := by decide
  have := e_ishr e5 6 64
  have : (63 : Int32).toInt = 63 := by decide
  have := e_mask e6 6 64
  have := e_hbN e7 7 128 128 (by omega)
  have : (192 : Int32).toInt = 192 := by decide
  have : v7.toInt % 256 = v7.toInt + 256 := by omega
  have := e_mask2 e8 6 2 256 64
  have : (128 : Int32).toInt = 128 := by decide
  exact o_eq (by omega)
theorem D35_28 : Dc J35 28 (.iload_n 2) 1 29 := by decide +kernel
theorem D35_29 : Dc J35 29 (.sipush 192) 3 32 := by decide +kernel
theorem D35_32 : Dc J35 32 .iand 1 33 := by decide +kernel
theorem D35_33 : Dc J35 33 (.sipush 128) 3 36 := by decide +kernel
theorem D35_36 : Dj J35 36 (.if_icmp .eq 7) 7 39 43 := by decide +kernel
theorem own_d58 {p1 v0 v1 v2 v3 v4 v5 v6 v7 : Int32} (e0 : v0 = (p1 &&& 2147483647)) (e1 : v1 = (v0 % 63488)) (e2 : v2 = (2048 + v1)) (e3 : v3 = (v2 >>> ((12 : Int32) &&& 31))) (e4 : v4 = ((224 ||| v3).toInt8.toInt32)) (e5 : v5 = (v2 &&& 63)) (e6 : v6 = ((128 ||| v5).toInt8.toInt32)) (e7 : v7 = (v6 &&& 192)) (q0 : v2 < 55296) (q1 : v4 = (-32)) : v7 = 128 := by
  have : (2048 : Int32).toInt = 2048 := by decide
  have := rng32 p1
  have : (2147483647 : Int32).toInt = 2147483647 := by decide
  have := e_mask e0 31 2147483648
  have : (63488 : Int32).toInt = 63488 := by decide
  have := e_iremN e1 63488 (by omega)
  have := e_iaddN e2 (by omega)
  have : (55296 : Int32).toInt = 55296 := by decide
  have := i_lt q0
  have : (12 : Int32).toInt = 12 := by decide
  have := e_ishr e3 12 4096
  have := e_hbN e4 5 32 224 (by omega)
  have : (-32 : Int32).toInt = -32 := by decide
  have := i_eq q1
  have : (63 : Int32).toInt = 63 := by decide
  have := e_mask e5 6 64
  have := e_hbN e6 7 128 128 (by omega)
  have : (192 : Int32).toInt = 192 := by decide
  have : v6.toInt % 256 = v6.toInt + 256 := by omega
  have := e_mask2 e7 6 2 256 64
  have : (128 : Int32).toInt = 128 := by decide
  exact o_eq (by omega)
theorem D35_43 : Dc J35 43 (.iconst 0) 1 44 := by decide +kernel
theorem D35_44 : Dc J35 44 .ireturn 1 45 := by decide +kernel
theorem PN35 : plainFor Y35 = true := plainFor_of_name pn_String
theorem ef_III_3 {x0 : Int32} {x1 : Int32} {x2 : Int32}  (m : MethodId) : entryFrame m #[(.int x0), (.int x1), (.int x2)] 3 = mkF m 0 #[.val (.int x0), .val (.int x1), .val (.int x2)] [] := by
  first | (simp [entryFrame, mkF, argsToLocals, Value.category]; done) | rfl
theorem R_String_isMalformed3_2 {p1 p2 p3 : Int32} (hw : HW a0 Z) (pr1 : p1 = (-32)) (pr2 : ¬ ((p2 &&& 224) = 128)) (pr3 : (p2 &&& 192) = 128) (pr4 : (p3 &&& 192) = 128) : Mt false [] l Y35 C35 (rmk 0 0 0 0) #[.int p1, .int p2, .int p3] Z a0 h0 n0 (Pv h0 (.int 0)) := by
  refine Mt.go PN35 (Or.inl rfl) ef_III_3 fun k => ?_
  replace k := k |>.iloadN D35_0 rfl |>.bipush D35_1 (-32) |>.icmpNo D35_3 (teq pr1).2 |>.iloadN D35_6 rfl |>.sipush D35_7 224 |>.iand D35_10 rfl |>.sipush D35_11 128 |>.icmpNo D35_14 (feq pr2).1 |>.iloadN D35_17 rfl |>.sipush D35_18 192 |>.iand D35_21 rfl |>.sipush D35_22 128
  replace k := k |>.icmpNo D35_25 (teq pr3).2 |>.iloadN D35_28 rfl |>.sipush D35_29 192 |>.iand D35_32 rfl |>.sipush D35_33 128 |>.icmpYes D35_36 (teq pr4).1 |>.iconst D35_43 0
  exact k.retN (t := .boolean) D35_44 rfl (by simp) (z' := 0) (by decide) ⟨rfl, rfl⟩
abbrev w_194 (hw : HW a0 Z) := hw _ (List.mem_of_getElem? (i := 194) rfl)
abbrev w_196 (hw : HW a0 Z) := hw _ (List.mem_of_getElem? (i := 196) rfl)
theorem pd_III_r_Z : parseMethodDescriptor "(III)Z" = some ⟨[.int, .int, .int], some .boolean⟩ := by decide +kernel
abbrev w_195 (hw : HW a0 Z) := hw _ (List.mem_of_getElem? (i := 195) rfl)
theorem S35 (hw : HW a0 Z) : SC Z a0 Y35 C35 3 (some .boolean) 3 := ⟨(w_195 hw), ⟨⟨_, Or.inl rfl⟩, (w_196 hw), (w_7 hw), by decide, _, _, pd_III_r_Z, rfl⟩⟩
theorem D15_184 : Dj J15 184 (.ifCond .eq 40) 40 187 224 := by decide +kernel
theorem D15_224 : Dc J15 224 (.iload 6) 2 226 := by decide +kernel
theorem D15_226 : Dc J15 226 (.iload 7) 2 228 := by decide +kernel
theorem D15_228 : Dc J15 228 (.iload 8) 2 230 := by decide +kernel
theorem D15_230 : Dc J15 230 (.invokestatic 400) 3 233 := by decide +kernel
abbrev Y36 : MethodName := ⟨"java/lang/String", "decode3", "(III)C"⟩
abbrev J36 := jdk_42_method_36_code
abbrev C36 : Cond := .code Y36 J36 3 (some .char)
theorem D36_0 : Dc J36 0 (.iload_n 0) 1 1 := by decide +kernel
theorem D36_1 : Dc J36 1 (.bipush 12) 2 3 := by decide +kernel
theorem D36_3 : Dc J36 3 .ishl 1 4 := by decide +kernel
theorem D36_4 : Dc J36 4 (.iload_n 1) 1 5 := by decide +kernel
theorem D36_5 : Dc J36 5 (.bipush 6) 2 7 := by decide +kernel
theorem D36_7 : Dc J36 7 .ishl 1 8 := by decide +kernel
theorem D36_8 : Dc J36 8 .ixor 1 9 := by decide +kernel
theorem D36_9 : Dc J36 9 (.iload_n 2) 1 10 := by decide +kernel
theorem D36_10 : Dc J36 10 (.ldc_w 383) 3 13 := by decide +kernel
abbrev w_200 (hw : HW a0 Z) := hw _ (List.mem_of_getElem? (i := 200) rfl)
theorem D36_13 : Dc J36 13 .ixor 1 14 := by decide +kernel
theorem D36_14 : Dc J36 14 .ixor 1 15 := by decide +kernel
theorem D36_15 : Dc J36 15 .i2c 1 16 := by decide +kernel
theorem D36_16 : Dc J36 16 .ireturn 1 17 := by decide +kernel
theorem PN36 : plainFor Y36 = true := plainFor_of_name pn_String
theorem R_String_decode3_1 {p1 p2 p3 : Int32} (hw : HW a0 Z) : Mt false [] l Y36 C36 (rmk 0 0 0 0) #[.int p1, .int p2, .int p3] Z a0 h0 n0 (Pv h0 (.int ((((p1 <<< ((12 : Int32) &&& 31)) ^^^ (p2 <<< ((6 : Int32) &&& 31))) ^^^ (p3 ^^^ (-123008))).toUInt32.toUInt16.toUInt32.toInt32))) := by
  refine Mt.go PN36 (Or.inl rfl) ef_III_3 fun k => ?_
  replace k := k |>.iloadN D36_0 rfl |>.bipush D36_1 12 |>.ishl D36_3 rfl |>.iloadN D36_4 rfl |>.bipush D36_5 6 |>.ishl D36_7 rfl |>.ixor D36_8 rfl |>.iloadN D36_9 rfl |>.ldcwI (w_200 hw) D36_10 |>.ixor D36_13 rfl |>.ixor D36_14 rfl |>.i2c D36_15 rfl
  exact k.retN (t := .char) D36_16 rfl (by simp) (own_nnCi2c _) ⟨rfl, rfl⟩
abbrev w_197 (hw : HW a0 Z) := hw _ (List.mem_of_getElem? (i := 197) rfl)
abbrev w_199 (hw : HW a0 Z) := hw _ (List.mem_of_getElem? (i := 199) rfl)
theorem pd_III_r_C : parseMethodDescriptor "(III)C" = some ⟨[.int, .int, .int], some .char⟩ := by decide +kernel
abbrev w_198 (hw : HW a0 Z) := hw _ (List.mem_of_getElem? (i := 198) rfl)
theorem S36 (hw : HW a0 Z) : SC Z a0 Y36 C36 3 (some .char) 3 := ⟨(w_198 hw), ⟨⟨_, Or.inl rfl⟩, (w_199 hw), (w_7 hw), by decide, _, _, pd_III_r_C, rfl⟩⟩
theorem D15_233 : Dc J15 233 (.istore 9) 2 235 := by decide +kernel
theorem D15_235 : Dc J15 235 (.iload 9) 2 237 := by decide +kernel
theorem D15_237 : Dc J15 237 (.invokestatic 404) 3 240 := by decide +kernel
abbrev Y37 : MethodName := ⟨"java/lang/Character", "isSurrogate", "(C)Z"⟩
abbrev J37 := jdk_89_method_16_code
abbrev C37 : Cond := .code Y37 J37 1 (some .boolean)
theorem D37_0 : Dc J37 0 (.iload_n 0) 1 1 := by decide +kernel
theorem D37_1 : Dc J37 1 (.ldc 75) 2 3 := by decide +kernel
abbrev w_204 (hw : HW a0 Z) := hw _ (List.mem_of_getElem? (i := 204) rfl)
theorem D37_3 : Dj J37 3 (.if_icmp .lt 13) 13 6 16 := by decide +kernel
theorem own_d59 {p1 v0 v1 v2 v3 v4 v5 v6 v7 v8 v9 : Int32} (e0 : v0 = (p1 &&& 2147483647)) (e1 : v1 = (v0 % 63488)) (e2 : v2 = (2048 + v1)) (e3 : v3 = (v2 >>> ((12 : Int32) &&& 31))) (e4 : v4 = ((224 ||| v3).toInt8.toInt32)) (e5 : v5 = (v2 >>> ((6 : Int32) &&& 31))) (e6 : v6 = (v5 &&& 63)) (e7 : v7 = (v2 &&& 63)) (e8 : v8 = ((((224 ||| v3).toInt8.toInt32 <<< ((12 : Int32) &&& 31)) ^^^ ((128 ||| v6).toInt8.toInt32 <<< ((6 : Int32) &&& 31))) ^^^ ((128 ||| v7).toInt8.toInt32 ^^^ (-123008)))) (e9 : v9 = (v8.toUInt32.toUInt16.toUInt32.toInt32)) (q0 : v2 < 55296) (q1 : v4 = (-32)) : v9 < 55296 := by
  have : (2048 : Int32).toInt = 2048 := by decide
  have := rng32 p1
  have : (2147483647 : Int32).toInt = 2147483647 := by decide
  have := e_mask e0 31 2147483648
  have : (63488 : Int32).toInt = 63488 := by decide
  have := e_iremN e1 63488 (by omega)
  have := e_iaddN e2 (by omega)
  have : (55296 : Int32).toInt = 55296 := by decide
  have := i_lt q0
  have : (12 : Int32).toInt = 12 := by decide
  have := e_ishr e3 12 4096
  have := e_hbN e4 5 32 224 (by omega)
  have : (-32 : Int32).toInt = -32 := by decide
  have := i_eq q1
  have : (6 : Int32).toInt = 6 := by decide
  have := e_ishr e5 6 64
  have : (63 : Int32).toInt = 63 := by decide
  have := e_mask e6 6 64
  have := e_mask e7 6 64
  have := e_dec3 e8 (by omega) (by omega) (by omega) (by omega) (by omega) (by omega)
  have := e_i2cN e9 (by omega)
  exact o_lt (by omega)
theorem D37_16 : Dc J37 16 (.iconst 0) 1 17 := by decide +kernel
theorem D37_17 : Dc J37 17 .ireturn 1 18 := by decide +kernel
theorem pn_Character : plainName "java/lang/Character" = true := by first | (simp [plainName, overriddenIn]; done) | decide +kernel
theorem PN37 : plainFor Y37 = true := plainFor_of_name pn_Character
theorem R_Character_isSurrogate_1 {p1 : Int32} (hw : HW a0 Z) (pr1 : p1 < 55296) : Mt false [] l Y37 C37 (rmk 0 0 0 0) #[.int p1] Z a0 h0 n0 (Pv h0 (.int 0)) := by
  refine Mt.go PN37 (Or.inl rfl) ef_I_1 fun k => ?_
  replace k := k |>.iloadN D37_0 rfl |>.ldcI (w_204 hw) D37_1 |>.icmpYes D37_3 (tlt pr1).1 |>.iconst D37_16 0
  exact k.retN (t := .boolean) D37_17 rfl (by simp) (z' := 0) (by decide) ⟨rfl, rfl⟩
abbrev w_201 (hw : HW a0 Z) := hw _ (List.mem_of_getElem? (i := 201) rfl)
abbrev w_203 (hw : HW a0 Z) := hw _ (List.mem_of_getElem? (i := 203) rfl)
abbrev w_138 (hw : HW a0 Z) := hw _ (List.mem_of_getElem? (i := 138) rfl)
theorem pd_C_r_Z : parseMethodDescriptor "(C)Z" = some ⟨[.char], some .boolean⟩ := by decide +kernel
abbrev w_202 (hw : HW a0 Z) := hw _ (List.mem_of_getElem? (i := 202) rfl)
theorem S37 (hw : HW a0 Z) : SC Z a0 Y37 C37 1 (some .boolean) 1 := ⟨(w_202 hw), ⟨⟨_, Or.inl rfl⟩, (w_203 hw), (w_138 hw), by decide, _, _, pd_C_r_Z, rfl⟩⟩
theorem D15_240 : Dj J15 240 (.ifCond .eq 29) 29 243 269 := by decide +kernel
theorem D15_269 : Dc J15 269 (.aload_n 3) 1 270 := by decide +kernel
theorem D15_270 : Dc J15 270 (.iload 4) 2 272 := by decide +kernel
theorem D15_272 : Dc J15 272 (.iinc 4 1) 3 275 := by decide +kernel
theorem D15_275 : Dc J15 275 (.iload 9) 2 277 := by decide +kernel
theorem D15_277 : Dc J15 277 (.invokestatic 64) 3 280 := by decide +kernel
theorem R_StringUTF16_putChar_5 {a1 : Addr} {p2 : Int32} (hw : HW a0 Z) (pr1 : TS_AD Z) (pr2 : TS_HI Z) (pr3 : Ary Z h0 a1 ATB 8 (lv [.int 0, .int 0, .int 0, .int 0, .int 0, .int 0, .int 0, .int 0])) (pr4 : n0 ≤ a1) (pr5 : TS_LO Z) : Mt false [] l Y17 C17 (rmk 0 0 0 0) #[.ref a1, .int 0, .int p2] Z a0 h0 n0 (K0 h0 [a1] fun h => Ary Z h a1 ATB 8 (lv [.int ((p2 >>> ((0 : Int32) &&& 31)).toInt8.toInt32), .int ((p2 >>> ((8 : Int32) &&& 31)).toInt8.toInt32), .int 0, .int 0, .int 0, .int 0, .int 0, .int 0])) := by
  refine Mt.go PN17 (Or.inl rfl) ef_RII_3_0 fun k => ?_
  replace k := k |>.getS (fl_149 hw) pr1 D17_0 |>.ifYes D17_3 (by decide) |>.iloadN D17_28 rfl |>.iconst D17_29 1 |>.ishl D17_30 (z := 0) (by decide) |>.istoreN D17_31 sto1 |>.aloadN D17_32 rfl rfl |>.iloadN D17_33 rfl |>.iinc D17_34 rfl (z := 1) (by decide) sto1 |>.iloadN D17_37 rfl |>.getS (fl_150 hw) pr2 D17_38 |>.ishr D17_41 rfl
  replace k := k |>.i2b D17_42 rfl
  obtain ⟨h1, K1, O1, k⟩ := k.stB pr3 pr4 (Or.inl rfl) D17_43 (i := 0) (by decide) (v := (.int ((p2 >>> ((0 : Int32) &&& 31)).toInt8.toInt32))) (congrArg Value.int (own_nnBi2b _)) (own_fitBi2b _) lvs0
  replace k := k |>.aloadN D17_44 rfl rfl |>.iloadN D17_45 rfl |>.iloadN D17_46 rfl |>.getS (fl_151 hw) pr5 D17_47 |>.ishr D17_50 rfl |>.i2b D17_51 rfl
  obtain ⟨h2, K2, O2, k⟩ := k.stB O1 pr4 (Or.inl rfl) D17_52 (i := 1) (by decide) (v := (.int ((p2 >>> ((8 : Int32) &&& 31)).toInt8.toInt32))) (congrArg Value.int (own_nnBi2b _)) (own_fitBi2b _) lvs1
  exact k.ret0 D17_53 rfl ⟨rfl, (K1.trans K2 (allS (Or.inl (List.mem_of_getElem? (i := 0) rfl)) all0)), O2⟩
theorem D15_280 : Dj J15 280 (.goto (-280)) (-280) 283 0 := by decide +kernel
theorem R_StringUTF16_putChar_6 {a1 : Addr} {p2 p3 p4 : Int32} (hw : HW a0 Z) (pr1 : TS_AD Z) (pr2 : TS_HI Z) (pr3 : Ary Z h0 a1 ATB 8 (lv [.int p3, .int p4, .int 0, .int 0, .int 0, .int 0, .int 0, .int 0])) (pr4 : n0 ≤ a1) (pr5 : TS_LO Z) : Mt false [] l Y17 C17 (rmk 0 0 0 0) #[.ref a1, .int 1, .int p2] Z a0 h0 n0 (K0 h0 [a1] fun h => Ary Z h a1 ATB 8 (lv [.int p3, .int p4, .int ((p2 >>> ((0 : Int32) &&& 31)).toInt8.toInt32), .int ((p2 >>> ((8 : Int32) &&& 31)).toInt8.toInt32), .int 0, .int 0, .int 0, .int 0])) := by
  refine Mt.go PN17 (Or.inl rfl) ef_RII_3_1 fun k => ?_
  replace k := k |>.getS (fl_149 hw) pr1 D17_0 |>.ifYes D17_3 (by decide) |>.iloadN D17_28 rfl |>.iconst D17_29 1 |>.ishl D17_30 (z := 2) (by decide) |>.istoreN D17_31 sto1 |>.aloadN D17_32 rfl rfl |>.iloadN D17_33 rfl |>.iinc D17_34 rfl (z := 3) (by decide) sto1 |>.iloadN D17_37 rfl |>.getS (fl_150 hw) pr2 D17_38 |>.ishr D17_41 rfl
  replace k := k |>.i2b D17_42 rfl
  obtain ⟨h1, K1, O1, k⟩ := k.stB pr3 pr4 (Or.inl rfl) D17_43 (i := 2) (by decide) (v := (.int ((p2 >>> ((0 : Int32) &&& 31)).toInt8.toInt32))) (congrArg Value.int (own_nnBi2b _)) (own_fitBi2b _) lvs2
  replace k := k |>.aloadN D17_44 rfl rfl |>.iloadN D17_45 rfl |>.iloadN D17_46 rfl |>.getS (fl_151 hw) pr5 D17_47 |>.ishr D17_50 rfl |>.i2b D17_51 rfl
  obtain ⟨h2, K2, O2, k⟩ := k.stB O1 pr4 (Or.inl rfl) D17_52 (i := 3) (by decide) (v := (.int ((p2 >>> ((8 : Int32) &&& 31)).toInt8.toInt32))) (congrArg Value.int (own_nnBi2b _)) (own_fitBi2b _) lvs3
  exact k.ret0 D17_53 rfl ⟨rfl, (K1.trans K2 (allS (Or.inl (List.mem_of_getElem? (i := 0) rfl)) all0)), O2⟩
theorem ef_RIIRII_11_0_4_0_1 {x0 : Addr} {x3 : Addr}  (m : MethodId) : entryFrame m #[(.ref x0), (.int 0), (.int 4), (.ref x3), (.int 0), (.int 1)] 11 = mkF m 0 #[.val (.ref x0), .val (.int 0), .val (.int 4), .val (.ref x3), .val (.int 0), .val (.int 1), .unset, .unset, .unset, .unset, .unset] [] := by
  first | (simp [entryFrame, mkF, argsToLocals, Value.category]; done) | rfl
theorem R_String_decodeUTF8_UTF16_20 {a1 a2 : Addr} {p3 p4 p5 p6 : Int32} (hw : HW a0 Z) (pr1 : Ary Z h0 a1 ATB 4 (lv [.int p3, .int p4, .int p5, .int p6])) (pr2 : p3 < 0) (pr3 : ¬ ((p3 >>> ((5 : Int32) &&& 31)) = (-2))) (pr4 : (p3 >>> ((4 : Int32) &&& 31)) = (-2)) (pr5 : p3 = (-32)) (pr6 : ¬ ((p4 &&& 224) = 128)) (pr7 : (p4 &&& 192) = 128) (pr8 : (p5 &&& 192) = 128) (pr9 : ((((p3 <<< ((12 : Int32) &&& 31)) ^^^ (p4 <<< ((6 : Int32) &&& 31))) ^^^ (p5 ^^^ (-123008))).toUInt32.toUInt16.toUInt32.toInt32) < 55296) (pr10 : Ary Z h0 a2 ATB 8 (lv [.int 0, .int 0, .int 0, .int 0, .int 0, .int 0, .int 0, .int 0])) (pr11 : n0 ≤ a2) (pr12 : TS_AD Z) (pr13 : TS_HI Z) (pr14 : TS_LO Z) (pr15 : a1 ≠ a2) (pr16 : ¬ (p6 < 0)) : Mt false [] l Y15 C15 (rmk 1 0 0 14) #[.ref a1, .int 0, .int 4, .ref a2, .int 0, .int 1] Z a0 h0 n0 (KpV h0 [a2] fun v h => v = (.int 2) ∧ Ary Z h a2 ATB 8 (lv [.int ((((((p3 <<< ((12 : Int32) &&& 31)) ^^^ (p4 <<< ((6 : Int32) &&& 31))) ^^^ (p5 ^^^ (-123008))).toUInt32.toUInt16.toUInt32.toInt32) >>> ((0 : Int32) &&& 31)).toInt8.toInt32), .int ((((((p3 <<< ((12 : Int32) &&& 31)) ^^^ (p4 <<< ((6 : Int32) &&& 31))) ^^^ (p5 ^^^ (-123008))).toUInt32.toUInt16.toUInt32.toInt32) >>> ((8 : Int32) &&& 31)).toInt8.toInt32), .int (((p6.toUInt32.toUInt16.toUInt32.toInt32) >>> ((0 : Int32) &&& 31)).toInt8.toInt32), .int (((p6.toUInt32.toUInt16.toUInt32.toInt32) >>> ((8 : Int32) &&& 31)).toInt8.toInt32), .int 0, .int 0, .int 0, .int 0])) := by
  refine Mt.go PN15 (Or.inl rfl) ef_RIIRII_11_0_4_0_1 fun k => ?_
  replace k := k |>.iloadN D15_0 rfl |>.iloadN D15_1 rfl |>.icmpNo D15_2 (by decide) |>.aloadN D15_5 rfl rfl |>.iloadN D15_6 rfl |>.iinc D15_7 rfl (z := 1) (by decide) sto1 |>.bald pr1 D15_10 (i := 0) (by decide) lvg0 |>.istore D15_11 sto6 |>.iload D15_13 rfl |>.ifYes D15_15 ((if0 _ _).trans (tlt pr2).1) |>.iload D15_33 rfl |>.iconst D15_35 5
  replace k := k |>.ishr D15_36 rfl |>.bipush D15_37 (-2) |>.icmpYes D15_39 (feq pr3).2 |>.iload D15_143 rfl |>.iconst D15_145 4 |>.ishr D15_146 rfl |>.bipush D15_147 (-2) |>.icmpNo D15_149 (teq pr4).2 |>.iloadN D15_152 rfl |>.iconst D15_153 1 |>.iadd D15_154 (z := 2) (by decide) |>.iloadN D15_155 rfl
  replace k := k |>.icmpNo D15_156 (by decide) |>.aloadN D15_159 rfl rfl |>.iloadN D15_160 rfl |>.iinc D15_161 rfl (z := 2) (by decide) sto1 |>.bald pr1 D15_164 (i := 1) (by decide) lvg1 |>.istore D15_165 sto7 |>.aloadN D15_167 rfl rfl |>.iloadN D15_168 rfl |>.iinc D15_169 rfl (z := 3) (by decide) sto1 |>.bald pr1 D15_172 (i := 2) (by decide) lvg2 |>.istore D15_173 sto8 |>.iload D15_175 rfl
  replace k := k |>.iload D15_177 rfl |>.iload D15_179 rfl
  replace k := (k.callS (w_194 hw) (S35 hw) (R_String_isMalformed3_2 hw pr5 pr6 pr7 pr8) D15_181 0 rfl).pv
  replace k := k |>.ifYes D15_184 (by decide) |>.iload D15_224 rfl |>.iload D15_226 rfl |>.iload D15_228 rfl
  replace k := (k.callS (w_197 hw) (S36 hw) (R_String_decode3_1 hw) D15_230 0 rfl).pv
  replace k := k |>.istore D15_233 sto9 |>.iload D15_235 rfl
  replace k := (k.callS (w_201 hw) (S37 hw) (R_Character_isSurrogate_1 hw pr9) D15_237 0 rfl).pv
  replace k := k |>.ifYes D15_240 (by decide) |>.aloadN D15_269 rfl rfl |>.iload D15_270 rfl |>.iinc D15_272 rfl (z := 1) (by decide) sto4 |>.iload D15_275 rfl
  obtain ⟨h4, K4, f4_0, k⟩ := (k.callS (w_146 hw) (S17 hw) (R_StringUTF16_putChar_5 hw pr12 pr13 pr10 pr11 pr14) D15_277 0 rfl).k0 (allS pr11 all0)
  replace k := k |>.goto D15_280 |>.iloadN D15_0 rfl |>.iloadN D15_1 rfl |>.icmpNo D15_2 (by decide) |>.aloadN D15_5 rfl rfl |>.iloadN D15_6 rfl |>.iinc D15_7 rfl (z := 4) (by decide) sto1
  have o5 := pr1.keep K4 (ninS pr15 nin0)
  replace k := k |>.bald o5 D15_10 (i := 3) (by decide) lvg3 |>.istore D15_11 sto6 |>.iload D15_13 rfl |>.ifNo D15_15 ((if0 _ _).trans (flt pr16).1) |>.aloadN D15_18 rfl rfl |>.iload D15_19 rfl |>.iinc D15_21 rfl (z := 2) (by decide) sto4 |>.iload D15_24 rfl |>.i2c D15_26 rfl
  obtain ⟨h6, K6, f6_0, k⟩ := (k.callS (w_146 hw) (S17 hw) (R_StringUTF16_putChar_6 hw pr12 pr13 f4_0 pr11 pr14) D15_27 0 rfl).k0 (allS pr11 all0)
  replace k := k |>.goto D15_30 |>.goto D15_618 |>.iloadN D15_0 rfl |>.iloadN D15_1 rfl |>.icmpYes D15_2 (by decide) |>.iload D15_621 rfl
  exact k.retI D15_623 rfl ⟨_, rfl, (K4.trans K6 (allS (Or.inl (List.mem_of_getElem? (i := 0) rfl)) all0)), rfl, f6_0⟩
theorem ef_II_2_8_4   (m : MethodId) : entryFrame m #[(.int 8), (.int 4)] 2 = mkF m 0 #[.val (.int 8), .val (.int 4)] [] := by
  first | (simp [entryFrame, mkF, argsToLocals, Value.category]; done) | rfl
theorem R_Math_min_3 (hw : HW a0 Z) : Mt false [] l Y34 C34 (rmk 0 0 0 0) #[.int 8, .int 4] Z a0 h0 n0 (Pv h0 (.int 4)) := by
  refine Mt.go PN34 (Or.inl rfl) ef_II_2_8_4 fun k => ?_
  replace k := k |>.iloadN D34_0 rfl |>.iloadN D34_1 rfl |>.icmpYes D34_2 (by decide) |>.iloadN D34_9 rfl
  exact k.retI D34_10 rfl ⟨rfl, rfl⟩
theorem R_Arrays_copyOf_3 {a1 : Addr} {p2 p3 p4 p5 : Int32} (hw : HW a0 Z) (pr1 : Ary Z h0 a1 ATB 8 (lv [.int p2, .int p3, .int p4, .int p5, .int 0, .int 0, .int 0, .int 0])) : Mt false [] l Y33 C33 (rmk 1 1 4 18) #[.ref a1, .int 4] Z a0 h0 n0 (KpV h0 [] fun v h => ∃ b1 : Addr, v = (.ref b1) ∧ h0.size ≤ b1 ∧ Ary Z h b1 ATB 4 (lv [.int p2, .int p3, .int p4, .int p5])) := by
  refine Mt.go PN33 (Or.inl rfl) ef_RI_3_4 fun k => ?_
  have nz := k.n0le
  replace k := k |>.iloadN D33_0 rfl |>.aloadN D33_1 rfl rfl |>.alen pr1 D33_2 (z := 8) (by decide) |>.icmpYes D33_3 (by decide) |>.iloadN D33_14 rfl
  have z1 := k.sz
  obtain ⟨b1, h1, g1, K1, O1, k⟩ := k.newP (aty := .byte) "[B" (w_0 hw) (by decide) D33_15 4 (by decide) (n := 4) (by decide) (by decide) (by decide) (lv_const (V := [(.int 0), (.int 0), (.int 0), (.int 0)]) rfl)
  replace k := k |>.astoreN D33_17 rfl sto2 |>.aloadN D33_18 rfl rfl |>.iconst D33_19 0 |>.aloadN D33_20 rfl rfl |>.iconst D33_21 0 |>.aloadN D33_22 rfl rfl
  have o2 := pr1.keep K1 nin0
  replace k := k |>.alen o2 D33_23 (z := 8) (by decide) |>.iloadN D33_24 rfl
  replace k := (k.callS (w_159 hw) (S34 hw) (R_Math_min_3 hw) D33_25 4 rfl).pv
  have s_b1 := Nat.le_trans z1 g1
  have n_b1 := Nat.le_trans nz s_b1
  obtain ⟨h4, K4, O4, k⟩ := k.acopy (w_163 hw) (w_166 hw) (w_164 hw) (w_165 hw) o2 O1 ⟨rfl, rfl⟩ (sp' := 0) (by decide) (dp' := 0) (by decide) (nn' := 4) (by decide) (by decide) (by decide) (lv_cpy (V' := [.int p2, .int p3, .int p4, .int p5]) rfl rfl) n_b1 D33_28 0
  replace k := k |>.aloadN D33_31 rfl rfl
  exact k.retA D33_32 rfl ⟨_, rfl, (K1.trans K4 (allS (Or.inr s_b1) all0)), b1, rfl, s_b1, O4⟩
theorem ef_RRRII_11_0_4 {x0 : Addr} {x1 : Addr} {x2 : Addr}  (m : MethodId) : entryFrame m #[(.ref x0), (.ref x1), (.ref x2), (.int 0), (.int 4)] 11 = mkF m 0 #[.val (.ref x0), .val (.ref x1), .val (.ref x2), .val (.int 0), .val (.int 4), .unset, .unset, .unset, .unset, .unset, .unset] [] := by
  first | (simp [entryFrame, mkF, argsToLocals, Value.category]; done) | rfl
theorem R_String__init__50 {a1 w_U8 a2 : Addr} {w_CS p3 p4 p5 p6 : Int32} {w_SF : Value} (hw : HW a0 Z) (pr1 : TS_UI Z w_U8) (pr2 : TS_CS Z w_CS) (pr3 : ¬ (w_CS = 0)) (pr4 : Ary Z h0 a2 ATB 4 (lv [.int p3, .int p4, .int p5, .int p6])) (pr5 : p3 < 0) (pr6 : ¬ ((p3 &&& 254) = 194)) (pr7 : w_SF.isRef = true) (pr8 : TS_SF Z w_SF) (pr9 : ¬ ((p3 >>> ((5 : Int32) &&& 31)) = (-2))) (pr10 : (p3 >>> ((4 : Int32) &&& 31)) = (-2)) (pr11 : p3 = (-32)) (pr12 : ¬ ((p4 &&& 224) = 128)) (pr13 : (p4 &&& 192) = 128) (pr14 : (p5 &&& 192) = 128) (pr15 : ((((p3 <<< ((12 : Int32) &&& 31)) ^^^ (p4 <<< ((6 : Int32) &&& 31))) ^^^ (p5 ^^^ (-123008))).toUInt32.toUInt16.toUInt32.toInt32) < 55296) (pr16 : ¬ (p6 < 0)) (pr17 : TS_AD Z) (pr18 : TS_HI Z) (pr19 : TS_LO Z) (pr20 : Obj Z h0 a1 L_String [.null, .int 0]) (pr21 : n0 ≤ a1) : Mt false [] l Y4 C4 (rmk 5 3 16 76) #[.ref a1, .ref w_U8, .ref a2, .int 0, .int 4] Z a0 h0 n0 (K0 h0 [a1] fun h => ∃ b1_7 : Addr, h0.size ≤ b1_7 ∧ Obj Z h a1 L_String [.ref b1_7, .int 1] ∧ Ary Z h b1_7 ATB 4 (lv [.int ((((((p3 <<< ((12 : Int32) &&& 31)) ^^^ (p4 <<< ((6 : Int32) &&& 31))) ^^^ (p5 ^^^ (-123008))).toUInt32.toUInt16.toUInt32.toInt32) >>> ((0 : Int32) &&& 31)).toInt8.toInt32), .int ((((((p3 <<< ((12 : Int32) &&& 31)) ^^^ (p4 <<< ((6 : Int32) &&& 31))) ^^^ (p5 ^^^ (-123008))).toUInt32.toUInt16.toUInt32.toInt32) >>> ((8 : Int32) &&& 31)).toInt8.toInt32), .int (((p6.toUInt32.toUInt16.toUInt32.toInt32) >>> ((0 : Int32) &&& 31)).toInt8.toInt32), .int (((p6.toUInt32.toUInt16.toUInt32.toInt32) >>> ((8 : Int32) &&& 31)).toInt8.toInt32)])) := by
  refine Mt.go PN4 (Or.inr ⟨_, rfl⟩) ef_RRRII_11_0_4 fun k => ?_
  have nz := k.n0le
  replace k := k |>.aloadN D4_0 rfl rfl |>.initO (w_23 hw) (w_24 hw) (w_25 hw) D4_1 0 |>.iload D4_4 rfl |>.ifYes D4_6 (by decide) |>.aloadN D4_30 rfl rfl |>.getS (fl_46 hw) pr1 D4_31 |>.acmpNo D4_34 rfl rfl true (decide_eq_true rfl) (by decide) |>.getS (fl_48 hw) pr2 D4_37 |>.ifNo D4_40 ((if0 _ _).trans (feq pr3).1) |>.aloadN D4_43 rfl rfl |>.iloadN D4_44 rfl |>.iload D4_45 rfl
  replace k := (k.callS (w_49 hw) (S5 hw) (R_StringCoding_countPositives_4 hw pr4 pr5) D4_47 0 rfl).pv
  replace k := k |>.istore D4_50 sto5 |>.iload D4_52 rfl |>.iload D4_54 rfl |>.icmpYes D4_56 (by decide) |>.aloadN D4_78 rfl rfl |>.iloadN D4_79 rfl |>.iloadN D4_80 rfl |>.iload D4_81 rfl |>.iadd D4_83 (z := 4) (by decide)
  have z2 := k.sz
  obtain ⟨_, h2, K2, ⟨b1_2, rfl, f2_0, f2_1⟩, k⟩ := (k.callS (w_53 hw) (S6 hw) (R_Arrays_copyOfRange_3 hw pr4) D4_84 0 rfl).kv
  replace k := k |>.astore D4_87 rfl sto6 |>.iload D4_89 rfl |>.istore D4_91 sto7 |>.iload D4_93 rfl |>.iload D4_95 rfl |>.icmpNo D4_97 (by decide) |>.aload D4_100 rfl rfl |>.iload D4_102 rfl |>.iinc D4_104 rfl (z := 1) (by decide) sto7 |>.bald f2_1 D4_107 (i := 0) (by decide) lvg0 |>.istore D4_108 sto8 |>.iload D4_110 rfl
  replace k := k |>.ifYes D4_112 ((if0 _ _).trans (tlt pr5).1) |>.iload D4_129 rfl |>.sipush D4_131 254 |>.iand D4_134 rfl |>.sipush D4_135 194 |>.icmpYes D4_138 (feq pr6).2 |>.iinc D4_184 rfl (z := 0) (by decide) sto7 |>.goto D4_187 |>.iload D4_190 rfl |>.iload D4_192 rfl |>.icmpYes D4_194 (by decide) |>.iload D4_226 rfl
  have z3 := k.sz
  obtain ⟨_, h3, K3, ⟨b2_3, rfl, f3_0, f3_1⟩, k⟩ := (k.callS (w_100 hw) (S7 hw) (R_StringUTF16_newBytesFor_3 hw) D4_228 0 rfl).kv
  replace k := k |>.astore D4_231 rfl sto8 |>.aload D4_233 rfl rfl |>.iconst D4_235 0 |>.aload D4_236 rfl rfl |>.iconst D4_238 0 |>.iload D4_239 rfl
  replace k := (k.callS (w_108 hw) (S9 hw) (R_StringLatin1_inflate_3 hw f3_1 pr7 pr8) D4_241 0 rfl).p0
  replace k := k |>.aload D4_244 rfl rfl |>.iload D4_246 rfl |>.iload D4_248 rfl |>.aload D4_250 rfl rfl |>.iload D4_252 rfl |>.iconst D4_254 1
  have s_b2_3 := Nat.le_trans z3 f3_0
  have n_b2_3 := Nat.le_trans nz s_b2_3
  have o6 := f2_1.keep K3 nin0
  obtain ⟨_, h5, K5, ⟨rfl, f5_0⟩, k⟩ := (k.callS (w_126 hw) (S15 hw) (R_String_decodeUTF8_UTF16_20 hw o6 pr5 pr9 pr10 pr11 pr12 pr13 pr14 pr15 f3_1 n_b2_3 pr17 pr18 pr19 (nlt f2_1.lt f3_0) pr16) D4_255 0 rfl).kv (allS n_b2_3 all0)
  replace k := k |>.istore D4_258 sto5 |>.iload D4_260 rfl |>.iload D4_262 rfl |>.icmpNo D4_264 (by decide) |>.aload D4_267 rfl rfl |>.iload D4_269 rfl |>.iconst D4_271 1 |>.ishl D4_272 (z := 4) (by decide)
  have z7 := k.sz
  obtain ⟨_, h7, K7, ⟨b1_7, rfl, f7_0, f7_1⟩, k⟩ := (k.callS (w_156 hw) (S33 hw) (R_Arrays_copyOf_3 hw f5_0) D4_273 0 rfl).kv
  replace k := k |>.astore D4_276 rfl sto8 |>.aloadN D4_278 rfl rfl |>.aload D4_279 rfl rfl
  have o8 := (((pr20.keep K2 nin0).keep K3 nin0).keep K5 (ninS (nlt pr20.lt s_b2_3) nin0)).keep K7 nin0
  obtain ⟨h9, K9, O9, k⟩ := k.putF (fl_31 hw) (pw_String_i_String_value hw) o8 0 pr21 (Or.inl rfl) D4_281 rfl rfl rfl ls0
  replace k := k |>.aloadN D4_284 rfl rfl |>.iconst D4_285 1
  obtain ⟨h10, K10, O10, k⟩ := k.putN (fp_32 hw) (pw_String_i_String_coder hw) O9 1 pr21 (Or.inl rfl) D4_286 rfl (v' := (.int 1)) (by decide) (by decide) ls1
  replace k := k |>.goto D4_289
  have s_b1_7 := Nat.le_trans z7 f7_0
  have o11 := (f7_1.keep K9 (ninS (nlt' pr20.lt s_b1_7) nin0)).keep K10 (ninS (nlt' pr20.lt s_b1_7) nin0)
  exact k.ret0 D4_879 rfl ⟨rfl, (((((((Keep.refl h0 [a1]).trans K2 all0).trans K3 all0).trans K5 (allS (Or.inr s_b2_3) all0)).trans K7 all0).trans K9 (allS (Or.inl (List.mem_of_getElem? (i := 0) rfl)) all0)).trans K10 (allS (Or.inl (List.mem_of_getElem? (i := 0) rfl)) all0)), b1_7, s_b1_7, O10, o11⟩
theorem R_String__init__49 {a1 a2 w_U8 : Addr} {p3 p4 p5 p6 w_CS : Int32} {w_SF : Value} (hw : HW a0 Z) (pr1 : Obj Z Z.heap w_U8 L_UTF_8 []) (pr2 : Ary Z h0 a2 ATB 4 (lv [.int p3, .int p4, .int p5, .int p6])) (pr3 : ¬ (w_CS = 0)) (pr4 : p3 < 0) (pr5 : ¬ ((p3 &&& 254) = 194)) (pr6 : ¬ ((p3 >>> ((5 : Int32) &&& 31)) = (-2))) (pr7 : (p3 >>> ((4 : Int32) &&& 31)) = (-2)) (pr8 : p3 = (-32)) (pr9 : ¬ ((p4 &&& 224) = 128)) (pr10 : (p4 &&& 192) = 128) (pr11 : (p5 &&& 192) = 128) (pr12 : ((((p3 <<< ((12 : Int32) &&& 31)) ^^^ (p4 <<< ((6 : Int32) &&& 31))) ^^^ (p5 ^^^ (-123008))).toUInt32.toUInt16.toUInt32.toInt32) < 55296) (pr13 : ¬ (p6 < 0)) (pr14 : Obj Z h0 a1 L_String [.null, .int 0]) (pr15 : n0 ≤ a1) (pr16 : w_SF.isRef = true) (pr17 : TS_UI Z w_U8) (pr18 : TS_CS Z w_CS) (pr19 : TS_SF Z w_SF) (pr20 : TS_AD Z) (pr21 : TS_HI Z) (pr22 : TS_LO Z) : Mt false [] l Y2 C2 (rmk 6 3 16 98) #[.ref a1, .ref a2, .ref w_U8] Z a0 h0 n0 (K0 h0 [a1] fun h => ∃ b1_7_2 : Addr, h0.size ≤ b1_7_2 ∧ Obj Z h a1 L_String [.ref b1_7_2, .int 1] ∧ Ary Z h b1_7_2 ATB 4 (lv [.int ((((((p3 <<< ((12 : Int32) &&& 31)) ^^^ (p4 <<< ((6 : Int32) &&& 31))) ^^^ (p5 ^^^ (-123008))).toUInt32.toUInt16.toUInt32.toInt32) >>> ((0 : Int32) &&& 31)).toInt8.toInt32), .int ((((((p3 <<< ((12 : Int32) &&& 31)) ^^^ (p4 <<< ((6 : Int32) &&& 31))) ^^^ (p5 ^^^ (-123008))).toUInt32.toUInt16.toUInt32.toInt32) >>> ((8 : Int32) &&& 31)).toInt8.toInt32), .int (((p6.toUInt32.toUInt16.toUInt32.toInt32) >>> ((0 : Int32) &&& 31)).toInt8.toInt32), .int (((p6.toUInt32.toUInt16.toUInt32.toInt32) >>> ((8 : Int32) &&& 31)).toInt8.toInt32)])) := by
  refine Mt.go PN2 (Or.inl rfl) ef_RRR_3 fun k => ?_
  replace k := k |>.aloadN D2_0 rfl rfl |>.aloadN D2_1 rfl rfl
  replace k := (k.callS (w_13 hw) (S3 hw) (R_Objects_requireNonNull_1 hw) D2_2 1 rfl).pv
  replace k := k |>.castY (w_17 hw) (Ins.of_exa (pr1.ext k.old.2).exa (w_18 hw)) D2_5 |>.aloadN D2_8 rfl rfl |>.iconst D2_9 0 |>.aloadN D2_10 rfl rfl |>.alen pr2 D2_11 (z := 4) (by decide)
  have z2 := k.sz
  obtain ⟨h2, K2, ⟨b1_7_2, f2_0, f2_1, f2_2⟩, k⟩ := (k.callI (w_19 hw) (I4 hw) (R_String__init__50 hw pr17 pr18 pr3 pr2 pr4 pr5 pr16 pr19 pr6 pr7 pr8 pr9 pr10 pr11 pr12 pr13 pr20 pr21 pr22 pr14 pr15) D2_12 0 rfl).k0 (allS pr15 all0)
  have s_b1_7_2 := Nat.le_trans z2 f2_0
  exact k.ret0 D2_15 rfl ⟨rfl, K2, b1_7_2, s_b1_7_2, f2_1, f2_2⟩
theorem R_Utf8_decodeName_25 {a1 w_U8 : Addr} {p2 p3 p4 p5 w_CS : Int32} {w_SF : Value} (hw : HW a0 Z) (pr1 : TS_U8 Z w_U8) (pr2 : Ary Z h0 a1 ATB 4 (lv [.int p2, .int p3, .int p4, .int p5])) (pr3 : ¬ (w_CS = 0)) (pr4 : p2 < 0) (pr5 : ¬ ((p2 &&& 254) = 194)) (pr6 : ¬ ((p2 >>> ((5 : Int32) &&& 31)) = (-2))) (pr7 : (p2 >>> ((4 : Int32) &&& 31)) = (-2)) (pr8 : p2 = (-32)) (pr9 : ¬ ((p3 &&& 224) = 128)) (pr10 : (p3 &&& 192) = 128) (pr11 : (p4 &&& 192) = 128) (pr12 : ((((p2 <<< ((12 : Int32) &&& 31)) ^^^ (p3 <<< ((6 : Int32) &&& 31))) ^^^ (p4 ^^^ (-123008))).toUInt32.toUInt16.toUInt32.toInt32) < 55296) (pr13 : ¬ (p5 < 0)) (pr14 : w_SF.isRef = true) (pr15 : Obj Z Z.heap w_U8 L_UTF_8 []) (pr16 : TS_UI Z w_U8) (pr17 : TS_CS Z w_CS) (pr18 : TS_SF Z w_SF) (pr19 : TS_AD Z) (pr20 : TS_HI Z) (pr21 : TS_LO Z) : Mt false [] l Y1 C1 (rmk 7 4 20 113) #[.ref a1] Z a0 h0 n0 (KpV h0 [] fun v h => ∃ b1 b1_7_2_2 : Addr, v = (.ref b1) ∧ h0.size ≤ b1 ∧ h0.size ≤ b1_7_2_2 ∧ b1_7_2_2 ≠ b1 ∧ Obj Z h b1 L_String [.ref b1_7_2_2, .int 1] ∧ Ary Z h b1_7_2_2 ATB 4 (lv [.int ((((((p2 <<< ((12 : Int32) &&& 31)) ^^^ (p3 <<< ((6 : Int32) &&& 31))) ^^^ (p4 ^^^ (-123008))).toUInt32.toUInt16.toUInt32.toInt32) >>> ((0 : Int32) &&& 31)).toInt8.toInt32), .int ((((((p2 <<< ((12 : Int32) &&& 31)) ^^^ (p3 <<< ((6 : Int32) &&& 31))) ^^^ (p4 ^^^ (-123008))).toUInt32.toUInt16.toUInt32.toInt32) >>> ((8 : Int32) &&& 31)).toInt8.toInt32), .int (((p5.toUInt32.toUInt16.toUInt32.toInt32) >>> ((0 : Int32) &&& 31)).toInt8.toInt32), .int (((p5.toUInt32.toUInt16.toUInt32.toInt32) >>> ((8 : Int32) &&& 31)).toInt8.toInt32)])) := by
  refine Mt.go PN1 (Or.inl rfl) ef_R_1 fun k => ?_
  have nz := k.n0le
  have z1 := k.sz
  obtain ⟨b1, h1, g1, K1, O1, k⟩ := k.new (w_5 hw) (nw_String hw) D1_0 (by decide) dvL_String
  replace k := k |>.dup D1_3 rfl |>.aloadN D1_4 rfl rfl |>.getS (fl_8 hw) pr1 D1_5
  have s_b1 := Nat.le_trans z1 g1
  have n_b1 := Nat.le_trans nz s_b1
  have o3 := pr2.keep K1 nin0
  have z2 := k.sz
  obtain ⟨h2, K2, ⟨b1_7_2_2, f2_0, f2_1, f2_2⟩, k⟩ := (k.callI (w_10 hw) (I2 hw) (R_String__init__49 hw pr15 o3 pr3 pr4 pr5 pr6 pr7 pr8 pr9 pr10 pr11 pr12 pr13 O1 n_b1 pr14 pr16 pr17 pr18 pr19 pr20 pr21) D1_8 1 rfl).k0 (allS n_b1 all0)
  have s_b1_7_2_2 := Nat.le_trans z2 f2_0
  exact k.retA D1_11 rfl ⟨_, rfl, (K1.trans K2 (allS (Or.inr s_b1) all0)), b1, b1_7_2_2, rfl, s_b1, s_b1_7_2_2, (nlt' O1.lt f2_0), f2_1, f2_2⟩
theorem own_d60 {p1 v0 v1 v2 v3 v4 : Int32} (e0 : v0 = (p1 &&& 2147483647)) (e1 : v1 = (v0 % 63488)) (e2 : v2 = (2048 + v1)) (e3 : v3 = (v2 >>> ((12 : Int32) &&& 31))) (e4 : v4 = ((224 ||| v3).toInt8.toInt32)) (q0 : v2 < 55296) (q1 : v4 = (-32)) : v2 < 65536 := by
  have : (2048 : Int32).toInt = 2048 := by decide
  have := rng32 p1
  have : (2147483647 : Int32).toInt = 2147483647 := by decide
  have := e_mask e0 31 2147483648
  have : (63488 : Int32).toInt = 63488 := by decide
  have := e_iremN e1 63488 (by omega)
  have := e_iaddN e2 (by omega)
  have : (55296 : Int32).toInt = 55296 := by decide
  have := i_lt q0
  have : (12 : Int32).toInt = 12 := by decide
  have := e_ishr e3 12 4096
  have := e_hbN e4 5 32 224 (by omega)
  have : (-32 : Int32).toInt = -32 := by decide
  have := i_eq q1
  have : (65536 : Int32).toInt = 65536 := by decide
  exact o_lt (by omega)
theorem own_d61 {p1 v0 v1 v2 v3 v4 v5 v6 v7 v8 v9 v10 : Int32} (e0 : v0 = (p1 &&& 2147483647)) (e1 : v1 = (v0 % 63488)) (e2 : v2 = (2048 + v1)) (e3 : v3 = (v2 >>> ((12 : Int32) &&& 31))) (e4 : v4 = ((224 ||| v3).toInt8.toInt32)) (e5 : v5 = (v2 >>> ((6 : Int32) &&& 31))) (e6 : v6 = (v5 &&& 63)) (e7 : v7 = (v2 &&& 63)) (e8 : v8 = ((((224 ||| v3).toInt8.toInt32 <<< ((12 : Int32) &&& 31)) ^^^ ((128 ||| v6).toInt8.toInt32 <<< ((6 : Int32) &&& 31))) ^^^ ((128 ||| v7).toInt8.toInt32 ^^^ (-123008)))) (e9 : v9 = (v8.toUInt32.toUInt16.toUInt32.toInt32)) (e10 : v10 = (((((v9 >>> ((0 : Int32) &&& 31)).toInt8.toInt32) &&& 255) <<< ((0 : Int32) &&& 31)) ||| ((((v9 >>> ((8 : Int32) &&& 31)).toInt8.toInt32) &&& 255) <<< ((8 : Int32) &&& 31))).toUInt32.toUInt16.toUInt32.toInt32) (q0 : v2 < 55296) (q1 : v4 = (-32)) : v10 = v2 := by
  have : (2048 : Int32).toInt = 2048 := by decide
  have := rng32 p1
  have : (2147483647 : Int32).toInt = 2147483647 := by decide
  have := e_mask e0 31 2147483648
  have : (63488 : Int32).toInt = 63488 := by decide
  have := e_iremN e1 63488 (by omega)
  have := e_iaddN e2 (by omega)
  have : (55296 : Int32).toInt = 55296 := by decide
  have := i_lt q0
  have : (12 : Int32).toInt = 12 := by decide
  have := e_ishr e3 12 4096
  have := e_hbN e4 5 32 224 (by omega)
  have : (-32 : Int32).toInt = -32 := by decide
  have := i_eq q1
  have : (6 : Int32).toInt = 6 := by decide
  have := e_ishr e5 6 64
  have : (63 : Int32).toInt = 63 := by decide
  have := e_mask e6 6 64
  have := e_mask e7 6 64
  have := e_dec3 e8 (by omega) (by omega) (by omega) (by omega) (by omega) (by omega)
  have := e_i2cN e9 (by omega)
  have := e_gc e10 (by omega) (by omega)
  exact o_eq (by omega)
theorem own_d62 {p1 v0 v1 v2 v3 v4 : Int32} (e0 : v0 = (p1 &&& 2147483647)) (e1 : v1 = (v0 % 63488)) (e2 : v2 = (2048 + v1)) (e3 : v3 = (v2 >>> ((12 : Int32) &&& 31))) (e4 : v4 = ((224 ||| v3).toInt8.toInt32)) (q0 : v2 < 55296) (q1 : ¬ (v4 = (-32))) : v4 < 0 := by
  have : (2048 : Int32).toInt = 2048 := by decide
  have := rng32 p1
  have : (2147483647 : Int32).toInt = 2147483647 := by decide
  have := e_mask e0 31 2147483648
  have : (63488 : Int32).toInt = 63488 := by decide
  have := e_iremN e1 63488 (by omega)
  have := e_iaddN e2 (by omega)
  have : (55296 : Int32).toInt = 55296 := by decide
  have := i_lt q0
  have : (12 : Int32).toInt = 12 := by decide
  have := e_ishr e3 12 4096
  have := e_hbN e4 5 32 224 (by omega)
  have : (-32 : Int32).toInt = -32 := by decide
  have := i_neq q1
  have : (0 : Int32).toInt = 0 := by decide
  exact o_lt (by omega)
theorem own_d63 {p1 v0 v1 v2 v3 v4 v5 : Int32} (e0 : v0 = (p1 &&& 2147483647)) (e1 : v1 = (v0 % 63488)) (e2 : v2 = (2048 + v1)) (e3 : v3 = (v2 >>> ((12 : Int32) &&& 31))) (e4 : v4 = ((224 ||| v3).toInt8.toInt32)) (e5 : v5 = (v4 &&& 254)) (q0 : v2 < 55296) (q1 : ¬ (v4 = (-32))) : ¬ (v5 = 194) := by
  have : (2048 : Int32).toInt = 2048 := by decide
  have := rng32 p1
  have : (2147483647 : Int32).toInt = 2147483647 := by decide
  have := e_mask e0 31 2147483648
  have : (63488 : Int32).toInt = 63488 := by decide
  have := e_iremN e1 63488 (by omega)
  have := e_iaddN e2 (by omega)
  have : (55296 : Int32).toInt = 55296 := by decide
  have := i_lt q0
  have : (12 : Int32).toInt = 12 := by decide
  have := e_ishr e3 12 4096
  have := e_hbN e4 5 32 224 (by omega)
  have : (-32 : Int32).toInt = -32 := by decide
  have := i_neq q1
  have : (254 : Int32).toInt = 254 := by decide
  have : v4.toInt % 256 = v4.toInt + 256 := by omega
  have := e_mask2 e5 1 7 256 2
  have : (194 : Int32).toInt = 194 := by decide
  exact o_neq (by omega)
theorem own_d64 {p1 v0 v1 v2 v3 v4 v5 : Int32} (e0 : v0 = (p1 &&& 2147483647)) (e1 : v1 = (v0 % 63488)) (e2 : v2 = (2048 + v1)) (e3 : v3 = (v2 >>> ((12 : Int32) &&& 31))) (e4 : v4 = ((224 ||| v3).toInt8.toInt32)) (e5 : v5 = (v4 >>> ((5 : Int32) &&& 31))) (q0 : v2 < 55296) (q1 : ¬ (v4 = (-32))) : ¬ (v5 = (-2)) := by
  have : (2048 : Int32).toInt = 2048 := by decide
  have := rng32 p1
  have : (2147483647 : Int32).toInt = 2147483647 := by decide
  have := e_mask e0 31 2147483648
  have : (63488 : Int32).toInt = 63488 := by decide
  have := e_iremN e1 63488 (by omega)
  have := e_iaddN e2 (by omega)
  have : (55296 : Int32).toInt = 55296 := by decide
  have := i_lt q0
  have : (12 : Int32).toInt = 12 := by decide
  have := e_ishr e3 12 4096
  have := e_hbN e4 5 32 224 (by omega)
  have : (-32 : Int32).toInt = -32 := by decide
  have := i_neq q1
  have : (5 : Int32).toInt = 5 := by decide
  have := e_ishr e5 5 32
  have : (-2 : Int32).toInt = -2 := by decide
  exact o_neq (by omega)
theorem own_d65 {p1 v0 v1 v2 v3 v4 v5 : Int32} (e0 : v0 = (p1 &&& 2147483647)) (e1 : v1 = (v0 % 63488)) (e2 : v2 = (2048 + v1)) (e3 : v3 = (v2 >>> ((12 : Int32) &&& 31))) (e4 : v4 = ((224 ||| v3).toInt8.toInt32)) (e5 : v5 = (v4 >>> ((4 : Int32) &&& 31))) (q0 : v2 < 55296) (q1 : ¬ (v4 = (-32))) : v5 = (-2) := by
  have : (2048 : Int32).toInt = 2048 := by decide
  have := rng32 p1
  have : (2147483647 : Int32).toInt = 2147483647 := by decide
  have := e_mask e0 31 2147483648
  have : (63488 : Int32).toInt = 63488 := by decide
  have := e_iremN e1 63488 (by omega)
  have := e_iaddN e2 (by omega)
  have : (55296 : Int32).toInt = 55296 := by decide
  have := i_lt q0
  have : (12 : Int32).toInt = 12 := by decide
  have := e_ishr e3 12 4096
  have := e_hbN e4 5 32 224 (by omega)
  have : (-32 : Int32).toInt = -32 := by decide
  have := i_neq q1
  have : (4 : Int32).toInt = 4 := by decide
  have := e_ishr e5 4 16
  have : (-2 : Int32).toInt = -2 := by decide
  exact o_eq (by omega)
theorem own_d66 {p1 v0 v1 v2 v3 v4 v5 v6 v7 v8 : Int32} (e0 : v0 = (p1 &&& 2147483647)) (e1 : v1 = (v0 % 63488)) (e2 : v2 = (2048 + v1)) (e3 : v3 = (v2 >>> ((12 : Int32) &&& 31))) (e4 : v4 = ((224 ||| v3).toInt8.toInt32)) (e5 : v5 = (v2 >>> ((6 : Int32) &&& 31))) (e6 : v6 = (v5 &&& 63)) (e7 : v7 = ((128 ||| v6).toInt8.toInt32)) (e8 : v8 = (v7 &&& 192)) (q0 : v2 < 55296) (q1 : ¬ (v4 = (-32))) : v8 = 128 := by
  have : (2048 : Int32).toInt = 2048 := by decide
  have := rng32 p1
  have : (2147483647 : Int32).toInt = 2147483647 := by decide
  have := e_mask e0 31 2147483648
  have : (63488 : Int32).toInt = 63488 := by decide
  have := e_iremN e1 63488 (by omega)
  have := e_iaddN e2 (by omega)
  have : (55296 : Int32).toInt = 55296 := by decide
  have := i_lt q0
  have : (12 : Int32).toInt = 12 := by decide
  have := e_ishr e3 12 4096
  have := e_hbN e4 5 32 224 (by omega)
  have : (-32 : Int32).toInt = -32 := by decide
  have := i_neq q1
  have : (6 : Int32).toInt = 6 := by decide
  have := e_ishr e5 6 64
  have : (63 : Int32).toInt = 63 := by decide
  have := e_mask e6 6 64
  have := e_hbN e7 7 128 128 (by omega)
  have : (192 : Int32).toInt = 192 := by decide
  have : v7.toInt % 256 = v7.toInt + 256 := by omega
  have := e_mask2 e8 6 2 256 64
  have : (128 : Int32).toInt = 128 := by decide
  exact o_eq (by omega)
theorem own_d67 {p1 v0 v1 v2 v3 v4 v5 v6 v7 : Int32} (e0 : v0 = (p1 &&& 2147483647)) (e1 : v1 = (v0 % 63488)) (e2 : v2 = (2048 + v1)) (e3 : v3 = (v2 >>> ((12 : Int32) &&& 31))) (e4 : v4 = ((224 ||| v3).toInt8.toInt32)) (e5 : v5 = (v2 &&& 63)) (e6 : v6 = ((128 ||| v5).toInt8.toInt32)) (e7 : v7 = (v6 &&& 192)) (q0 : v2 < 55296) (q1 : ¬ (v4 = (-32))) : v7 = 128 := by
  have : (2048 : Int32).toInt = 2048 := by decide
  have := rng32 p1
  have : (2147483647 : Int32).toInt = 2147483647 := by decide
  have := e_mask e0 31 2147483648
  have : (63488 : Int32).toInt = 63488 := by decide
  have := e_iremN e1 63488 (by omega)
  have := e_iaddN e2 (by omega)
  have : (55296 : Int32).toInt = 55296 := by decide
  have := i_lt q0
  have : (12 : Int32).toInt = 12 := by decide
  have := e_ishr e3 12 4096
  have := e_hbN e4 5 32 224 (by omega)
  have : (-32 : Int32).toInt = -32 := by decide
  have := i_neq q1
  have : (63 : Int32).toInt = 63 := by decide
  have := e_mask e5 6 64
  have := e_hbN e6 7 128 128 (by omega)
  have : (192 : Int32).toInt = 192 := by decide
  have : v6.toInt % 256 = v6.toInt + 256 := by omega
  have := e_mask2 e7 6 2 256 64
  have : (128 : Int32).toInt = 128 := by decide
  exact o_eq (by omega)
theorem R_String_isMalformed3_3 {p1 p2 p3 : Int32} (hw : HW a0 Z) (pr1 : ¬ (p1 = (-32))) (pr2 : (p2 &&& 192) = 128) (pr3 : (p3 &&& 192) = 128) : Mt false [] l Y35 C35 (rmk 0 0 0 0) #[.int p1, .int p2, .int p3] Z a0 h0 n0 (Pv h0 (.int 0)) := by
  refine Mt.go PN35 (Or.inl rfl) ef_III_3 fun k => ?_
  replace k := k |>.iloadN D35_0 rfl |>.bipush D35_1 (-32) |>.icmpYes D35_3 (feq pr1).2 |>.iloadN D35_17 rfl |>.sipush D35_18 192 |>.iand D35_21 rfl |>.sipush D35_22 128 |>.icmpNo D35_25 (teq pr2).2 |>.iloadN D35_28 rfl |>.sipush D35_29 192 |>.iand D35_32 rfl |>.sipush D35_33 128
  replace k := k |>.icmpYes D35_36 (teq pr3).1 |>.iconst D35_43 0
  exact k.retN (t := .boolean) D35_44 rfl (by simp) (z' := 0) (by decide) ⟨rfl, rfl⟩
theorem own_d68 {p1 v0 v1 v2 v3 v4 v5 v6 v7 v8 v9 : Int32} (e0 : v0 = (p1 &&& 2147483647)) (e1 : v1 = (v0 % 63488)) (e2 : v2 = (2048 + v1)) (e3 : v3 = (v2 >>> ((12 : Int32) &&& 31))) (e4 : v4 = ((224 ||| v3).toInt8.toInt32)) (e5 : v5 = (v2 >>> ((6 : Int32) &&& 31))) (e6 : v6 = (v5 &&& 63)) (e7 : v7 = (v2 &&& 63)) (e8 : v8 = ((((224 ||| v3).toInt8.toInt32 <<< ((12 : Int32) &&& 31)) ^^^ ((128 ||| v6).toInt8.toInt32 <<< ((6 : Int32) &&& 31))) ^^^ ((128 ||| v7).toInt8.toInt32 ^^^ (-123008)))) (e9 : v9 = (v8.toUInt32.toUInt16.toUInt32.toInt32)) (q0 : v2 < 55296) (q1 : ¬ (v4 = (-32))) : v9 < 55296 := by
  have : (2048 : Int32).toInt = 2048 := by decide
  have := rng32 p1
  have : (2147483647 : Int32).toInt = 2147483647 := by decide
  have := e_mask e0 31 2147483648
  have : (63488 : Int32).toInt = 63488 := by decide
  have := e_iremN e1 63488 (by omega)
  have := e_iaddN e2 (by omega)
  have : (55296 : Int32).toInt = 55296 := by decide
  have := i_lt q0
  have : (12 : Int32).toInt = 12 := by decide
  have := e_ishr e3 12 4096
  have := e_hbN e4 5 32 224 (by omega)
  have : (-32 : Int32).toInt = -32 := by decide
  have := i_neq q1
  have : (6 : Int32).toInt = 6 := by decide
  have := e_ishr e5 6 64
  have : (63 : Int32).toInt = 63 := by decide
  have := e_mask e6 6 64
  have := e_mask e7 6 64
  have := e_dec3 e8 (by omega) (by omega) (by omega) (by omega) (by omega) (by omega)
  have := e_i2cN e9 (by omega)
  exact o_lt (by omega)
theorem R_String_decodeUTF8_UTF16_21 {a1 a2 : Addr} {p3 p4 p5 p6 : Int32} (hw : HW a0 Z) (pr1 : Ary Z h0 a1 ATB 4 (lv [.int p3, .int p4, .int p5, .int p6])) (pr2 : p3 < 0) (pr3 : ¬ ((p3 >>> ((5 : Int32) &&& 31)) = (-2))) (pr4 : (p3 >>> ((4 : Int32) &&& 31)) = (-2)) (pr5 : ¬ (p3 = (-32))) (pr6 : (p4 &&& 192) = 128) (pr7 : (p5 &&& 192) = 128) (pr8 : ((((p3 <<< ((12 : Int32) &&& 31)) ^^^ (p4 <<< ((6 : Int32) &&& 31))) ^^^ (p5 ^^^ (-123008))).toUInt32.toUInt16.toUInt32.toInt32) < 55296) (pr9 : Ary Z h0 a2 ATB 8 (lv [.int 0, .int 0, .int 0, .int 0, .int 0, .int 0, .int 0, .int 0])) (pr10 : n0 ≤ a2) (pr11 : TS_AD Z) (pr12 : TS_HI Z) (pr13 : TS_LO Z) (pr14 : a1 ≠ a2) (pr15 : ¬ (p6 < 0)) : Mt false [] l Y15 C15 (rmk 1 0 0 14) #[.ref a1, .int 0, .int 4, .ref a2, .int 0, .int 1] Z a0 h0 n0 (KpV h0 [a2] fun v h => v = (.int 2) ∧ Ary Z h a2 ATB 8 (lv [.int ((((((p3 <<< ((12 : Int32) &&& 31)) ^^^ (p4 <<< ((6 : Int32) &&& 31))) ^^^ (p5 ^^^ (-123008))).toUInt32.toUInt16.toUInt32.toInt32) >>> ((0 : Int32) &&& 31)).toInt8.toInt32), .int ((((((p3 <<< ((12 : Int32) &&& 31)) ^^^ (p4 <<< ((6 : Int32) &&& 31))) ^^^ (p5 ^^^ (-123008))).toUInt32.toUInt16.toUInt32.toInt32) >>> ((8 : Int32) &&& 31)).toInt8.toInt32), .int (((p6.toUInt32.toUInt16.toUInt32.toInt32) >>> ((0 : Int32) &&& 31)).toInt8.toInt32), .int (((p6.toUInt32.toUInt16.toUInt32.toInt32) >>> ((8 : Int32) &&& 31)).toInt8.toInt32), .int 0, .int 0, .int 0, .int 0])) := by
  refine Mt.go PN15 (Or.inl rfl) ef_RIIRII_11_0_4_0_1 fun k => ?_
  replace k := k |>.iloadN D15_0 rfl |>.iloadN D15_1 rfl |>.icmpNo D15_2 (by decide) |>.aloadN D15_5 rfl rfl |>.iloadN D15_6 rfl |>.iinc D15_7 rfl (z := 1) (by decide) sto1 |>.bald pr1 D15_10 (i := 0) (by decide) lvg0 |>.istore D15_11 sto6 |>.iload D15_13 rfl |>.ifYes D15_15 ((if0 _ _).trans (tlt pr2).1) |>.iload D15_33 rfl |>.iconst D15_35 5
  replace k := k |>.ishr D15_36 rfl |>.bipush D15_37 (-2) |>.icmpYes D15_39 (feq pr3).2 |>.iload D15_143 rfl |>.iconst D15_145 4 |>.ishr D15_146 rfl |>.bipush D15_147 (-2) |>.icmpNo D15_149 (teq pr4).2 |>.iloadN D15_152 rfl |>.iconst D15_153 1 |>.iadd D15_154 (z := 2) (by decide) |>.iloadN D15_155 rfl
  replace k := k |>.icmpNo D15_156 (by decide) |>.aloadN D15_159 rfl rfl |>.iloadN D15_160 rfl |>.iinc D15_161 rfl (z := 2) (by decide) sto1 |>.bald pr1 D15_164 (i := 1) (by decide) lvg1 |>.istore D15_165 sto7 |>.aloadN D15_167 rfl rfl |>.iloadN D15_168 rfl |>.iinc D15_169 rfl (z := 3) (by decide) sto1 |>.bald pr1 D15_172 (i := 2) (by decide) lvg2 |>.istore D15_173 sto8 |>.iload D15_175 rfl
  replace k := k |>.iload D15_177 rfl |>.iload D15_179 rfl
  replace k := (k.callS (w_194 hw) (S35 hw) (R_String_isMalformed3_3 hw pr5 pr6 pr7) D15_181 0 rfl).pv
  replace k := k |>.ifYes D15_184 (by decide) |>.iload D15_224 rfl |>.iload D15_226 rfl |>.iload D15_228 rfl
  replace k := (k.callS (w_197 hw) (S36 hw) (R_String_decode3_1 hw) D15_230 0 rfl).pv
  replace k := k |>.istore D15_233 sto9 |>.iload D15_235 rfl
  replace k := (k.callS (w_201 hw) (S37 hw) (R_Character_isSurrogate_1 hw pr8) D15_237 0 rfl).pv
  replace k := k |>.ifYes D15_240 (by decide) |>.aloadN D15_269 rfl rfl |>.iload D15_270 rfl |>.iinc D15_272 rfl (z := 1) (by decide) sto4 |>.iload D15_275 rfl
  obtain ⟨h4, K4, f4_0, k⟩ := (k.callS (w_146 hw) (S17 hw) (R_StringUTF16_putChar_5 hw pr11 pr12 pr9 pr10 pr13) D15_277 0 rfl).k0 (allS pr10 all0)
  replace k := k |>.goto D15_280 |>.iloadN D15_0 rfl |>.iloadN D15_1 rfl |>.icmpNo D15_2 (by decide) |>.aloadN D15_5 rfl rfl |>.iloadN D15_6 rfl |>.iinc D15_7 rfl (z := 4) (by decide) sto1
  have o5 := pr1.keep K4 (ninS pr14 nin0)
  replace k := k |>.bald o5 D15_10 (i := 3) (by decide) lvg3 |>.istore D15_11 sto6 |>.iload D15_13 rfl |>.ifNo D15_15 ((if0 _ _).trans (flt pr15).1) |>.aloadN D15_18 rfl rfl |>.iload D15_19 rfl |>.iinc D15_21 rfl (z := 2) (by decide) sto4 |>.iload D15_24 rfl |>.i2c D15_26 rfl
  obtain ⟨h6, K6, f6_0, k⟩ := (k.callS (w_146 hw) (S17 hw) (R_StringUTF16_putChar_6 hw pr11 pr12 f4_0 pr10 pr13) D15_27 0 rfl).k0 (allS pr10 all0)
  replace k := k |>.goto D15_30 |>.goto D15_618 |>.iloadN D15_0 rfl |>.iloadN D15_1 rfl |>.icmpYes D15_2 (by decide) |>.iload D15_621 rfl
  exact k.retI D15_623 rfl ⟨_, rfl, (K4.trans K6 (allS (Or.inl (List.mem_of_getElem? (i := 0) rfl)) all0)), rfl, f6_0⟩
theorem R_String__init__52 {a1 w_U8 a2 : Addr} {w_CS p3 p4 p5 p6 : Int32} {w_SF : Value} (hw : HW a0 Z) (pr1 : TS_UI Z w_U8) (pr2 : TS_CS Z w_CS) (pr3 : ¬ (w_CS = 0)) (pr4 : Ary Z h0 a2 ATB 4 (lv [.int p3, .int p4, .int p5, .int p6])) (pr5 : p3 < 0) (pr6 : ¬ ((p3 &&& 254) = 194)) (pr7 : w_SF.isRef = true) (pr8 : TS_SF Z w_SF) (pr9 : ¬ ((p3 >>> ((5 : Int32) &&& 31)) = (-2))) (pr10 : (p3 >>> ((4 : Int32) &&& 31)) = (-2)) (pr11 : ¬ (p3 = (-32))) (pr12 : (p4 &&& 192) = 128) (pr13 : (p5 &&& 192) = 128) (pr14 : ((((p3 <<< ((12 : Int32) &&& 31)) ^^^ (p4 <<< ((6 : Int32) &&& 31))) ^^^ (p5 ^^^ (-123008))).toUInt32.toUInt16.toUInt32.toInt32) < 55296) (pr15 : ¬ (p6 < 0)) (pr16 : TS_AD Z) (pr17 : TS_HI Z) (pr18 : TS_LO Z) (pr19 : Obj Z h0 a1 L_String [.null, .int 0]) (pr20 : n0 ≤ a1) : Mt false [] l Y4 C4 (rmk 5 3 16 76) #[.ref a1, .ref w_U8, .ref a2, .int 0, .int 4] Z a0 h0 n0 (K0 h0 [a1] fun h => ∃ b1_7 : Addr, h0.size ≤ b1_7 ∧ Obj Z h a1 L_String [.ref b1_7, .int 1] ∧ Ary Z h b1_7 ATB 4 (lv [.int ((((((p3 <<< ((12 : Int32) &&& 31)) ^^^ (p4 <<< ((6 : Int32) &&& 31))) ^^^ (p5 ^^^ (-123008))).toUInt32.toUInt16.toUInt32.toInt32) >>> ((0 : Int32) &&& 31)).toInt8.toInt32), .int ((((((p3 <<< ((12 : Int32) &&& 31)) ^^^ (p4 <<< ((6 : Int32) &&& 31))) ^^^ (p5 ^^^ (-123008))).toUInt32.toUInt16.toUInt32.toInt32) >>> ((8 : Int32) &&& 31)).toInt8.toInt32), .int (((p6.toUInt32.toUInt16.toUInt32.toInt32) >>> ((0 : Int32) &&& 31)).toInt8.toInt32), .int (((p6.toUInt32.toUInt16.toUInt32.toInt32) >>> ((8 : Int32) &&& 31)).toInt8.toInt32)])) := by
  refine Mt.go PN4 (Or.inr ⟨_, rfl⟩) ef_RRRII_11_0_4 fun k => ?_
  have nz := k.n0le
  replace k := k |>.aloadN D4_0 rfl rfl |>.initO (w_23 hw) (w_24 hw) (w_25 hw) D4_1 0 |>.iload D4_4 rfl |>.ifYes D4_6 (by decide) |>.aloadN D4_30 rfl rfl |>.getS (fl_46 hw) pr1 D4_31 |>.acmpNo D4_34 rfl rfl true (decide_eq_true rfl) (by decide) |>.getS (fl_48 hw) pr2 D4_37 |>.ifNo D4_40 ((if0 _ _).trans (feq pr3).1) |>.aloadN D4_43 rfl rfl |>.iloadN D4_44 rfl |>.iload D4_45 rfl
  replace k := (k.callS (w_49 hw) (S5 hw) (R_StringCoding_countPositives_4 hw pr4 pr5) D4_47 0 rfl).pv
  replace k := k |>.istore D4_50 sto5 |>.iload D4_52 rfl |>.iload D4_54 rfl |>.icmpYes D4_56 (by decide) |>.aloadN D4_78 rfl rfl |>.iloadN D4_79 rfl |>.iloadN D4_80 rfl |>.iload D4_81 rfl |>.iadd D4_83 (z := 4) (by decide)
  have z2 := k.sz
  obtain ⟨_, h2, K2, ⟨b1_2, rfl, f2_0, f2_1⟩, k⟩ := (k.callS (w_53 hw) (S6 hw) (R_Arrays_copyOfRange_3 hw pr4) D4_84 0 rfl).kv
  replace k := k |>.astore D4_87 rfl sto6 |>.iload D4_89 rfl |>.istore D4_91 sto7 |>.iload D4_93 rfl |>.iload D4_95 rfl |>.icmpNo D4_97 (by decide) |>.aload D4_100 rfl rfl |>.iload D4_102 rfl |>.iinc D4_104 rfl (z := 1) (by decide) sto7 |>.bald f2_1 D4_107 (i := 0) (by decide) lvg0 |>.istore D4_108 sto8 |>.iload D4_110 rfl
  replace k := k |>.ifYes D4_112 ((if0 _ _).trans (tlt pr5).1) |>.iload D4_129 rfl |>.sipush D4_131 254 |>.iand D4_134 rfl |>.sipush D4_135 194 |>.icmpYes D4_138 (feq pr6).2 |>.iinc D4_184 rfl (z := 0) (by decide) sto7 |>.goto D4_187 |>.iload D4_190 rfl |>.iload D4_192 rfl |>.icmpYes D4_194 (by decide) |>.iload D4_226 rfl
  have z3 := k.sz
  obtain ⟨_, h3, K3, ⟨b2_3, rfl, f3_0, f3_1⟩, k⟩ := (k.callS (w_100 hw) (S7 hw) (R_StringUTF16_newBytesFor_3 hw) D4_228 0 rfl).kv
  replace k := k |>.astore D4_231 rfl sto8 |>.aload D4_233 rfl rfl |>.iconst D4_235 0 |>.aload D4_236 rfl rfl |>.iconst D4_238 0 |>.iload D4_239 rfl
  replace k := (k.callS (w_108 hw) (S9 hw) (R_StringLatin1_inflate_3 hw f3_1 pr7 pr8) D4_241 0 rfl).p0
  replace k := k |>.aload D4_244 rfl rfl |>.iload D4_246 rfl |>.iload D4_248 rfl |>.aload D4_250 rfl rfl |>.iload D4_252 rfl |>.iconst D4_254 1
  have s_b2_3 := Nat.le_trans z3 f3_0
  have n_b2_3 := Nat.le_trans nz s_b2_3
  have o6 := f2_1.keep K3 nin0
  obtain ⟨_, h5, K5, ⟨rfl, f5_0⟩, k⟩ := (k.callS (w_126 hw) (S15 hw) (R_String_decodeUTF8_UTF16_21 hw o6 pr5 pr9 pr10 pr11 pr12 pr13 pr14 f3_1 n_b2_3 pr16 pr17 pr18 (nlt f2_1.lt f3_0) pr15) D4_255 0 rfl).kv (allS n_b2_3 all0)
  replace k := k |>.istore D4_258 sto5 |>.iload D4_260 rfl |>.iload D4_262 rfl |>.icmpNo D4_264 (by decide) |>.aload D4_267 rfl rfl |>.iload D4_269 rfl |>.iconst D4_271 1 |>.ishl D4_272 (z := 4) (by decide)
  have z7 := k.sz
  obtain ⟨_, h7, K7, ⟨b1_7, rfl, f7_0, f7_1⟩, k⟩ := (k.callS (w_156 hw) (S33 hw) (R_Arrays_copyOf_3 hw f5_0) D4_273 0 rfl).kv
  replace k := k |>.astore D4_276 rfl sto8 |>.aloadN D4_278 rfl rfl |>.aload D4_279 rfl rfl
  have o8 := (((pr19.keep K2 nin0).keep K3 nin0).keep K5 (ninS (nlt pr19.lt s_b2_3) nin0)).keep K7 nin0
  obtain ⟨h9, K9, O9, k⟩ := k.putF (fl_31 hw) (pw_String_i_String_value hw) o8 0 pr20 (Or.inl rfl) D4_281 rfl rfl rfl ls0
  replace k := k |>.aloadN D4_284 rfl rfl |>.iconst D4_285 1
  obtain ⟨h10, K10, O10, k⟩ := k.putN (fp_32 hw) (pw_String_i_String_coder hw) O9 1 pr20 (Or.inl rfl) D4_286 rfl (v' := (.int 1)) (by decide) (by decide) ls1
  replace k := k |>.goto D4_289
  have s_b1_7 := Nat.le_trans z7 f7_0
  have o11 := (f7_1.keep K9 (ninS (nlt' pr19.lt s_b1_7) nin0)).keep K10 (ninS (nlt' pr19.lt s_b1_7) nin0)
  exact k.ret0 D4_879 rfl ⟨rfl, (((((((Keep.refl h0 [a1]).trans K2 all0).trans K3 all0).trans K5 (allS (Or.inr s_b2_3) all0)).trans K7 all0).trans K9 (allS (Or.inl (List.mem_of_getElem? (i := 0) rfl)) all0)).trans K10 (allS (Or.inl (List.mem_of_getElem? (i := 0) rfl)) all0)), b1_7, s_b1_7, O10, o11⟩
theorem R_String__init__51 {a1 a2 w_U8 : Addr} {p3 p4 p5 p6 w_CS : Int32} {w_SF : Value} (hw : HW a0 Z) (pr1 : Obj Z Z.heap w_U8 L_UTF_8 []) (pr2 : Ary Z h0 a2 ATB 4 (lv [.int p3, .int p4, .int p5, .int p6])) (pr3 : ¬ (w_CS = 0)) (pr4 : p3 < 0) (pr5 : ¬ ((p3 &&& 254) = 194)) (pr6 : ¬ ((p3 >>> ((5 : Int32) &&& 31)) = (-2))) (pr7 : (p3 >>> ((4 : Int32) &&& 31)) = (-2)) (pr8 : ¬ (p3 = (-32))) (pr9 : (p4 &&& 192) = 128) (pr10 : (p5 &&& 192) = 128) (pr11 : ((((p3 <<< ((12 : Int32) &&& 31)) ^^^ (p4 <<< ((6 : Int32) &&& 31))) ^^^ (p5 ^^^ (-123008))).toUInt32.toUInt16.toUInt32.toInt32) < 55296) (pr12 : ¬ (p6 < 0)) (pr13 : Obj Z h0 a1 L_String [.null, .int 0]) (pr14 : n0 ≤ a1) (pr15 : w_SF.isRef = true) (pr16 : TS_UI Z w_U8) (pr17 : TS_CS Z w_CS) (pr18 : TS_SF Z w_SF) (pr19 : TS_AD Z) (pr20 : TS_HI Z) (pr21 : TS_LO Z) : Mt false [] l Y2 C2 (rmk 6 3 16 98) #[.ref a1, .ref a2, .ref w_U8] Z a0 h0 n0 (K0 h0 [a1] fun h => ∃ b1_7_2 : Addr, h0.size ≤ b1_7_2 ∧ Obj Z h a1 L_String [.ref b1_7_2, .int 1] ∧ Ary Z h b1_7_2 ATB 4 (lv [.int ((((((p3 <<< ((12 : Int32) &&& 31)) ^^^ (p4 <<< ((6 : Int32) &&& 31))) ^^^ (p5 ^^^ (-123008))).toUInt32.toUInt16.toUInt32.toInt32) >>> ((0 : Int32) &&& 31)).toInt8.toInt32), .int ((((((p3 <<< ((12 : Int32) &&& 31)) ^^^ (p4 <<< ((6 : Int32) &&& 31))) ^^^ (p5 ^^^ (-123008))).toUInt32.toUInt16.toUInt32.toInt32) >>> ((8 : Int32) &&& 31)).toInt8.toInt32), .int (((p6.toUInt32.toUInt16.toUInt32.toInt32) >>> ((0 : Int32) &&& 31)).toInt8.toInt32), .int (((p6.toUInt32.toUInt16.toUInt32.toInt32) >>> ((8 : Int32) &&& 31)).toInt8.toInt32)])) := by
  refine Mt.go PN2 (Or.inl rfl) ef_RRR_3 fun k => ?_
  replace k := k |>.aloadN D2_0 rfl rfl |>.aloadN D2_1 rfl rfl
  replace k := (k.callS (w_13 hw) (S3 hw) (R_Objects_requireNonNull_1 hw) D2_2 1 rfl).pv
  replace k := k |>.castY (w_17 hw) (Ins.of_exa (pr1.ext k.old.2).exa (w_18 hw)) D2_5 |>.aloadN D2_8 rfl rfl |>.iconst D2_9 0 |>.aloadN D2_10 rfl rfl |>.alen pr2 D2_11 (z := 4) (by decide)
  have z2 := k.sz
  obtain ⟨h2, K2, ⟨b1_7_2, f2_0, f2_1, f2_2⟩, k⟩ := (k.callI (w_19 hw) (I4 hw) (R_String__init__52 hw pr16 pr17 pr3 pr2 pr4 pr5 pr15 pr18 pr6 pr7 pr8 pr9 pr10 pr11 pr12 pr19 pr20 pr21 pr13 pr14) D2_12 0 rfl).k0 (allS pr14 all0)
  have s_b1_7_2 := Nat.le_trans z2 f2_0
  exact k.ret0 D2_15 rfl ⟨rfl, K2, b1_7_2, s_b1_7_2, f2_1, f2_2⟩
theorem R_Utf8_decodeName_26 {a1 w_U8 : Addr} {p2 p3 p4 p5 w_CS : Int32} {w_SF : Value} (hw : HW a0 Z) (pr1 : TS_U8 Z w_U8) (pr2 : Ary Z h0 a1 ATB 4 (lv [.int p2, .int p3, .int p4, .int p5])) (pr3 : ¬ (w_CS = 0)) (pr4 : p2 < 0) (pr5 : ¬ ((p2 &&& 254) = 194)) (pr6 : ¬ ((p2 >>> ((5 : Int32) &&& 31)) = (-2))) (pr7 : (p2 >>> ((4 : Int32) &&& 31)) = (-2)) (pr8 : ¬ (p2 = (-32))) (pr9 : (p3 &&& 192) = 128) (pr10 : (p4 &&& 192) = 128) (pr11 : ((((p2 <<< ((12 : Int32) &&& 31)) ^^^ (p3 <<< ((6 : Int32) &&& 31))) ^^^ (p4 ^^^ (-123008))).toUInt32.toUInt16.toUInt32.toInt32) < 55296) (pr12 : ¬ (p5 < 0)) (pr13 : w_SF.isRef = true) (pr14 : Obj Z Z.heap w_U8 L_UTF_8 []) (pr15 : TS_UI Z w_U8) (pr16 : TS_CS Z w_CS) (pr17 : TS_SF Z w_SF) (pr18 : TS_AD Z) (pr19 : TS_HI Z) (pr20 : TS_LO Z) : Mt false [] l Y1 C1 (rmk 7 4 20 113) #[.ref a1] Z a0 h0 n0 (KpV h0 [] fun v h => ∃ b1 b1_7_2_2 : Addr, v = (.ref b1) ∧ h0.size ≤ b1 ∧ h0.size ≤ b1_7_2_2 ∧ b1_7_2_2 ≠ b1 ∧ Obj Z h b1 L_String [.ref b1_7_2_2, .int 1] ∧ Ary Z h b1_7_2_2 ATB 4 (lv [.int ((((((p2 <<< ((12 : Int32) &&& 31)) ^^^ (p3 <<< ((6 : Int32) &&& 31))) ^^^ (p4 ^^^ (-123008))).toUInt32.toUInt16.toUInt32.toInt32) >>> ((0 : Int32) &&& 31)).toInt8.toInt32), .int ((((((p2 <<< ((12 : Int32) &&& 31)) ^^^ (p3 <<< ((6 : Int32) &&& 31))) ^^^ (p4 ^^^ (-123008))).toUInt32.toUInt16.toUInt32.toInt32) >>> ((8 : Int32) &&& 31)).toInt8.toInt32), .int (((p5.toUInt32.toUInt16.toUInt32.toInt32) >>> ((0 : Int32) &&& 31)).toInt8.toInt32), .int (((p5.toUInt32.toUInt16.toUInt32.toInt32) >>> ((8 : Int32) &&& 31)).toInt8.toInt32)])) := by
  refine Mt.go PN1 (Or.inl rfl) ef_R_1 fun k => ?_
  have nz := k.n0le
  have z1 := k.sz
  obtain ⟨b1, h1, g1, K1, O1, k⟩ := k.new (w_5 hw) (nw_String hw) D1_0 (by decide) dvL_String
  replace k := k |>.dup D1_3 rfl |>.aloadN D1_4 rfl rfl |>.getS (fl_8 hw) pr1 D1_5
  have s_b1 := Nat.le_trans z1 g1
  have n_b1 := Nat.le_trans nz s_b1
  have o3 := pr2.keep K1 nin0
  have z2 := k.sz
  obtain ⟨h2, K2, ⟨b1_7_2_2, f2_0, f2_1, f2_2⟩, k⟩ := (k.callI (w_10 hw) (I2 hw) (R_String__init__51 hw pr14 o3 pr3 pr4 pr5 pr6 pr7 pr8 pr9 pr10 pr11 pr12 O1 n_b1 pr13 pr15 pr16 pr17 pr18 pr19 pr20) D1_8 1 rfl).k0 (allS n_b1 all0)
  have s_b1_7_2_2 := Nat.le_trans z2 f2_0
  exact k.retA D1_11 rfl ⟨_, rfl, (K1.trans K2 (allS (Or.inr s_b1) all0)), b1, b1_7_2_2, rfl, s_b1, s_b1_7_2_2, (nlt' O1.lt f2_0), f2_1, f2_2⟩
theorem own_d69 {p1 v0 v1 v2 v3 v4 : Int32} (e0 : v0 = (p1 &&& 2147483647)) (e1 : v1 = (v0 % 63488)) (e2 : v2 = (2048 + v1)) (e3 : v3 = (v2 >>> ((12 : Int32) &&& 31))) (e4 : v4 = ((224 ||| v3).toInt8.toInt32)) (q0 : v2 < 55296) (q1 : ¬ (v4 = (-32))) : v2 < 65536 := by
  have : (2048 : Int32).toInt = 2048 := by decide
  have := rng32 p1
  have : (2147483647 : Int32).toInt = 2147483647 := by decide
  have := e_mask e0 31 2147483648
  have : (63488 : Int32).toInt = 63488 := by decide
  have := e_iremN e1 63488 (by omega)
  have := e_iaddN e2 (by omega)
  have : (55296 : Int32).toInt = 55296 := by decide
  have := i_lt q0
  have : (12 : Int32).toInt = 12 := by decide
  have := e_ishr e3 12 4096
  have := e_hbN e4 5 32 224 (by omega)
  have : (-32 : Int32).toInt = -32 := by decide
  have := i_neq q1
  have : (65536 : Int32).toInt = 65536 := by decide
  exact o_lt (by omega)
theorem own_d70 {p1 v0 v1 v2 v3 v4 v5 v6 v7 v8 v9 v10 : Int32} (e0 : v0 = (p1 &&& 2147483647)) (e1 : v1 = (v0 % 63488)) (e2 : v2 = (2048 + v1)) (e3 : v3 = (v2 >>> ((12 : Int32) &&& 31))) (e4 : v4 = ((224 ||| v3).toInt8.toInt32)) (e5 : v5 = (v2 >>> ((6 : Int32) &&& 31))) (e6 : v6 = (v5 &&& 63)) (e7 : v7 = (v2 &&& 63)) (e8 : v8 = ((((224 ||| v3).toInt8.toInt32 <<< ((12 : Int32) &&& 31)) ^^^ ((128 ||| v6).toInt8.toInt32 <<< ((6 : Int32) &&& 31))) ^^^ ((128 ||| v7).toInt8.toInt32 ^^^ (-123008)))) (e9 : v9 = (v8.toUInt32.toUInt16.toUInt32.toInt32)) (e10 : v10 = (((((v9 >>> ((0 : Int32) &&& 31)).toInt8.toInt32) &&& 255) <<< ((0 : Int32) &&& 31)) ||| ((((v9 >>> ((8 : Int32) &&& 31)).toInt8.toInt32) &&& 255) <<< ((8 : Int32) &&& 31))).toUInt32.toUInt16.toUInt32.toInt32) (q0 : v2 < 55296) (q1 : ¬ (v4 = (-32))) : v10 = v2 := by
  have : (2048 : Int32).toInt = 2048 := by decide
  have := rng32 p1
  have : (2147483647 : Int32).toInt = 2147483647 := by decide
  have := e_mask e0 31 2147483648
  have : (63488 : Int32).toInt = 63488 := by decide
  have := e_iremN e1 63488 (by omega)
  have := e_iaddN e2 (by omega)
  have : (55296 : Int32).toInt = 55296 := by decide
  have := i_lt q0
  have : (12 : Int32).toInt = 12 := by decide
  have := e_ishr e3 12 4096
  have := e_hbN e4 5 32 224 (by omega)
  have : (-32 : Int32).toInt = -32 := by decide
  have := i_neq q1
  have : (6 : Int32).toInt = 6 := by decide
  have := e_ishr e5 6 64
  have : (63 : Int32).toInt = 63 := by decide
  have := e_mask e6 6 64
  have := e_mask e7 6 64
  have := e_dec3 e8 (by omega) (by omega) (by omega) (by omega) (by omega) (by omega)
  have := e_i2cN e9 (by omega)
  have := e_gc e10 (by omega) (by omega)
  exact o_eq (by omega)
theorem D29_44 : Dc J29 44 (.iload_n 2) 1 45 := by decide +kernel
theorem D29_45 : Dc J29 45 (.ldc 9) 2 47 := by decide +kernel
abbrev w_205 (hw : HW a0 Z) := hw _ (List.mem_of_getElem? (i := 205) rfl)
theorem D29_47 : Dj J29 47 (.if_icmp .gt 9) 9 50 56 := by decide +kernel
theorem R_Utf8DecodeNamePinLaw_codePoint_9 {p1 p2 : Int32} (hw : HW a0 Z) (pr1 : ¬ (p1 = 0)) (pr2 : ¬ (p1 = 1)) (pr3 : p1 = 2) (pr4 : ¬ ((2048 + (p2 % 63488)) < 55296)) (pr5 : 57343 < (2048 + (p2 % 63488))) : Mt false [] l Y29 C29 (rmk 0 0 0 0) #[.int p1, .int p2] Z a0 h0 n0 (Pv h0 (.int (2048 + (p2 % 63488)))) := by
  refine Mt.go PN29 (Or.inl rfl) ef_II_3 fun k => ?_
  replace k := k |>.iloadN D29_0 rfl |>.ifYes D29_1 ((if0 _ _).trans (feq pr1).2) |>.iloadN D29_9 rfl |>.iconst D29_10 1 |>.icmpYes D29_11 (feq pr2).2 |>.iloadN D29_24 rfl |>.iconst D29_25 2 |>.icmpNo D29_26 (teq pr3).2 |>.sipush D29_29 2048 |>.iloadN D29_32 rfl |>.ldcI (w_193 hw) D29_33 |>.irem D29_35 (by decide) rfl
  replace k := k |>.iadd D29_36 rfl |>.istoreN D29_37 sto2 |>.iloadN D29_38 rfl |>.ldcI (w_177 hw) D29_39 |>.icmpNo D29_41 (flt pr4).1 |>.iloadN D29_44 rfl |>.ldcI (w_205 hw) D29_45 |>.icmpYes D29_47 (tlt pr5).2.2.1 |>.iloadN D29_56 rfl
  exact k.retI D29_57 rfl ⟨rfl, rfl⟩
theorem own_d71 {p1 v0 v1 v2 v3 v4 : Int32} (e0 : v0 = (p1 &&& 2147483647)) (e1 : v1 = (v0 % 63488)) (e2 : v2 = (2048 + v1)) (e3 : v3 = (v2 >>> ((12 : Int32) &&& 31))) (e4 : v4 = ((224 ||| v3).toInt8.toInt32)) (q0 : ¬ (v2 < 55296)) (q1 : 57343 < v2) : v4 < 0 := by
  have : (2048 : Int32).toInt = 2048 := by decide
  have := rng32 p1
  have : (2147483647 : Int32).toInt = 2147483647 := by decide
  have := e_mask e0 31 2147483648
  have : (63488 : Int32).toInt = 63488 := by decide
  have := e_iremN e1 63488 (by omega)
  have := e_iaddN e2 (by omega)
  have : (55296 : Int32).toInt = 55296 := by decide
  have := i_nlt q0
  have : (57343 : Int32).toInt = 57343 := by decide
  have := i_lt q1
  have : (12 : Int32).toInt = 12 := by decide
  have := e_ishr e3 12 4096
  have := e_hbN e4 5 32 224 (by omega)
  have : (0 : Int32).toInt = 0 := by decide
  exact o_lt (by omega)
theorem own_d72 {p1 v0 v1 v2 v3 v4 v5 : Int32} (e0 : v0 = (p1 &&& 2147483647)) (e1 : v1 = (v0 % 63488)) (e2 : v2 = (2048 + v1)) (e3 : v3 = (v2 >>> ((12 : Int32) &&& 31))) (e4 : v4 = ((224 ||| v3).toInt8.toInt32)) (e5 : v5 = (v4 &&& 254)) (q0 : ¬ (v2 < 55296)) (q1 : 57343 < v2) : ¬ (v5 = 194) := by
  have : (2048 : Int32).toInt = 2048 := by decide
  have := rng32 p1
  have : (2147483647 : Int32).toInt = 2147483647 := by decide
  have := e_mask e0 31 2147483648
  have : (63488 : Int32).toInt = 63488 := by decide
  have := e_iremN e1 63488 (by omega)
  have := e_iaddN e2 (by omega)
  have : (55296 : Int32).toInt = 55296 := by decide
  have := i_nlt q0
  have : (57343 : Int32).toInt = 57343 := by decide
  have := i_lt q1
  have : (12 : Int32).toInt = 12 := by decide
  have := e_ishr e3 12 4096
  have := e_hbN e4 5 32 224 (by omega)
  have : (254 : Int32).toInt = 254 := by decide
  have : v4.toInt % 256 = v4.toInt + 256 := by omega
  have := e_mask2 e5 1 7 256 2
  have : (194 : Int32).toInt = 194 := by decide
  exact o_neq (by omega)
theorem own_d73 {p1 v0 v1 v2 v3 v4 v5 : Int32} (e0 : v0 = (p1 &&& 2147483647)) (e1 : v1 = (v0 % 63488)) (e2 : v2 = (2048 + v1)) (e3 : v3 = (v2 >>> ((12 : Int32) &&& 31))) (e4 : v4 = ((224 ||| v3).toInt8.toInt32)) (e5 : v5 = (v4 >>> ((5 : Int32) &&& 31))) (q0 : ¬ (v2 < 55296)) (q1 : 57343 < v2) : ¬ (v5 = (-2)) := by
  have : (2048 : Int32).toInt = 2048 := by decide
  have := rng32 p1
  have : (2147483647 : Int32).toInt = 2147483647 := by decide
  have := e_mask e0 31 2147483648
  have : (63488 : Int32).toInt = 63488 := by decide
  have := e_iremN e1 63488 (by omega)
  have := e_iaddN e2 (by omega)
  have : (55296 : Int32).toInt = 55296 := by decide
  have := i_nlt q0
  have : (57343 : Int32).toInt = 57343 := by decide
  have := i_lt q1
  have : (12 : Int32).toInt = 12 := by decide
  have := e_ishr e3 12 4096
  have := e_hbN e4 5 32 224 (by omega)
  have : (5 : Int32).toInt = 5 := by decide
  have := e_ishr e5 5 32
  have : (-2 : Int32).toInt = -2 := by decide
  exact o_neq (by omega)
theorem own_d74 {p1 v0 v1 v2 v3 v4 v5 : Int32} (e0 : v0 = (p1 &&& 2147483647)) (e1 : v1 = (v0 % 63488)) (e2 : v2 = (2048 + v1)) (e3 : v3 = (v2 >>> ((12 : Int32) &&& 31))) (e4 : v4 = ((224 ||| v3).toInt8.toInt32)) (e5 : v5 = (v4 >>> ((4 : Int32) &&& 31))) (q0 : ¬ (v2 < 55296)) (q1 : 57343 < v2) : v5 = (-2) := by
  have : (2048 : Int32).toInt = 2048 := by decide
  have := rng32 p1
  have : (2147483647 : Int32).toInt = 2147483647 := by decide
  have := e_mask e0 31 2147483648
  have : (63488 : Int32).toInt = 63488 := by decide
  have := e_iremN e1 63488 (by omega)
  have := e_iaddN e2 (by omega)
  have : (55296 : Int32).toInt = 55296 := by decide
  have := i_nlt q0
  have : (57343 : Int32).toInt = 57343 := by decide
  have := i_lt q1
  have : (12 : Int32).toInt = 12 := by decide
  have := e_ishr e3 12 4096
  have := e_hbN e4 5 32 224 (by omega)
  have : (4 : Int32).toInt = 4 := by decide
  have := e_ishr e5 4 16
  have : (-2 : Int32).toInt = -2 := by decide
  exact o_eq (by omega)
theorem own_d75 {p1 v0 v1 v2 v3 v4 : Int32} (e0 : v0 = (p1 &&& 2147483647)) (e1 : v1 = (v0 % 63488)) (e2 : v2 = (2048 + v1)) (e3 : v3 = (v2 >>> ((12 : Int32) &&& 31))) (e4 : v4 = ((224 ||| v3).toInt8.toInt32)) (q0 : ¬ (v2 < 55296)) (q1 : 57343 < v2) : ¬ (v4 = (-32)) := by
  have : (2048 : Int32).toInt = 2048 := by decide
  have := rng32 p1
  have : (2147483647 : Int32).toInt = 2147483647 := by decide
  have := e_mask e0 31 2147483648
  have : (63488 : Int32).toInt = 63488 := by decide
  have := e_iremN e1 63488 (by omega)
  have := e_iaddN e2 (by omega)
  have : (55296 : Int32).toInt = 55296 := by decide
  have := i_nlt q0
  have : (57343 : Int32).toInt = 57343 := by decide
  have := i_lt q1
  have : (12 : Int32).toInt = 12 := by decide
  have := e_ishr e3 12 4096
  have := e_hbN e4 5 32 224 (by omega)
  have : (-32 : Int32).toInt = -32 := by decide
  exact o_neq (by omega)
theorem own_d76 {p1 v0 v1 v2 v3 v4 v5 v6 : Int32} (e0 : v0 = (p1 &&& 2147483647)) (e1 : v1 = (v0 % 63488)) (e2 : v2 = (2048 + v1)) (e3 : v3 = (v2 >>> ((6 : Int32) &&& 31))) (e4 : v4 = (v3 &&& 63)) (e5 : v5 = ((128 ||| v4).toInt8.toInt32)) (e6 : v6 = (v5 &&& 192)) (q0 : ¬ (v2 < 55296)) (q1 : 57343 < v2) : v6 = 128 := by
  have : (2048 : Int32).toInt = 2048 := by decide
  have := rng32 p1
  have : (2147483647 : Int32).toInt = 2147483647 := by decide
  have := e_mask e0 31 2147483648
  have : (63488 : Int32).toInt = 63488 := by decide
  have := e_iremN e1 63488 (by omega)
  have := e_iaddN e2 (by omega)
  have : (55296 : Int32).toInt = 55296 := by decide
  have := i_nlt q0
  have : (57343 : Int32).toInt = 57343 := by decide
  have := i_lt q1
  have : (6 : Int32).toInt = 6 := by decide
  have := e_ishr e3 6 64
  have : (63 : Int32).toInt = 63 := by decide
  have := e_mask e4 6 64
  have := e_hbN e5 7 128 128 (by omega)
  have : (192 : Int32).toInt = 192 := by decide
  have : v5.toInt % 256 = v5.toInt + 256 := by omega
  have := e_mask2 e6 6 2 256 64
  have : (128 : Int32).toInt = 128 := by decide
  exact o_eq (by omega)
theorem own_d77 {p1 v0 v1 v2 v3 v4 v5 : Int32} (e0 : v0 = (p1 &&& 2147483647)) (e1 : v1 = (v0 % 63488)) (e2 : v2 = (2048 + v1)) (e3 : v3 = (v2 &&& 63)) (e4 : v4 = ((128 ||| v3).toInt8.toInt32)) (e5 : v5 = (v4 &&& 192)) (q0 : ¬ (v2 < 55296)) (q1 : 57343 < v2) : v5 = 128 := by
  have : (2048 : Int32).toInt = 2048 := by decide
  have := rng32 p1
  have : (2147483647 : Int32).toInt = 2147483647 := by decide
  have := e_mask e0 31 2147483648
  have : (63488 : Int32).toInt = 63488 := by decide
  have := e_iremN e1 63488 (by omega)
  have := e_iaddN e2 (by omega)
  have : (55296 : Int32).toInt = 55296 := by decide
  have := i_nlt q0
  have : (57343 : Int32).toInt = 57343 := by decide
  have := i_lt q1
  have : (63 : Int32).toInt = 63 := by decide
  have := e_mask e3 6 64
  have := e_hbN e4 7 128 128 (by omega)
  have : (192 : Int32).toInt = 192 := by decide
  have : v4.toInt % 256 = v4.toInt + 256 := by omega
  have := e_mask2 e5 6 2 256 64
  have : (128 : Int32).toInt = 128 := by decide
  exact o_eq (by omega)
theorem own_d78 {p1 v0 v1 v2 v3 v4 v5 v6 v7 v8 : Int32} (e0 : v0 = (p1 &&& 2147483647)) (e1 : v1 = (v0 % 63488)) (e2 : v2 = (2048 + v1)) (e3 : v3 = (v2 >>> ((12 : Int32) &&& 31))) (e4 : v4 = (v2 >>> ((6 : Int32) &&& 31))) (e5 : v5 = (v4 &&& 63)) (e6 : v6 = (v2 &&& 63)) (e7 : v7 = ((((224 ||| v3).toInt8.toInt32 <<< ((12 : Int32) &&& 31)) ^^^ ((128 ||| v5).toInt8.toInt32 <<< ((6 : Int32) &&& 31))) ^^^ ((128 ||| v6).toInt8.toInt32 ^^^ (-123008)))) (e8 : v8 = (v7.toUInt32.toUInt16.toUInt32.toInt32)) (q0 : ¬ (v2 < 55296)) (q1 : 57343 < v2) : ¬ (v8 < 55296) := by
  have : (2048 : Int32).toInt = 2048 := by decide
  have := rng32 p1
  have : (2147483647 : Int32).toInt = 2147483647 := by decide
  have := e_mask e0 31 2147483648
  have : (63488 : Int32).toInt = 63488 := by decide
  have := e_iremN e1 63488 (by omega)
  have := e_iaddN e2 (by omega)
  have : (55296 : Int32).toInt = 55296 := by decide
  have := i_nlt q0
  have : (57343 : Int32).toInt = 57343 := by decide
  have := i_lt q1
  have : (12 : Int32).toInt = 12 := by decide
  have := e_ishr e3 12 4096
  have : (6 : Int32).toInt = 6 := by decide
  have := e_ishr e4 6 64
  have : (63 : Int32).toInt = 63 := by decide
  have := e_mask e5 6 64
  have := e_mask e6 6 64
  have := e_dec3 e7 (by omega) (by omega) (by omega) (by omega) (by omega) (by omega)
  have := e_i2cN e8 (by omega)
  exact o_nlt (by omega)
theorem D37_6 : Dc J37 6 (.iload_n 0) 1 7 := by decide +kernel
theorem D37_7 : Dc J37 7 (.ldc 77) 2 9 := by decide +kernel
abbrev w_206 (hw : HW a0 Z) := hw _ (List.mem_of_getElem? (i := 206) rfl)
theorem D37_9 : Dj J37 9 (.if_icmp .ge 7) 7 12 16 := by decide +kernel
theorem own_d79 {p1 v0 v1 v2 v3 v4 v5 v6 v7 v8 : Int32} (e0 : v0 = (p1 &&& 2147483647)) (e1 : v1 = (v0 % 63488)) (e2 : v2 = (2048 + v1)) (e3 : v3 = (v2 >>> ((12 : Int32) &&& 31))) (e4 : v4 = (v2 >>> ((6 : Int32) &&& 31))) (e5 : v5 = (v4 &&& 63)) (e6 : v6 = (v2 &&& 63)) (e7 : v7 = ((((224 ||| v3).toInt8.toInt32 <<< ((12 : Int32) &&& 31)) ^^^ ((128 ||| v5).toInt8.toInt32 <<< ((6 : Int32) &&& 31))) ^^^ ((128 ||| v6).toInt8.toInt32 ^^^ (-123008)))) (e8 : v8 = (v7.toUInt32.toUInt16.toUInt32.toInt32)) (q0 : ¬ (v2 < 55296)) (q1 : 57343 < v2) : ¬ (v8 < 57344) := by
  have : (2048 : Int32).toInt = 2048 := by decide
  have := rng32 p1
  have : (2147483647 : Int32).toInt = 2147483647 := by decide
  have := e_mask e0 31 2147483648
  have : (63488 : Int32).toInt = 63488 := by decide
  have := e_iremN e1 63488 (by omega)
  have := e_iaddN e2 (by omega)
  have : (55296 : Int32).toInt = 55296 := by decide
  have := i_nlt q0
  have : (57343 : Int32).toInt = 57343 := by decide
  have := i_lt q1
  have : (12 : Int32).toInt = 12 := by decide
  have := e_ishr e3 12 4096
  have : (6 : Int32).toInt = 6 := by decide
  have := e_ishr e4 6 64
  have : (63 : Int32).toInt = 63 := by decide
  have := e_mask e5 6 64
  have := e_mask e6 6 64
  have := e_dec3 e7 (by omega) (by omega) (by omega) (by omega) (by omega) (by omega)
  have := e_i2cN e8 (by omega)
  have : (57344 : Int32).toInt = 57344 := by decide
  exact o_nlt (by omega)
theorem R_Character_isSurrogate_2 {p1 : Int32} (hw : HW a0 Z) (pr1 : ¬ (p1 < 55296)) (pr2 : ¬ (p1 < 57344)) : Mt false [] l Y37 C37 (rmk 0 0 0 0) #[.int p1] Z a0 h0 n0 (Pv h0 (.int 0)) := by
  refine Mt.go PN37 (Or.inl rfl) ef_I_1 fun k => ?_
  replace k := k |>.iloadN D37_0 rfl |>.ldcI (w_204 hw) D37_1 |>.icmpNo D37_3 (flt pr1).1 |>.iloadN D37_6 rfl |>.ldcI (w_206 hw) D37_7 |>.icmpYes D37_9 (flt pr2).2.1 |>.iconst D37_16 0
  exact k.retN (t := .boolean) D37_17 rfl (by simp) (z' := 0) (by decide) ⟨rfl, rfl⟩
theorem R_String_decodeUTF8_UTF16_22 {a1 a2 : Addr} {p3 p4 p5 p6 : Int32} (hw : HW a0 Z) (pr1 : Ary Z h0 a1 ATB 4 (lv [.int p3, .int p4, .int p5, .int p6])) (pr2 : p3 < 0) (pr3 : ¬ ((p3 >>> ((5 : Int32) &&& 31)) = (-2))) (pr4 : (p3 >>> ((4 : Int32) &&& 31)) = (-2)) (pr5 : ¬ (p3 = (-32))) (pr6 : (p4 &&& 192) = 128) (pr7 : (p5 &&& 192) = 128) (pr8 : ¬ (((((p3 <<< ((12 : Int32) &&& 31)) ^^^ (p4 <<< ((6 : Int32) &&& 31))) ^^^ (p5 ^^^ (-123008))).toUInt32.toUInt16.toUInt32.toInt32) < 55296)) (pr9 : ¬ (((((p3 <<< ((12 : Int32) &&& 31)) ^^^ (p4 <<< ((6 : Int32) &&& 31))) ^^^ (p5 ^^^ (-123008))).toUInt32.toUInt16.toUInt32.toInt32) < 57344)) (pr10 : Ary Z h0 a2 ATB 8 (lv [.int 0, .int 0, .int 0, .int 0, .int 0, .int 0, .int 0, .int 0])) (pr11 : n0 ≤ a2) (pr12 : TS_AD Z) (pr13 : TS_HI Z) (pr14 : TS_LO Z) (pr15 : a1 ≠ a2) (pr16 : ¬ (p6 < 0)) : Mt false [] l Y15 C15 (rmk 1 0 0 14) #[.ref a1, .int 0, .int 4, .ref a2, .int 0, .int 1] Z a0 h0 n0 (KpV h0 [a2] fun v h => v = (.int 2) ∧ Ary Z h a2 ATB 8 (lv [.int ((((((p3 <<< ((12 : Int32) &&& 31)) ^^^ (p4 <<< ((6 : Int32) &&& 31))) ^^^ (p5 ^^^ (-123008))).toUInt32.toUInt16.toUInt32.toInt32) >>> ((0 : Int32) &&& 31)).toInt8.toInt32), .int ((((((p3 <<< ((12 : Int32) &&& 31)) ^^^ (p4 <<< ((6 : Int32) &&& 31))) ^^^ (p5 ^^^ (-123008))).toUInt32.toUInt16.toUInt32.toInt32) >>> ((8 : Int32) &&& 31)).toInt8.toInt32), .int (((p6.toUInt32.toUInt16.toUInt32.toInt32) >>> ((0 : Int32) &&& 31)).toInt8.toInt32), .int (((p6.toUInt32.toUInt16.toUInt32.toInt32) >>> ((8 : Int32) &&& 31)).toInt8.toInt32), .int 0, .int 0, .int 0, .int 0])) := by
  refine Mt.go PN15 (Or.inl rfl) ef_RIIRII_11_0_4_0_1 fun k => ?_
  replace k := k |>.iloadN D15_0 rfl |>.iloadN D15_1 rfl |>.icmpNo D15_2 (by decide) |>.aloadN D15_5 rfl rfl |>.iloadN D15_6 rfl |>.iinc D15_7 rfl (z := 1) (by decide) sto1 |>.bald pr1 D15_10 (i := 0) (by decide) lvg0 |>.istore D15_11 sto6 |>.iload D15_13 rfl |>.ifYes D15_15 ((if0 _ _).trans (tlt pr2).1) |>.iload D15_33 rfl |>.iconst D15_35 5
  replace k := k |>.ishr D15_36 rfl |>.bipush D15_37 (-2) |>.icmpYes D15_39 (feq pr3).2 |>.iload D15_143 rfl |>.iconst D15_145 4 |>.ishr D15_146 rfl |>.bipush D15_147 (-2) |>.icmpNo D15_149 (teq pr4).2 |>.iloadN D15_152 rfl |>.iconst D15_153 1 |>.iadd D15_154 (z := 2) (by decide) |>.iloadN D15_155 rfl
  replace k := k |>.icmpNo D15_156 (by decide) |>.aloadN D15_159 rfl rfl |>.iloadN D15_160 rfl |>.iinc D15_161 rfl (z := 2) (by decide) sto1 |>.bald pr1 D15_164 (i := 1) (by decide) lvg1 |>.istore D15_165 sto7 |>.aloadN D15_167 rfl rfl |>.iloadN D15_168 rfl |>.iinc D15_169 rfl (z := 3) (by decide) sto1 |>.bald pr1 D15_172 (i := 2) (by decide) lvg2 |>.istore D15_173 sto8 |>.iload D15_175 rfl
  replace k := k |>.iload D15_177 rfl |>.iload D15_179 rfl
  replace k := (k.callS (w_194 hw) (S35 hw) (R_String_isMalformed3_3 hw pr5 pr6 pr7) D15_181 0 rfl).pv
  replace k := k |>.ifYes D15_184 (by decide) |>.iload D15_224 rfl |>.iload D15_226 rfl |>.iload D15_228 rfl
  replace k := (k.callS (w_197 hw) (S36 hw) (R_String_decode3_1 hw) D15_230 0 rfl).pv
  replace k := k |>.istore D15_233 sto9 |>.iload D15_235 rfl
  replace k := (k.callS (w_201 hw) (S37 hw) (R_Character_isSurrogate_2 hw pr8 pr9) D15_237 0 rfl).pv
  replace k := k |>.ifYes D15_240 (by decide) |>.aloadN D15_269 rfl rfl |>.iload D15_270 rfl |>.iinc D15_272 rfl (z := 1) (by decide) sto4 |>.iload D15_275 rfl
  obtain ⟨h4, K4, f4_0, k⟩ := (k.callS (w_146 hw) (S17 hw) (R_StringUTF16_putChar_5 hw pr12 pr13 pr10 pr11 pr14) D15_277 0 rfl).k0 (allS pr11 all0)
  replace k := k |>.goto D15_280 |>.iloadN D15_0 rfl |>.iloadN D15_1 rfl |>.icmpNo D15_2 (by decide) |>.aloadN D15_5 rfl rfl |>.iloadN D15_6 rfl |>.iinc D15_7 rfl (z := 4) (by decide) sto1
  have o5 := pr1.keep K4 (ninS pr15 nin0)
  replace k := k |>.bald o5 D15_10 (i := 3) (by decide) lvg3 |>.istore D15_11 sto6 |>.iload D15_13 rfl |>.ifNo D15_15 ((if0 _ _).trans (flt pr16).1) |>.aloadN D15_18 rfl rfl |>.iload D15_19 rfl |>.iinc D15_21 rfl (z := 2) (by decide) sto4 |>.iload D15_24 rfl |>.i2c D15_26 rfl
  obtain ⟨h6, K6, f6_0, k⟩ := (k.callS (w_146 hw) (S17 hw) (R_StringUTF16_putChar_6 hw pr12 pr13 f4_0 pr11 pr14) D15_27 0 rfl).k0 (allS pr11 all0)
  replace k := k |>.goto D15_30 |>.goto D15_618 |>.iloadN D15_0 rfl |>.iloadN D15_1 rfl |>.icmpYes D15_2 (by decide) |>.iload D15_621 rfl
  exact k.retI D15_623 rfl ⟨_, rfl, (K4.trans K6 (allS (Or.inl (List.mem_of_getElem? (i := 0) rfl)) all0)), rfl, f6_0⟩
theorem R_String__init__54 {a1 w_U8 a2 : Addr} {w_CS p3 p4 p5 p6 : Int32} {w_SF : Value} (hw : HW a0 Z) (pr1 : TS_UI Z w_U8) (pr2 : TS_CS Z w_CS) (pr3 : ¬ (w_CS = 0)) (pr4 : Ary Z h0 a2 ATB 4 (lv [.int p3, .int p4, .int p5, .int p6])) (pr5 : p3 < 0) (pr6 : ¬ ((p3 &&& 254) = 194)) (pr7 : w_SF.isRef = true) (pr8 : TS_SF Z w_SF) (pr9 : ¬ ((p3 >>> ((5 : Int32) &&& 31)) = (-2))) (pr10 : (p3 >>> ((4 : Int32) &&& 31)) = (-2)) (pr11 : ¬ (p3 = (-32))) (pr12 : (p4 &&& 192) = 128) (pr13 : (p5 &&& 192) = 128) (pr14 : ¬ (((((p3 <<< ((12 : Int32) &&& 31)) ^^^ (p4 <<< ((6 : Int32) &&& 31))) ^^^ (p5 ^^^ (-123008))).toUInt32.toUInt16.toUInt32.toInt32) < 55296)) (pr15 : ¬ (((((p3 <<< ((12 : Int32) &&& 31)) ^^^ (p4 <<< ((6 : Int32) &&& 31))) ^^^ (p5 ^^^ (-123008))).toUInt32.toUInt16.toUInt32.toInt32) < 57344)) (pr16 : ¬ (p6 < 0)) (pr17 : TS_AD Z) (pr18 : TS_HI Z) (pr19 : TS_LO Z) (pr20 : Obj Z h0 a1 L_String [.null, .int 0]) (pr21 : n0 ≤ a1) : Mt false [] l Y4 C4 (rmk 5 3 16 76) #[.ref a1, .ref w_U8, .ref a2, .int 0, .int 4] Z a0 h0 n0 (K0 h0 [a1] fun h => ∃ b1_7 : Addr, h0.size ≤ b1_7 ∧ Obj Z h a1 L_String [.ref b1_7, .int 1] ∧ Ary Z h b1_7 ATB 4 (lv [.int ((((((p3 <<< ((12 : Int32) &&& 31)) ^^^ (p4 <<< ((6 : Int32) &&& 31))) ^^^ (p5 ^^^ (-123008))).toUInt32.toUInt16.toUInt32.toInt32) >>> ((0 : Int32) &&& 31)).toInt8.toInt32), .int ((((((p3 <<< ((12 : Int32) &&& 31)) ^^^ (p4 <<< ((6 : Int32) &&& 31))) ^^^ (p5 ^^^ (-123008))).toUInt32.toUInt16.toUInt32.toInt32) >>> ((8 : Int32) &&& 31)).toInt8.toInt32), .int (((p6.toUInt32.toUInt16.toUInt32.toInt32) >>> ((0 : Int32) &&& 31)).toInt8.toInt32), .int (((p6.toUInt32.toUInt16.toUInt32.toInt32) >>> ((8 : Int32) &&& 31)).toInt8.toInt32)])) := by
  refine Mt.go PN4 (Or.inr ⟨_, rfl⟩) ef_RRRII_11_0_4 fun k => ?_
  have nz := k.n0le
  replace k := k |>.aloadN D4_0 rfl rfl |>.initO (w_23 hw) (w_24 hw) (w_25 hw) D4_1 0 |>.iload D4_4 rfl |>.ifYes D4_6 (by decide) |>.aloadN D4_30 rfl rfl |>.getS (fl_46 hw) pr1 D4_31 |>.acmpNo D4_34 rfl rfl true (decide_eq_true rfl) (by decide) |>.getS (fl_48 hw) pr2 D4_37 |>.ifNo D4_40 ((if0 _ _).trans (feq pr3).1) |>.aloadN D4_43 rfl rfl |>.iloadN D4_44 rfl |>.iload D4_45 rfl
  replace k := (k.callS (w_49 hw) (S5 hw) (R_StringCoding_countPositives_4 hw pr4 pr5) D4_47 0 rfl).pv
  replace k := k |>.istore D4_50 sto5 |>.iload D4_52 rfl |>.iload D4_54 rfl |>.icmpYes D4_56 (by decide) |>.aloadN D4_78 rfl rfl |>.iloadN D4_79 rfl |>.iloadN D4_80 rfl |>.iload D4_81 rfl |>.iadd D4_83 (z := 4) (by decide)
  have z2 := k.sz
  obtain ⟨_, h2, K2, ⟨b1_2, rfl, f2_0, f2_1⟩, k⟩ := (k.callS (w_53 hw) (S6 hw) (R_Arrays_copyOfRange_3 hw pr4) D4_84 0 rfl).kv
  replace k := k |>.astore D4_87 rfl sto6 |>.iload D4_89 rfl |>.istore D4_91 sto7 |>.iload D4_93 rfl |>.iload D4_95 rfl |>.icmpNo D4_97 (by decide) |>.aload D4_100 rfl rfl |>.iload D4_102 rfl |>.iinc D4_104 rfl (z := 1) (by decide) sto7 |>.bald f2_1 D4_107 (i := 0) (by decide) lvg0 |>.istore D4_108 sto8 |>.iload D4_110 rfl
  replace k := k |>.ifYes D4_112 ((if0 _ _).trans (tlt pr5).1) |>.iload D4_129 rfl |>.sipush D4_131 254 |>.iand D4_134 rfl |>.sipush D4_135 194 |>.icmpYes D4_138 (feq pr6).2 |>.iinc D4_184 rfl (z := 0) (by decide) sto7 |>.goto D4_187 |>.iload D4_190 rfl |>.iload D4_192 rfl |>.icmpYes D4_194 (by decide) |>.iload D4_226 rfl
  have z3 := k.sz
  obtain ⟨_, h3, K3, ⟨b2_3, rfl, f3_0, f3_1⟩, k⟩ := (k.callS (w_100 hw) (S7 hw) (R_StringUTF16_newBytesFor_3 hw) D4_228 0 rfl).kv
  replace k := k |>.astore D4_231 rfl sto8 |>.aload D4_233 rfl rfl |>.iconst D4_235 0 |>.aload D4_236 rfl rfl |>.iconst D4_238 0 |>.iload D4_239 rfl
  replace k := (k.callS (w_108 hw) (S9 hw) (R_StringLatin1_inflate_3 hw f3_1 pr7 pr8) D4_241 0 rfl).p0
  replace k := k |>.aload D4_244 rfl rfl |>.iload D4_246 rfl |>.iload D4_248 rfl |>.aload D4_250 rfl rfl |>.iload D4_252 rfl |>.iconst D4_254 1
  have s_b2_3 := Nat.le_trans z3 f3_0
  have n_b2_3 := Nat.le_trans nz s_b2_3
  have o6 := f2_1.keep K3 nin0
  obtain ⟨_, h5, K5, ⟨rfl, f5_0⟩, k⟩ := (k.callS (w_126 hw) (S15 hw) (R_String_decodeUTF8_UTF16_22 hw o6 pr5 pr9 pr10 pr11 pr12 pr13 pr14 pr15 f3_1 n_b2_3 pr17 pr18 pr19 (nlt f2_1.lt f3_0) pr16) D4_255 0 rfl).kv (allS n_b2_3 all0)
  replace k := k |>.istore D4_258 sto5 |>.iload D4_260 rfl |>.iload D4_262 rfl |>.icmpNo D4_264 (by decide) |>.aload D4_267 rfl rfl |>.iload D4_269 rfl |>.iconst D4_271 1 |>.ishl D4_272 (z := 4) (by decide)
  have z7 := k.sz
  obtain ⟨_, h7, K7, ⟨b1_7, rfl, f7_0, f7_1⟩, k⟩ := (k.callS (w_156 hw) (S33 hw) (R_Arrays_copyOf_3 hw f5_0) D4_273 0 rfl).kv
  replace k := k |>.astore D4_276 rfl sto8 |>.aloadN D4_278 rfl rfl |>.aload D4_279 rfl rfl
  have o8 := (((pr20.keep K2 nin0).keep K3 nin0).keep K5 (ninS (nlt pr20.lt s_b2_3) nin0)).keep K7 nin0
  obtain ⟨h9, K9, O9, k⟩ := k.putF (fl_31 hw) (pw_String_i_String_value hw) o8 0 pr21 (Or.inl rfl) D4_281 rfl rfl rfl ls0
  replace k := k |>.aloadN D4_284 rfl rfl |>.iconst D4_285 1
  obtain ⟨h10, K10, O10, k⟩ := k.putN (fp_32 hw) (pw_String_i_String_coder hw) O9 1 pr21 (Or.inl rfl) D4_286 rfl (v' := (.int 1)) (by decide) (by decide) ls1
  replace k := k |>.goto D4_289
  have s_b1_7 := Nat.le_trans z7 f7_0
  have o11 := (f7_1.keep K9 (ninS (nlt' pr20.lt s_b1_7) nin0)).keep K10 (ninS (nlt' pr20.lt s_b1_7) nin0)
  exact k.ret0 D4_879 rfl ⟨rfl, (((((((Keep.refl h0 [a1]).trans K2 all0).trans K3 all0).trans K5 (allS (Or.inr s_b2_3) all0)).trans K7 all0).trans K9 (allS (Or.inl (List.mem_of_getElem? (i := 0) rfl)) all0)).trans K10 (allS (Or.inl (List.mem_of_getElem? (i := 0) rfl)) all0)), b1_7, s_b1_7, O10, o11⟩
theorem R_String__init__53 {a1 a2 w_U8 : Addr} {p3 p4 p5 p6 w_CS : Int32} {w_SF : Value} (hw : HW a0 Z) (pr1 : Obj Z Z.heap w_U8 L_UTF_8 []) (pr2 : Ary Z h0 a2 ATB 4 (lv [.int p3, .int p4, .int p5, .int p6])) (pr3 : ¬ (w_CS = 0)) (pr4 : p3 < 0) (pr5 : ¬ ((p3 &&& 254) = 194)) (pr6 : ¬ ((p3 >>> ((5 : Int32) &&& 31)) = (-2))) (pr7 : (p3 >>> ((4 : Int32) &&& 31)) = (-2)) (pr8 : ¬ (p3 = (-32))) (pr9 : (p4 &&& 192) = 128) (pr10 : (p5 &&& 192) = 128) (pr11 : ¬ (((((p3 <<< ((12 : Int32) &&& 31)) ^^^ (p4 <<< ((6 : Int32) &&& 31))) ^^^ (p5 ^^^ (-123008))).toUInt32.toUInt16.toUInt32.toInt32) < 55296)) (pr12 : ¬ (((((p3 <<< ((12 : Int32) &&& 31)) ^^^ (p4 <<< ((6 : Int32) &&& 31))) ^^^ (p5 ^^^ (-123008))).toUInt32.toUInt16.toUInt32.toInt32) < 57344)) (pr13 : ¬ (p6 < 0)) (pr14 : Obj Z h0 a1 L_String [.null, .int 0]) (pr15 : n0 ≤ a1) (pr16 : w_SF.isRef = true) (pr17 : TS_UI Z w_U8) (pr18 : TS_CS Z w_CS) (pr19 : TS_SF Z w_SF) (pr20 : TS_AD Z) (pr21 : TS_HI Z) (pr22 : TS_LO Z) : Mt false [] l Y2 C2 (rmk 6 3 16 98) #[.ref a1, .ref a2, .ref w_U8] Z a0 h0 n0 (K0 h0 [a1] fun h => ∃ b1_7_2 : Addr, h0.size ≤ b1_7_2 ∧ Obj Z h a1 L_String [.ref b1_7_2, .int 1] ∧ Ary Z h b1_7_2 ATB 4 (lv [.int ((((((p3 <<< ((12 : Int32) &&& 31)) ^^^ (p4 <<< ((6 : Int32) &&& 31))) ^^^ (p5 ^^^ (-123008))).toUInt32.toUInt16.toUInt32.toInt32) >>> ((0 : Int32) &&& 31)).toInt8.toInt32), .int ((((((p3 <<< ((12 : Int32) &&& 31)) ^^^ (p4 <<< ((6 : Int32) &&& 31))) ^^^ (p5 ^^^ (-123008))).toUInt32.toUInt16.toUInt32.toInt32) >>> ((8 : Int32) &&& 31)).toInt8.toInt32), .int (((p6.toUInt32.toUInt16.toUInt32.toInt32) >>> ((0 : Int32) &&& 31)).toInt8.toInt32), .int (((p6.toUInt32.toUInt16.toUInt32.toInt32) >>> ((8 : Int32) &&& 31)).toInt8.toInt32)])) := by
  refine Mt.go PN2 (Or.inl rfl) ef_RRR_3 fun k => ?_
  replace k := k |>.aloadN D2_0 rfl rfl |>.aloadN D2_1 rfl rfl
  replace k := (k.callS (w_13 hw) (S3 hw) (R_Objects_requireNonNull_1 hw) D2_2 1 rfl).pv
  replace k := k |>.castY (w_17 hw) (Ins.of_exa (pr1.ext k.old.2).exa (w_18 hw)) D2_5 |>.aloadN D2_8 rfl rfl |>.iconst D2_9 0 |>.aloadN D2_10 rfl rfl |>.alen pr2 D2_11 (z := 4) (by decide)
  have z2 := k.sz
  obtain ⟨h2, K2, ⟨b1_7_2, f2_0, f2_1, f2_2⟩, k⟩ := (k.callI (w_19 hw) (I4 hw) (R_String__init__54 hw pr17 pr18 pr3 pr2 pr4 pr5 pr16 pr19 pr6 pr7 pr8 pr9 pr10 pr11 pr12 pr13 pr20 pr21 pr22 pr14 pr15) D2_12 0 rfl).k0 (allS pr15 all0)
  have s_b1_7_2 := Nat.le_trans z2 f2_0
  exact k.ret0 D2_15 rfl ⟨rfl, K2, b1_7_2, s_b1_7_2, f2_1, f2_2⟩
theorem R_Utf8_decodeName_27 {a1 w_U8 : Addr} {p2 p3 p4 p5 w_CS : Int32} {w_SF : Value} (hw : HW a0 Z) (pr1 : TS_U8 Z w_U8) (pr2 : Ary Z h0 a1 ATB 4 (lv [.int p2, .int p3, .int p4, .int p5])) (pr3 : ¬ (w_CS = 0)) (pr4 : p2 < 0) (pr5 : ¬ ((p2 &&& 254) = 194)) (pr6 : ¬ ((p2 >>> ((5 : Int32) &&& 31)) = (-2))) (pr7 : (p2 >>> ((4 : Int32) &&& 31)) = (-2)) (pr8 : ¬ (p2 = (-32))) (pr9 : (p3 &&& 192) = 128) (pr10 : (p4 &&& 192) = 128) (pr11 : ¬ (((((p2 <<< ((12 : Int32) &&& 31)) ^^^ (p3 <<< ((6 : Int32) &&& 31))) ^^^ (p4 ^^^ (-123008))).toUInt32.toUInt16.toUInt32.toInt32) < 55296)) (pr12 : ¬ (((((p2 <<< ((12 : Int32) &&& 31)) ^^^ (p3 <<< ((6 : Int32) &&& 31))) ^^^ (p4 ^^^ (-123008))).toUInt32.toUInt16.toUInt32.toInt32) < 57344)) (pr13 : ¬ (p5 < 0)) (pr14 : w_SF.isRef = true) (pr15 : Obj Z Z.heap w_U8 L_UTF_8 []) (pr16 : TS_UI Z w_U8) (pr17 : TS_CS Z w_CS) (pr18 : TS_SF Z w_SF) (pr19 : TS_AD Z) (pr20 : TS_HI Z) (pr21 : TS_LO Z) : Mt false [] l Y1 C1 (rmk 7 4 20 113) #[.ref a1] Z a0 h0 n0 (KpV h0 [] fun v h => ∃ b1 b1_7_2_2 : Addr, v = (.ref b1) ∧ h0.size ≤ b1 ∧ h0.size ≤ b1_7_2_2 ∧ b1_7_2_2 ≠ b1 ∧ Obj Z h b1 L_String [.ref b1_7_2_2, .int 1] ∧ Ary Z h b1_7_2_2 ATB 4 (lv [.int ((((((p2 <<< ((12 : Int32) &&& 31)) ^^^ (p3 <<< ((6 : Int32) &&& 31))) ^^^ (p4 ^^^ (-123008))).toUInt32.toUInt16.toUInt32.toInt32) >>> ((0 : Int32) &&& 31)).toInt8.toInt32), .int ((((((p2 <<< ((12 : Int32) &&& 31)) ^^^ (p3 <<< ((6 : Int32) &&& 31))) ^^^ (p4 ^^^ (-123008))).toUInt32.toUInt16.toUInt32.toInt32) >>> ((8 : Int32) &&& 31)).toInt8.toInt32), .int (((p5.toUInt32.toUInt16.toUInt32.toInt32) >>> ((0 : Int32) &&& 31)).toInt8.toInt32), .int (((p5.toUInt32.toUInt16.toUInt32.toInt32) >>> ((8 : Int32) &&& 31)).toInt8.toInt32)])) := by
  refine Mt.go PN1 (Or.inl rfl) ef_R_1 fun k => ?_
  have nz := k.n0le
  have z1 := k.sz
  obtain ⟨b1, h1, g1, K1, O1, k⟩ := k.new (w_5 hw) (nw_String hw) D1_0 (by decide) dvL_String
  replace k := k |>.dup D1_3 rfl |>.aloadN D1_4 rfl rfl |>.getS (fl_8 hw) pr1 D1_5
  have s_b1 := Nat.le_trans z1 g1
  have n_b1 := Nat.le_trans nz s_b1
  have o3 := pr2.keep K1 nin0
  have z2 := k.sz
  obtain ⟨h2, K2, ⟨b1_7_2_2, f2_0, f2_1, f2_2⟩, k⟩ := (k.callI (w_10 hw) (I2 hw) (R_String__init__53 hw pr15 o3 pr3 pr4 pr5 pr6 pr7 pr8 pr9 pr10 pr11 pr12 pr13 O1 n_b1 pr14 pr16 pr17 pr18 pr19 pr20 pr21) D1_8 1 rfl).k0 (allS n_b1 all0)
  have s_b1_7_2_2 := Nat.le_trans z2 f2_0
  exact k.retA D1_11 rfl ⟨_, rfl, (K1.trans K2 (allS (Or.inr s_b1) all0)), b1, b1_7_2_2, rfl, s_b1, s_b1_7_2_2, (nlt' O1.lt f2_0), f2_1, f2_2⟩
theorem own_d80 {p1 v0 v1 v2 : Int32} (e0 : v0 = (p1 &&& 2147483647)) (e1 : v1 = (v0 % 63488)) (e2 : v2 = (2048 + v1)) (q0 : ¬ (v2 < 55296)) (q1 : 57343 < v2) : v2 < 65536 := by
  have : (2048 : Int32).toInt = 2048 := by decide
  have := rng32 p1
  have : (2147483647 : Int32).toInt = 2147483647 := by decide
  have := e_mask e0 31 2147483648
  have : (63488 : Int32).toInt = 63488 := by decide
  have := e_iremN e1 63488 (by omega)
  have := e_iaddN e2 (by omega)
  have : (55296 : Int32).toInt = 55296 := by decide
  have := i_nlt q0
  have : (57343 : Int32).toInt = 57343 := by decide
  have := i_lt q1
  have : (65536 : Int32).toInt = 65536 := by decide
  exact o_lt (by omega)
theorem own_d81 {p1 v0 v1 v2 v3 v4 v5 v6 v7 v8 v9 : Int32} (e0 : v0 = (p1 &&& 2147483647)) (e1 : v1 = (v0 % 63488)) (e2 : v2 = (2048 + v1)) (e3 : v3 = (v2 >>> ((12 : Int32) &&& 31))) (e4 : v4 = (v2 >>> ((6 : Int32) &&& 31))) (e5 : v5 = (v4 &&& 63)) (e6 : v6 = (v2 &&& 63)) (e7 : v7 = ((((224 ||| v3).toInt8.toInt32 <<< ((12 : Int32) &&& 31)) ^^^ ((128 ||| v5).toInt8.toInt32 <<< ((6 : Int32) &&& 31))) ^^^ ((128 ||| v6).toInt8.toInt32 ^^^ (-123008)))) (e8 : v8 = (v7.toUInt32.toUInt16.toUInt32.toInt32)) (e9 : v9 = (((((v8 >>> ((0 : Int32) &&& 31)).toInt8.toInt32) &&& 255) <<< ((0 : Int32) &&& 31)) ||| ((((v8 >>> ((8 : Int32) &&& 31)).toInt8.toInt32) &&& 255) <<< ((8 : Int32) &&& 31))).toUInt32.toUInt16.toUInt32.toInt32) (q0 : ¬ (v2 < 55296)) (q1 : 57343 < v2) : v9 = v2 := by
  have : (2048 : Int32).toInt = 2048 := by decide
  have := rng32 p1
  have : (2147483647 : Int32).toInt = 2147483647 := by decide
  have := e_mask e0 31 2147483648
  have : (63488 : Int32).toInt = 63488 := by decide
  have := e_iremN e1 63488 (by omega)
  have := e_iaddN e2 (by omega)
  have : (55296 : Int32).toInt = 55296 := by decide
  have := i_nlt q0
  have : (57343 : Int32).toInt = 57343 := by decide
  have := i_lt q1
  have : (12 : Int32).toInt = 12 := by decide
  have := e_ishr e3 12 4096
  have : (6 : Int32).toInt = 6 := by decide
  have := e_ishr e4 6 64
  have : (63 : Int32).toInt = 63 := by decide
  have := e_mask e5 6 64
  have := e_mask e6 6 64
  have := e_dec3 e7 (by omega) (by omega) (by omega) (by omega) (by omega) (by omega)
  have := e_i2cN e8 (by omega)
  have := e_gc e9 (by omega) (by omega)
  exact o_eq (by omega)
theorem D29_50 : Dc J29 50 (.iload_n 2) 1 51 := by decide +kernel
theorem D29_51 : Dc J29 51 (.sipush 2048) 3 54 := by decide +kernel
theorem D29_54 : Dc J29 54 .ixor 1 55 := by decide +kernel
theorem D29_55 : Dc J29 55 (.istore_n 2) 1 56 := by decide +kernel
theorem R_Utf8DecodeNamePinLaw_codePoint_10 {p1 p2 : Int32} (hw : HW a0 Z) (pr1 : ¬ (p1 = 0)) (pr2 : ¬ (p1 = 1)) (pr3 : p1 = 2) (pr4 : ¬ ((2048 + (p2 % 63488)) < 55296)) (pr5 : ¬ (57343 < (2048 + (p2 % 63488)))) : Mt false [] l Y29 C29 (rmk 0 0 0 0) #[.int p1, .int p2] Z a0 h0 n0 (Pv h0 (.int ((2048 + (p2 % 63488)) ^^^ 2048))) := by
  refine Mt.go PN29 (Or.inl rfl) ef_II_3 fun k => ?_
  replace k := k |>.iloadN D29_0 rfl |>.ifYes D29_1 ((if0 _ _).trans (feq pr1).2) |>.iloadN D29_9 rfl |>.iconst D29_10 1 |>.icmpYes D29_11 (feq pr2).2 |>.iloadN D29_24 rfl |>.iconst D29_25 2 |>.icmpNo D29_26 (teq pr3).2 |>.sipush D29_29 2048 |>.iloadN D29_32 rfl |>.ldcI (w_193 hw) D29_33 |>.irem D29_35 (by decide) rfl
  replace k := k |>.iadd D29_36 rfl |>.istoreN D29_37 sto2 |>.iloadN D29_38 rfl |>.ldcI (w_177 hw) D29_39 |>.icmpNo D29_41 (flt pr4).1 |>.iloadN D29_44 rfl |>.ldcI (w_205 hw) D29_45 |>.icmpNo D29_47 (flt pr5).2.2.1 |>.iloadN D29_50 rfl |>.sipush D29_51 2048 |>.ixor D29_54 rfl |>.istoreN D29_55 sto2
  replace k := k |>.iloadN D29_56 rfl
  exact k.retI D29_57 rfl ⟨rfl, rfl⟩
theorem own_d82 {p1 v0 v1 v2 v3 v4 v5 : Int32} (e0 : v0 = (p1 &&& 2147483647)) (e1 : v1 = (v0 % 63488)) (e2 : v2 = (2048 + v1)) (e3 : v3 = (v2 ^^^ 2048)) (e4 : v4 = (v3 >>> ((12 : Int32) &&& 31))) (e5 : v5 = ((224 ||| v4).toInt8.toInt32)) (q0 : ¬ (v2 < 55296)) (q1 : ¬ (57343 < v2)) : v5 < 0 := by
  have : (2048 : Int32).toInt = 2048 := by decide
  have := rng32 p1
  have : (2147483647 : Int32).toInt = 2147483647 := by decide
  have := e_mask e0 31 2147483648
  have : (63488 : Int32).toInt = 63488 := by decide
  have := e_iremN e1 63488 (by omega)
  have := e_iaddN e2 (by omega)
  have : (55296 : Int32).toInt = 55296 := by decide
  have := i_nlt q0
  have : (57343 : Int32).toInt = 57343 := by decide
  have := i_nlt q1
  have := e_x11 e3 (by omega) (by omega)
  have : (12 : Int32).toInt = 12 := by decide
  have := e_ishr e4 12 4096
  have := e_hbN e5 5 32 224 (by omega)
  have : (0 : Int32).toInt = 0 := by decide
  exact o_lt (by omega)
theorem own_d83 {p1 v0 v1 v2 v3 v4 v5 v6 : Int32} (e0 : v0 = (p1 &&& 2147483647)) (e1 : v1 = (v0 % 63488)) (e2 : v2 = (2048 + v1)) (e3 : v3 = (v2 ^^^ 2048)) (e4 : v4 = (v3 >>> ((12 : Int32) &&& 31))) (e5 : v5 = ((224 ||| v4).toInt8.toInt32)) (e6 : v6 = (v5 &&& 254)) (q0 : ¬ (v2 < 55296)) (q1 : ¬ (57343 < v2)) : ¬ (v6 = 194) := by
  have : (2048 : Int32).toInt = 2048 := by decide
  have := rng32 p1
  have : (2147483647 : Int32).toInt = 2147483647 := by decide
  have := e_mask e0 31 2147483648
  have : (63488 : Int32).toInt = 63488 := by decide
  have := e_iremN e1 63488 (by omega)
  have := e_iaddN e2 (by omega)
  have : (55296 : Int32).toInt = 55296 := by decide
  have := i_nlt q0
  have : (57343 : Int32).toInt = 57343 := by decide
  have := i_nlt q1
  have := e_x11 e3 (by omega) (by omega)
  have : (12 : Int32).toInt = 12 := by decide
  have := e_ishr e4 12 4096
  have := e_hbN e5 5 32 224 (by omega)
  have : (254 : Int32).toInt = 254 := by decide
  have : v5.toInt % 256 = v5.toInt + 256 := by omega
  have := e_mask2 e6 1 7 256 2
  have : (194 : Int32).toInt = 194 := by decide
  exact o_neq (by omega)
theorem own_d84 {p1 v0 v1 v2 v3 v4 v5 v6 : Int32} (e0 : v0 = (p1 &&& 2147483647)) (e1 : v1 = (v0 % 63488)) (e2 : v2 = (2048 + v1)) (e3 : v3 = (v2 ^^^ 2048)) (e4 : v4 = (v3 >>> ((12 : Int32) &&& 31))) (e5 : v5 = ((224 ||| v4).toInt8.toInt32)) (e6 : v6 = (v5 >>> ((5 : Int32) &&& 31))) (q0 : ¬ (v2 < 55296)) (q1 : ¬ (57343 < v2)) : ¬ (v6 = (-2)) := by
  have : (2048 : Int32).toInt = 2048 := by decide
  have := rng32 p1
  have : (2147483647 : Int32).toInt = 2147483647 := by decide
  have := e_mask e0 31 2147483648
  have : (63488 : Int32).toInt = 63488 := by decide
  have := e_iremN e1 63488 (by omega)
  have := e_iaddN e2 (by omega)
  have : (55296 : Int32).toInt = 55296 := by decide
  have := i_nlt q0
  have : (57343 : Int32).toInt = 57343 := by decide
  have := i_nlt q1
  have := e_x11 e3 (by omega) (by omega)
  have : (12 : Int32).toInt = 12 := by decide
  have := e_ishr e4 12 4096
  have := e_hbN e5 5 32 224 (by omega)
  have : (5 : Int32).toInt = 5 := by decide
  have := e_ishr e6 5 32
  have : (-2 : Int32).toInt = -2 := by decide
  exact o_neq (by omega)
theorem own_d85 {p1 v0 v1 v2 v3 v4 v5 v6 : Int32} (e0 : v0 = (p1 &&& 2147483647)) (e1 : v1 = (v0 % 63488)) (e2 : v2 = (2048 + v1)) (e3 : v3 = (v2 ^^^ 2048)) (e4 : v4 = (v3 >>> ((12 : Int32) &&& 31))) (e5 : v5 = ((224 ||| v4).toInt8.toInt32)) (e6 : v6 = (v5 >>> ((4 : Int32) &&& 31))) (q0 : ¬ (v2 < 55296)) (q1 : ¬ (57343 < v2)) : v6 = (-2) := by
  have : (2048 : Int32).toInt = 2048 := by decide
  have := rng32 p1
  have : (2147483647 : Int32).toInt = 2147483647 := by decide
  have := e_mask e0 31 2147483648
  have : (63488 : Int32).toInt = 63488 := by decide
  have := e_iremN e1 63488 (by omega)
  have := e_iaddN e2 (by omega)
  have : (55296 : Int32).toInt = 55296 := by decide
  have := i_nlt q0
  have : (57343 : Int32).toInt = 57343 := by decide
  have := i_nlt q1
  have := e_x11 e3 (by omega) (by omega)
  have : (12 : Int32).toInt = 12 := by decide
  have := e_ishr e4 12 4096
  have := e_hbN e5 5 32 224 (by omega)
  have : (4 : Int32).toInt = 4 := by decide
  have := e_ishr e6 4 16
  have : (-2 : Int32).toInt = -2 := by decide
  exact o_eq (by omega)
theorem own_d86 {p1 v0 v1 v2 v3 v4 v5 : Int32} (e0 : v0 = (p1 &&& 2147483647)) (e1 : v1 = (v0 % 63488)) (e2 : v2 = (2048 + v1)) (e3 : v3 = (v2 ^^^ 2048)) (e4 : v4 = (v3 >>> ((12 : Int32) &&& 31))) (e5 : v5 = ((224 ||| v4).toInt8.toInt32)) (q0 : ¬ (v2 < 55296)) (q1 : ¬ (57343 < v2)) : ¬ (v5 = (-32)) := by
  have : (2048 : Int32).toInt = 2048 := by decide
  have := rng32 p1
  have : (2147483647 : Int32).toInt = 2147483647 := by decide
  have := e_mask e0 31 2147483648
  have : (63488 : Int32).toInt = 63488 := by decide
  have := e_iremN e1 63488 (by omega)
  have := e_iaddN e2 (by omega)
  have : (55296 : Int32).toInt = 55296 := by decide
  have := i_nlt q0
  have : (57343 : Int32).toInt = 57343 := by decide
  have := i_nlt q1
  have := e_x11 e3 (by omega) (by omega)
  have : (12 : Int32).toInt = 12 := by decide
  have := e_ishr e4 12 4096
  have := e_hbN e5 5 32 224 (by omega)
  have : (-32 : Int32).toInt = -32 := by decide
  exact o_neq (by omega)
theorem own_d87 {p1 v0 v1 v2 v3 v4 v5 v6 v7 : Int32} (e0 : v0 = (p1 &&& 2147483647)) (e1 : v1 = (v0 % 63488)) (e2 : v2 = (2048 + v1)) (e3 : v3 = (v2 ^^^ 2048)) (e4 : v4 = (v3 >>> ((6 : Int32) &&& 31))) (e5 : v5 = (v4 &&& 63)) (e6 : v6 = ((128 ||| v5).toInt8.toInt32)) (e7 : v7 = (v6 &&& 192)) (q0 : ¬ (v2 < 55296)) (q1 : ¬ (57343 < v2)) : v7 = 128 := by
  have : (2048 : Int32).toInt = 2048 := by decide
  have := rng32 p1
  have : (2147483647 : Int32).toInt = 2147483647 := by decide
  have := e_mask e0 31 2147483648
  have : (63488 : Int32).toInt = 63488 := by decide
  have := e_iremN e1 63488 (by omega)
  have := e_iaddN e2 (by omega)
  have : (55296 : Int32).toInt = 55296 := by decide
  have := i_nlt q0
  have : (57343 : Int32).toInt = 57343 := by decide
  have := i_nlt q1
  have := e_x11 e3 (by omega) (by omega)
  have : (6 : Int32).toInt = 6 := by decide
  have := e_ishr e4 6 64
  have : (63 : Int32).toInt = 63 := by decide
  have := e_mask e5 6 64
  have := e_hbN e6 7 128 128 (by omega)
  have : (192 : Int32).toInt = 192 := by decide
  have : v6.toInt % 256 = v6.toInt + 256 := by omega
  have := e_mask2 e7 6 2 256 64
  have : (128 : Int32).toInt = 128 := by decide
  exact o_eq (by omega)
theorem own_d88 {p1 v0 v1 v2 v3 v4 v5 v6 : Int32} (e0 : v0 = (p1 &&& 2147483647)) (e1 : v1 = (v0 % 63488)) (e2 : v2 = (2048 + v1)) (e3 : v3 = (v2 ^^^ 2048)) (e4 : v4 = (v3 &&& 63)) (e5 : v5 = ((128 ||| v4).toInt8.toInt32)) (e6 : v6 = (v5 &&& 192)) (q0 : ¬ (v2 < 55296)) (q1 : ¬ (57343 < v2)) : v6 = 128 := by
  have : (2048 : Int32).toInt = 2048 := by decide
  have := rng32 p1
  have : (2147483647 : Int32).toInt = 2147483647 := by decide
  have := e_mask e0 31 2147483648
  have : (63488 : Int32).toInt = 63488 := by decide
  have := e_iremN e1 63488 (by omega)
  have := e_iaddN e2 (by omega)
  have : (55296 : Int32).toInt = 55296 := by decide
  have := i_nlt q0
  have : (57343 : Int32).toInt = 57343 := by decide
  have := i_nlt q1
  have := e_x11 e3 (by omega) (by omega)
  have : (63 : Int32).toInt = 63 := by decide
  have := e_mask e4 6 64
  have := e_hbN e5 7 128 128 (by omega)
  have : (192 : Int32).toInt = 192 := by decide
  have : v5.toInt % 256 = v5.toInt + 256 := by omega
  have := e_mask2 e6 6 2 256 64
  have : (128 : Int32).toInt = 128 := by decide
  exact o_eq (by omega)
theorem own_d89 {p1 v0 v1 v2 v3 v4 v5 v6 v7 v8 v9 : Int32} (e0 : v0 = (p1 &&& 2147483647)) (e1 : v1 = (v0 % 63488)) (e2 : v2 = (2048 + v1)) (e3 : v3 = (v2 ^^^ 2048)) (e4 : v4 = (v3 >>> ((12 : Int32) &&& 31))) (e5 : v5 = (v3 >>> ((6 : Int32) &&& 31))) (e6 : v6 = (v5 &&& 63)) (e7 : v7 = (v3 &&& 63)) (e8 : v8 = ((((224 ||| v4).toInt8.toInt32 <<< ((12 : Int32) &&& 31)) ^^^ ((128 ||| v6).toInt8.toInt32 <<< ((6 : Int32) &&& 31))) ^^^ ((128 ||| v7).toInt8.toInt32 ^^^ (-123008)))) (e9 : v9 = (v8.toUInt32.toUInt16.toUInt32.toInt32)) (q0 : ¬ (v2 < 55296)) (q1 : ¬ (57343 < v2)) : v9 < 55296 := by
  have : (2048 : Int32).toInt = 2048 := by decide
  have := rng32 p1
  have : (2147483647 : Int32).toInt = 2147483647 := by decide
  have := e_mask e0 31 2147483648
  have : (63488 : Int32).toInt = 63488 := by decide
  have := e_iremN e1 63488 (by omega)
  have := e_iaddN e2 (by omega)
  have : (55296 : Int32).toInt = 55296 := by decide
  have := i_nlt q0
  have : (57343 : Int32).toInt = 57343 := by decide
  have := i_nlt q1
  have := e_x11 e3 (by omega) (by omega)
  have : (12 : Int32).toInt = 12 := by decide
  have := e_ishr e4 12 4096
  have : (6 : Int32).toInt = 6 := by decide
  have := e_ishr e5 6 64
  have : (63 : Int32).toInt = 63 := by decide
  have := e_mask e6 6 64
  have := e_mask e7 6 64
  have := e_dec3 e8 (by omega) (by omega) (by omega) (by omega) (by omega) (by omega)
  have := e_i2cN e9 (by omega)
  exact o_lt (by omega)
theorem own_d90 {p1 v0 v1 v2 v3 : Int32} (e0 : v0 = (p1 &&& 2147483647)) (e1 : v1 = (v0 % 63488)) (e2 : v2 = (2048 + v1)) (e3 : v3 = (v2 ^^^ 2048)) (q0 : ¬ (v2 < 55296)) (q1 : ¬ (57343 < v2)) : v3 < 65536 := by
  have : (2048 : Int32).toInt = 2048 := by decide
  have := rng32 p1
  have : (2147483647 : Int32).toInt = 2147483647 := by decide
  have := e_mask e0 31 2147483648
  have : (63488 : Int32).toInt = 63488 := by decide
  have := e_iremN e1 63488 (by omega)
  have := e_iaddN e2 (by omega)
  have : (55296 : Int32).toInt = 55296 := by decide
  have := i_nlt q0
  have : (57343 : Int32).toInt = 57343 := by decide
  have := i_nlt q1
  have := e_x11 e3 (by omega) (by omega)
  have : (65536 : Int32).toInt = 65536 := by decide
  exact o_lt (by omega)
theorem own_d91 {p1 v0 v1 v2 v3 v4 v5 v6 v7 v8 v9 v10 : Int32} (e0 : v0 = (p1 &&& 2147483647)) (e1 : v1 = (v0 % 63488)) (e2 : v2 = (2048 + v1)) (e3 : v3 = (v2 ^^^ 2048)) (e4 : v4 = (v3 >>> ((12 : Int32) &&& 31))) (e5 : v5 = (v3 >>> ((6 : Int32) &&& 31))) (e6 : v6 = (v5 &&& 63)) (e7 : v7 = (v3 &&& 63)) (e8 : v8 = ((((224 ||| v4).toInt8.toInt32 <<< ((12 : Int32) &&& 31)) ^^^ ((128 ||| v6).toInt8.toInt32 <<< ((6 : Int32) &&& 31))) ^^^ ((128 ||| v7).toInt8.toInt32 ^^^ (-123008)))) (e9 : v9 = (v8.toUInt32.toUInt16.toUInt32.toInt32)) (e10 : v10 = (((((v9 >>> ((0 : Int32) &&& 31)).toInt8.toInt32) &&& 255) <<< ((0 : Int32) &&& 31)) ||| ((((v9 >>> ((8 : Int32) &&& 31)).toInt8.toInt32) &&& 255) <<< ((8 : Int32) &&& 31))).toUInt32.toUInt16.toUInt32.toInt32) (q0 : ¬ (v2 < 55296)) (q1 : ¬ (57343 < v2)) : v10 = v3 := by
  have : (2048 : Int32).toInt = 2048 := by decide
  have := rng32 p1
  have : (2147483647 : Int32).toInt = 2147483647 := by decide
  have := e_mask e0 31 2147483648
  have : (63488 : Int32).toInt = 63488 := by decide
  have := e_iremN e1 63488 (by omega)
  have := e_iaddN e2 (by omega)
  have : (55296 : Int32).toInt = 55296 := by decide
  have := i_nlt q0
  have : (57343 : Int32).toInt = 57343 := by decide
  have := i_nlt q1
  have := e_x11 e3 (by omega) (by omega)
  have : (12 : Int32).toInt = 12 := by decide
  have := e_ishr e4 12 4096
  have : (6 : Int32).toInt = 6 := by decide
  have := e_ishr e5 6 64
  have : (63 : Int32).toInt = 63 := by decide
  have := e_mask e6 6 64
  have := e_mask e7 6 64
  have := e_dec3 e8 (by omega) (by omega) (by omega) (by omega) (by omega) (by omega)
  have := e_i2cN e9 (by omega)
  have := e_gc e10 (by omega) (by omega)
  exact o_eq (by omega)
theorem D29_58 : Dc J29 58 (.ldc 10) 2 60 := by decide +kernel
theorem D29_60 : Dc J29 60 (.iload_n 1) 1 61 := by decide +kernel
theorem D29_61 : Dc J29 61 (.ldc 11) 2 63 := by decide +kernel
abbrev w_99 (hw : HW a0 Z) := hw _ (List.mem_of_getElem? (i := 99) rfl)
theorem D29_63 : Dc J29 63 .irem 1 64 := by decide +kernel
theorem D29_64 : Dc J29 64 .iadd 1 65 := by decide +kernel
theorem D29_65 : Dc J29 65 .ireturn 1 66 := by decide +kernel
theorem R_Utf8DecodeNamePinLaw_codePoint_11 {p1 p2 : Int32} (hw : HW a0 Z) (pr1 : ¬ (p1 = 0)) (pr2 : ¬ (p1 = 1)) (pr3 : ¬ (p1 = 2)) : Mt false [] l Y29 C29 (rmk 0 0 0 0) #[.int p1, .int p2] Z a0 h0 n0 (Pv h0 (.int (65536 + (p2 % 1048576)))) := by
  refine Mt.go PN29 (Or.inl rfl) ef_II_3 fun k => ?_
  replace k := k |>.iloadN D29_0 rfl |>.ifYes D29_1 ((if0 _ _).trans (feq pr1).2) |>.iloadN D29_9 rfl |>.iconst D29_10 1 |>.icmpYes D29_11 (feq pr2).2 |>.iloadN D29_24 rfl |>.iconst D29_25 2 |>.icmpYes D29_26 (feq pr3).2 |>.ldcI (w_66 hw) D29_58 |>.iloadN D29_60 rfl |>.ldcI (w_99 hw) D29_61 |>.irem D29_63 (by decide) rfl
  replace k := k |>.iadd D29_64 rfl
  exact k.retI D29_65 rfl ⟨rfl, rfl⟩
theorem D30_191 : Dc J30 191 (.sipush 240) 3 194 := by decide +kernel
theorem D30_194 : Dc J30 194 (.iload_n 0) 1 195 := by decide +kernel
theorem D30_195 : Dc J30 195 (.bipush 18) 2 197 := by decide +kernel
theorem D30_197 : Dc J30 197 .ishr 1 198 := by decide +kernel
theorem D30_198 : Dc J30 198 .ior 1 199 := by decide +kernel
theorem D30_199 : Dc J30 199 .i2b 1 200 := by decide +kernel
theorem D30_200 : Dc J30 200 (.istore 5) 2 202 := by decide +kernel
theorem D30_202 : Dc J30 202 (.sipush 128) 3 205 := by decide +kernel
theorem D30_205 : Dc J30 205 (.iload_n 0) 1 206 := by decide +kernel
theorem D30_206 : Dc J30 206 (.bipush 12) 2 208 := by decide +kernel
theorem D30_208 : Dc J30 208 .ishr 1 209 := by decide +kernel
theorem D30_209 : Dc J30 209 (.bipush 63) 2 211 := by decide +kernel
theorem D30_211 : Dc J30 211 .iand 1 212 := by decide +kernel
theorem D30_212 : Dc J30 212 .ior 1 213 := by decide +kernel
theorem D30_213 : Dc J30 213 .i2b 1 214 := by decide +kernel
theorem D30_214 : Dc J30 214 (.istore 6) 2 216 := by decide +kernel
theorem D30_216 : Dc J30 216 (.sipush 128) 3 219 := by decide +kernel
theorem D30_219 : Dc J30 219 (.iload_n 0) 1 220 := by decide +kernel
theorem D30_220 : Dc J30 220 (.bipush 6) 2 222 := by decide +kernel
theorem D30_222 : Dc J30 222 .ishr 1 223 := by decide +kernel
theorem D30_223 : Dc J30 223 (.bipush 63) 2 225 := by decide +kernel
theorem D30_225 : Dc J30 225 .iand 1 226 := by decide +kernel
theorem D30_226 : Dc J30 226 .ior 1 227 := by decide +kernel
theorem D30_227 : Dc J30 227 .i2b 1 228 := by decide +kernel
theorem D30_228 : Dc J30 228 (.istore 7) 2 230 := by decide +kernel
theorem D30_230 : Dc J30 230 (.sipush 128) 3 233 := by decide +kernel
theorem D30_233 : Dc J30 233 (.iload_n 0) 1 234 := by decide +kernel
theorem D30_234 : Dc J30 234 (.bipush 63) 2 236 := by decide +kernel
theorem D30_236 : Dc J30 236 .iand 1 237 := by decide +kernel
theorem D30_237 : Dc J30 237 .ior 1 238 := by decide +kernel
theorem D30_238 : Dc J30 238 .i2b 1 239 := by decide +kernel
theorem D30_239 : Dc J30 239 (.istore 8) 2 241 := by decide +kernel
theorem D30_241 : Dc J30 241 (.iload_n 2) 1 242 := by decide +kernel
theorem D30_242 : Dj J30 242 (.ifCond .eq 32) 32 245 274 := by decide +kernel
theorem D30_245 : Dc J30 245 (.iconst 5) 1 246 := by decide +kernel
theorem D30_246 : Dc J30 246 (.newarray .byte) 2 248 := by decide +kernel
theorem D30_248 : Dc J30 248 .dup 1 249 := by decide +kernel
theorem D30_249 : Dc J30 249 (.iconst 0) 1 250 := by decide +kernel
theorem D30_250 : Dc J30 250 (.iload 5) 2 252 := by decide +kernel
theorem D30_252 : Dc J30 252 .bastore 1 253 := by decide +kernel
theorem D30_253 : Dc J30 253 .dup 1 254 := by decide +kernel
theorem D30_254 : Dc J30 254 (.iconst 1) 1 255 := by decide +kernel
theorem D30_255 : Dc J30 255 (.iload 6) 2 257 := by decide +kernel
theorem D30_257 : Dc J30 257 .bastore 1 258 := by decide +kernel
theorem D30_258 : Dc J30 258 .dup 1 259 := by decide +kernel
theorem D30_259 : Dc J30 259 (.iconst 2) 1 260 := by decide +kernel
theorem D30_260 : Dc J30 260 (.iload 7) 2 262 := by decide +kernel
theorem D30_262 : Dc J30 262 .bastore 1 263 := by decide +kernel
theorem D30_263 : Dc J30 263 .dup 1 264 := by decide +kernel
theorem D30_264 : Dc J30 264 (.iconst 3) 1 265 := by decide +kernel
theorem D30_265 : Dc J30 265 (.iload 8) 2 267 := by decide +kernel
theorem D30_267 : Dc J30 267 .bastore 1 268 := by decide +kernel
theorem D30_268 : Dc J30 268 .dup 1 269 := by decide +kernel
theorem D30_269 : Dc J30 269 (.iconst 4) 1 270 := by decide +kernel
theorem D30_270 : Dc J30 270 (.iload 4) 2 272 := by decide +kernel
theorem D30_272 : Dc J30 272 .bastore 1 273 := by decide +kernel
theorem lvs4 {x0 x1 x2 x3 x v : Value} {t : List Value} {n : Nat} : ∀ j, j < n → updv (lv (x0 :: x1 :: x2 :: x3 :: x :: t)) 4 v j = lv (x0 :: x1 :: x2 :: x3 :: v :: t) j := lv_set rfl (by simp)
theorem D30_273 : Dc J30 273 .areturn 1 274 := by decide +kernel
theorem R_Utf8DecodeNamePinLaw_encode_4 {p1 p2 p3 : Int32} (hw : HW a0 Z) (pr1 : ¬ (p2 = 0)) (pr2 : ¬ (p2 = 1)) (pr3 : ¬ (p2 = 2)) : Mt false [] l Y30 C30 (rmk 0 1 5 0) #[.int p1, .int p2, .int 1, .int p3] Z a0 h0 n0 (KpV h0 [] fun v h => ∃ b1 : Addr, v = (.ref b1) ∧ h0.size ≤ b1 ∧ Ary Z h b1 ATB 5 (lv [.int ((240 ||| (p1 >>> ((18 : Int32) &&& 31))).toInt8.toInt32), .int ((128 ||| ((p1 >>> ((12 : Int32) &&& 31)) &&& 63)).toInt8.toInt32), .int ((128 ||| ((p1 >>> ((6 : Int32) &&& 31)) &&& 63)).toInt8.toInt32), .int ((128 ||| (p1 &&& 63)).toInt8.toInt32), .int (p3.toInt8.toInt32)])) := by
  refine Mt.go PN30 (Or.inl rfl) ef_IIII_9_1 fun k => ?_
  have nz := k.n0le
  replace k := k |>.iloadN D30_0 rfl |>.i2b D30_1 rfl |>.istore D30_2 sto4 |>.iloadN D30_4 rfl |>.ifYes D30_5 ((if0 _ _).trans (feq pr1).2) |>.iloadN D30_39 rfl |>.iconst D30_40 1 |>.icmpYes D30_41 (feq pr2).2 |>.iloadN D30_103 rfl |>.iconst D30_104 2 |>.icmpYes D30_105 (feq pr3).2 |>.sipush D30_191 240
  replace k := k |>.iloadN D30_194 rfl |>.bipush D30_195 18 |>.ishr D30_197 rfl |>.ior D30_198 rfl |>.i2b D30_199 rfl |>.istore D30_200 sto5 |>.sipush D30_202 128 |>.iloadN D30_205 rfl |>.bipush D30_206 12 |>.ishr D30_208 rfl |>.bipush D30_209 63 |>.iand D30_211 rfl
  replace k := k |>.ior D30_212 rfl |>.i2b D30_213 rfl |>.istore D30_214 sto6 |>.sipush D30_216 128 |>.iloadN D30_219 rfl |>.bipush D30_220 6 |>.ishr D30_222 rfl |>.bipush D30_223 63 |>.iand D30_225 rfl |>.ior D30_226 rfl |>.i2b D30_227 rfl |>.istore D30_228 sto7
  replace k := k |>.sipush D30_230 128 |>.iloadN D30_233 rfl |>.bipush D30_234 63 |>.iand D30_236 rfl |>.ior D30_237 rfl |>.i2b D30_238 rfl |>.istore D30_239 sto8 |>.iloadN D30_241 rfl |>.ifNo D30_242 (by decide) |>.iconst D30_245 5
  have z1 := k.sz
  obtain ⟨b1, h1, g1, K1, O1, k⟩ := k.newP (aty := .byte) "[B" (w_0 hw) (by decide) D30_246 5 (by decide) (n := 5) (by decide) (by decide) (by decide) (lv_const (V := [(.int 0), (.int 0), (.int 0), (.int 0), (.int 0)]) rfl)
  replace k := k |>.dup D30_248 rfl |>.iconst D30_249 0 |>.iload D30_250 rfl
  have s_b1 := Nat.le_trans z1 g1
  have n_b1 := Nat.le_trans nz s_b1
  obtain ⟨h2, K2, O2, k⟩ := k.stB O1 n_b1 (Or.inl rfl) D30_252 (i := 0) (by decide) (v := (.int ((240 ||| (p1 >>> ((18 : Int32) &&& 31))).toInt8.toInt32))) (congrArg Value.int (own_nnBi2b _)) (own_fitBi2b _) lvs0
  replace k := k |>.dup D30_253 rfl |>.iconst D30_254 1 |>.iload D30_255 rfl
  obtain ⟨h3, K3, O3, k⟩ := k.stB O2 n_b1 (Or.inl rfl) D30_257 (i := 1) (by decide) (v := (.int ((128 ||| ((p1 >>> ((12 : Int32) &&& 31)) &&& 63)).toInt8.toInt32))) (congrArg Value.int (own_nnBi2b _)) (own_fitBi2b _) lvs1
  replace k := k |>.dup D30_258 rfl |>.iconst D30_259 2 |>.iload D30_260 rfl
  obtain ⟨h4, K4, O4, k⟩ := k.stB O3 n_b1 (Or.inl rfl) D30_262 (i := 2) (by decide) (v := (.int ((128 ||| ((p1 >>> ((6 : Int32) &&& 31)) &&& 63)).toInt8.toInt32))) (congrArg Value.int (own_nnBi2b _)) (own_fitBi2b _) lvs2
  replace k := k |>.dup D30_263 rfl |>.iconst D30_264 3 |>.iload D30_265 rfl
  obtain ⟨h5, K5, O5, k⟩ := k.stB O4 n_b1 (Or.inl rfl) D30_267 (i := 3) (by decide) (v := (.int ((128 ||| (p1 &&& 63)).toInt8.toInt32))) (congrArg Value.int (own_nnBi2b _)) (own_fitBi2b _) lvs3
  replace k := k |>.dup D30_268 rfl |>.iconst D30_269 4 |>.iload D30_270 rfl
  obtain ⟨h6, K6, O6, k⟩ := k.stB O5 n_b1 (Or.inl rfl) D30_272 (i := 4) (by decide) (v := (.int (p3.toInt8.toInt32))) (congrArg Value.int (own_nnBi2b _)) (own_fitBi2b _) lvs4
  exact k.retA D30_273 rfl ⟨_, rfl, (((((K1.trans K2 (allS (Or.inr s_b1) all0)).trans K3 (allS (Or.inr s_b1) all0)).trans K4 (allS (Or.inr s_b1) all0)).trans K5 (allS (Or.inr s_b1) all0)).trans K6 (allS (Or.inr s_b1) all0)), b1, rfl, s_b1, O6⟩
theorem own_d92 {p1 v0 v1 v2 v3 v4 : Int32} (e0 : v0 = (p1 &&& 2147483647)) (e1 : v1 = (v0 % 1048576)) (e2 : v2 = (65536 + v1)) (e3 : v3 = (v2 >>> ((18 : Int32) &&& 31))) (e4 : v4 = ((240 ||| v3).toInt8.toInt32)) : v4 < 0 := by
  have : (65536 : Int32).toInt = 65536 := by decide
  have := rng32 p1
  have : (2147483647 : Int32).toInt = 2147483647 := by decide
  have := e_mask e0 31 2147483648
  have : (1048576 : Int32).toInt = 1048576 := by decide
  have := e_iremN e1 1048576 (by omega)
  have := e_iaddN e2 (by omega)
  have : (18 : Int32).toInt = 18 := by decide
  have := e_ishr e3 18 262144
  have := e_hbN e4 4 16 240 (by omega)
  have : (0 : Int32).toInt = 0 := by decide
  exact o_lt (by omega)
theorem ef_RII_5_0_5 {x0 : Addr}  (m : MethodId) : entryFrame m #[(.ref x0), (.int 0), (.int 5)] 5 = mkF m 0 #[.val (.ref x0), .val (.int 0), .val (.int 5), .unset, .unset] [] := by
  first | (simp [entryFrame, mkF, argsToLocals, Value.category]; done) | rfl
theorem R_StringCoding_countPositives_5 {a1 : Addr} {p2 p3 p4 p5 p6 : Int32} (hw : HW a0 Z) (pr1 : Ary Z h0 a1 ATB 5 (lv [.int p2, .int p3, .int p4, .int p5, .int p6])) (pr2 : p2 < 0) : Mt false [] l Y5 C5 (rmk 0 0 0 0) #[.ref a1, .int 0, .int 5] Z a0 h0 n0 (Pv h0 (.int 0)) := by
  refine Mt.go PN5 (Or.inl rfl) ef_RII_5_0_5 fun k => ?_
  replace k := k |>.iloadN D5_0 rfl |>.iloadN D5_1 rfl |>.iadd D5_2 (z := 5) (by decide) |>.istoreN D5_3 sto3 |>.iloadN D5_4 rfl |>.istore D5_5 sto4 |>.iload D5_7 rfl |>.iloadN D5_9 rfl |>.icmpNo D5_10 (by decide) |>.aloadN D5_13 rfl rfl |>.iload D5_14 rfl |>.bald pr1 D5_16 (i := 0) (by decide) lvg0
  replace k := k |>.ifNo D5_17 ((if0 _ _).trans (tlt pr2).2.1) |>.iload D5_20 rfl |>.iloadN D5_22 rfl |>.isub D5_23 (z := 0) (by decide)
  exact k.retI D5_24 rfl ⟨rfl, rfl⟩
theorem ef_RII_3_0_5 {x0 : Addr}  (m : MethodId) : entryFrame m #[(.ref x0), (.int 0), (.int 5)] 3 = mkF m 0 #[.val (.ref x0), .val (.int 0), .val (.int 5)] [] := by
  first | (simp [entryFrame, mkF, argsToLocals, Value.category]; done) | rfl
theorem R_Arrays_copyOfRange_4 {a1 : Addr} {p2 p3 p4 p5 p6 : Int32} (hw : HW a0 Z) (pr1 : Ary Z h0 a1 ATB 5 (lv [.int p2, .int p3, .int p4, .int p5, .int p6])) : Mt false [] l Y6 C6 (rmk 1 1 5 14) #[.ref a1, .int 0, .int 5] Z a0 h0 n0 (KpV h0 [] fun v h => ∃ b1 : Addr, v = (.ref b1) ∧ h0.size ≤ b1 ∧ Ary Z h b1 ATB 5 (lv [.int p2, .int p3, .int p4, .int p5, .int p6])) := by
  refine Mt.go PN6 (Or.inl rfl) ef_RII_3_0_5 fun k => ?_
  replace k := k |>.iloadN D6_0 rfl |>.ifNo D6_1 (by decide) |>.iloadN D6_4 rfl |>.aloadN D6_5 rfl rfl |>.alen pr1 D6_6 (z := 5) (by decide) |>.icmpYes D6_7 (by decide) |>.aloadN D6_17 rfl rfl
  have z1 := k.sz
  obtain ⟨b1, h1, g1, K1, O1, k⟩ := k.aclone (w_57 hw) (w_58 hw) (w_62 hw) (w_60 hw) (w_61 hw) (w_63 hw) pr1 (by decide) D6_18 0
  replace k := k |>.castY (w_64 hw) (Ins.self (O1.exa (by decide))) D6_21
  have s_b1 := Nat.le_trans z1 g1
  exact k.retA D6_24 rfl ⟨_, rfl, K1, b1, rfl, s_b1, O1⟩
theorem own_d93 {p1 v0 v1 v2 v3 v4 v5 : Int32} (e0 : v0 = (p1 &&& 2147483647)) (e1 : v1 = (v0 % 1048576)) (e2 : v2 = (65536 + v1)) (e3 : v3 = (v2 >>> ((18 : Int32) &&& 31))) (e4 : v4 = ((240 ||| v3).toInt8.toInt32)) (e5 : v5 = (v4 &&& 254)) : ¬ (v5 = 194) := by
  have : (65536 : Int32).toInt = 65536 := by decide
  have := rng32 p1
  have : (2147483647 : Int32).toInt = 2147483647 := by decide
  have := e_mask e0 31 2147483648
  have : (1048576 : Int32).toInt = 1048576 := by decide
  have := e_iremN e1 1048576 (by omega)
  have := e_iaddN e2 (by omega)
  have : (18 : Int32).toInt = 18 := by decide
  have := e_ishr e3 18 262144
  have := e_hbN e4 4 16 240 (by omega)
  have : (254 : Int32).toInt = 254 := by decide
  have : v4.toInt % 256 = v4.toInt + 256 := by omega
  have := e_mask2 e5 1 7 256 2
  have : (194 : Int32).toInt = 194 := by decide
  exact o_neq (by omega)
theorem ef_I_1_5   (m : MethodId) : entryFrame m #[(.int 5)] 1 = mkF m 0 #[.val (.int 5)] [] := by
  first | (simp [entryFrame, mkF, argsToLocals, Value.category]; done) | rfl
theorem R_StringUTF16_newBytesLength_4 (hw : HW a0 Z) : Mt false [] l Y8 C8 (rmk 0 0 0 0) #[.int 5] Z a0 h0 n0 (Pv h0 (.int 10)) := by
  refine Mt.go PN8 (Or.inl rfl) ef_I_1_5 fun k => ?_
  replace k := k |>.iloadN D8_0 rfl |>.ifYes D8_1 (by decide) |>.iloadN D8_12 rfl |>.ldcI (w_107 hw) D8_13 |>.icmpYes D8_15 (by decide) |>.iloadN D8_55 rfl |>.iconst D8_56 1 |>.ishl D8_57 (z := 10) (by decide)
  exact k.retI D8_58 rfl ⟨rfl, rfl⟩
theorem R_StringUTF16_newBytesFor_4 (hw : HW a0 Z) : Mt false [] l Y7 C7 (rmk 1 1 10 12) #[.int 5] Z a0 h0 n0 (KpV h0 [] fun v h => ∃ b2 : Addr, v = (.ref b2) ∧ h0.size ≤ b2 ∧ Ary Z h b2 ATB 10 (lv [.int 0, .int 0, .int 0, .int 0, .int 0, .int 0, .int 0, .int 0, .int 0, .int 0])) := by
  refine Mt.go PN7 (Or.inl rfl) ef_I_1_5 fun k => ?_
  replace k := k |>.iloadN D7_0 rfl
  replace k := (k.callS (w_104 hw) (S8 hw) (R_StringUTF16_newBytesLength_4 hw) D7_1 0 rfl).pv
  have z2 := k.sz
  obtain ⟨b2, h2, g2, K2, O2, k⟩ := k.newP (aty := .byte) "[B" (w_0 hw) (by decide) D7_4 10 (by decide) (n := 10) (by decide) (by decide) (by decide) (lv_const (V := [(.int 0), (.int 0), (.int 0), (.int 0), (.int 0), (.int 0), (.int 0), (.int 0), (.int 0), (.int 0)]) rfl)
  have s_b2 := Nat.le_trans z2 g2
  exact k.retA D7_6 rfl ⟨_, rfl, K2, b2, rfl, s_b2, O2⟩
theorem R_StringUTF16_length_6 {a1 : Addr} (hw : HW a0 Z) (pr1 : Ary Z h0 a1 ATB 10 (lv [.int 0, .int 0, .int 0, .int 0, .int 0, .int 0, .int 0, .int 0, .int 0, .int 0])) : Mt false [] l Y12 C12 (rmk 0 0 0 0) #[.ref a1] Z a0 h0 n0 (Pv h0 (.int 5)) := by
  refine Mt.go PN12 (Or.inl rfl) ef_R_1 fun k => ?_
  replace k := k |>.aloadN D12_0 rfl rfl |>.alen pr1 D12_1 (z := 10) (by decide) |>.iconst D12_2 1 |>.ishr D12_3 (z := 5) (by decide)
  exact k.retI D12_4 rfl ⟨rfl, rfl⟩
theorem ef_IIIV_4_0_0_5 {x3 : Value} (r3 : x3.isRef = true) (m : MethodId) : entryFrame m #[(.int 0), (.int 0), (.int 5), x3] 4 = mkF m 0 #[.val (.int 0), .val (.int 0), .val (.int 5), .val x3] [] := by
  rcases ref_cases r3 with rfl | ⟨_, rfl⟩
  all_goals
  first | (simp [entryFrame, mkF, argsToLocals, Value.category]; done) | rfl
theorem R_Preconditions_checkFromIndexSize_4 {w_SF : Value} (hw : HW a0 Z) (pr1 : w_SF.isRef = true) : Mt false [] l Y14 C14 (rmk 0 0 0 0) #[.int 0, .int 0, .int 5, w_SF] Z a0 h0 n0 (Pv h0 (.int 0)) := by
  refine Mt.go PN14 (Or.inl rfl) (ef_IIIV_4_0_0_5 pr1) fun k => ?_
  replace k := k |>.iloadN D14_0 rfl |>.iloadN D14_1 rfl |>.ior D14_2 (z := 5) (by decide) |>.iloadN D14_3 rfl |>.ior D14_4 (z := 5) (by decide) |>.ifNo D14_5 (by decide) |>.iloadN D14_8 rfl |>.iloadN D14_9 rfl |>.iloadN D14_10 rfl |>.isub D14_11 (z := 5) (by decide) |>.icmpYes D14_12 (by decide) |>.iloadN D14_23 rfl
  exact k.retI D14_24 rfl ⟨rfl, rfl⟩
theorem ef_III_3_0_0_5   (m : MethodId) : entryFrame m #[(.int 0), (.int 0), (.int 5)] 3 = mkF m 0 #[.val (.int 0), .val (.int 0), .val (.int 5)] [] := by
  first | (simp [entryFrame, mkF, argsToLocals, Value.category]; done) | rfl
theorem R_String_checkBoundsOffCount_4 {w_SF : Value} (hw : HW a0 Z) (pr1 : w_SF.isRef = true) (pr2 : TS_SF Z w_SF) : Mt false [] l Y13 C13 (rmk 1 0 0 15) #[.int 0, .int 0, .int 5] Z a0 h0 n0 (Pv h0 (.int 0)) := by
  refine Mt.go PN13 (Or.inl rfl) ef_III_3_0_0_5 fun k => ?_
  replace k := k |>.iloadN D13_0 rfl |>.iloadN D13_1 rfl |>.iloadN D13_2 rfl |>.getS (fl_94 hw) pr2 D13_3
  replace k := (k.callS (w_123 hw) (S14 hw) (R_Preconditions_checkFromIndexSize_4 hw pr1) D13_6 0 rfl).pv
  exact k.retI D13_9 rfl ⟨rfl, rfl⟩
theorem R_StringUTF16_checkBoundsOffCount_4 {a1 : Addr} {w_SF : Value} (hw : HW a0 Z) (pr1 : Ary Z h0 a1 ATB 10 (lv [.int 0, .int 0, .int 0, .int 0, .int 0, .int 0, .int 0, .int 0, .int 0, .int 0])) (pr2 : w_SF.isRef = true) (pr3 : TS_SF Z w_SF) : Mt false [] l Y11 C11 (rmk 2 0 0 29) #[.int 0, .int 0, .ref a1] Z a0 h0 n0 (P0 h0) := by
  refine Mt.go PN11 (Or.inl rfl) ef_IIR_3_0_0 fun k => ?_
  replace k := k |>.iloadN D11_0 rfl |>.iloadN D11_1 rfl |>.aloadN D11_2 rfl rfl
  replace k := (k.callS (w_117 hw) (S12 hw) (R_StringUTF16_length_6 hw pr1) D11_3 2 rfl).pv
  replace k := (k.callS (w_120 hw) (S13 hw) (R_String_checkBoundsOffCount_4 hw pr2 pr3) D11_6 0 rfl).pv
  replace k := k |>.pop D11_9 rfl
  exact k.ret0 D11_10 rfl ⟨rfl, rfl⟩
theorem R_StringUTF16_inflate_4 {a1 a2 : Addr} {w_SF : Value} (hw : HW a0 Z) (pr1 : Ary Z h0 a2 ATB 10 (lv [.int 0, .int 0, .int 0, .int 0, .int 0, .int 0, .int 0, .int 0, .int 0, .int 0])) (pr2 : w_SF.isRef = true) (pr3 : TS_SF Z w_SF) : Mt false [] l Y10 C10 (rmk 3 0 0 43) #[.ref a1, .int 0, .ref a2, .int 0, .int 0] Z a0 h0 n0 (P0 h0) := by
  refine Mt.go PN10 (Or.inl rfl) ef_RIRII_6_0_0_0 fun k => ?_
  replace k := k |>.iloadN D10_0 rfl |>.iload D10_1 rfl |>.aloadN D10_3 rfl rfl
  replace k := (k.callS (w_114 hw) (S11 hw) (R_StringUTF16_checkBoundsOffCount_4 hw pr1 pr2 pr3) D10_4 0 rfl).p0
  replace k := k |>.iconst D10_7 0 |>.istore D10_8 sto5 |>.iload D10_10 rfl |>.iload D10_12 rfl |>.icmpYes D10_14 (by decide)
  exact k.ret0 D10_41 rfl ⟨rfl, rfl⟩
theorem R_StringLatin1_inflate_4 {a1 a2 : Addr} {w_SF : Value} (hw : HW a0 Z) (pr1 : Ary Z h0 a2 ATB 10 (lv [.int 0, .int 0, .int 0, .int 0, .int 0, .int 0, .int 0, .int 0, .int 0, .int 0])) (pr2 : w_SF.isRef = true) (pr3 : TS_SF Z w_SF) : Mt false [] l Y9 C9 (rmk 4 0 0 60) #[.ref a1, .int 0, .ref a2, .int 0, .int 0] Z a0 h0 n0 (P0 h0) := by
  refine Mt.go PN9 (Or.inl rfl) ef_RIRII_5_0_0_0 fun k => ?_
  replace k := k |>.aloadN D9_0 rfl rfl |>.iloadN D9_1 rfl |>.aloadN D9_2 rfl rfl |>.iloadN D9_3 rfl |>.iload D9_4 rfl
  replace k := (k.callS (w_111 hw) (S10 hw) (R_StringUTF16_inflate_4 hw pr1 pr2 pr3) D9_6 0 rfl).p0
  exact k.ret0 D9_9 rfl ⟨rfl, rfl⟩
theorem own_d94 {p1 v0 v1 v2 v3 v4 v5 : Int32} (e0 : v0 = (p1 &&& 2147483647)) (e1 : v1 = (v0 % 1048576)) (e2 : v2 = (65536 + v1)) (e3 : v3 = (v2 >>> ((18 : Int32) &&& 31))) (e4 : v4 = ((240 ||| v3).toInt8.toInt32)) (e5 : v5 = (v4 >>> ((5 : Int32) &&& 31))) : ¬ (v5 = (-2)) := by
  have : (65536 : Int32).toInt = 65536 := by decide
  have := rng32 p1
  have : (2147483647 : Int32).toInt = 2147483647 := by decide
  have := e_mask e0 31 2147483648
  have : (1048576 : Int32).toInt = 1048576 := by decide
  have := e_iremN e1 1048576 (by omega)
  have := e_iaddN e2 (by omega)
  have : (18 : Int32).toInt = 18 := by decide
  have := e_ishr e3 18 262144
  have := e_hbN e4 4 16 240 (by omega)
  have : (5 : Int32).toInt = 5 := by decide
  have := e_ishr e5 5 32
  have : (-2 : Int32).toInt = -2 := by decide
  exact o_neq (by omega)
theorem own_d95 {p1 v0 v1 v2 v3 v4 v5 : Int32} (e0 : v0 = (p1 &&& 2147483647)) (e1 : v1 = (v0 % 1048576)) (e2 : v2 = (65536 + v1)) (e3 : v3 = (v2 >>> ((18 : Int32) &&& 31))) (e4 : v4 = ((240 ||| v3).toInt8.toInt32)) (e5 : v5 = (v4 >>> ((4 : Int32) &&& 31))) : ¬ (v5 = (-2)) := by
  have : (65536 : Int32).toInt = 65536 := by decide
  have := rng32 p1
  have : (2147483647 : Int32).toInt = 2147483647 := by decide
  have := e_mask e0 31 2147483648
  have : (1048576 : Int32).toInt = 1048576 := by decide
  have := e_iremN e1 1048576 (by omega)
  have := e_iaddN e2 (by omega)
  have : (18 : Int32).toInt = 18 := by decide
  have := e_ishr e3 18 262144
  have := e_hbN e4 4 16 240 (by omega)
  have : (4 : Int32).toInt = 4 := by decide
  have := e_ishr e5 4 16
  have : (-2 : Int32).toInt = -2 := by decide
  exact o_neq (by omega)
theorem own_d96 {p1 v0 v1 v2 v3 v4 v5 : Int32} (e0 : v0 = (p1 &&& 2147483647)) (e1 : v1 = (v0 % 1048576)) (e2 : v2 = (65536 + v1)) (e3 : v3 = (v2 >>> ((18 : Int32) &&& 31))) (e4 : v4 = ((240 ||| v3).toInt8.toInt32)) (e5 : v5 = (v4 >>> ((3 : Int32) &&& 31))) : v5 = (-2) := by
  have : (65536 : Int32).toInt = 65536 := by decide
  have := rng32 p1
  have : (2147483647 : Int32).toInt = 2147483647 := by decide
  have := e_mask e0 31 2147483648
  have : (1048576 : Int32).toInt = 1048576 := by decide
  have := e_iremN e1 1048576 (by omega)
  have := e_iaddN e2 (by omega)
  have : (18 : Int32).toInt = 18 := by decide
  have := e_ishr e3 18 262144
  have := e_hbN e4 4 16 240 (by omega)
  have : (3 : Int32).toInt = 3 := by decide
  have := e_ishr e5 3 8
  have : (-2 : Int32).toInt = -2 := by decide
  exact o_eq (by omega)
theorem D15_365 : Dc J15 365 (.aload_n 0) 1 366 := by decide +kernel
theorem D15_366 : Dc J15 366 (.iload_n 1) 1 367 := by decide +kernel
theorem D15_367 : Dc J15 367 (.iinc 1 1) 3 370 := by decide +kernel
theorem D15_370 : Dc J15 370 .baload 1 371 := by decide +kernel
theorem D15_371 : Dc J15 371 (.istore 7) 2 373 := by decide +kernel
theorem D15_373 : Dc J15 373 (.aload_n 0) 1 374 := by decide +kernel
theorem D15_374 : Dc J15 374 (.iload_n 1) 1 375 := by decide +kernel
theorem D15_375 : Dc J15 375 (.iinc 1 1) 3 378 := by decide +kernel
theorem D15_378 : Dc J15 378 .baload 1 379 := by decide +kernel
theorem D15_379 : Dc J15 379 (.istore 8) 2 381 := by decide +kernel
theorem D15_381 : Dc J15 381 (.aload_n 0) 1 382 := by decide +kernel
theorem D15_382 : Dc J15 382 (.iload_n 1) 1 383 := by decide +kernel
theorem D15_383 : Dc J15 383 (.iinc 1 1) 3 386 := by decide +kernel
theorem D15_386 : Dc J15 386 .baload 1 387 := by decide +kernel
theorem D15_387 : Dc J15 387 (.istore 9) 2 389 := by decide +kernel
theorem D15_389 : Dc J15 389 (.iload 6) 2 391 := by decide +kernel
theorem D15_391 : Dc J15 391 (.iload 7) 2 393 := by decide +kernel
theorem D15_393 : Dc J15 393 (.iload 8) 2 395 := by decide +kernel
theorem D15_395 : Dc J15 395 (.iload 9) 2 397 := by decide +kernel
theorem D15_397 : Dc J15 397 (.invokestatic 411) 3 400 := by decide +kernel
abbrev Y38 : MethodName := ⟨"java/lang/String", "decode4", "(IIII)I"⟩
abbrev J38 := jdk_42_method_37_code
abbrev C38 : Cond := .code Y38 J38 4 (some .int)
theorem D38_0 : Dc J38 0 (.iload_n 0) 1 1 := by decide +kernel
theorem D38_1 : Dc J38 1 (.bipush 18) 2 3 := by decide +kernel
theorem D38_3 : Dc J38 3 .ishl 1 4 := by decide +kernel
theorem D38_4 : Dc J38 4 (.iload_n 1) 1 5 := by decide +kernel
theorem D38_5 : Dc J38 5 (.bipush 12) 2 7 := by decide +kernel
theorem D38_7 : Dc J38 7 .ishl 1 8 := by decide +kernel
theorem D38_8 : Dc J38 8 .ixor 1 9 := by decide +kernel
theorem D38_9 : Dc J38 9 (.iload_n 2) 1 10 := by decide +kernel
theorem D38_10 : Dc J38 10 (.bipush 6) 2 12 := by decide +kernel
theorem D38_12 : Dc J38 12 .ishl 1 13 := by decide +kernel
theorem D38_13 : Dc J38 13 .ixor 1 14 := by decide +kernel
theorem D38_14 : Dc J38 14 (.iload_n 3) 1 15 := by decide +kernel
theorem D38_15 : Dc J38 15 (.ldc_w 384) 3 18 := by decide +kernel
abbrev w_132 (hw : HW a0 Z) := hw _ (List.mem_of_getElem? (i := 132) rfl)
theorem D38_18 : Dc J38 18 .ixor 1 19 := by decide +kernel
theorem D38_19 : Dc J38 19 .ixor 1 20 := by decide +kernel
theorem D38_20 : Dc J38 20 .ireturn 1 21 := by decide +kernel
theorem PN38 : plainFor Y38 = true := plainFor_of_name pn_String
theorem ef_IIII_4 {x0 : Int32} {x1 : Int32} {x2 : Int32} {x3 : Int32}  (m : MethodId) : entryFrame m #[(.int x0), (.int x1), (.int x2), (.int x3)] 4 = mkF m 0 #[.val (.int x0), .val (.int x1), .val (.int x2), .val (.int x3)] [] := by
  first | (simp [entryFrame, mkF, argsToLocals, Value.category]; done) | rfl
theorem R_String_decode4_1 {p1 p2 p3 p4 : Int32} (hw : HW a0 Z) : Mt false [] l Y38 C38 (rmk 0 0 0 0) #[.int p1, .int p2, .int p3, .int p4] Z a0 h0 n0 (Pv h0 (.int ((((p1 <<< ((18 : Int32) &&& 31)) ^^^ (p2 <<< ((12 : Int32) &&& 31))) ^^^ (p3 <<< ((6 : Int32) &&& 31))) ^^^ (p4 ^^^ 3678080)))) := by
  refine Mt.go PN38 (Or.inl rfl) ef_IIII_4 fun k => ?_
  replace k := k |>.iloadN D38_0 rfl |>.bipush D38_1 18 |>.ishl D38_3 rfl |>.iloadN D38_4 rfl |>.bipush D38_5 12 |>.ishl D38_7 rfl |>.ixor D38_8 rfl |>.iloadN D38_9 rfl |>.bipush D38_10 6 |>.ishl D38_12 rfl |>.ixor D38_13 rfl |>.iloadN D38_14 rfl
  replace k := k |>.ldcwI (w_132 hw) D38_15 |>.ixor D38_18 rfl |>.ixor D38_19 rfl
  exact k.retI D38_20 rfl ⟨rfl, rfl⟩
abbrev w_129 (hw : HW a0 Z) := hw _ (List.mem_of_getElem? (i := 129) rfl)
abbrev w_131 (hw : HW a0 Z) := hw _ (List.mem_of_getElem? (i := 131) rfl)
theorem pd_IIII_r_I : parseMethodDescriptor "(IIII)I" = some ⟨[.int, .int, .int, .int], some .int⟩ := by decide +kernel
abbrev w_130 (hw : HW a0 Z) := hw _ (List.mem_of_getElem? (i := 130) rfl)
theorem S38 (hw : HW a0 Z) : SC Z a0 Y38 C38 4 (some .int) 4 := ⟨(w_130 hw), ⟨⟨_, Or.inl rfl⟩, (w_131 hw), (w_7 hw), by decide, _, _, pd_IIII_r_I, rfl⟩⟩
theorem D15_400 : Dc J15 400 (.istore 10) 2 402 := by decide +kernel
theorem D15_402 : Dc J15 402 (.iload 7) 2 404 := by decide +kernel
theorem D15_404 : Dc J15 404 (.iload 8) 2 406 := by decide +kernel
theorem D15_406 : Dc J15 406 (.iload 9) 2 408 := by decide +kernel
theorem D15_408 : Dc J15 408 (.invokestatic 415) 3 411 := by decide +kernel
abbrev Y39 : MethodName := ⟨"java/lang/String", "isMalformed4", "(III)Z"⟩
abbrev J39 := jdk_42_method_32_code
abbrev C39 : Cond := .code Y39 J39 3 (some .boolean)
theorem D39_0 : Dc J39 0 (.iload_n 0) 1 1 := by decide +kernel
theorem D39_1 : Dc J39 1 (.sipush 192) 3 4 := by decide +kernel
theorem D39_4 : Dc J39 4 .iand 1 5 := by decide +kernel
theorem D39_5 : Dc J39 5 (.sipush 128) 3 8 := by decide +kernel
theorem D39_8 : Dj J39 8 (.if_icmp .ne 25) 25 11 33 := by decide +kernel
theorem own_d97 {p1 v0 v1 v2 v3 v4 v5 v6 : Int32} (e0 : v0 = (p1 &&& 2147483647)) (e1 : v1 = (v0 % 1048576)) (e2 : v2 = (65536 + v1)) (e3 : v3 = (v2 >>> ((12 : Int32) &&& 31))) (e4 : v4 = (v3 &&& 63)) (e5 : v5 = ((128 ||| v4).toInt8.toInt32)) (e6 : v6 = (v5 &&& 192)) : v6 = 128 := by
  have : (65536 : Int32).toInt = 65536 := by decide
  have := rng32 p1
  have : (2147483647 : Int32).toInt = 2147483647 := by decide
  have := e_mask e0 31 2147483648
  have : (1048576 : Int32).toInt = 1048576 := by decide
  have := e_iremN e1 1048576 (by omega)
  have := e_iaddN e2 (by omega)
  have : (12 : Int32).toInt = 12 := by decide
  have := e_ishr e3 12 4096
  have : (63 : Int32).toInt = 63 := by decide
  have := e_mask e4 6 64
  have := e_hbN e5 7 128 128 (by omega)
  have : (192 : Int32).toInt = 192 := by decide
  have : v5.toInt % 256 = v5.toInt + 256 := by omega
  have := e_mask2 e6 6 2 256 64
  have : (128 : Int32).toInt = 128 := by decide
  exact o_eq (by omega)
theorem D39_11 : Dc J39 11 (.iload_n 1) 1 12 := by decide +kernel
theorem D39_12 : Dc J39 12 (.sipush 192) 3 15 := by decide +kernel
theorem D39_15 : Dc J39 15 .iand 1 16 := by decide +kernel
theorem D39_16 : Dc J39 16 (.sipush 128) 3 19 := by decide +kernel
theorem D39_19 : Dj J39 19 (.if_icmp .ne 14) 14 22 33 := by decide +kernel
theorem own_d98 {p1 v0 v1 v2 v3 v4 v5 v6 : Int32} (e0 : v0 = (p1 &&& 2147483647)) (e1 : v1 = (v0 % 1048576)) (e2 : v2 = (65536 + v1)) (e3 : v3 = (v2 >>> ((6 : Int32) &&& 31))) (e4 : v4 = (v3 &&& 63)) (e5 : v5 = ((128 ||| v4).toInt8.toInt32)) (e6 : v6 = (v5 &&& 192)) : v6 = 128 := by
  have : (65536 : Int32).toInt = 65536 := by decide
  have := rng32 p1
  have : (2147483647 : Int32).toInt = 2147483647 := by decide
  have := e_mask e0 31 2147483648
  have : (1048576 : Int32).toInt = 1048576 := by decide
  have := e_iremN e1 1048576 (by omega)
  have := e_iaddN e2 (by omega)
  have : (6 : Int32).toInt = 6 := by decide
  have := e_ishr e3 6 64
  have : (63 : Int32).toInt = 63 := by decide
  have := e_mask e4 6 64
  have := e_hbN e5 7 128 128 (by omega)
  have : (192 : Int32).toInt = 192 := by decide
  have : v5.toInt % 256 = v5.toInt + 256 := by omega
  have := e_mask2 e6 6 2 256 64
  have : (128 : Int32).toInt = 128 := by decide
  exact o_eq (by omega)
theorem D39_22 : Dc J39 22 (.iload_n 2) 1 23 := by decide +kernel
theorem D39_23 : Dc J39 23 (.sipush 192) 3 26 := by decide +kernel
theorem D39_26 : Dc J39 26 .iand 1 27 := by decide +kernel
theorem D39_27 : Dc J39 27 (.sipush 128) 3 30 := by decide +kernel
theorem D39_30 : Dj J39 30 (.if_icmp .eq 7) 7 33 37 := by decide +kernel
theorem own_d99 {p1 v0 v1 v2 v3 v4 v5 : Int32} (e0 : v0 = (p1 &&& 2147483647)) (e1 : v1 = (v0 % 1048576)) (e2 : v2 = (65536 + v1)) (e3 : v3 = (v2 &&& 63)) (e4 : v4 = ((128 ||| v3).toInt8.toInt32)) (e5 : v5 = (v4 &&& 192)) : v5 = 128 := by
  have : (65536 : Int32).toInt = 65536 := by decide
  have := rng32 p1
  have : (2147483647 : Int32).toInt = 2147483647 := by decide
  have := e_mask e0 31 2147483648
  have : (1048576 : Int32).toInt = 1048576 := by decide
  have := e_iremN e1 1048576 (by omega)
  have := e_iaddN e2 (by omega)
  have : (63 : Int32).toInt = 63 := by decide
  have := e_mask e3 6 64
  have := e_hbN e4 7 128 128 (by omega)
  have : (192 : Int32).toInt = 192 := by decide
  have : v4.toInt % 256 = v4.toInt + 256 := by omega
  have := e_mask2 e5 6 2 256 64
  have : (128 : Int32).toInt = 128 := by decide
  exact o_eq (by omega)
theorem D39_37 : Dc J39 37 (.iconst 0) 1 38 := by decide +kernel
theorem D39_38 : Dc J39 38 .ireturn 1 39 := by decide +kernel
theorem PN39 : plainFor Y39 = true := plainFor_of_name pn_String
theorem R_String_isMalformed4_1 {p1 p2 p3 : Int32} (hw : HW a0 Z) (pr1 : (p1 &&& 192) = 128) (pr2 : (p2 &&& 192) = 128) (pr3 : (p3 &&& 192) = 128) : Mt false [] l Y39 C39 (rmk 0 0 0 0) #[.int p1, .int p2, .int p3] Z a0 h0 n0 (Pv h0 (.int 0)) := by
  refine Mt.go PN39 (Or.inl rfl) ef_III_3 fun k => ?_
  replace k := k |>.iloadN D39_0 rfl |>.sipush D39_1 192 |>.iand D39_4 rfl |>.sipush D39_5 128 |>.icmpNo D39_8 (teq pr1).2 |>.iloadN D39_11 rfl |>.sipush D39_12 192 |>.iand D39_15 rfl |>.sipush D39_16 128 |>.icmpNo D39_19 (teq pr2).2 |>.iloadN D39_22 rfl |>.sipush D39_23 192
  replace k := k |>.iand D39_26 rfl |>.sipush D39_27 128 |>.icmpYes D39_30 (teq pr3).1 |>.iconst D39_37 0
  exact k.retN (t := .boolean) D39_38 rfl (by simp) (z' := 0) (by decide) ⟨rfl, rfl⟩
abbrev w_133 (hw : HW a0 Z) := hw _ (List.mem_of_getElem? (i := 133) rfl)
abbrev w_135 (hw : HW a0 Z) := hw _ (List.mem_of_getElem? (i := 135) rfl)
abbrev w_134 (hw : HW a0 Z) := hw _ (List.mem_of_getElem? (i := 134) rfl)
theorem S39 (hw : HW a0 Z) : SC Z a0 Y39 C39 3 (some .boolean) 3 := ⟨(w_134 hw), ⟨⟨_, Or.inl rfl⟩, (w_135 hw), (w_7 hw), by decide, _, _, pd_III_r_Z, rfl⟩⟩
theorem D15_411 : Dj J15 411 (.ifCond .ne 11) 11 414 422 := by decide +kernel
theorem D15_414 : Dc J15 414 (.iload 10) 2 416 := by decide +kernel
theorem D15_416 : Dc J15 416 (.invokestatic 418) 3 419 := by decide +kernel
abbrev Y40 : MethodName := ⟨"java/lang/Character", "isSupplementaryCodePoint", "(I)Z"⟩
abbrev J40 := jdk_89_method_13_code
abbrev C40 : Cond := .code Y40 J40 1 (some .boolean)
theorem D40_0 : Dc J40 0 (.iload_n 0) 1 1 := by decide +kernel
theorem D40_1 : Dc J40 1 (.ldc 73) 2 3 := by decide +kernel
abbrev w_140 (hw : HW a0 Z) := hw _ (List.mem_of_getElem? (i := 140) rfl)
theorem D40_3 : Dj J40 3 (.if_icmp .lt 13) 13 6 16 := by decide +kernel
theorem own_d100 {p1 v0 v1 v2 v3 v4 v5 v6 v7 v8 v9 : Int32} (e0 : v0 = (p1 &&& 2147483647)) (e1 : v1 = (v0 % 1048576)) (e2 : v2 = (65536 + v1)) (e3 : v3 = (v2 >>> ((18 : Int32) &&& 31))) (e4 : v4 = (v2 >>> ((12 : Int32) &&& 31))) (e5 : v5 = (v4 &&& 63)) (e6 : v6 = (v2 >>> ((6 : Int32) &&& 31))) (e7 : v7 = (v6 &&& 63)) (e8 : v8 = (v2 &&& 63)) (e9 : v9 = (((((240 ||| v3).toInt8.toInt32 <<< ((18 : Int32) &&& 31)) ^^^ ((128 ||| v5).toInt8.toInt32 <<< ((12 : Int32) &&& 31))) ^^^ ((128 ||| v7).toInt8.toInt32 <<< ((6 : Int32) &&& 31))) ^^^ ((128 ||| v8).toInt8.toInt32 ^^^ 3678080))) : ¬ (v9 < 65536) := by
  have : (65536 : Int32).toInt = 65536 := by decide
  have := rng32 p1
  have : (2147483647 : Int32).toInt = 2147483647 := by decide
  have := e_mask e0 31 2147483648
  have : (1048576 : Int32).toInt = 1048576 := by decide
  have := e_iremN e1 1048576 (by omega)
  have := e_iaddN e2 (by omega)
  have : (18 : Int32).toInt = 18 := by decide
  have := e_ishr e3 18 262144
  have : (12 : Int32).toInt = 12 := by decide
  have := e_ishr e4 12 4096
  have : (63 : Int32).toInt = 63 := by decide
  have := e_mask e5 6 64
  have : (6 : Int32).toInt = 6 := by decide
  have := e_ishr e6 6 64
  have := e_mask e7 6 64
  have := e_mask e8 6 64
  have := e_dec4 e9 (by omega) (by omega) (by omega) (by omega) (by omega) (by omega) (by omega) (by omega)
  exact o_nlt (by omega)
theorem D40_6 : Dc J40 6 (.iload_n 0) 1 7 := by decide +kernel
theorem D40_7 : Dc J40 7 (.ldc 74) 2 9 := by decide +kernel
abbrev w_141 (hw : HW a0 Z) := hw _ (List.mem_of_getElem? (i := 141) rfl)
theorem D40_9 : Dj J40 9 (.if_icmp .ge 7) 7 12 16 := by decide +kernel
theorem own_d101 {p1 v0 v1 v2 v3 v4 v5 v6 v7 v8 v9 : Int32} (e0 : v0 = (p1 &&& 2147483647)) (e1 : v1 = (v0 % 1048576)) (e2 : v2 = (65536 + v1)) (e3 : v3 = (v2 >>> ((18 : Int32) &&& 31))) (e4 : v4 = (v2 >>> ((12 : Int32) &&& 31))) (e5 : v5 = (v4 &&& 63)) (e6 : v6 = (v2 >>> ((6 : Int32) &&& 31))) (e7 : v7 = (v6 &&& 63)) (e8 : v8 = (v2 &&& 63)) (e9 : v9 = (((((240 ||| v3).toInt8.toInt32 <<< ((18 : Int32) &&& 31)) ^^^ ((128 ||| v5).toInt8.toInt32 <<< ((12 : Int32) &&& 31))) ^^^ ((128 ||| v7).toInt8.toInt32 <<< ((6 : Int32) &&& 31))) ^^^ ((128 ||| v8).toInt8.toInt32 ^^^ 3678080))) : v9 < 1114112 := by
  have : (65536 : Int32).toInt = 65536 := by decide
  have := rng32 p1
  have : (2147483647 : Int32).toInt = 2147483647 := by decide
  have := e_mask e0 31 2147483648
  have : (1048576 : Int32).toInt = 1048576 := by decide
  have := e_iremN e1 1048576 (by omega)
  have := e_iaddN e2 (by omega)
  have : (18 : Int32).toInt = 18 := by decide
  have := e_ishr e3 18 262144
  have : (12 : Int32).toInt = 12 := by decide
  have := e_ishr e4 12 4096
  have : (63 : Int32).toInt = 63 := by decide
  have := e_mask e5 6 64
  have : (6 : Int32).toInt = 6 := by decide
  have := e_ishr e6 6 64
  have := e_mask e7 6 64
  have := e_mask e8 6 64
  have := e_dec4 e9 (by omega) (by omega) (by omega) (by omega) (by omega) (by omega) (by omega) (by omega)
  have : (1114112 : Int32).toInt = 1114112 := by decide
  exact o_lt (by omega)
theorem D40_12 : Dc J40 12 (.iconst 1) 1 13 := by decide +kernel
theorem D40_13 : Dj J40 13 (.goto 4) 4 16 17 := by decide +kernel
theorem D40_17 : Dc J40 17 .ireturn 1 18 := by decide +kernel
theorem PN40 : plainFor Y40 = true := plainFor_of_name pn_Character
theorem R_Character_isSupplementaryCodePoint_1 {p1 : Int32} (hw : HW a0 Z) (pr1 : ¬ (p1 < 65536)) (pr2 : p1 < 1114112) : Mt false [] l Y40 C40 (rmk 0 0 0 0) #[.int p1] Z a0 h0 n0 (Pv h0 (.int 1)) := by
  refine Mt.go PN40 (Or.inl rfl) ef_I_1 fun k => ?_
  replace k := k |>.iloadN D40_0 rfl |>.ldcI (w_140 hw) D40_1 |>.icmpNo D40_3 (flt pr1).1 |>.iloadN D40_6 rfl |>.ldcI (w_141 hw) D40_7 |>.icmpNo D40_9 (tlt pr2).2.1 |>.iconst D40_12 1 |>.goto D40_13
  exact k.retN (t := .boolean) D40_17 rfl (by simp) (z' := 1) (by decide) ⟨rfl, rfl⟩
abbrev w_136 (hw : HW a0 Z) := hw _ (List.mem_of_getElem? (i := 136) rfl)
abbrev w_139 (hw : HW a0 Z) := hw _ (List.mem_of_getElem? (i := 139) rfl)
abbrev w_137 (hw : HW a0 Z) := hw _ (List.mem_of_getElem? (i := 137) rfl)
theorem S40 (hw : HW a0 Z) : SC Z a0 Y40 C40 1 (some .boolean) 1 := ⟨(w_137 hw), ⟨⟨_, Or.inl rfl⟩, (w_139 hw), (w_138 hw), by decide, _, _, pd_I_r_Z, rfl⟩⟩
theorem D15_419 : Dj J15 419 (.ifCond .ne 40) 40 422 459 := by decide +kernel
theorem D15_459 : Dc J15 459 (.aload_n 3) 1 460 := by decide +kernel
theorem D15_460 : Dc J15 460 (.iload 4) 2 462 := by decide +kernel
theorem D15_462 : Dc J15 462 (.iinc 4 1) 3 465 := by decide +kernel
theorem D15_465 : Dc J15 465 (.iload 10) 2 467 := by decide +kernel
theorem D15_467 : Dc J15 467 (.invokestatic 424) 3 470 := by decide +kernel
abbrev Y41 : MethodName := ⟨"java/lang/Character", "highSurrogate", "(I)C"⟩
abbrev J41 := jdk_89_method_28_code
abbrev C41 : Cond := .code Y41 J41 1 (some .char)
theorem D41_0 : Dc J41 0 (.iload_n 0) 1 1 := by decide +kernel
theorem D41_1 : Dc J41 1 (.bipush 10) 2 3 := by decide +kernel
theorem D41_3 : Dc J41 3 .iushr 1 4 := by decide +kernel
theorem D41_4 : Dc J41 4 (.ldc 110) 2 6 := by decide +kernel
abbrev w_145 (hw : HW a0 Z) := hw _ (List.mem_of_getElem? (i := 145) rfl)
theorem D41_6 : Dc J41 6 .iadd 1 7 := by decide +kernel
theorem D41_7 : Dc J41 7 .i2c 1 8 := by decide +kernel
theorem D41_8 : Dc J41 8 .ireturn 1 9 := by decide +kernel
theorem PN41 : plainFor Y41 = true := plainFor_of_name pn_Character
theorem R_Character_highSurrogate_1 {p1 : Int32} (hw : HW a0 Z) : Mt false [] l Y41 C41 (rmk 0 0 0 0) #[.int p1] Z a0 h0 n0 (Pv h0 (.int ((((p1.toUInt32 >>> ((10 : Int32) &&& 31).toUInt32).toInt32) + 55232).toUInt32.toUInt16.toUInt32.toInt32))) := by
  refine Mt.go PN41 (Or.inl rfl) ef_I_1 fun k => ?_
  replace k := k |>.iloadN D41_0 rfl |>.bipush D41_1 10 |>.iushr D41_3 rfl |>.ldcI (w_145 hw) D41_4 |>.iadd D41_6 rfl |>.i2c D41_7 rfl
  exact k.retN (t := .char) D41_8 rfl (by simp) (own_nnCi2c _) ⟨rfl, rfl⟩
abbrev w_142 (hw : HW a0 Z) := hw _ (List.mem_of_getElem? (i := 142) rfl)
abbrev w_144 (hw : HW a0 Z) := hw _ (List.mem_of_getElem? (i := 144) rfl)
abbrev w_143 (hw : HW a0 Z) := hw _ (List.mem_of_getElem? (i := 143) rfl)
theorem S41 (hw : HW a0 Z) : SC Z a0 Y41 C41 1 (some .char) 1 := ⟨(w_143 hw), ⟨⟨_, Or.inl rfl⟩, (w_144 hw), (w_138 hw), by decide, _, _, pd_I_r_C, rfl⟩⟩
theorem D15_470 : Dc J15 470 (.invokestatic 64) 3 473 := by decide +kernel
theorem R_StringUTF16_putChar_7 {a1 : Addr} {p2 : Int32} (hw : HW a0 Z) (pr1 : TS_AD Z) (pr2 : TS_HI Z) (pr3 : Ary Z h0 a1 ATB 10 (lv [.int 0, .int 0, .int 0, .int 0, .int 0, .int 0, .int 0, .int 0, .int 0, .int 0])) (pr4 : n0 ≤ a1) (pr5 : TS_LO Z) : Mt false [] l Y17 C17 (rmk 0 0 0 0) #[.ref a1, .int 0, .int p2] Z a0 h0 n0 (K0 h0 [a1] fun h => Ary Z h a1 ATB 10 (lv [.int ((p2 >>> ((0 : Int32) &&& 31)).toInt8.toInt32), .int ((p2 >>> ((8 : Int32) &&& 31)).toInt8.toInt32), .int 0, .int 0, .int 0, .int 0, .int 0, .int 0, .int 0, .int 0])) := by
  refine Mt.go PN17 (Or.inl rfl) ef_RII_3_0 fun k => ?_
  replace k := k |>.getS (fl_149 hw) pr1 D17_0 |>.ifYes D17_3 (by decide) |>.iloadN D17_28 rfl |>.iconst D17_29 1 |>.ishl D17_30 (z := 0) (by decide) |>.istoreN D17_31 sto1 |>.aloadN D17_32 rfl rfl |>.iloadN D17_33 rfl |>.iinc D17_34 rfl (z := 1) (by decide) sto1 |>.iloadN D17_37 rfl |>.getS (fl_150 hw) pr2 D17_38 |>.ishr D17_41 rfl
  replace k := k |>.i2b D17_42 rfl
  obtain ⟨h1, K1, O1, k⟩ := k.stB pr3 pr4 (Or.inl rfl) D17_43 (i := 0) (by decide) (v := (.int ((p2 >>> ((0 : Int32) &&& 31)).toInt8.toInt32))) (congrArg Value.int (own_nnBi2b _)) (own_fitBi2b _) lvs0
  replace k := k |>.aloadN D17_44 rfl rfl |>.iloadN D17_45 rfl |>.iloadN D17_46 rfl |>.getS (fl_151 hw) pr5 D17_47 |>.ishr D17_50 rfl |>.i2b D17_51 rfl
  obtain ⟨h2, K2, O2, k⟩ := k.stB O1 pr4 (Or.inl rfl) D17_52 (i := 1) (by decide) (v := (.int ((p2 >>> ((8 : Int32) &&& 31)).toInt8.toInt32))) (congrArg Value.int (own_nnBi2b _)) (own_fitBi2b _) lvs1
  exact k.ret0 D17_53 rfl ⟨rfl, (K1.trans K2 (allS (Or.inl (List.mem_of_getElem? (i := 0) rfl)) all0)), O2⟩
theorem D15_473 : Dc J15 473 (.aload_n 3) 1 474 := by decide +kernel
theorem D15_474 : Dc J15 474 (.iload 4) 2 476 := by decide +kernel
theorem D15_476 : Dc J15 476 (.iinc 4 1) 3 479 := by decide +kernel
theorem D15_479 : Dc J15 479 (.iload 10) 2 481 := by decide +kernel
theorem D15_481 : Dc J15 481 (.invokestatic 428) 3 484 := by decide +kernel
abbrev Y42 : MethodName := ⟨"java/lang/Character", "lowSurrogate", "(I)C"⟩
abbrev J42 := jdk_89_method_29_code
abbrev C42 : Cond := .code Y42 J42 1 (some .char)
theorem D42_0 : Dc J42 0 (.iload_n 0) 1 1 := by decide +kernel
theorem D42_1 : Dc J42 1 (.sipush 1023) 3 4 := by decide +kernel
theorem D42_4 : Dc J42 4 .iand 1 5 := by decide +kernel
theorem D42_5 : Dc J42 5 (.ldc 76) 2 7 := by decide +kernel
abbrev w_155 (hw : HW a0 Z) := hw _ (List.mem_of_getElem? (i := 155) rfl)
theorem D42_7 : Dc J42 7 .iadd 1 8 := by decide +kernel
theorem D42_8 : Dc J42 8 .i2c 1 9 := by decide +kernel
theorem D42_9 : Dc J42 9 .ireturn 1 10 := by decide +kernel
theorem PN42 : plainFor Y42 = true := plainFor_of_name pn_Character
theorem R_Character_lowSurrogate_1 {p1 : Int32} (hw : HW a0 Z) : Mt false [] l Y42 C42 (rmk 0 0 0 0) #[.int p1] Z a0 h0 n0 (Pv h0 (.int (((p1 &&& 1023) + 56320).toUInt32.toUInt16.toUInt32.toInt32))) := by
  refine Mt.go PN42 (Or.inl rfl) ef_I_1 fun k => ?_
  replace k := k |>.iloadN D42_0 rfl |>.sipush D42_1 1023 |>.iand D42_4 rfl |>.ldcI (w_155 hw) D42_5 |>.iadd D42_7 rfl |>.i2c D42_8 rfl
  exact k.retN (t := .char) D42_9 rfl (by simp) (own_nnCi2c _) ⟨rfl, rfl⟩
abbrev w_152 (hw : HW a0 Z) := hw _ (List.mem_of_getElem? (i := 152) rfl)
abbrev w_154 (hw : HW a0 Z) := hw _ (List.mem_of_getElem? (i := 154) rfl)
abbrev w_153 (hw : HW a0 Z) := hw _ (List.mem_of_getElem? (i := 153) rfl)
theorem S42 (hw : HW a0 Z) : SC Z a0 Y42 C42 1 (some .char) 1 := ⟨(w_153 hw), ⟨⟨_, Or.inl rfl⟩, (w_154 hw), (w_138 hw), by decide, _, _, pd_I_r_C, rfl⟩⟩
theorem D15_484 : Dc J15 484 (.invokestatic 64) 3 487 := by decide +kernel
theorem R_StringUTF16_putChar_8 {a1 : Addr} {p2 p3 p4 : Int32} (hw : HW a0 Z) (pr1 : TS_AD Z) (pr2 : TS_HI Z) (pr3 : Ary Z h0 a1 ATB 10 (lv [.int p3, .int p4, .int 0, .int 0, .int 0, .int 0, .int 0, .int 0, .int 0, .int 0])) (pr4 : n0 ≤ a1) (pr5 : TS_LO Z) : Mt false [] l Y17 C17 (rmk 0 0 0 0) #[.ref a1, .int 1, .int p2] Z a0 h0 n0 (K0 h0 [a1] fun h => Ary Z h a1 ATB 10 (lv [.int p3, .int p4, .int ((p2 >>> ((0 : Int32) &&& 31)).toInt8.toInt32), .int ((p2 >>> ((8 : Int32) &&& 31)).toInt8.toInt32), .int 0, .int 0, .int 0, .int 0, .int 0, .int 0])) := by
  refine Mt.go PN17 (Or.inl rfl) ef_RII_3_1 fun k => ?_
  replace k := k |>.getS (fl_149 hw) pr1 D17_0 |>.ifYes D17_3 (by decide) |>.iloadN D17_28 rfl |>.iconst D17_29 1 |>.ishl D17_30 (z := 2) (by decide) |>.istoreN D17_31 sto1 |>.aloadN D17_32 rfl rfl |>.iloadN D17_33 rfl |>.iinc D17_34 rfl (z := 3) (by decide) sto1 |>.iloadN D17_37 rfl |>.getS (fl_150 hw) pr2 D17_38 |>.ishr D17_41 rfl
  replace k := k |>.i2b D17_42 rfl
  obtain ⟨h1, K1, O1, k⟩ := k.stB pr3 pr4 (Or.inl rfl) D17_43 (i := 2) (by decide) (v := (.int ((p2 >>> ((0 : Int32) &&& 31)).toInt8.toInt32))) (congrArg Value.int (own_nnBi2b _)) (own_fitBi2b _) lvs2
  replace k := k |>.aloadN D17_44 rfl rfl |>.iloadN D17_45 rfl |>.iloadN D17_46 rfl |>.getS (fl_151 hw) pr5 D17_47 |>.ishr D17_50 rfl |>.i2b D17_51 rfl
  obtain ⟨h2, K2, O2, k⟩ := k.stB O1 pr4 (Or.inl rfl) D17_52 (i := 3) (by decide) (v := (.int ((p2 >>> ((8 : Int32) &&& 31)).toInt8.toInt32))) (congrArg Value.int (own_nnBi2b _)) (own_fitBi2b _) lvs3
  exact k.ret0 D17_53 rfl ⟨rfl, (K1.trans K2 (allS (Or.inl (List.mem_of_getElem? (i := 0) rfl)) all0)), O2⟩
theorem D15_487 : Dj J15 487 (.goto (-487)) (-487) 490 0 := by decide +kernel
theorem lvg4 {x0 x1 x2 x3 x : Value} {t : List Value} : lv (x0 :: x1 :: x2 :: x3 :: x :: t) 4 = x := rfl
theorem lvs5 {x0 x1 x2 x3 x4 x v : Value} {t : List Value} {n : Nat} : ∀ j, j < n → updv (lv (x0 :: x1 :: x2 :: x3 :: x4 :: x :: t)) 5 v j = lv (x0 :: x1 :: x2 :: x3 :: x4 :: v :: t) j := lv_set rfl (by simp)
theorem ef_RII_3_2 {x0 : Addr} {x2 : Int32}  (m : MethodId) : entryFrame m #[(.ref x0), (.int 2), (.int x2)] 3 = mkF m 0 #[.val (.ref x0), .val (.int 2), .val (.int x2)] [] := by
  first | (simp [entryFrame, mkF, argsToLocals, Value.category]; done) | rfl
theorem R_StringUTF16_putChar_9 {a1 : Addr} {p2 p3 p4 p5 p6 : Int32} (hw : HW a0 Z) (pr1 : TS_AD Z) (pr2 : TS_HI Z) (pr3 : Ary Z h0 a1 ATB 10 (lv [.int p3, .int p4, .int p5, .int p6, .int 0, .int 0, .int 0, .int 0, .int 0, .int 0])) (pr4 : n0 ≤ a1) (pr5 : TS_LO Z) : Mt false [] l Y17 C17 (rmk 0 0 0 0) #[.ref a1, .int 2, .int p2] Z a0 h0 n0 (K0 h0 [a1] fun h => Ary Z h a1 ATB 10 (lv [.int p3, .int p4, .int p5, .int p6, .int ((p2 >>> ((0 : Int32) &&& 31)).toInt8.toInt32), .int ((p2 >>> ((8 : Int32) &&& 31)).toInt8.toInt32), .int 0, .int 0, .int 0, .int 0])) := by
  refine Mt.go PN17 (Or.inl rfl) ef_RII_3_2 fun k => ?_
  replace k := k |>.getS (fl_149 hw) pr1 D17_0 |>.ifYes D17_3 (by decide) |>.iloadN D17_28 rfl |>.iconst D17_29 1 |>.ishl D17_30 (z := 4) (by decide) |>.istoreN D17_31 sto1 |>.aloadN D17_32 rfl rfl |>.iloadN D17_33 rfl |>.iinc D17_34 rfl (z := 5) (by decide) sto1 |>.iloadN D17_37 rfl |>.getS (fl_150 hw) pr2 D17_38 |>.ishr D17_41 rfl
  replace k := k |>.i2b D17_42 rfl
  obtain ⟨h1, K1, O1, k⟩ := k.stB pr3 pr4 (Or.inl rfl) D17_43 (i := 4) (by decide) (v := (.int ((p2 >>> ((0 : Int32) &&& 31)).toInt8.toInt32))) (congrArg Value.int (own_nnBi2b _)) (own_fitBi2b _) lvs4
  replace k := k |>.aloadN D17_44 rfl rfl |>.iloadN D17_45 rfl |>.iloadN D17_46 rfl |>.getS (fl_151 hw) pr5 D17_47 |>.ishr D17_50 rfl |>.i2b D17_51 rfl
  obtain ⟨h2, K2, O2, k⟩ := k.stB O1 pr4 (Or.inl rfl) D17_52 (i := 5) (by decide) (v := (.int ((p2 >>> ((8 : Int32) &&& 31)).toInt8.toInt32))) (congrArg Value.int (own_nnBi2b _)) (own_fitBi2b _) lvs5
  exact k.ret0 D17_53 rfl ⟨rfl, (K1.trans K2 (allS (Or.inl (List.mem_of_getElem? (i := 0) rfl)) all0)), O2⟩
theorem ef_RIIRII_11_0_5_0_1 {x0 : Addr} {x3 : Addr}  (m : MethodId) : entryFrame m #[(.ref x0), (.int 0), (.int 5), (.ref x3), (.int 0), (.int 1)] 11 = mkF m 0 #[.val (.ref x0), .val (.int 0), .val (.int 5), .val (.ref x3), .val (.int 0), .val (.int 1), .unset, .unset, .unset, .unset, .unset] [] := by
  first | (simp [entryFrame, mkF, argsToLocals, Value.category]; done) | rfl
theorem R_String_decodeUTF8_UTF16_23 {a1 a2 : Addr} {p3 p4 p5 p6 p7 : Int32} (hw : HW a0 Z) (pr1 : Ary Z h0 a1 ATB 5 (lv [.int p3, .int p4, .int p5, .int p6, .int p7])) (pr2 : p3 < 0) (pr3 : ¬ ((p3 >>> ((5 : Int32) &&& 31)) = (-2))) (pr4 : ¬ ((p3 >>> ((4 : Int32) &&& 31)) = (-2))) (pr5 : (p3 >>> ((3 : Int32) &&& 31)) = (-2)) (pr6 : (p4 &&& 192) = 128) (pr7 : (p5 &&& 192) = 128) (pr8 : (p6 &&& 192) = 128) (pr9 : ¬ (((((p3 <<< ((18 : Int32) &&& 31)) ^^^ (p4 <<< ((12 : Int32) &&& 31))) ^^^ (p5 <<< ((6 : Int32) &&& 31))) ^^^ (p6 ^^^ 3678080)) < 65536)) (pr10 : ((((p3 <<< ((18 : Int32) &&& 31)) ^^^ (p4 <<< ((12 : Int32) &&& 31))) ^^^ (p5 <<< ((6 : Int32) &&& 31))) ^^^ (p6 ^^^ 3678080)) < 1114112) (pr11 : Ary Z h0 a2 ATB 10 (lv [.int 0, .int 0, .int 0, .int 0, .int 0, .int 0, .int 0, .int 0, .int 0, .int 0])) (pr12 : n0 ≤ a2) (pr13 : TS_AD Z) (pr14 : TS_HI Z) (pr15 : TS_LO Z) (pr16 : a1 ≠ a2) (pr17 : ¬ (p7 < 0)) : Mt false [] l Y15 C15 (rmk 1 0 0 15) #[.ref a1, .int 0, .int 5, .ref a2, .int 0, .int 1] Z a0 h0 n0 (KpV h0 [a2] fun v h => v = (.int 3) ∧ Ary Z h a2 ATB 10 (lv [.int ((((((((((p3 <<< ((18 : Int32) &&& 31)) ^^^ (p4 <<< ((12 : Int32) &&& 31))) ^^^ (p5 <<< ((6 : Int32) &&& 31))) ^^^ (p6 ^^^ 3678080)).toUInt32 >>> ((10 : Int32) &&& 31).toUInt32).toInt32) + 55232).toUInt32.toUInt16.toUInt32.toInt32) >>> ((0 : Int32) &&& 31)).toInt8.toInt32), .int ((((((((((p3 <<< ((18 : Int32) &&& 31)) ^^^ (p4 <<< ((12 : Int32) &&& 31))) ^^^ (p5 <<< ((6 : Int32) &&& 31))) ^^^ (p6 ^^^ 3678080)).toUInt32 >>> ((10 : Int32) &&& 31).toUInt32).toInt32) + 55232).toUInt32.toUInt16.toUInt32.toInt32) >>> ((8 : Int32) &&& 31)).toInt8.toInt32), .int (((((((((p3 <<< ((18 : Int32) &&& 31)) ^^^ (p4 <<< ((12 : Int32) &&& 31))) ^^^ (p5 <<< ((6 : Int32) &&& 31))) ^^^ (p6 ^^^ 3678080)) &&& 1023) + 56320).toUInt32.toUInt16.toUInt32.toInt32) >>> ((0 : Int32) &&& 31)).toInt8.toInt32), .int (((((((((p3 <<< ((18 : Int32) &&& 31)) ^^^ (p4 <<< ((12 : Int32) &&& 31))) ^^^ (p5 <<< ((6 : Int32) &&& 31))) ^^^ (p6 ^^^ 3678080)) &&& 1023) + 56320).toUInt32.toUInt16.toUInt32.toInt32) >>> ((8 : Int32) &&& 31)).toInt8.toInt32), .int (((p7.toUInt32.toUInt16.toUInt32.toInt32) >>> ((0 : Int32) &&& 31)).toInt8.toInt32), .int (((p7.toUInt32.toUInt16.toUInt32.toInt32) >>> ((8 : Int32) &&& 31)).toInt8.toInt32), .int 0, .int 0, .int 0, .int 0])) := by
  refine Mt.go PN15 (Or.inl rfl) ef_RIIRII_11_0_5_0_1 fun k => ?_
  replace k := k |>.iloadN D15_0 rfl |>.iloadN D15_1 rfl |>.icmpNo D15_2 (by decide) |>.aloadN D15_5 rfl rfl |>.iloadN D15_6 rfl |>.iinc D15_7 rfl (z := 1) (by decide) sto1 |>.bald pr1 D15_10 (i := 0) (by decide) lvg0 |>.istore D15_11 sto6 |>.iload D15_13 rfl |>.ifYes D15_15 ((if0 _ _).trans (tlt pr2).1) |>.iload D15_33 rfl |>.iconst D15_35 5
  replace k := k |>.ishr D15_36 rfl |>.bipush D15_37 (-2) |>.icmpYes D15_39 (feq pr3).2 |>.iload D15_143 rfl |>.iconst D15_145 4 |>.ishr D15_146 rfl |>.bipush D15_147 (-2) |>.icmpYes D15_149 (feq pr4).2 |>.iload D15_349 rfl |>.iconst D15_351 3 |>.ishr D15_352 rfl |>.bipush D15_353 (-2)
  replace k := k |>.icmpNo D15_355 (teq pr5).2 |>.iloadN D15_358 rfl |>.iconst D15_359 2 |>.iadd D15_360 (z := 3) (by decide) |>.iloadN D15_361 rfl |>.icmpNo D15_362 (by decide) |>.aloadN D15_365 rfl rfl |>.iloadN D15_366 rfl |>.iinc D15_367 rfl (z := 2) (by decide) sto1 |>.bald pr1 D15_370 (i := 1) (by decide) lvg1 |>.istore D15_371 sto7 |>.aloadN D15_373 rfl rfl
  replace k := k |>.iloadN D15_374 rfl |>.iinc D15_375 rfl (z := 3) (by decide) sto1 |>.bald pr1 D15_378 (i := 2) (by decide) lvg2 |>.istore D15_379 sto8 |>.aloadN D15_381 rfl rfl |>.iloadN D15_382 rfl |>.iinc D15_383 rfl (z := 4) (by decide) sto1 |>.bald pr1 D15_386 (i := 3) (by decide) lvg3 |>.istore D15_387 sto9 |>.iload D15_389 rfl |>.iload D15_391 rfl |>.iload D15_393 rfl
  replace k := k |>.iload D15_395 rfl
  replace k := (k.callS (w_129 hw) (S38 hw) (R_String_decode4_1 hw) D15_397 0 rfl).pv
  replace k := k |>.istore D15_400 sto10 |>.iload D15_402 rfl |>.iload D15_404 rfl |>.iload D15_406 rfl
  replace k := (k.callS (w_133 hw) (S39 hw) (R_String_isMalformed4_1 hw pr6 pr7 pr8) D15_408 0 rfl).pv
  replace k := k |>.ifNo D15_411 (by decide) |>.iload D15_414 rfl
  replace k := (k.callS (w_136 hw) (S40 hw) (R_Character_isSupplementaryCodePoint_1 hw pr9 pr10) D15_416 0 rfl).pv
  replace k := k |>.ifYes D15_419 (by decide) |>.aloadN D15_459 rfl rfl |>.iload D15_460 rfl |>.iinc D15_462 rfl (z := 1) (by decide) sto4 |>.iload D15_465 rfl
  replace k := (k.callS (w_142 hw) (S41 hw) (R_Character_highSurrogate_1 hw) D15_467 2 rfl).pv
  obtain ⟨h5, K5, f5_0, k⟩ := (k.callS (w_146 hw) (S17 hw) (R_StringUTF16_putChar_7 hw pr13 pr14 pr11 pr12 pr15) D15_470 0 rfl).k0 (allS pr12 all0)
  replace k := k |>.aloadN D15_473 rfl rfl |>.iload D15_474 rfl |>.iinc D15_476 rfl (z := 2) (by decide) sto4 |>.iload D15_479 rfl
  replace k := (k.callS (w_152 hw) (S42 hw) (R_Character_lowSurrogate_1 hw) D15_481 2 rfl).pv
  obtain ⟨h7, K7, f7_0, k⟩ := (k.callS (w_146 hw) (S17 hw) (R_StringUTF16_putChar_8 hw pr13 pr14 f5_0 pr12 pr15) D15_484 0 rfl).k0 (allS pr12 all0)
  replace k := k |>.goto D15_487 |>.iloadN D15_0 rfl |>.iloadN D15_1 rfl |>.icmpNo D15_2 (by decide) |>.aloadN D15_5 rfl rfl |>.iloadN D15_6 rfl |>.iinc D15_7 rfl (z := 5) (by decide) sto1
  have o8 := (pr1.keep K5 (ninS pr16 nin0)).keep K7 (ninS pr16 nin0)
  replace k := k |>.bald o8 D15_10 (i := 4) (by decide) lvg4 |>.istore D15_11 sto6 |>.iload D15_13 rfl |>.ifNo D15_15 ((if0 _ _).trans (flt pr17).1) |>.aloadN D15_18 rfl rfl |>.iload D15_19 rfl |>.iinc D15_21 rfl (z := 3) (by decide) sto4 |>.iload D15_24 rfl |>.i2c D15_26 rfl
  obtain ⟨h9, K9, f9_0, k⟩ := (k.callS (w_146 hw) (S17 hw) (R_StringUTF16_putChar_9 hw pr13 pr14 f7_0 pr12 pr15) D15_27 0 rfl).k0 (allS pr12 all0)
  replace k := k |>.goto D15_30 |>.goto D15_618 |>.iloadN D15_0 rfl |>.iloadN D15_1 rfl |>.icmpYes D15_2 (by decide) |>.iload D15_621 rfl
  exact k.retI D15_623 rfl ⟨_, rfl, ((K5.trans K7 (allS (Or.inl (List.mem_of_getElem? (i := 0) rfl)) all0)).trans K9 (allS (Or.inl (List.mem_of_getElem? (i := 0) rfl)) all0)), rfl, f9_0⟩
theorem ef_II_2_10_6   (m : MethodId) : entryFrame m #[(.int 10), (.int 6)] 2 = mkF m 0 #[.val (.int 10), .val (.int 6)] [] := by
  first | (simp [entryFrame, mkF, argsToLocals, Value.category]; done) | rfl
theorem R_Math_min_4 (hw : HW a0 Z) : Mt false [] l Y34 C34 (rmk 0 0 0 0) #[.int 10, .int 6] Z a0 h0 n0 (Pv h0 (.int 6)) := by
  refine Mt.go PN34 (Or.inl rfl) ef_II_2_10_6 fun k => ?_
  replace k := k |>.iloadN D34_0 rfl |>.iloadN D34_1 rfl |>.icmpYes D34_2 (by decide) |>.iloadN D34_9 rfl
  exact k.retI D34_10 rfl ⟨rfl, rfl⟩
theorem ef_RI_3_6 {x0 : Addr}  (m : MethodId) : entryFrame m #[(.ref x0), (.int 6)] 3 = mkF m 0 #[.val (.ref x0), .val (.int 6), .unset] [] := by
  first | (simp [entryFrame, mkF, argsToLocals, Value.category]; done) | rfl
theorem R_Arrays_copyOf_4 {a1 : Addr} {p2 p3 p4 p5 p6 p7 : Int32} (hw : HW a0 Z) (pr1 : Ary Z h0 a1 ATB 10 (lv [.int p2, .int p3, .int p4, .int p5, .int p6, .int p7, .int 0, .int 0, .int 0, .int 0])) : Mt false [] l Y33 C33 (rmk 1 1 6 18) #[.ref a1, .int 6] Z a0 h0 n0 (KpV h0 [] fun v h => ∃ b1 : Addr, v = (.ref b1) ∧ h0.size ≤ b1 ∧ Ary Z h b1 ATB 6 (lv [.int p2, .int p3, .int p4, .int p5, .int p6, .int p7])) := by
  refine Mt.go PN33 (Or.inl rfl) ef_RI_3_6 fun k => ?_
  have nz := k.n0le
  replace k := k |>.iloadN D33_0 rfl |>.aloadN D33_1 rfl rfl |>.alen pr1 D33_2 (z := 10) (by decide) |>.icmpYes D33_3 (by decide) |>.iloadN D33_14 rfl
  have z1 := k.sz
  obtain ⟨b1, h1, g1, K1, O1, k⟩ := k.newP (aty := .byte) "[B" (w_0 hw) (by decide) D33_15 6 (by decide) (n := 6) (by decide) (by decide) (by decide) (lv_const (V := [(.int 0), (.int 0), (.int 0), (.int 0), (.int 0), (.int 0)]) rfl)
  replace k := k |>.astoreN D33_17 rfl sto2 |>.aloadN D33_18 rfl rfl |>.iconst D33_19 0 |>.aloadN D33_20 rfl rfl |>.iconst D33_21 0 |>.aloadN D33_22 rfl rfl
  have o2 := pr1.keep K1 nin0
  replace k := k |>.alen o2 D33_23 (z := 10) (by decide) |>.iloadN D33_24 rfl
  replace k := (k.callS (w_159 hw) (S34 hw) (R_Math_min_4 hw) D33_25 4 rfl).pv
  have s_b1 := Nat.le_trans z1 g1
  have n_b1 := Nat.le_trans nz s_b1
  obtain ⟨h4, K4, O4, k⟩ := k.acopy (w_163 hw) (w_166 hw) (w_164 hw) (w_165 hw) o2 O1 ⟨rfl, rfl⟩ (sp' := 0) (by decide) (dp' := 0) (by decide) (nn' := 6) (by decide) (by decide) (by decide) (lv_cpy (V' := [.int p2, .int p3, .int p4, .int p5, .int p6, .int p7]) rfl rfl) n_b1 D33_28 0
  replace k := k |>.aloadN D33_31 rfl rfl
  exact k.retA D33_32 rfl ⟨_, rfl, (K1.trans K4 (allS (Or.inr s_b1) all0)), b1, rfl, s_b1, O4⟩
theorem ef_RRRII_11_0_5 {x0 : Addr} {x1 : Addr} {x2 : Addr}  (m : MethodId) : entryFrame m #[(.ref x0), (.ref x1), (.ref x2), (.int 0), (.int 5)] 11 = mkF m 0 #[.val (.ref x0), .val (.ref x1), .val (.ref x2), .val (.int 0), .val (.int 5), .unset, .unset, .unset, .unset, .unset, .unset] [] := by
  first | (simp [entryFrame, mkF, argsToLocals, Value.category]; done) | rfl
theorem R_String__init__56 {a1 w_U8 a2 : Addr} {w_CS p3 p4 p5 p6 p7 : Int32} {w_SF : Value} (hw : HW a0 Z) (pr1 : TS_UI Z w_U8) (pr2 : TS_CS Z w_CS) (pr3 : ¬ (w_CS = 0)) (pr4 : Ary Z h0 a2 ATB 5 (lv [.int p3, .int p4, .int p5, .int p6, .int p7])) (pr5 : p3 < 0) (pr6 : ¬ ((p3 &&& 254) = 194)) (pr7 : w_SF.isRef = true) (pr8 : TS_SF Z w_SF) (pr9 : ¬ ((p3 >>> ((5 : Int32) &&& 31)) = (-2))) (pr10 : ¬ ((p3 >>> ((4 : Int32) &&& 31)) = (-2))) (pr11 : (p3 >>> ((3 : Int32) &&& 31)) = (-2)) (pr12 : (p4 &&& 192) = 128) (pr13 : (p5 &&& 192) = 128) (pr14 : (p6 &&& 192) = 128) (pr15 : ¬ (((((p3 <<< ((18 : Int32) &&& 31)) ^^^ (p4 <<< ((12 : Int32) &&& 31))) ^^^ (p5 <<< ((6 : Int32) &&& 31))) ^^^ (p6 ^^^ 3678080)) < 65536)) (pr16 : ((((p3 <<< ((18 : Int32) &&& 31)) ^^^ (p4 <<< ((12 : Int32) &&& 31))) ^^^ (p5 <<< ((6 : Int32) &&& 31))) ^^^ (p6 ^^^ 3678080)) < 1114112) (pr17 : ¬ (p7 < 0)) (pr18 : TS_AD Z) (pr19 : TS_HI Z) (pr20 : TS_LO Z) (pr21 : Obj Z h0 a1 L_String [.null, .int 0]) (pr22 : n0 ≤ a1) : Mt false [] l Y4 C4 (rmk 5 3 21 76) #[.ref a1, .ref w_U8, .ref a2, .int 0, .int 5] Z a0 h0 n0 (K0 h0 [a1] fun h => ∃ b1_7 : Addr, h0.size ≤ b1_7 ∧ Obj Z h a1 L_String [.ref b1_7, .int 1] ∧ Ary Z h b1_7 ATB 6 (lv [.int ((((((((((p3 <<< ((18 : Int32) &&& 31)) ^^^ (p4 <<< ((12 : Int32) &&& 31))) ^^^ (p5 <<< ((6 : Int32) &&& 31))) ^^^ (p6 ^^^ 3678080)).toUInt32 >>> ((10 : Int32) &&& 31).toUInt32).toInt32) + 55232).toUInt32.toUInt16.toUInt32.toInt32) >>> ((0 : Int32) &&& 31)).toInt8.toInt32), .int ((((((((((p3 <<< ((18 : Int32) &&& 31)) ^^^ (p4 <<< ((12 : Int32) &&& 31))) ^^^ (p5 <<< ((6 : Int32) &&& 31))) ^^^ (p6 ^^^ 3678080)).toUInt32 >>> ((10 : Int32) &&& 31).toUInt32).toInt32) + 55232).toUInt32.toUInt16.toUInt32.toInt32) >>> ((8 : Int32) &&& 31)).toInt8.toInt32), .int (((((((((p3 <<< ((18 : Int32) &&& 31)) ^^^ (p4 <<< ((12 : Int32) &&& 31))) ^^^ (p5 <<< ((6 : Int32) &&& 31))) ^^^ (p6 ^^^ 3678080)) &&& 1023) + 56320).toUInt32.toUInt16.toUInt32.toInt32) >>> ((0 : Int32) &&& 31)).toInt8.toInt32), .int (((((((((p3 <<< ((18 : Int32) &&& 31)) ^^^ (p4 <<< ((12 : Int32) &&& 31))) ^^^ (p5 <<< ((6 : Int32) &&& 31))) ^^^ (p6 ^^^ 3678080)) &&& 1023) + 56320).toUInt32.toUInt16.toUInt32.toInt32) >>> ((8 : Int32) &&& 31)).toInt8.toInt32), .int (((p7.toUInt32.toUInt16.toUInt32.toInt32) >>> ((0 : Int32) &&& 31)).toInt8.toInt32), .int (((p7.toUInt32.toUInt16.toUInt32.toInt32) >>> ((8 : Int32) &&& 31)).toInt8.toInt32)])) := by
  refine Mt.go PN4 (Or.inr ⟨_, rfl⟩) ef_RRRII_11_0_5 fun k => ?_
  have nz := k.n0le
  replace k := k |>.aloadN D4_0 rfl rfl |>.initO (w_23 hw) (w_24 hw) (w_25 hw) D4_1 0 |>.iload D4_4 rfl |>.ifYes D4_6 (by decide) |>.aloadN D4_30 rfl rfl |>.getS (fl_46 hw) pr1 D4_31 |>.acmpNo D4_34 rfl rfl true (decide_eq_true rfl) (by decide) |>.getS (fl_48 hw) pr2 D4_37 |>.ifNo D4_40 ((if0 _ _).trans (feq pr3).1) |>.aloadN D4_43 rfl rfl |>.iloadN D4_44 rfl |>.iload D4_45 rfl
  replace k := (k.callS (w_49 hw) (S5 hw) (R_StringCoding_countPositives_5 hw pr4 pr5) D4_47 0 rfl).pv
  replace k := k |>.istore D4_50 sto5 |>.iload D4_52 rfl |>.iload D4_54 rfl |>.icmpYes D4_56 (by decide) |>.aloadN D4_78 rfl rfl |>.iloadN D4_79 rfl |>.iloadN D4_80 rfl |>.iload D4_81 rfl |>.iadd D4_83 (z := 5) (by decide)
  have z2 := k.sz
  obtain ⟨_, h2, K2, ⟨b1_2, rfl, f2_0, f2_1⟩, k⟩ := (k.callS (w_53 hw) (S6 hw) (R_Arrays_copyOfRange_4 hw pr4) D4_84 0 rfl).kv
  replace k := k |>.astore D4_87 rfl sto6 |>.iload D4_89 rfl |>.istore D4_91 sto7 |>.iload D4_93 rfl |>.iload D4_95 rfl |>.icmpNo D4_97 (by decide) |>.aload D4_100 rfl rfl |>.iload D4_102 rfl |>.iinc D4_104 rfl (z := 1) (by decide) sto7 |>.bald f2_1 D4_107 (i := 0) (by decide) lvg0 |>.istore D4_108 sto8 |>.iload D4_110 rfl
  replace k := k |>.ifYes D4_112 ((if0 _ _).trans (tlt pr5).1) |>.iload D4_129 rfl |>.sipush D4_131 254 |>.iand D4_134 rfl |>.sipush D4_135 194 |>.icmpYes D4_138 (feq pr6).2 |>.iinc D4_184 rfl (z := 0) (by decide) sto7 |>.goto D4_187 |>.iload D4_190 rfl |>.iload D4_192 rfl |>.icmpYes D4_194 (by decide) |>.iload D4_226 rfl
  have z3 := k.sz
  obtain ⟨_, h3, K3, ⟨b2_3, rfl, f3_0, f3_1⟩, k⟩ := (k.callS (w_100 hw) (S7 hw) (R_StringUTF16_newBytesFor_4 hw) D4_228 0 rfl).kv
  replace k := k |>.astore D4_231 rfl sto8 |>.aload D4_233 rfl rfl |>.iconst D4_235 0 |>.aload D4_236 rfl rfl |>.iconst D4_238 0 |>.iload D4_239 rfl
  replace k := (k.callS (w_108 hw) (S9 hw) (R_StringLatin1_inflate_4 hw f3_1 pr7 pr8) D4_241 0 rfl).p0
  replace k := k |>.aload D4_244 rfl rfl |>.iload D4_246 rfl |>.iload D4_248 rfl |>.aload D4_250 rfl rfl |>.iload D4_252 rfl |>.iconst D4_254 1
  have s_b2_3 := Nat.le_trans z3 f3_0
  have n_b2_3 := Nat.le_trans nz s_b2_3
  have o6 := f2_1.keep K3 nin0
  obtain ⟨_, h5, K5, ⟨rfl, f5_0⟩, k⟩ := (k.callS (w_126 hw) (S15 hw) (R_String_decodeUTF8_UTF16_23 hw o6 pr5 pr9 pr10 pr11 pr12 pr13 pr14 pr15 pr16 f3_1 n_b2_3 pr18 pr19 pr20 (nlt f2_1.lt f3_0) pr17) D4_255 0 rfl).kv (allS n_b2_3 all0)
  replace k := k |>.istore D4_258 sto5 |>.iload D4_260 rfl |>.iload D4_262 rfl |>.icmpNo D4_264 (by decide) |>.aload D4_267 rfl rfl |>.iload D4_269 rfl |>.iconst D4_271 1 |>.ishl D4_272 (z := 6) (by decide)
  have z7 := k.sz
  obtain ⟨_, h7, K7, ⟨b1_7, rfl, f7_0, f7_1⟩, k⟩ := (k.callS (w_156 hw) (S33 hw) (R_Arrays_copyOf_4 hw f5_0) D4_273 0 rfl).kv
  replace k := k |>.astore D4_276 rfl sto8 |>.aloadN D4_278 rfl rfl |>.aload D4_279 rfl rfl
  have o8 := (((pr21.keep K2 nin0).keep K3 nin0).keep K5 (ninS (nlt pr21.lt s_b2_3) nin0)).keep K7 nin0
  obtain ⟨h9, K9, O9, k⟩ := k.putF (fl_31 hw) (pw_String_i_String_value hw) o8 0 pr22 (Or.inl rfl) D4_281 rfl rfl rfl ls0
  replace k := k |>.aloadN D4_284 rfl rfl |>.iconst D4_285 1
  obtain ⟨h10, K10, O10, k⟩ := k.putN (fp_32 hw) (pw_String_i_String_coder hw) O9 1 pr22 (Or.inl rfl) D4_286 rfl (v' := (.int 1)) (by decide) (by decide) ls1
  replace k := k |>.goto D4_289
  have s_b1_7 := Nat.le_trans z7 f7_0
  have o11 := (f7_1.keep K9 (ninS (nlt' pr21.lt s_b1_7) nin0)).keep K10 (ninS (nlt' pr21.lt s_b1_7) nin0)
  exact k.ret0 D4_879 rfl ⟨rfl, (((((((Keep.refl h0 [a1]).trans K2 all0).trans K3 all0).trans K5 (allS (Or.inr s_b2_3) all0)).trans K7 all0).trans K9 (allS (Or.inl (List.mem_of_getElem? (i := 0) rfl)) all0)).trans K10 (allS (Or.inl (List.mem_of_getElem? (i := 0) rfl)) all0)), b1_7, s_b1_7, O10, o11⟩
theorem R_String__init__55 {a1 a2 w_U8 : Addr} {p3 p4 p5 p6 p7 w_CS : Int32} {w_SF : Value} (hw : HW a0 Z) (pr1 : Obj Z Z.heap w_U8 L_UTF_8 []) (pr2 : Ary Z h0 a2 ATB 5 (lv [.int p3, .int p4, .int p5, .int p6, .int p7])) (pr3 : ¬ (w_CS = 0)) (pr4 : p3 < 0) (pr5 : ¬ ((p3 &&& 254) = 194)) (pr6 : ¬ ((p3 >>> ((5 : Int32) &&& 31)) = (-2))) (pr7 : ¬ ((p3 >>> ((4 : Int32) &&& 31)) = (-2))) (pr8 : (p3 >>> ((3 : Int32) &&& 31)) = (-2)) (pr9 : (p4 &&& 192) = 128) (pr10 : (p5 &&& 192) = 128) (pr11 : (p6 &&& 192) = 128) (pr12 : ¬ (((((p3 <<< ((18 : Int32) &&& 31)) ^^^ (p4 <<< ((12 : Int32) &&& 31))) ^^^ (p5 <<< ((6 : Int32) &&& 31))) ^^^ (p6 ^^^ 3678080)) < 65536)) (pr13 : ((((p3 <<< ((18 : Int32) &&& 31)) ^^^ (p4 <<< ((12 : Int32) &&& 31))) ^^^ (p5 <<< ((6 : Int32) &&& 31))) ^^^ (p6 ^^^ 3678080)) < 1114112) (pr14 : ¬ (p7 < 0)) (pr15 : Obj Z h0 a1 L_String [.null, .int 0]) (pr16 : n0 ≤ a1) (pr17 : w_SF.isRef = true) (pr18 : TS_UI Z w_U8) (pr19 : TS_CS Z w_CS) (pr20 : TS_SF Z w_SF) (pr21 : TS_AD Z) (pr22 : TS_HI Z) (pr23 : TS_LO Z) : Mt false [] l Y2 C2 (rmk 6 3 21 98) #[.ref a1, .ref a2, .ref w_U8] Z a0 h0 n0 (K0 h0 [a1] fun h => ∃ b1_7_2 : Addr, h0.size ≤ b1_7_2 ∧ Obj Z h a1 L_String [.ref b1_7_2, .int 1] ∧ Ary Z h b1_7_2 ATB 6 (lv [.int ((((((((((p3 <<< ((18 : Int32) &&& 31)) ^^^ (p4 <<< ((12 : Int32) &&& 31))) ^^^ (p5 <<< ((6 : Int32) &&& 31))) ^^^ (p6 ^^^ 3678080)).toUInt32 >>> ((10 : Int32) &&& 31).toUInt32).toInt32) + 55232).toUInt32.toUInt16.toUInt32.toInt32) >>> ((0 : Int32) &&& 31)).toInt8.toInt32), .int ((((((((((p3 <<< ((18 : Int32) &&& 31)) ^^^ (p4 <<< ((12 : Int32) &&& 31))) ^^^ (p5 <<< ((6 : Int32) &&& 31))) ^^^ (p6 ^^^ 3678080)).toUInt32 >>> ((10 : Int32) &&& 31).toUInt32).toInt32) + 55232).toUInt32.toUInt16.toUInt32.toInt32) >>> ((8 : Int32) &&& 31)).toInt8.toInt32), .int (((((((((p3 <<< ((18 : Int32) &&& 31)) ^^^ (p4 <<< ((12 : Int32) &&& 31))) ^^^ (p5 <<< ((6 : Int32) &&& 31))) ^^^ (p6 ^^^ 3678080)) &&& 1023) + 56320).toUInt32.toUInt16.toUInt32.toInt32) >>> ((0 : Int32) &&& 31)).toInt8.toInt32), .int (((((((((p3 <<< ((18 : Int32) &&& 31)) ^^^ (p4 <<< ((12 : Int32) &&& 31))) ^^^ (p5 <<< ((6 : Int32) &&& 31))) ^^^ (p6 ^^^ 3678080)) &&& 1023) + 56320).toUInt32.toUInt16.toUInt32.toInt32) >>> ((8 : Int32) &&& 31)).toInt8.toInt32), .int (((p7.toUInt32.toUInt16.toUInt32.toInt32) >>> ((0 : Int32) &&& 31)).toInt8.toInt32), .int (((p7.toUInt32.toUInt16.toUInt32.toInt32) >>> ((8 : Int32) &&& 31)).toInt8.toInt32)])) := by
  refine Mt.go PN2 (Or.inl rfl) ef_RRR_3 fun k => ?_
  replace k := k |>.aloadN D2_0 rfl rfl |>.aloadN D2_1 rfl rfl
  replace k := (k.callS (w_13 hw) (S3 hw) (R_Objects_requireNonNull_1 hw) D2_2 1 rfl).pv
  replace k := k |>.castY (w_17 hw) (Ins.of_exa (pr1.ext k.old.2).exa (w_18 hw)) D2_5 |>.aloadN D2_8 rfl rfl |>.iconst D2_9 0 |>.aloadN D2_10 rfl rfl |>.alen pr2 D2_11 (z := 5) (by decide)
  have z2 := k.sz
  obtain ⟨h2, K2, ⟨b1_7_2, f2_0, f2_1, f2_2⟩, k⟩ := (k.callI (w_19 hw) (I4 hw) (R_String__init__56 hw pr18 pr19 pr3 pr2 pr4 pr5 pr17 pr20 pr6 pr7 pr8 pr9 pr10 pr11 pr12 pr13 pr14 pr21 pr22 pr23 pr15 pr16) D2_12 0 rfl).k0 (allS pr16 all0)
  have s_b1_7_2 := Nat.le_trans z2 f2_0
  exact k.ret0 D2_15 rfl ⟨rfl, K2, b1_7_2, s_b1_7_2, f2_1, f2_2⟩
theorem R_Utf8_decodeName_28 {a1 w_U8 : Addr} {p2 p3 p4 p5 p6 w_CS : Int32} {w_SF : Value} (hw : HW a0 Z) (pr1 : TS_U8 Z w_U8) (pr2 : Ary Z h0 a1 ATB 5 (lv [.int p2, .int p3, .int p4, .int p5, .int p6])) (pr3 : ¬ (w_CS = 0)) (pr4 : p2 < 0) (pr5 : ¬ ((p2 &&& 254) = 194)) (pr6 : ¬ ((p2 >>> ((5 : Int32) &&& 31)) = (-2))) (pr7 : ¬ ((p2 >>> ((4 : Int32) &&& 31)) = (-2))) (pr8 : (p2 >>> ((3 : Int32) &&& 31)) = (-2)) (pr9 : (p3 &&& 192) = 128) (pr10 : (p4 &&& 192) = 128) (pr11 : (p5 &&& 192) = 128) (pr12 : ¬ (((((p2 <<< ((18 : Int32) &&& 31)) ^^^ (p3 <<< ((12 : Int32) &&& 31))) ^^^ (p4 <<< ((6 : Int32) &&& 31))) ^^^ (p5 ^^^ 3678080)) < 65536)) (pr13 : ((((p2 <<< ((18 : Int32) &&& 31)) ^^^ (p3 <<< ((12 : Int32) &&& 31))) ^^^ (p4 <<< ((6 : Int32) &&& 31))) ^^^ (p5 ^^^ 3678080)) < 1114112) (pr14 : ¬ (p6 < 0)) (pr15 : w_SF.isRef = true) (pr16 : Obj Z Z.heap w_U8 L_UTF_8 []) (pr17 : TS_UI Z w_U8) (pr18 : TS_CS Z w_CS) (pr19 : TS_SF Z w_SF) (pr20 : TS_AD Z) (pr21 : TS_HI Z) (pr22 : TS_LO Z) : Mt false [] l Y1 C1 (rmk 7 4 25 113) #[.ref a1] Z a0 h0 n0 (KpV h0 [] fun v h => ∃ b1 b1_7_2_2 : Addr, v = (.ref b1) ∧ h0.size ≤ b1 ∧ h0.size ≤ b1_7_2_2 ∧ b1_7_2_2 ≠ b1 ∧ Obj Z h b1 L_String [.ref b1_7_2_2, .int 1] ∧ Ary Z h b1_7_2_2 ATB 6 (lv [.int ((((((((((p2 <<< ((18 : Int32) &&& 31)) ^^^ (p3 <<< ((12 : Int32) &&& 31))) ^^^ (p4 <<< ((6 : Int32) &&& 31))) ^^^ (p5 ^^^ 3678080)).toUInt32 >>> ((10 : Int32) &&& 31).toUInt32).toInt32) + 55232).toUInt32.toUInt16.toUInt32.toInt32) >>> ((0 : Int32) &&& 31)).toInt8.toInt32), .int ((((((((((p2 <<< ((18 : Int32) &&& 31)) ^^^ (p3 <<< ((12 : Int32) &&& 31))) ^^^ (p4 <<< ((6 : Int32) &&& 31))) ^^^ (p5 ^^^ 3678080)).toUInt32 >>> ((10 : Int32) &&& 31).toUInt32).toInt32) + 55232).toUInt32.toUInt16.toUInt32.toInt32) >>> ((8 : Int32) &&& 31)).toInt8.toInt32), .int (((((((((p2 <<< ((18 : Int32) &&& 31)) ^^^ (p3 <<< ((12 : Int32) &&& 31))) ^^^ (p4 <<< ((6 : Int32) &&& 31))) ^^^ (p5 ^^^ 3678080)) &&& 1023) + 56320).toUInt32.toUInt16.toUInt32.toInt32) >>> ((0 : Int32) &&& 31)).toInt8.toInt32), .int (((((((((p2 <<< ((18 : Int32) &&& 31)) ^^^ (p3 <<< ((12 : Int32) &&& 31))) ^^^ (p4 <<< ((6 : Int32) &&& 31))) ^^^ (p5 ^^^ 3678080)) &&& 1023) + 56320).toUInt32.toUInt16.toUInt32.toInt32) >>> ((8 : Int32) &&& 31)).toInt8.toInt32), .int (((p6.toUInt32.toUInt16.toUInt32.toInt32) >>> ((0 : Int32) &&& 31)).toInt8.toInt32), .int (((p6.toUInt32.toUInt16.toUInt32.toInt32) >>> ((8 : Int32) &&& 31)).toInt8.toInt32)])) := by
  refine Mt.go PN1 (Or.inl rfl) ef_R_1 fun k => ?_
  have nz := k.n0le
  have z1 := k.sz
  obtain ⟨b1, h1, g1, K1, O1, k⟩ := k.new (w_5 hw) (nw_String hw) D1_0 (by decide) dvL_String
  replace k := k |>.dup D1_3 rfl |>.aloadN D1_4 rfl rfl |>.getS (fl_8 hw) pr1 D1_5
  have s_b1 := Nat.le_trans z1 g1
  have n_b1 := Nat.le_trans nz s_b1
  have o3 := pr2.keep K1 nin0
  have z2 := k.sz
  obtain ⟨h2, K2, ⟨b1_7_2_2, f2_0, f2_1, f2_2⟩, k⟩ := (k.callI (w_10 hw) (I2 hw) (R_String__init__55 hw pr16 o3 pr3 pr4 pr5 pr6 pr7 pr8 pr9 pr10 pr11 pr12 pr13 pr14 O1 n_b1 pr15 pr17 pr18 pr19 pr20 pr21 pr22) D1_8 1 rfl).k0 (allS n_b1 all0)
  have s_b1_7_2_2 := Nat.le_trans z2 f2_0
  exact k.retA D1_11 rfl ⟨_, rfl, (K1.trans K2 (allS (Or.inr s_b1) all0)), b1, b1_7_2_2, rfl, s_b1, s_b1_7_2_2, (nlt' O1.lt f2_0), f2_1, f2_2⟩
theorem own_d102 {p1 v0 v1 v2 : Int32} (e0 : v0 = (p1 &&& 2147483647)) (e1 : v1 = (v0 % 1048576)) (e2 : v2 = (65536 + v1)) : ¬ (v2 < 65536) := by
  have : (65536 : Int32).toInt = 65536 := by decide
  have := rng32 p1
  have : (2147483647 : Int32).toInt = 2147483647 := by decide
  have := e_mask e0 31 2147483648
  have : (1048576 : Int32).toInt = 1048576 := by decide
  have := e_iremN e1 1048576 (by omega)
  have := e_iaddN e2 (by omega)
  exact o_nlt (by omega)
theorem D0_218 : Dc code 218 (.iload 8) 2 220 := ⟨at_218, rfl⟩
theorem D0_220 : Dc code 220 (.ldc 10) 2 222 := ⟨at_220, rfl⟩
theorem D0_222 : Dc code 222 .isub 1 223 := ⟨at_222, rfl⟩
theorem D0_223 : Dc code 223 (.istore 12) 2 225 := ⟨at_223, rfl⟩
theorem sto12 {x0 x1 x2 x3 x4 x5 x6 x7 x8 x9 x10 x11 x : Slot} {t : List Slot} {v : Value} (hx : okS x = true := by rfl) (hv : v.category = 1 := by rfl) : storeLocals (List.toArray (x0 :: x1 :: x2 :: x3 :: x4 :: x5 :: x6 :: x7 :: x8 :: x9 :: x10 :: x11 :: x :: t)) 12 v = some (List.toArray (x0 :: x1 :: x2 :: x3 :: x4 :: x5 :: x6 :: x7 :: x8 :: x9 :: x10 :: x11 :: .val v :: t)) := stoA (A := [x0, x1, x2, x3, x4, x5, x6, x7, x8, x9, x10, x11]) hx hv
theorem D0_225 : Dc code 225 (.aload 10) 2 227 := ⟨at_225, rfl⟩
theorem D0_227 : Dc code 227 (.invokevirtual 24) 3 230 := ⟨at_227, rfl⟩
theorem R_String_length_4 {a1 a2 : Addr} {p3 p4 p5 p6 p7 p8 w_CS : Int32} (hw : HW a0 Z) (pr1 : Obj Z h0 a1 L_String [.ref a2, .int 1]) (pr2 : Ary Z h0 a2 ATB 6 (lv [.int p3, .int p4, .int p5, .int p6, .int p7, .int p8])) (pr3 : ¬ (w_CS = 0)) (pr4 : TS_CS Z w_CS) : Mt false [] l Y18 C18 (rmk 1 0 0 13) #[.ref a1] Z a0 h0 n0 (Pv h0 (.int 3)) := by
  refine Mt.go PN18 (Or.inl rfl) ef_R_1 fun k => ?_
  replace k := k |>.aloadN D18_0 rfl rfl |>.getF (fl_31 hw) pr1 0 D18_1 rfl rfl |>.alen pr2 D18_4 (z := 6) (by decide) |>.aloadN D18_5 rfl rfl
  replace k := (k.callV (w_72 hw) (V_Y19_19_String hw) pr1.exa (R_String_coder_1 hw pr4 pr3 pr1) D18_6 1 rfl).pv
  replace k := k |>.ishr D18_9 (z := 3) (by decide)
  exact k.retI D18_10 rfl ⟨rfl, rfl⟩
theorem D0_230 : Dc code 230 (.iconst 2) 1 231 := ⟨at_230, rfl⟩
theorem D0_231 : Dc code 231 (.iload 11) 2 233 := ⟨at_231, rfl⟩
theorem D0_233 : Dc code 233 .iadd 1 234 := ⟨at_233, rfl⟩
theorem D0_234 : Dj code 234 (.if_icmp .ne 58) 58 237 292 := ⟨at_234, rfl, by decide, by decide⟩
theorem D0_237 : Dc code 237 (.aload 10) 2 239 := ⟨at_237, rfl⟩
theorem D0_239 : Dc code 239 (.iconst 0) 1 240 := ⟨at_239, rfl⟩
theorem D0_240 : Dc code 240 (.invokevirtual 28) 3 243 := ⟨at_240, rfl⟩
theorem R_StringUTF16_length_7 {a1 : Addr} {p2 p3 p4 p5 p6 p7 : Int32} (hw : HW a0 Z) (pr1 : Ary Z h0 a1 ATB 6 (lv [.int p2, .int p3, .int p4, .int p5, .int p6, .int p7])) : Mt false [] l Y12 C12 (rmk 0 0 0 0) #[.ref a1] Z a0 h0 n0 (Pv h0 (.int 3)) := by
  refine Mt.go PN12 (Or.inl rfl) ef_R_1 fun k => ?_
  replace k := k |>.aloadN D12_0 rfl rfl |>.alen pr1 D12_1 (z := 6) (by decide) |>.iconst D12_2 1 |>.ishr D12_3 (z := 3) (by decide)
  exact k.retI D12_4 rfl ⟨rfl, rfl⟩
theorem ef_IIV_3_0_3 {x2 : Value} (r2 : x2.isRef = true) (m : MethodId) : entryFrame m #[(.int 0), (.int 3), x2] 3 = mkF m 0 #[.val (.int 0), .val (.int 3), .val x2] [] := by
  rcases ref_cases r2 with rfl | ⟨_, rfl⟩
  all_goals
  first | (simp [entryFrame, mkF, argsToLocals, Value.category]; done) | rfl
theorem R_Preconditions_checkIndex_3 {w_SF : Value} (hw : HW a0 Z) (pr1 : w_SF.isRef = true) : Mt false [] l Y25 C25 (rmk 0 0 0 0) #[.int 0, .int 3, w_SF] Z a0 h0 n0 (Pv h0 (.int 0)) := by
  refine Mt.go PN25 (Or.inl rfl) (ef_IIV_3_0_3 pr1) fun k => ?_
  replace k := k |>.iloadN D25_0 rfl |>.ifNo D25_1 (by decide) |>.iloadN D25_4 rfl |>.iloadN D25_5 rfl |>.icmpYes D25_6 (by decide) |>.iloadN D25_16 rfl
  exact k.retI D25_17 rfl ⟨rfl, rfl⟩
theorem ef_II_2_0_3   (m : MethodId) : entryFrame m #[(.int 0), (.int 3)] 2 = mkF m 0 #[.val (.int 0), .val (.int 3)] [] := by
  first | (simp [entryFrame, mkF, argsToLocals, Value.category]; done) | rfl
theorem R_String_checkIndex_3 {w_SF : Value} (hw : HW a0 Z) (pr1 : w_SF.isRef = true) (pr2 : TS_SF Z w_SF) : Mt false [] l Y24 C24 (rmk 1 0 0 14) #[.int 0, .int 3] Z a0 h0 n0 (P0 h0) := by
  refine Mt.go PN24 (Or.inl rfl) ef_II_2_0_3 fun k => ?_
  replace k := k |>.iloadN D24_0 rfl |>.iloadN D24_1 rfl |>.getS (fl_94 hw) pr2 D24_2
  replace k := (k.callS (w_96 hw) (S25 hw) (R_Preconditions_checkIndex_3 hw pr1) D24_5 0 rfl).pv
  replace k := k |>.pop D24_8 rfl
  exact k.ret0 D24_9 rfl ⟨rfl, rfl⟩
theorem R_StringUTF16_checkIndex_5 {a1 : Addr} {p2 p3 p4 p5 p6 p7 : Int32} {w_SF : Value} (hw : HW a0 Z) (pr1 : Ary Z h0 a1 ATB 6 (lv [.int p2, .int p3, .int p4, .int p5, .int p6, .int p7])) (pr2 : w_SF.isRef = true) (pr3 : TS_SF Z w_SF) : Mt false [] l Y23 C23 (rmk 2 0 0 27) #[.int 0, .ref a1] Z a0 h0 n0 (P0 h0) := by
  refine Mt.go PN23 (Or.inl rfl) ef_IR_2_0 fun k => ?_
  replace k := k |>.iloadN D23_0 rfl |>.aloadN D23_1 rfl rfl
  replace k := (k.callS (w_117 hw) (S12 hw) (R_StringUTF16_length_7 hw pr1) D23_2 1 rfl).pv
  replace k := (k.callS (w_173 hw) (S24 hw) (R_String_checkIndex_3 hw pr2 pr3) D23_5 0 rfl).p0
  exact k.ret0 D23_8 rfl ⟨rfl, rfl⟩
theorem R_StringUTF16_getChar_5 {a1 : Addr} {p2 p3 p4 p5 p6 p7 : Int32} (hw : HW a0 Z) (pr1 : TS_AD Z) (pr2 : Ary Z h0 a1 ATB 6 (lv [.int p2, .int p3, .int p4, .int p5, .int p6, .int p7])) (pr3 : TS_HI Z) (pr4 : TS_LO Z) : Mt false [] l Y26 C26 (rmk 0 0 0 0) #[.ref a1, .int 0] Z a0 h0 n0 (Pv h0 (.int ((((p2 &&& 255) <<< ((0 : Int32) &&& 31)) ||| ((p3 &&& 255) <<< ((8 : Int32) &&& 31))).toUInt32.toUInt16.toUInt32.toInt32))) := by
  refine Mt.go PN26 (Or.inl rfl) ef_RI_2_0 fun k => ?_
  replace k := k |>.getS (fl_149 hw) pr1 D26_0 |>.ifYes D26_3 (by decide) |>.iloadN D26_28 rfl |>.iconst D26_29 1 |>.ishl D26_30 (z := 0) (by decide) |>.istoreN D26_31 sto1 |>.aloadN D26_32 rfl rfl |>.iloadN D26_33 rfl |>.iinc D26_34 rfl (z := 1) (by decide) sto1 |>.bald pr2 D26_37 (i := 0) (by decide) lvg0 |>.sipush D26_38 255 |>.iand D26_41 rfl
  replace k := k |>.getS (fl_150 hw) pr3 D26_42 |>.ishl D26_45 rfl |>.aloadN D26_46 rfl rfl |>.iloadN D26_47 rfl |>.bald pr2 D26_48 (i := 1) (by decide) lvg1 |>.sipush D26_49 255 |>.iand D26_52 rfl |>.getS (fl_151 hw) pr4 D26_53 |>.ishl D26_56 rfl |>.ior D26_57 rfl |>.i2c D26_58 rfl
  exact k.retN (t := .char) D26_59 rfl (by simp) (own_nnCi2c _) ⟨rfl, rfl⟩
theorem R_StringUTF16_charAt_5 {a1 : Addr} {p2 p3 p4 p5 p6 p7 : Int32} {w_SF : Value} (hw : HW a0 Z) (pr1 : Ary Z h0 a1 ATB 6 (lv [.int p2, .int p3, .int p4, .int p5, .int p6, .int p7])) (pr2 : w_SF.isRef = true) (pr3 : TS_SF Z w_SF) (pr4 : TS_AD Z) (pr5 : TS_HI Z) (pr6 : TS_LO Z) : Mt false [] l Y22 C22 (rmk 3 0 0 40) #[.ref a1, .int 0] Z a0 h0 n0 (Pv h0 (.int ((((p2 &&& 255) <<< ((0 : Int32) &&& 31)) ||| ((p3 &&& 255) <<< ((8 : Int32) &&& 31))).toUInt32.toUInt16.toUInt32.toInt32))) := by
  refine Mt.go PN22 (Or.inl rfl) ef_RI_2_0 fun k => ?_
  replace k := k |>.iloadN D22_0 rfl |>.aloadN D22_1 rfl rfl
  replace k := (k.callS (w_170 hw) (S23 hw) (R_StringUTF16_checkIndex_5 hw pr1 pr2 pr3) D22_2 0 rfl).p0
  replace k := k |>.aloadN D22_5 rfl rfl |>.iloadN D22_6 rfl
  replace k := (k.callS (w_174 hw) (S26 hw) (R_StringUTF16_getChar_5 hw pr4 pr1 pr5 pr6) D22_7 0 rfl).pv
  exact k.retN (t := .char) D22_10 rfl (by simp) (own_nnCi2c _) ⟨rfl, rfl⟩
theorem R_String_charAt_7 {a1 a2 : Addr} {w_CS p3 p4 p5 p6 p7 p8 : Int32} {w_SF : Value} (hw : HW a0 Z) (pr1 : Obj Z h0 a1 L_String [.ref a2, .int 1]) (pr2 : ¬ (w_CS = 0)) (pr3 : TS_CS Z w_CS) (pr4 : Ary Z h0 a2 ATB 6 (lv [.int p3, .int p4, .int p5, .int p6, .int p7, .int p8])) (pr5 : w_SF.isRef = true) (pr6 : TS_SF Z w_SF) (pr7 : TS_AD Z) (pr8 : TS_HI Z) (pr9 : TS_LO Z) : Mt false [] l Y20 C20 (rmk 4 0 0 53) #[.ref a1, .int 0] Z a0 h0 n0 (Pv h0 (.int ((((p3 &&& 255) <<< ((0 : Int32) &&& 31)) ||| ((p4 &&& 255) <<< ((8 : Int32) &&& 31))).toUInt32.toUInt16.toUInt32.toInt32))) := by
  refine Mt.go PN20 (Or.inl rfl) ef_RI_2_0 fun k => ?_
  replace k := k |>.aloadN D20_0 rfl rfl
  replace k := (k.callV (w_82 hw) (V_Y21_21_String hw) pr1.exa (R_String_isLatin1_1 hw pr3 pr2 pr1) D20_1 0 rfl).pv
  replace k := k |>.ifYes D20_4 (by decide) |>.aloadN D20_16 rfl rfl |>.getF (fl_31 hw) pr1 0 D20_17 rfl rfl |>.iloadN D20_20 rfl
  replace k := (k.callS (w_167 hw) (S22 hw) (R_StringUTF16_charAt_5 hw pr4 pr5 pr6 pr7 pr8 pr9) D20_21 0 rfl).pv
  exact k.retN (t := .char) D20_24 rfl (by simp) (own_nnCi2c _) ⟨rfl, rfl⟩
theorem D0_243 : Dc code 243 (.ldc 8) 2 245 := ⟨at_243, rfl⟩
theorem D0_245 : Dc code 245 (.iload 12) 2 247 := ⟨at_245, rfl⟩
theorem D0_247 : Dc code 247 (.bipush 10) 2 249 := ⟨at_247, rfl⟩
theorem D0_249 : Dc code 249 .ishr 1 250 := ⟨at_249, rfl⟩
theorem D0_250 : Dc code 250 .iadd 1 251 := ⟨at_250, rfl⟩
theorem D0_251 : Dj code 251 (.if_icmp .ne 41) 41 254 292 := ⟨at_251, rfl, by decide, by decide⟩
theorem own_d103 {p1 v0 v1 v2 v3 v4 v5 v6 v7 v8 v9 v10 v11 v12 v13 v14 v15 v16 : Int32} (e0 : v0 = (p1 &&& 2147483647)) (e1 : v1 = (v0 % 1048576)) (e2 : v2 = (65536 + v1)) (e3 : v3 = (v2 >>> ((18 : Int32) &&& 31))) (e4 : v4 = (v2 >>> ((12 : Int32) &&& 31))) (e5 : v5 = (v4 &&& 63)) (e6 : v6 = (v2 >>> ((6 : Int32) &&& 31))) (e7 : v7 = (v6 &&& 63)) (e8 : v8 = (v2 &&& 63)) (e9 : v9 = (((((240 ||| v3).toInt8.toInt32 <<< ((18 : Int32) &&& 31)) ^^^ ((128 ||| v5).toInt8.toInt32 <<< ((12 : Int32) &&& 31))) ^^^ ((128 ||| v7).toInt8.toInt32 <<< ((6 : Int32) &&& 31))) ^^^ ((128 ||| v8).toInt8.toInt32 ^^^ 3678080))) (e10 : v10 = ((v9.toUInt32 >>> ((10 : Int32) &&& 31).toUInt32).toInt32)) (e11 : v11 = (v10 + 55232)) (e12 : v12 = (v11.toUInt32.toUInt16.toUInt32.toInt32)) (e13 : v13 = (((((v12 >>> ((0 : Int32) &&& 31)).toInt8.toInt32) &&& 255) <<< ((0 : Int32) &&& 31)) ||| ((((v12 >>> ((8 : Int32) &&& 31)).toInt8.toInt32) &&& 255) <<< ((8 : Int32) &&& 31))).toUInt32.toUInt16.toUInt32.toInt32) (e14 : v14 = (v2 - 65536)) (e15 : v15 = (v14 >>> ((10 : Int32) &&& 31))) (e16 : v16 = (55296 + v15)) : v13 = v16 := by
  have : (65536 : Int32).toInt = 65536 := by decide
  have := rng32 p1
  have : (2147483647 : Int32).toInt = 2147483647 := by decide
  have := e_mask e0 31 2147483648
  have : (1048576 : Int32).toInt = 1048576 := by decide
  have := e_iremN e1 1048576 (by omega)
  have := e_iaddN e2 (by omega)
  have : (18 : Int32).toInt = 18 := by decide
  have := e_ishr e3 18 262144
  have : (12 : Int32).toInt = 12 := by decide
  have := e_ishr e4 12 4096
  have : (63 : Int32).toInt = 63 := by decide
  have := e_mask e5 6 64
  have : (6 : Int32).toInt = 6 := by decide
  have := e_ishr e6 6 64
  have := e_mask e7 6 64
  have := e_mask e8 6 64
  have := e_dec4 e9 (by omega) (by omega) (by omega) (by omega) (by omega) (by omega) (by omega) (by omega)
  have : (10 : Int32).toInt = 10 := by decide
  have := e_iushr e10 10 1024
  have : (55232 : Int32).toInt = 55232 := by decide
  have := e_iaddN e11 (by omega)
  have := e_i2cN e12 (by omega)
  have := e_gc e13 (by omega) (by omega)
  have : (55296 : Int32).toInt = 55296 := by decide
  have := e_isubN e14 (by omega)
  have := e_ishr e15 10 1024
  have := e_iaddN e16 (by omega)
  exact o_eq (by omega)
theorem D0_254 : Dc code 254 (.aload 10) 2 256 := ⟨at_254, rfl⟩
theorem D0_256 : Dc code 256 (.iconst 1) 1 257 := ⟨at_256, rfl⟩
theorem D0_257 : Dc code 257 (.invokevirtual 28) 3 260 := ⟨at_257, rfl⟩
theorem ef_IIV_3_1_3 {x2 : Value} (r2 : x2.isRef = true) (m : MethodId) : entryFrame m #[(.int 1), (.int 3), x2] 3 = mkF m 0 #[.val (.int 1), .val (.int 3), .val x2] [] := by
  rcases ref_cases r2 with rfl | ⟨_, rfl⟩
  all_goals
  first | (simp [entryFrame, mkF, argsToLocals, Value.category]; done) | rfl
theorem R_Preconditions_checkIndex_4 {w_SF : Value} (hw : HW a0 Z) (pr1 : w_SF.isRef = true) : Mt false [] l Y25 C25 (rmk 0 0 0 0) #[.int 1, .int 3, w_SF] Z a0 h0 n0 (Pv h0 (.int 1)) := by
  refine Mt.go PN25 (Or.inl rfl) (ef_IIV_3_1_3 pr1) fun k => ?_
  replace k := k |>.iloadN D25_0 rfl |>.ifNo D25_1 (by decide) |>.iloadN D25_4 rfl |>.iloadN D25_5 rfl |>.icmpYes D25_6 (by decide) |>.iloadN D25_16 rfl
  exact k.retI D25_17 rfl ⟨rfl, rfl⟩
theorem ef_II_2_1_3   (m : MethodId) : entryFrame m #[(.int 1), (.int 3)] 2 = mkF m 0 #[.val (.int 1), .val (.int 3)] [] := by
  first | (simp [entryFrame, mkF, argsToLocals, Value.category]; done) | rfl
theorem R_String_checkIndex_4 {w_SF : Value} (hw : HW a0 Z) (pr1 : w_SF.isRef = true) (pr2 : TS_SF Z w_SF) : Mt false [] l Y24 C24 (rmk 1 0 0 14) #[.int 1, .int 3] Z a0 h0 n0 (P0 h0) := by
  refine Mt.go PN24 (Or.inl rfl) ef_II_2_1_3 fun k => ?_
  replace k := k |>.iloadN D24_0 rfl |>.iloadN D24_1 rfl |>.getS (fl_94 hw) pr2 D24_2
  replace k := (k.callS (w_96 hw) (S25 hw) (R_Preconditions_checkIndex_4 hw pr1) D24_5 0 rfl).pv
  replace k := k |>.pop D24_8 rfl
  exact k.ret0 D24_9 rfl ⟨rfl, rfl⟩
theorem R_StringUTF16_checkIndex_6 {a1 : Addr} {p2 p3 p4 p5 p6 p7 : Int32} {w_SF : Value} (hw : HW a0 Z) (pr1 : Ary Z h0 a1 ATB 6 (lv [.int p2, .int p3, .int p4, .int p5, .int p6, .int p7])) (pr2 : w_SF.isRef = true) (pr3 : TS_SF Z w_SF) : Mt false [] l Y23 C23 (rmk 2 0 0 27) #[.int 1, .ref a1] Z a0 h0 n0 (P0 h0) := by
  refine Mt.go PN23 (Or.inl rfl) ef_IR_2_1 fun k => ?_
  replace k := k |>.iloadN D23_0 rfl |>.aloadN D23_1 rfl rfl
  replace k := (k.callS (w_117 hw) (S12 hw) (R_StringUTF16_length_7 hw pr1) D23_2 1 rfl).pv
  replace k := (k.callS (w_173 hw) (S24 hw) (R_String_checkIndex_4 hw pr2 pr3) D23_5 0 rfl).p0
  exact k.ret0 D23_8 rfl ⟨rfl, rfl⟩
theorem R_StringUTF16_getChar_6 {a1 : Addr} {p2 p3 p4 p5 p6 p7 : Int32} (hw : HW a0 Z) (pr1 : TS_AD Z) (pr2 : Ary Z h0 a1 ATB 6 (lv [.int p2, .int p3, .int p4, .int p5, .int p6, .int p7])) (pr3 : TS_HI Z) (pr4 : TS_LO Z) : Mt false [] l Y26 C26 (rmk 0 0 0 0) #[.ref a1, .int 1] Z a0 h0 n0 (Pv h0 (.int ((((p4 &&& 255) <<< ((0 : Int32) &&& 31)) ||| ((p5 &&& 255) <<< ((8 : Int32) &&& 31))).toUInt32.toUInt16.toUInt32.toInt32))) := by
  refine Mt.go PN26 (Or.inl rfl) ef_RI_2_1 fun k => ?_
  replace k := k |>.getS (fl_149 hw) pr1 D26_0 |>.ifYes D26_3 (by decide) |>.iloadN D26_28 rfl |>.iconst D26_29 1 |>.ishl D26_30 (z := 2) (by decide) |>.istoreN D26_31 sto1 |>.aloadN D26_32 rfl rfl |>.iloadN D26_33 rfl |>.iinc D26_34 rfl (z := 3) (by decide) sto1 |>.bald pr2 D26_37 (i := 2) (by decide) lvg2 |>.sipush D26_38 255 |>.iand D26_41 rfl
  replace k := k |>.getS (fl_150 hw) pr3 D26_42 |>.ishl D26_45 rfl |>.aloadN D26_46 rfl rfl |>.iloadN D26_47 rfl |>.bald pr2 D26_48 (i := 3) (by decide) lvg3 |>.sipush D26_49 255 |>.iand D26_52 rfl |>.getS (fl_151 hw) pr4 D26_53 |>.ishl D26_56 rfl |>.ior D26_57 rfl |>.i2c D26_58 rfl
  exact k.retN (t := .char) D26_59 rfl (by simp) (own_nnCi2c _) ⟨rfl, rfl⟩
theorem R_StringUTF16_charAt_6 {a1 : Addr} {p2 p3 p4 p5 p6 p7 : Int32} {w_SF : Value} (hw : HW a0 Z) (pr1 : Ary Z h0 a1 ATB 6 (lv [.int p2, .int p3, .int p4, .int p5, .int p6, .int p7])) (pr2 : w_SF.isRef = true) (pr3 : TS_SF Z w_SF) (pr4 : TS_AD Z) (pr5 : TS_HI Z) (pr6 : TS_LO Z) : Mt false [] l Y22 C22 (rmk 3 0 0 40) #[.ref a1, .int 1] Z a0 h0 n0 (Pv h0 (.int ((((p4 &&& 255) <<< ((0 : Int32) &&& 31)) ||| ((p5 &&& 255) <<< ((8 : Int32) &&& 31))).toUInt32.toUInt16.toUInt32.toInt32))) := by
  refine Mt.go PN22 (Or.inl rfl) ef_RI_2_1 fun k => ?_
  replace k := k |>.iloadN D22_0 rfl |>.aloadN D22_1 rfl rfl
  replace k := (k.callS (w_170 hw) (S23 hw) (R_StringUTF16_checkIndex_6 hw pr1 pr2 pr3) D22_2 0 rfl).p0
  replace k := k |>.aloadN D22_5 rfl rfl |>.iloadN D22_6 rfl
  replace k := (k.callS (w_174 hw) (S26 hw) (R_StringUTF16_getChar_6 hw pr4 pr1 pr5 pr6) D22_7 0 rfl).pv
  exact k.retN (t := .char) D22_10 rfl (by simp) (own_nnCi2c _) ⟨rfl, rfl⟩
theorem R_String_charAt_8 {a1 a2 : Addr} {w_CS p3 p4 p5 p6 p7 p8 : Int32} {w_SF : Value} (hw : HW a0 Z) (pr1 : Obj Z h0 a1 L_String [.ref a2, .int 1]) (pr2 : ¬ (w_CS = 0)) (pr3 : TS_CS Z w_CS) (pr4 : Ary Z h0 a2 ATB 6 (lv [.int p3, .int p4, .int p5, .int p6, .int p7, .int p8])) (pr5 : w_SF.isRef = true) (pr6 : TS_SF Z w_SF) (pr7 : TS_AD Z) (pr8 : TS_HI Z) (pr9 : TS_LO Z) : Mt false [] l Y20 C20 (rmk 4 0 0 53) #[.ref a1, .int 1] Z a0 h0 n0 (Pv h0 (.int ((((p5 &&& 255) <<< ((0 : Int32) &&& 31)) ||| ((p6 &&& 255) <<< ((8 : Int32) &&& 31))).toUInt32.toUInt16.toUInt32.toInt32))) := by
  refine Mt.go PN20 (Or.inl rfl) ef_RI_2_1 fun k => ?_
  replace k := k |>.aloadN D20_0 rfl rfl
  replace k := (k.callV (w_82 hw) (V_Y21_21_String hw) pr1.exa (R_String_isLatin1_1 hw pr3 pr2 pr1) D20_1 0 rfl).pv
  replace k := k |>.ifYes D20_4 (by decide) |>.aloadN D20_16 rfl rfl |>.getF (fl_31 hw) pr1 0 D20_17 rfl rfl |>.iloadN D20_20 rfl
  replace k := (k.callS (w_167 hw) (S22 hw) (R_StringUTF16_charAt_6 hw pr4 pr5 pr6 pr7 pr8 pr9) D20_21 0 rfl).pv
  exact k.retN (t := .char) D20_24 rfl (by simp) (own_nnCi2c _) ⟨rfl, rfl⟩
theorem D0_260 : Dc code 260 (.ldc 44) 2 262 := ⟨at_260, rfl⟩
abbrev w_178 (hw : HW a0 Z) := hw _ (List.mem_of_getElem? (i := 178) rfl)
theorem D0_262 : Dc code 262 (.iload 12) 2 264 := ⟨at_262, rfl⟩
theorem D0_264 : Dc code 264 (.sipush 1023) 3 267 := ⟨at_264, rfl⟩
theorem D0_267 : Dc code 267 .iand 1 268 := ⟨at_267, rfl⟩
theorem D0_268 : Dc code 268 .iadd 1 269 := ⟨at_268, rfl⟩
theorem D0_269 : Dj code 269 (.if_icmp .ne 23) 23 272 292 := ⟨at_269, rfl, by decide, by decide⟩
theorem own_d104 {p1 v0 v1 v2 v3 v4 v5 v6 v7 v8 v9 v10 v11 v12 v13 v14 v15 v16 : Int32} (e0 : v0 = (p1 &&& 2147483647)) (e1 : v1 = (v0 % 1048576)) (e2 : v2 = (65536 + v1)) (e3 : v3 = (v2 >>> ((18 : Int32) &&& 31))) (e4 : v4 = (v2 >>> ((12 : Int32) &&& 31))) (e5 : v5 = (v4 &&& 63)) (e6 : v6 = (v2 >>> ((6 : Int32) &&& 31))) (e7 : v7 = (v6 &&& 63)) (e8 : v8 = (v2 &&& 63)) (e9 : v9 = (((((240 ||| v3).toInt8.toInt32 <<< ((18 : Int32) &&& 31)) ^^^ ((128 ||| v5).toInt8.toInt32 <<< ((12 : Int32) &&& 31))) ^^^ ((128 ||| v7).toInt8.toInt32 <<< ((6 : Int32) &&& 31))) ^^^ ((128 ||| v8).toInt8.toInt32 ^^^ 3678080))) (e10 : v10 = (v9 &&& 1023)) (e11 : v11 = (v10 + 56320)) (e12 : v12 = (v11.toUInt32.toUInt16.toUInt32.toInt32)) (e13 : v13 = (((((v12 >>> ((0 : Int32) &&& 31)).toInt8.toInt32) &&& 255) <<< ((0 : Int32) &&& 31)) ||| ((((v12 >>> ((8 : Int32) &&& 31)).toInt8.toInt32) &&& 255) <<< ((8 : Int32) &&& 31))).toUInt32.toUInt16.toUInt32.toInt32) (e14 : v14 = (v2 - 65536)) (e15 : v15 = (v14 &&& 1023)) (e16 : v16 = (56320 + v15)) : v13 = v16 := by
  have : (65536 : Int32).toInt = 65536 := by decide
  have := rng32 p1
  have : (2147483647 : Int32).toInt = 2147483647 := by decide
  have := e_mask e0 31 2147483648
  have : (1048576 : Int32).toInt = 1048576 := by decide
  have := e_iremN e1 1048576 (by omega)
  have := e_iaddN e2 (by omega)
  have : (18 : Int32).toInt = 18 := by decide
  have := e_ishr e3 18 262144
  have : (12 : Int32).toInt = 12 := by decide
  have := e_ishr e4 12 4096
  have : (63 : Int32).toInt = 63 := by decide
  have := e_mask e5 6 64
  have : (6 : Int32).toInt = 6 := by decide
  have := e_ishr e6 6 64
  have := e_mask e7 6 64
  have := e_mask e8 6 64
  have := e_dec4 e9 (by omega) (by omega) (by omega) (by omega) (by omega) (by omega) (by omega) (by omega)
  have : (1023 : Int32).toInt = 1023 := by decide
  have := e_mask e10 10 1024
  have : (56320 : Int32).toInt = 56320 := by decide
  have := e_iaddN e11 (by omega)
  have := e_i2cN e12 (by omega)
  have := e_gc e13 (by omega) (by omega)
  have := e_isubN e14 (by omega)
  have := e_mask e15 10 1024
  have := e_iaddN e16 (by omega)
  exact o_eq (by omega)
theorem D0_272 : Dc code 272 (.iload 5) 2 274 := ⟨at_272, rfl⟩
theorem D0_274 : Dj code 274 (.ifCond .eq 14) 14 277 288 := ⟨at_274, rfl, by decide, by decide⟩
theorem D0_277 : Dc code 277 (.aload 10) 2 279 := ⟨at_277, rfl⟩
theorem D0_279 : Dc code 279 (.iconst 2) 1 280 := ⟨at_279, rfl⟩
theorem D0_280 : Dc code 280 (.invokevirtual 28) 3 283 := ⟨at_280, rfl⟩
theorem ef_IIV_3_2_3 {x2 : Value} (r2 : x2.isRef = true) (m : MethodId) : entryFrame m #[(.int 2), (.int 3), x2] 3 = mkF m 0 #[.val (.int 2), .val (.int 3), .val x2] [] := by
  rcases ref_cases r2 with rfl | ⟨_, rfl⟩
  all_goals
  first | (simp [entryFrame, mkF, argsToLocals, Value.category]; done) | rfl
theorem R_Preconditions_checkIndex_5 {w_SF : Value} (hw : HW a0 Z) (pr1 : w_SF.isRef = true) : Mt false [] l Y25 C25 (rmk 0 0 0 0) #[.int 2, .int 3, w_SF] Z a0 h0 n0 (Pv h0 (.int 2)) := by
  refine Mt.go PN25 (Or.inl rfl) (ef_IIV_3_2_3 pr1) fun k => ?_
  replace k := k |>.iloadN D25_0 rfl |>.ifNo D25_1 (by decide) |>.iloadN D25_4 rfl |>.iloadN D25_5 rfl |>.icmpYes D25_6 (by decide) |>.iloadN D25_16 rfl
  exact k.retI D25_17 rfl ⟨rfl, rfl⟩
theorem ef_II_2_2_3   (m : MethodId) : entryFrame m #[(.int 2), (.int 3)] 2 = mkF m 0 #[.val (.int 2), .val (.int 3)] [] := by
  first | (simp [entryFrame, mkF, argsToLocals, Value.category]; done) | rfl
theorem R_String_checkIndex_5 {w_SF : Value} (hw : HW a0 Z) (pr1 : w_SF.isRef = true) (pr2 : TS_SF Z w_SF) : Mt false [] l Y24 C24 (rmk 1 0 0 14) #[.int 2, .int 3] Z a0 h0 n0 (P0 h0) := by
  refine Mt.go PN24 (Or.inl rfl) ef_II_2_2_3 fun k => ?_
  replace k := k |>.iloadN D24_0 rfl |>.iloadN D24_1 rfl |>.getS (fl_94 hw) pr2 D24_2
  replace k := (k.callS (w_96 hw) (S25 hw) (R_Preconditions_checkIndex_5 hw pr1) D24_5 0 rfl).pv
  replace k := k |>.pop D24_8 rfl
  exact k.ret0 D24_9 rfl ⟨rfl, rfl⟩
theorem ef_IR_2_2 {x1 : Addr}  (m : MethodId) : entryFrame m #[(.int 2), (.ref x1)] 2 = mkF m 0 #[.val (.int 2), .val (.ref x1)] [] := by
  first | (simp [entryFrame, mkF, argsToLocals, Value.category]; done) | rfl
theorem R_StringUTF16_checkIndex_7 {a1 : Addr} {p2 p3 p4 p5 p6 p7 : Int32} {w_SF : Value} (hw : HW a0 Z) (pr1 : Ary Z h0 a1 ATB 6 (lv [.int p2, .int p3, .int p4, .int p5, .int p6, .int p7])) (pr2 : w_SF.isRef = true) (pr3 : TS_SF Z w_SF) : Mt false [] l Y23 C23 (rmk 2 0 0 27) #[.int 2, .ref a1] Z a0 h0 n0 (P0 h0) := by
  refine Mt.go PN23 (Or.inl rfl) ef_IR_2_2 fun k => ?_
  replace k := k |>.iloadN D23_0 rfl |>.aloadN D23_1 rfl rfl
  replace k := (k.callS (w_117 hw) (S12 hw) (R_StringUTF16_length_7 hw pr1) D23_2 1 rfl).pv
  replace k := (k.callS (w_173 hw) (S24 hw) (R_String_checkIndex_5 hw pr2 pr3) D23_5 0 rfl).p0
  exact k.ret0 D23_8 rfl ⟨rfl, rfl⟩
theorem lvg5 {x0 x1 x2 x3 x4 x : Value} {t : List Value} : lv (x0 :: x1 :: x2 :: x3 :: x4 :: x :: t) 5 = x := rfl
theorem ef_RI_2_2 {x0 : Addr}  (m : MethodId) : entryFrame m #[(.ref x0), (.int 2)] 2 = mkF m 0 #[.val (.ref x0), .val (.int 2)] [] := by
  first | (simp [entryFrame, mkF, argsToLocals, Value.category]; done) | rfl
theorem R_StringUTF16_getChar_7 {a1 : Addr} {p2 p3 p4 p5 p6 p7 : Int32} (hw : HW a0 Z) (pr1 : TS_AD Z) (pr2 : Ary Z h0 a1 ATB 6 (lv [.int p2, .int p3, .int p4, .int p5, .int p6, .int p7])) (pr3 : TS_HI Z) (pr4 : TS_LO Z) : Mt false [] l Y26 C26 (rmk 0 0 0 0) #[.ref a1, .int 2] Z a0 h0 n0 (Pv h0 (.int ((((p6 &&& 255) <<< ((0 : Int32) &&& 31)) ||| ((p7 &&& 255) <<< ((8 : Int32) &&& 31))).toUInt32.toUInt16.toUInt32.toInt32))) := by
  refine Mt.go PN26 (Or.inl rfl) ef_RI_2_2 fun k => ?_
  replace k := k |>.getS (fl_149 hw) pr1 D26_0 |>.ifYes D26_3 (by decide) |>.iloadN D26_28 rfl |>.iconst D26_29 1 |>.ishl D26_30 (z := 4) (by decide) |>.istoreN D26_31 sto1 |>.aloadN D26_32 rfl rfl |>.iloadN D26_33 rfl |>.iinc D26_34 rfl (z := 5) (by decide) sto1 |>.bald pr2 D26_37 (i := 4) (by decide) lvg4 |>.sipush D26_38 255 |>.iand D26_41 rfl
  replace k := k |>.getS (fl_150 hw) pr3 D26_42 |>.ishl D26_45 rfl |>.aloadN D26_46 rfl rfl |>.iloadN D26_47 rfl |>.bald pr2 D26_48 (i := 5) (by decide) lvg5 |>.sipush D26_49 255 |>.iand D26_52 rfl |>.getS (fl_151 hw) pr4 D26_53 |>.ishl D26_56 rfl |>.ior D26_57 rfl |>.i2c D26_58 rfl
  exact k.retN (t := .char) D26_59 rfl (by simp) (own_nnCi2c _) ⟨rfl, rfl⟩
theorem R_StringUTF16_charAt_7 {a1 : Addr} {p2 p3 p4 p5 p6 p7 : Int32} {w_SF : Value} (hw : HW a0 Z) (pr1 : Ary Z h0 a1 ATB 6 (lv [.int p2, .int p3, .int p4, .int p5, .int p6, .int p7])) (pr2 : w_SF.isRef = true) (pr3 : TS_SF Z w_SF) (pr4 : TS_AD Z) (pr5 : TS_HI Z) (pr6 : TS_LO Z) : Mt false [] l Y22 C22 (rmk 3 0 0 40) #[.ref a1, .int 2] Z a0 h0 n0 (Pv h0 (.int ((((p6 &&& 255) <<< ((0 : Int32) &&& 31)) ||| ((p7 &&& 255) <<< ((8 : Int32) &&& 31))).toUInt32.toUInt16.toUInt32.toInt32))) := by
  refine Mt.go PN22 (Or.inl rfl) ef_RI_2_2 fun k => ?_
  replace k := k |>.iloadN D22_0 rfl |>.aloadN D22_1 rfl rfl
  replace k := (k.callS (w_170 hw) (S23 hw) (R_StringUTF16_checkIndex_7 hw pr1 pr2 pr3) D22_2 0 rfl).p0
  replace k := k |>.aloadN D22_5 rfl rfl |>.iloadN D22_6 rfl
  replace k := (k.callS (w_174 hw) (S26 hw) (R_StringUTF16_getChar_7 hw pr4 pr1 pr5 pr6) D22_7 0 rfl).pv
  exact k.retN (t := .char) D22_10 rfl (by simp) (own_nnCi2c _) ⟨rfl, rfl⟩
theorem R_String_charAt_9 {a1 a2 : Addr} {w_CS p3 p4 p5 p6 p7 p8 : Int32} {w_SF : Value} (hw : HW a0 Z) (pr1 : Obj Z h0 a1 L_String [.ref a2, .int 1]) (pr2 : ¬ (w_CS = 0)) (pr3 : TS_CS Z w_CS) (pr4 : Ary Z h0 a2 ATB 6 (lv [.int p3, .int p4, .int p5, .int p6, .int p7, .int p8])) (pr5 : w_SF.isRef = true) (pr6 : TS_SF Z w_SF) (pr7 : TS_AD Z) (pr8 : TS_HI Z) (pr9 : TS_LO Z) : Mt false [] l Y20 C20 (rmk 4 0 0 53) #[.ref a1, .int 2] Z a0 h0 n0 (Pv h0 (.int ((((p7 &&& 255) <<< ((0 : Int32) &&& 31)) ||| ((p8 &&& 255) <<< ((8 : Int32) &&& 31))).toUInt32.toUInt16.toUInt32.toInt32))) := by
  refine Mt.go PN20 (Or.inl rfl) ef_RI_2_2 fun k => ?_
  replace k := k |>.aloadN D20_0 rfl rfl
  replace k := (k.callV (w_82 hw) (V_Y21_21_String hw) pr1.exa (R_String_isLatin1_1 hw pr3 pr2 pr1) D20_1 0 rfl).pv
  replace k := k |>.ifYes D20_4 (by decide) |>.aloadN D20_16 rfl rfl |>.getF (fl_31 hw) pr1 0 D20_17 rfl rfl |>.iloadN D20_20 rfl
  replace k := (k.callS (w_167 hw) (S22 hw) (R_StringUTF16_charAt_7 hw pr4 pr5 pr6 pr7 pr8 pr9) D20_21 0 rfl).pv
  exact k.retN (t := .char) D20_24 rfl (by simp) (own_nnCi2c _) ⟨rfl, rfl⟩
theorem D0_283 : Dc code 283 (.iload 4) 2 285 := ⟨at_283, rfl⟩
theorem D0_285 : Dj code 285 (.if_icmp .ne 7) 7 288 292 := ⟨at_285, rfl, by decide, by decide⟩
theorem D0_288 : Dc code 288 (.iconst 1) 1 289 := ⟨at_288, rfl⟩
theorem D0_289 : Dj code 289 (.goto 4) 4 292 293 := ⟨at_289, rfl, by decide, by decide⟩
theorem D0_293 : Dc code 293 .ireturn 1 294 := ⟨at_293, rfl⟩
theorem D0_109 : Dc code 109 (.iconst 0) 1 110 := ⟨at_109, rfl⟩
theorem D30_30 : Dc J30 30 (.iconst 1) 1 31 := by decide +kernel
theorem D30_31 : Dc J30 31 (.newarray .byte) 2 33 := by decide +kernel
theorem D30_33 : Dc J30 33 .dup 1 34 := by decide +kernel
theorem D30_34 : Dc J30 34 (.iconst 0) 1 35 := by decide +kernel
theorem D30_35 : Dc J30 35 (.iload 5) 2 37 := by decide +kernel
theorem D30_37 : Dc J30 37 .bastore 1 38 := by decide +kernel
theorem D30_38 : Dc J30 38 .areturn 1 39 := by decide +kernel
theorem ef_IIII_9_0 {x0 : Int32} {x1 : Int32} {x3 : Int32}  (m : MethodId) : entryFrame m #[(.int x0), (.int x1), (.int 0), (.int x3)] 9 = mkF m 0 #[.val (.int x0), .val (.int x1), .val (.int 0), .val (.int x3), .unset, .unset, .unset, .unset, .unset] [] := by
  first | (simp [entryFrame, mkF, argsToLocals, Value.category]; done) | rfl
theorem R_Utf8DecodeNamePinLaw_encode_5 {p1 p2 p3 : Int32} (hw : HW a0 Z) (pr1 : p2 = 0) : Mt false [] l Y30 C30 (rmk 0 1 1 0) #[.int p1, .int p2, .int 0, .int p3] Z a0 h0 n0 (KpV h0 [] fun v h => ∃ b1 : Addr, v = (.ref b1) ∧ h0.size ≤ b1 ∧ Ary Z h b1 ATB 1 (lv [.int (p1.toInt8.toInt32)])) := by
  refine Mt.go PN30 (Or.inl rfl) ef_IIII_9_0 fun k => ?_
  have nz := k.n0le
  replace k := k |>.iloadN D30_0 rfl |>.i2b D30_1 rfl |>.istore D30_2 sto4 |>.iloadN D30_4 rfl |>.ifNo D30_5 ((if0 _ _).trans (teq pr1).2) |>.iloadN D30_8 rfl |>.i2b D30_9 rfl |>.istore D30_10 sto5 |>.iloadN D30_12 rfl |>.ifYes D30_13 (by decide) |>.iconst D30_30 1
  have z1 := k.sz
  obtain ⟨b1, h1, g1, K1, O1, k⟩ := k.newP (aty := .byte) "[B" (w_0 hw) (by decide) D30_31 1 (by decide) (n := 1) (by decide) (by decide) (by decide) (lv_const (V := [(.int 0)]) rfl)
  replace k := k |>.dup D30_33 rfl |>.iconst D30_34 0 |>.iload D30_35 rfl
  have s_b1 := Nat.le_trans z1 g1
  have n_b1 := Nat.le_trans nz s_b1
  obtain ⟨h2, K2, O2, k⟩ := k.stB O1 n_b1 (Or.inl rfl) D30_37 (i := 0) (by decide) (v := (.int (p1.toInt8.toInt32))) (congrArg Value.int (own_nnBi2b _)) (own_fitBi2b _) lvs0
  exact k.retA D30_38 rfl ⟨_, rfl, (K1.trans K2 (allS (Or.inr s_b1) all0)), b1, rfl, s_b1, O2⟩
theorem ef_RII_5_0_1 {x0 : Addr}  (m : MethodId) : entryFrame m #[(.ref x0), (.int 0), (.int 1)] 5 = mkF m 0 #[.val (.ref x0), .val (.int 0), .val (.int 1), .unset, .unset] [] := by
  first | (simp [entryFrame, mkF, argsToLocals, Value.category]; done) | rfl
theorem R_StringCoding_countPositives_6 {a1 : Addr} {p2 : Int32} (hw : HW a0 Z) (pr1 : Ary Z h0 a1 ATB 1 (lv [.int p2])) (pr2 : ¬ (p2 < 0)) : Mt false [] l Y5 C5 (rmk 0 0 0 0) #[.ref a1, .int 0, .int 1] Z a0 h0 n0 (Pv h0 (.int 1)) := by
  refine Mt.go PN5 (Or.inl rfl) ef_RII_5_0_1 fun k => ?_
  replace k := k |>.iloadN D5_0 rfl |>.iloadN D5_1 rfl |>.iadd D5_2 (z := 1) (by decide) |>.istoreN D5_3 sto3 |>.iloadN D5_4 rfl |>.istore D5_5 sto4 |>.iload D5_7 rfl |>.iloadN D5_9 rfl |>.icmpNo D5_10 (by decide) |>.aloadN D5_13 rfl rfl |>.iload D5_14 rfl |>.bald pr1 D5_16 (i := 0) (by decide) lvg0
  replace k := k |>.ifYes D5_17 ((if0 _ _).trans (flt pr2).2.1) |>.iinc D5_25 rfl (z := 1) (by decide) sto4 |>.goto D5_28 |>.iload D5_7 rfl |>.iloadN D5_9 rfl |>.icmpYes D5_10 (by decide) |>.iloadN D5_31 rfl
  exact k.retI D5_32 rfl ⟨rfl, rfl⟩
theorem ef_RII_3_0_1 {x0 : Addr}  (m : MethodId) : entryFrame m #[(.ref x0), (.int 0), (.int 1)] 3 = mkF m 0 #[.val (.ref x0), .val (.int 0), .val (.int 1)] [] := by
  first | (simp [entryFrame, mkF, argsToLocals, Value.category]; done) | rfl
theorem R_Arrays_copyOfRange_5 {a1 : Addr} {p2 : Int32} (hw : HW a0 Z) (pr1 : Ary Z h0 a1 ATB 1 (lv [.int p2])) : Mt false [] l Y6 C6 (rmk 1 1 1 14) #[.ref a1, .int 0, .int 1] Z a0 h0 n0 (KpV h0 [] fun v h => ∃ b1 : Addr, v = (.ref b1) ∧ h0.size ≤ b1 ∧ Ary Z h b1 ATB 1 (lv [.int p2])) := by
  refine Mt.go PN6 (Or.inl rfl) ef_RII_3_0_1 fun k => ?_
  replace k := k |>.iloadN D6_0 rfl |>.ifNo D6_1 (by decide) |>.iloadN D6_4 rfl |>.aloadN D6_5 rfl rfl |>.alen pr1 D6_6 (z := 1) (by decide) |>.icmpYes D6_7 (by decide) |>.aloadN D6_17 rfl rfl
  have z1 := k.sz
  obtain ⟨b1, h1, g1, K1, O1, k⟩ := k.aclone (w_57 hw) (w_58 hw) (w_62 hw) (w_60 hw) (w_61 hw) (w_63 hw) pr1 (by decide) D6_18 0
  replace k := k |>.castY (w_64 hw) (Ins.self (O1.exa (by decide))) D6_21
  have s_b1 := Nat.le_trans z1 g1
  exact k.retA D6_24 rfl ⟨_, rfl, K1, b1, rfl, s_b1, O1⟩
theorem ef_RRRII_11_0_1 {x0 : Addr} {x1 : Addr} {x2 : Addr}  (m : MethodId) : entryFrame m #[(.ref x0), (.ref x1), (.ref x2), (.int 0), (.int 1)] 11 = mkF m 0 #[.val (.ref x0), .val (.ref x1), .val (.ref x2), .val (.int 0), .val (.int 1), .unset, .unset, .unset, .unset, .unset, .unset] [] := by
  first | (simp [entryFrame, mkF, argsToLocals, Value.category]; done) | rfl
theorem R_String__init__58 {a1 w_U8 a2 : Addr} {w_CS p3 : Int32} (hw : HW a0 Z) (pr1 : TS_UI Z w_U8) (pr2 : TS_CS Z w_CS) (pr3 : ¬ (w_CS = 0)) (pr4 : Ary Z h0 a2 ATB 1 (lv [.int p3])) (pr5 : ¬ (p3 < 0)) (pr6 : Obj Z h0 a1 L_String [.null, .int 0]) (pr7 : n0 ≤ a1) : Mt false [] l Y4 C4 (rmk 2 1 1 29) #[.ref a1, .ref w_U8, .ref a2, .int 0, .int 1] Z a0 h0 n0 (K0 h0 [a1] fun h => ∃ b1_2 : Addr, h0.size ≤ b1_2 ∧ Obj Z h a1 L_String [.ref b1_2, .int 0] ∧ Ary Z h b1_2 ATB 1 (lv [.int p3])) := by
  refine Mt.go PN4 (Or.inr ⟨_, rfl⟩) ef_RRRII_11_0_1 fun k => ?_
  replace k := k |>.aloadN D4_0 rfl rfl |>.initO (w_23 hw) (w_24 hw) (w_25 hw) D4_1 0 |>.iload D4_4 rfl |>.ifYes D4_6 (by decide) |>.aloadN D4_30 rfl rfl |>.getS (fl_46 hw) pr1 D4_31 |>.acmpNo D4_34 rfl rfl true (decide_eq_true rfl) (by decide) |>.getS (fl_48 hw) pr2 D4_37 |>.ifNo D4_40 ((if0 _ _).trans (feq pr3).1) |>.aloadN D4_43 rfl rfl |>.iloadN D4_44 rfl |>.iload D4_45 rfl
  replace k := (k.callS (w_49 hw) (S5 hw) (R_StringCoding_countPositives_6 hw pr4 pr5) D4_47 0 rfl).pv
  replace k := k |>.istore D4_50 sto5 |>.iload D4_52 rfl |>.iload D4_54 rfl |>.icmpNo D4_56 (by decide) |>.aloadN D4_59 rfl rfl |>.aloadN D4_60 rfl rfl |>.iloadN D4_61 rfl |>.iloadN D4_62 rfl |>.iload D4_63 rfl |>.iadd D4_65 (z := 1) (by decide)
  have z2 := k.sz
  obtain ⟨_, h2, K2, ⟨b1_2, rfl, f2_0, f2_1⟩, k⟩ := (k.callS (w_53 hw) (S6 hw) (R_Arrays_copyOfRange_5 hw pr4) D4_66 1 rfl).kv
  have o3 := pr6.keep K2 nin0
  obtain ⟨h4, K4, O4, k⟩ := k.putF (fl_31 hw) (pw_String_i_String_value hw) o3 0 pr7 (Or.inl rfl) D4_69 rfl rfl rfl ls0
  replace k := k |>.aloadN D4_72 rfl rfl |>.iconst D4_73 0
  obtain ⟨h5, K5, O5, k⟩ := k.putN (fp_32 hw) (pw_String_i_String_coder hw) O4 1 pr7 (Or.inl rfl) D4_74 rfl (v' := (.int 0)) (by decide) (by decide) ls1
  have s_b1_2 := Nat.le_trans z2 f2_0
  have o6 := (f2_1.keep K4 (ninS (nlt' pr6.lt s_b1_2) nin0)).keep K5 (ninS (nlt' pr6.lt s_b1_2) nin0)
  exact k.ret0 D4_77 rfl ⟨rfl, ((((Keep.refl h0 [a1]).trans K2 all0).trans K4 (allS (Or.inl (List.mem_of_getElem? (i := 0) rfl)) all0)).trans K5 (allS (Or.inl (List.mem_of_getElem? (i := 0) rfl)) all0)), b1_2, s_b1_2, O5, o6⟩
theorem R_String__init__57 {a1 a2 w_U8 : Addr} {p3 w_CS : Int32} (hw : HW a0 Z) (pr1 : Obj Z Z.heap w_U8 L_UTF_8 []) (pr2 : Ary Z h0 a2 ATB 1 (lv [.int p3])) (pr3 : ¬ (w_CS = 0)) (pr4 : ¬ (p3 < 0)) (pr5 : Obj Z h0 a1 L_String [.null, .int 0]) (pr6 : n0 ≤ a1) (pr7 : TS_UI Z w_U8) (pr8 : TS_CS Z w_CS) : Mt false [] l Y2 C2 (rmk 3 1 1 51) #[.ref a1, .ref a2, .ref w_U8] Z a0 h0 n0 (K0 h0 [a1] fun h => ∃ b1_2_2 : Addr, h0.size ≤ b1_2_2 ∧ Obj Z h a1 L_String [.ref b1_2_2, .int 0] ∧ Ary Z h b1_2_2 ATB 1 (lv [.int p3])) := by
  refine Mt.go PN2 (Or.inl rfl) ef_RRR_3 fun k => ?_
  replace k := k |>.aloadN D2_0 rfl rfl |>.aloadN D2_1 rfl rfl
  replace k := (k.callS (w_13 hw) (S3 hw) (R_Objects_requireNonNull_1 hw) D2_2 1 rfl).pv
  replace k := k |>.castY (w_17 hw) (Ins.of_exa (pr1.ext k.old.2).exa (w_18 hw)) D2_5 |>.aloadN D2_8 rfl rfl |>.iconst D2_9 0 |>.aloadN D2_10 rfl rfl |>.alen pr2 D2_11 (z := 1) (by decide)
  have z2 := k.sz
  obtain ⟨h2, K2, ⟨b1_2_2, f2_0, f2_1, f2_2⟩, k⟩ := (k.callI (w_19 hw) (I4 hw) (R_String__init__58 hw pr7 pr8 pr3 pr2 pr4 pr5 pr6) D2_12 0 rfl).k0 (allS pr6 all0)
  have s_b1_2_2 := Nat.le_trans z2 f2_0
  exact k.ret0 D2_15 rfl ⟨rfl, K2, b1_2_2, s_b1_2_2, f2_1, f2_2⟩
theorem R_Utf8_decodeName_29 {a1 w_U8 : Addr} {p2 w_CS : Int32} (hw : HW a0 Z) (pr1 : TS_U8 Z w_U8) (pr2 : Ary Z h0 a1 ATB 1 (lv [.int p2])) (pr3 : ¬ (w_CS = 0)) (pr4 : ¬ (p2 < 0)) (pr5 : Obj Z Z.heap w_U8 L_UTF_8 []) (pr6 : TS_UI Z w_U8) (pr7 : TS_CS Z w_CS) : Mt false [] l Y1 C1 (rmk 4 2 5 66) #[.ref a1] Z a0 h0 n0 (KpV h0 [] fun v h => ∃ b1 b1_2_2_2 : Addr, v = (.ref b1) ∧ h0.size ≤ b1 ∧ h0.size ≤ b1_2_2_2 ∧ b1_2_2_2 ≠ b1 ∧ Obj Z h b1 L_String [.ref b1_2_2_2, .int 0] ∧ Ary Z h b1_2_2_2 ATB 1 (lv [.int p2])) := by
  refine Mt.go PN1 (Or.inl rfl) ef_R_1 fun k => ?_
  have nz := k.n0le
  have z1 := k.sz
  obtain ⟨b1, h1, g1, K1, O1, k⟩ := k.new (w_5 hw) (nw_String hw) D1_0 (by decide) dvL_String
  replace k := k |>.dup D1_3 rfl |>.aloadN D1_4 rfl rfl |>.getS (fl_8 hw) pr1 D1_5
  have s_b1 := Nat.le_trans z1 g1
  have n_b1 := Nat.le_trans nz s_b1
  have o3 := pr2.keep K1 nin0
  have z2 := k.sz
  obtain ⟨h2, K2, ⟨b1_2_2_2, f2_0, f2_1, f2_2⟩, k⟩ := (k.callI (w_10 hw) (I2 hw) (R_String__init__57 hw pr5 o3 pr3 pr4 O1 n_b1 pr6 pr7) D1_8 1 rfl).k0 (allS n_b1 all0)
  have s_b1_2_2_2 := Nat.le_trans z2 f2_0
  exact k.retA D1_11 rfl ⟨_, rfl, (K1.trans K2 (allS (Or.inr s_b1) all0)), b1, b1_2_2_2, rfl, s_b1, s_b1_2_2_2, (nlt' O1.lt f2_0), f2_1, f2_2⟩
theorem D0_163 : Dc code 163 (.iconst 0) 1 164 := ⟨at_163, rfl⟩
theorem R_String_length_5 {a1 a2 : Addr} {p3 w_CS : Int32} (hw : HW a0 Z) (pr1 : Obj Z h0 a1 L_String [.ref a2, .int 0]) (pr2 : Ary Z h0 a2 ATB 1 (lv [.int p3])) (pr3 : ¬ (w_CS = 0)) (pr4 : TS_CS Z w_CS) : Mt false [] l Y18 C18 (rmk 1 0 0 13) #[.ref a1] Z a0 h0 n0 (Pv h0 (.int 1)) := by
  refine Mt.go PN18 (Or.inl rfl) ef_R_1 fun k => ?_
  replace k := k |>.aloadN D18_0 rfl rfl |>.getF (fl_31 hw) pr1 0 D18_1 rfl rfl |>.alen pr2 D18_4 (z := 1) (by decide) |>.aloadN D18_5 rfl rfl
  replace k := (k.callV (w_72 hw) (V_Y19_19_String hw) pr1.exa (R_String_coder_2 hw pr4 pr3 pr1) D18_6 1 rfl).pv
  replace k := k |>.ishr D18_9 (z := 1) (by decide)
  exact k.retI D18_10 rfl ⟨rfl, rfl⟩
theorem ef_IIV_3_0_1 {x2 : Value} (r2 : x2.isRef = true) (m : MethodId) : entryFrame m #[(.int 0), (.int 1), x2] 3 = mkF m 0 #[.val (.int 0), .val (.int 1), .val x2] [] := by
  rcases ref_cases r2 with rfl | ⟨_, rfl⟩
  all_goals
  first | (simp [entryFrame, mkF, argsToLocals, Value.category]; done) | rfl
theorem R_Preconditions_checkIndex_6 {w_SF : Value} (hw : HW a0 Z) (pr1 : w_SF.isRef = true) : Mt false [] l Y25 C25 (rmk 0 0 0 0) #[.int 0, .int 1, w_SF] Z a0 h0 n0 (Pv h0 (.int 0)) := by
  refine Mt.go PN25 (Or.inl rfl) (ef_IIV_3_0_1 pr1) fun k => ?_
  replace k := k |>.iloadN D25_0 rfl |>.ifNo D25_1 (by decide) |>.iloadN D25_4 rfl |>.iloadN D25_5 rfl |>.icmpYes D25_6 (by decide) |>.iloadN D25_16 rfl
  exact k.retI D25_17 rfl ⟨rfl, rfl⟩
theorem ef_II_2_0_1   (m : MethodId) : entryFrame m #[(.int 0), (.int 1)] 2 = mkF m 0 #[.val (.int 0), .val (.int 1)] [] := by
  first | (simp [entryFrame, mkF, argsToLocals, Value.category]; done) | rfl
theorem R_String_checkIndex_6 {w_SF : Value} (hw : HW a0 Z) (pr1 : w_SF.isRef = true) (pr2 : TS_SF Z w_SF) : Mt false [] l Y24 C24 (rmk 1 0 0 14) #[.int 0, .int 1] Z a0 h0 n0 (P0 h0) := by
  refine Mt.go PN24 (Or.inl rfl) ef_II_2_0_1 fun k => ?_
  replace k := k |>.iloadN D24_0 rfl |>.iloadN D24_1 rfl |>.getS (fl_94 hw) pr2 D24_2
  replace k := (k.callS (w_96 hw) (S25 hw) (R_Preconditions_checkIndex_6 hw pr1) D24_5 0 rfl).pv
  replace k := k |>.pop D24_8 rfl
  exact k.ret0 D24_9 rfl ⟨rfl, rfl⟩
theorem R_StringLatin1_charAt_3 {a1 : Addr} {p2 : Int32} {w_SF : Value} (hw : HW a0 Z) (pr1 : Ary Z h0 a1 ATB 1 (lv [.int p2])) (pr2 : w_SF.isRef = true) (pr3 : TS_SF Z w_SF) : Mt false [] l Y31 C31 (rmk 2 0 0 27) #[.ref a1, .int 0] Z a0 h0 n0 (Pv h0 (.int ((p2 &&& 255).toUInt32.toUInt16.toUInt32.toInt32))) := by
  refine Mt.go PN31 (Or.inl rfl) ef_RI_2_0 fun k => ?_
  replace k := k |>.iloadN D31_0 rfl |>.aloadN D31_1 rfl rfl |>.alen pr1 D31_2 (z := 1) (by decide)
  replace k := (k.callS (w_91 hw) (S24 hw) (R_String_checkIndex_6 hw pr2 pr3) D31_3 0 rfl).p0
  replace k := k |>.aloadN D31_6 rfl rfl |>.iloadN D31_7 rfl |>.bald pr1 D31_8 (i := 0) (by decide) lvg0 |>.sipush D31_9 255 |>.iand D31_12 rfl |>.i2c D31_13 rfl
  exact k.retN (t := .char) D31_14 rfl (by simp) (own_nnCi2c _) ⟨rfl, rfl⟩
theorem R_String_charAt_10 {a1 a2 : Addr} {w_CS p3 : Int32} {w_SF : Value} (hw : HW a0 Z) (pr1 : Obj Z h0 a1 L_String [.ref a2, .int 0]) (pr2 : ¬ (w_CS = 0)) (pr3 : TS_CS Z w_CS) (pr4 : Ary Z h0 a2 ATB 1 (lv [.int p3])) (pr5 : w_SF.isRef = true) (pr6 : TS_SF Z w_SF) : Mt false [] l Y20 C20 (rmk 3 0 0 40) #[.ref a1, .int 0] Z a0 h0 n0 (Pv h0 (.int ((p3 &&& 255).toUInt32.toUInt16.toUInt32.toInt32))) := by
  refine Mt.go PN20 (Or.inl rfl) ef_RI_2_0 fun k => ?_
  replace k := k |>.aloadN D20_0 rfl rfl
  replace k := (k.callV (w_82 hw) (V_Y21_21_String hw) pr1.exa (R_String_isLatin1_2 hw pr3 pr2 pr1) D20_1 0 rfl).pv
  replace k := k |>.ifNo D20_4 (by decide) |>.aloadN D20_7 rfl rfl |>.getF (fl_31 hw) pr1 0 D20_8 rfl rfl |>.iloadN D20_11 rfl
  replace k := (k.callS (w_87 hw) (S31 hw) (R_StringLatin1_charAt_3 hw pr4 pr5 pr6) D20_12 0 rfl).pv
  exact k.retN (t := .char) D20_15 rfl (by simp) (own_nnCi2c _) ⟨rfl, rfl⟩
theorem D30_89 : Dc J30 89 (.iconst 2) 1 90 := by decide +kernel
theorem D30_90 : Dc J30 90 (.newarray .byte) 2 92 := by decide +kernel
theorem D30_92 : Dc J30 92 .dup 1 93 := by decide +kernel
theorem D30_93 : Dc J30 93 (.iconst 0) 1 94 := by decide +kernel
theorem D30_94 : Dc J30 94 (.iload 5) 2 96 := by decide +kernel
theorem D30_96 : Dc J30 96 .bastore 1 97 := by decide +kernel
theorem D30_97 : Dc J30 97 .dup 1 98 := by decide +kernel
theorem D30_98 : Dc J30 98 (.iconst 1) 1 99 := by decide +kernel
theorem D30_99 : Dc J30 99 (.iload 6) 2 101 := by decide +kernel
theorem D30_101 : Dc J30 101 .bastore 1 102 := by decide +kernel
theorem D30_102 : Dc J30 102 .areturn 1 103 := by decide +kernel
theorem R_Utf8DecodeNamePinLaw_encode_6 {p1 p2 p3 : Int32} (hw : HW a0 Z) (pr1 : ¬ (p2 = 0)) (pr2 : p2 = 1) : Mt false [] l Y30 C30 (rmk 0 1 2 0) #[.int p1, .int p2, .int 0, .int p3] Z a0 h0 n0 (KpV h0 [] fun v h => ∃ b1 : Addr, v = (.ref b1) ∧ h0.size ≤ b1 ∧ Ary Z h b1 ATB 2 (lv [.int ((192 ||| (p1 >>> ((6 : Int32) &&& 31))).toInt8.toInt32), .int ((128 ||| (p1 &&& 63)).toInt8.toInt32)])) := by
  refine Mt.go PN30 (Or.inl rfl) ef_IIII_9_0 fun k => ?_
  have nz := k.n0le
  replace k := k |>.iloadN D30_0 rfl |>.i2b D30_1 rfl |>.istore D30_2 sto4 |>.iloadN D30_4 rfl |>.ifYes D30_5 ((if0 _ _).trans (feq pr1).2) |>.iloadN D30_39 rfl |>.iconst D30_40 1 |>.icmpNo D30_41 (teq pr2).2 |>.sipush D30_44 192 |>.iloadN D30_47 rfl |>.bipush D30_48 6 |>.ishr D30_50 rfl
  replace k := k |>.ior D30_51 rfl |>.i2b D30_52 rfl |>.istore D30_53 sto5 |>.sipush D30_55 128 |>.iloadN D30_58 rfl |>.bipush D30_59 63 |>.iand D30_61 rfl |>.ior D30_62 rfl |>.i2b D30_63 rfl |>.istore D30_64 sto6 |>.iloadN D30_66 rfl |>.ifYes D30_67 (by decide)
  replace k := k |>.iconst D30_89 2
  have z1 := k.sz
  obtain ⟨b1, h1, g1, K1, O1, k⟩ := k.newP (aty := .byte) "[B" (w_0 hw) (by decide) D30_90 2 (by decide) (n := 2) (by decide) (by decide) (by decide) (lv_const (V := [(.int 0), (.int 0)]) rfl)
  replace k := k |>.dup D30_92 rfl |>.iconst D30_93 0 |>.iload D30_94 rfl
  have s_b1 := Nat.le_trans z1 g1
  have n_b1 := Nat.le_trans nz s_b1
  obtain ⟨h2, K2, O2, k⟩ := k.stB O1 n_b1 (Or.inl rfl) D30_96 (i := 0) (by decide) (v := (.int ((192 ||| (p1 >>> ((6 : Int32) &&& 31))).toInt8.toInt32))) (congrArg Value.int (own_nnBi2b _)) (own_fitBi2b _) lvs0
  replace k := k |>.dup D30_97 rfl |>.iconst D30_98 1 |>.iload D30_99 rfl
  obtain ⟨h3, K3, O3, k⟩ := k.stB O2 n_b1 (Or.inl rfl) D30_101 (i := 1) (by decide) (v := (.int ((128 ||| (p1 &&& 63)).toInt8.toInt32))) (congrArg Value.int (own_nnBi2b _)) (own_fitBi2b _) lvs1
  exact k.retA D30_102 rfl ⟨_, rfl, ((K1.trans K2 (allS (Or.inr s_b1) all0)).trans K3 (allS (Or.inr s_b1) all0)), b1, rfl, s_b1, O3⟩
theorem ef_II_2_2_1   (m : MethodId) : entryFrame m #[(.int 2), (.int 1)] 2 = mkF m 0 #[.val (.int 2), .val (.int 1)] [] := by
  first | (simp [entryFrame, mkF, argsToLocals, Value.category]; done) | rfl
theorem R_Math_min_5 (hw : HW a0 Z) : Mt false [] l Y34 C34 (rmk 0 0 0 0) #[.int 2, .int 1] Z a0 h0 n0 (Pv h0 (.int 1)) := by
  refine Mt.go PN34 (Or.inl rfl) ef_II_2_2_1 fun k => ?_
  replace k := k |>.iloadN D34_0 rfl |>.iloadN D34_1 rfl |>.icmpYes D34_2 (by decide) |>.iloadN D34_9 rfl
  exact k.retI D34_10 rfl ⟨rfl, rfl⟩
theorem ef_RI_3_1 {x0 : Addr}  (m : MethodId) : entryFrame m #[(.ref x0), (.int 1)] 3 = mkF m 0 #[.val (.ref x0), .val (.int 1), .unset] [] := by
  first | (simp [entryFrame, mkF, argsToLocals, Value.category]; done) | rfl
theorem R_Arrays_copyOf_5 {a1 : Addr} {p2 p3 : Int32} (hw : HW a0 Z) (pr1 : Ary Z h0 a1 ATB 2 (lv [.int p2, .int p3])) : Mt false [] l Y33 C33 (rmk 1 1 1 18) #[.ref a1, .int 1] Z a0 h0 n0 (KpV h0 [] fun v h => ∃ b1 : Addr, v = (.ref b1) ∧ h0.size ≤ b1 ∧ Ary Z h b1 ATB 1 (lv [.int p2])) := by
  refine Mt.go PN33 (Or.inl rfl) ef_RI_3_1 fun k => ?_
  have nz := k.n0le
  replace k := k |>.iloadN D33_0 rfl |>.aloadN D33_1 rfl rfl |>.alen pr1 D33_2 (z := 2) (by decide) |>.icmpYes D33_3 (by decide) |>.iloadN D33_14 rfl
  have z1 := k.sz
  obtain ⟨b1, h1, g1, K1, O1, k⟩ := k.newP (aty := .byte) "[B" (w_0 hw) (by decide) D33_15 1 (by decide) (n := 1) (by decide) (by decide) (by decide) (lv_const (V := [(.int 0)]) rfl)
  replace k := k |>.astoreN D33_17 rfl sto2 |>.aloadN D33_18 rfl rfl |>.iconst D33_19 0 |>.aloadN D33_20 rfl rfl |>.iconst D33_21 0 |>.aloadN D33_22 rfl rfl
  have o2 := pr1.keep K1 nin0
  replace k := k |>.alen o2 D33_23 (z := 2) (by decide) |>.iloadN D33_24 rfl
  replace k := (k.callS (w_159 hw) (S34 hw) (R_Math_min_5 hw) D33_25 4 rfl).pv
  have s_b1 := Nat.le_trans z1 g1
  have n_b1 := Nat.le_trans nz s_b1
  obtain ⟨h4, K4, O4, k⟩ := k.acopy (w_163 hw) (w_166 hw) (w_164 hw) (w_165 hw) o2 O1 ⟨rfl, rfl⟩ (sp' := 0) (by decide) (dp' := 0) (by decide) (nn' := 1) (by decide) (by decide) (by decide) (lv_cpy (V' := [.int p2]) rfl rfl) n_b1 D33_28 0
  replace k := k |>.aloadN D33_31 rfl rfl
  exact k.retA D33_32 rfl ⟨_, rfl, (K1.trans K4 (allS (Or.inr s_b1) all0)), b1, rfl, s_b1, O4⟩
theorem R_String__init__62 {a1 w_U8 a2 : Addr} {w_CS p3 p4 : Int32} (hw : HW a0 Z) (pr1 : TS_UI Z w_U8) (pr2 : TS_CS Z w_CS) (pr3 : ¬ (w_CS = 0)) (pr4 : Ary Z h0 a2 ATB 2 (lv [.int p3, .int p4])) (pr5 : p3 < 0) (pr6 : (p3 &&& 254) = 194) (pr7 : p4 < (-64)) (pr8 : Obj Z h0 a1 L_String [.null, .int 0]) (pr9 : n0 ≤ a1) : Mt false [] l Y4 C4 (rmk 2 2 3 32) #[.ref a1, .ref w_U8, .ref a2, .int 0, .int 2] Z a0 h0 n0 (K0 h0 [a1] fun h => ∃ b1_5 : Addr, h0.size ≤ b1_5 ∧ Obj Z h a1 L_String [.ref b1_5, .int 0] ∧ Ary Z h b1_5 ATB 1 (lv [.int (((((p3 <<< ((6 : Int32) &&& 31)) ^^^ p4) ^^^ 3968).toUInt32.toUInt16.toUInt32.toInt32).toInt8.toInt32)])) := by
  refine Mt.go PN4 (Or.inr ⟨_, rfl⟩) ef_RRRII_11_0_2 fun k => ?_
  have nz := k.n0le
  replace k := k |>.aloadN D4_0 rfl rfl |>.initO (w_23 hw) (w_24 hw) (w_25 hw) D4_1 0 |>.iload D4_4 rfl |>.ifYes D4_6 (by decide) |>.aloadN D4_30 rfl rfl |>.getS (fl_46 hw) pr1 D4_31 |>.acmpNo D4_34 rfl rfl true (decide_eq_true rfl) (by decide) |>.getS (fl_48 hw) pr2 D4_37 |>.ifNo D4_40 ((if0 _ _).trans (feq pr3).1) |>.aloadN D4_43 rfl rfl |>.iloadN D4_44 rfl |>.iload D4_45 rfl
  replace k := (k.callS (w_49 hw) (S5 hw) (R_StringCoding_countPositives_1 hw pr4 pr5) D4_47 0 rfl).pv
  replace k := k |>.istore D4_50 sto5 |>.iload D4_52 rfl |>.iload D4_54 rfl |>.icmpYes D4_56 (by decide) |>.aloadN D4_78 rfl rfl |>.iloadN D4_79 rfl |>.iloadN D4_80 rfl |>.iload D4_81 rfl |>.iadd D4_83 (z := 2) (by decide)
  have z2 := k.sz
  obtain ⟨_, h2, K2, ⟨b1_2, rfl, f2_0, f2_1⟩, k⟩ := (k.callS (w_53 hw) (S6 hw) (R_Arrays_copyOfRange_1 hw pr4) D4_84 0 rfl).kv
  replace k := k |>.astore D4_87 rfl sto6 |>.iload D4_89 rfl |>.istore D4_91 sto7 |>.iload D4_93 rfl |>.iload D4_95 rfl |>.icmpNo D4_97 (by decide) |>.aload D4_100 rfl rfl |>.iload D4_102 rfl |>.iinc D4_104 rfl (z := 1) (by decide) sto7 |>.bald f2_1 D4_107 (i := 0) (by decide) lvg0 |>.istore D4_108 sto8 |>.iload D4_110 rfl
  replace k := k |>.ifYes D4_112 ((if0 _ _).trans (tlt pr5).1) |>.iload D4_129 rfl |>.sipush D4_131 254 |>.iand D4_134 rfl |>.sipush D4_135 194 |>.icmpNo D4_138 (teq pr6).2 |>.iload D4_141 rfl |>.iload D4_143 rfl |>.icmpNo D4_145 (by decide) |>.aload D4_148 rfl rfl |>.iload D4_150 rfl |>.bald f2_1 D4_152 (i := 1) (by decide) lvg1
  replace k := k |>.istore D4_153 sto9 |>.iload D4_155 rfl |>.bipush D4_157 (-64) |>.icmpNo D4_159 (tlt pr7).2.1 |>.aload D4_162 rfl rfl |>.iload D4_164 rfl |>.iinc D4_166 rfl (z := 1) (by decide) sto5 |>.iload D4_169 rfl |>.iload D4_171 rfl
  replace k := (k.callS (w_190 hw) (S32 hw) (R_String_decode2_1 hw) D4_173 2 rfl).pv
  replace k := k |>.i2b D4_176 rfl
  have s_b1_2 := Nat.le_trans z2 f2_0
  have n_b1_2 := Nat.le_trans nz s_b1_2
  obtain ⟨h4, K4, O4, k⟩ := k.stB f2_1 n_b1_2 (Or.inl rfl) D4_177 (i := 0) (by decide) (v := (.int (((((p3 <<< ((6 : Int32) &&& 31)) ^^^ p4) ^^^ 3968).toUInt32.toUInt16.toUInt32.toInt32).toInt8.toInt32))) (congrArg Value.int (own_nnBi2b _)) (own_fitBi2b _) lvs0
  replace k := k |>.iinc D4_178 rfl (z := 2) (by decide) sto7 |>.goto D4_181 |>.iload D4_93 rfl |>.iload D4_95 rfl |>.icmpYes D4_97 (by decide) |>.iload D4_190 rfl |>.iload D4_192 rfl |>.icmpNo D4_194 (by decide) |>.iload D4_197 rfl |>.aload D4_199 rfl rfl |>.alen O4 D4_201 (z := 2) (by decide) |>.icmpNo D4_202 (by decide)
  replace k := k |>.aload D4_205 rfl rfl |>.iload D4_207 rfl
  have z5 := k.sz
  obtain ⟨_, h5, K5, ⟨b1_5, rfl, f5_0, f5_1⟩, k⟩ := (k.callS (w_156 hw) (S33 hw) (R_Arrays_copyOf_5 hw O4) D4_209 0 rfl).kv
  replace k := k |>.astore D4_212 rfl sto6 |>.aloadN D4_214 rfl rfl |>.aload D4_215 rfl rfl
  have o6 := ((pr8.keep K2 nin0).keep K4 (ninS (nlt pr8.lt s_b1_2) nin0)).keep K5 nin0
  obtain ⟨h7, K7, O7, k⟩ := k.putF (fl_31 hw) (pw_String_i_String_value hw) o6 0 pr9 (Or.inl rfl) D4_217 rfl rfl rfl ls0
  replace k := k |>.aloadN D4_220 rfl rfl |>.iconst D4_221 0
  obtain ⟨h8, K8, O8, k⟩ := k.putN (fp_32 hw) (pw_String_i_String_coder hw) O7 1 pr9 (Or.inl rfl) D4_222 rfl (v' := (.int 0)) (by decide) (by decide) ls1
  have s_b1_5 := Nat.le_trans z5 f5_0
  have o9 := (f5_1.keep K7 (ninS (nlt' pr8.lt s_b1_5) nin0)).keep K8 (ninS (nlt' pr8.lt s_b1_5) nin0)
  exact k.ret0 D4_225 rfl ⟨rfl, ((((((Keep.refl h0 [a1]).trans K2 all0).trans K4 (allS (Or.inr s_b1_2) all0)).trans K5 all0).trans K7 (allS (Or.inl (List.mem_of_getElem? (i := 0) rfl)) all0)).trans K8 (allS (Or.inl (List.mem_of_getElem? (i := 0) rfl)) all0)), b1_5, s_b1_5, O8, o9⟩
theorem R_String__init__61 {a1 a2 w_U8 : Addr} {p3 p4 w_CS : Int32} (hw : HW a0 Z) (pr1 : Obj Z Z.heap w_U8 L_UTF_8 []) (pr2 : Ary Z h0 a2 ATB 2 (lv [.int p3, .int p4])) (pr3 : ¬ (w_CS = 0)) (pr4 : p3 < 0) (pr5 : (p3 &&& 254) = 194) (pr6 : p4 < (-64)) (pr7 : Obj Z h0 a1 L_String [.null, .int 0]) (pr8 : n0 ≤ a1) (pr9 : TS_UI Z w_U8) (pr10 : TS_CS Z w_CS) : Mt false [] l Y2 C2 (rmk 3 2 3 54) #[.ref a1, .ref a2, .ref w_U8] Z a0 h0 n0 (K0 h0 [a1] fun h => ∃ b1_5_2 : Addr, h0.size ≤ b1_5_2 ∧ Obj Z h a1 L_String [.ref b1_5_2, .int 0] ∧ Ary Z h b1_5_2 ATB 1 (lv [.int (((((p3 <<< ((6 : Int32) &&& 31)) ^^^ p4) ^^^ 3968).toUInt32.toUInt16.toUInt32.toInt32).toInt8.toInt32)])) := by
  refine Mt.go PN2 (Or.inl rfl) ef_RRR_3 fun k => ?_
  replace k := k |>.aloadN D2_0 rfl rfl |>.aloadN D2_1 rfl rfl
  replace k := (k.callS (w_13 hw) (S3 hw) (R_Objects_requireNonNull_1 hw) D2_2 1 rfl).pv
  replace k := k |>.castY (w_17 hw) (Ins.of_exa (pr1.ext k.old.2).exa (w_18 hw)) D2_5 |>.aloadN D2_8 rfl rfl |>.iconst D2_9 0 |>.aloadN D2_10 rfl rfl |>.alen pr2 D2_11 (z := 2) (by decide)
  have z2 := k.sz
  obtain ⟨h2, K2, ⟨b1_5_2, f2_0, f2_1, f2_2⟩, k⟩ := (k.callI (w_19 hw) (I4 hw) (R_String__init__62 hw pr9 pr10 pr3 pr2 pr4 pr5 pr6 pr7 pr8) D2_12 0 rfl).k0 (allS pr8 all0)
  have s_b1_5_2 := Nat.le_trans z2 f2_0
  exact k.ret0 D2_15 rfl ⟨rfl, K2, b1_5_2, s_b1_5_2, f2_1, f2_2⟩
theorem R_Utf8_decodeName_31 {a1 w_U8 : Addr} {p2 p3 w_CS : Int32} (hw : HW a0 Z) (pr1 : TS_U8 Z w_U8) (pr2 : Ary Z h0 a1 ATB 2 (lv [.int p2, .int p3])) (pr3 : ¬ (w_CS = 0)) (pr4 : p2 < 0) (pr5 : (p2 &&& 254) = 194) (pr6 : p3 < (-64)) (pr7 : Obj Z Z.heap w_U8 L_UTF_8 []) (pr8 : TS_UI Z w_U8) (pr9 : TS_CS Z w_CS) : Mt false [] l Y1 C1 (rmk 4 3 7 69) #[.ref a1] Z a0 h0 n0 (KpV h0 [] fun v h => ∃ b1 b1_5_2_2 : Addr, v = (.ref b1) ∧ h0.size ≤ b1 ∧ h0.size ≤ b1_5_2_2 ∧ b1_5_2_2 ≠ b1 ∧ Obj Z h b1 L_String [.ref b1_5_2_2, .int 0] ∧ Ary Z h b1_5_2_2 ATB 1 (lv [.int (((((p2 <<< ((6 : Int32) &&& 31)) ^^^ p3) ^^^ 3968).toUInt32.toUInt16.toUInt32.toInt32).toInt8.toInt32)])) := by
  refine Mt.go PN1 (Or.inl rfl) ef_R_1 fun k => ?_
  have nz := k.n0le
  have z1 := k.sz
  obtain ⟨b1, h1, g1, K1, O1, k⟩ := k.new (w_5 hw) (nw_String hw) D1_0 (by decide) dvL_String
  replace k := k |>.dup D1_3 rfl |>.aloadN D1_4 rfl rfl |>.getS (fl_8 hw) pr1 D1_5
  have s_b1 := Nat.le_trans z1 g1
  have n_b1 := Nat.le_trans nz s_b1
  have o3 := pr2.keep K1 nin0
  have z2 := k.sz
  obtain ⟨h2, K2, ⟨b1_5_2_2, f2_0, f2_1, f2_2⟩, k⟩ := (k.callI (w_10 hw) (I2 hw) (R_String__init__61 hw pr7 o3 pr3 pr4 pr5 pr6 O1 n_b1 pr8 pr9) D1_8 1 rfl).k0 (allS n_b1 all0)
  have s_b1_5_2_2 := Nat.le_trans z2 f2_0
  exact k.retA D1_11 rfl ⟨_, rfl, (K1.trans K2 (allS (Or.inr s_b1) all0)), b1, b1_5_2_2, rfl, s_b1, s_b1_5_2_2, (nlt' O1.lt f2_0), f2_1, f2_2⟩
theorem R_StringUTF16_putChar_10 {a1 : Addr} {p2 : Int32} (hw : HW a0 Z) (pr1 : TS_AD Z) (pr2 : TS_HI Z) (pr3 : Ary Z h0 a1 ATB 4 (lv [.int 0, .int 0, .int 0, .int 0])) (pr4 : n0 ≤ a1) (pr5 : TS_LO Z) : Mt false [] l Y17 C17 (rmk 0 0 0 0) #[.ref a1, .int 0, .int p2] Z a0 h0 n0 (K0 h0 [a1] fun h => Ary Z h a1 ATB 4 (lv [.int ((p2 >>> ((0 : Int32) &&& 31)).toInt8.toInt32), .int ((p2 >>> ((8 : Int32) &&& 31)).toInt8.toInt32), .int 0, .int 0])) := by
  refine Mt.go PN17 (Or.inl rfl) ef_RII_3_0 fun k => ?_
  replace k := k |>.getS (fl_149 hw) pr1 D17_0 |>.ifYes D17_3 (by decide) |>.iloadN D17_28 rfl |>.iconst D17_29 1 |>.ishl D17_30 (z := 0) (by decide) |>.istoreN D17_31 sto1 |>.aloadN D17_32 rfl rfl |>.iloadN D17_33 rfl |>.iinc D17_34 rfl (z := 1) (by decide) sto1 |>.iloadN D17_37 rfl |>.getS (fl_150 hw) pr2 D17_38 |>.ishr D17_41 rfl
  replace k := k |>.i2b D17_42 rfl
  obtain ⟨h1, K1, O1, k⟩ := k.stB pr3 pr4 (Or.inl rfl) D17_43 (i := 0) (by decide) (v := (.int ((p2 >>> ((0 : Int32) &&& 31)).toInt8.toInt32))) (congrArg Value.int (own_nnBi2b _)) (own_fitBi2b _) lvs0
  replace k := k |>.aloadN D17_44 rfl rfl |>.iloadN D17_45 rfl |>.iloadN D17_46 rfl |>.getS (fl_151 hw) pr5 D17_47 |>.ishr D17_50 rfl |>.i2b D17_51 rfl
  obtain ⟨h2, K2, O2, k⟩ := k.stB O1 pr4 (Or.inl rfl) D17_52 (i := 1) (by decide) (v := (.int ((p2 >>> ((8 : Int32) &&& 31)).toInt8.toInt32))) (congrArg Value.int (own_nnBi2b _)) (own_fitBi2b _) lvs1
  exact k.ret0 D17_53 rfl ⟨rfl, (K1.trans K2 (allS (Or.inl (List.mem_of_getElem? (i := 0) rfl)) all0)), O2⟩
theorem R_String_decodeUTF8_UTF16_24 {a1 a2 : Addr} {p3 p4 : Int32} (hw : HW a0 Z) (pr1 : Ary Z h0 a1 ATB 2 (lv [.int p3, .int p4])) (pr2 : p3 < 0) (pr3 : (p3 >>> ((5 : Int32) &&& 31)) = (-2)) (pr4 : ¬ ((p3 &&& 30) = 0)) (pr5 : (p4 &&& 192) = 128) (pr6 : Ary Z h0 a2 ATB 4 (lv [.int 0, .int 0, .int 0, .int 0])) (pr7 : n0 ≤ a2) (pr8 : TS_AD Z) (pr9 : TS_HI Z) (pr10 : TS_LO Z) : Mt false [] l Y15 C15 (rmk 1 0 0 15) #[.ref a1, .int 0, .int 2, .ref a2, .int 0, .int 1] Z a0 h0 n0 (KpV h0 [a2] fun v h => v = (.int 1) ∧ Ary Z h a2 ATB 4 (lv [.int ((((((p3 <<< ((6 : Int32) &&& 31)) ^^^ p4) ^^^ 3968).toUInt32.toUInt16.toUInt32.toInt32) >>> ((0 : Int32) &&& 31)).toInt8.toInt32), .int ((((((p3 <<< ((6 : Int32) &&& 31)) ^^^ p4) ^^^ 3968).toUInt32.toUInt16.toUInt32.toInt32) >>> ((8 : Int32) &&& 31)).toInt8.toInt32), .int 0, .int 0])) := by
  refine Mt.go PN15 (Or.inl rfl) ef_RIIRII_11_0_2_0_1 fun k => ?_
  replace k := k |>.iloadN D15_0 rfl |>.iloadN D15_1 rfl |>.icmpNo D15_2 (by decide) |>.aloadN D15_5 rfl rfl |>.iloadN D15_6 rfl |>.iinc D15_7 rfl (z := 1) (by decide) sto1 |>.bald pr1 D15_10 (i := 0) (by decide) lvg0 |>.istore D15_11 sto6 |>.iload D15_13 rfl |>.ifYes D15_15 ((if0 _ _).trans (tlt pr2).1) |>.iload D15_33 rfl |>.iconst D15_35 5
  replace k := k |>.ishr D15_36 rfl |>.bipush D15_37 (-2) |>.icmpNo D15_39 (teq pr3).2 |>.iload D15_42 rfl |>.bipush D15_44 30 |>.iand D15_46 rfl |>.ifNo D15_47 ((if0 _ _).trans (feq pr4).1) |>.iloadN D15_50 rfl |>.iloadN D15_51 rfl |>.icmpNo D15_52 (by decide) |>.aloadN D15_55 rfl rfl |>.iloadN D15_56 rfl
  replace k := k |>.iinc D15_57 rfl (z := 2) (by decide) sto1 |>.bald pr1 D15_60 (i := 1) (by decide) lvg1 |>.istore D15_61 sto7 |>.iload D15_63 rfl
  replace k := (k.callS (w_187 hw) (S16 hw) (R_String_isNotContinuation_2 hw pr5) D15_65 0 rfl).pv
  replace k := k |>.ifYes D15_68 (by decide) |>.aloadN D15_100 rfl rfl |>.iload D15_101 rfl |>.iinc D15_103 rfl (z := 1) (by decide) sto4 |>.iload D15_106 rfl |>.iload D15_108 rfl
  replace k := (k.callS (w_190 hw) (S32 hw) (R_String_decode2_1 hw) D15_110 2 rfl).pv
  obtain ⟨h3, K3, f3_0, k⟩ := (k.callS (w_146 hw) (S17 hw) (R_StringUTF16_putChar_10 hw pr8 pr9 pr6 pr7 pr10) D15_113 0 rfl).k0 (allS pr7 all0)
  replace k := k |>.goto D15_116 |>.iloadN D15_0 rfl |>.iloadN D15_1 rfl |>.icmpYes D15_2 (by decide) |>.iload D15_621 rfl
  exact k.retI D15_623 rfl ⟨_, rfl, K3, rfl, f3_0⟩
theorem ef_II_2_4_2   (m : MethodId) : entryFrame m #[(.int 4), (.int 2)] 2 = mkF m 0 #[.val (.int 4), .val (.int 2)] [] := by
  first | (simp [entryFrame, mkF, argsToLocals, Value.category]; done) | rfl
theorem R_Math_min_6 (hw : HW a0 Z) : Mt false [] l Y34 C34 (rmk 0 0 0 0) #[.int 4, .int 2] Z a0 h0 n0 (Pv h0 (.int 2)) := by
  refine Mt.go PN34 (Or.inl rfl) ef_II_2_4_2 fun k => ?_
  replace k := k |>.iloadN D34_0 rfl |>.iloadN D34_1 rfl |>.icmpYes D34_2 (by decide) |>.iloadN D34_9 rfl
  exact k.retI D34_10 rfl ⟨rfl, rfl⟩
theorem R_Arrays_copyOf_6 {a1 : Addr} {p2 p3 : Int32} (hw : HW a0 Z) (pr1 : Ary Z h0 a1 ATB 4 (lv [.int p2, .int p3, .int 0, .int 0])) : Mt false [] l Y33 C33 (rmk 1 1 2 18) #[.ref a1, .int 2] Z a0 h0 n0 (KpV h0 [] fun v h => ∃ b1 : Addr, v = (.ref b1) ∧ h0.size ≤ b1 ∧ Ary Z h b1 ATB 2 (lv [.int p2, .int p3])) := by
  refine Mt.go PN33 (Or.inl rfl) ef_RI_3_2 fun k => ?_
  have nz := k.n0le
  replace k := k |>.iloadN D33_0 rfl |>.aloadN D33_1 rfl rfl |>.alen pr1 D33_2 (z := 4) (by decide) |>.icmpYes D33_3 (by decide) |>.iloadN D33_14 rfl
  have z1 := k.sz
  obtain ⟨b1, h1, g1, K1, O1, k⟩ := k.newP (aty := .byte) "[B" (w_0 hw) (by decide) D33_15 2 (by decide) (n := 2) (by decide) (by decide) (by decide) (lv_const (V := [(.int 0), (.int 0)]) rfl)
  replace k := k |>.astoreN D33_17 rfl sto2 |>.aloadN D33_18 rfl rfl |>.iconst D33_19 0 |>.aloadN D33_20 rfl rfl |>.iconst D33_21 0 |>.aloadN D33_22 rfl rfl
  have o2 := pr1.keep K1 nin0
  replace k := k |>.alen o2 D33_23 (z := 4) (by decide) |>.iloadN D33_24 rfl
  replace k := (k.callS (w_159 hw) (S34 hw) (R_Math_min_6 hw) D33_25 4 rfl).pv
  have s_b1 := Nat.le_trans z1 g1
  have n_b1 := Nat.le_trans nz s_b1
  obtain ⟨h4, K4, O4, k⟩ := k.acopy (w_163 hw) (w_166 hw) (w_164 hw) (w_165 hw) o2 O1 ⟨rfl, rfl⟩ (sp' := 0) (by decide) (dp' := 0) (by decide) (nn' := 2) (by decide) (by decide) (by decide) (lv_cpy (V' := [.int p2, .int p3]) rfl rfl) n_b1 D33_28 0
  replace k := k |>.aloadN D33_31 rfl rfl
  exact k.retA D33_32 rfl ⟨_, rfl, (K1.trans K4 (allS (Or.inr s_b1) all0)), b1, rfl, s_b1, O4⟩
theorem R_String__init__64 {a1 w_U8 a2 : Addr} {w_CS p3 p4 : Int32} {w_SF : Value} (hw : HW a0 Z) (pr1 : TS_UI Z w_U8) (pr2 : TS_CS Z w_CS) (pr3 : ¬ (w_CS = 0)) (pr4 : Ary Z h0 a2 ATB 2 (lv [.int p3, .int p4])) (pr5 : p3 < 0) (pr6 : ¬ ((p3 &&& 254) = 194)) (pr7 : w_SF.isRef = true) (pr8 : TS_SF Z w_SF) (pr9 : (p3 >>> ((5 : Int32) &&& 31)) = (-2)) (pr10 : ¬ ((p3 &&& 30) = 0)) (pr11 : (p4 &&& 192) = 128) (pr12 : TS_AD Z) (pr13 : TS_HI Z) (pr14 : TS_LO Z) (pr15 : Obj Z h0 a1 L_String [.null, .int 0]) (pr16 : n0 ≤ a1) : Mt false [] l Y4 C4 (rmk 5 3 8 76) #[.ref a1, .ref w_U8, .ref a2, .int 0, .int 2] Z a0 h0 n0 (K0 h0 [a1] fun h => ∃ b1_7 : Addr, h0.size ≤ b1_7 ∧ Obj Z h a1 L_String [.ref b1_7, .int 1] ∧ Ary Z h b1_7 ATB 2 (lv [.int ((((((p3 <<< ((6 : Int32) &&& 31)) ^^^ p4) ^^^ 3968).toUInt32.toUInt16.toUInt32.toInt32) >>> ((0 : Int32) &&& 31)).toInt8.toInt32), .int ((((((p3 <<< ((6 : Int32) &&& 31)) ^^^ p4) ^^^ 3968).toUInt32.toUInt16.toUInt32.toInt32) >>> ((8 : Int32) &&& 31)).toInt8.toInt32)])) := by
  refine Mt.go PN4 (Or.inr ⟨_, rfl⟩) ef_RRRII_11_0_2 fun k => ?_
  have nz := k.n0le
  replace k := k |>.aloadN D4_0 rfl rfl |>.initO (w_23 hw) (w_24 hw) (w_25 hw) D4_1 0 |>.iload D4_4 rfl |>.ifYes D4_6 (by decide) |>.aloadN D4_30 rfl rfl |>.getS (fl_46 hw) pr1 D4_31 |>.acmpNo D4_34 rfl rfl true (decide_eq_true rfl) (by decide) |>.getS (fl_48 hw) pr2 D4_37 |>.ifNo D4_40 ((if0 _ _).trans (feq pr3).1) |>.aloadN D4_43 rfl rfl |>.iloadN D4_44 rfl |>.iload D4_45 rfl
  replace k := (k.callS (w_49 hw) (S5 hw) (R_StringCoding_countPositives_1 hw pr4 pr5) D4_47 0 rfl).pv
  replace k := k |>.istore D4_50 sto5 |>.iload D4_52 rfl |>.iload D4_54 rfl |>.icmpYes D4_56 (by decide) |>.aloadN D4_78 rfl rfl |>.iloadN D4_79 rfl |>.iloadN D4_80 rfl |>.iload D4_81 rfl |>.iadd D4_83 (z := 2) (by decide)
  have z2 := k.sz
  obtain ⟨_, h2, K2, ⟨b1_2, rfl, f2_0, f2_1⟩, k⟩ := (k.callS (w_53 hw) (S6 hw) (R_Arrays_copyOfRange_1 hw pr4) D4_84 0 rfl).kv
  replace k := k |>.astore D4_87 rfl sto6 |>.iload D4_89 rfl |>.istore D4_91 sto7 |>.iload D4_93 rfl |>.iload D4_95 rfl |>.icmpNo D4_97 (by decide) |>.aload D4_100 rfl rfl |>.iload D4_102 rfl |>.iinc D4_104 rfl (z := 1) (by decide) sto7 |>.bald f2_1 D4_107 (i := 0) (by decide) lvg0 |>.istore D4_108 sto8 |>.iload D4_110 rfl
  replace k := k |>.ifYes D4_112 ((if0 _ _).trans (tlt pr5).1) |>.iload D4_129 rfl |>.sipush D4_131 254 |>.iand D4_134 rfl |>.sipush D4_135 194 |>.icmpYes D4_138 (feq pr6).2 |>.iinc D4_184 rfl (z := 0) (by decide) sto7 |>.goto D4_187 |>.iload D4_190 rfl |>.iload D4_192 rfl |>.icmpYes D4_194 (by decide) |>.iload D4_226 rfl
  have z3 := k.sz
  obtain ⟨_, h3, K3, ⟨b2_3, rfl, f3_0, f3_1⟩, k⟩ := (k.callS (w_100 hw) (S7 hw) (R_StringUTF16_newBytesFor_1 hw) D4_228 0 rfl).kv
  replace k := k |>.astore D4_231 rfl sto8 |>.aload D4_233 rfl rfl |>.iconst D4_235 0 |>.aload D4_236 rfl rfl |>.iconst D4_238 0 |>.iload D4_239 rfl
  replace k := (k.callS (w_108 hw) (S9 hw) (R_StringLatin1_inflate_1 hw f3_1 pr7 pr8) D4_241 0 rfl).p0
  replace k := k |>.aload D4_244 rfl rfl |>.iload D4_246 rfl |>.iload D4_248 rfl |>.aload D4_250 rfl rfl |>.iload D4_252 rfl |>.iconst D4_254 1
  have s_b2_3 := Nat.le_trans z3 f3_0
  have n_b2_3 := Nat.le_trans nz s_b2_3
  have o6 := f2_1.keep K3 nin0
  obtain ⟨_, h5, K5, ⟨rfl, f5_0⟩, k⟩ := (k.callS (w_126 hw) (S15 hw) (R_String_decodeUTF8_UTF16_24 hw o6 pr5 pr9 pr10 pr11 f3_1 n_b2_3 pr12 pr13 pr14) D4_255 0 rfl).kv (allS n_b2_3 all0)
  replace k := k |>.istore D4_258 sto5 |>.iload D4_260 rfl |>.iload D4_262 rfl |>.icmpNo D4_264 (by decide) |>.aload D4_267 rfl rfl |>.iload D4_269 rfl |>.iconst D4_271 1 |>.ishl D4_272 (z := 2) (by decide)
  have z7 := k.sz
  obtain ⟨_, h7, K7, ⟨b1_7, rfl, f7_0, f7_1⟩, k⟩ := (k.callS (w_156 hw) (S33 hw) (R_Arrays_copyOf_6 hw f5_0) D4_273 0 rfl).kv
  replace k := k |>.astore D4_276 rfl sto8 |>.aloadN D4_278 rfl rfl |>.aload D4_279 rfl rfl
  have o8 := (((pr15.keep K2 nin0).keep K3 nin0).keep K5 (ninS (nlt pr15.lt s_b2_3) nin0)).keep K7 nin0
  obtain ⟨h9, K9, O9, k⟩ := k.putF (fl_31 hw) (pw_String_i_String_value hw) o8 0 pr16 (Or.inl rfl) D4_281 rfl rfl rfl ls0
  replace k := k |>.aloadN D4_284 rfl rfl |>.iconst D4_285 1
  obtain ⟨h10, K10, O10, k⟩ := k.putN (fp_32 hw) (pw_String_i_String_coder hw) O9 1 pr16 (Or.inl rfl) D4_286 rfl (v' := (.int 1)) (by decide) (by decide) ls1
  replace k := k |>.goto D4_289
  have s_b1_7 := Nat.le_trans z7 f7_0
  have o11 := (f7_1.keep K9 (ninS (nlt' pr15.lt s_b1_7) nin0)).keep K10 (ninS (nlt' pr15.lt s_b1_7) nin0)
  exact k.ret0 D4_879 rfl ⟨rfl, (((((((Keep.refl h0 [a1]).trans K2 all0).trans K3 all0).trans K5 (allS (Or.inr s_b2_3) all0)).trans K7 all0).trans K9 (allS (Or.inl (List.mem_of_getElem? (i := 0) rfl)) all0)).trans K10 (allS (Or.inl (List.mem_of_getElem? (i := 0) rfl)) all0)), b1_7, s_b1_7, O10, o11⟩
theorem R_String__init__63 {a1 a2 w_U8 : Addr} {p3 p4 w_CS : Int32} {w_SF : Value} (hw : HW a0 Z) (pr1 : Obj Z Z.heap w_U8 L_UTF_8 []) (pr2 : Ary Z h0 a2 ATB 2 (lv [.int p3, .int p4])) (pr3 : ¬ (w_CS = 0)) (pr4 : p3 < 0) (pr5 : ¬ ((p3 &&& 254) = 194)) (pr6 : (p3 >>> ((5 : Int32) &&& 31)) = (-2)) (pr7 : ¬ ((p3 &&& 30) = 0)) (pr8 : (p4 &&& 192) = 128) (pr9 : Obj Z h0 a1 L_String [.null, .int 0]) (pr10 : n0 ≤ a1) (pr11 : w_SF.isRef = true) (pr12 : TS_UI Z w_U8) (pr13 : TS_CS Z w_CS) (pr14 : TS_SF Z w_SF) (pr15 : TS_AD Z) (pr16 : TS_HI Z) (pr17 : TS_LO Z) : Mt false [] l Y2 C2 (rmk 6 3 8 98) #[.ref a1, .ref a2, .ref w_U8] Z a0 h0 n0 (K0 h0 [a1] fun h => ∃ b1_7_2 : Addr, h0.size ≤ b1_7_2 ∧ Obj Z h a1 L_String [.ref b1_7_2, .int 1] ∧ Ary Z h b1_7_2 ATB 2 (lv [.int ((((((p3 <<< ((6 : Int32) &&& 31)) ^^^ p4) ^^^ 3968).toUInt32.toUInt16.toUInt32.toInt32) >>> ((0 : Int32) &&& 31)).toInt8.toInt32), .int ((((((p3 <<< ((6 : Int32) &&& 31)) ^^^ p4) ^^^ 3968).toUInt32.toUInt16.toUInt32.toInt32) >>> ((8 : Int32) &&& 31)).toInt8.toInt32)])) := by
  refine Mt.go PN2 (Or.inl rfl) ef_RRR_3 fun k => ?_
  replace k := k |>.aloadN D2_0 rfl rfl |>.aloadN D2_1 rfl rfl
  replace k := (k.callS (w_13 hw) (S3 hw) (R_Objects_requireNonNull_1 hw) D2_2 1 rfl).pv
  replace k := k |>.castY (w_17 hw) (Ins.of_exa (pr1.ext k.old.2).exa (w_18 hw)) D2_5 |>.aloadN D2_8 rfl rfl |>.iconst D2_9 0 |>.aloadN D2_10 rfl rfl |>.alen pr2 D2_11 (z := 2) (by decide)
  have z2 := k.sz
  obtain ⟨h2, K2, ⟨b1_7_2, f2_0, f2_1, f2_2⟩, k⟩ := (k.callI (w_19 hw) (I4 hw) (R_String__init__64 hw pr12 pr13 pr3 pr2 pr4 pr5 pr11 pr14 pr6 pr7 pr8 pr15 pr16 pr17 pr9 pr10) D2_12 0 rfl).k0 (allS pr10 all0)
  have s_b1_7_2 := Nat.le_trans z2 f2_0
  exact k.ret0 D2_15 rfl ⟨rfl, K2, b1_7_2, s_b1_7_2, f2_1, f2_2⟩
theorem R_Utf8_decodeName_32 {a1 w_U8 : Addr} {p2 p3 w_CS : Int32} {w_SF : Value} (hw : HW a0 Z) (pr1 : TS_U8 Z w_U8) (pr2 : Ary Z h0 a1 ATB 2 (lv [.int p2, .int p3])) (pr3 : ¬ (w_CS = 0)) (pr4 : p2 < 0) (pr5 : ¬ ((p2 &&& 254) = 194)) (pr6 : (p2 >>> ((5 : Int32) &&& 31)) = (-2)) (pr7 : ¬ ((p2 &&& 30) = 0)) (pr8 : (p3 &&& 192) = 128) (pr9 : w_SF.isRef = true) (pr10 : Obj Z Z.heap w_U8 L_UTF_8 []) (pr11 : TS_UI Z w_U8) (pr12 : TS_CS Z w_CS) (pr13 : TS_SF Z w_SF) (pr14 : TS_AD Z) (pr15 : TS_HI Z) (pr16 : TS_LO Z) : Mt false [] l Y1 C1 (rmk 7 4 12 113) #[.ref a1] Z a0 h0 n0 (KpV h0 [] fun v h => ∃ b1 b1_7_2_2 : Addr, v = (.ref b1) ∧ h0.size ≤ b1 ∧ h0.size ≤ b1_7_2_2 ∧ b1_7_2_2 ≠ b1 ∧ Obj Z h b1 L_String [.ref b1_7_2_2, .int 1] ∧ Ary Z h b1_7_2_2 ATB 2 (lv [.int ((((((p2 <<< ((6 : Int32) &&& 31)) ^^^ p3) ^^^ 3968).toUInt32.toUInt16.toUInt32.toInt32) >>> ((0 : Int32) &&& 31)).toInt8.toInt32), .int ((((((p2 <<< ((6 : Int32) &&& 31)) ^^^ p3) ^^^ 3968).toUInt32.toUInt16.toUInt32.toInt32) >>> ((8 : Int32) &&& 31)).toInt8.toInt32)])) := by
  refine Mt.go PN1 (Or.inl rfl) ef_R_1 fun k => ?_
  have nz := k.n0le
  have z1 := k.sz
  obtain ⟨b1, h1, g1, K1, O1, k⟩ := k.new (w_5 hw) (nw_String hw) D1_0 (by decide) dvL_String
  replace k := k |>.dup D1_3 rfl |>.aloadN D1_4 rfl rfl |>.getS (fl_8 hw) pr1 D1_5
  have s_b1 := Nat.le_trans z1 g1
  have n_b1 := Nat.le_trans nz s_b1
  have o3 := pr2.keep K1 nin0
  have z2 := k.sz
  obtain ⟨h2, K2, ⟨b1_7_2_2, f2_0, f2_1, f2_2⟩, k⟩ := (k.callI (w_10 hw) (I2 hw) (R_String__init__63 hw pr10 o3 pr3 pr4 pr5 pr6 pr7 pr8 O1 n_b1 pr9 pr11 pr12 pr13 pr14 pr15 pr16) D1_8 1 rfl).k0 (allS n_b1 all0)
  have s_b1_7_2_2 := Nat.le_trans z2 f2_0
  exact k.retA D1_11 rfl ⟨_, rfl, (K1.trans K2 (allS (Or.inr s_b1) all0)), b1, b1_7_2_2, rfl, s_b1, s_b1_7_2_2, (nlt' O1.lt f2_0), f2_1, f2_2⟩
theorem R_String_length_6 {a1 a2 : Addr} {p3 p4 w_CS : Int32} (hw : HW a0 Z) (pr1 : Obj Z h0 a1 L_String [.ref a2, .int 1]) (pr2 : Ary Z h0 a2 ATB 2 (lv [.int p3, .int p4])) (pr3 : ¬ (w_CS = 0)) (pr4 : TS_CS Z w_CS) : Mt false [] l Y18 C18 (rmk 1 0 0 13) #[.ref a1] Z a0 h0 n0 (Pv h0 (.int 1)) := by
  refine Mt.go PN18 (Or.inl rfl) ef_R_1 fun k => ?_
  replace k := k |>.aloadN D18_0 rfl rfl |>.getF (fl_31 hw) pr1 0 D18_1 rfl rfl |>.alen pr2 D18_4 (z := 2) (by decide) |>.aloadN D18_5 rfl rfl
  replace k := (k.callV (w_72 hw) (V_Y19_19_String hw) pr1.exa (R_String_coder_1 hw pr4 pr3 pr1) D18_6 1 rfl).pv
  replace k := k |>.ishr D18_9 (z := 1) (by decide)
  exact k.retI D18_10 rfl ⟨rfl, rfl⟩
theorem R_StringUTF16_length_8 {a1 : Addr} {p2 p3 : Int32} (hw : HW a0 Z) (pr1 : Ary Z h0 a1 ATB 2 (lv [.int p2, .int p3])) : Mt false [] l Y12 C12 (rmk 0 0 0 0) #[.ref a1] Z a0 h0 n0 (Pv h0 (.int 1)) := by
  refine Mt.go PN12 (Or.inl rfl) ef_R_1 fun k => ?_
  replace k := k |>.aloadN D12_0 rfl rfl |>.alen pr1 D12_1 (z := 2) (by decide) |>.iconst D12_2 1 |>.ishr D12_3 (z := 1) (by decide)
  exact k.retI D12_4 rfl ⟨rfl, rfl⟩
theorem R_StringUTF16_checkIndex_8 {a1 : Addr} {p2 p3 : Int32} {w_SF : Value} (hw : HW a0 Z) (pr1 : Ary Z h0 a1 ATB 2 (lv [.int p2, .int p3])) (pr2 : w_SF.isRef = true) (pr3 : TS_SF Z w_SF) : Mt false [] l Y23 C23 (rmk 2 0 0 27) #[.int 0, .ref a1] Z a0 h0 n0 (P0 h0) := by
  refine Mt.go PN23 (Or.inl rfl) ef_IR_2_0 fun k => ?_
  replace k := k |>.iloadN D23_0 rfl |>.aloadN D23_1 rfl rfl
  replace k := (k.callS (w_117 hw) (S12 hw) (R_StringUTF16_length_8 hw pr1) D23_2 1 rfl).pv
  replace k := (k.callS (w_173 hw) (S24 hw) (R_String_checkIndex_6 hw pr2 pr3) D23_5 0 rfl).p0
  exact k.ret0 D23_8 rfl ⟨rfl, rfl⟩
theorem R_StringUTF16_getChar_8 {a1 : Addr} {p2 p3 : Int32} (hw : HW a0 Z) (pr1 : TS_AD Z) (pr2 : Ary Z h0 a1 ATB 2 (lv [.int p2, .int p3])) (pr3 : TS_HI Z) (pr4 : TS_LO Z) : Mt false [] l Y26 C26 (rmk 0 0 0 0) #[.ref a1, .int 0] Z a0 h0 n0 (Pv h0 (.int ((((p2 &&& 255) <<< ((0 : Int32) &&& 31)) ||| ((p3 &&& 255) <<< ((8 : Int32) &&& 31))).toUInt32.toUInt16.toUInt32.toInt32))) := by
  refine Mt.go PN26 (Or.inl rfl) ef_RI_2_0 fun k => ?_
  replace k := k |>.getS (fl_149 hw) pr1 D26_0 |>.ifYes D26_3 (by decide) |>.iloadN D26_28 rfl |>.iconst D26_29 1 |>.ishl D26_30 (z := 0) (by decide) |>.istoreN D26_31 sto1 |>.aloadN D26_32 rfl rfl |>.iloadN D26_33 rfl |>.iinc D26_34 rfl (z := 1) (by decide) sto1 |>.bald pr2 D26_37 (i := 0) (by decide) lvg0 |>.sipush D26_38 255 |>.iand D26_41 rfl
  replace k := k |>.getS (fl_150 hw) pr3 D26_42 |>.ishl D26_45 rfl |>.aloadN D26_46 rfl rfl |>.iloadN D26_47 rfl |>.bald pr2 D26_48 (i := 1) (by decide) lvg1 |>.sipush D26_49 255 |>.iand D26_52 rfl |>.getS (fl_151 hw) pr4 D26_53 |>.ishl D26_56 rfl |>.ior D26_57 rfl |>.i2c D26_58 rfl
  exact k.retN (t := .char) D26_59 rfl (by simp) (own_nnCi2c _) ⟨rfl, rfl⟩
theorem R_StringUTF16_charAt_8 {a1 : Addr} {p2 p3 : Int32} {w_SF : Value} (hw : HW a0 Z) (pr1 : Ary Z h0 a1 ATB 2 (lv [.int p2, .int p3])) (pr2 : w_SF.isRef = true) (pr3 : TS_SF Z w_SF) (pr4 : TS_AD Z) (pr5 : TS_HI Z) (pr6 : TS_LO Z) : Mt false [] l Y22 C22 (rmk 3 0 0 40) #[.ref a1, .int 0] Z a0 h0 n0 (Pv h0 (.int ((((p2 &&& 255) <<< ((0 : Int32) &&& 31)) ||| ((p3 &&& 255) <<< ((8 : Int32) &&& 31))).toUInt32.toUInt16.toUInt32.toInt32))) := by
  refine Mt.go PN22 (Or.inl rfl) ef_RI_2_0 fun k => ?_
  replace k := k |>.iloadN D22_0 rfl |>.aloadN D22_1 rfl rfl
  replace k := (k.callS (w_170 hw) (S23 hw) (R_StringUTF16_checkIndex_8 hw pr1 pr2 pr3) D22_2 0 rfl).p0
  replace k := k |>.aloadN D22_5 rfl rfl |>.iloadN D22_6 rfl
  replace k := (k.callS (w_174 hw) (S26 hw) (R_StringUTF16_getChar_8 hw pr4 pr1 pr5 pr6) D22_7 0 rfl).pv
  exact k.retN (t := .char) D22_10 rfl (by simp) (own_nnCi2c _) ⟨rfl, rfl⟩
theorem R_String_charAt_11 {a1 a2 : Addr} {w_CS p3 p4 : Int32} {w_SF : Value} (hw : HW a0 Z) (pr1 : Obj Z h0 a1 L_String [.ref a2, .int 1]) (pr2 : ¬ (w_CS = 0)) (pr3 : TS_CS Z w_CS) (pr4 : Ary Z h0 a2 ATB 2 (lv [.int p3, .int p4])) (pr5 : w_SF.isRef = true) (pr6 : TS_SF Z w_SF) (pr7 : TS_AD Z) (pr8 : TS_HI Z) (pr9 : TS_LO Z) : Mt false [] l Y20 C20 (rmk 4 0 0 53) #[.ref a1, .int 0] Z a0 h0 n0 (Pv h0 (.int ((((p3 &&& 255) <<< ((0 : Int32) &&& 31)) ||| ((p4 &&& 255) <<< ((8 : Int32) &&& 31))).toUInt32.toUInt16.toUInt32.toInt32))) := by
  refine Mt.go PN20 (Or.inl rfl) ef_RI_2_0 fun k => ?_
  replace k := k |>.aloadN D20_0 rfl rfl
  replace k := (k.callV (w_82 hw) (V_Y21_21_String hw) pr1.exa (R_String_isLatin1_1 hw pr3 pr2 pr1) D20_1 0 rfl).pv
  replace k := k |>.ifYes D20_4 (by decide) |>.aloadN D20_16 rfl rfl |>.getF (fl_31 hw) pr1 0 D20_17 rfl rfl |>.iloadN D20_20 rfl
  replace k := (k.callS (w_167 hw) (S22 hw) (R_StringUTF16_charAt_8 hw pr4 pr5 pr6 pr7 pr8 pr9) D20_21 0 rfl).pv
  exact k.retN (t := .char) D20_24 rfl (by simp) (own_nnCi2c _) ⟨rfl, rfl⟩
theorem D30_172 : Dc J30 172 (.iconst 3) 1 173 := by decide +kernel
theorem D30_173 : Dc J30 173 (.newarray .byte) 2 175 := by decide +kernel
theorem D30_175 : Dc J30 175 .dup 1 176 := by decide +kernel
theorem D30_176 : Dc J30 176 (.iconst 0) 1 177 := by decide +kernel
theorem D30_177 : Dc J30 177 (.iload 5) 2 179 := by decide +kernel
theorem D30_179 : Dc J30 179 .bastore 1 180 := by decide +kernel
theorem D30_180 : Dc J30 180 .dup 1 181 := by decide +kernel
theorem D30_181 : Dc J30 181 (.iconst 1) 1 182 := by decide +kernel
theorem D30_182 : Dc J30 182 (.iload 6) 2 184 := by decide +kernel
theorem D30_184 : Dc J30 184 .bastore 1 185 := by decide +kernel
theorem D30_185 : Dc J30 185 .dup 1 186 := by decide +kernel
theorem D30_186 : Dc J30 186 (.iconst 2) 1 187 := by decide +kernel
theorem D30_187 : Dc J30 187 (.iload 7) 2 189 := by decide +kernel
theorem D30_189 : Dc J30 189 .bastore 1 190 := by decide +kernel
theorem D30_190 : Dc J30 190 .areturn 1 191 := by decide +kernel
theorem R_Utf8DecodeNamePinLaw_encode_7 {p1 p2 p3 : Int32} (hw : HW a0 Z) (pr1 : ¬ (p2 = 0)) (pr2 : ¬ (p2 = 1)) (pr3 : p2 = 2) : Mt false [] l Y30 C30 (rmk 0 1 3 0) #[.int p1, .int p2, .int 0, .int p3] Z a0 h0 n0 (KpV h0 [] fun v h => ∃ b1 : Addr, v = (.ref b1) ∧ h0.size ≤ b1 ∧ Ary Z h b1 ATB 3 (lv [.int ((224 ||| (p1 >>> ((12 : Int32) &&& 31))).toInt8.toInt32), .int ((128 ||| ((p1 >>> ((6 : Int32) &&& 31)) &&& 63)).toInt8.toInt32), .int ((128 ||| (p1 &&& 63)).toInt8.toInt32)])) := by
  refine Mt.go PN30 (Or.inl rfl) ef_IIII_9_0 fun k => ?_
  have nz := k.n0le
  replace k := k |>.iloadN D30_0 rfl |>.i2b D30_1 rfl |>.istore D30_2 sto4 |>.iloadN D30_4 rfl |>.ifYes D30_5 ((if0 _ _).trans (feq pr1).2) |>.iloadN D30_39 rfl |>.iconst D30_40 1 |>.icmpYes D30_41 (feq pr2).2 |>.iloadN D30_103 rfl |>.iconst D30_104 2 |>.icmpNo D30_105 (teq pr3).2 |>.sipush D30_108 224
  replace k := k |>.iloadN D30_111 rfl |>.bipush D30_112 12 |>.ishr D30_114 rfl |>.ior D30_115 rfl |>.i2b D30_116 rfl |>.istore D30_117 sto5 |>.sipush D30_119 128 |>.iloadN D30_122 rfl |>.bipush D30_123 6 |>.ishr D30_125 rfl |>.bipush D30_126 63 |>.iand D30_128 rfl
  replace k := k |>.ior D30_129 rfl |>.i2b D30_130 rfl |>.istore D30_131 sto6 |>.sipush D30_133 128 |>.iloadN D30_136 rfl |>.bipush D30_137 63 |>.iand D30_139 rfl |>.ior D30_140 rfl |>.i2b D30_141 rfl |>.istore D30_142 sto7 |>.iloadN D30_144 rfl |>.ifYes D30_145 (by decide)
  replace k := k |>.iconst D30_172 3
  have z1 := k.sz
  obtain ⟨b1, h1, g1, K1, O1, k⟩ := k.newP (aty := .byte) "[B" (w_0 hw) (by decide) D30_173 3 (by decide) (n := 3) (by decide) (by decide) (by decide) (lv_const (V := [(.int 0), (.int 0), (.int 0)]) rfl)
  replace k := k |>.dup D30_175 rfl |>.iconst D30_176 0 |>.iload D30_177 rfl
  have s_b1 := Nat.le_trans z1 g1
  have n_b1 := Nat.le_trans nz s_b1
  obtain ⟨h2, K2, O2, k⟩ := k.stB O1 n_b1 (Or.inl rfl) D30_179 (i := 0) (by decide) (v := (.int ((224 ||| (p1 >>> ((12 : Int32) &&& 31))).toInt8.toInt32))) (congrArg Value.int (own_nnBi2b _)) (own_fitBi2b _) lvs0
  replace k := k |>.dup D30_180 rfl |>.iconst D30_181 1 |>.iload D30_182 rfl
  obtain ⟨h3, K3, O3, k⟩ := k.stB O2 n_b1 (Or.inl rfl) D30_184 (i := 1) (by decide) (v := (.int ((128 ||| ((p1 >>> ((6 : Int32) &&& 31)) &&& 63)).toInt8.toInt32))) (congrArg Value.int (own_nnBi2b _)) (own_fitBi2b _) lvs1
  replace k := k |>.dup D30_185 rfl |>.iconst D30_186 2 |>.iload D30_187 rfl
  obtain ⟨h4, K4, O4, k⟩ := k.stB O3 n_b1 (Or.inl rfl) D30_189 (i := 2) (by decide) (v := (.int ((128 ||| (p1 &&& 63)).toInt8.toInt32))) (congrArg Value.int (own_nnBi2b _)) (own_fitBi2b _) lvs2
  exact k.retA D30_190 rfl ⟨_, rfl, (((K1.trans K2 (allS (Or.inr s_b1) all0)).trans K3 (allS (Or.inr s_b1) all0)).trans K4 (allS (Or.inr s_b1) all0)), b1, rfl, s_b1, O4⟩
theorem R_String_decodeUTF8_UTF16_26 {a1 a2 : Addr} {p3 p4 p5 : Int32} (hw : HW a0 Z) (pr1 : Ary Z h0 a1 ATB 3 (lv [.int p3, .int p4, .int p5])) (pr2 : p3 < 0) (pr3 : ¬ ((p3 >>> ((5 : Int32) &&& 31)) = (-2))) (pr4 : (p3 >>> ((4 : Int32) &&& 31)) = (-2)) (pr5 : p3 = (-32)) (pr6 : ¬ ((p4 &&& 224) = 128)) (pr7 : (p4 &&& 192) = 128) (pr8 : (p5 &&& 192) = 128) (pr9 : ((((p3 <<< ((12 : Int32) &&& 31)) ^^^ (p4 <<< ((6 : Int32) &&& 31))) ^^^ (p5 ^^^ (-123008))).toUInt32.toUInt16.toUInt32.toInt32) < 55296) (pr10 : Ary Z h0 a2 ATB 6 (lv [.int 0, .int 0, .int 0, .int 0, .int 0, .int 0])) (pr11 : n0 ≤ a2) (pr12 : TS_AD Z) (pr13 : TS_HI Z) (pr14 : TS_LO Z) : Mt false [] l Y15 C15 (rmk 1 0 0 14) #[.ref a1, .int 0, .int 3, .ref a2, .int 0, .int 1] Z a0 h0 n0 (KpV h0 [a2] fun v h => v = (.int 1) ∧ Ary Z h a2 ATB 6 (lv [.int ((((((p3 <<< ((12 : Int32) &&& 31)) ^^^ (p4 <<< ((6 : Int32) &&& 31))) ^^^ (p5 ^^^ (-123008))).toUInt32.toUInt16.toUInt32.toInt32) >>> ((0 : Int32) &&& 31)).toInt8.toInt32), .int ((((((p3 <<< ((12 : Int32) &&& 31)) ^^^ (p4 <<< ((6 : Int32) &&& 31))) ^^^ (p5 ^^^ (-123008))).toUInt32.toUInt16.toUInt32.toInt32) >>> ((8 : Int32) &&& 31)).toInt8.toInt32), .int 0, .int 0, .int 0, .int 0])) := by
  refine Mt.go PN15 (Or.inl rfl) ef_RIIRII_11_0_3_0_1 fun k => ?_
  replace k := k |>.iloadN D15_0 rfl |>.iloadN D15_1 rfl |>.icmpNo D15_2 (by decide) |>.aloadN D15_5 rfl rfl |>.iloadN D15_6 rfl |>.iinc D15_7 rfl (z := 1) (by decide) sto1 |>.bald pr1 D15_10 (i := 0) (by decide) lvg0 |>.istore D15_11 sto6 |>.iload D15_13 rfl |>.ifYes D15_15 ((if0 _ _).trans (tlt pr2).1) |>.iload D15_33 rfl |>.iconst D15_35 5
  replace k := k |>.ishr D15_36 rfl |>.bipush D15_37 (-2) |>.icmpYes D15_39 (feq pr3).2 |>.iload D15_143 rfl |>.iconst D15_145 4 |>.ishr D15_146 rfl |>.bipush D15_147 (-2) |>.icmpNo D15_149 (teq pr4).2 |>.iloadN D15_152 rfl |>.iconst D15_153 1 |>.iadd D15_154 (z := 2) (by decide) |>.iloadN D15_155 rfl
  replace k := k |>.icmpNo D15_156 (by decide) |>.aloadN D15_159 rfl rfl |>.iloadN D15_160 rfl |>.iinc D15_161 rfl (z := 2) (by decide) sto1 |>.bald pr1 D15_164 (i := 1) (by decide) lvg1 |>.istore D15_165 sto7 |>.aloadN D15_167 rfl rfl |>.iloadN D15_168 rfl |>.iinc D15_169 rfl (z := 3) (by decide) sto1 |>.bald pr1 D15_172 (i := 2) (by decide) lvg2 |>.istore D15_173 sto8 |>.iload D15_175 rfl
  replace k := k |>.iload D15_177 rfl |>.iload D15_179 rfl
  replace k := (k.callS (w_194 hw) (S35 hw) (R_String_isMalformed3_2 hw pr5 pr6 pr7 pr8) D15_181 0 rfl).pv
  replace k := k |>.ifYes D15_184 (by decide) |>.iload D15_224 rfl |>.iload D15_226 rfl |>.iload D15_228 rfl
  replace k := (k.callS (w_197 hw) (S36 hw) (R_String_decode3_1 hw) D15_230 0 rfl).pv
  replace k := k |>.istore D15_233 sto9 |>.iload D15_235 rfl
  replace k := (k.callS (w_201 hw) (S37 hw) (R_Character_isSurrogate_1 hw pr9) D15_237 0 rfl).pv
  replace k := k |>.ifYes D15_240 (by decide) |>.aloadN D15_269 rfl rfl |>.iload D15_270 rfl |>.iinc D15_272 rfl (z := 1) (by decide) sto4 |>.iload D15_275 rfl
  obtain ⟨h4, K4, f4_0, k⟩ := (k.callS (w_146 hw) (S17 hw) (R_StringUTF16_putChar_3 hw pr12 pr13 pr10 pr11 pr14) D15_277 0 rfl).k0 (allS pr11 all0)
  replace k := k |>.goto D15_280 |>.iloadN D15_0 rfl |>.iloadN D15_1 rfl |>.icmpYes D15_2 (by decide) |>.iload D15_621 rfl
  exact k.retI D15_623 rfl ⟨_, rfl, K4, rfl, f4_0⟩
theorem ef_II_2_6_2   (m : MethodId) : entryFrame m #[(.int 6), (.int 2)] 2 = mkF m 0 #[.val (.int 6), .val (.int 2)] [] := by
  first | (simp [entryFrame, mkF, argsToLocals, Value.category]; done) | rfl
theorem R_Math_min_7 (hw : HW a0 Z) : Mt false [] l Y34 C34 (rmk 0 0 0 0) #[.int 6, .int 2] Z a0 h0 n0 (Pv h0 (.int 2)) := by
  refine Mt.go PN34 (Or.inl rfl) ef_II_2_6_2 fun k => ?_
  replace k := k |>.iloadN D34_0 rfl |>.iloadN D34_1 rfl |>.icmpYes D34_2 (by decide) |>.iloadN D34_9 rfl
  exact k.retI D34_10 rfl ⟨rfl, rfl⟩
theorem R_Arrays_copyOf_7 {a1 : Addr} {p2 p3 : Int32} (hw : HW a0 Z) (pr1 : Ary Z h0 a1 ATB 6 (lv [.int p2, .int p3, .int 0, .int 0, .int 0, .int 0])) : Mt false [] l Y33 C33 (rmk 1 1 2 18) #[.ref a1, .int 2] Z a0 h0 n0 (KpV h0 [] fun v h => ∃ b1 : Addr, v = (.ref b1) ∧ h0.size ≤ b1 ∧ Ary Z h b1 ATB 2 (lv [.int p2, .int p3])) := by
  refine Mt.go PN33 (Or.inl rfl) ef_RI_3_2 fun k => ?_
  have nz := k.n0le
  replace k := k |>.iloadN D33_0 rfl |>.aloadN D33_1 rfl rfl |>.alen pr1 D33_2 (z := 6) (by decide) |>.icmpYes D33_3 (by decide) |>.iloadN D33_14 rfl
  have z1 := k.sz
  obtain ⟨b1, h1, g1, K1, O1, k⟩ := k.newP (aty := .byte) "[B" (w_0 hw) (by decide) D33_15 2 (by decide) (n := 2) (by decide) (by decide) (by decide) (lv_const (V := [(.int 0), (.int 0)]) rfl)
  replace k := k |>.astoreN D33_17 rfl sto2 |>.aloadN D33_18 rfl rfl |>.iconst D33_19 0 |>.aloadN D33_20 rfl rfl |>.iconst D33_21 0 |>.aloadN D33_22 rfl rfl
  have o2 := pr1.keep K1 nin0
  replace k := k |>.alen o2 D33_23 (z := 6) (by decide) |>.iloadN D33_24 rfl
  replace k := (k.callS (w_159 hw) (S34 hw) (R_Math_min_7 hw) D33_25 4 rfl).pv
  have s_b1 := Nat.le_trans z1 g1
  have n_b1 := Nat.le_trans nz s_b1
  obtain ⟨h4, K4, O4, k⟩ := k.acopy (w_163 hw) (w_166 hw) (w_164 hw) (w_165 hw) o2 O1 ⟨rfl, rfl⟩ (sp' := 0) (by decide) (dp' := 0) (by decide) (nn' := 2) (by decide) (by decide) (by decide) (lv_cpy (V' := [.int p2, .int p3]) rfl rfl) n_b1 D33_28 0
  replace k := k |>.aloadN D33_31 rfl rfl
  exact k.retA D33_32 rfl ⟨_, rfl, (K1.trans K4 (allS (Or.inr s_b1) all0)), b1, rfl, s_b1, O4⟩
theorem R_String__init__68 {a1 w_U8 a2 : Addr} {w_CS p3 p4 p5 : Int32} {w_SF : Value} (hw : HW a0 Z) (pr1 : TS_UI Z w_U8) (pr2 : TS_CS Z w_CS) (pr3 : ¬ (w_CS = 0)) (pr4 : Ary Z h0 a2 ATB 3 (lv [.int p3, .int p4, .int p5])) (pr5 : p3 < 0) (pr6 : ¬ ((p3 &&& 254) = 194)) (pr7 : w_SF.isRef = true) (pr8 : TS_SF Z w_SF) (pr9 : ¬ ((p3 >>> ((5 : Int32) &&& 31)) = (-2))) (pr10 : (p3 >>> ((4 : Int32) &&& 31)) = (-2)) (pr11 : p3 = (-32)) (pr12 : ¬ ((p4 &&& 224) = 128)) (pr13 : (p4 &&& 192) = 128) (pr14 : (p5 &&& 192) = 128) (pr15 : ((((p3 <<< ((12 : Int32) &&& 31)) ^^^ (p4 <<< ((6 : Int32) &&& 31))) ^^^ (p5 ^^^ (-123008))).toUInt32.toUInt16.toUInt32.toInt32) < 55296) (pr16 : TS_AD Z) (pr17 : TS_HI Z) (pr18 : TS_LO Z) (pr19 : Obj Z h0 a1 L_String [.null, .int 0]) (pr20 : n0 ≤ a1) : Mt false [] l Y4 C4 (rmk 5 3 11 76) #[.ref a1, .ref w_U8, .ref a2, .int 0, .int 3] Z a0 h0 n0 (K0 h0 [a1] fun h => ∃ b1_7 : Addr, h0.size ≤ b1_7 ∧ Obj Z h a1 L_String [.ref b1_7, .int 1] ∧ Ary Z h b1_7 ATB 2 (lv [.int ((((((p3 <<< ((12 : Int32) &&& 31)) ^^^ (p4 <<< ((6 : Int32) &&& 31))) ^^^ (p5 ^^^ (-123008))).toUInt32.toUInt16.toUInt32.toInt32) >>> ((0 : Int32) &&& 31)).toInt8.toInt32), .int ((((((p3 <<< ((12 : Int32) &&& 31)) ^^^ (p4 <<< ((6 : Int32) &&& 31))) ^^^ (p5 ^^^ (-123008))).toUInt32.toUInt16.toUInt32.toInt32) >>> ((8 : Int32) &&& 31)).toInt8.toInt32)])) := by
  refine Mt.go PN4 (Or.inr ⟨_, rfl⟩) ef_RRRII_11_0_3 fun k => ?_
  have nz := k.n0le
  replace k := k |>.aloadN D4_0 rfl rfl |>.initO (w_23 hw) (w_24 hw) (w_25 hw) D4_1 0 |>.iload D4_4 rfl |>.ifYes D4_6 (by decide) |>.aloadN D4_30 rfl rfl |>.getS (fl_46 hw) pr1 D4_31 |>.acmpNo D4_34 rfl rfl true (decide_eq_true rfl) (by decide) |>.getS (fl_48 hw) pr2 D4_37 |>.ifNo D4_40 ((if0 _ _).trans (feq pr3).1) |>.aloadN D4_43 rfl rfl |>.iloadN D4_44 rfl |>.iload D4_45 rfl
  replace k := (k.callS (w_49 hw) (S5 hw) (R_StringCoding_countPositives_3 hw pr4 pr5) D4_47 0 rfl).pv
  replace k := k |>.istore D4_50 sto5 |>.iload D4_52 rfl |>.iload D4_54 rfl |>.icmpYes D4_56 (by decide) |>.aloadN D4_78 rfl rfl |>.iloadN D4_79 rfl |>.iloadN D4_80 rfl |>.iload D4_81 rfl |>.iadd D4_83 (z := 3) (by decide)
  have z2 := k.sz
  obtain ⟨_, h2, K2, ⟨b1_2, rfl, f2_0, f2_1⟩, k⟩ := (k.callS (w_53 hw) (S6 hw) (R_Arrays_copyOfRange_2 hw pr4) D4_84 0 rfl).kv
  replace k := k |>.astore D4_87 rfl sto6 |>.iload D4_89 rfl |>.istore D4_91 sto7 |>.iload D4_93 rfl |>.iload D4_95 rfl |>.icmpNo D4_97 (by decide) |>.aload D4_100 rfl rfl |>.iload D4_102 rfl |>.iinc D4_104 rfl (z := 1) (by decide) sto7 |>.bald f2_1 D4_107 (i := 0) (by decide) lvg0 |>.istore D4_108 sto8 |>.iload D4_110 rfl
  replace k := k |>.ifYes D4_112 ((if0 _ _).trans (tlt pr5).1) |>.iload D4_129 rfl |>.sipush D4_131 254 |>.iand D4_134 rfl |>.sipush D4_135 194 |>.icmpYes D4_138 (feq pr6).2 |>.iinc D4_184 rfl (z := 0) (by decide) sto7 |>.goto D4_187 |>.iload D4_190 rfl |>.iload D4_192 rfl |>.icmpYes D4_194 (by decide) |>.iload D4_226 rfl
  have z3 := k.sz
  obtain ⟨_, h3, K3, ⟨b2_3, rfl, f3_0, f3_1⟩, k⟩ := (k.callS (w_100 hw) (S7 hw) (R_StringUTF16_newBytesFor_2 hw) D4_228 0 rfl).kv
  replace k := k |>.astore D4_231 rfl sto8 |>.aload D4_233 rfl rfl |>.iconst D4_235 0 |>.aload D4_236 rfl rfl |>.iconst D4_238 0 |>.iload D4_239 rfl
  replace k := (k.callS (w_108 hw) (S9 hw) (R_StringLatin1_inflate_2 hw f3_1 pr7 pr8) D4_241 0 rfl).p0
  replace k := k |>.aload D4_244 rfl rfl |>.iload D4_246 rfl |>.iload D4_248 rfl |>.aload D4_250 rfl rfl |>.iload D4_252 rfl |>.iconst D4_254 1
  have s_b2_3 := Nat.le_trans z3 f3_0
  have n_b2_3 := Nat.le_trans nz s_b2_3
  have o6 := f2_1.keep K3 nin0
  obtain ⟨_, h5, K5, ⟨rfl, f5_0⟩, k⟩ := (k.callS (w_126 hw) (S15 hw) (R_String_decodeUTF8_UTF16_26 hw o6 pr5 pr9 pr10 pr11 pr12 pr13 pr14 pr15 f3_1 n_b2_3 pr16 pr17 pr18) D4_255 0 rfl).kv (allS n_b2_3 all0)
  replace k := k |>.istore D4_258 sto5 |>.iload D4_260 rfl |>.iload D4_262 rfl |>.icmpNo D4_264 (by decide) |>.aload D4_267 rfl rfl |>.iload D4_269 rfl |>.iconst D4_271 1 |>.ishl D4_272 (z := 2) (by decide)
  have z7 := k.sz
  obtain ⟨_, h7, K7, ⟨b1_7, rfl, f7_0, f7_1⟩, k⟩ := (k.callS (w_156 hw) (S33 hw) (R_Arrays_copyOf_7 hw f5_0) D4_273 0 rfl).kv
  replace k := k |>.astore D4_276 rfl sto8 |>.aloadN D4_278 rfl rfl |>.aload D4_279 rfl rfl
  have o8 := (((pr19.keep K2 nin0).keep K3 nin0).keep K5 (ninS (nlt pr19.lt s_b2_3) nin0)).keep K7 nin0
  obtain ⟨h9, K9, O9, k⟩ := k.putF (fl_31 hw) (pw_String_i_String_value hw) o8 0 pr20 (Or.inl rfl) D4_281 rfl rfl rfl ls0
  replace k := k |>.aloadN D4_284 rfl rfl |>.iconst D4_285 1
  obtain ⟨h10, K10, O10, k⟩ := k.putN (fp_32 hw) (pw_String_i_String_coder hw) O9 1 pr20 (Or.inl rfl) D4_286 rfl (v' := (.int 1)) (by decide) (by decide) ls1
  replace k := k |>.goto D4_289
  have s_b1_7 := Nat.le_trans z7 f7_0
  have o11 := (f7_1.keep K9 (ninS (nlt' pr19.lt s_b1_7) nin0)).keep K10 (ninS (nlt' pr19.lt s_b1_7) nin0)
  exact k.ret0 D4_879 rfl ⟨rfl, (((((((Keep.refl h0 [a1]).trans K2 all0).trans K3 all0).trans K5 (allS (Or.inr s_b2_3) all0)).trans K7 all0).trans K9 (allS (Or.inl (List.mem_of_getElem? (i := 0) rfl)) all0)).trans K10 (allS (Or.inl (List.mem_of_getElem? (i := 0) rfl)) all0)), b1_7, s_b1_7, O10, o11⟩
theorem R_String__init__67 {a1 a2 w_U8 : Addr} {p3 p4 p5 w_CS : Int32} {w_SF : Value} (hw : HW a0 Z) (pr1 : Obj Z Z.heap w_U8 L_UTF_8 []) (pr2 : Ary Z h0 a2 ATB 3 (lv [.int p3, .int p4, .int p5])) (pr3 : ¬ (w_CS = 0)) (pr4 : p3 < 0) (pr5 : ¬ ((p3 &&& 254) = 194)) (pr6 : ¬ ((p3 >>> ((5 : Int32) &&& 31)) = (-2))) (pr7 : (p3 >>> ((4 : Int32) &&& 31)) = (-2)) (pr8 : p3 = (-32)) (pr9 : ¬ ((p4 &&& 224) = 128)) (pr10 : (p4 &&& 192) = 128) (pr11 : (p5 &&& 192) = 128) (pr12 : ((((p3 <<< ((12 : Int32) &&& 31)) ^^^ (p4 <<< ((6 : Int32) &&& 31))) ^^^ (p5 ^^^ (-123008))).toUInt32.toUInt16.toUInt32.toInt32) < 55296) (pr13 : Obj Z h0 a1 L_String [.null, .int 0]) (pr14 : n0 ≤ a1) (pr15 : w_SF.isRef = true) (pr16 : TS_UI Z w_U8) (pr17 : TS_CS Z w_CS) (pr18 : TS_SF Z w_SF) (pr19 : TS_AD Z) (pr20 : TS_HI Z) (pr21 : TS_LO Z) : Mt false [] l Y2 C2 (rmk 6 3 11 98) #[.ref a1, .ref a2, .ref w_U8] Z a0 h0 n0 (K0 h0 [a1] fun h => ∃ b1_7_2 : Addr, h0.size ≤ b1_7_2 ∧ Obj Z h a1 L_String [.ref b1_7_2, .int 1] ∧ Ary Z h b1_7_2 ATB 2 (lv [.int ((((((p3 <<< ((12 : Int32) &&& 31)) ^^^ (p4 <<< ((6 : Int32) &&& 31))) ^^^ (p5 ^^^ (-123008))).toUInt32.toUInt16.toUInt32.toInt32) >>> ((0 : Int32) &&& 31)).toInt8.toInt32), .int ((((((p3 <<< ((12 : Int32) &&& 31)) ^^^ (p4 <<< ((6 : Int32) &&& 31))) ^^^ (p5 ^^^ (-123008))).toUInt32.toUInt16.toUInt32.toInt32) >>> ((8 : Int32) &&& 31)).toInt8.toInt32)])) := by
  refine Mt.go PN2 (Or.inl rfl) ef_RRR_3 fun k => ?_
  replace k := k |>.aloadN D2_0 rfl rfl |>.aloadN D2_1 rfl rfl
  replace k := (k.callS (w_13 hw) (S3 hw) (R_Objects_requireNonNull_1 hw) D2_2 1 rfl).pv
  replace k := k |>.castY (w_17 hw) (Ins.of_exa (pr1.ext k.old.2).exa (w_18 hw)) D2_5 |>.aloadN D2_8 rfl rfl |>.iconst D2_9 0 |>.aloadN D2_10 rfl rfl |>.alen pr2 D2_11 (z := 3) (by decide)
  have z2 := k.sz
  obtain ⟨h2, K2, ⟨b1_7_2, f2_0, f2_1, f2_2⟩, k⟩ := (k.callI (w_19 hw) (I4 hw) (R_String__init__68 hw pr16 pr17 pr3 pr2 pr4 pr5 pr15 pr18 pr6 pr7 pr8 pr9 pr10 pr11 pr12 pr19 pr20 pr21 pr13 pr14) D2_12 0 rfl).k0 (allS pr14 all0)
  have s_b1_7_2 := Nat.le_trans z2 f2_0
  exact k.ret0 D2_15 rfl ⟨rfl, K2, b1_7_2, s_b1_7_2, f2_1, f2_2⟩
theorem R_Utf8_decodeName_34 {a1 w_U8 : Addr} {p2 p3 p4 w_CS : Int32} {w_SF : Value} (hw : HW a0 Z) (pr1 : TS_U8 Z w_U8) (pr2 : Ary Z h0 a1 ATB 3 (lv [.int p2, .int p3, .int p4])) (pr3 : ¬ (w_CS = 0)) (pr4 : p2 < 0) (pr5 : ¬ ((p2 &&& 254) = 194)) (pr6 : ¬ ((p2 >>> ((5 : Int32) &&& 31)) = (-2))) (pr7 : (p2 >>> ((4 : Int32) &&& 31)) = (-2)) (pr8 : p2 = (-32)) (pr9 : ¬ ((p3 &&& 224) = 128)) (pr10 : (p3 &&& 192) = 128) (pr11 : (p4 &&& 192) = 128) (pr12 : ((((p2 <<< ((12 : Int32) &&& 31)) ^^^ (p3 <<< ((6 : Int32) &&& 31))) ^^^ (p4 ^^^ (-123008))).toUInt32.toUInt16.toUInt32.toInt32) < 55296) (pr13 : w_SF.isRef = true) (pr14 : Obj Z Z.heap w_U8 L_UTF_8 []) (pr15 : TS_UI Z w_U8) (pr16 : TS_CS Z w_CS) (pr17 : TS_SF Z w_SF) (pr18 : TS_AD Z) (pr19 : TS_HI Z) (pr20 : TS_LO Z) : Mt false [] l Y1 C1 (rmk 7 4 15 113) #[.ref a1] Z a0 h0 n0 (KpV h0 [] fun v h => ∃ b1 b1_7_2_2 : Addr, v = (.ref b1) ∧ h0.size ≤ b1 ∧ h0.size ≤ b1_7_2_2 ∧ b1_7_2_2 ≠ b1 ∧ Obj Z h b1 L_String [.ref b1_7_2_2, .int 1] ∧ Ary Z h b1_7_2_2 ATB 2 (lv [.int ((((((p2 <<< ((12 : Int32) &&& 31)) ^^^ (p3 <<< ((6 : Int32) &&& 31))) ^^^ (p4 ^^^ (-123008))).toUInt32.toUInt16.toUInt32.toInt32) >>> ((0 : Int32) &&& 31)).toInt8.toInt32), .int ((((((p2 <<< ((12 : Int32) &&& 31)) ^^^ (p3 <<< ((6 : Int32) &&& 31))) ^^^ (p4 ^^^ (-123008))).toUInt32.toUInt16.toUInt32.toInt32) >>> ((8 : Int32) &&& 31)).toInt8.toInt32)])) := by
  refine Mt.go PN1 (Or.inl rfl) ef_R_1 fun k => ?_
  have nz := k.n0le
  have z1 := k.sz
  obtain ⟨b1, h1, g1, K1, O1, k⟩ := k.new (w_5 hw) (nw_String hw) D1_0 (by decide) dvL_String
  replace k := k |>.dup D1_3 rfl |>.aloadN D1_4 rfl rfl |>.getS (fl_8 hw) pr1 D1_5
  have s_b1 := Nat.le_trans z1 g1
  have n_b1 := Nat.le_trans nz s_b1
  have o3 := pr2.keep K1 nin0
  have z2 := k.sz
  obtain ⟨h2, K2, ⟨b1_7_2_2, f2_0, f2_1, f2_2⟩, k⟩ := (k.callI (w_10 hw) (I2 hw) (R_String__init__67 hw pr14 o3 pr3 pr4 pr5 pr6 pr7 pr8 pr9 pr10 pr11 pr12 O1 n_b1 pr13 pr15 pr16 pr17 pr18 pr19 pr20) D1_8 1 rfl).k0 (allS n_b1 all0)
  have s_b1_7_2_2 := Nat.le_trans z2 f2_0
  exact k.retA D1_11 rfl ⟨_, rfl, (K1.trans K2 (allS (Or.inr s_b1) all0)), b1, b1_7_2_2, rfl, s_b1, s_b1_7_2_2, (nlt' O1.lt f2_0), f2_1, f2_2⟩
theorem R_String_decodeUTF8_UTF16_27 {a1 a2 : Addr} {p3 p4 p5 : Int32} (hw : HW a0 Z) (pr1 : Ary Z h0 a1 ATB 3 (lv [.int p3, .int p4, .int p5])) (pr2 : p3 < 0) (pr3 : ¬ ((p3 >>> ((5 : Int32) &&& 31)) = (-2))) (pr4 : (p3 >>> ((4 : Int32) &&& 31)) = (-2)) (pr5 : ¬ (p3 = (-32))) (pr6 : (p4 &&& 192) = 128) (pr7 : (p5 &&& 192) = 128) (pr8 : ((((p3 <<< ((12 : Int32) &&& 31)) ^^^ (p4 <<< ((6 : Int32) &&& 31))) ^^^ (p5 ^^^ (-123008))).toUInt32.toUInt16.toUInt32.toInt32) < 55296) (pr9 : Ary Z h0 a2 ATB 6 (lv [.int 0, .int 0, .int 0, .int 0, .int 0, .int 0])) (pr10 : n0 ≤ a2) (pr11 : TS_AD Z) (pr12 : TS_HI Z) (pr13 : TS_LO Z) : Mt false [] l Y15 C15 (rmk 1 0 0 14) #[.ref a1, .int 0, .int 3, .ref a2, .int 0, .int 1] Z a0 h0 n0 (KpV h0 [a2] fun v h => v = (.int 1) ∧ Ary Z h a2 ATB 6 (lv [.int ((((((p3 <<< ((12 : Int32) &&& 31)) ^^^ (p4 <<< ((6 : Int32) &&& 31))) ^^^ (p5 ^^^ (-123008))).toUInt32.toUInt16.toUInt32.toInt32) >>> ((0 : Int32) &&& 31)).toInt8.toInt32), .int ((((((p3 <<< ((12 : Int32) &&& 31)) ^^^ (p4 <<< ((6 : Int32) &&& 31))) ^^^ (p5 ^^^ (-123008))).toUInt32.toUInt16.toUInt32.toInt32) >>> ((8 : Int32) &&& 31)).toInt8.toInt32), .int 0, .int 0, .int 0, .int 0])) := by
  refine Mt.go PN15 (Or.inl rfl) ef_RIIRII_11_0_3_0_1 fun k => ?_
  replace k := k |>.iloadN D15_0 rfl |>.iloadN D15_1 rfl |>.icmpNo D15_2 (by decide) |>.aloadN D15_5 rfl rfl |>.iloadN D15_6 rfl |>.iinc D15_7 rfl (z := 1) (by decide) sto1 |>.bald pr1 D15_10 (i := 0) (by decide) lvg0 |>.istore D15_11 sto6 |>.iload D15_13 rfl |>.ifYes D15_15 ((if0 _ _).trans (tlt pr2).1) |>.iload D15_33 rfl |>.iconst D15_35 5
  replace k := k |>.ishr D15_36 rfl |>.bipush D15_37 (-2) |>.icmpYes D15_39 (feq pr3).2 |>.iload D15_143 rfl |>.iconst D15_145 4 |>.ishr D15_146 rfl |>.bipush D15_147 (-2) |>.icmpNo D15_149 (teq pr4).2 |>.iloadN D15_152 rfl |>.iconst D15_153 1 |>.iadd D15_154 (z := 2) (by decide) |>.iloadN D15_155 rfl
  replace k := k |>.icmpNo D15_156 (by decide) |>.aloadN D15_159 rfl rfl |>.iloadN D15_160 rfl |>.iinc D15_161 rfl (z := 2) (by decide) sto1 |>.bald pr1 D15_164 (i := 1) (by decide) lvg1 |>.istore D15_165 sto7 |>.aloadN D15_167 rfl rfl |>.iloadN D15_168 rfl |>.iinc D15_169 rfl (z := 3) (by decide) sto1 |>.bald pr1 D15_172 (i := 2) (by decide) lvg2 |>.istore D15_173 sto8 |>.iload D15_175 rfl
  replace k := k |>.iload D15_177 rfl |>.iload D15_179 rfl
  replace k := (k.callS (w_194 hw) (S35 hw) (R_String_isMalformed3_3 hw pr5 pr6 pr7) D15_181 0 rfl).pv
  replace k := k |>.ifYes D15_184 (by decide) |>.iload D15_224 rfl |>.iload D15_226 rfl |>.iload D15_228 rfl
  replace k := (k.callS (w_197 hw) (S36 hw) (R_String_decode3_1 hw) D15_230 0 rfl).pv
  replace k := k |>.istore D15_233 sto9 |>.iload D15_235 rfl
  replace k := (k.callS (w_201 hw) (S37 hw) (R_Character_isSurrogate_1 hw pr8) D15_237 0 rfl).pv
  replace k := k |>.ifYes D15_240 (by decide) |>.aloadN D15_269 rfl rfl |>.iload D15_270 rfl |>.iinc D15_272 rfl (z := 1) (by decide) sto4 |>.iload D15_275 rfl
  obtain ⟨h4, K4, f4_0, k⟩ := (k.callS (w_146 hw) (S17 hw) (R_StringUTF16_putChar_3 hw pr11 pr12 pr9 pr10 pr13) D15_277 0 rfl).k0 (allS pr10 all0)
  replace k := k |>.goto D15_280 |>.iloadN D15_0 rfl |>.iloadN D15_1 rfl |>.icmpYes D15_2 (by decide) |>.iload D15_621 rfl
  exact k.retI D15_623 rfl ⟨_, rfl, K4, rfl, f4_0⟩
theorem R_String__init__70 {a1 w_U8 a2 : Addr} {w_CS p3 p4 p5 : Int32} {w_SF : Value} (hw : HW a0 Z) (pr1 : TS_UI Z w_U8) (pr2 : TS_CS Z w_CS) (pr3 : ¬ (w_CS = 0)) (pr4 : Ary Z h0 a2 ATB 3 (lv [.int p3, .int p4, .int p5])) (pr5 : p3 < 0) (pr6 : ¬ ((p3 &&& 254) = 194)) (pr7 : w_SF.isRef = true) (pr8 : TS_SF Z w_SF) (pr9 : ¬ ((p3 >>> ((5 : Int32) &&& 31)) = (-2))) (pr10 : (p3 >>> ((4 : Int32) &&& 31)) = (-2)) (pr11 : ¬ (p3 = (-32))) (pr12 : (p4 &&& 192) = 128) (pr13 : (p5 &&& 192) = 128) (pr14 : ((((p3 <<< ((12 : Int32) &&& 31)) ^^^ (p4 <<< ((6 : Int32) &&& 31))) ^^^ (p5 ^^^ (-123008))).toUInt32.toUInt16.toUInt32.toInt32) < 55296) (pr15 : TS_AD Z) (pr16 : TS_HI Z) (pr17 : TS_LO Z) (pr18 : Obj Z h0 a1 L_String [.null, .int 0]) (pr19 : n0 ≤ a1) : Mt false [] l Y4 C4 (rmk 5 3 11 76) #[.ref a1, .ref w_U8, .ref a2, .int 0, .int 3] Z a0 h0 n0 (K0 h0 [a1] fun h => ∃ b1_7 : Addr, h0.size ≤ b1_7 ∧ Obj Z h a1 L_String [.ref b1_7, .int 1] ∧ Ary Z h b1_7 ATB 2 (lv [.int ((((((p3 <<< ((12 : Int32) &&& 31)) ^^^ (p4 <<< ((6 : Int32) &&& 31))) ^^^ (p5 ^^^ (-123008))).toUInt32.toUInt16.toUInt32.toInt32) >>> ((0 : Int32) &&& 31)).toInt8.toInt32), .int ((((((p3 <<< ((12 : Int32) &&& 31)) ^^^ (p4 <<< ((6 : Int32) &&& 31))) ^^^ (p5 ^^^ (-123008))).toUInt32.toUInt16.toUInt32.toInt32) >>> ((8 : Int32) &&& 31)).toInt8.toInt32)])) := by
  refine Mt.go PN4 (Or.inr ⟨_, rfl⟩) ef_RRRII_11_0_3 fun k => ?_
  have nz := k.n0le
  replace k := k |>.aloadN D4_0 rfl rfl |>.initO (w_23 hw) (w_24 hw) (w_25 hw) D4_1 0 |>.iload D4_4 rfl |>.ifYes D4_6 (by decide) |>.aloadN D4_30 rfl rfl |>.getS (fl_46 hw) pr1 D4_31 |>.acmpNo D4_34 rfl rfl true (decide_eq_true rfl) (by decide) |>.getS (fl_48 hw) pr2 D4_37 |>.ifNo D4_40 ((if0 _ _).trans (feq pr3).1) |>.aloadN D4_43 rfl rfl |>.iloadN D4_44 rfl |>.iload D4_45 rfl
  replace k := (k.callS (w_49 hw) (S5 hw) (R_StringCoding_countPositives_3 hw pr4 pr5) D4_47 0 rfl).pv
  replace k := k |>.istore D4_50 sto5 |>.iload D4_52 rfl |>.iload D4_54 rfl |>.icmpYes D4_56 (by decide) |>.aloadN D4_78 rfl rfl |>.iloadN D4_79 rfl |>.iloadN D4_80 rfl |>.iload D4_81 rfl |>.iadd D4_83 (z := 3) (by decide)
  have z2 := k.sz
  obtain ⟨_, h2, K2, ⟨b1_2, rfl, f2_0, f2_1⟩, k⟩ := (k.callS (w_53 hw) (S6 hw) (R_Arrays_copyOfRange_2 hw pr4) D4_84 0 rfl).kv
  replace k := k |>.astore D4_87 rfl sto6 |>.iload D4_89 rfl |>.istore D4_91 sto7 |>.iload D4_93 rfl |>.iload D4_95 rfl |>.icmpNo D4_97 (by decide) |>.aload D4_100 rfl rfl |>.iload D4_102 rfl |>.iinc D4_104 rfl (z := 1) (by decide) sto7 |>.bald f2_1 D4_107 (i := 0) (by decide) lvg0 |>.istore D4_108 sto8 |>.iload D4_110 rfl
  replace k := k |>.ifYes D4_112 ((if0 _ _).trans (tlt pr5).1) |>.iload D4_129 rfl |>.sipush D4_131 254 |>.iand D4_134 rfl |>.sipush D4_135 194 |>.icmpYes D4_138 (feq pr6).2 |>.iinc D4_184 rfl (z := 0) (by decide) sto7 |>.goto D4_187 |>.iload D4_190 rfl |>.iload D4_192 rfl |>.icmpYes D4_194 (by decide) |>.iload D4_226 rfl
  have z3 := k.sz
  obtain ⟨_, h3, K3, ⟨b2_3, rfl, f3_0, f3_1⟩, k⟩ := (k.callS (w_100 hw) (S7 hw) (R_StringUTF16_newBytesFor_2 hw) D4_228 0 rfl).kv
  replace k := k |>.astore D4_231 rfl sto8 |>.aload D4_233 rfl rfl |>.iconst D4_235 0 |>.aload D4_236 rfl rfl |>.iconst D4_238 0 |>.iload D4_239 rfl
  replace k := (k.callS (w_108 hw) (S9 hw) (R_StringLatin1_inflate_2 hw f3_1 pr7 pr8) D4_241 0 rfl).p0
  replace k := k |>.aload D4_244 rfl rfl |>.iload D4_246 rfl |>.iload D4_248 rfl |>.aload D4_250 rfl rfl |>.iload D4_252 rfl |>.iconst D4_254 1
  have s_b2_3 := Nat.le_trans z3 f3_0
  have n_b2_3 := Nat.le_trans nz s_b2_3
  have o6 := f2_1.keep K3 nin0
  obtain ⟨_, h5, K5, ⟨rfl, f5_0⟩, k⟩ := (k.callS (w_126 hw) (S15 hw) (R_String_decodeUTF8_UTF16_27 hw o6 pr5 pr9 pr10 pr11 pr12 pr13 pr14 f3_1 n_b2_3 pr15 pr16 pr17) D4_255 0 rfl).kv (allS n_b2_3 all0)
  replace k := k |>.istore D4_258 sto5 |>.iload D4_260 rfl |>.iload D4_262 rfl |>.icmpNo D4_264 (by decide) |>.aload D4_267 rfl rfl |>.iload D4_269 rfl |>.iconst D4_271 1 |>.ishl D4_272 (z := 2) (by decide)
  have z7 := k.sz
  obtain ⟨_, h7, K7, ⟨b1_7, rfl, f7_0, f7_1⟩, k⟩ := (k.callS (w_156 hw) (S33 hw) (R_Arrays_copyOf_7 hw f5_0) D4_273 0 rfl).kv
  replace k := k |>.astore D4_276 rfl sto8 |>.aloadN D4_278 rfl rfl |>.aload D4_279 rfl rfl
  have o8 := (((pr18.keep K2 nin0).keep K3 nin0).keep K5 (ninS (nlt pr18.lt s_b2_3) nin0)).keep K7 nin0
  obtain ⟨h9, K9, O9, k⟩ := k.putF (fl_31 hw) (pw_String_i_String_value hw) o8 0 pr19 (Or.inl rfl) D4_281 rfl rfl rfl ls0
  replace k := k |>.aloadN D4_284 rfl rfl |>.iconst D4_285 1
  obtain ⟨h10, K10, O10, k⟩ := k.putN (fp_32 hw) (pw_String_i_String_coder hw) O9 1 pr19 (Or.inl rfl) D4_286 rfl (v' := (.int 1)) (by decide) (by decide) ls1
  replace k := k |>.goto D4_289
  have s_b1_7 := Nat.le_trans z7 f7_0
  have o11 := (f7_1.keep K9 (ninS (nlt' pr18.lt s_b1_7) nin0)).keep K10 (ninS (nlt' pr18.lt s_b1_7) nin0)
  exact k.ret0 D4_879 rfl ⟨rfl, (((((((Keep.refl h0 [a1]).trans K2 all0).trans K3 all0).trans K5 (allS (Or.inr s_b2_3) all0)).trans K7 all0).trans K9 (allS (Or.inl (List.mem_of_getElem? (i := 0) rfl)) all0)).trans K10 (allS (Or.inl (List.mem_of_getElem? (i := 0) rfl)) all0)), b1_7, s_b1_7, O10, o11⟩
theorem R_String__init__69 {a1 a2 w_U8 : Addr} {p3 p4 p5 w_CS : Int32} {w_SF : Value} (hw : HW a0 Z) (pr1 : Obj Z Z.heap w_U8 L_UTF_8 []) (pr2 : Ary Z h0 a2 ATB 3 (lv [.int p3, .int p4, .int p5])) (pr3 : ¬ (w_CS = 0)) (pr4 : p3 < 0) (pr5 : ¬ ((p3 &&& 254) = 194)) (pr6 : ¬ ((p3 >>> ((5 : Int32) &&& 31)) = (-2))) (pr7 : (p3 >>> ((4 : Int32) &&& 31)) = (-2)) (pr8 : ¬ (p3 = (-32))) (pr9 : (p4 &&& 192) = 128) (pr10 : (p5 &&& 192) = 128) (pr11 : ((((p3 <<< ((12 : Int32) &&& 31)) ^^^ (p4 <<< ((6 : Int32) &&& 31))) ^^^ (p5 ^^^ (-123008))).toUInt32.toUInt16.toUInt32.toInt32) < 55296) (pr12 : Obj Z h0 a1 L_String [.null, .int 0]) (pr13 : n0 ≤ a1) (pr14 : w_SF.isRef = true) (pr15 : TS_UI Z w_U8) (pr16 : TS_CS Z w_CS) (pr17 : TS_SF Z w_SF) (pr18 : TS_AD Z) (pr19 : TS_HI Z) (pr20 : TS_LO Z) : Mt false [] l Y2 C2 (rmk 6 3 11 98) #[.ref a1, .ref a2, .ref w_U8] Z a0 h0 n0 (K0 h0 [a1] fun h => ∃ b1_7_2 : Addr, h0.size ≤ b1_7_2 ∧ Obj Z h a1 L_String [.ref b1_7_2, .int 1] ∧ Ary Z h b1_7_2 ATB 2 (lv [.int ((((((p3 <<< ((12 : Int32) &&& 31)) ^^^ (p4 <<< ((6 : Int32) &&& 31))) ^^^ (p5 ^^^ (-123008))).toUInt32.toUInt16.toUInt32.toInt32) >>> ((0 : Int32) &&& 31)).toInt8.toInt32), .int ((((((p3 <<< ((12 : Int32) &&& 31)) ^^^ (p4 <<< ((6 : Int32) &&& 31))) ^^^ (p5 ^^^ (-123008))).toUInt32.toUInt16.toUInt32.toInt32) >>> ((8 : Int32) &&& 31)).toInt8.toInt32)])) := by
  refine Mt.go PN2 (Or.inl rfl) ef_RRR_3 fun k => ?_
  replace k := k |>.aloadN D2_0 rfl rfl |>.aloadN D2_1 rfl rfl
  replace k := (k.callS (w_13 hw) (S3 hw) (R_Objects_requireNonNull_1 hw) D2_2 1 rfl).pv
  replace k := k |>.castY (w_17 hw) (Ins.of_exa (pr1.ext k.old.2).exa (w_18 hw)) D2_5 |>.aloadN D2_8 rfl rfl |>.iconst D2_9 0 |>.aloadN D2_10 rfl rfl |>.alen pr2 D2_11 (z := 3) (by decide)
  have z2 := k.sz
  obtain ⟨h2, K2, ⟨b1_7_2, f2_0, f2_1, f2_2⟩, k⟩ := (k.callI (w_19 hw) (I4 hw) (R_String__init__70 hw pr15 pr16 pr3 pr2 pr4 pr5 pr14 pr17 pr6 pr7 pr8 pr9 pr10 pr11 pr18 pr19 pr20 pr12 pr13) D2_12 0 rfl).k0 (allS pr13 all0)
  have s_b1_7_2 := Nat.le_trans z2 f2_0
  exact k.ret0 D2_15 rfl ⟨rfl, K2, b1_7_2, s_b1_7_2, f2_1, f2_2⟩
theorem R_Utf8_decodeName_35 {a1 w_U8 : Addr} {p2 p3 p4 w_CS : Int32} {w_SF : Value} (hw : HW a0 Z) (pr1 : TS_U8 Z w_U8) (pr2 : Ary Z h0 a1 ATB 3 (lv [.int p2, .int p3, .int p4])) (pr3 : ¬ (w_CS = 0)) (pr4 : p2 < 0) (pr5 : ¬ ((p2 &&& 254) = 194)) (pr6 : ¬ ((p2 >>> ((5 : Int32) &&& 31)) = (-2))) (pr7 : (p2 >>> ((4 : Int32) &&& 31)) = (-2)) (pr8 : ¬ (p2 = (-32))) (pr9 : (p3 &&& 192) = 128) (pr10 : (p4 &&& 192) = 128) (pr11 : ((((p2 <<< ((12 : Int32) &&& 31)) ^^^ (p3 <<< ((6 : Int32) &&& 31))) ^^^ (p4 ^^^ (-123008))).toUInt32.toUInt16.toUInt32.toInt32) < 55296) (pr12 : w_SF.isRef = true) (pr13 : Obj Z Z.heap w_U8 L_UTF_8 []) (pr14 : TS_UI Z w_U8) (pr15 : TS_CS Z w_CS) (pr16 : TS_SF Z w_SF) (pr17 : TS_AD Z) (pr18 : TS_HI Z) (pr19 : TS_LO Z) : Mt false [] l Y1 C1 (rmk 7 4 15 113) #[.ref a1] Z a0 h0 n0 (KpV h0 [] fun v h => ∃ b1 b1_7_2_2 : Addr, v = (.ref b1) ∧ h0.size ≤ b1 ∧ h0.size ≤ b1_7_2_2 ∧ b1_7_2_2 ≠ b1 ∧ Obj Z h b1 L_String [.ref b1_7_2_2, .int 1] ∧ Ary Z h b1_7_2_2 ATB 2 (lv [.int ((((((p2 <<< ((12 : Int32) &&& 31)) ^^^ (p3 <<< ((6 : Int32) &&& 31))) ^^^ (p4 ^^^ (-123008))).toUInt32.toUInt16.toUInt32.toInt32) >>> ((0 : Int32) &&& 31)).toInt8.toInt32), .int ((((((p2 <<< ((12 : Int32) &&& 31)) ^^^ (p3 <<< ((6 : Int32) &&& 31))) ^^^ (p4 ^^^ (-123008))).toUInt32.toUInt16.toUInt32.toInt32) >>> ((8 : Int32) &&& 31)).toInt8.toInt32)])) := by
  refine Mt.go PN1 (Or.inl rfl) ef_R_1 fun k => ?_
  have nz := k.n0le
  have z1 := k.sz
  obtain ⟨b1, h1, g1, K1, O1, k⟩ := k.new (w_5 hw) (nw_String hw) D1_0 (by decide) dvL_String
  replace k := k |>.dup D1_3 rfl |>.aloadN D1_4 rfl rfl |>.getS (fl_8 hw) pr1 D1_5
  have s_b1 := Nat.le_trans z1 g1
  have n_b1 := Nat.le_trans nz s_b1
  have o3 := pr2.keep K1 nin0
  have z2 := k.sz
  obtain ⟨h2, K2, ⟨b1_7_2_2, f2_0, f2_1, f2_2⟩, k⟩ := (k.callI (w_10 hw) (I2 hw) (R_String__init__69 hw pr13 o3 pr3 pr4 pr5 pr6 pr7 pr8 pr9 pr10 pr11 O1 n_b1 pr12 pr14 pr15 pr16 pr17 pr18 pr19) D1_8 1 rfl).k0 (allS n_b1 all0)
  have s_b1_7_2_2 := Nat.le_trans z2 f2_0
  exact k.retA D1_11 rfl ⟨_, rfl, (K1.trans K2 (allS (Or.inr s_b1) all0)), b1, b1_7_2_2, rfl, s_b1, s_b1_7_2_2, (nlt' O1.lt f2_0), f2_1, f2_2⟩
theorem R_String_decodeUTF8_UTF16_28 {a1 a2 : Addr} {p3 p4 p5 : Int32} (hw : HW a0 Z) (pr1 : Ary Z h0 a1 ATB 3 (lv [.int p3, .int p4, .int p5])) (pr2 : p3 < 0) (pr3 : ¬ ((p3 >>> ((5 : Int32) &&& 31)) = (-2))) (pr4 : (p3 >>> ((4 : Int32) &&& 31)) = (-2)) (pr5 : ¬ (p3 = (-32))) (pr6 : (p4 &&& 192) = 128) (pr7 : (p5 &&& 192) = 128) (pr8 : ¬ (((((p3 <<< ((12 : Int32) &&& 31)) ^^^ (p4 <<< ((6 : Int32) &&& 31))) ^^^ (p5 ^^^ (-123008))).toUInt32.toUInt16.toUInt32.toInt32) < 55296)) (pr9 : ¬ (((((p3 <<< ((12 : Int32) &&& 31)) ^^^ (p4 <<< ((6 : Int32) &&& 31))) ^^^ (p5 ^^^ (-123008))).toUInt32.toUInt16.toUInt32.toInt32) < 57344)) (pr10 : Ary Z h0 a2 ATB 6 (lv [.int 0, .int 0, .int 0, .int 0, .int 0, .int 0])) (pr11 : n0 ≤ a2) (pr12 : TS_AD Z) (pr13 : TS_HI Z) (pr14 : TS_LO Z) : Mt false [] l Y15 C15 (rmk 1 0 0 14) #[.ref a1, .int 0, .int 3, .ref a2, .int 0, .int 1] Z a0 h0 n0 (KpV h0 [a2] fun v h => v = (.int 1) ∧ Ary Z h a2 ATB 6 (lv [.int ((((((p3 <<< ((12 : Int32) &&& 31)) ^^^ (p4 <<< ((6 : Int32) &&& 31))) ^^^ (p5 ^^^ (-123008))).toUInt32.toUInt16.toUInt32.toInt32) >>> ((0 : Int32) &&& 31)).toInt8.toInt32), .int ((((((p3 <<< ((12 : Int32) &&& 31)) ^^^ (p4 <<< ((6 : Int32) &&& 31))) ^^^ (p5 ^^^ (-123008))).toUInt32.toUInt16.toUInt32.toInt32) >>> ((8 : Int32) &&& 31)).toInt8.toInt32), .int 0, .int 0, .int 0, .int 0])) := by
  refine Mt.go PN15 (Or.inl rfl) ef_RIIRII_11_0_3_0_1 fun k => ?_
  replace k := k |>.iloadN D15_0 rfl |>.iloadN D15_1 rfl |>.icmpNo D15_2 (by decide) |>.aloadN D15_5 rfl rfl |>.iloadN D15_6 rfl |>.iinc D15_7 rfl (z := 1) (by decide) sto1 |>.bald pr1 D15_10 (i := 0) (by decide) lvg0 |>.istore D15_11 sto6 |>.iload D15_13 rfl |>.ifYes D15_15 ((if0 _ _).trans (tlt pr2).1) |>.iload D15_33 rfl |>.iconst D15_35 5
  replace k := k |>.ishr D15_36 rfl |>.bipush D15_37 (-2) |>.icmpYes D15_39 (feq pr3).2 |>.iload D15_143 rfl |>.iconst D15_145 4 |>.ishr D15_146 rfl |>.bipush D15_147 (-2) |>.icmpNo D15_149 (teq pr4).2 |>.iloadN D15_152 rfl |>.iconst D15_153 1 |>.iadd D15_154 (z := 2) (by decide) |>.iloadN D15_155 rfl
  replace k := k |>.icmpNo D15_156 (by decide) |>.aloadN D15_159 rfl rfl |>.iloadN D15_160 rfl |>.iinc D15_161 rfl (z := 2) (by decide) sto1 |>.bald pr1 D15_164 (i := 1) (by decide) lvg1 |>.istore D15_165 sto7 |>.aloadN D15_167 rfl rfl |>.iloadN D15_168 rfl |>.iinc D15_169 rfl (z := 3) (by decide) sto1 |>.bald pr1 D15_172 (i := 2) (by decide) lvg2 |>.istore D15_173 sto8 |>.iload D15_175 rfl
  replace k := k |>.iload D15_177 rfl |>.iload D15_179 rfl
  replace k := (k.callS (w_194 hw) (S35 hw) (R_String_isMalformed3_3 hw pr5 pr6 pr7) D15_181 0 rfl).pv
  replace k := k |>.ifYes D15_184 (by decide) |>.iload D15_224 rfl |>.iload D15_226 rfl |>.iload D15_228 rfl
  replace k := (k.callS (w_197 hw) (S36 hw) (R_String_decode3_1 hw) D15_230 0 rfl).pv
  replace k := k |>.istore D15_233 sto9 |>.iload D15_235 rfl
  replace k := (k.callS (w_201 hw) (S37 hw) (R_Character_isSurrogate_2 hw pr8 pr9) D15_237 0 rfl).pv
  replace k := k |>.ifYes D15_240 (by decide) |>.aloadN D15_269 rfl rfl |>.iload D15_270 rfl |>.iinc D15_272 rfl (z := 1) (by decide) sto4 |>.iload D15_275 rfl
  obtain ⟨h4, K4, f4_0, k⟩ := (k.callS (w_146 hw) (S17 hw) (R_StringUTF16_putChar_3 hw pr12 pr13 pr10 pr11 pr14) D15_277 0 rfl).k0 (allS pr11 all0)
  replace k := k |>.goto D15_280 |>.iloadN D15_0 rfl |>.iloadN D15_1 rfl |>.icmpYes D15_2 (by decide) |>.iload D15_621 rfl
  exact k.retI D15_623 rfl ⟨_, rfl, K4, rfl, f4_0⟩
theorem R_String__init__72 {a1 w_U8 a2 : Addr} {w_CS p3 p4 p5 : Int32} {w_SF : Value} (hw : HW a0 Z) (pr1 : TS_UI Z w_U8) (pr2 : TS_CS Z w_CS) (pr3 : ¬ (w_CS = 0)) (pr4 : Ary Z h0 a2 ATB 3 (lv [.int p3, .int p4, .int p5])) (pr5 : p3 < 0) (pr6 : ¬ ((p3 &&& 254) = 194)) (pr7 : w_SF.isRef = true) (pr8 : TS_SF Z w_SF) (pr9 : ¬ ((p3 >>> ((5 : Int32) &&& 31)) = (-2))) (pr10 : (p3 >>> ((4 : Int32) &&& 31)) = (-2)) (pr11 : ¬ (p3 = (-32))) (pr12 : (p4 &&& 192) = 128) (pr13 : (p5 &&& 192) = 128) (pr14 : ¬ (((((p3 <<< ((12 : Int32) &&& 31)) ^^^ (p4 <<< ((6 : Int32) &&& 31))) ^^^ (p5 ^^^ (-123008))).toUInt32.toUInt16.toUInt32.toInt32) < 55296)) (pr15 : ¬ (((((p3 <<< ((12 : Int32) &&& 31)) ^^^ (p4 <<< ((6 : Int32) &&& 31))) ^^^ (p5 ^^^ (-123008))).toUInt32.toUInt16.toUInt32.toInt32) < 57344)) (pr16 : TS_AD Z) (pr17 : TS_HI Z) (pr18 : TS_LO Z) (pr19 : Obj Z h0 a1 L_String [.null, .int 0]) (pr20 : n0 ≤ a1) : Mt false [] l Y4 C4 (rmk 5 3 11 76) #[.ref a1, .ref w_U8, .ref a2, .int 0, .int 3] Z a0 h0 n0 (K0 h0 [a1] fun h => ∃ b1_7 : Addr, h0.size ≤ b1_7 ∧ Obj Z h a1 L_String [.ref b1_7, .int 1] ∧ Ary Z h b1_7 ATB 2 (lv [.int ((((((p3 <<< ((12 : Int32) &&& 31)) ^^^ (p4 <<< ((6 : Int32) &&& 31))) ^^^ (p5 ^^^ (-123008))).toUInt32.toUInt16.toUInt32.toInt32) >>> ((0 : Int32) &&& 31)).toInt8.toInt32), .int ((((((p3 <<< ((12 : Int32) &&& 31)) ^^^ (p4 <<< ((6 : Int32) &&& 31))) ^^^ (p5 ^^^ (-123008))).toUInt32.toUInt16.toUInt32.toInt32) >>> ((8 : Int32) &&& 31)).toInt8.toInt32)])) := by
  refine Mt.go PN4 (Or.inr ⟨_, rfl⟩) ef_RRRII_11_0_3 fun k => ?_
  have nz := k.n0le
  replace k := k |>.aloadN D4_0 rfl rfl |>.initO (w_23 hw) (w_24 hw) (w_25 hw) D4_1 0 |>.iload D4_4 rfl |>.ifYes D4_6 (by decide) |>.aloadN D4_30 rfl rfl |>.getS (fl_46 hw) pr1 D4_31 |>.acmpNo D4_34 rfl rfl true (decide_eq_true rfl) (by decide) |>.getS (fl_48 hw) pr2 D4_37 |>.ifNo D4_40 ((if0 _ _).trans (feq pr3).1) |>.aloadN D4_43 rfl rfl |>.iloadN D4_44 rfl |>.iload D4_45 rfl
  replace k := (k.callS (w_49 hw) (S5 hw) (R_StringCoding_countPositives_3 hw pr4 pr5) D4_47 0 rfl).pv
  replace k := k |>.istore D4_50 sto5 |>.iload D4_52 rfl |>.iload D4_54 rfl |>.icmpYes D4_56 (by decide) |>.aloadN D4_78 rfl rfl |>.iloadN D4_79 rfl |>.iloadN D4_80 rfl |>.iload D4_81 rfl |>.iadd D4_83 (z := 3) (by decide)
  have z2 := k.sz
  obtain ⟨_, h2, K2, ⟨b1_2, rfl, f2_0, f2_1⟩, k⟩ := (k.callS (w_53 hw) (S6 hw) (R_Arrays_copyOfRange_2 hw pr4) D4_84 0 rfl).kv
  replace k := k |>.astore D4_87 rfl sto6 |>.iload D4_89 rfl |>.istore D4_91 sto7 |>.iload D4_93 rfl |>.iload D4_95 rfl |>.icmpNo D4_97 (by decide) |>.aload D4_100 rfl rfl |>.iload D4_102 rfl |>.iinc D4_104 rfl (z := 1) (by decide) sto7 |>.bald f2_1 D4_107 (i := 0) (by decide) lvg0 |>.istore D4_108 sto8 |>.iload D4_110 rfl
  replace k := k |>.ifYes D4_112 ((if0 _ _).trans (tlt pr5).1) |>.iload D4_129 rfl |>.sipush D4_131 254 |>.iand D4_134 rfl |>.sipush D4_135 194 |>.icmpYes D4_138 (feq pr6).2 |>.iinc D4_184 rfl (z := 0) (by decide) sto7 |>.goto D4_187 |>.iload D4_190 rfl |>.iload D4_192 rfl |>.icmpYes D4_194 (by decide) |>.iload D4_226 rfl
  have z3 := k.sz
  obtain ⟨_, h3, K3, ⟨b2_3, rfl, f3_0, f3_1⟩, k⟩ := (k.callS (w_100 hw) (S7 hw) (R_StringUTF16_newBytesFor_2 hw) D4_228 0 rfl).kv
  replace k := k |>.astore D4_231 rfl sto8 |>.aload D4_233 rfl rfl |>.iconst D4_235 0 |>.aload D4_236 rfl rfl |>.iconst D4_238 0 |>.iload D4_239 rfl
  replace k := (k.callS (w_108 hw) (S9 hw) (R_StringLatin1_inflate_2 hw f3_1 pr7 pr8) D4_241 0 rfl).p0
  replace k := k |>.aload D4_244 rfl rfl |>.iload D4_246 rfl |>.iload D4_248 rfl |>.aload D4_250 rfl rfl |>.iload D4_252 rfl |>.iconst D4_254 1
  have s_b2_3 := Nat.le_trans z3 f3_0
  have n_b2_3 := Nat.le_trans nz s_b2_3
  have o6 := f2_1.keep K3 nin0
  obtain ⟨_, h5, K5, ⟨rfl, f5_0⟩, k⟩ := (k.callS (w_126 hw) (S15 hw) (R_String_decodeUTF8_UTF16_28 hw o6 pr5 pr9 pr10 pr11 pr12 pr13 pr14 pr15 f3_1 n_b2_3 pr16 pr17 pr18) D4_255 0 rfl).kv (allS n_b2_3 all0)
  replace k := k |>.istore D4_258 sto5 |>.iload D4_260 rfl |>.iload D4_262 rfl |>.icmpNo D4_264 (by decide) |>.aload D4_267 rfl rfl |>.iload D4_269 rfl |>.iconst D4_271 1 |>.ishl D4_272 (z := 2) (by decide)
  have z7 := k.sz
  obtain ⟨_, h7, K7, ⟨b1_7, rfl, f7_0, f7_1⟩, k⟩ := (k.callS (w_156 hw) (S33 hw) (R_Arrays_copyOf_7 hw f5_0) D4_273 0 rfl).kv
  replace k := k |>.astore D4_276 rfl sto8 |>.aloadN D4_278 rfl rfl |>.aload D4_279 rfl rfl
  have o8 := (((pr19.keep K2 nin0).keep K3 nin0).keep K5 (ninS (nlt pr19.lt s_b2_3) nin0)).keep K7 nin0
  obtain ⟨h9, K9, O9, k⟩ := k.putF (fl_31 hw) (pw_String_i_String_value hw) o8 0 pr20 (Or.inl rfl) D4_281 rfl rfl rfl ls0
  replace k := k |>.aloadN D4_284 rfl rfl |>.iconst D4_285 1
  obtain ⟨h10, K10, O10, k⟩ := k.putN (fp_32 hw) (pw_String_i_String_coder hw) O9 1 pr20 (Or.inl rfl) D4_286 rfl (v' := (.int 1)) (by decide) (by decide) ls1
  replace k := k |>.goto D4_289
  have s_b1_7 := Nat.le_trans z7 f7_0
  have o11 := (f7_1.keep K9 (ninS (nlt' pr19.lt s_b1_7) nin0)).keep K10 (ninS (nlt' pr19.lt s_b1_7) nin0)
  exact k.ret0 D4_879 rfl ⟨rfl, (((((((Keep.refl h0 [a1]).trans K2 all0).trans K3 all0).trans K5 (allS (Or.inr s_b2_3) all0)).trans K7 all0).trans K9 (allS (Or.inl (List.mem_of_getElem? (i := 0) rfl)) all0)).trans K10 (allS (Or.inl (List.mem_of_getElem? (i := 0) rfl)) all0)), b1_7, s_b1_7, O10, o11⟩
theorem R_String__init__71 {a1 a2 w_U8 : Addr} {p3 p4 p5 w_CS : Int32} {w_SF : Value} (hw : HW a0 Z) (pr1 : Obj Z Z.heap w_U8 L_UTF_8 []) (pr2 : Ary Z h0 a2 ATB 3 (lv [.int p3, .int p4, .int p5])) (pr3 : ¬ (w_CS = 0)) (pr4 : p3 < 0) (pr5 : ¬ ((p3 &&& 254) = 194)) (pr6 : ¬ ((p3 >>> ((5 : Int32) &&& 31)) = (-2))) (pr7 : (p3 >>> ((4 : Int32) &&& 31)) = (-2)) (pr8 : ¬ (p3 = (-32))) (pr9 : (p4 &&& 192) = 128) (pr10 : (p5 &&& 192) = 128) (pr11 : ¬ (((((p3 <<< ((12 : Int32) &&& 31)) ^^^ (p4 <<< ((6 : Int32) &&& 31))) ^^^ (p5 ^^^ (-123008))).toUInt32.toUInt16.toUInt32.toInt32) < 55296)) (pr12 : ¬ (((((p3 <<< ((12 : Int32) &&& 31)) ^^^ (p4 <<< ((6 : Int32) &&& 31))) ^^^ (p5 ^^^ (-123008))).toUInt32.toUInt16.toUInt32.toInt32) < 57344)) (pr13 : Obj Z h0 a1 L_String [.null, .int 0]) (pr14 : n0 ≤ a1) (pr15 : w_SF.isRef = true) (pr16 : TS_UI Z w_U8) (pr17 : TS_CS Z w_CS) (pr18 : TS_SF Z w_SF) (pr19 : TS_AD Z) (pr20 : TS_HI Z) (pr21 : TS_LO Z) : Mt false [] l Y2 C2 (rmk 6 3 11 98) #[.ref a1, .ref a2, .ref w_U8] Z a0 h0 n0 (K0 h0 [a1] fun h => ∃ b1_7_2 : Addr, h0.size ≤ b1_7_2 ∧ Obj Z h a1 L_String [.ref b1_7_2, .int 1] ∧ Ary Z h b1_7_2 ATB 2 (lv [.int ((((((p3 <<< ((12 : Int32) &&& 31)) ^^^ (p4 <<< ((6 : Int32) &&& 31))) ^^^ (p5 ^^^ (-123008))).toUInt32.toUInt16.toUInt32.toInt32) >>> ((0 : Int32) &&& 31)).toInt8.toInt32), .int ((((((p3 <<< ((12 : Int32) &&& 31)) ^^^ (p4 <<< ((6 : Int32) &&& 31))) ^^^ (p5 ^^^ (-123008))).toUInt32.toUInt16.toUInt32.toInt32) >>> ((8 : Int32) &&& 31)).toInt8.toInt32)])) := by
  refine Mt.go PN2 (Or.inl rfl) ef_RRR_3 fun k => ?_
  replace k := k |>.aloadN D2_0 rfl rfl |>.aloadN D2_1 rfl rfl
  replace k := (k.callS (w_13 hw) (S3 hw) (R_Objects_requireNonNull_1 hw) D2_2 1 rfl).pv
  replace k := k |>.castY (w_17 hw) (Ins.of_exa (pr1.ext k.old.2).exa (w_18 hw)) D2_5 |>.aloadN D2_8 rfl rfl |>.iconst D2_9 0 |>.aloadN D2_10 rfl rfl |>.alen pr2 D2_11 (z := 3) (by decide)
  have z2 := k.sz
  obtain ⟨h2, K2, ⟨b1_7_2, f2_0, f2_1, f2_2⟩, k⟩ := (k.callI (w_19 hw) (I4 hw) (R_String__init__72 hw pr16 pr17 pr3 pr2 pr4 pr5 pr15 pr18 pr6 pr7 pr8 pr9 pr10 pr11 pr12 pr19 pr20 pr21 pr13 pr14) D2_12 0 rfl).k0 (allS pr14 all0)
  have s_b1_7_2 := Nat.le_trans z2 f2_0
  exact k.ret0 D2_15 rfl ⟨rfl, K2, b1_7_2, s_b1_7_2, f2_1, f2_2⟩
theorem R_Utf8_decodeName_36 {a1 w_U8 : Addr} {p2 p3 p4 w_CS : Int32} {w_SF : Value} (hw : HW a0 Z) (pr1 : TS_U8 Z w_U8) (pr2 : Ary Z h0 a1 ATB 3 (lv [.int p2, .int p3, .int p4])) (pr3 : ¬ (w_CS = 0)) (pr4 : p2 < 0) (pr5 : ¬ ((p2 &&& 254) = 194)) (pr6 : ¬ ((p2 >>> ((5 : Int32) &&& 31)) = (-2))) (pr7 : (p2 >>> ((4 : Int32) &&& 31)) = (-2)) (pr8 : ¬ (p2 = (-32))) (pr9 : (p3 &&& 192) = 128) (pr10 : (p4 &&& 192) = 128) (pr11 : ¬ (((((p2 <<< ((12 : Int32) &&& 31)) ^^^ (p3 <<< ((6 : Int32) &&& 31))) ^^^ (p4 ^^^ (-123008))).toUInt32.toUInt16.toUInt32.toInt32) < 55296)) (pr12 : ¬ (((((p2 <<< ((12 : Int32) &&& 31)) ^^^ (p3 <<< ((6 : Int32) &&& 31))) ^^^ (p4 ^^^ (-123008))).toUInt32.toUInt16.toUInt32.toInt32) < 57344)) (pr13 : w_SF.isRef = true) (pr14 : Obj Z Z.heap w_U8 L_UTF_8 []) (pr15 : TS_UI Z w_U8) (pr16 : TS_CS Z w_CS) (pr17 : TS_SF Z w_SF) (pr18 : TS_AD Z) (pr19 : TS_HI Z) (pr20 : TS_LO Z) : Mt false [] l Y1 C1 (rmk 7 4 15 113) #[.ref a1] Z a0 h0 n0 (KpV h0 [] fun v h => ∃ b1 b1_7_2_2 : Addr, v = (.ref b1) ∧ h0.size ≤ b1 ∧ h0.size ≤ b1_7_2_2 ∧ b1_7_2_2 ≠ b1 ∧ Obj Z h b1 L_String [.ref b1_7_2_2, .int 1] ∧ Ary Z h b1_7_2_2 ATB 2 (lv [.int ((((((p2 <<< ((12 : Int32) &&& 31)) ^^^ (p3 <<< ((6 : Int32) &&& 31))) ^^^ (p4 ^^^ (-123008))).toUInt32.toUInt16.toUInt32.toInt32) >>> ((0 : Int32) &&& 31)).toInt8.toInt32), .int ((((((p2 <<< ((12 : Int32) &&& 31)) ^^^ (p3 <<< ((6 : Int32) &&& 31))) ^^^ (p4 ^^^ (-123008))).toUInt32.toUInt16.toUInt32.toInt32) >>> ((8 : Int32) &&& 31)).toInt8.toInt32)])) := by
  refine Mt.go PN1 (Or.inl rfl) ef_R_1 fun k => ?_
  have nz := k.n0le
  have z1 := k.sz
  obtain ⟨b1, h1, g1, K1, O1, k⟩ := k.new (w_5 hw) (nw_String hw) D1_0 (by decide) dvL_String
  replace k := k |>.dup D1_3 rfl |>.aloadN D1_4 rfl rfl |>.getS (fl_8 hw) pr1 D1_5
  have s_b1 := Nat.le_trans z1 g1
  have n_b1 := Nat.le_trans nz s_b1
  have o3 := pr2.keep K1 nin0
  have z2 := k.sz
  obtain ⟨h2, K2, ⟨b1_7_2_2, f2_0, f2_1, f2_2⟩, k⟩ := (k.callI (w_10 hw) (I2 hw) (R_String__init__71 hw pr14 o3 pr3 pr4 pr5 pr6 pr7 pr8 pr9 pr10 pr11 pr12 O1 n_b1 pr13 pr15 pr16 pr17 pr18 pr19 pr20) D1_8 1 rfl).k0 (allS n_b1 all0)
  have s_b1_7_2_2 := Nat.le_trans z2 f2_0
  exact k.retA D1_11 rfl ⟨_, rfl, (K1.trans K2 (allS (Or.inr s_b1) all0)), b1, b1_7_2_2, rfl, s_b1, s_b1_7_2_2, (nlt' O1.lt f2_0), f2_1, f2_2⟩
theorem D30_274 : Dc J30 274 (.iconst 4) 1 275 := by decide +kernel
theorem D30_275 : Dc J30 275 (.newarray .byte) 2 277 := by decide +kernel
theorem D30_277 : Dc J30 277 .dup 1 278 := by decide +kernel
theorem D30_278 : Dc J30 278 (.iconst 0) 1 279 := by decide +kernel
theorem D30_279 : Dc J30 279 (.iload 5) 2 281 := by decide +kernel
theorem D30_281 : Dc J30 281 .bastore 1 282 := by decide +kernel
theorem D30_282 : Dc J30 282 .dup 1 283 := by decide +kernel
theorem D30_283 : Dc J30 283 (.iconst 1) 1 284 := by decide +kernel
theorem D30_284 : Dc J30 284 (.iload 6) 2 286 := by decide +kernel
theorem D30_286 : Dc J30 286 .bastore 1 287 := by decide +kernel
theorem D30_287 : Dc J30 287 .dup 1 288 := by decide +kernel
theorem D30_288 : Dc J30 288 (.iconst 2) 1 289 := by decide +kernel
theorem D30_289 : Dc J30 289 (.iload 7) 2 291 := by decide +kernel
theorem D30_291 : Dc J30 291 .bastore 1 292 := by decide +kernel
theorem D30_292 : Dc J30 292 .dup 1 293 := by decide +kernel
theorem D30_293 : Dc J30 293 (.iconst 3) 1 294 := by decide +kernel
theorem D30_294 : Dc J30 294 (.iload 8) 2 296 := by decide +kernel
theorem D30_296 : Dc J30 296 .bastore 1 297 := by decide +kernel
theorem D30_297 : Dc J30 297 .areturn 1 298 := by decide +kernel
theorem R_Utf8DecodeNamePinLaw_encode_8 {p1 p2 p3 : Int32} (hw : HW a0 Z) (pr1 : ¬ (p2 = 0)) (pr2 : ¬ (p2 = 1)) (pr3 : ¬ (p2 = 2)) : Mt false [] l Y30 C30 (rmk 0 1 4 0) #[.int p1, .int p2, .int 0, .int p3] Z a0 h0 n0 (KpV h0 [] fun v h => ∃ b1 : Addr, v = (.ref b1) ∧ h0.size ≤ b1 ∧ Ary Z h b1 ATB 4 (lv [.int ((240 ||| (p1 >>> ((18 : Int32) &&& 31))).toInt8.toInt32), .int ((128 ||| ((p1 >>> ((12 : Int32) &&& 31)) &&& 63)).toInt8.toInt32), .int ((128 ||| ((p1 >>> ((6 : Int32) &&& 31)) &&& 63)).toInt8.toInt32), .int ((128 ||| (p1 &&& 63)).toInt8.toInt32)])) := by
  refine Mt.go PN30 (Or.inl rfl) ef_IIII_9_0 fun k => ?_
  have nz := k.n0le
  replace k := k |>.iloadN D30_0 rfl |>.i2b D30_1 rfl |>.istore D30_2 sto4 |>.iloadN D30_4 rfl |>.ifYes D30_5 ((if0 _ _).trans (feq pr1).2) |>.iloadN D30_39 rfl |>.iconst D30_40 1 |>.icmpYes D30_41 (feq pr2).2 |>.iloadN D30_103 rfl |>.iconst D30_104 2 |>.icmpYes D30_105 (feq pr3).2 |>.sipush D30_191 240
  replace k := k |>.iloadN D30_194 rfl |>.bipush D30_195 18 |>.ishr D30_197 rfl |>.ior D30_198 rfl |>.i2b D30_199 rfl |>.istore D30_200 sto5 |>.sipush D30_202 128 |>.iloadN D30_205 rfl |>.bipush D30_206 12 |>.ishr D30_208 rfl |>.bipush D30_209 63 |>.iand D30_211 rfl
  replace k := k |>.ior D30_212 rfl |>.i2b D30_213 rfl |>.istore D30_214 sto6 |>.sipush D30_216 128 |>.iloadN D30_219 rfl |>.bipush D30_220 6 |>.ishr D30_222 rfl |>.bipush D30_223 63 |>.iand D30_225 rfl |>.ior D30_226 rfl |>.i2b D30_227 rfl |>.istore D30_228 sto7
  replace k := k |>.sipush D30_230 128 |>.iloadN D30_233 rfl |>.bipush D30_234 63 |>.iand D30_236 rfl |>.ior D30_237 rfl |>.i2b D30_238 rfl |>.istore D30_239 sto8 |>.iloadN D30_241 rfl |>.ifYes D30_242 (by decide) |>.iconst D30_274 4
  have z1 := k.sz
  obtain ⟨b1, h1, g1, K1, O1, k⟩ := k.newP (aty := .byte) "[B" (w_0 hw) (by decide) D30_275 4 (by decide) (n := 4) (by decide) (by decide) (by decide) (lv_const (V := [(.int 0), (.int 0), (.int 0), (.int 0)]) rfl)
  replace k := k |>.dup D30_277 rfl |>.iconst D30_278 0 |>.iload D30_279 rfl
  have s_b1 := Nat.le_trans z1 g1
  have n_b1 := Nat.le_trans nz s_b1
  obtain ⟨h2, K2, O2, k⟩ := k.stB O1 n_b1 (Or.inl rfl) D30_281 (i := 0) (by decide) (v := (.int ((240 ||| (p1 >>> ((18 : Int32) &&& 31))).toInt8.toInt32))) (congrArg Value.int (own_nnBi2b _)) (own_fitBi2b _) lvs0
  replace k := k |>.dup D30_282 rfl |>.iconst D30_283 1 |>.iload D30_284 rfl
  obtain ⟨h3, K3, O3, k⟩ := k.stB O2 n_b1 (Or.inl rfl) D30_286 (i := 1) (by decide) (v := (.int ((128 ||| ((p1 >>> ((12 : Int32) &&& 31)) &&& 63)).toInt8.toInt32))) (congrArg Value.int (own_nnBi2b _)) (own_fitBi2b _) lvs1
  replace k := k |>.dup D30_287 rfl |>.iconst D30_288 2 |>.iload D30_289 rfl
  obtain ⟨h4, K4, O4, k⟩ := k.stB O3 n_b1 (Or.inl rfl) D30_291 (i := 2) (by decide) (v := (.int ((128 ||| ((p1 >>> ((6 : Int32) &&& 31)) &&& 63)).toInt8.toInt32))) (congrArg Value.int (own_nnBi2b _)) (own_fitBi2b _) lvs2
  replace k := k |>.dup D30_292 rfl |>.iconst D30_293 3 |>.iload D30_294 rfl
  obtain ⟨h5, K5, O5, k⟩ := k.stB O4 n_b1 (Or.inl rfl) D30_296 (i := 3) (by decide) (v := (.int ((128 ||| (p1 &&& 63)).toInt8.toInt32))) (congrArg Value.int (own_nnBi2b _)) (own_fitBi2b _) lvs3
  exact k.retA D30_297 rfl ⟨_, rfl, ((((K1.trans K2 (allS (Or.inr s_b1) all0)).trans K3 (allS (Or.inr s_b1) all0)).trans K4 (allS (Or.inr s_b1) all0)).trans K5 (allS (Or.inr s_b1) all0)), b1, rfl, s_b1, O5⟩
theorem R_String_decodeUTF8_UTF16_29 {a1 a2 : Addr} {p3 p4 p5 p6 : Int32} (hw : HW a0 Z) (pr1 : Ary Z h0 a1 ATB 4 (lv [.int p3, .int p4, .int p5, .int p6])) (pr2 : p3 < 0) (pr3 : ¬ ((p3 >>> ((5 : Int32) &&& 31)) = (-2))) (pr4 : ¬ ((p3 >>> ((4 : Int32) &&& 31)) = (-2))) (pr5 : (p3 >>> ((3 : Int32) &&& 31)) = (-2)) (pr6 : (p4 &&& 192) = 128) (pr7 : (p5 &&& 192) = 128) (pr8 : (p6 &&& 192) = 128) (pr9 : ¬ (((((p3 <<< ((18 : Int32) &&& 31)) ^^^ (p4 <<< ((12 : Int32) &&& 31))) ^^^ (p5 <<< ((6 : Int32) &&& 31))) ^^^ (p6 ^^^ 3678080)) < 65536)) (pr10 : ((((p3 <<< ((18 : Int32) &&& 31)) ^^^ (p4 <<< ((12 : Int32) &&& 31))) ^^^ (p5 <<< ((6 : Int32) &&& 31))) ^^^ (p6 ^^^ 3678080)) < 1114112) (pr11 : Ary Z h0 a2 ATB 8 (lv [.int 0, .int 0, .int 0, .int 0, .int 0, .int 0, .int 0, .int 0])) (pr12 : n0 ≤ a2) (pr13 : TS_AD Z) (pr14 : TS_HI Z) (pr15 : TS_LO Z) : Mt false [] l Y15 C15 (rmk 1 0 0 15) #[.ref a1, .int 0, .int 4, .ref a2, .int 0, .int 1] Z a0 h0 n0 (KpV h0 [a2] fun v h => v = (.int 2) ∧ Ary Z h a2 ATB 8 (lv [.int ((((((((((p3 <<< ((18 : Int32) &&& 31)) ^^^ (p4 <<< ((12 : Int32) &&& 31))) ^^^ (p5 <<< ((6 : Int32) &&& 31))) ^^^ (p6 ^^^ 3678080)).toUInt32 >>> ((10 : Int32) &&& 31).toUInt32).toInt32) + 55232).toUInt32.toUInt16.toUInt32.toInt32) >>> ((0 : Int32) &&& 31)).toInt8.toInt32), .int ((((((((((p3 <<< ((18 : Int32) &&& 31)) ^^^ (p4 <<< ((12 : Int32) &&& 31))) ^^^ (p5 <<< ((6 : Int32) &&& 31))) ^^^ (p6 ^^^ 3678080)).toUInt32 >>> ((10 : Int32) &&& 31).toUInt32).toInt32) + 55232).toUInt32.toUInt16.toUInt32.toInt32) >>> ((8 : Int32) &&& 31)).toInt8.toInt32), .int (((((((((p3 <<< ((18 : Int32) &&& 31)) ^^^ (p4 <<< ((12 : Int32) &&& 31))) ^^^ (p5 <<< ((6 : Int32) &&& 31))) ^^^ (p6 ^^^ 3678080)) &&& 1023) + 56320).toUInt32.toUInt16.toUInt32.toInt32) >>> ((0 : Int32) &&& 31)).toInt8.toInt32), .int (((((((((p3 <<< ((18 : Int32) &&& 31)) ^^^ (p4 <<< ((12 : Int32) &&& 31))) ^^^ (p5 <<< ((6 : Int32) &&& 31))) ^^^ (p6 ^^^ 3678080)) &&& 1023) + 56320).toUInt32.toUInt16.toUInt32.toInt32) >>> ((8 : Int32) &&& 31)).toInt8.toInt32), .int 0, .int 0, .int 0, .int 0])) := by
  refine Mt.go PN15 (Or.inl rfl) ef_RIIRII_11_0_4_0_1 fun k => ?_
  replace k := k |>.iloadN D15_0 rfl |>.iloadN D15_1 rfl |>.icmpNo D15_2 (by decide) |>.aloadN D15_5 rfl rfl |>.iloadN D15_6 rfl |>.iinc D15_7 rfl (z := 1) (by decide) sto1 |>.bald pr1 D15_10 (i := 0) (by decide) lvg0 |>.istore D15_11 sto6 |>.iload D15_13 rfl |>.ifYes D15_15 ((if0 _ _).trans (tlt pr2).1) |>.iload D15_33 rfl |>.iconst D15_35 5
  replace k := k |>.ishr D15_36 rfl |>.bipush D15_37 (-2) |>.icmpYes D15_39 (feq pr3).2 |>.iload D15_143 rfl |>.iconst D15_145 4 |>.ishr D15_146 rfl |>.bipush D15_147 (-2) |>.icmpYes D15_149 (feq pr4).2 |>.iload D15_349 rfl |>.iconst D15_351 3 |>.ishr D15_352 rfl |>.bipush D15_353 (-2)
  replace k := k |>.icmpNo D15_355 (teq pr5).2 |>.iloadN D15_358 rfl |>.iconst D15_359 2 |>.iadd D15_360 (z := 3) (by decide) |>.iloadN D15_361 rfl |>.icmpNo D15_362 (by decide) |>.aloadN D15_365 rfl rfl |>.iloadN D15_366 rfl |>.iinc D15_367 rfl (z := 2) (by decide) sto1 |>.bald pr1 D15_370 (i := 1) (by decide) lvg1 |>.istore D15_371 sto7 |>.aloadN D15_373 rfl rfl
  replace k := k |>.iloadN D15_374 rfl |>.iinc D15_375 rfl (z := 3) (by decide) sto1 |>.bald pr1 D15_378 (i := 2) (by decide) lvg2 |>.istore D15_379 sto8 |>.aloadN D15_381 rfl rfl |>.iloadN D15_382 rfl |>.iinc D15_383 rfl (z := 4) (by decide) sto1 |>.bald pr1 D15_386 (i := 3) (by decide) lvg3 |>.istore D15_387 sto9 |>.iload D15_389 rfl |>.iload D15_391 rfl |>.iload D15_393 rfl
  replace k := k |>.iload D15_395 rfl
  replace k := (k.callS (w_129 hw) (S38 hw) (R_String_decode4_1 hw) D15_397 0 rfl).pv
  replace k := k |>.istore D15_400 sto10 |>.iload D15_402 rfl |>.iload D15_404 rfl |>.iload D15_406 rfl
  replace k := (k.callS (w_133 hw) (S39 hw) (R_String_isMalformed4_1 hw pr6 pr7 pr8) D15_408 0 rfl).pv
  replace k := k |>.ifNo D15_411 (by decide) |>.iload D15_414 rfl
  replace k := (k.callS (w_136 hw) (S40 hw) (R_Character_isSupplementaryCodePoint_1 hw pr9 pr10) D15_416 0 rfl).pv
  replace k := k |>.ifYes D15_419 (by decide) |>.aloadN D15_459 rfl rfl |>.iload D15_460 rfl |>.iinc D15_462 rfl (z := 1) (by decide) sto4 |>.iload D15_465 rfl
  replace k := (k.callS (w_142 hw) (S41 hw) (R_Character_highSurrogate_1 hw) D15_467 2 rfl).pv
  obtain ⟨h5, K5, f5_0, k⟩ := (k.callS (w_146 hw) (S17 hw) (R_StringUTF16_putChar_5 hw pr13 pr14 pr11 pr12 pr15) D15_470 0 rfl).k0 (allS pr12 all0)
  replace k := k |>.aloadN D15_473 rfl rfl |>.iload D15_474 rfl |>.iinc D15_476 rfl (z := 2) (by decide) sto4 |>.iload D15_479 rfl
  replace k := (k.callS (w_152 hw) (S42 hw) (R_Character_lowSurrogate_1 hw) D15_481 2 rfl).pv
  obtain ⟨h7, K7, f7_0, k⟩ := (k.callS (w_146 hw) (S17 hw) (R_StringUTF16_putChar_6 hw pr13 pr14 f5_0 pr12 pr15) D15_484 0 rfl).k0 (allS pr12 all0)
  replace k := k |>.goto D15_487 |>.iloadN D15_0 rfl |>.iloadN D15_1 rfl |>.icmpYes D15_2 (by decide) |>.iload D15_621 rfl
  exact k.retI D15_623 rfl ⟨_, rfl, (K5.trans K7 (allS (Or.inl (List.mem_of_getElem? (i := 0) rfl)) all0)), rfl, f7_0⟩
theorem R_String__init__74 {a1 w_U8 a2 : Addr} {w_CS p3 p4 p5 p6 : Int32} {w_SF : Value} (hw : HW a0 Z) (pr1 : TS_UI Z w_U8) (pr2 : TS_CS Z w_CS) (pr3 : ¬ (w_CS = 0)) (pr4 : Ary Z h0 a2 ATB 4 (lv [.int p3, .int p4, .int p5, .int p6])) (pr5 : p3 < 0) (pr6 : ¬ ((p3 &&& 254) = 194)) (pr7 : w_SF.isRef = true) (pr8 : TS_SF Z w_SF) (pr9 : ¬ ((p3 >>> ((5 : Int32) &&& 31)) = (-2))) (pr10 : ¬ ((p3 >>> ((4 : Int32) &&& 31)) = (-2))) (pr11 : (p3 >>> ((3 : Int32) &&& 31)) = (-2)) (pr12 : (p4 &&& 192) = 128) (pr13 : (p5 &&& 192) = 128) (pr14 : (p6 &&& 192) = 128) (pr15 : ¬ (((((p3 <<< ((18 : Int32) &&& 31)) ^^^ (p4 <<< ((12 : Int32) &&& 31))) ^^^ (p5 <<< ((6 : Int32) &&& 31))) ^^^ (p6 ^^^ 3678080)) < 65536)) (pr16 : ((((p3 <<< ((18 : Int32) &&& 31)) ^^^ (p4 <<< ((12 : Int32) &&& 31))) ^^^ (p5 <<< ((6 : Int32) &&& 31))) ^^^ (p6 ^^^ 3678080)) < 1114112) (pr17 : TS_AD Z) (pr18 : TS_HI Z) (pr19 : TS_LO Z) (pr20 : Obj Z h0 a1 L_String [.null, .int 0]) (pr21 : n0 ≤ a1) : Mt false [] l Y4 C4 (rmk 5 3 16 76) #[.ref a1, .ref w_U8, .ref a2, .int 0, .int 4] Z a0 h0 n0 (K0 h0 [a1] fun h => ∃ b1_7 : Addr, h0.size ≤ b1_7 ∧ Obj Z h a1 L_String [.ref b1_7, .int 1] ∧ Ary Z h b1_7 ATB 4 (lv [.int ((((((((((p3 <<< ((18 : Int32) &&& 31)) ^^^ (p4 <<< ((12 : Int32) &&& 31))) ^^^ (p5 <<< ((6 : Int32) &&& 31))) ^^^ (p6 ^^^ 3678080)).toUInt32 >>> ((10 : Int32) &&& 31).toUInt32).toInt32) + 55232).toUInt32.toUInt16.toUInt32.toInt32) >>> ((0 : Int32) &&& 31)).toInt8.toInt32), .int ((((((((((p3 <<< ((18 : Int32) &&& 31)) ^^^ (p4 <<< ((12 : Int32) &&& 31))) ^^^ (p5 <<< ((6 : Int32) &&& 31))) ^^^ (p6 ^^^ 3678080)).toUInt32 >>> ((10 : Int32) &&& 31).toUInt32).toInt32) + 55232).toUInt32.toUInt16.toUInt32.toInt32) >>> ((8 : Int32) &&& 31)).toInt8.toInt32), .int (((((((((p3 <<< ((18 : Int32) &&& 31)) ^^^ (p4 <<< ((12 : Int32) &&& 31))) ^^^ (p5 <<< ((6 : Int32) &&& 31))) ^^^ (p6 ^^^ 3678080)) &&& 1023) + 56320).toUInt32.toUInt16.toUInt32.toInt32) >>> ((0 : Int32) &&& 31)).toInt8.toInt32), .int (((((((((p3 <<< ((18 : Int32) &&& 31)) ^^^ (p4 <<< ((12 : Int32) &&& 31))) ^^^ (p5 <<< ((6 : Int32) &&& 31))) ^^^ (p6 ^^^ 3678080)) &&& 1023) + 56320).toUInt32.toUInt16.toUInt32.toInt32) >>> ((8 : Int32) &&& 31)).toInt8.toInt32)])) := by
  refine Mt.go PN4 (Or.inr ⟨_, rfl⟩) ef_RRRII_11_0_4 fun k => ?_
  have nz := k.n0le
  replace k := k |>.aloadN D4_0 rfl rfl |>.initO (w_23 hw) (w_24 hw) (w_25 hw) D4_1 0 |>.iload D4_4 rfl |>.ifYes D4_6 (by decide) |>.aloadN D4_30 rfl rfl |>.getS (fl_46 hw) pr1 D4_31 |>.acmpNo D4_34 rfl rfl true (decide_eq_true rfl) (by decide) |>.getS (fl_48 hw) pr2 D4_37 |>.ifNo D4_40 ((if0 _ _).trans (feq pr3).1) |>.aloadN D4_43 rfl rfl |>.iloadN D4_44 rfl |>.iload D4_45 rfl
  replace k := (k.callS (w_49 hw) (S5 hw) (R_StringCoding_countPositives_4 hw pr4 pr5) D4_47 0 rfl).pv
  replace k := k |>.istore D4_50 sto5 |>.iload D4_52 rfl |>.iload D4_54 rfl |>.icmpYes D4_56 (by decide) |>.aloadN D4_78 rfl rfl |>.iloadN D4_79 rfl |>.iloadN D4_80 rfl |>.iload D4_81 rfl |>.iadd D4_83 (z := 4) (by decide)
  have z2 := k.sz
  obtain ⟨_, h2, K2, ⟨b1_2, rfl, f2_0, f2_1⟩, k⟩ := (k.callS (w_53 hw) (S6 hw) (R_Arrays_copyOfRange_3 hw pr4) D4_84 0 rfl).kv
  replace k := k |>.astore D4_87 rfl sto6 |>.iload D4_89 rfl |>.istore D4_91 sto7 |>.iload D4_93 rfl |>.iload D4_95 rfl |>.icmpNo D4_97 (by decide) |>.aload D4_100 rfl rfl |>.iload D4_102 rfl |>.iinc D4_104 rfl (z := 1) (by decide) sto7 |>.bald f2_1 D4_107 (i := 0) (by decide) lvg0 |>.istore D4_108 sto8 |>.iload D4_110 rfl
  replace k := k |>.ifYes D4_112 ((if0 _ _).trans (tlt pr5).1) |>.iload D4_129 rfl |>.sipush D4_131 254 |>.iand D4_134 rfl |>.sipush D4_135 194 |>.icmpYes D4_138 (feq pr6).2 |>.iinc D4_184 rfl (z := 0) (by decide) sto7 |>.goto D4_187 |>.iload D4_190 rfl |>.iload D4_192 rfl |>.icmpYes D4_194 (by decide) |>.iload D4_226 rfl
  have z3 := k.sz
  obtain ⟨_, h3, K3, ⟨b2_3, rfl, f3_0, f3_1⟩, k⟩ := (k.callS (w_100 hw) (S7 hw) (R_StringUTF16_newBytesFor_3 hw) D4_228 0 rfl).kv
  replace k := k |>.astore D4_231 rfl sto8 |>.aload D4_233 rfl rfl |>.iconst D4_235 0 |>.aload D4_236 rfl rfl |>.iconst D4_238 0 |>.iload D4_239 rfl
  replace k := (k.callS (w_108 hw) (S9 hw) (R_StringLatin1_inflate_3 hw f3_1 pr7 pr8) D4_241 0 rfl).p0
  replace k := k |>.aload D4_244 rfl rfl |>.iload D4_246 rfl |>.iload D4_248 rfl |>.aload D4_250 rfl rfl |>.iload D4_252 rfl |>.iconst D4_254 1
  have s_b2_3 := Nat.le_trans z3 f3_0
  have n_b2_3 := Nat.le_trans nz s_b2_3
  have o6 := f2_1.keep K3 nin0
  obtain ⟨_, h5, K5, ⟨rfl, f5_0⟩, k⟩ := (k.callS (w_126 hw) (S15 hw) (R_String_decodeUTF8_UTF16_29 hw o6 pr5 pr9 pr10 pr11 pr12 pr13 pr14 pr15 pr16 f3_1 n_b2_3 pr17 pr18 pr19) D4_255 0 rfl).kv (allS n_b2_3 all0)
  replace k := k |>.istore D4_258 sto5 |>.iload D4_260 rfl |>.iload D4_262 rfl |>.icmpNo D4_264 (by decide) |>.aload D4_267 rfl rfl |>.iload D4_269 rfl |>.iconst D4_271 1 |>.ishl D4_272 (z := 4) (by decide)
  have z7 := k.sz
  obtain ⟨_, h7, K7, ⟨b1_7, rfl, f7_0, f7_1⟩, k⟩ := (k.callS (w_156 hw) (S33 hw) (R_Arrays_copyOf_3 hw f5_0) D4_273 0 rfl).kv
  replace k := k |>.astore D4_276 rfl sto8 |>.aloadN D4_278 rfl rfl |>.aload D4_279 rfl rfl
  have o8 := (((pr20.keep K2 nin0).keep K3 nin0).keep K5 (ninS (nlt pr20.lt s_b2_3) nin0)).keep K7 nin0
  obtain ⟨h9, K9, O9, k⟩ := k.putF (fl_31 hw) (pw_String_i_String_value hw) o8 0 pr21 (Or.inl rfl) D4_281 rfl rfl rfl ls0
  replace k := k |>.aloadN D4_284 rfl rfl |>.iconst D4_285 1
  obtain ⟨h10, K10, O10, k⟩ := k.putN (fp_32 hw) (pw_String_i_String_coder hw) O9 1 pr21 (Or.inl rfl) D4_286 rfl (v' := (.int 1)) (by decide) (by decide) ls1
  replace k := k |>.goto D4_289
  have s_b1_7 := Nat.le_trans z7 f7_0
  have o11 := (f7_1.keep K9 (ninS (nlt' pr20.lt s_b1_7) nin0)).keep K10 (ninS (nlt' pr20.lt s_b1_7) nin0)
  exact k.ret0 D4_879 rfl ⟨rfl, (((((((Keep.refl h0 [a1]).trans K2 all0).trans K3 all0).trans K5 (allS (Or.inr s_b2_3) all0)).trans K7 all0).trans K9 (allS (Or.inl (List.mem_of_getElem? (i := 0) rfl)) all0)).trans K10 (allS (Or.inl (List.mem_of_getElem? (i := 0) rfl)) all0)), b1_7, s_b1_7, O10, o11⟩
theorem R_String__init__73 {a1 a2 w_U8 : Addr} {p3 p4 p5 p6 w_CS : Int32} {w_SF : Value} (hw : HW a0 Z) (pr1 : Obj Z Z.heap w_U8 L_UTF_8 []) (pr2 : Ary Z h0 a2 ATB 4 (lv [.int p3, .int p4, .int p5, .int p6])) (pr3 : ¬ (w_CS = 0)) (pr4 : p3 < 0) (pr5 : ¬ ((p3 &&& 254) = 194)) (pr6 : ¬ ((p3 >>> ((5 : Int32) &&& 31)) = (-2))) (pr7 : ¬ ((p3 >>> ((4 : Int32) &&& 31)) = (-2))) (pr8 : (p3 >>> ((3 : Int32) &&& 31)) = (-2)) (pr9 : (p4 &&& 192) = 128) (pr10 : (p5 &&& 192) = 128) (pr11 : (p6 &&& 192) = 128) (pr12 : ¬ (((((p3 <<< ((18 : Int32) &&& 31)) ^^^ (p4 <<< ((12 : Int32) &&& 31))) ^^^ (p5 <<< ((6 : Int32) &&& 31))) ^^^ (p6 ^^^ 3678080)) < 65536)) (pr13 : ((((p3 <<< ((18 : Int32) &&& 31)) ^^^ (p4 <<< ((12 : Int32) &&& 31))) ^^^ (p5 <<< ((6 : Int32) &&& 31))) ^^^ (p6 ^^^ 3678080)) < 1114112) (pr14 : Obj Z h0 a1 L_String [.null, .int 0]) (pr15 : n0 ≤ a1) (pr16 : w_SF.isRef = true) (pr17 : TS_UI Z w_U8) (pr18 : TS_CS Z w_CS) (pr19 : TS_SF Z w_SF) (pr20 : TS_AD Z) (pr21 : TS_HI Z) (pr22 : TS_LO Z) : Mt false [] l Y2 C2 (rmk 6 3 16 98) #[.ref a1, .ref a2, .ref w_U8] Z a0 h0 n0 (K0 h0 [a1] fun h => ∃ b1_7_2 : Addr, h0.size ≤ b1_7_2 ∧ Obj Z h a1 L_String [.ref b1_7_2, .int 1] ∧ Ary Z h b1_7_2 ATB 4 (lv [.int ((((((((((p3 <<< ((18 : Int32) &&& 31)) ^^^ (p4 <<< ((12 : Int32) &&& 31))) ^^^ (p5 <<< ((6 : Int32) &&& 31))) ^^^ (p6 ^^^ 3678080)).toUInt32 >>> ((10 : Int32) &&& 31).toUInt32).toInt32) + 55232).toUInt32.toUInt16.toUInt32.toInt32) >>> ((0 : Int32) &&& 31)).toInt8.toInt32), .int ((((((((((p3 <<< ((18 : Int32) &&& 31)) ^^^ (p4 <<< ((12 : Int32) &&& 31))) ^^^ (p5 <<< ((6 : Int32) &&& 31))) ^^^ (p6 ^^^ 3678080)).toUInt32 >>> ((10 : Int32) &&& 31).toUInt32).toInt32) + 55232).toUInt32.toUInt16.toUInt32.toInt32) >>> ((8 : Int32) &&& 31)).toInt8.toInt32), .int (((((((((p3 <<< ((18 : Int32) &&& 31)) ^^^ (p4 <<< ((12 : Int32) &&& 31))) ^^^ (p5 <<< ((6 : Int32) &&& 31))) ^^^ (p6 ^^^ 3678080)) &&& 1023) + 56320).toUInt32.toUInt16.toUInt32.toInt32) >>> ((0 : Int32) &&& 31)).toInt8.toInt32), .int (((((((((p3 <<< ((18 : Int32) &&& 31)) ^^^ (p4 <<< ((12 : Int32) &&& 31))) ^^^ (p5 <<< ((6 : Int32) &&& 31))) ^^^ (p6 ^^^ 3678080)) &&& 1023) + 56320).toUInt32.toUInt16.toUInt32.toInt32) >>> ((8 : Int32) &&& 31)).toInt8.toInt32)])) := by
  refine Mt.go PN2 (Or.inl rfl) ef_RRR_3 fun k => ?_
  replace k := k |>.aloadN D2_0 rfl rfl |>.aloadN D2_1 rfl rfl
  replace k := (k.callS (w_13 hw) (S3 hw) (R_Objects_requireNonNull_1 hw) D2_2 1 rfl).pv
  replace k := k |>.castY (w_17 hw) (Ins.of_exa (pr1.ext k.old.2).exa (w_18 hw)) D2_5 |>.aloadN D2_8 rfl rfl |>.iconst D2_9 0 |>.aloadN D2_10 rfl rfl |>.alen pr2 D2_11 (z := 4) (by decide)
  have z2 := k.sz
  obtain ⟨h2, K2, ⟨b1_7_2, f2_0, f2_1, f2_2⟩, k⟩ := (k.callI (w_19 hw) (I4 hw) (R_String__init__74 hw pr17 pr18 pr3 pr2 pr4 pr5 pr16 pr19 pr6 pr7 pr8 pr9 pr10 pr11 pr12 pr13 pr20 pr21 pr22 pr14 pr15) D2_12 0 rfl).k0 (allS pr15 all0)
  have s_b1_7_2 := Nat.le_trans z2 f2_0
  exact k.ret0 D2_15 rfl ⟨rfl, K2, b1_7_2, s_b1_7_2, f2_1, f2_2⟩
theorem R_Utf8_decodeName_37 {a1 w_U8 : Addr} {p2 p3 p4 p5 w_CS : Int32} {w_SF : Value} (hw : HW a0 Z) (pr1 : TS_U8 Z w_U8) (pr2 : Ary Z h0 a1 ATB 4 (lv [.int p2, .int p3, .int p4, .int p5])) (pr3 : ¬ (w_CS = 0)) (pr4 : p2 < 0) (pr5 : ¬ ((p2 &&& 254) = 194)) (pr6 : ¬ ((p2 >>> ((5 : Int32) &&& 31)) = (-2))) (pr7 : ¬ ((p2 >>> ((4 : Int32) &&& 31)) = (-2))) (pr8 : (p2 >>> ((3 : Int32) &&& 31)) = (-2)) (pr9 : (p3 &&& 192) = 128) (pr10 : (p4 &&& 192) = 128) (pr11 : (p5 &&& 192) = 128) (pr12 : ¬ (((((p2 <<< ((18 : Int32) &&& 31)) ^^^ (p3 <<< ((12 : Int32) &&& 31))) ^^^ (p4 <<< ((6 : Int32) &&& 31))) ^^^ (p5 ^^^ 3678080)) < 65536)) (pr13 : ((((p2 <<< ((18 : Int32) &&& 31)) ^^^ (p3 <<< ((12 : Int32) &&& 31))) ^^^ (p4 <<< ((6 : Int32) &&& 31))) ^^^ (p5 ^^^ 3678080)) < 1114112) (pr14 : w_SF.isRef = true) (pr15 : Obj Z Z.heap w_U8 L_UTF_8 []) (pr16 : TS_UI Z w_U8) (pr17 : TS_CS Z w_CS) (pr18 : TS_SF Z w_SF) (pr19 : TS_AD Z) (pr20 : TS_HI Z) (pr21 : TS_LO Z) : Mt false [] l Y1 C1 (rmk 7 4 20 113) #[.ref a1] Z a0 h0 n0 (KpV h0 [] fun v h => ∃ b1 b1_7_2_2 : Addr, v = (.ref b1) ∧ h0.size ≤ b1 ∧ h0.size ≤ b1_7_2_2 ∧ b1_7_2_2 ≠ b1 ∧ Obj Z h b1 L_String [.ref b1_7_2_2, .int 1] ∧ Ary Z h b1_7_2_2 ATB 4 (lv [.int ((((((((((p2 <<< ((18 : Int32) &&& 31)) ^^^ (p3 <<< ((12 : Int32) &&& 31))) ^^^ (p4 <<< ((6 : Int32) &&& 31))) ^^^ (p5 ^^^ 3678080)).toUInt32 >>> ((10 : Int32) &&& 31).toUInt32).toInt32) + 55232).toUInt32.toUInt16.toUInt32.toInt32) >>> ((0 : Int32) &&& 31)).toInt8.toInt32), .int ((((((((((p2 <<< ((18 : Int32) &&& 31)) ^^^ (p3 <<< ((12 : Int32) &&& 31))) ^^^ (p4 <<< ((6 : Int32) &&& 31))) ^^^ (p5 ^^^ 3678080)).toUInt32 >>> ((10 : Int32) &&& 31).toUInt32).toInt32) + 55232).toUInt32.toUInt16.toUInt32.toInt32) >>> ((8 : Int32) &&& 31)).toInt8.toInt32), .int (((((((((p2 <<< ((18 : Int32) &&& 31)) ^^^ (p3 <<< ((12 : Int32) &&& 31))) ^^^ (p4 <<< ((6 : Int32) &&& 31))) ^^^ (p5 ^^^ 3678080)) &&& 1023) + 56320).toUInt32.toUInt16.toUInt32.toInt32) >>> ((0 : Int32) &&& 31)).toInt8.toInt32), .int (((((((((p2 <<< ((18 : Int32) &&& 31)) ^^^ (p3 <<< ((12 : Int32) &&& 31))) ^^^ (p4 <<< ((6 : Int32) &&& 31))) ^^^ (p5 ^^^ 3678080)) &&& 1023) + 56320).toUInt32.toUInt16.toUInt32.toInt32) >>> ((8 : Int32) &&& 31)).toInt8.toInt32)])) := by
  refine Mt.go PN1 (Or.inl rfl) ef_R_1 fun k => ?_
  have nz := k.n0le
  have z1 := k.sz
  obtain ⟨b1, h1, g1, K1, O1, k⟩ := k.new (w_5 hw) (nw_String hw) D1_0 (by decide) dvL_String
  replace k := k |>.dup D1_3 rfl |>.aloadN D1_4 rfl rfl |>.getS (fl_8 hw) pr1 D1_5
  have s_b1 := Nat.le_trans z1 g1
  have n_b1 := Nat.le_trans nz s_b1
  have o3 := pr2.keep K1 nin0
  have z2 := k.sz
  obtain ⟨h2, K2, ⟨b1_7_2_2, f2_0, f2_1, f2_2⟩, k⟩ := (k.callI (w_10 hw) (I2 hw) (R_String__init__73 hw pr15 o3 pr3 pr4 pr5 pr6 pr7 pr8 pr9 pr10 pr11 pr12 pr13 O1 n_b1 pr14 pr16 pr17 pr18 pr19 pr20 pr21) D1_8 1 rfl).k0 (allS n_b1 all0)
  have s_b1_7_2_2 := Nat.le_trans z2 f2_0
  exact k.retA D1_11 rfl ⟨_, rfl, (K1.trans K2 (allS (Or.inr s_b1) all0)), b1, b1_7_2_2, rfl, s_b1, s_b1_7_2_2, (nlt' O1.lt f2_0), f2_1, f2_2⟩
theorem PN0 : plainFor Y0 = true := plainFor_of_name pn_Utf8DecodeNamePinLaw
theorem ef_III_maxLocals {x0 : Int32} {x1 : Int32} {x2 : Int32}  (m : MethodId) : entryFrame m #[(.int x0), (.int x1), (.int x2)] maxLocals = mkF m 0 #[.val (.int x0), .val (.int x1), .val (.int x2), .unset, .unset, .unset, .unset, .unset, .unset, .unset, .unset, .unset, .unset] [] := by
  first | (simp [entryFrame, mkF, argsToLocals, Value.category, maxLocals]; done) | rfl
theorem R_law {p1 p2 p3 w_CS : Int32} {w_U8 : Addr} {w_SF : Value} (hw : HW a0 Z) (S_AD : TS_AD Z) (S_HI : TS_HI Z) (S_LO : TS_LO Z) (S_CS : TS_CS Z w_CS) (S_SF : TS_SF Z w_SF) (S_U8 : TS_U8 Z w_U8) (S_UI : TS_UI Z w_U8) (A_U8 : Obj Z Z.heap w_U8 L_UTF_8 []) (r_SF : w_SF.isRef = true) (h_CS : ¬ (w_CS = (0 : Int32))) (hmode : ¬ ((p3 &&& (3 : Int32)) = (2 : Int32))) : Mt false [] l Y0 C0 room_1 #[.int p1, .int p2, .int p3] Z a0 h0 n0 (fun v _ => v = some (.int 1)) := by
  refine Mt.go PN0 (Or.inl rfl) ef_III_maxLocals fun k => ?_
  have nz := k.n0le
  replace k := k |>.iloadN D0_0 rfl |>.iconst D0_1 3 |>.iand D0_2 rfl |>.istoreN D0_3 sto3 |>.iloadN D0_4 rfl |>.bipush D0_5 127 |>.iand D0_7 rfl |>.istore D0_8 sto4 |>.iloadN D0_10 rfl |>.iconst D0_11 2 |>.icmpYes D0_12 (feq hmode).2 |>.iloadN D0_29 rfl
  replace k := k |>.iconst D0_30 1
  by_cases hc31_1 : (p3 &&& 3) = 1
  · replace k := k |>.icmpNo D0_31 (teq hc31_1).2 |>.sipush D0_34 128 |>.iloadN D0_37 rfl |>.bipush D0_38 127 |>.iand D0_40 rfl |>.ior D0_41 rfl |>.istore D0_42 sto5 |>.iconst D0_44 2
    have z2 := k.sz
    obtain ⟨b2, h2, g2, K2, O2, k⟩ := k.newP (aty := .byte) "[B" (w_0 hw) (by decide) D0_45 2 (by decide) (n := 2) (by decide) (by decide) (by decide) (lv_const (V := [(.int 0), (.int 0)]) rfl)
    replace k := k |>.dup D0_47 rfl |>.iconst D0_48 0 |>.iload D0_49 rfl |>.i2b D0_51 rfl
    have s_b2 := Nat.le_trans z2 g2
    have n_b2 := Nat.le_trans nz s_b2
    obtain ⟨h3, K3, O3, k⟩ := k.stB O2 n_b2 (Or.inl rfl) D0_52 (i := 0) (by decide) (v := (.int ((128 ||| (p1 &&& 127)).toInt8.toInt32))) (congrArg Value.int (own_nnBi2b _)) (own_fitBi2b _) lvs0
    replace k := k |>.dup D0_53 rfl |>.iconst D0_54 1 |>.iload D0_55 rfl |>.i2b D0_57 rfl
    obtain ⟨h4, K4, O4, k⟩ := k.stB O3 n_b2 (Or.inl rfl) D0_58 (i := 1) (by decide) (v := (.int ((p2 &&& 127).toInt8.toInt32))) (congrArg Value.int (own_nnBi2b _)) (own_fitBi2b _) lvs1
    by_cases hs5 : (((128 ||| (p1 &&& 127)).toInt8.toInt32) &&& 254) = 194
    · have z6 := k.sz
      obtain ⟨_, h6, K6, ⟨b1_6, b2_3_2_2_6, rfl, f6_0, f6_1, f6_2, f6_3, f6_4⟩, k⟩ := (k.callS (w_1 hw) (S1 hw) (R_Utf8_decodeName_2 hw S_U8 O4 h_CS (own_d2 rfl rfl rfl hs5) hs5 (own_d3 rfl rfl ) (own_d4 rfl rfl rfl rfl hs5) (own_d5 rfl rfl rfl rfl hs5) (own_d6 rfl rfl rfl ) (own_d7 rfl rfl ) r_SF A_U8 S_UI S_CS S_SF S_AD S_HI S_LO) D0_59 0 rfl).kv
      replace k := k |>.astore D0_62 rfl sto6 |>.aload D0_64 rfl rfl
      replace k := (k.callV (w_67 hw) (V_Y18_18_String hw) f6_3.exa (R_String_length_1 hw f6_3 f6_4 h_CS S_CS) D0_66 0 rfl).pv
      replace k := k |>.iconst D0_69 2 |>.icmpNo D0_70 (by decide) |>.aload D0_73 rfl rfl |>.iconst D0_75 0
      replace k := (k.callV (w_77 hw) (V_Y20_20_String hw) f6_3.exa (R_String_charAt_1 hw f6_3 h_CS S_CS f6_4 r_SF S_SF S_AD S_HI S_LO) D0_76 0 rfl).pv
      replace k := k |>.ldcI (w_180 hw) D0_79 |>.icmpNo D0_81 (by decide) |>.aload D0_84 rfl rfl |>.iconst D0_86 1
      replace k := (k.callV (w_77 hw) (V_Y20_20_String hw) f6_3.exa (R_String_charAt_2 hw f6_3 h_CS S_CS f6_4 r_SF S_SF S_AD S_HI S_LO) D0_87 0 rfl).pv
      replace k := k |>.iload D0_90 rfl |>.icmpNo D0_92 (teq (own_d8 rfl rfl rfl rfl )).2 |>.iconst D0_95 1 |>.goto D0_96
      exact k.retN (t := .boolean) D0_100 rfl (by simp) (z' := 1) (by decide) rfl
    · by_cases hs10 : (((128 ||| (p1 &&& 127)).toInt8.toInt32) >>> ((5 : Int32) &&& 31)) = (-2)
      · by_cases hs11 : (((128 ||| (p1 &&& 127)).toInt8.toInt32) &&& 30) = 0
        · have z12 := k.sz
          obtain ⟨_, h12, K12, ⟨b1_12, b2_3_2_2_12, rfl, f12_0, f12_1, f12_2, f12_3, f12_4⟩, k⟩ := (k.callS (w_1 hw) (S1 hw) (R_Utf8_decodeName_5 hw S_U8 O4 h_CS (own_d11 rfl rfl rfl rfl rfl hs5 hs10 hs11) hs5 hs10 hs11 (own_d12 rfl rfl rfl rfl rfl rfl hs5 hs10 hs11) (own_d13 rfl rfl rfl rfl rfl rfl hs5 hs10 hs11) (own_d7 rfl rfl ) r_SF A_U8 S_UI S_CS S_SF S_AD S_HI S_LO) D0_59 0 rfl).kv
          replace k := k |>.astore D0_62 rfl sto6 |>.aload D0_64 rfl rfl
          replace k := (k.callV (w_67 hw) (V_Y18_18_String hw) f12_3.exa (R_String_length_1 hw f12_3 f12_4 h_CS S_CS) D0_66 0 rfl).pv
          replace k := k |>.iconst D0_69 2 |>.icmpNo D0_70 (by decide) |>.aload D0_73 rfl rfl |>.iconst D0_75 0
          replace k := (k.callV (w_77 hw) (V_Y20_20_String hw) f12_3.exa (R_String_charAt_1 hw f12_3 h_CS S_CS f12_4 r_SF S_SF S_AD S_HI S_LO) D0_76 0 rfl).pv
          replace k := k |>.ldcI (w_180 hw) D0_79 |>.icmpNo D0_81 (by decide) |>.aload D0_84 rfl rfl |>.iconst D0_86 1
          replace k := (k.callV (w_77 hw) (V_Y20_20_String hw) f12_3.exa (R_String_charAt_2 hw f12_3 h_CS S_CS f12_4 r_SF S_SF S_AD S_HI S_LO) D0_87 0 rfl).pv
          replace k := k |>.iload D0_90 rfl |>.icmpNo D0_92 (teq (own_d8 rfl rfl rfl rfl )).2 |>.iconst D0_95 1 |>.goto D0_96
          exact k.retN (t := .boolean) D0_100 rfl (by simp) (z' := 1) (by decide) rfl
        · have z16 := k.sz
          obtain ⟨_, h16, K16, ⟨b1_16, b2_3_2_2_16, rfl, f16_0, f16_1, f16_2, f16_3, f16_4⟩, k⟩ := (k.callS (w_1 hw) (S1 hw) (R_Utf8_decodeName_6 hw S_U8 O4 h_CS (own_d14 rfl rfl rfl rfl rfl hs5 hs10 hs11) hs5 hs10 hs11 (own_d6 rfl rfl rfl ) (own_d7 rfl rfl ) r_SF A_U8 S_UI S_CS S_SF S_AD S_HI S_LO) D0_59 0 rfl).kv
          replace k := k |>.astore D0_62 rfl sto6 |>.aload D0_64 rfl rfl
          replace k := (k.callV (w_67 hw) (V_Y18_18_String hw) f16_3.exa (R_String_length_1 hw f16_3 f16_4 h_CS S_CS) D0_66 0 rfl).pv
          replace k := k |>.iconst D0_69 2 |>.icmpNo D0_70 (by decide) |>.aload D0_73 rfl rfl |>.iconst D0_75 0
          replace k := (k.callV (w_77 hw) (V_Y20_20_String hw) f16_3.exa (R_String_charAt_1 hw f16_3 h_CS S_CS f16_4 r_SF S_SF S_AD S_HI S_LO) D0_76 0 rfl).pv
          replace k := k |>.ldcI (w_180 hw) D0_79 |>.icmpNo D0_81 (by decide) |>.aload D0_84 rfl rfl |>.iconst D0_86 1
          replace k := (k.callV (w_77 hw) (V_Y20_20_String hw) f16_3.exa (R_String_charAt_2 hw f16_3 h_CS S_CS f16_4 r_SF S_SF S_AD S_HI S_LO) D0_87 0 rfl).pv
          replace k := k |>.iload D0_90 rfl |>.icmpNo D0_92 (teq (own_d8 rfl rfl rfl rfl )).2 |>.iconst D0_95 1 |>.goto D0_96
          exact k.retN (t := .boolean) D0_100 rfl (by simp) (z' := 1) (by decide) rfl
      · by_cases hs20 : (((128 ||| (p1 &&& 127)).toInt8.toInt32) >>> ((4 : Int32) &&& 31)) = (-2)
        · by_cases hs21 : ((128 ||| (p1 &&& 127)).toInt8.toInt32) = (-32)
          · have z22 := k.sz
            obtain ⟨_, h22, K22, ⟨b1_22, b2_3_2_2_22, rfl, f22_0, f22_1, f22_2, f22_3, f22_4⟩, k⟩ := (k.callS (w_1 hw) (S1 hw) (R_Utf8_decodeName_9 hw S_U8 O4 h_CS (own_d17 rfl rfl rfl rfl rfl hs5 hs10 hs20 hs21) hs5 hs10 hs20 hs21 (own_d18 rfl rfl rfl ) (own_d6 rfl rfl rfl ) (own_d7 rfl rfl ) r_SF A_U8 S_UI S_CS S_SF S_AD S_HI S_LO) D0_59 0 rfl).kv
            replace k := k |>.astore D0_62 rfl sto6 |>.aload D0_64 rfl rfl
            replace k := (k.callV (w_67 hw) (V_Y18_18_String hw) f22_3.exa (R_String_length_1 hw f22_3 f22_4 h_CS S_CS) D0_66 0 rfl).pv
            replace k := k |>.iconst D0_69 2 |>.icmpNo D0_70 (by decide) |>.aload D0_73 rfl rfl |>.iconst D0_75 0
            replace k := (k.callV (w_77 hw) (V_Y20_20_String hw) f22_3.exa (R_String_charAt_1 hw f22_3 h_CS S_CS f22_4 r_SF S_SF S_AD S_HI S_LO) D0_76 0 rfl).pv
            replace k := k |>.ldcI (w_180 hw) D0_79 |>.icmpNo D0_81 (by decide) |>.aload D0_84 rfl rfl |>.iconst D0_86 1
            replace k := (k.callV (w_77 hw) (V_Y20_20_String hw) f22_3.exa (R_String_charAt_2 hw f22_3 h_CS S_CS f22_4 r_SF S_SF S_AD S_HI S_LO) D0_87 0 rfl).pv
            replace k := k |>.iload D0_90 rfl |>.icmpNo D0_92 (teq (own_d8 rfl rfl rfl rfl )).2 |>.iconst D0_95 1 |>.goto D0_96
            exact k.retN (t := .boolean) D0_100 rfl (by simp) (z' := 1) (by decide) rfl
          · have z26 := k.sz
            obtain ⟨_, h26, K26, ⟨b1_26, b2_3_2_2_26, rfl, f26_0, f26_1, f26_2, f26_3, f26_4⟩, k⟩ := (k.callS (w_1 hw) (S1 hw) (R_Utf8_decodeName_10 hw S_U8 O4 h_CS (own_d19 rfl rfl rfl rfl rfl hs5 hs10 hs20 hs21) hs5 hs10 hs20 hs21 (own_d6 rfl rfl rfl ) (own_d7 rfl rfl ) r_SF A_U8 S_UI S_CS S_SF S_AD S_HI S_LO) D0_59 0 rfl).kv
            replace k := k |>.astore D0_62 rfl sto6 |>.aload D0_64 rfl rfl
            replace k := (k.callV (w_67 hw) (V_Y18_18_String hw) f26_3.exa (R_String_length_1 hw f26_3 f26_4 h_CS S_CS) D0_66 0 rfl).pv
            replace k := k |>.iconst D0_69 2 |>.icmpNo D0_70 (by decide) |>.aload D0_73 rfl rfl |>.iconst D0_75 0
            replace k := (k.callV (w_77 hw) (V_Y20_20_String hw) f26_3.exa (R_String_charAt_1 hw f26_3 h_CS S_CS f26_4 r_SF S_SF S_AD S_HI S_LO) D0_76 0 rfl).pv
            replace k := k |>.ldcI (w_180 hw) D0_79 |>.icmpNo D0_81 (by decide) |>.aload D0_84 rfl rfl |>.iconst D0_86 1
            replace k := (k.callV (w_77 hw) (V_Y20_20_String hw) f26_3.exa (R_String_charAt_2 hw f26_3 h_CS S_CS f26_4 r_SF S_SF S_AD S_HI S_LO) D0_87 0 rfl).pv
            replace k := k |>.iload D0_90 rfl |>.icmpNo D0_92 (teq (own_d8 rfl rfl rfl rfl )).2 |>.iconst D0_95 1 |>.goto D0_96
            exact k.retN (t := .boolean) D0_100 rfl (by simp) (z' := 1) (by decide) rfl
        · by_cases hs30 : (((128 ||| (p1 &&& 127)).toInt8.toInt32) >>> ((3 : Int32) &&& 31)) = (-2)
          · by_cases hs31 : 244 < (((128 ||| (p1 &&& 127)).toInt8.toInt32) &&& 255)
            · have z32 := k.sz
              obtain ⟨_, h32, K32, ⟨b1_32, b2_3_2_2_32, rfl, f32_0, f32_1, f32_2, f32_3, f32_4⟩, k⟩ := (k.callS (w_1 hw) (S1 hw) (R_Utf8_decodeName_13 hw S_U8 O4 h_CS (own_d22 rfl rfl rfl rfl rfl rfl rfl hs5 hs10 hs20 hs30 hs31) hs5 hs10 hs20 hs30 hs31 (own_d7 rfl rfl ) r_SF A_U8 S_UI S_CS S_SF S_AD S_HI S_LO) D0_59 0 rfl).kv
              replace k := k |>.astore D0_62 rfl sto6 |>.aload D0_64 rfl rfl
              replace k := (k.callV (w_67 hw) (V_Y18_18_String hw) f32_3.exa (R_String_length_1 hw f32_3 f32_4 h_CS S_CS) D0_66 0 rfl).pv
              replace k := k |>.iconst D0_69 2 |>.icmpNo D0_70 (by decide) |>.aload D0_73 rfl rfl |>.iconst D0_75 0
              replace k := (k.callV (w_77 hw) (V_Y20_20_String hw) f32_3.exa (R_String_charAt_1 hw f32_3 h_CS S_CS f32_4 r_SF S_SF S_AD S_HI S_LO) D0_76 0 rfl).pv
              replace k := k |>.ldcI (w_180 hw) D0_79 |>.icmpNo D0_81 (by decide) |>.aload D0_84 rfl rfl |>.iconst D0_86 1
              replace k := (k.callV (w_77 hw) (V_Y20_20_String hw) f32_3.exa (R_String_charAt_2 hw f32_3 h_CS S_CS f32_4 r_SF S_SF S_AD S_HI S_LO) D0_87 0 rfl).pv
              replace k := k |>.iload D0_90 rfl |>.icmpNo D0_92 (teq (own_d8 rfl rfl rfl rfl )).2 |>.iconst D0_95 1 |>.goto D0_96
              exact k.retN (t := .boolean) D0_100 rfl (by simp) (z' := 1) (by decide) rfl
            · by_cases hs36 : (((128 ||| (p1 &&& 127)).toInt8.toInt32) &&& 255) = 240
              · have z37 := k.sz
                obtain ⟨_, h37, K37, ⟨b1_37, b2_3_2_2_37, rfl, f37_0, f37_1, f37_2, f37_3, f37_4⟩, k⟩ := (k.callS (w_1 hw) (S1 hw) (R_Utf8_decodeName_15 hw S_U8 O4 h_CS (own_d24 rfl rfl rfl rfl rfl rfl rfl hs5 hs10 hs20 hs30 hs31 hs36) hs5 hs10 hs20 hs30 hs31 hs36 (own_d25 rfl rfl rfl ) (own_d7 rfl rfl ) r_SF A_U8 S_UI S_CS S_SF S_AD S_HI S_LO) D0_59 0 rfl).kv
                replace k := k |>.astore D0_62 rfl sto6 |>.aload D0_64 rfl rfl
                replace k := (k.callV (w_67 hw) (V_Y18_18_String hw) f37_3.exa (R_String_length_1 hw f37_3 f37_4 h_CS S_CS) D0_66 0 rfl).pv
                replace k := k |>.iconst D0_69 2 |>.icmpNo D0_70 (by decide) |>.aload D0_73 rfl rfl |>.iconst D0_75 0
                replace k := (k.callV (w_77 hw) (V_Y20_20_String hw) f37_3.exa (R_String_charAt_1 hw f37_3 h_CS S_CS f37_4 r_SF S_SF S_AD S_HI S_LO) D0_76 0 rfl).pv
                replace k := k |>.ldcI (w_180 hw) D0_79 |>.icmpNo D0_81 (by decide) |>.aload D0_84 rfl rfl |>.iconst D0_86 1
                replace k := (k.callV (w_77 hw) (V_Y20_20_String hw) f37_3.exa (R_String_charAt_2 hw f37_3 h_CS S_CS f37_4 r_SF S_SF S_AD S_HI S_LO) D0_87 0 rfl).pv
                replace k := k |>.iload D0_90 rfl |>.icmpNo D0_92 (teq (own_d8 rfl rfl rfl rfl )).2 |>.iconst D0_95 1 |>.goto D0_96
                exact k.retN (t := .boolean) D0_100 rfl (by simp) (z' := 1) (by decide) rfl
              · by_cases hs41 : (((128 ||| (p1 &&& 127)).toInt8.toInt32) &&& 255) = 244
                · have z42 := k.sz
                  obtain ⟨_, h42, K42, ⟨b1_42, b2_3_2_2_42, rfl, f42_0, f42_1, f42_2, f42_3, f42_4⟩, k⟩ := (k.callS (w_1 hw) (S1 hw) (R_Utf8_decodeName_17 hw S_U8 O4 h_CS (own_d27 rfl rfl rfl rfl rfl rfl rfl hs5 hs10 hs20 hs30 hs31 hs36 hs41) hs5 hs10 hs20 hs30 hs31 hs36 hs41 (own_d28 rfl rfl rfl rfl ) (own_d7 rfl rfl ) r_SF A_U8 S_UI S_CS S_SF S_AD S_HI S_LO) D0_59 0 rfl).kv
                  replace k := k |>.astore D0_62 rfl sto6 |>.aload D0_64 rfl rfl
                  replace k := (k.callV (w_67 hw) (V_Y18_18_String hw) f42_3.exa (R_String_length_1 hw f42_3 f42_4 h_CS S_CS) D0_66 0 rfl).pv
                  replace k := k |>.iconst D0_69 2 |>.icmpNo D0_70 (by decide) |>.aload D0_73 rfl rfl |>.iconst D0_75 0
                  replace k := (k.callV (w_77 hw) (V_Y20_20_String hw) f42_3.exa (R_String_charAt_1 hw f42_3 h_CS S_CS f42_4 r_SF S_SF S_AD S_HI S_LO) D0_76 0 rfl).pv
                  replace k := k |>.ldcI (w_180 hw) D0_79 |>.icmpNo D0_81 (by decide) |>.aload D0_84 rfl rfl |>.iconst D0_86 1
                  replace k := (k.callV (w_77 hw) (V_Y20_20_String hw) f42_3.exa (R_String_charAt_2 hw f42_3 h_CS S_CS f42_4 r_SF S_SF S_AD S_HI S_LO) D0_87 0 rfl).pv
                  replace k := k |>.iload D0_90 rfl |>.icmpNo D0_92 (teq (own_d8 rfl rfl rfl rfl )).2 |>.iconst D0_95 1 |>.goto D0_96
                  exact k.retN (t := .boolean) D0_100 rfl (by simp) (z' := 1) (by decide) rfl
                · have z46 := k.sz
                  obtain ⟨_, h46, K46, ⟨b1_46, b2_3_2_2_46, rfl, f46_0, f46_1, f46_2, f46_3, f46_4⟩, k⟩ := (k.callS (w_1 hw) (S1 hw) (R_Utf8_decodeName_18 hw S_U8 O4 h_CS (own_d29 rfl rfl rfl rfl rfl rfl rfl hs5 hs10 hs20 hs30 hs31 hs36 hs41) hs5 hs10 hs20 hs30 hs31 hs36 hs41 (own_d30 rfl rfl rfl rfl ) (own_d7 rfl rfl ) r_SF A_U8 S_UI S_CS S_SF S_AD S_HI S_LO) D0_59 0 rfl).kv
                  replace k := k |>.astore D0_62 rfl sto6 |>.aload D0_64 rfl rfl
                  replace k := (k.callV (w_67 hw) (V_Y18_18_String hw) f46_3.exa (R_String_length_1 hw f46_3 f46_4 h_CS S_CS) D0_66 0 rfl).pv
                  replace k := k |>.iconst D0_69 2 |>.icmpNo D0_70 (by decide) |>.aload D0_73 rfl rfl |>.iconst D0_75 0
                  replace k := (k.callV (w_77 hw) (V_Y20_20_String hw) f46_3.exa (R_String_charAt_1 hw f46_3 h_CS S_CS f46_4 r_SF S_SF S_AD S_HI S_LO) D0_76 0 rfl).pv
                  replace k := k |>.ldcI (w_180 hw) D0_79 |>.icmpNo D0_81 (by decide) |>.aload D0_84 rfl rfl |>.iconst D0_86 1
                  replace k := (k.callV (w_77 hw) (V_Y20_20_String hw) f46_3.exa (R_String_charAt_2 hw f46_3 h_CS S_CS f46_4 r_SF S_SF S_AD S_HI S_LO) D0_87 0 rfl).pv
                  replace k := k |>.iload D0_90 rfl |>.icmpNo D0_92 (teq (own_d8 rfl rfl rfl rfl )).2 |>.iconst D0_95 1 |>.goto D0_96
                  exact k.retN (t := .boolean) D0_100 rfl (by simp) (z' := 1) (by decide) rfl
          · have z50 := k.sz
            obtain ⟨_, h50, K50, ⟨b1_50, b2_3_2_2_50, rfl, f50_0, f50_1, f50_2, f50_3, f50_4⟩, k⟩ := (k.callS (w_1 hw) (S1 hw) (R_Utf8_decodeName_19 hw S_U8 O4 h_CS (own_d31 rfl rfl rfl rfl rfl rfl hs5 hs10 hs20 hs30) hs5 hs10 hs20 hs30 (own_d7 rfl rfl ) r_SF A_U8 S_UI S_CS S_SF S_AD S_HI S_LO) D0_59 0 rfl).kv
            replace k := k |>.astore D0_62 rfl sto6 |>.aload D0_64 rfl rfl
            replace k := (k.callV (w_67 hw) (V_Y18_18_String hw) f50_3.exa (R_String_length_1 hw f50_3 f50_4 h_CS S_CS) D0_66 0 rfl).pv
            replace k := k |>.iconst D0_69 2 |>.icmpNo D0_70 (by decide) |>.aload D0_73 rfl rfl |>.iconst D0_75 0
            replace k := (k.callV (w_77 hw) (V_Y20_20_String hw) f50_3.exa (R_String_charAt_1 hw f50_3 h_CS S_CS f50_4 r_SF S_SF S_AD S_HI S_LO) D0_76 0 rfl).pv
            replace k := k |>.ldcI (w_180 hw) D0_79 |>.icmpNo D0_81 (by decide) |>.aload D0_84 rfl rfl |>.iconst D0_86 1
            replace k := (k.callV (w_77 hw) (V_Y20_20_String hw) f50_3.exa (R_String_charAt_2 hw f50_3 h_CS S_CS f50_4 r_SF S_SF S_AD S_HI S_LO) D0_87 0 rfl).pv
            replace k := k |>.iload D0_90 rfl |>.icmpNo D0_92 (teq (own_d8 rfl rfl rfl rfl )).2 |>.iconst D0_95 1 |>.goto D0_96
            exact k.retN (t := .boolean) D0_100 rfl (by simp) (z' := 1) (by decide) rfl
  · replace k := k |>.icmpYes D0_31 (feq hc31_1).2 |>.iloadN D0_101 rfl
    by_cases hc102_54 : (p3 &&& 3) = 0
    · replace k := k |>.ifNo D0_102 ((if0 _ _).trans (teq hc102_54).2) |>.iconst D0_105 1 |>.goto D0_106 |>.istore D0_110 sto5 |>.iloadN D0_112 rfl |>.iconst D0_113 2 |>.iushr D0_114 rfl |>.iconst D0_115 3 |>.iand D0_116 rfl |>.istore D0_117 sto6 |>.iloadN D0_119 rfl |>.ldcI (w_38 hw) D0_120
      replace k := k |>.iand D0_122 rfl |>.istore D0_123 sto7 |>.iload D0_125 rfl |>.iload D0_127 rfl
      by_cases hs55 : (((p3.toUInt32 >>> ((2 : Int32) &&& 31).toUInt32).toInt32) &&& 3) = 0
      · replace k := (k.callS (w_39 hw) (S29 hw) (R_Utf8DecodeNamePinLaw_codePoint_2 hw hs55) D0_129 0 rfl).pv
        replace k := k |>.istore D0_132 sto8 |>.iload D0_134 rfl |>.iload D0_136 rfl |>.iload D0_138 rfl |>.iload D0_140 rfl
        have z57 := k.sz
        obtain ⟨_, h57, K57, ⟨b1_57, rfl, f57_0, f57_1⟩, k⟩ := (k.callS (w_43 hw) (S30 hw) (R_Utf8DecodeNamePinLaw_encode_1 hw hs55) D0_142 0 rfl).kv
        replace k := k |>.astore D0_145 rfl sto9 |>.aload D0_147 rfl rfl
        have z58 := k.sz
        obtain ⟨_, h58, K58, ⟨b1_58, b1_2_2_2_58, rfl, f58_0, f58_1, f58_2, f58_3, f58_4⟩, k⟩ := (k.callS (w_1 hw) (S1 hw) (R_Utf8_decodeName_20 hw S_U8 f57_1 h_CS (own_d32 rfl rfl rfl ) (own_d7 rfl rfl ) A_U8 S_UI S_CS) D0_149 0 rfl).kv
        replace k := k |>.astore D0_152 rfl sto10 |>.iload D0_154 rfl |>.ifNo D0_156 (by decide) |>.iconst D0_159 1 |>.goto D0_160 |>.istore D0_164 sto11 |>.iload D0_166 rfl |>.ldcI (w_66 hw) D0_168 |>.icmpNo D0_170 (tlt (own_d33 rfl rfl )).2.1 |>.aload D0_173 rfl rfl
        replace k := (k.callV (w_67 hw) (V_Y18_18_String hw) f58_3.exa (R_String_length_2 hw f58_3 f58_4 h_CS S_CS) D0_175 0 rfl).pv
        replace k := k |>.iconst D0_178 1 |>.iload D0_179 rfl |>.iadd D0_181 (z := 2) (by decide) |>.icmpNo D0_182 (by decide) |>.aload D0_185 rfl rfl |>.iconst D0_187 0
        replace k := (k.callV (w_77 hw) (V_Y20_20_String hw) f58_3.exa (R_String_charAt_3 hw f58_3 h_CS S_CS f58_4 r_SF S_SF) D0_188 0 rfl).pv
        replace k := k |>.iload D0_191 rfl |>.icmpNo D0_193 (teq (own_d34 rfl rfl rfl )).2 |>.iload D0_196 rfl |>.ifNo D0_198 (by decide) |>.aload D0_201 rfl rfl |>.iconst D0_203 1
        replace k := (k.callV (w_77 hw) (V_Y20_20_String hw) f58_3.exa (R_String_charAt_4 hw f58_3 h_CS S_CS f58_4 r_SF S_SF) D0_204 0 rfl).pv
        replace k := k |>.iload D0_207 rfl |>.icmpNo D0_209 (teq (own_d35 rfl rfl )).2 |>.iconst D0_212 1 |>.goto D0_213
        exact k.retN (t := .boolean) D0_217 rfl (by simp) (z' := 1) (by decide) rfl
      · by_cases hs62 : (((p3.toUInt32 >>> ((2 : Int32) &&& 31).toUInt32).toInt32) &&& 3) = 1
        · replace k := (k.callS (w_39 hw) (S29 hw) (R_Utf8DecodeNamePinLaw_codePoint_4 hw hs55 hs62) D0_129 0 rfl).pv
          replace k := k |>.istore D0_132 sto8 |>.iload D0_134 rfl |>.iload D0_136 rfl |>.iload D0_138 rfl |>.iload D0_140 rfl
          have z64 := k.sz
          obtain ⟨_, h64, K64, ⟨b1_64, rfl, f64_0, f64_1⟩, k⟩ := (k.callS (w_43 hw) (S30 hw) (R_Utf8DecodeNamePinLaw_encode_2 hw hs55 hs62) D0_142 0 rfl).kv
          replace k := k |>.astore D0_145 rfl sto9 |>.aload D0_147 rfl rfl
          by_cases hs65 : (((192 ||| ((128 + ((p1 &&& 2147483647) % 1920)) >>> ((6 : Int32) &&& 31))).toInt8.toInt32) &&& 254) = 194
          · have z66 := k.sz
            obtain ⟨_, h66, K66, ⟨b1_66, b1_6_2_2_66, rfl, f66_0, f66_1, f66_2, f66_3, f66_4⟩, k⟩ := (k.callS (w_1 hw) (S1 hw) (R_Utf8_decodeName_22 hw S_U8 f64_1 h_CS (own_d37 rfl rfl rfl rfl rfl rfl hs65) hs65 (own_d38 rfl rfl rfl rfl rfl rfl rfl rfl hs65) (own_d7 rfl rfl ) A_U8 S_UI S_CS) D0_149 0 rfl).kv
            replace k := k |>.astore D0_152 rfl sto10 |>.iload D0_154 rfl |>.ifNo D0_156 (by decide) |>.iconst D0_159 1 |>.goto D0_160 |>.istore D0_164 sto11 |>.iload D0_166 rfl |>.ldcI (w_66 hw) D0_168 |>.icmpNo D0_170 (tlt (own_d39 rfl rfl rfl rfl rfl rfl hs65)).2.1 |>.aload D0_173 rfl rfl
            replace k := (k.callV (w_67 hw) (V_Y18_18_String hw) f66_3.exa (R_String_length_2 hw f66_3 f66_4 h_CS S_CS) D0_175 0 rfl).pv
            replace k := k |>.iconst D0_178 1 |>.iload D0_179 rfl |>.iadd D0_181 (z := 2) (by decide) |>.icmpNo D0_182 (by decide) |>.aload D0_185 rfl rfl |>.iconst D0_187 0
            replace k := (k.callV (w_77 hw) (V_Y20_20_String hw) f66_3.exa (R_String_charAt_3 hw f66_3 h_CS S_CS f66_4 r_SF S_SF) D0_188 0 rfl).pv
            replace k := k |>.iload D0_191 rfl |>.icmpNo D0_193 (teq (own_d40 rfl rfl rfl rfl rfl rfl rfl rfl rfl rfl hs65)).2 |>.iload D0_196 rfl |>.ifNo D0_198 (by decide) |>.aload D0_201 rfl rfl |>.iconst D0_203 1
            replace k := (k.callV (w_77 hw) (V_Y20_20_String hw) f66_3.exa (R_String_charAt_4 hw f66_3 h_CS S_CS f66_4 r_SF S_SF) D0_204 0 rfl).pv
            replace k := k |>.iload D0_207 rfl |>.icmpNo D0_209 (teq (own_d41 rfl rfl rfl )).2 |>.iconst D0_212 1 |>.goto D0_213
            exact k.retN (t := .boolean) D0_217 rfl (by simp) (z' := 1) (by decide) rfl
          · have z70 := k.sz
            obtain ⟨_, h70, K70, ⟨b1_70, b1_7_2_2_70, rfl, f70_0, f70_1, f70_2, f70_3, f70_4⟩, k⟩ := (k.callS (w_1 hw) (S1 hw) (R_Utf8_decodeName_23 hw S_U8 f64_1 h_CS (own_d42 rfl rfl rfl rfl rfl rfl hs65) hs65 (own_d43 rfl rfl rfl rfl rfl rfl rfl hs65) (own_d44 rfl rfl rfl rfl rfl rfl rfl hs65) (own_d45 rfl rfl rfl rfl rfl rfl rfl rfl rfl hs65) (own_d7 rfl rfl ) r_SF A_U8 S_UI S_CS S_SF S_AD S_HI S_LO) D0_149 0 rfl).kv
            replace k := k |>.astore D0_152 rfl sto10 |>.iload D0_154 rfl |>.ifNo D0_156 (by decide) |>.iconst D0_159 1 |>.goto D0_160 |>.istore D0_164 sto11 |>.iload D0_166 rfl |>.ldcI (w_66 hw) D0_168 |>.icmpNo D0_170 (tlt (own_d46 rfl rfl rfl rfl rfl rfl hs65)).2.1 |>.aload D0_173 rfl rfl
            replace k := (k.callV (w_67 hw) (V_Y18_18_String hw) f70_3.exa (R_String_length_3 hw f70_3 f70_4 h_CS S_CS) D0_175 0 rfl).pv
            replace k := k |>.iconst D0_178 1 |>.iload D0_179 rfl |>.iadd D0_181 (z := 2) (by decide) |>.icmpNo D0_182 (by decide) |>.aload D0_185 rfl rfl |>.iconst D0_187 0
            replace k := (k.callV (w_77 hw) (V_Y20_20_String hw) f70_3.exa (R_String_charAt_5 hw f70_3 h_CS S_CS f70_4 r_SF S_SF S_AD S_HI S_LO) D0_188 0 rfl).pv
            replace k := k |>.iload D0_191 rfl |>.icmpNo D0_193 (teq (own_d47 rfl rfl rfl rfl rfl rfl rfl rfl rfl rfl hs65)).2 |>.iload D0_196 rfl |>.ifNo D0_198 (by decide) |>.aload D0_201 rfl rfl |>.iconst D0_203 1
            replace k := (k.callV (w_77 hw) (V_Y20_20_String hw) f70_3.exa (R_String_charAt_6 hw f70_3 h_CS S_CS f70_4 r_SF S_SF S_AD S_HI S_LO) D0_204 0 rfl).pv
            replace k := k |>.iload D0_207 rfl |>.icmpNo D0_209 (teq (own_d8 rfl rfl rfl rfl )).2 |>.iconst D0_212 1 |>.goto D0_213
            exact k.retN (t := .boolean) D0_217 rfl (by simp) (z' := 1) (by decide) rfl
        · by_cases hs74 : (((p3.toUInt32 >>> ((2 : Int32) &&& 31).toUInt32).toInt32) &&& 3) = 2
          · by_cases hs75 : (2048 + ((p1 &&& 2147483647) % 63488)) < 55296
            · replace k := (k.callS (w_39 hw) (S29 hw) (R_Utf8DecodeNamePinLaw_codePoint_7 hw hs55 hs62 hs74 hs75) D0_129 0 rfl).pv
              replace k := k |>.istore D0_132 sto8 |>.iload D0_134 rfl |>.iload D0_136 rfl |>.iload D0_138 rfl |>.iload D0_140 rfl
              have z77 := k.sz
              obtain ⟨_, h77, K77, ⟨b1_77, rfl, f77_0, f77_1⟩, k⟩ := (k.callS (w_43 hw) (S30 hw) (R_Utf8DecodeNamePinLaw_encode_3 hw hs55 hs62 hs74) D0_142 0 rfl).kv
              replace k := k |>.astore D0_145 rfl sto9 |>.aload D0_147 rfl rfl
              by_cases hs78 : ((224 ||| ((2048 + ((p1 &&& 2147483647) % 63488)) >>> ((12 : Int32) &&& 31))).toInt8.toInt32) = (-32)
              · have z79 := k.sz
                obtain ⟨_, h79, K79, ⟨b1_79, b1_7_2_2_79, rfl, f79_0, f79_1, f79_2, f79_3, f79_4⟩, k⟩ := (k.callS (w_1 hw) (S1 hw) (R_Utf8_decodeName_25 hw S_U8 f77_1 h_CS (own_d52 rfl rfl rfl rfl rfl hs75 hs78) (own_d53 rfl rfl rfl rfl rfl rfl hs75 hs78) (own_d54 rfl rfl rfl rfl rfl rfl hs75 hs78) (own_d55 rfl rfl rfl rfl rfl rfl hs75 hs78) hs78 (own_d56 rfl rfl rfl rfl rfl rfl rfl rfl rfl hs75 hs78) (own_d57 rfl rfl rfl rfl rfl rfl rfl rfl rfl hs75 hs78) (own_d58 rfl rfl rfl rfl rfl rfl rfl rfl hs75 hs78) (own_d59 rfl rfl rfl rfl rfl rfl rfl rfl rfl rfl hs75 hs78) (own_d7 rfl rfl ) r_SF A_U8 S_UI S_CS S_SF S_AD S_HI S_LO) D0_149 0 rfl).kv
                replace k := k |>.astore D0_152 rfl sto10 |>.iload D0_154 rfl |>.ifNo D0_156 (by decide) |>.iconst D0_159 1 |>.goto D0_160 |>.istore D0_164 sto11 |>.iload D0_166 rfl |>.ldcI (w_66 hw) D0_168 |>.icmpNo D0_170 (tlt (own_d60 rfl rfl rfl rfl rfl hs75 hs78)).2.1 |>.aload D0_173 rfl rfl
                replace k := (k.callV (w_67 hw) (V_Y18_18_String hw) f79_3.exa (R_String_length_3 hw f79_3 f79_4 h_CS S_CS) D0_175 0 rfl).pv
                replace k := k |>.iconst D0_178 1 |>.iload D0_179 rfl |>.iadd D0_181 (z := 2) (by decide) |>.icmpNo D0_182 (by decide) |>.aload D0_185 rfl rfl |>.iconst D0_187 0
                replace k := (k.callV (w_77 hw) (V_Y20_20_String hw) f79_3.exa (R_String_charAt_5 hw f79_3 h_CS S_CS f79_4 r_SF S_SF S_AD S_HI S_LO) D0_188 0 rfl).pv
                replace k := k |>.iload D0_191 rfl |>.icmpNo D0_193 (teq (own_d61 rfl rfl rfl rfl rfl rfl rfl rfl rfl rfl rfl hs75 hs78)).2 |>.iload D0_196 rfl |>.ifNo D0_198 (by decide) |>.aload D0_201 rfl rfl |>.iconst D0_203 1
                replace k := (k.callV (w_77 hw) (V_Y20_20_String hw) f79_3.exa (R_String_charAt_6 hw f79_3 h_CS S_CS f79_4 r_SF S_SF S_AD S_HI S_LO) D0_204 0 rfl).pv
                replace k := k |>.iload D0_207 rfl |>.icmpNo D0_209 (teq (own_d8 rfl rfl rfl rfl )).2 |>.iconst D0_212 1 |>.goto D0_213
                exact k.retN (t := .boolean) D0_217 rfl (by simp) (z' := 1) (by decide) rfl
              · have z83 := k.sz
                obtain ⟨_, h83, K83, ⟨b1_83, b1_7_2_2_83, rfl, f83_0, f83_1, f83_2, f83_3, f83_4⟩, k⟩ := (k.callS (w_1 hw) (S1 hw) (R_Utf8_decodeName_26 hw S_U8 f77_1 h_CS (own_d62 rfl rfl rfl rfl rfl hs75 hs78) (own_d63 rfl rfl rfl rfl rfl rfl hs75 hs78) (own_d64 rfl rfl rfl rfl rfl rfl hs75 hs78) (own_d65 rfl rfl rfl rfl rfl rfl hs75 hs78) hs78 (own_d66 rfl rfl rfl rfl rfl rfl rfl rfl rfl hs75 hs78) (own_d67 rfl rfl rfl rfl rfl rfl rfl rfl hs75 hs78) (own_d68 rfl rfl rfl rfl rfl rfl rfl rfl rfl rfl hs75 hs78) (own_d7 rfl rfl ) r_SF A_U8 S_UI S_CS S_SF S_AD S_HI S_LO) D0_149 0 rfl).kv
                replace k := k |>.astore D0_152 rfl sto10 |>.iload D0_154 rfl |>.ifNo D0_156 (by decide) |>.iconst D0_159 1 |>.goto D0_160 |>.istore D0_164 sto11 |>.iload D0_166 rfl |>.ldcI (w_66 hw) D0_168 |>.icmpNo D0_170 (tlt (own_d69 rfl rfl rfl rfl rfl hs75 hs78)).2.1 |>.aload D0_173 rfl rfl
                replace k := (k.callV (w_67 hw) (V_Y18_18_String hw) f83_3.exa (R_String_length_3 hw f83_3 f83_4 h_CS S_CS) D0_175 0 rfl).pv
                replace k := k |>.iconst D0_178 1 |>.iload D0_179 rfl |>.iadd D0_181 (z := 2) (by decide) |>.icmpNo D0_182 (by decide) |>.aload D0_185 rfl rfl |>.iconst D0_187 0
                replace k := (k.callV (w_77 hw) (V_Y20_20_String hw) f83_3.exa (R_String_charAt_5 hw f83_3 h_CS S_CS f83_4 r_SF S_SF S_AD S_HI S_LO) D0_188 0 rfl).pv
                replace k := k |>.iload D0_191 rfl |>.icmpNo D0_193 (teq (own_d70 rfl rfl rfl rfl rfl rfl rfl rfl rfl rfl rfl hs75 hs78)).2 |>.iload D0_196 rfl |>.ifNo D0_198 (by decide) |>.aload D0_201 rfl rfl |>.iconst D0_203 1
                replace k := (k.callV (w_77 hw) (V_Y20_20_String hw) f83_3.exa (R_String_charAt_6 hw f83_3 h_CS S_CS f83_4 r_SF S_SF S_AD S_HI S_LO) D0_204 0 rfl).pv
                replace k := k |>.iload D0_207 rfl |>.icmpNo D0_209 (teq (own_d8 rfl rfl rfl rfl )).2 |>.iconst D0_212 1 |>.goto D0_213
                exact k.retN (t := .boolean) D0_217 rfl (by simp) (z' := 1) (by decide) rfl
            · by_cases hs87 : 57343 < (2048 + ((p1 &&& 2147483647) % 63488))
              · replace k := (k.callS (w_39 hw) (S29 hw) (R_Utf8DecodeNamePinLaw_codePoint_9 hw hs55 hs62 hs74 hs75 hs87) D0_129 0 rfl).pv
                replace k := k |>.istore D0_132 sto8 |>.iload D0_134 rfl |>.iload D0_136 rfl |>.iload D0_138 rfl |>.iload D0_140 rfl
                have z89 := k.sz
                obtain ⟨_, h89, K89, ⟨b1_89, rfl, f89_0, f89_1⟩, k⟩ := (k.callS (w_43 hw) (S30 hw) (R_Utf8DecodeNamePinLaw_encode_3 hw hs55 hs62 hs74) D0_142 0 rfl).kv
                replace k := k |>.astore D0_145 rfl sto9 |>.aload D0_147 rfl rfl
                have z90 := k.sz
                obtain ⟨_, h90, K90, ⟨b1_90, b1_7_2_2_90, rfl, f90_0, f90_1, f90_2, f90_3, f90_4⟩, k⟩ := (k.callS (w_1 hw) (S1 hw) (R_Utf8_decodeName_27 hw S_U8 f89_1 h_CS (own_d71 rfl rfl rfl rfl rfl hs75 hs87) (own_d72 rfl rfl rfl rfl rfl rfl hs75 hs87) (own_d73 rfl rfl rfl rfl rfl rfl hs75 hs87) (own_d74 rfl rfl rfl rfl rfl rfl hs75 hs87) (own_d75 rfl rfl rfl rfl rfl hs75 hs87) (own_d76 rfl rfl rfl rfl rfl rfl rfl hs75 hs87) (own_d77 rfl rfl rfl rfl rfl rfl hs75 hs87) (own_d78 rfl rfl rfl rfl rfl rfl rfl rfl rfl hs75 hs87) (own_d79 rfl rfl rfl rfl rfl rfl rfl rfl rfl hs75 hs87) (own_d7 rfl rfl ) r_SF A_U8 S_UI S_CS S_SF S_AD S_HI S_LO) D0_149 0 rfl).kv
                replace k := k |>.astore D0_152 rfl sto10 |>.iload D0_154 rfl |>.ifNo D0_156 (by decide) |>.iconst D0_159 1 |>.goto D0_160 |>.istore D0_164 sto11 |>.iload D0_166 rfl |>.ldcI (w_66 hw) D0_168 |>.icmpNo D0_170 (tlt (own_d80 rfl rfl rfl hs75 hs87)).2.1 |>.aload D0_173 rfl rfl
                replace k := (k.callV (w_67 hw) (V_Y18_18_String hw) f90_3.exa (R_String_length_3 hw f90_3 f90_4 h_CS S_CS) D0_175 0 rfl).pv
                replace k := k |>.iconst D0_178 1 |>.iload D0_179 rfl |>.iadd D0_181 (z := 2) (by decide) |>.icmpNo D0_182 (by decide) |>.aload D0_185 rfl rfl |>.iconst D0_187 0
                replace k := (k.callV (w_77 hw) (V_Y20_20_String hw) f90_3.exa (R_String_charAt_5 hw f90_3 h_CS S_CS f90_4 r_SF S_SF S_AD S_HI S_LO) D0_188 0 rfl).pv
                replace k := k |>.iload D0_191 rfl |>.icmpNo D0_193 (teq (own_d81 rfl rfl rfl rfl rfl rfl rfl rfl rfl rfl hs75 hs87)).2 |>.iload D0_196 rfl |>.ifNo D0_198 (by decide) |>.aload D0_201 rfl rfl |>.iconst D0_203 1
                replace k := (k.callV (w_77 hw) (V_Y20_20_String hw) f90_3.exa (R_String_charAt_6 hw f90_3 h_CS S_CS f90_4 r_SF S_SF S_AD S_HI S_LO) D0_204 0 rfl).pv
                replace k := k |>.iload D0_207 rfl |>.icmpNo D0_209 (teq (own_d8 rfl rfl rfl rfl )).2 |>.iconst D0_212 1 |>.goto D0_213
                exact k.retN (t := .boolean) D0_217 rfl (by simp) (z' := 1) (by decide) rfl
              · replace k := (k.callS (w_39 hw) (S29 hw) (R_Utf8DecodeNamePinLaw_codePoint_10 hw hs55 hs62 hs74 hs75 hs87) D0_129 0 rfl).pv
                replace k := k |>.istore D0_132 sto8 |>.iload D0_134 rfl |>.iload D0_136 rfl |>.iload D0_138 rfl |>.iload D0_140 rfl
                have z95 := k.sz
                obtain ⟨_, h95, K95, ⟨b1_95, rfl, f95_0, f95_1⟩, k⟩ := (k.callS (w_43 hw) (S30 hw) (R_Utf8DecodeNamePinLaw_encode_3 hw hs55 hs62 hs74) D0_142 0 rfl).kv
                replace k := k |>.astore D0_145 rfl sto9 |>.aload D0_147 rfl rfl
                have z96 := k.sz
                obtain ⟨_, h96, K96, ⟨b1_96, b1_7_2_2_96, rfl, f96_0, f96_1, f96_2, f96_3, f96_4⟩, k⟩ := (k.callS (w_1 hw) (S1 hw) (R_Utf8_decodeName_26 hw S_U8 f95_1 h_CS (own_d82 rfl rfl rfl rfl rfl rfl hs75 hs87) (own_d83 rfl rfl rfl rfl rfl rfl rfl hs75 hs87) (own_d84 rfl rfl rfl rfl rfl rfl rfl hs75 hs87) (own_d85 rfl rfl rfl rfl rfl rfl rfl hs75 hs87) (own_d86 rfl rfl rfl rfl rfl rfl hs75 hs87) (own_d87 rfl rfl rfl rfl rfl rfl rfl rfl hs75 hs87) (own_d88 rfl rfl rfl rfl rfl rfl rfl hs75 hs87) (own_d89 rfl rfl rfl rfl rfl rfl rfl rfl rfl rfl hs75 hs87) (own_d7 rfl rfl ) r_SF A_U8 S_UI S_CS S_SF S_AD S_HI S_LO) D0_149 0 rfl).kv
                replace k := k |>.astore D0_152 rfl sto10 |>.iload D0_154 rfl |>.ifNo D0_156 (by decide) |>.iconst D0_159 1 |>.goto D0_160 |>.istore D0_164 sto11 |>.iload D0_166 rfl |>.ldcI (w_66 hw) D0_168 |>.icmpNo D0_170 (tlt (own_d90 rfl rfl rfl rfl hs75 hs87)).2.1 |>.aload D0_173 rfl rfl
                replace k := (k.callV (w_67 hw) (V_Y18_18_String hw) f96_3.exa (R_String_length_3 hw f96_3 f96_4 h_CS S_CS) D0_175 0 rfl).pv
                replace k := k |>.iconst D0_178 1 |>.iload D0_179 rfl |>.iadd D0_181 (z := 2) (by decide) |>.icmpNo D0_182 (by decide) |>.aload D0_185 rfl rfl |>.iconst D0_187 0
                replace k := (k.callV (w_77 hw) (V_Y20_20_String hw) f96_3.exa (R_String_charAt_5 hw f96_3 h_CS S_CS f96_4 r_SF S_SF S_AD S_HI S_LO) D0_188 0 rfl).pv
                replace k := k |>.iload D0_191 rfl |>.icmpNo D0_193 (teq (own_d91 rfl rfl rfl rfl rfl rfl rfl rfl rfl rfl rfl hs75 hs87)).2 |>.iload D0_196 rfl |>.ifNo D0_198 (by decide) |>.aload D0_201 rfl rfl |>.iconst D0_203 1
                replace k := (k.callV (w_77 hw) (V_Y20_20_String hw) f96_3.exa (R_String_charAt_6 hw f96_3 h_CS S_CS f96_4 r_SF S_SF S_AD S_HI S_LO) D0_204 0 rfl).pv
                replace k := k |>.iload D0_207 rfl |>.icmpNo D0_209 (teq (own_d8 rfl rfl rfl rfl )).2 |>.iconst D0_212 1 |>.goto D0_213
                exact k.retN (t := .boolean) D0_217 rfl (by simp) (z' := 1) (by decide) rfl
          · replace k := (k.callS (w_39 hw) (S29 hw) (R_Utf8DecodeNamePinLaw_codePoint_11 hw hs55 hs62 hs74) D0_129 0 rfl).pv
            replace k := k |>.istore D0_132 sto8 |>.iload D0_134 rfl |>.iload D0_136 rfl |>.iload D0_138 rfl |>.iload D0_140 rfl
            have z101 := k.sz
            obtain ⟨_, h101, K101, ⟨b1_101, rfl, f101_0, f101_1⟩, k⟩ := (k.callS (w_43 hw) (S30 hw) (R_Utf8DecodeNamePinLaw_encode_4 hw hs55 hs62 hs74) D0_142 0 rfl).kv
            replace k := k |>.astore D0_145 rfl sto9 |>.aload D0_147 rfl rfl
            have z102 := k.sz
            obtain ⟨_, h102, K102, ⟨b1_102, b1_7_2_2_102, rfl, f102_0, f102_1, f102_2, f102_3, f102_4⟩, k⟩ := (k.callS (w_1 hw) (S1 hw) (R_Utf8_decodeName_28 hw S_U8 f101_1 h_CS (own_d92 rfl rfl rfl rfl rfl ) (own_d93 rfl rfl rfl rfl rfl rfl ) (own_d94 rfl rfl rfl rfl rfl rfl ) (own_d95 rfl rfl rfl rfl rfl rfl ) (own_d96 rfl rfl rfl rfl rfl rfl ) (own_d97 rfl rfl rfl rfl rfl rfl rfl ) (own_d98 rfl rfl rfl rfl rfl rfl rfl ) (own_d99 rfl rfl rfl rfl rfl rfl ) (own_d100 rfl rfl rfl rfl rfl rfl rfl rfl rfl rfl ) (own_d101 rfl rfl rfl rfl rfl rfl rfl rfl rfl rfl ) (own_d7 rfl rfl ) r_SF A_U8 S_UI S_CS S_SF S_AD S_HI S_LO) D0_149 0 rfl).kv
            replace k := k |>.astore D0_152 rfl sto10 |>.iload D0_154 rfl |>.ifNo D0_156 (by decide) |>.iconst D0_159 1 |>.goto D0_160 |>.istore D0_164 sto11 |>.iload D0_166 rfl |>.ldcI (w_66 hw) D0_168 |>.icmpYes D0_170 (flt (own_d102 rfl rfl rfl )).2.1 |>.iload D0_218 rfl |>.ldcI (w_66 hw) D0_220 |>.isub D0_222 rfl
            replace k := k |>.istore D0_223 sto12 |>.aload D0_225 rfl rfl
            replace k := (k.callV (w_67 hw) (V_Y18_18_String hw) f102_3.exa (R_String_length_4 hw f102_3 f102_4 h_CS S_CS) D0_227 0 rfl).pv
            replace k := k |>.iconst D0_230 2 |>.iload D0_231 rfl |>.iadd D0_233 (z := 3) (by decide) |>.icmpNo D0_234 (by decide) |>.aload D0_237 rfl rfl |>.iconst D0_239 0
            replace k := (k.callV (w_77 hw) (V_Y20_20_String hw) f102_3.exa (R_String_charAt_7 hw f102_3 h_CS S_CS f102_4 r_SF S_SF S_AD S_HI S_LO) D0_240 0 rfl).pv
            replace k := k |>.ldcI (w_177 hw) D0_243 |>.iload D0_245 rfl |>.bipush D0_247 10 |>.ishr D0_249 rfl |>.iadd D0_250 rfl |>.icmpNo D0_251 (teq (own_d103 rfl rfl rfl rfl rfl rfl rfl rfl rfl rfl rfl rfl rfl rfl rfl rfl rfl )).2 |>.aload D0_254 rfl rfl |>.iconst D0_256 1
            replace k := (k.callV (w_77 hw) (V_Y20_20_String hw) f102_3.exa (R_String_charAt_8 hw f102_3 h_CS S_CS f102_4 r_SF S_SF S_AD S_HI S_LO) D0_257 0 rfl).pv
            replace k := k |>.ldcI (w_178 hw) D0_260 |>.iload D0_262 rfl |>.sipush D0_264 1023 |>.iand D0_267 rfl |>.iadd D0_268 rfl |>.icmpNo D0_269 (teq (own_d104 rfl rfl rfl rfl rfl rfl rfl rfl rfl rfl rfl rfl rfl rfl rfl rfl rfl )).2 |>.iload D0_272 rfl |>.ifNo D0_274 (by decide) |>.aload D0_277 rfl rfl |>.iconst D0_279 2
            replace k := (k.callV (w_77 hw) (V_Y20_20_String hw) f102_3.exa (R_String_charAt_9 hw f102_3 h_CS S_CS f102_4 r_SF S_SF S_AD S_HI S_LO) D0_280 0 rfl).pv
            replace k := k |>.iload D0_283 rfl |>.icmpNo D0_285 (teq (own_d8 rfl rfl rfl rfl )).2 |>.iconst D0_288 1 |>.goto D0_289
            exact k.retN (t := .boolean) D0_293 rfl (by simp) (z' := 1) (by decide) rfl
    · replace k := k |>.ifYes D0_102 ((if0 _ _).trans (feq hc102_54).2) |>.iconst D0_109 0 |>.istore D0_110 sto5 |>.iloadN D0_112 rfl |>.iconst D0_113 2 |>.iushr D0_114 rfl |>.iconst D0_115 3 |>.iand D0_116 rfl |>.istore D0_117 sto6 |>.iloadN D0_119 rfl |>.ldcI (w_38 hw) D0_120 |>.iand D0_122 rfl
      replace k := k |>.istore D0_123 sto7 |>.iload D0_125 rfl |>.iload D0_127 rfl
      by_cases hs107 : (((p3.toUInt32 >>> ((2 : Int32) &&& 31).toUInt32).toInt32) &&& 3) = 0
      · replace k := (k.callS (w_39 hw) (S29 hw) (R_Utf8DecodeNamePinLaw_codePoint_2 hw hs107) D0_129 0 rfl).pv
        replace k := k |>.istore D0_132 sto8 |>.iload D0_134 rfl |>.iload D0_136 rfl |>.iload D0_138 rfl |>.iload D0_140 rfl
        have z109 := k.sz
        obtain ⟨_, h109, K109, ⟨b1_109, rfl, f109_0, f109_1⟩, k⟩ := (k.callS (w_43 hw) (S30 hw) (R_Utf8DecodeNamePinLaw_encode_5 hw hs107) D0_142 0 rfl).kv
        replace k := k |>.astore D0_145 rfl sto9 |>.aload D0_147 rfl rfl
        have z110 := k.sz
        obtain ⟨_, h110, K110, ⟨b1_110, b1_2_2_2_110, rfl, f110_0, f110_1, f110_2, f110_3, f110_4⟩, k⟩ := (k.callS (w_1 hw) (S1 hw) (R_Utf8_decodeName_29 hw S_U8 f109_1 h_CS (own_d32 rfl rfl rfl ) A_U8 S_UI S_CS) D0_149 0 rfl).kv
        replace k := k |>.astore D0_152 rfl sto10 |>.iload D0_154 rfl |>.ifYes D0_156 (by decide) |>.iconst D0_163 0 |>.istore D0_164 sto11 |>.iload D0_166 rfl |>.ldcI (w_66 hw) D0_168 |>.icmpNo D0_170 (tlt (own_d33 rfl rfl )).2.1 |>.aload D0_173 rfl rfl
        replace k := (k.callV (w_67 hw) (V_Y18_18_String hw) f110_3.exa (R_String_length_5 hw f110_3 f110_4 h_CS S_CS) D0_175 0 rfl).pv
        replace k := k |>.iconst D0_178 1 |>.iload D0_179 rfl |>.iadd D0_181 (z := 1) (by decide) |>.icmpNo D0_182 (by decide) |>.aload D0_185 rfl rfl |>.iconst D0_187 0
        replace k := (k.callV (w_77 hw) (V_Y20_20_String hw) f110_3.exa (R_String_charAt_10 hw f110_3 h_CS S_CS f110_4 r_SF S_SF) D0_188 0 rfl).pv
        replace k := k |>.iload D0_191 rfl |>.icmpNo D0_193 (teq (own_d34 rfl rfl rfl )).2 |>.iload D0_196 rfl |>.ifYes D0_198 (by decide) |>.iconst D0_212 1 |>.goto D0_213
        exact k.retN (t := .boolean) D0_217 rfl (by simp) (z' := 1) (by decide) rfl
      · by_cases hs113 : (((p3.toUInt32 >>> ((2 : Int32) &&& 31).toUInt32).toInt32) &&& 3) = 1
        · replace k := (k.callS (w_39 hw) (S29 hw) (R_Utf8DecodeNamePinLaw_codePoint_4 hw hs107 hs113) D0_129 0 rfl).pv
          replace k := k |>.istore D0_132 sto8 |>.iload D0_134 rfl |>.iload D0_136 rfl |>.iload D0_138 rfl |>.iload D0_140 rfl
          have z115 := k.sz
          obtain ⟨_, h115, K115, ⟨b1_115, rfl, f115_0, f115_1⟩, k⟩ := (k.callS (w_43 hw) (S30 hw) (R_Utf8DecodeNamePinLaw_encode_6 hw hs107 hs113) D0_142 0 rfl).kv
          replace k := k |>.astore D0_145 rfl sto9 |>.aload D0_147 rfl rfl
          by_cases hs116 : (((192 ||| ((128 + ((p1 &&& 2147483647) % 1920)) >>> ((6 : Int32) &&& 31))).toInt8.toInt32) &&& 254) = 194
          · have z117 := k.sz
            obtain ⟨_, h117, K117, ⟨b1_117, b1_5_2_2_117, rfl, f117_0, f117_1, f117_2, f117_3, f117_4⟩, k⟩ := (k.callS (w_1 hw) (S1 hw) (R_Utf8_decodeName_31 hw S_U8 f115_1 h_CS (own_d37 rfl rfl rfl rfl rfl rfl hs116) hs116 (own_d38 rfl rfl rfl rfl rfl rfl rfl rfl hs116) A_U8 S_UI S_CS) D0_149 0 rfl).kv
            replace k := k |>.astore D0_152 rfl sto10 |>.iload D0_154 rfl |>.ifYes D0_156 (by decide) |>.iconst D0_163 0 |>.istore D0_164 sto11 |>.iload D0_166 rfl |>.ldcI (w_66 hw) D0_168 |>.icmpNo D0_170 (tlt (own_d39 rfl rfl rfl rfl rfl rfl hs116)).2.1 |>.aload D0_173 rfl rfl
            replace k := (k.callV (w_67 hw) (V_Y18_18_String hw) f117_3.exa (R_String_length_5 hw f117_3 f117_4 h_CS S_CS) D0_175 0 rfl).pv
            replace k := k |>.iconst D0_178 1 |>.iload D0_179 rfl |>.iadd D0_181 (z := 1) (by decide) |>.icmpNo D0_182 (by decide) |>.aload D0_185 rfl rfl |>.iconst D0_187 0
            replace k := (k.callV (w_77 hw) (V_Y20_20_String hw) f117_3.exa (R_String_charAt_10 hw f117_3 h_CS S_CS f117_4 r_SF S_SF) D0_188 0 rfl).pv
            replace k := k |>.iload D0_191 rfl |>.icmpNo D0_193 (teq (own_d40 rfl rfl rfl rfl rfl rfl rfl rfl rfl rfl hs116)).2 |>.iload D0_196 rfl |>.ifYes D0_198 (by decide) |>.iconst D0_212 1 |>.goto D0_213
            exact k.retN (t := .boolean) D0_217 rfl (by simp) (z' := 1) (by decide) rfl
          · have z120 := k.sz
            obtain ⟨_, h120, K120, ⟨b1_120, b1_7_2_2_120, rfl, f120_0, f120_1, f120_2, f120_3, f120_4⟩, k⟩ := (k.callS (w_1 hw) (S1 hw) (R_Utf8_decodeName_32 hw S_U8 f115_1 h_CS (own_d42 rfl rfl rfl rfl rfl rfl hs116) hs116 (own_d43 rfl rfl rfl rfl rfl rfl rfl hs116) (own_d44 rfl rfl rfl rfl rfl rfl rfl hs116) (own_d45 rfl rfl rfl rfl rfl rfl rfl rfl rfl hs116) r_SF A_U8 S_UI S_CS S_SF S_AD S_HI S_LO) D0_149 0 rfl).kv
            replace k := k |>.astore D0_152 rfl sto10 |>.iload D0_154 rfl |>.ifYes D0_156 (by decide) |>.iconst D0_163 0 |>.istore D0_164 sto11 |>.iload D0_166 rfl |>.ldcI (w_66 hw) D0_168 |>.icmpNo D0_170 (tlt (own_d46 rfl rfl rfl rfl rfl rfl hs116)).2.1 |>.aload D0_173 rfl rfl
            replace k := (k.callV (w_67 hw) (V_Y18_18_String hw) f120_3.exa (R_String_length_6 hw f120_3 f120_4 h_CS S_CS) D0_175 0 rfl).pv
            replace k := k |>.iconst D0_178 1 |>.iload D0_179 rfl |>.iadd D0_181 (z := 1) (by decide) |>.icmpNo D0_182 (by decide) |>.aload D0_185 rfl rfl |>.iconst D0_187 0
            replace k := (k.callV (w_77 hw) (V_Y20_20_String hw) f120_3.exa (R_String_charAt_11 hw f120_3 h_CS S_CS f120_4 r_SF S_SF S_AD S_HI S_LO) D0_188 0 rfl).pv
            replace k := k |>.iload D0_191 rfl |>.icmpNo D0_193 (teq (own_d47 rfl rfl rfl rfl rfl rfl rfl rfl rfl rfl hs116)).2 |>.iload D0_196 rfl |>.ifYes D0_198 (by decide) |>.iconst D0_212 1 |>.goto D0_213
            exact k.retN (t := .boolean) D0_217 rfl (by simp) (z' := 1) (by decide) rfl
        · by_cases hs123 : (((p3.toUInt32 >>> ((2 : Int32) &&& 31).toUInt32).toInt32) &&& 3) = 2
          · by_cases hs124 : (2048 + ((p1 &&& 2147483647) % 63488)) < 55296
            · replace k := (k.callS (w_39 hw) (S29 hw) (R_Utf8DecodeNamePinLaw_codePoint_7 hw hs107 hs113 hs123 hs124) D0_129 0 rfl).pv
              replace k := k |>.istore D0_132 sto8 |>.iload D0_134 rfl |>.iload D0_136 rfl |>.iload D0_138 rfl |>.iload D0_140 rfl
              have z126 := k.sz
              obtain ⟨_, h126, K126, ⟨b1_126, rfl, f126_0, f126_1⟩, k⟩ := (k.callS (w_43 hw) (S30 hw) (R_Utf8DecodeNamePinLaw_encode_7 hw hs107 hs113 hs123) D0_142 0 rfl).kv
              replace k := k |>.astore D0_145 rfl sto9 |>.aload D0_147 rfl rfl
              by_cases hs127 : ((224 ||| ((2048 + ((p1 &&& 2147483647) % 63488)) >>> ((12 : Int32) &&& 31))).toInt8.toInt32) = (-32)
              · have z128 := k.sz
                obtain ⟨_, h128, K128, ⟨b1_128, b1_7_2_2_128, rfl, f128_0, f128_1, f128_2, f128_3, f128_4⟩, k⟩ := (k.callS (w_1 hw) (S1 hw) (R_Utf8_decodeName_34 hw S_U8 f126_1 h_CS (own_d52 rfl rfl rfl rfl rfl hs124 hs127) (own_d53 rfl rfl rfl rfl rfl rfl hs124 hs127) (own_d54 rfl rfl rfl rfl rfl rfl hs124 hs127) (own_d55 rfl rfl rfl rfl rfl rfl hs124 hs127) hs127 (own_d56 rfl rfl rfl rfl rfl rfl rfl rfl rfl hs124 hs127) (own_d57 rfl rfl rfl rfl rfl rfl rfl rfl rfl hs124 hs127) (own_d58 rfl rfl rfl rfl rfl rfl rfl rfl hs124 hs127) (own_d59 rfl rfl rfl rfl rfl rfl rfl rfl rfl rfl hs124 hs127) r_SF A_U8 S_UI S_CS S_SF S_AD S_HI S_LO) D0_149 0 rfl).kv
                replace k := k |>.astore D0_152 rfl sto10 |>.iload D0_154 rfl |>.ifYes D0_156 (by decide) |>.iconst D0_163 0 |>.istore D0_164 sto11 |>.iload D0_166 rfl |>.ldcI (w_66 hw) D0_168 |>.icmpNo D0_170 (tlt (own_d60 rfl rfl rfl rfl rfl hs124 hs127)).2.1 |>.aload D0_173 rfl rfl
                replace k := (k.callV (w_67 hw) (V_Y18_18_String hw) f128_3.exa (R_String_length_6 hw f128_3 f128_4 h_CS S_CS) D0_175 0 rfl).pv
                replace k := k |>.iconst D0_178 1 |>.iload D0_179 rfl |>.iadd D0_181 (z := 1) (by decide) |>.icmpNo D0_182 (by decide) |>.aload D0_185 rfl rfl |>.iconst D0_187 0
                replace k := (k.callV (w_77 hw) (V_Y20_20_String hw) f128_3.exa (R_String_charAt_11 hw f128_3 h_CS S_CS f128_4 r_SF S_SF S_AD S_HI S_LO) D0_188 0 rfl).pv
                replace k := k |>.iload D0_191 rfl |>.icmpNo D0_193 (teq (own_d61 rfl rfl rfl rfl rfl rfl rfl rfl rfl rfl rfl hs124 hs127)).2 |>.iload D0_196 rfl |>.ifYes D0_198 (by decide) |>.iconst D0_212 1 |>.goto D0_213
                exact k.retN (t := .boolean) D0_217 rfl (by simp) (z' := 1) (by decide) rfl
              · have z131 := k.sz
                obtain ⟨_, h131, K131, ⟨b1_131, b1_7_2_2_131, rfl, f131_0, f131_1, f131_2, f131_3, f131_4⟩, k⟩ := (k.callS (w_1 hw) (S1 hw) (R_Utf8_decodeName_35 hw S_U8 f126_1 h_CS (own_d62 rfl rfl rfl rfl rfl hs124 hs127) (own_d63 rfl rfl rfl rfl rfl rfl hs124 hs127) (own_d64 rfl rfl rfl rfl rfl rfl hs124 hs127) (own_d65 rfl rfl rfl rfl rfl rfl hs124 hs127) hs127 (own_d66 rfl rfl rfl rfl rfl rfl rfl rfl rfl hs124 hs127) (own_d67 rfl rfl rfl rfl rfl rfl rfl rfl hs124 hs127) (own_d68 rfl rfl rfl rfl rfl rfl rfl rfl rfl rfl hs124 hs127) r_SF A_U8 S_UI S_CS S_SF S_AD S_HI S_LO) D0_149 0 rfl).kv
                replace k := k |>.astore D0_152 rfl sto10 |>.iload D0_154 rfl |>.ifYes D0_156 (by decide) |>.iconst D0_163 0 |>.istore D0_164 sto11 |>.iload D0_166 rfl |>.ldcI (w_66 hw) D0_168 |>.icmpNo D0_170 (tlt (own_d69 rfl rfl rfl rfl rfl hs124 hs127)).2.1 |>.aload D0_173 rfl rfl
                replace k := (k.callV (w_67 hw) (V_Y18_18_String hw) f131_3.exa (R_String_length_6 hw f131_3 f131_4 h_CS S_CS) D0_175 0 rfl).pv
                replace k := k |>.iconst D0_178 1 |>.iload D0_179 rfl |>.iadd D0_181 (z := 1) (by decide) |>.icmpNo D0_182 (by decide) |>.aload D0_185 rfl rfl |>.iconst D0_187 0
                replace k := (k.callV (w_77 hw) (V_Y20_20_String hw) f131_3.exa (R_String_charAt_11 hw f131_3 h_CS S_CS f131_4 r_SF S_SF S_AD S_HI S_LO) D0_188 0 rfl).pv
                replace k := k |>.iload D0_191 rfl |>.icmpNo D0_193 (teq (own_d70 rfl rfl rfl rfl rfl rfl rfl rfl rfl rfl rfl hs124 hs127)).2 |>.iload D0_196 rfl |>.ifYes D0_198 (by decide) |>.iconst D0_212 1 |>.goto D0_213
                exact k.retN (t := .boolean) D0_217 rfl (by simp) (z' := 1) (by decide) rfl
            · by_cases hs134 : 57343 < (2048 + ((p1 &&& 2147483647) % 63488))
              · replace k := (k.callS (w_39 hw) (S29 hw) (R_Utf8DecodeNamePinLaw_codePoint_9 hw hs107 hs113 hs123 hs124 hs134) D0_129 0 rfl).pv
                replace k := k |>.istore D0_132 sto8 |>.iload D0_134 rfl |>.iload D0_136 rfl |>.iload D0_138 rfl |>.iload D0_140 rfl
                have z136 := k.sz
                obtain ⟨_, h136, K136, ⟨b1_136, rfl, f136_0, f136_1⟩, k⟩ := (k.callS (w_43 hw) (S30 hw) (R_Utf8DecodeNamePinLaw_encode_7 hw hs107 hs113 hs123) D0_142 0 rfl).kv
                replace k := k |>.astore D0_145 rfl sto9 |>.aload D0_147 rfl rfl
                have z137 := k.sz
                obtain ⟨_, h137, K137, ⟨b1_137, b1_7_2_2_137, rfl, f137_0, f137_1, f137_2, f137_3, f137_4⟩, k⟩ := (k.callS (w_1 hw) (S1 hw) (R_Utf8_decodeName_36 hw S_U8 f136_1 h_CS (own_d71 rfl rfl rfl rfl rfl hs124 hs134) (own_d72 rfl rfl rfl rfl rfl rfl hs124 hs134) (own_d73 rfl rfl rfl rfl rfl rfl hs124 hs134) (own_d74 rfl rfl rfl rfl rfl rfl hs124 hs134) (own_d75 rfl rfl rfl rfl rfl hs124 hs134) (own_d76 rfl rfl rfl rfl rfl rfl rfl hs124 hs134) (own_d77 rfl rfl rfl rfl rfl rfl hs124 hs134) (own_d78 rfl rfl rfl rfl rfl rfl rfl rfl rfl hs124 hs134) (own_d79 rfl rfl rfl rfl rfl rfl rfl rfl rfl hs124 hs134) r_SF A_U8 S_UI S_CS S_SF S_AD S_HI S_LO) D0_149 0 rfl).kv
                replace k := k |>.astore D0_152 rfl sto10 |>.iload D0_154 rfl |>.ifYes D0_156 (by decide) |>.iconst D0_163 0 |>.istore D0_164 sto11 |>.iload D0_166 rfl |>.ldcI (w_66 hw) D0_168 |>.icmpNo D0_170 (tlt (own_d80 rfl rfl rfl hs124 hs134)).2.1 |>.aload D0_173 rfl rfl
                replace k := (k.callV (w_67 hw) (V_Y18_18_String hw) f137_3.exa (R_String_length_6 hw f137_3 f137_4 h_CS S_CS) D0_175 0 rfl).pv
                replace k := k |>.iconst D0_178 1 |>.iload D0_179 rfl |>.iadd D0_181 (z := 1) (by decide) |>.icmpNo D0_182 (by decide) |>.aload D0_185 rfl rfl |>.iconst D0_187 0
                replace k := (k.callV (w_77 hw) (V_Y20_20_String hw) f137_3.exa (R_String_charAt_11 hw f137_3 h_CS S_CS f137_4 r_SF S_SF S_AD S_HI S_LO) D0_188 0 rfl).pv
                replace k := k |>.iload D0_191 rfl |>.icmpNo D0_193 (teq (own_d81 rfl rfl rfl rfl rfl rfl rfl rfl rfl rfl hs124 hs134)).2 |>.iload D0_196 rfl |>.ifYes D0_198 (by decide) |>.iconst D0_212 1 |>.goto D0_213
                exact k.retN (t := .boolean) D0_217 rfl (by simp) (z' := 1) (by decide) rfl
              · replace k := (k.callS (w_39 hw) (S29 hw) (R_Utf8DecodeNamePinLaw_codePoint_10 hw hs107 hs113 hs123 hs124 hs134) D0_129 0 rfl).pv
                replace k := k |>.istore D0_132 sto8 |>.iload D0_134 rfl |>.iload D0_136 rfl |>.iload D0_138 rfl |>.iload D0_140 rfl
                have z141 := k.sz
                obtain ⟨_, h141, K141, ⟨b1_141, rfl, f141_0, f141_1⟩, k⟩ := (k.callS (w_43 hw) (S30 hw) (R_Utf8DecodeNamePinLaw_encode_7 hw hs107 hs113 hs123) D0_142 0 rfl).kv
                replace k := k |>.astore D0_145 rfl sto9 |>.aload D0_147 rfl rfl
                have z142 := k.sz
                obtain ⟨_, h142, K142, ⟨b1_142, b1_7_2_2_142, rfl, f142_0, f142_1, f142_2, f142_3, f142_4⟩, k⟩ := (k.callS (w_1 hw) (S1 hw) (R_Utf8_decodeName_35 hw S_U8 f141_1 h_CS (own_d82 rfl rfl rfl rfl rfl rfl hs124 hs134) (own_d83 rfl rfl rfl rfl rfl rfl rfl hs124 hs134) (own_d84 rfl rfl rfl rfl rfl rfl rfl hs124 hs134) (own_d85 rfl rfl rfl rfl rfl rfl rfl hs124 hs134) (own_d86 rfl rfl rfl rfl rfl rfl hs124 hs134) (own_d87 rfl rfl rfl rfl rfl rfl rfl rfl hs124 hs134) (own_d88 rfl rfl rfl rfl rfl rfl rfl hs124 hs134) (own_d89 rfl rfl rfl rfl rfl rfl rfl rfl rfl rfl hs124 hs134) r_SF A_U8 S_UI S_CS S_SF S_AD S_HI S_LO) D0_149 0 rfl).kv
                replace k := k |>.astore D0_152 rfl sto10 |>.iload D0_154 rfl |>.ifYes D0_156 (by decide) |>.iconst D0_163 0 |>.istore D0_164 sto11 |>.iload D0_166 rfl |>.ldcI (w_66 hw) D0_168 |>.icmpNo D0_170 (tlt (own_d90 rfl rfl rfl rfl hs124 hs134)).2.1 |>.aload D0_173 rfl rfl
                replace k := (k.callV (w_67 hw) (V_Y18_18_String hw) f142_3.exa (R_String_length_6 hw f142_3 f142_4 h_CS S_CS) D0_175 0 rfl).pv
                replace k := k |>.iconst D0_178 1 |>.iload D0_179 rfl |>.iadd D0_181 (z := 1) (by decide) |>.icmpNo D0_182 (by decide) |>.aload D0_185 rfl rfl |>.iconst D0_187 0
                replace k := (k.callV (w_77 hw) (V_Y20_20_String hw) f142_3.exa (R_String_charAt_11 hw f142_3 h_CS S_CS f142_4 r_SF S_SF S_AD S_HI S_LO) D0_188 0 rfl).pv
                replace k := k |>.iload D0_191 rfl |>.icmpNo D0_193 (teq (own_d91 rfl rfl rfl rfl rfl rfl rfl rfl rfl rfl rfl hs124 hs134)).2 |>.iload D0_196 rfl |>.ifYes D0_198 (by decide) |>.iconst D0_212 1 |>.goto D0_213
                exact k.retN (t := .boolean) D0_217 rfl (by simp) (z' := 1) (by decide) rfl
          · replace k := (k.callS (w_39 hw) (S29 hw) (R_Utf8DecodeNamePinLaw_codePoint_11 hw hs107 hs113 hs123) D0_129 0 rfl).pv
            replace k := k |>.istore D0_132 sto8 |>.iload D0_134 rfl |>.iload D0_136 rfl |>.iload D0_138 rfl |>.iload D0_140 rfl
            have z146 := k.sz
            obtain ⟨_, h146, K146, ⟨b1_146, rfl, f146_0, f146_1⟩, k⟩ := (k.callS (w_43 hw) (S30 hw) (R_Utf8DecodeNamePinLaw_encode_8 hw hs107 hs113 hs123) D0_142 0 rfl).kv
            replace k := k |>.astore D0_145 rfl sto9 |>.aload D0_147 rfl rfl
            have z147 := k.sz
            obtain ⟨_, h147, K147, ⟨b1_147, b1_7_2_2_147, rfl, f147_0, f147_1, f147_2, f147_3, f147_4⟩, k⟩ := (k.callS (w_1 hw) (S1 hw) (R_Utf8_decodeName_37 hw S_U8 f146_1 h_CS (own_d92 rfl rfl rfl rfl rfl ) (own_d93 rfl rfl rfl rfl rfl rfl ) (own_d94 rfl rfl rfl rfl rfl rfl ) (own_d95 rfl rfl rfl rfl rfl rfl ) (own_d96 rfl rfl rfl rfl rfl rfl ) (own_d97 rfl rfl rfl rfl rfl rfl rfl ) (own_d98 rfl rfl rfl rfl rfl rfl rfl ) (own_d99 rfl rfl rfl rfl rfl rfl ) (own_d100 rfl rfl rfl rfl rfl rfl rfl rfl rfl rfl ) (own_d101 rfl rfl rfl rfl rfl rfl rfl rfl rfl rfl ) r_SF A_U8 S_UI S_CS S_SF S_AD S_HI S_LO) D0_149 0 rfl).kv
            replace k := k |>.astore D0_152 rfl sto10 |>.iload D0_154 rfl |>.ifYes D0_156 (by decide) |>.iconst D0_163 0 |>.istore D0_164 sto11 |>.iload D0_166 rfl |>.ldcI (w_66 hw) D0_168 |>.icmpYes D0_170 (flt (own_d102 rfl rfl rfl )).2.1 |>.iload D0_218 rfl |>.ldcI (w_66 hw) D0_220 |>.isub D0_222 rfl |>.istore D0_223 sto12
            replace k := k |>.aload D0_225 rfl rfl
            replace k := (k.callV (w_67 hw) (V_Y18_18_String hw) f147_3.exa (R_String_length_3 hw f147_3 f147_4 h_CS S_CS) D0_227 0 rfl).pv
            replace k := k |>.iconst D0_230 2 |>.iload D0_231 rfl |>.iadd D0_233 (z := 2) (by decide) |>.icmpNo D0_234 (by decide) |>.aload D0_237 rfl rfl |>.iconst D0_239 0
            replace k := (k.callV (w_77 hw) (V_Y20_20_String hw) f147_3.exa (R_String_charAt_5 hw f147_3 h_CS S_CS f147_4 r_SF S_SF S_AD S_HI S_LO) D0_240 0 rfl).pv
            replace k := k |>.ldcI (w_177 hw) D0_243 |>.iload D0_245 rfl |>.bipush D0_247 10 |>.ishr D0_249 rfl |>.iadd D0_250 rfl |>.icmpNo D0_251 (teq (own_d103 rfl rfl rfl rfl rfl rfl rfl rfl rfl rfl rfl rfl rfl rfl rfl rfl rfl )).2 |>.aload D0_254 rfl rfl |>.iconst D0_256 1
            replace k := (k.callV (w_77 hw) (V_Y20_20_String hw) f147_3.exa (R_String_charAt_6 hw f147_3 h_CS S_CS f147_4 r_SF S_SF S_AD S_HI S_LO) D0_257 0 rfl).pv
            replace k := k |>.ldcI (w_178 hw) D0_260 |>.iload D0_262 rfl |>.sipush D0_264 1023 |>.iand D0_267 rfl |>.iadd D0_268 rfl |>.icmpNo D0_269 (teq (own_d104 rfl rfl rfl rfl rfl rfl rfl rfl rfl rfl rfl rfl rfl rfl rfl rfl rfl )).2 |>.iload D0_272 rfl |>.ifYes D0_274 (by decide) |>.iconst D0_288 1 |>.goto D0_289
            exact k.retN (t := .boolean) D0_293 rfl (by simp) (z' := 1) (by decide) rfl
theorem D0_15 : Dc code 15 (.iconst 0) 1 16 := ⟨at_15, rfl⟩
theorem D0_16 : Dc code 16 (.newarray .byte) 2 18 := ⟨at_16, rfl⟩
theorem D0_18 : Dc code 18 (.invokestatic 12) 3 21 := ⟨at_18, rfl⟩
theorem D4_9 : Dc J4 9 (.aload_n 0) 1 10 := by decide +kernel
theorem D4_10 : Dc J4 10 (.ldc 7) 2 12 := by decide +kernel
theorem lit_26 : (∀ c ∈ "".toList, c.toNat < 256) ∧ "".toList.map (fun c => Value.int (Jvm.Lit.byteI c.toNat.toUInt16)) = [] := by decide +kernel
theorem D4_12 : Dc J4 12 (.getfield 9) 3 15 := by decide +kernel
theorem D4_15 : Dc J4 15 (.putfield 9) 3 18 := by decide +kernel
theorem D4_18 : Dc J4 18 (.aload_n 0) 1 19 := by decide +kernel
theorem D4_19 : Dc J4 19 (.ldc 7) 2 21 := by decide +kernel
theorem D4_21 : Dc J4 21 (.getfield 15) 3 24 := by decide +kernel
theorem D4_24 : Dc J4 24 (.putfield 15) 3 27 := by decide +kernel
theorem D4_27 : Dj J4 27 (.goto 852) 852 30 879 := by decide +kernel
theorem ef_RRRII_11_0_0 {x0 : Addr} {x1 : Addr} {x2 : Addr}  (m : MethodId) : entryFrame m #[(.ref x0), (.ref x1), (.ref x2), (.int 0), (.int 0)] 11 = mkF m 0 #[.val (.ref x0), .val (.ref x1), .val (.ref x2), .val (.int 0), .val (.int 0), .unset, .unset, .unset, .unset, .unset, .unset] [] := by
  first | (simp [entryFrame, mkF, argsToLocals, Value.category]; done) | rfl
theorem R_String__init__81 {a1 w_U8 a2 : Addr} (hw : HW a0 Z) (pr1 : Obj Z h0 a1 L_String [.null, .int 0]) (pr2 : n0 ≤ a1) : Mt true consts_1 l Y4 C4 (rmk 1 4 8 12) #[.ref a1, .ref w_U8, .ref a2, .int 0, .int 0] Z a0 h0 n0 (K0 h0 [a1] fun h => ∃ b1x : Addr, Obj Z h a1 L_String [.ref b1x, .int 0] ∧ Ary Z h b1x ("", .byte) 0 (lv [])) := by
  refine Mt.go PN4 (Or.inr ⟨_, rfl⟩) ef_RRRII_11_0_0 fun k => ?_
  replace k := k |>.aloadN D4_0 rfl rfl |>.initO (w_23 hw) (w_24 hw) (w_25 hw) D4_1 0 |>.iload D4_4 rfl |>.ifNo D4_6 (by decide) |>.aloadN D4_9 rfl rfl
  obtain ⟨a1x, b1x, vm1, h1, K1, R1, O1, A1, N1, k⟩ := k.ldcS (w_26 hw) (strAt hw) (List.mem_of_getElem? (i := 0) rfl) lit_26 rfl D4_10
  replace k := k |>.getF (fl_31 hw) O1 0 D4_12 rfl rfl
  have o2 := pr1.keep K1 nin0
  have sf3 := Safe.nul (EL := consts_1) k.al o2 0 rfl rfl
  have cv4 := k.chv
  obtain ⟨h5, K5, O5, k⟩ := k.putF (fl_31 hw) (pw_String_i_String_value hw) o2 0 pr2 (Or.inr sf3) D4_15 rfl rfl rfl ls0
  replace k := k |>.aloadN D4_18 rfl rfl
  obtain ⟨a6x, b6x, vm6, h6, K6, R6, O6, A6, N6, k⟩ := k.ldcS (w_26 hw) (strAt hw) (List.mem_of_getElem? (i := 0) rfl) lit_26 rfl D4_19
  replace k := k |>.getF (fl_32 hw) O6 1 D4_21 rfl rfl
  have o7 := O5.keep K6 nin0
  have sf8 := R6.safe O5.lt (sf3.keep K5 (allS sf3 all0) cv4)
  have cv9 := k.chv
  obtain ⟨h10, K10, O10, k⟩ := k.putN (fp_32 hw) (pw_String_i_String_coder hw) o7 1 pr2 (Or.inr sf8) D4_24 rfl (v' := (.int 0)) (by decide) (by decide) ls1
  replace k := k |>.goto D4_27
  have o11 := ((A1.keep K5 (ninS (Ne.symm (N1 _ sf3).2) nin0)).keep K6 nin0).keep K10 (ninS (Ne.symm (N1 _ sf3).2) nin0)
  exact k.ret0 D4_879 rfl ⟨rfl, (((((Keep.refl h0 [a1]).trans K1 all0).trans K5 (allS (Or.inl (List.mem_of_getElem? (i := 0) rfl)) all0)).trans K6 all0).trans K10 (allS (Or.inl (List.mem_of_getElem? (i := 0) rfl)) all0)), b1x, O10, o11⟩
theorem R_String__init__79 {a1 a2 w_U8 : Addr} (hw : HW a0 Z) (pr1 : Obj Z Z.heap w_U8 L_UTF_8 []) (pr2 : Ary Z h0 a2 ATB 0 (lv [])) (pr3 : Obj Z h0 a1 L_String [.null, .int 0]) (pr4 : n0 ≤ a1) : Mt true consts_1 l Y2 C2 (rmk 2 4 8 34) #[.ref a1, .ref a2, .ref w_U8] Z a0 h0 n0 (K0 h0 [a1] fun h => ∃ b1x_2 : Addr, Obj Z h a1 L_String [.ref b1x_2, .int 0] ∧ Ary Z h b1x_2 ("", .byte) 0 (lv [])) := by
  refine Mt.go PN2 (Or.inl rfl) ef_RRR_3 fun k => ?_
  replace k := k |>.aloadN D2_0 rfl rfl |>.aloadN D2_1 rfl rfl
  replace k := (k.callS (w_13 hw) (S3 hw) (R_Objects_requireNonNull_1 hw) D2_2 1 rfl).pv
  replace k := k |>.castY (w_17 hw) (Ins.of_exa (pr1.ext k.old.2).exa (w_18 hw)) D2_5 |>.aloadN D2_8 rfl rfl |>.iconst D2_9 0 |>.aloadN D2_10 rfl rfl |>.alen pr2 D2_11 (z := 0) (by decide)
  have z2 := k.sz
  obtain ⟨vm2, h2, K2, R2, ⟨b1x_2, f2_0, f2_1⟩, k⟩ := (k.callIW (w_19 hw) (I4 hw) (R_String__init__81 hw pr3 pr4) D2_12 0 rfl).k0 (allS pr4 all0)
  exact k.ret0 D2_15 rfl ⟨rfl, K2, b1x_2, f2_0, f2_1⟩
theorem R_Utf8_decodeName_39 {a1 w_U8 : Addr} (hw : HW a0 Z) (pr1 : TS_U8 Z w_U8) (pr2 : Ary Z h0 a1 ATB 0 (lv [])) (pr3 : Obj Z Z.heap w_U8 L_UTF_8 []) : Mt true consts_1 l Y1 C1 (rmk 3 5 12 49) #[.ref a1] Z a0 h0 n0 (KpV h0 [] fun v h => ∃ b1 b1x_2_3 : Addr, v = (.ref b1) ∧ h0.size ≤ b1 ∧ Obj Z h b1 L_String [.ref b1x_2_3, .int 0] ∧ Ary Z h b1x_2_3 ("", .byte) 0 (lv [])) := by
  refine Mt.go PN1 (Or.inl rfl) ef_R_1 fun k => ?_
  have nz := k.n0le
  have cv2 := k.chv
  have z1 := k.sz
  obtain ⟨b1, h1, g1, K1, O1, k⟩ := k.new (w_5 hw) (nw_String hw) D1_0 (by decide) dvL_String
  replace k := k |>.dup D1_3 rfl |>.aloadN D1_4 rfl rfl |>.getS (fl_8 hw) pr1 D1_5
  have s_b1 := Nat.le_trans z1 g1
  have n_b1 := Nat.le_trans nz s_b1
  have o4 := pr2.keep K1 nin0
  have z3 := k.sz
  obtain ⟨vm3, h3, K3, R3, ⟨b1x_2_3, f3_0, f3_1⟩, k⟩ := (k.callIW (w_10 hw) (I2 hw) (R_String__init__79 hw pr3 o4 O1 n_b1) D1_8 1 rfl).k0 (allS n_b1 all0)
  exact k.retA D1_11 rfl ⟨_, rfl, (K1.trans K3 (allS (Or.inr s_b1) all0)), b1, b1x_2_3, rfl, s_b1, f3_0, f3_1⟩
theorem D0_21 : Dc code 21 (.astore 5) 2 23 := ⟨at_21, rfl⟩
theorem D0_23 : Dc code 23 (.aload 5) 2 25 := ⟨at_23, rfl⟩
theorem D0_25 : Dc code 25 (.invokevirtual 18) 3 28 := ⟨at_25, rfl⟩
abbrev Y43 : MethodName := ⟨"java/lang/String", "isEmpty", "()Z"⟩
abbrev J43 := jdk_42_method_55_code
abbrev C43 : Cond := .code Y43 J43 1 (some .boolean)
theorem D43_0 : Dc J43 0 (.aload_n 0) 1 1 := by decide +kernel
theorem D43_1 : Dc J43 1 (.getfield 9) 3 4 := by decide +kernel
theorem D43_4 : Dc J43 4 .arraylength 1 5 := by decide +kernel
theorem D43_5 : Dj J43 5 (.ifCond .ne 7) 7 8 12 := by decide +kernel
theorem D43_8 : Dc J43 8 (.iconst 1) 1 9 := by decide +kernel
theorem D43_9 : Dj J43 9 (.goto 4) 4 12 13 := by decide +kernel
theorem D43_13 : Dc J43 13 .ireturn 1 14 := by decide +kernel
theorem PN43 : plainFor Y43 = true := plainFor_of_name pn_String
theorem R_String_isEmpty_1 {a1 a2 : Addr} (hw : HW a0 Z) (pr1 : Obj Z h0 a1 L_String [.ref a2, .int 0]) (pr2 : Ary Z h0 a2 ("", .byte) 0 (lv [])) : Mt false [] l Y43 C43 (rmk 0 0 0 0) #[.ref a1] Z a0 h0 n0 (Pv h0 (.int 1)) := by
  refine Mt.go PN43 (Or.inl rfl) ef_R_1 fun k => ?_
  replace k := k |>.aloadN D43_0 rfl rfl |>.getF (fl_31 hw) pr1 0 D43_1 rfl rfl |>.alen pr2 D43_4 (z := 0) (by decide) |>.ifNo D43_5 (by decide) |>.iconst D43_8 1 |>.goto D43_9
  exact k.retN (t := .boolean) D43_13 rfl (by simp) (z' := 1) (by decide) ⟨rfl, rfl⟩
abbrev w_33 (hw : HW a0 Z) := hw _ (List.mem_of_getElem? (i := 33) rfl)
abbrev w_37 (hw : HW a0 Z) := hw _ (List.mem_of_getElem? (i := 37) rfl)
abbrev w_36 (hw : HW a0 Z) := hw _ (List.mem_of_getElem? (i := 36) rfl)
abbrev w_35 (hw : HW a0 Z) := hw _ (List.mem_of_getElem? (i := 35) rfl)
abbrev w_34 (hw : HW a0 Z) := hw _ (List.mem_of_getElem? (i := 34) rfl)
theorem V_Y43_43_String (hw : HW a0 Z) : VC Z a0 Y43 Y43 "java/lang/String" C43 1 (some .boolean) 0 := ⟨(w_34 hw), fun s hZ => notFace_of_selects (args := #[]) (mvT hZ (w_36 hw)), (w_36 hw), (w_35 hw), by decide, rfl, ⟨⟨_, Or.inl rfl⟩, (w_37 hw), (w_7 hw), by decide, _, _, pd__r_Z, rfl⟩⟩
theorem D0_28 : Dc code 28 .ireturn 1 29 := ⟨at_28, rfl⟩
theorem R_law2 {p1 p2 p3 w_CS : Int32} {w_U8 : Addr} {w_SF : Value} (hw : HW a0 Z) (S_AD : TS_AD Z) (S_HI : TS_HI Z) (S_LO : TS_LO Z) (S_CS : TS_CS Z w_CS) (S_SF : TS_SF Z w_SF) (S_U8 : TS_U8 Z w_U8) (S_UI : TS_UI Z w_U8) (A_U8 : Obj Z Z.heap w_U8 L_UTF_8 []) (r_SF : w_SF.isRef = true) (h_CS : ¬ (w_CS = (0 : Int32))) (hmode : (p3 &&& (3 : Int32)) = (2 : Int32)) : Mt true consts_1 l Y0 C0 room_1 #[.int p1, .int p2, .int p3] Z a0 h0 n0 (fun v _ => v = some (.int 1)) := by
  refine Mt.go PN0 (Or.inl rfl) ef_III_maxLocals fun k => ?_
  replace k := k |>.iloadN D0_0 rfl |>.iconst D0_1 3 |>.iand D0_2 rfl |>.istoreN D0_3 sto3 |>.iloadN D0_4 rfl |>.bipush D0_5 127 |>.iand D0_7 rfl |>.istore D0_8 sto4 |>.iloadN D0_10 rfl |>.iconst D0_11 2 |>.icmpNo D0_12 (teq hmode).2 |>.iconst D0_15 0
  have cv2 := k.chv
  have z1 := k.sz
  obtain ⟨b1, h1, g1, K1, O1, k⟩ := k.newP (aty := .byte) "[B" (w_0 hw) (by decide) D0_16 0 (by decide) (n := 0) (by decide) (by decide) (by decide) (lv_const (V := []) rfl)
  have z3 := k.sz
  obtain ⟨_, vm3, h3, K3, R3, ⟨b1_3, b1x_2_3_3, rfl, f3_0, f3_1, f3_2⟩, k⟩ := (k.callSW (w_1 hw) (S1 hw) (R_Utf8_decodeName_39 hw S_U8 O1 A_U8) D0_18 0 rfl).kv
  replace k := k |>.astore D0_21 rfl sto5 |>.aload D0_23 rfl rfl
  replace k := (k.callV (w_33 hw) (V_Y43_43_String hw) f3_1.exa (R_String_isEmpty_1 hw f3_1 f3_2) D0_25 0 rfl).pv
  exact k.retN (t := .boolean) D0_28 rfl (by simp) (z' := 1) (by decide) rfl
theorem comes_1 {Post : Tables → Env → Array Value → State → Outcome → State → Prop} (hpost : ∀ tb e args s v u, (limb_1_1.after args s (.returned v) u = true ∧ limb_1_2.after args s (.returned v) u = true ∧ True) → ReturnedEndW s (.returned v) u (Jvm.fieldLocs frame_1_writes args s ++ Jvm.arrayLocs frame_1_arrays args s ++ Jvm.staticLocs frame_1_statics s) 24 1152 → Post tb e args s (.returned v) u) :
    ArmFor flags0 classFile x code maxLocals ret World_1 tables_1 room_1 Calls_1 rest_1 Pre_1 Post := by
  intro l hfl _ _ p e ha hc hk s m args below hf hA hF happ hP
  obtain ⟨hcalls, hrest, hpre⟩ := hP
  obtain ⟨-, -, -, hnamed, -, -, -, hat⟩ := (Spec.applies_iff hf).mp happ
  obtain ⟨hg, hn⟩ := and_e (Cond.before_iff.mp (show (Jvm.Cond.and given_1 narrow_1).before args s = true from hpre))
  obtain ⟨g0, gr0⟩ := and_e hg
  obtain ⟨ga0, gr1⟩ := and_e gr0
  obtain ⟨ga1, gr2⟩ := and_e gr1
  have ga2 := gr2
  obtain ⟨w0, w1, w2, rfl⟩ : ∃ w0 w1 w2 : Value, args = #[w0, w1, w2] := by
    have hs : args.size = 3 := by simpa [Cond.value, given_1] using g0
    obtain ⟨L⟩ := args
    match L, hs with
    | [w0, w1, w2], _ => exact ⟨w0, w1, w2, rfl⟩
  have hw : HW _ s := fun d (hd : d ∈ tables_1) => atoms_spec (ws := Jvm.Cond.code x code maxLocals ret :: tables_1) hat d (List.mem_cons_of_mem _ hd)
  obtain ⟨hsets, hown0⟩ := atoms_of _ (rest_1_c_eq ▸ (show rest_1_c.before _ s = true from hrest))
  have hr0 := Cond.before_iff.mp hown0
  obtain ⟨i0, ei0⟩ := is_v ga0
  obtain rfl : w0 = (.int i0) := Option.some.inj ei0
  obtain ⟨i1, ei1⟩ := is_v ga1
  obtain rfl : w1 = (.int i1) := Option.some.inj ei1
  obtain ⟨i2, ei2⟩ := is_v ga2
  obtain rfl : w2 = (.int i2) := Option.some.inj ei2
  have S_AD := Sta.start (eqv_i (Term.int_eval 1) (Cond.before_iff.mp (hsets _ (List.mem_of_getElem? (i := 21) rfl)))) (Or.inl (hsets _ (List.mem_of_getElem? (i := 20) rfl)))
  have S_HI := Sta.start (eqv_i (Term.int_eval 0) (Cond.before_iff.mp (hsets _ (List.mem_of_getElem? (i := 24) rfl)))) (Or.inl (hsets _ (List.mem_of_getElem? (i := 23) rfl)))
  have S_LO := Sta.start (eqv_i (Term.int_eval 8) (Cond.before_iff.mp (hsets _ (List.mem_of_getElem? (i := 27) rfl)))) (Or.inl (hsets _ (List.mem_of_getElem? (i := 26) rfl)))
  obtain ⟨u8, e8⟩ := exa_v (Cond.before_iff.mp (hsets _ (List.mem_of_getElem? (i := 5) rfl)))
  obtain ⟨u9, e9⟩ := exa_v (Cond.before_iff.mp (hsets _ (List.mem_of_getElem? (i := 8) rfl)))
  obtain rfl : u8 = u9 := by
    have q := Cond.before_iff.mp (hsets _ (List.mem_of_getElem? (i := 4) rfl))
    simpa [Cond.value, e8, e9] using q
  have S_U8 := Sta.start e8 (Or.inl (hsets _ (List.mem_of_getElem? (i := 1) rfl)))
  have S_UI := Sta.start e9 (Or.inl (hsets _ (List.mem_of_getElem? (i := 3) rfl)))
  have A_U8 : Obj s s.heap u8 L_UTF_8 [] := ⟨Exa.start e8 (Cond.before_iff.mp (hsets _ (List.mem_of_getElem? (i := 5) rfl))), rfl, fun i q v h => by cases h⟩
  obtain ⟨cs, ec⟩ := is_v (Cond.before_iff.mp (hsets _ (List.mem_of_getElem? (i := 10) rfl)))
  have S_CS := Sta.start ec (Or.inl (hsets _ (List.mem_of_getElem? (i := 9) rfl)))
  have w_cs := (hsets _ (List.mem_of_getElem? (i := 11) rfl))
  have h_CS : ¬ (cs = 0) := fun q => by
    have z := Cond.before_iff.mp w_cs
    subst q
    simp [Cond.value, ec, Term.int_eval] at z
  obtain ⟨sf, es, r_SF⟩ := isR_v (Cond.before_iff.mp (hsets _ (List.mem_of_getElem? (i := 17) rfl)))
  have S_SF := Sta.start es (Or.inl (hsets _ (List.mem_of_getElem? (i := 16) rfl)))
  have hchv : CHv s consts_1 s.vm s.heap := CHv.start (a0 := #[.int i0, .int i1, .int i2]) (ewC hw) hcalls.1 (Cond.before_iff.mpr (Cond.before_iff.mp w_cs)) (w_0 hw) (w_6 hw)
  by_cases hsplit : (i2 &&& 3) = 2
  · obtain ⟨n, o, h1, h2, h3, _, L, rfl, ⟨N, rfl⟩, hq⟩ := (R_law2 hw S_AD S_HI S_LO S_CS S_SF S_U8 S_UI A_U8 r_SF h_CS hsplit) (Old.start s) (fun _ => ewC hw) tables_1 p e ha hc hk s m _ below hf ((Spec.applies_iff_loose hf).mp happ).1 ⟨rfl, State.Warmed39.refl s, rfl, fun _ => hchv⟩ trivial
    obtain ⟨-, -, hq⟩ := hq.resolve_left (fun q => nomatch q.1)
    refine ⟨n, _, h1, h2, h3, hpost _ _ _ _ _ _ ⟨Cond.after_iff.mpr rfl, Cond.after_iff.mpr (eq_i res_at (Term.int_eval (1)) rfl), trivial⟩ ⟨hq.1, hq.2.1, hq.2.2.1, (hq.2.2.2.sift fun y hy => Or.inr (N y hy)).mono (by decide) (by decide)⟩⟩
  · obtain ⟨n, o, h1, h2, h3, _, L, rfl, ⟨N, rfl⟩, hq⟩ := (R_law hw S_AD S_HI S_LO S_CS S_SF S_U8 S_UI A_U8 r_SF h_CS hsplit) (Old.start s) (fun q => nomatch q) tables_1 p e ha hc hk s m _ below hf ((Spec.applies_iff_loose hf).mp happ).1 ⟨rfl, State.Warmed39.refl s, rfl, fun q => nomatch q⟩ trivial
    obtain ⟨-, hq⟩ := hq.resolve_right (fun q => nomatch q.1)
    refine ⟨n, _, h1, h2, h3, hpost _ _ _ _ _ _ ⟨Cond.after_iff.mpr rfl, Cond.after_iff.mpr (eq_i res_at (Term.int_eval (1)) rfl), trivial⟩ (wide ⟨hq.1, hq.2.1, (hq.2.2.sift fun y hy => Or.inr (N y hy)).mono (by decide) (by decide)⟩)⟩
theorem main_1_1 : Claimed_1_1 := comes_1 fun _ _ _ _ _ _ h hF => ⟨h.1, hF⟩
theorem main_1_2 : Claimed_1_2 := comes_1 fun _ _ _ _ _ _ h hF => ⟨h.2.1, hF⟩
end Jvm.Pilot.@@N@@
namespace Jvm.Pilot.@@N@@
open Jvm Jvm.ClassFile Sem Op Lib Jvm.Free Jvm.Stand Jvm.Pilot.@@N@@.Jvm.D
/-! MADE BY PROGRAM (witnessworld.py) out of the Statement's table words and the real class files: 29 classes; the members and pool entries that the words name. The judged class is class 1, her method 3. -/
namespace start1
open Jvm.ClassFile
def u (s : String) : CpInfo := .utf8 (stringToUtf16 s)
/-- a pool by its gaps: so many unusable entries, then the entry; so many at the end -/
def gap : Nat → List CpInfo → List CpInfo
  | 0, r => r
  | n + 1, r => .unusable :: gap n r
def poolList (es : List (Nat × CpInfo)) (last : Nat) : List CpInfo := es.foldr (fun e r => gap e.1 (e.2 :: r)) (gap last [])
def pool (es : List (Nat × CpInfo)) (last : Nat) : Array CpInfo := ⟨poolList es last⟩
def fileOf (pool : Array CpInfo) (this : Nat) (attrs : Array Attribute := #[]) (ms : Array MethodInfo := #[]) (fl : Nat := 33) (sup : Nat := 0) (ifs : Array Nat := #[]) (fds : Array FieldInfo := #[]) : ClassFile where
  minorVersion := 0
  majorVersion := 65
  constantPool := pool
  accessFlags := fl
  thisClass := this
  superClass := sup
  interfaces := ifs
  fields := fds
  methods := ms
  attributes := attrs
def plain (name : String) (sup : Option ClassId) : Class where
  name := name
  kind := .ordinary
  loader := none
  accessFlags := 33
  super := sup
  interfaces := #[]
  cf := none
  fields := #[]
  methods := #[]
  instanceTypes := #[]
  staticTypes := #[]
  resolved := #[]
  callSites := []
  init := .initialized
  statics := none
  mirror := none

def pool0 : Array CpInfo := pool [(5, u "<init>"), (0, u "()V"), (1, .class_ 10), (1, u "java/lang/Object"), (85, u "clone"), (0, u "()Ljava/lang/Object;")] 26

def k0c0 : Code := { maxStack := 0, maxLocals := 1, code := object_method_1_code, exceptionTable := #[], attributes := #[] }
def k0m0 : Method := { name := "<init>", desc := "()V", sig := { parameters := [], returnType := none }, accessFlags := 1, code := some k0c0 }
def k0m1 : Method := { name := "clone", desc := "()Ljava/lang/Object;", sig := { parameters := [], returnType := some (.object "java/lang/Object") }, accessFlags := 260, code := none }
/-- java/lang/Object -/
def k0 : Class := { plain "java/lang/Object" none with
  accessFlags := 33
  interfaces := #[]
  cf := some (fileOf pool0 8 #[] #[{ accessFlags := 1, nameIndex := 5, descriptorIndex := 6, attributes := #[] }, { accessFlags := 260, nameIndex := 96, descriptorIndex := 97, attributes := #[] }] 33 0 #[] #[])
  fields := #[]
  methods := #[k0m0, k0m1]
  instanceTypes := #[]
  staticTypes := #[]
  resolved := Array.replicate 124 none
  statics := none }

def pool1 : Array CpInfo := pool [(2, .class_ 4), (1, u "java/lang/Object"), (0, u "<init>"), (0, u "()V"), (0, .integer 63488), (0, .integer 55296), (0, .integer 57343), (0, .integer 65536), (0, .integer 1048576), (0, .methodref 13 14), (0, .class_ 15), (0, .nameAndType 16 17), (0, u "com/example/sparsewrite/sparsewrite/cli/Utf8"), (0, u "decodeName"), (0, u "([B)Ljava/lang/String;"), (0, .methodref 19 20), (0, .class_ 21), (0, .nameAndType 22 23), (0, u "java/lang/String"), (0, u "isEmpty"), (0, u "()Z"), (0, .methodref 19 25), (0, .nameAndType 26 27), (0, u "length"), (0, u "()I"), (0, .methodref 19 29), (0, .nameAndType 30 31), (0, u "charAt"), (0, u "(I)C"), (0, .integer 65533), (0, .integer 2147483647), (0, .methodref 35 36), (0, .class_ 37), (0, .nameAndType 38 39), (0, u "com/example/sparsewrite/sparsewrite/cli/Utf8DecodeNamePinLaw"), (0, u "codePoint"), (0, u "(II)I"), (0, .methodref 35 41), (0, .nameAndType 42 43), (0, u "encode"), (0, u "(IIZI)[B"), (0, .integer 56320), (3, u "law"), (0, u "(III)Z")] 4

def k1m0 : Method := { name := "<init>", desc := "()V", sig := { parameters := [], returnType := none }, accessFlags := 2, code := none }
def k1c1 : Code := { maxStack := 3, maxLocals := 3, code := method_2_code, exceptionTable := #[], attributes := #[] }
def k1m1 : Method := { name := "codePoint", desc := "(II)I", sig := { parameters := [.int, .int], returnType := some .int }, accessFlags := 10, code := some k1c1 }
def k1c2 : Code := { maxStack := 4, maxLocals := 9, code := method_3_code, exceptionTable := #[], attributes := #[] }
def k1m2 : Method := { name := "encode", desc := "(IIZI)[B", sig := { parameters := [.int, .int, .boolean, .int], returnType := some (.array .byte) }, accessFlags := 10, code := some k1c2 }
def k1c3 : Code := { maxStack := 4, maxLocals := 13, code := code, exceptionTable := #[], attributes := #[] }
def k1m3 : Method := { name := "law", desc := "(III)Z", sig := { parameters := [.int, .int, .int], returnType := some .boolean }, accessFlags := 9, code := some k1c3 }
/-- com/example/sparsewrite/sparsewrite/cli/Utf8DecodeNamePinLaw -/
def k1 : Class := { plain "com/example/sparsewrite/sparsewrite/cli/Utf8DecodeNamePinLaw" (some 0) with
  accessFlags := 49
  interfaces := #[]
  cf := some (fileOf pool1 35 #[] #[{ accessFlags := 2, nameIndex := 5, descriptorIndex := 6, attributes := #[] }, { accessFlags := 10, nameIndex := 38, descriptorIndex := 39, attributes := #[] }, { accessFlags := 10, nameIndex := 42, descriptorIndex := 43, attributes := #[] }, { accessFlags := 9, nameIndex := 48, descriptorIndex := 49, attributes := #[] }] 49 2 #[] #[])
  fields := #[]
  methods := #[k1m0, k1m1, k1m2, k1m3]
  instanceTypes := #[]
  staticTypes := #[]
  resolved := Array.replicate 54 none
  statics := none }

def pool2 : Array CpInfo := pool [(2, .class_ 4), (1, u "java/lang/Object"), (0, u "<init>"), (0, u "()V"), (0, .fieldref 8 9), (0, .class_ 10), (0, .nameAndType 11 12), (0, u "java/nio/charset/StandardCharsets"), (0, u "UTF_8"), (0, u "Ljava/nio/charset/Charset;"), (24, .class_ 38), (0, u "java/lang/String"), (0, .methodref 37 40), (0, .nameAndType 5 41), (0, u "([BLjava/nio/charset/Charset;)V"), (5, .class_ 48), (0, u "com/example/sparsewrite/sparsewrite/cli/Utf8"), (2, u "([B)Ljava/lang/String;"), (3, u "decodeName")] 4

def k2m0 : Method := { name := "<init>", desc := "()V", sig := { parameters := [], returnType := none }, accessFlags := 2, code := none }
def k2c1 : Code := { maxStack := 4, maxLocals := 1, code := prog_14_method_3_code, exceptionTable := #[], attributes := #[] }
def k2m1 : Method := { name := "decodeName", desc := "([B)Ljava/lang/String;", sig := { parameters := [(.array .byte)], returnType := some (.object "java/lang/String") }, accessFlags := 8, code := some k2c1 }
/-- com/example/sparsewrite/sparsewrite/cli/Utf8 -/
def k2 : Class := { plain "com/example/sparsewrite/sparsewrite/cli/Utf8" (some 0) with
  accessFlags := 48
  interfaces := #[]
  cf := some (fileOf pool2 47 #[] #[{ accessFlags := 2, nameIndex := 5, descriptorIndex := 6, attributes := #[] }, { accessFlags := 8, nameIndex := 55, descriptorIndex := 51, attributes := #[] }] 48 2 #[] #[])
  fields := #[]
  methods := #[k2m0, k2m1]
  instanceTypes := #[]
  staticTypes := #[]
  resolved := Array.replicate 60 none
  statics := none }

def pool3 : Array CpInfo := pool [(1, .class_ 2), (0, u "java/io/Serializable"), (0, .class_ 4), (0, u "java/lang/Object")] 2

/-- java/io/Serializable -/
def k3 : Class := { plain "java/io/Serializable" (some 0) with
  accessFlags := 1537
  interfaces := #[]
  cf := some (fileOf pool3 1 #[] #[] 1537 3 #[] #[])
  fields := #[]
  methods := #[]
  instanceTypes := #[]
  staticTypes := #[]
  resolved := Array.replicate 7 none
  statics := none }

def pool4 : Array CpInfo := pool [(1, .class_ 2), (0, u "java/lang/Comparable"), (0, .class_ 4), (0, u "java/lang/Object")] 7

/-- java/lang/Comparable -/
def k4 : Class := { plain "java/lang/Comparable" (some 0) with
  accessFlags := 1537
  interfaces := #[]
  cf := some (fileOf pool4 1 #[] #[] 1537 3 #[] #[])
  fields := #[]
  methods := #[]
  instanceTypes := #[]
  staticTypes := #[]
  resolved := Array.replicate 12 none
  statics := none }

def pool5 : Array CpInfo := pool [(2, .class_ 4), (1, u "java/lang/CharSequence"), (42, .class_ 48), (0, u "java/lang/CharSequence$1CodePointIterator"), (10, .class_ 60), (0, u "java/lang/CharSequence$1CharIterator"), (5, .class_ 67), (0, u "java/lang/Object")] 63

/-- java/lang/CharSequence -/
def k5 : Class := { plain "java/lang/CharSequence" (some 0) with
  accessFlags := 1537
  interfaces := #[]
  cf := some (fileOf pool5 2 #[.nestMembers #[47, 59]] #[] 1537 66 #[] #[])
  fields := #[]
  methods := #[]
  instanceTypes := #[]
  staticTypes := #[]
  resolved := Array.replicate 131 none
  statics := none }

def pool6 : Array CpInfo := pool [(1, .class_ 2), (0, u "java/lang/constant/Constable"), (0, .class_ 4), (0, u "java/lang/Object")] 6

/-- java/lang/constant/Constable -/
def k6 : Class := { plain "java/lang/constant/Constable" (some 0) with
  accessFlags := 1537
  interfaces := #[]
  cf := some (fileOf pool6 1 #[] #[] 1537 3 #[] #[])
  fields := #[]
  methods := #[]
  instanceTypes := #[]
  staticTypes := #[]
  resolved := Array.replicate 11 none
  statics := none }

def pool7 : Array CpInfo := pool [(1, .class_ 2), (0, u "java/lang/constant/ConstantDesc"), (0, .class_ 4), (0, u "java/lang/Object")] 32

/-- java/lang/constant/ConstantDesc -/
def k7 : Class := { plain "java/lang/constant/ConstantDesc" (some 0) with
  accessFlags := 1537
  interfaces := #[]
  cf := some (fileOf pool7 1 #[] #[] 1537 3 #[] #[])
  fields := #[]
  methods := #[]
  instanceTypes := #[]
  staticTypes := #[]
  resolved := Array.replicate 37 none
  statics := none }

def pool8 : Array CpInfo := pool [(1, .methodref 2 3), (0, .class_ 4), (0, .nameAndType 5 6), (0, u "java/lang/Object"), (0, u "<init>"), (0, u "()V"), (0, .string 8), (0, u ""), (0, .fieldref 10 11), (0, .class_ 12), (0, .nameAndType 13 14), (0, u "java/lang/String"), (0, u "value"), (0, u "[B"), (0, .fieldref 10 16), (0, .nameAndType 17 18), (0, u "coder"), (0, u "B"), (2, u "hash"), (0, u "I"), (2, u "hashIsZero"), (0, u "Z"), (9, u "checkBoundsOffCount"), (0, u "(III)I"), (0, .fieldref 10 39), (0, .nameAndType 40 26), (0, u "COMPACT_STRINGS"), (1, .class_ 44), (1, u "java/lang/StringUTF16"), (9, .methodref 55 56), (0, .class_ 57), (0, .nameAndType 58 59), (0, u "java/util/Arrays"), (0, u "copyOfRange"), (0, u "([BII)[B"), (0, .methodref 42 61), (0, .nameAndType 62 63), (0, u "newBytesFor"), (0, u "(I)[B"), (0, .methodref 42 65), (0, .nameAndType 66 67), (0, u "putChar"), (0, u "([BII)V"), (7, .methodref 10 76), (0, .nameAndType 5 77), (0, u "(Ljava/nio/charset/Charset;[BII)V"), (0, .methodref 79 80), (0, .class_ 81), (0, .nameAndType 82 83), (0, u "java/util/Objects"), (0, u "requireNonNull"), (0, u "(Ljava/lang/Object;)Ljava/lang/Object;"), (0, .class_ 85), (0, u "java/nio/charset/Charset"), (0, .fieldref 87 88), (0, .class_ 89), (0, .nameAndType 90 91), (0, u "sun/nio/cs/UTF_8"), (0, u "INSTANCE"), (0, u "Lsun/nio/cs/UTF_8;"), (0, .methodref 93 94), (0, .class_ 95), (0, .nameAndType 96 97), (0, u "java/lang/StringCoding"), (0, u "countPositives"), (0, u "([BII)I"), (0, .methodref 10 99), (0, .nameAndType 100 101), (0, u "decode2"), (0, u "(II)C"), (0, .methodref 55 103), (0, .nameAndType 104 105), (0, u "copyOf"), (0, u "([BI)[B"), (0, .methodref 107 108), (0, .class_ 109), (0, .nameAndType 110 111), (0, u "java/lang/StringLatin1"), (0, u "inflate"), (0, u "([BI[BII)V"), (0, .methodref 10 113), (0, .nameAndType 114 115), (0, u "decodeUTF8_UTF16"), (0, u "([BII[BIZ)I"), (16, .integer 65533), (9, u "()Z"), (191, u "()I"), (0, .methodref 10 336), (0, .nameAndType 17 337), (0, u "()B"), (25, u "([BI)C"), (1, .class_ 367), (1, u "java/lang/Character"), (1, u "(C)Z"), (13, .integer 4294844288), (0, .integer 3678080), (0, .methodref 10 386), (0, .nameAndType 387 388), (0, u "isNotContinuation"), (0, u "(I)Z"), (2, u "(II)V"), (0, .methodref 10 393), (0, .nameAndType 394 395), (0, u "isMalformed3"), (0, u "(III)Z"), (4, .methodref 10 401), (0, .nameAndType 402 403), (0, u "decode3"), (0, u "(III)C"), (0, .methodref 365 405), (0, .nameAndType 406 369), (0, u "isSurrogate"), (0, .methodref 10 408), (0, .nameAndType 409 410), (0, u "isMalformed3_2"), (0, u "(II)Z"), (0, .methodref 10 412), (0, .nameAndType 413 414), (0, u "decode4"), (0, u "(IIII)I"), (0, .methodref 10 416), (0, .nameAndType 417 395), (0, u "isMalformed4"), (0, .methodref 365 419), (0, .nameAndType 420 388), (0, u "isSupplementaryCodePoint"), (3, .methodref 365 425), (0, .nameAndType 426 427), (0, u "highSurrogate"), (0, u "(I)C"), (0, .methodref 365 429), (0, .nameAndType 430 427), (0, u "lowSurrogate"), (0, .methodref 10 432), (0, .nameAndType 433 410), (0, u "isMalformed4_2"), (58, .methodref 10 493), (0, .nameAndType 494 142), (0, u "isLatin1"), (0, .methodref 107 496), (0, .nameAndType 497 363), (0, u "charAt"), (0, .methodref 42 496), (2, u "checkIndex"), (5, u "length"), (67, .class_ 576), (0, u "java/lang/CharSequence"), (22, u "CASE_INSENSITIVE_ORDER"), (0, u "Ljava/util/Comparator;"), (91, u "isEmpty"), (360, .fieldref 1054 1055), (0, .class_ 1056), (0, .nameAndType 1057 1058), (0, u "jdk/internal/util/Preconditions"), (0, u "SIOOBE_FORMATTER"), (0, u "Ljava/util/function/BiFunction;"), (0, .methodref 1054 1060), (0, .nameAndType 501 1061), (0, u "(IILjava/util/function/BiFunction;)I"), (2, u "(IIILjava/util/function/BiFunction;)I"), (0, .methodref 1054 1066), (0, .nameAndType 1067 1064), (0, u "checkFromIndexSize"), (33, u "serialPersistentFields"), (0, u "[Ljava/io/ObjectStreamField;"), (0, .class_ 1104), (0, u "java/lang/String$CaseInsensitiveComparator"), (1, .class_ 1107), (0, u "java/io/Serializable"), (0, .class_ 1109), (0, u "java/lang/Comparable"), (0, .class_ 1111), (0, u "java/lang/constant/Constable"), (0, .class_ 1113), (0, u "java/lang/constant/ConstantDesc"), (2, u "serialVersionUID"), (0, u "J"), (3, u "REPL"), (0, u "C"), (2, u "LATIN1"), (1, u "UTF16"), (101, u "([BLjava/nio/charset/Charset;)V")] 221

def k8m0 : Method := { name := "<init>", desc := "()V", sig := { parameters := [], returnType := none }, accessFlags := 1, code := none }
def k8c1 : Code := { maxStack := 6, maxLocals := 11, code := jdk_42_method_11_code, exceptionTable := #[{ startPc := 800, endPc := 813, handlerPc := 816, catchType := 202 }], attributes := #[] }
def k8m1 : Method := { name := "<init>", desc := "(Ljava/nio/charset/Charset;[BII)V", sig := { parameters := [(.object "java/nio/charset/Charset"), (.array .byte), .int, .int], returnType := none }, accessFlags := 2, code := some k8c1 }
def k8c2 : Code := { maxStack := 2, maxLocals := 1, code := jdk_42_method_29_code, exceptionTable := #[], attributes := #[] }
def k8m2 : Method := { name := "isNotContinuation", desc := "(I)Z", sig := { parameters := [.int], returnType := some .boolean }, accessFlags := 10, code := some k8c2 }
def k8c3 : Code := { maxStack := 2, maxLocals := 3, code := jdk_42_method_30_code, exceptionTable := #[], attributes := #[] }
def k8m3 : Method := { name := "isMalformed3", desc := "(III)Z", sig := { parameters := [.int, .int, .int], returnType := some .boolean }, accessFlags := 10, code := some k8c3 }
def k8c4 : Code := { maxStack := 2, maxLocals := 2, code := jdk_42_method_31_code, exceptionTable := #[], attributes := #[] }
def k8m4 : Method := { name := "isMalformed3_2", desc := "(II)Z", sig := { parameters := [.int, .int], returnType := some .boolean }, accessFlags := 10, code := some k8c4 }
def k8c5 : Code := { maxStack := 2, maxLocals := 3, code := jdk_42_method_32_code, exceptionTable := #[], attributes := #[] }
def k8m5 : Method := { name := "isMalformed4", desc := "(III)Z", sig := { parameters := [.int, .int, .int], returnType := some .boolean }, accessFlags := 10, code := some k8c5 }
def k8c6 : Code := { maxStack := 2, maxLocals := 2, code := jdk_42_method_33_code, exceptionTable := #[], attributes := #[] }
def k8m6 : Method := { name := "isMalformed4_2", desc := "(II)Z", sig := { parameters := [.int, .int], returnType := some .boolean }, accessFlags := 10, code := some k8c6 }
def k8c7 : Code := { maxStack := 2, maxLocals := 2, code := jdk_42_method_35_code, exceptionTable := #[], attributes := #[] }
def k8m7 : Method := { name := "decode2", desc := "(II)C", sig := { parameters := [.int, .int], returnType := some .char }, accessFlags := 10, code := some k8c7 }
def k8c8 : Code := { maxStack := 3, maxLocals := 3, code := jdk_42_method_36_code, exceptionTable := #[], attributes := #[] }
def k8m8 : Method := { name := "decode3", desc := "(III)C", sig := { parameters := [.int, .int, .int], returnType := some .char }, accessFlags := 10, code := some k8c8 }
def k8c9 : Code := { maxStack := 3, maxLocals := 4, code := jdk_42_method_37_code, exceptionTable := #[], attributes := #[] }
def k8m9 : Method := { name := "decode4", desc := "(IIII)I", sig := { parameters := [.int, .int, .int, .int], returnType := some .int }, accessFlags := 10, code := some k8c9 }
def k8c10 : Code := { maxStack := 4, maxLocals := 11, code := jdk_42_method_38_code, exceptionTable := #[], attributes := #[] }
def k8m10 : Method := { name := "decodeUTF8_UTF16", desc := "([BII[BIZ)I", sig := { parameters := [(.array .byte), .int, .int, (.array .byte), .int, .boolean], returnType := some .int }, accessFlags := 10, code := some k8c10 }
def k8c11 : Code := { maxStack := 5, maxLocals := 3, code := jdk_42_method_49_code, exceptionTable := #[], attributes := #[] }
def k8m11 : Method := { name := "<init>", desc := "([BLjava/nio/charset/Charset;)V", sig := { parameters := [(.array .byte), (.object "java/nio/charset/Charset")], returnType := none }, accessFlags := 1, code := some k8c11 }
def k8c12 : Code := { maxStack := 2, maxLocals := 1, code := jdk_42_method_54_code, exceptionTable := #[], attributes := #[] }
def k8m12 : Method := { name := "length", desc := "()I", sig := { parameters := [], returnType := some .int }, accessFlags := 1, code := some k8c12 }
def k8c13 : Code := { maxStack := 1, maxLocals := 1, code := jdk_42_method_55_code, exceptionTable := #[], attributes := #[] }
def k8m13 : Method := { name := "isEmpty", desc := "()Z", sig := { parameters := [], returnType := some .boolean }, accessFlags := 1, code := some k8c13 }
def k8c14 : Code := { maxStack := 2, maxLocals := 2, code := jdk_42_method_56_code, exceptionTable := #[], attributes := #[] }
def k8m14 : Method := { name := "charAt", desc := "(I)C", sig := { parameters := [.int], returnType := some .char }, accessFlags := 1, code := some k8c14 }
def k8c15 : Code := { maxStack := 1, maxLocals := 1, code := jdk_42_method_152_code, exceptionTable := #[], attributes := #[] }
def k8m15 : Method := { name := "coder", desc := "()B", sig := { parameters := [], returnType := some .byte }, accessFlags := 0, code := some k8c15 }
def k8c16 : Code := { maxStack := 1, maxLocals := 1, code := jdk_42_method_154_code, exceptionTable := #[], attributes := #[] }
def k8m16 : Method := { name := "isLatin1", desc := "()Z", sig := { parameters := [], returnType := some .boolean }, accessFlags := 0, code := some k8c16 }
def k8c17 : Code := { maxStack := 3, maxLocals := 2, code := jdk_42_method_155_code, exceptionTable := #[], attributes := #[] }
def k8m17 : Method := { name := "checkIndex", desc := "(II)V", sig := { parameters := [.int, .int], returnType := none }, accessFlags := 8, code := some k8c17 }
def k8c18 : Code := { maxStack := 4, maxLocals := 3, code := jdk_42_method_157_code, exceptionTable := #[], attributes := #[] }
def k8m18 : Method := { name := "checkBoundsOffCount", desc := "(III)I", sig := { parameters := [.int, .int, .int], returnType := some .int }, accessFlags := 8, code := some k8c18 }
/-- java/lang/String -/
def k8 : Class := { plain "java/lang/String" (some 0) with
  accessFlags := 49
  interfaces := #[3, 4, 5, 6, 7]
  cf := some (fileOf pool8 10 #[.nestMembers #[1103]] #[{ accessFlags := 1, nameIndex := 5, descriptorIndex := 6, attributes := #[] }, { accessFlags := 2, nameIndex := 5, descriptorIndex := 77, attributes := #[] }, { accessFlags := 10, nameIndex := 387, descriptorIndex := 388, attributes := #[] }, { accessFlags := 10, nameIndex := 394, descriptorIndex := 395, attributes := #[] }, { accessFlags := 10, nameIndex := 409, descriptorIndex := 410, attributes := #[] }, { accessFlags := 10, nameIndex := 417, descriptorIndex := 395, attributes := #[] }, { accessFlags := 10, nameIndex := 433, descriptorIndex := 410, attributes := #[] }, { accessFlags := 10, nameIndex := 100, descriptorIndex := 101, attributes := #[] }, { accessFlags := 10, nameIndex := 402, descriptorIndex := 403, attributes := #[] }, { accessFlags := 10, nameIndex := 413, descriptorIndex := 414, attributes := #[] }, { accessFlags := 10, nameIndex := 114, descriptorIndex := 115, attributes := #[] }, { accessFlags := 1, nameIndex := 5, descriptorIndex := 1229, attributes := #[] }, { accessFlags := 1, nameIndex := 507, descriptorIndex := 334, attributes := #[] }, { accessFlags := 1, nameIndex := 692, descriptorIndex := 142, attributes := #[] }, { accessFlags := 1, nameIndex := 497, descriptorIndex := 427, attributes := #[] }, { accessFlags := 0, nameIndex := 17, descriptorIndex := 337, attributes := #[] }, { accessFlags := 0, nameIndex := 494, descriptorIndex := 142, attributes := #[] }, { accessFlags := 8, nameIndex := 501, descriptorIndex := 391, attributes := #[] }, { accessFlags := 8, nameIndex := 36, descriptorIndex := 37, attributes := #[] }] 49 2 #[1106, 1108, 575, 1110, 1112] #[{ accessFlags := 18, nameIndex := 13, descriptorIndex := 14, attributes := #[] }, { accessFlags := 18, nameIndex := 17, descriptorIndex := 18, attributes := #[] }, { accessFlags := 2, nameIndex := 21, descriptorIndex := 22, attributes := #[] }, { accessFlags := 2, nameIndex := 25, descriptorIndex := 26, attributes := #[] }, { accessFlags := 26, nameIndex := 1116, descriptorIndex := 1117, attributes := #[] }, { accessFlags := 24, nameIndex := 40, descriptorIndex := 26, attributes := #[] }, { accessFlags := 26, nameIndex := 1101, descriptorIndex := 1102, attributes := #[] }, { accessFlags := 26, nameIndex := 1121, descriptorIndex := 1122, attributes := #[] }, { accessFlags := 25, nameIndex := 599, descriptorIndex := 600, attributes := #[] }, { accessFlags := 24, nameIndex := 1125, descriptorIndex := 18, attributes := #[] }, { accessFlags := 24, nameIndex := 1127, descriptorIndex := 18, attributes := #[] }])
  fields := #[{ name := "value", type := (.array .byte), accessFlags := 18, slot := 0, constantValue := 0 }, { name := "coder", type := .byte, accessFlags := 18, slot := 1, constantValue := 0 }, { name := "hash", type := .int, accessFlags := 2, slot := 2, constantValue := 0 }, { name := "hashIsZero", type := .boolean, accessFlags := 2, slot := 3, constantValue := 0 }, { name := "serialVersionUID", type := .long, accessFlags := 26, slot := 0, constantValue := 0 }, { name := "COMPACT_STRINGS", type := .boolean, accessFlags := 24, slot := 1, constantValue := 0 }, { name := "serialPersistentFields", type := (.array (.object "java/io/ObjectStreamField")), accessFlags := 26, slot := 2, constantValue := 0 }, { name := "REPL", type := .char, accessFlags := 26, slot := 3, constantValue := 0 }, { name := "CASE_INSENSITIVE_ORDER", type := (.object "java/util/Comparator"), accessFlags := 25, slot := 4, constantValue := 0 }, { name := "LATIN1", type := .byte, accessFlags := 24, slot := 5, constantValue := 0 }, { name := "UTF16", type := .byte, accessFlags := 24, slot := 6, constantValue := 0 }]
  methods := #[k8m0, k8m1, k8m2, k8m3, k8m4, k8m5, k8m6, k8m7, k8m8, k8m9, k8m10, k8m11, k8m12, k8m13, k8m14, k8m15, k8m16, k8m17, k8m18]
  instanceTypes := #[(.array .byte), .byte, .int, .boolean]
  staticTypes := #[.long, .boolean, (.array (.object "java/io/ObjectStreamField")), .char, (.object "java/util/Comparator"), .byte, .byte]
  resolved := Array.replicate 1451 none
  statics := some 0 }

def pool9 : Array CpInfo := pool [(2, .class_ 4), (1, u "java/lang/Object"), (0, u "<init>"), (0, u "()V"), (14, .class_ 23), (1, u "java/nio/charset/StandardCharsets"), (0, u "US_ASCII"), (0, u "Ljava/nio/charset/Charset;"), (7, u "ISO_8859_1"), (7, u "UTF_8"), (5, u "UTF_16BE"), (5, u "UTF_16LE"), (5, u "UTF_16")] 8

def k9m0 : Method := { name := "<init>", desc := "()V", sig := { parameters := [], returnType := none }, accessFlags := 2, code := none }
/-- java/nio/charset/StandardCharsets -/
def k9 : Class := { plain "java/nio/charset/StandardCharsets" (some 0) with
  accessFlags := 49
  interfaces := #[]
  cf := some (fileOf pool9 21 #[] #[{ accessFlags := 2, nameIndex := 5, descriptorIndex := 6, attributes := #[] }] 49 2 #[] #[{ accessFlags := 25, nameIndex := 24, descriptorIndex := 25, attributes := #[] }, { accessFlags := 25, nameIndex := 33, descriptorIndex := 25, attributes := #[] }, { accessFlags := 25, nameIndex := 41, descriptorIndex := 25, attributes := #[] }, { accessFlags := 25, nameIndex := 47, descriptorIndex := 25, attributes := #[] }, { accessFlags := 25, nameIndex := 53, descriptorIndex := 25, attributes := #[] }, { accessFlags := 25, nameIndex := 59, descriptorIndex := 25, attributes := #[] }])
  fields := #[{ name := "US_ASCII", type := (.object "java/nio/charset/Charset"), accessFlags := 25, slot := 0, constantValue := 0 }, { name := "ISO_8859_1", type := (.object "java/nio/charset/Charset"), accessFlags := 25, slot := 1, constantValue := 0 }, { name := "UTF_8", type := (.object "java/nio/charset/Charset"), accessFlags := 25, slot := 2, constantValue := 0 }, { name := "UTF_16BE", type := (.object "java/nio/charset/Charset"), accessFlags := 25, slot := 3, constantValue := 0 }, { name := "UTF_16LE", type := (.object "java/nio/charset/Charset"), accessFlags := 25, slot := 4, constantValue := 0 }, { name := "UTF_16", type := (.object "java/nio/charset/Charset"), accessFlags := 25, slot := 5, constantValue := 0 }]
  methods := #[k9m0]
  instanceTypes := #[]
  staticTypes := #[(.object "java/nio/charset/Charset"), (.object "java/nio/charset/Charset"), (.object "java/nio/charset/Charset"), (.object "java/nio/charset/Charset"), (.object "java/nio/charset/Charset"), (.object "java/nio/charset/Charset")]
  resolved := Array.replicate 68 none
  statics := some 1 }

def pool10 : Array CpInfo := pool [(2, .class_ 4), (1, u "java/lang/Object"), (0, u "<init>"), (0, u "()V"), (35, .class_ 44), (1, u "java/util/Objects"), (0, u "requireNonNull"), (0, u "(Ljava/lang/Object;)Ljava/lang/Object;")] 137

def k10m0 : Method := { name := "<init>", desc := "()V", sig := { parameters := [], returnType := none }, accessFlags := 2, code := none }
def k10c1 : Code := { maxStack := 2, maxLocals := 1, code := jdk_31_method_10_code, exceptionTable := #[], attributes := #[] }
def k10m1 : Method := { name := "requireNonNull", desc := "(Ljava/lang/Object;)Ljava/lang/Object;", sig := { parameters := [(.object "java/lang/Object")], returnType := some (.object "java/lang/Object") }, accessFlags := 9, code := some k10c1 }
/-- java/util/Objects -/
def k10 : Class := { plain "java/util/Objects" (some 0) with
  accessFlags := 49
  interfaces := #[]
  cf := some (fileOf pool10 42 #[] #[{ accessFlags := 2, nameIndex := 5, descriptorIndex := 6, attributes := #[] }, { accessFlags := 9, nameIndex := 45, descriptorIndex := 46, attributes := #[] }] 49 2 #[] #[])
  fields := #[]
  methods := #[k10m0, k10m1]
  instanceTypes := #[]
  staticTypes := #[]
  resolved := Array.replicate 184 none
  statics := none }

def pool11 : Array CpInfo := pool [(18, .class_ 20), (1, u "java/nio/charset/Charset"), (0, u "cache1"), (0, u "[Ljava/lang/Object;"), (2, u "cache2"), (0, .class_ 27), (0, u "java/lang/Object"), (0, .class_ 29), (0, u "java/nio/charset/Charset$1"), (4, .class_ 36), (1, u "java/nio/charset/Charset$ThreadTrackHolder"), (21, .class_ 59), (0, u "java/nio/charset/Charset$2"), (11, .class_ 73), (1, u "java/nio/charset/Charset$ExtendedProviderHolder"), (22, u "standardProvider"), (0, u "Ljava/nio/charset/spi/CharsetProvider;"), (29, u "name"), (7, .class_ 136), (0, u "java/nio/charset/Charset$3"), (5, u "defaultCharset"), (0, u "Ljava/nio/charset/Charset;"), (14, u "zeroAliases"), (0, u "[Ljava/lang/String;"), (29, u "Ljava/lang/String;"), (2, u "aliases"), (2, u "aliasSet"), (0, u "Ljava/util/Set;"), (82, .class_ 280), (0, u "java/lang/Comparable"), (84, .class_ 366), (0, u "java/nio/charset/Charset$ExtendedProviderHolder$1")] 3

/-- java/nio/charset/Charset -/
def k11 : Class := { plain "java/nio/charset/Charset" (some 0) with
  accessFlags := 1057
  interfaces := #[4]
  cf := some (fileOf pool11 18 #[.nestMembers #[71, 365, 34, 135, 58, 28]] #[] 1057 26 #[279] #[{ accessFlags := 26, nameIndex := 96, descriptorIndex := 97, attributes := #[] }, { accessFlags := 26, nameIndex := 158, descriptorIndex := 159, attributes := #[] }, { accessFlags := 74, nameIndex := 21, descriptorIndex := 22, attributes := #[] }, { accessFlags := 74, nameIndex := 25, descriptorIndex := 22, attributes := #[] }, { accessFlags := 10, nameIndex := 142, descriptorIndex := 143, attributes := #[] }, { accessFlags := 18, nameIndex := 127, descriptorIndex := 189, attributes := #[] }, { accessFlags := 18, nameIndex := 192, descriptorIndex := 159, attributes := #[] }, { accessFlags := 2, nameIndex := 195, descriptorIndex := 196, attributes := #[] }])
  fields := #[{ name := "standardProvider", type := (.object "java/nio/charset/spi/CharsetProvider"), accessFlags := 26, slot := 0, constantValue := 0 }, { name := "zeroAliases", type := (.array (.object "java/lang/String")), accessFlags := 26, slot := 1, constantValue := 0 }, { name := "cache1", type := (.array (.object "java/lang/Object")), accessFlags := 74, slot := 2, constantValue := 0 }, { name := "cache2", type := (.array (.object "java/lang/Object")), accessFlags := 74, slot := 3, constantValue := 0 }, { name := "defaultCharset", type := (.object "java/nio/charset/Charset"), accessFlags := 10, slot := 4, constantValue := 0 }, { name := "name", type := (.object "java/lang/String"), accessFlags := 18, slot := 0, constantValue := 0 }, { name := "aliases", type := (.array (.object "java/lang/String")), accessFlags := 18, slot := 1, constantValue := 0 }, { name := "aliasSet", type := (.object "java/util/Set"), accessFlags := 2, slot := 2, constantValue := 0 }]
  methods := #[]
  instanceTypes := #[(.object "java/lang/String"), (.array (.object "java/lang/String")), (.object "java/util/Set")]
  staticTypes := #[(.object "java/nio/charset/spi/CharsetProvider"), (.array (.object "java/lang/String")), (.array (.object "java/lang/Object")), (.array (.object "java/lang/Object")), (.object "java/nio/charset/Charset")]
  resolved := Array.replicate 370 none
  statics := none }

def pool12 : Array CpInfo := pool [(1, .class_ 2), (0, u "sun/nio/cs/HistoricallyNamedCharset"), (0, .class_ 4), (0, u "java/lang/Object")] 4

/-- sun/nio/cs/HistoricallyNamedCharset -/
def k12 : Class := { plain "sun/nio/cs/HistoricallyNamedCharset" (some 0) with
  accessFlags := 1537
  interfaces := #[]
  cf := some (fileOf pool12 1 #[] #[] 1537 3 #[] #[])
  fields := #[]
  methods := #[]
  instanceTypes := #[]
  staticTypes := #[]
  resolved := Array.replicate 9 none
  statics := none }

def pool13 : Array CpInfo := pool [(2, .class_ 4), (1, u "java/nio/charset/Charset"), (130, .class_ 136), (0, u "sun/nio/cs/Unicode"), (0, .class_ 138), (0, u "sun/nio/cs/HistoricallyNamedCharset")] 15

/-- sun/nio/cs/Unicode -/
def k13 : Class := { plain "sun/nio/cs/Unicode" (some 11) with
  accessFlags := 1056
  interfaces := #[12]
  cf := some (fileOf pool13 135 #[] #[] 1056 2 #[137] #[])
  fields := #[]
  methods := #[]
  instanceTypes := #[(.object "java/lang/String"), (.array (.object "java/lang/String")), (.object "java/util/Set")]
  staticTypes := #[]
  resolved := Array.replicate 154 none
  statics := none }

def pool14 : Array CpInfo := pool [(10, .class_ 12), (1, u "sun/nio/cs/Unicode"), (0, u "<init>"), (3, .class_ 18), (0, u "sun/nio/cs/UTF_8$Decoder"), (3, .class_ 23), (0, u "sun/nio/cs/UTF_8$Encoder"), (15, .class_ 40), (0, u "sun/nio/cs/UTF_8"), (2, u "()V"), (2, u "INSTANCE"), (0, u "Lsun/nio/cs/UTF_8;"), (8, u "JLA"), (0, u "Ljdk/internal/access/JavaLangAccess;")] 26

def k14m0 : Method := { name := "<init>", desc := "()V", sig := { parameters := [], returnType := none }, accessFlags := 1, code := none }
/-- sun/nio/cs/UTF_8 -/
def k14 : Class := { plain "sun/nio/cs/UTF_8" (some 13) with
  accessFlags := 49
  interfaces := #[]
  cf := some (fileOf pool14 39 #[.nestMembers #[22, 17]] #[{ accessFlags := 1, nameIndex := 13, descriptorIndex := 43, attributes := #[] }] 49 10 #[] #[{ accessFlags := 25, nameIndex := 46, descriptorIndex := 47, attributes := #[] }, { accessFlags := 26, nameIndex := 56, descriptorIndex := 57, attributes := #[] }])
  fields := #[{ name := "INSTANCE", type := (.object "sun/nio/cs/UTF_8"), accessFlags := 25, slot := 0, constantValue := 0 }, { name := "JLA", type := (.object "jdk/internal/access/JavaLangAccess"), accessFlags := 26, slot := 1, constantValue := 0 }]
  methods := #[k14m0]
  instanceTypes := #[(.object "java/lang/String"), (.array (.object "java/lang/String")), (.object "java/util/Set")]
  staticTypes := #[(.object "sun/nio/cs/UTF_8"), (.object "jdk/internal/access/JavaLangAccess")]
  resolved := Array.replicate 84 none
  statics := some 2 }

def pool15 : Array CpInfo := pool [(2, .class_ 4), (1, u "java/lang/Object"), (0, u "<init>"), (0, u "()V"), (1, .class_ 10), (1, u "java/lang/StringCoding"), (0, u "countPositives"), (0, u "([BII)I")] 36

def k15m0 : Method := { name := "<init>", desc := "()V", sig := { parameters := [], returnType := none }, accessFlags := 2, code := none }
def k15c1 : Code := { maxStack := 2, maxLocals := 5, code := jdk_123_method_3_code, exceptionTable := #[], attributes := #[] }
def k15m1 : Method := { name := "countPositives", desc := "([BII)I", sig := { parameters := [(.array .byte), .int, .int], returnType := some .int }, accessFlags := 9, code := some k15c1 }
/-- java/lang/StringCoding -/
def k15 : Class := { plain "java/lang/StringCoding" (some 0) with
  accessFlags := 32
  interfaces := #[]
  cf := some (fileOf pool15 8 #[] #[{ accessFlags := 2, nameIndex := 5, descriptorIndex := 6, attributes := #[] }, { accessFlags := 9, nameIndex := 11, descriptorIndex := 12, attributes := #[] }] 32 2 #[] #[])
  fields := #[]
  methods := #[k15m0, k15m1]
  instanceTypes := #[]
  staticTypes := #[]
  resolved := Array.replicate 49 none
  statics := none }

def pool16 : Array CpInfo := pool [(2, .class_ 4), (1, u "java/lang/Object"), (0, u "<init>"), (0, u "()V"), (7, .class_ 16), (1, u "java/util/Arrays"), (57, .class_ 76), (1, u "java/util/Arrays$NaturalOrder"), (32, u "()Ljava/lang/Object;"), (3, .class_ 115), (1, u "java/util/Arrays$LegacyMergeSort"), (1, u "Z"), (10, .nameAndType 129 109), (0, u "clone"), (9, u "copyOfRange"), (10, .methodref 151 152), (0, .class_ 153), (0, .nameAndType 154 155), (0, u "java/lang/System"), (0, u "arraycopy"), (0, u "(Ljava/lang/Object;ILjava/lang/Object;II)V"), (146, u "copyOf"), (1, .methodref 305 306), (0, .class_ 307), (0, .nameAndType 308 309), (0, u "java/lang/Math"), (0, u "min"), (0, u "(II)I"), (0, .methodref 311 128), (0, .class_ 312), (0, u "[B"), (29, u "([BII)[B"), (32, .class_ 376), (0, u "java/util/Arrays$ArrayList"), (68, u "$assertionsDisabled"), (269, u "MIN_ARRAY_SORT_GRAN"), (0, u "I"), (2, u "INSERTIONSORT_THRESHOLD"), (149, u "([BI)[B"), (105, .class_ 976), (0, u "java/util/Arrays$ArrayItr")] 52

def k16m0 : Method := { name := "<init>", desc := "()V", sig := { parameters := [], returnType := none }, accessFlags := 2, code := none }
def k16c1 : Code := { maxStack := 6, maxLocals := 3, code := jdk_65_method_121_code, exceptionTable := #[], attributes := #[] }
def k16m1 : Method := { name := "copyOf", desc := "([BI)[B", sig := { parameters := [(.array .byte), .int], returnType := some (.array .byte) }, accessFlags := 9, code := some k16c1 }
def k16c2 : Code := { maxStack := 3, maxLocals := 3, code := jdk_65_method_132_code, exceptionTable := #[], attributes := #[] }
def k16m2 : Method := { name := "copyOfRange", desc := "([BII)[B", sig := { parameters := [(.array .byte), .int, .int], returnType := some (.array .byte) }, accessFlags := 9, code := some k16c2 }
/-- java/util/Arrays -/
def k16 : Class := { plain "java/util/Arrays" (some 0) with
  accessFlags := 49
  interfaces := #[]
  cf := some (fileOf pool16 14 #[.nestMembers #[975, 375, 113, 74]] #[{ accessFlags := 2, nameIndex := 5, descriptorIndex := 6, attributes := #[] }, { accessFlags := 9, nameIndex := 302, descriptorIndex := 869, attributes := #[] }, { accessFlags := 9, nameIndex := 139, descriptorIndex := 342, attributes := #[] }] 49 2 #[] #[{ accessFlags := 26, nameIndex := 715, descriptorIndex := 716, attributes := #[] }, { accessFlags := 26, nameIndex := 719, descriptorIndex := 716, attributes := #[] }, { accessFlags := 4120, nameIndex := 445, descriptorIndex := 117, attributes := #[] }])
  fields := #[{ name := "MIN_ARRAY_SORT_GRAN", type := .int, accessFlags := 26, slot := 0, constantValue := 0 }, { name := "INSERTIONSORT_THRESHOLD", type := .int, accessFlags := 26, slot := 1, constantValue := 0 }, { name := "$assertionsDisabled", type := .boolean, accessFlags := 4120, slot := 2, constantValue := 0 }]
  methods := #[k16m0, k16m1, k16m2]
  instanceTypes := #[]
  staticTypes := #[.int, .int, .boolean]
  resolved := Array.replicate 1029 none
  statics := none }

def pool17 : Array CpInfo := pool [(1, .class_ 2), (0, u "java/lang/Cloneable"), (0, .class_ 4), (0, u "java/lang/Object")] 2

/-- java/lang/Cloneable -/
def k17 : Class := { plain "java/lang/Cloneable" (some 0) with
  accessFlags := 1537
  interfaces := #[]
  cf := some (fileOf pool17 1 #[] #[] 1537 3 #[] #[])
  fields := #[]
  methods := #[]
  instanceTypes := #[]
  staticTypes := #[]
  resolved := Array.replicate 7 none
  statics := none }

def pool18 : Array CpInfo := pool [(1, .class_ 2), (0, u "java/lang/String"), (1, .class_ 6), (1, u "java/lang/Object"), (0, u "<init>"), (0, u "()V"), (0, .methodref 1 10), (0, .nameAndType 11 12), (0, u "checkIndex"), (0, u "(II)V"), (1, .class_ 16), (1, u "java/lang/StringLatin1"), (0, u "inflate"), (2, .class_ 22), (1, u "java/lang/StringUTF16"), (3, .nameAndType 17 27), (0, u "([BI[BII)V"), (25, u "([BI)C"), (67, u "$assertionsDisabled"), (0, u "Z"), (98, .class_ 223), (1, u "java/lang/StringLatin1$LinesSpliterator"), (16, .methodref 20 26), (11, u "charAt"), (137, .class_ 391), (0, u "java/lang/StringLatin1$CharsSpliterator")] 3

def k18m0 : Method := { name := "<init>", desc := "()V", sig := { parameters := [], returnType := none }, accessFlags := 0, code := none }
def k18c1 : Code := { maxStack := 2, maxLocals := 2, code := jdk_43_method_2_code, exceptionTable := #[], attributes := #[] }
def k18m1 : Method := { name := "charAt", desc := "([BI)C", sig := { parameters := [(.array .byte), .int], returnType := some .char }, accessFlags := 9, code := some k18c1 }
def k18c2 : Code := { maxStack := 5, maxLocals := 5, code := jdk_43_method_50_code, exceptionTable := #[], attributes := #[] }
def k18m2 : Method := { name := "inflate", desc := "([BI[BII)V", sig := { parameters := [(.array .byte), .int, (.array .byte), .int, .int], returnType := none }, accessFlags := 9, code := some k18c2 }
/-- java/lang/StringLatin1 -/
def k18 : Class := { plain "java/lang/StringLatin1" (some 0) with
  accessFlags := 48
  interfaces := #[]
  cf := some (fileOf pool18 14 #[.nestMembers #[390, 221]] #[{ accessFlags := 0, nameIndex := 7, descriptorIndex := 8, attributes := #[] }, { accessFlags := 9, nameIndex := 252, descriptorIndex := 53, attributes := #[] }, { accessFlags := 9, nameIndex := 17, descriptorIndex := 27, attributes := #[] }] 48 4 #[] #[{ accessFlags := 4120, nameIndex := 121, descriptorIndex := 122, attributes := #[] }])
  fields := #[{ name := "$assertionsDisabled", type := .boolean, accessFlags := 4120, slot := 0, constantValue := 0 }]
  methods := #[k18m0, k18m1, k18m2]
  instanceTypes := #[]
  staticTypes := #[.boolean]
  resolved := Array.replicate 395 none
  statics := none }

def pool19 : Array CpInfo := pool [(2, .class_ 4), (1, u "java/lang/Object"), (0, u "<init>"), (0, u "()V"), (17, .class_ 26), (1, u "jdk/internal/util/Preconditions"), (6, u "checkIndex"), (15, u "checkFromIndexSize"), (5, .class_ 56), (0, u "jdk/internal/util/Preconditions$4"), (57, .class_ 115), (0, u "jdk/internal/util/Preconditions$1"), (7, u "SIOOBE_FORMATTER"), (0, u "Ljava/util/function/BiFunction;"), (0, .class_ 126), (0, u "jdk/internal/util/Preconditions$2"), (3, u "AIOOBE_FORMATTER"), (0, .class_ 132), (0, u "jdk/internal/util/Preconditions$3"), (3, u "IOOBE_FORMATTER"), (41, u "(IILjava/util/function/BiFunction;)I"), (4, u "(IIILjava/util/function/BiFunction;)I")] 10

def k19m0 : Method := { name := "<init>", desc := "()V", sig := { parameters := [], returnType := none }, accessFlags := 1, code := none }
def k19c1 : Code := { maxStack := 3, maxLocals := 3, code := jdk_41_method_11_code, exceptionTable := #[], attributes := #[] }
def k19m1 : Method := { name := "checkIndex", desc := "(IILjava/util/function/BiFunction;)I", sig := { parameters := [.int, .int, (.object "java/util/function/BiFunction")], returnType := some .int }, accessFlags := 9, code := some k19c1 }
def k19c2 : Code := { maxStack := 4, maxLocals := 4, code := jdk_41_method_13_code, exceptionTable := #[], attributes := #[] }
def k19m2 : Method := { name := "checkFromIndexSize", desc := "(IIILjava/util/function/BiFunction;)I", sig := { parameters := [.int, .int, .int, (.object "java/util/function/BiFunction")], returnType := some .int }, accessFlags := 9, code := some k19c2 }
/-- jdk/internal/util/Preconditions -/
def k19 : Class := { plain "jdk/internal/util/Preconditions" (some 0) with
  accessFlags := 33
  interfaces := #[]
  cf := some (fileOf pool19 24 #[.nestMembers #[55, 131, 125, 114]] #[{ accessFlags := 1, nameIndex := 5, descriptorIndex := 6, attributes := #[] }, { accessFlags := 9, nameIndex := 33, descriptorIndex := 178, attributes := #[] }, { accessFlags := 9, nameIndex := 49, descriptorIndex := 183, attributes := #[] }] 33 2 #[] #[{ accessFlags := 25, nameIndex := 123, descriptorIndex := 124, attributes := #[] }, { accessFlags := 25, nameIndex := 130, descriptorIndex := 124, attributes := #[] }, { accessFlags := 25, nameIndex := 136, descriptorIndex := 124, attributes := #[] }])
  fields := #[{ name := "SIOOBE_FORMATTER", type := (.object "java/util/function/BiFunction"), accessFlags := 25, slot := 0, constantValue := 0 }, { name := "AIOOBE_FORMATTER", type := (.object "java/util/function/BiFunction"), accessFlags := 25, slot := 1, constantValue := 0 }, { name := "IOOBE_FORMATTER", type := (.object "java/util/function/BiFunction"), accessFlags := 25, slot := 2, constantValue := 0 }]
  methods := #[k19m0, k19m1, k19m2]
  instanceTypes := #[]
  staticTypes := #[(.object "java/util/function/BiFunction"), (.object "java/util/function/BiFunction"), (.object "java/util/function/BiFunction")]
  resolved := Array.replicate 194 none
  statics := some 3 }

def pool20 : Array CpInfo := pool [(3, .class_ 4), (0, u "java/lang/String"), (1, .class_ 8), (1, u "java/lang/Object"), (0, u "<init>"), (0, u "()V"), (0, .methodref 12 13), (0, .class_ 14), (0, .nameAndType 15 16), (0, u "java/lang/StringUTF16"), (0, u "newBytesLength"), (0, u "(I)I"), (3, .integer 1073741823), (23, .fieldref 12 45), (0, .nameAndType 46 47), (0, u "$assertionsDisabled"), (0, u "Z"), (0, .methodref 12 49), (0, .nameAndType 50 51), (0, u "length"), (0, u "([B)I"), (7, .fieldref 12 60), (0, .nameAndType 61 62), (0, u "HI_BYTE_SHIFT"), (0, u "I"), (0, .fieldref 12 64), (0, .nameAndType 65 62), (0, u "LO_BYTE_SHIFT"), (1, .methodref 12 68), (0, .nameAndType 69 70), (0, u "checkIndex"), (0, u "(I[B)V"), (0, .methodref 12 72), (0, .nameAndType 73 74), (0, u "getChar"), (0, u "([BI)C"), (24, u "(II[B)V"), (9, u "newBytesFor"), (0, u "(I)[B"), (2, u "putChar"), (0, u "([BII)V"), (25, u "inflate"), (0, u "([BI[BII)V"), (31, .methodref 12 174), (0, .nameAndType 175 99), (0, u "checkBoundsOffCount"), (105, u "(III)I"), (87, .class_ 371), (1, u "java/lang/StringUTF16$LinesSpliterator"), (20, u "charAt"), (21, .methodref 3 415), (0, .nameAndType 69 416), (0, u "(II)V"), (2, .methodref 3 420), (0, .nameAndType 175 281), (9, u "MAX_LENGTH"), (196, .class_ 628), (0, u "java/lang/StringUTF16$CodePointsSpliterator"), (0, .class_ 630), (0, u "java/lang/StringUTF16$CharsSpliterator")] 4

def k20m0 : Method := { name := "<init>", desc := "()V", sig := { parameters := [], returnType := none }, accessFlags := 0, code := none }
def k20c1 : Code := { maxStack := 1, maxLocals := 1, code := jdk_52_method_2_code, exceptionTable := #[], attributes := #[] }
def k20m1 : Method := { name := "newBytesFor", desc := "(I)[B", sig := { parameters := [.int], returnType := some (.array .byte) }, accessFlags := 9, code := some k20c1 }
def k20c2 : Code := { maxStack := 4, maxLocals := 1, code := jdk_52_method_3_code, exceptionTable := #[], attributes := #[] }
def k20m2 : Method := { name := "newBytesLength", desc := "(I)I", sig := { parameters := [.int], returnType := some .int }, accessFlags := 9, code := some k20c2 }
def k20c3 : Code := { maxStack := 4, maxLocals := 3, code := jdk_52_method_4_code, exceptionTable := #[], attributes := #[] }
def k20m3 : Method := { name := "putChar", desc := "([BII)V", sig := { parameters := [(.array .byte), .int, .int], returnType := none }, accessFlags := 8, code := some k20c3 }
def k20c4 : Code := { maxStack := 3, maxLocals := 2, code := jdk_52_method_5_code, exceptionTable := #[], attributes := #[] }
def k20m4 : Method := { name := "getChar", desc := "([BI)C", sig := { parameters := [(.array .byte), .int], returnType := some .char }, accessFlags := 8, code := some k20c4 }
def k20c5 : Code := { maxStack := 2, maxLocals := 1, code := jdk_52_method_6_code, exceptionTable := #[], attributes := #[] }
def k20m5 : Method := { name := "length", desc := "([B)I", sig := { parameters := [(.array .byte)], returnType := some .int }, accessFlags := 9, code := some k20c5 }
def k20c6 : Code := { maxStack := 2, maxLocals := 2, code := jdk_52_method_83_code, exceptionTable := #[], attributes := #[] }
def k20m6 : Method := { name := "charAt", desc := "([BI)C", sig := { parameters := [(.array .byte), .int], returnType := some .char }, accessFlags := 9, code := some k20c6 }
def k20c7 : Code := { maxStack := 4, maxLocals := 6, code := jdk_52_method_86_code, exceptionTable := #[], attributes := #[] }
def k20m7 : Method := { name := "inflate", desc := "([BI[BII)V", sig := { parameters := [(.array .byte), .int, (.array .byte), .int, .int], returnType := none }, accessFlags := 9, code := some k20c7 }
def k20c8 : Code := { maxStack := 2, maxLocals := 2, code := jdk_52_method_91_code, exceptionTable := #[], attributes := #[] }
def k20m8 : Method := { name := "checkIndex", desc := "(I[B)V", sig := { parameters := [.int, (.array .byte)], returnType := none }, accessFlags := 9, code := some k20c8 }
def k20c9 : Code := { maxStack := 3, maxLocals := 3, code := jdk_52_method_94_code, exceptionTable := #[], attributes := #[] }
def k20m9 : Method := { name := "checkBoundsOffCount", desc := "(II[B)V", sig := { parameters := [.int, .int, (.array .byte)], returnType := none }, accessFlags := 9, code := some k20c9 }
/-- java/lang/StringUTF16 -/
def k20 : Class := { plain "java/lang/StringUTF16" (some 0) with
  accessFlags := 48
  interfaces := #[]
  cf := some (fileOf pool20 12 #[.nestMembers #[627, 629, 369]] #[{ accessFlags := 0, nameIndex := 9, descriptorIndex := 10, attributes := #[] }, { accessFlags := 9, nameIndex := 109, descriptorIndex := 110, attributes := #[] }, { accessFlags := 9, nameIndex := 15, descriptorIndex := 16, attributes := #[] }, { accessFlags := 8, nameIndex := 113, descriptorIndex := 114, attributes := #[] }, { accessFlags := 8, nameIndex := 73, descriptorIndex := 74, attributes := #[] }, { accessFlags := 9, nameIndex := 50, descriptorIndex := 51, attributes := #[] }, { accessFlags := 9, nameIndex := 392, descriptorIndex := 74, attributes := #[] }, { accessFlags := 9, nameIndex := 140, descriptorIndex := 141, attributes := #[] }, { accessFlags := 9, nameIndex := 69, descriptorIndex := 70, attributes := #[] }, { accessFlags := 9, nameIndex := 175, descriptorIndex := 99, attributes := #[] }] 48 6 #[] #[{ accessFlags := 26, nameIndex := 61, descriptorIndex := 62, attributes := #[] }, { accessFlags := 26, nameIndex := 65, descriptorIndex := 62, attributes := #[] }, { accessFlags := 24, nameIndex := 430, descriptorIndex := 62, attributes := #[] }, { accessFlags := 4120, nameIndex := 46, descriptorIndex := 47, attributes := #[] }])
  fields := #[{ name := "HI_BYTE_SHIFT", type := .int, accessFlags := 26, slot := 0, constantValue := 0 }, { name := "LO_BYTE_SHIFT", type := .int, accessFlags := 26, slot := 1, constantValue := 0 }, { name := "MAX_LENGTH", type := .int, accessFlags := 24, slot := 2, constantValue := 0 }, { name := "$assertionsDisabled", type := .boolean, accessFlags := 4120, slot := 3, constantValue := 0 }]
  methods := #[k20m0, k20m1, k20m2, k20m3, k20m4, k20m5, k20m6, k20m7, k20m8, k20m9]
  instanceTypes := #[]
  staticTypes := #[.int, .int, .int, .boolean]
  resolved := Array.replicate 635 none
  statics := some 4 }

def pool21 : Array CpInfo := pool [(1, .class_ 2), (0, u "java/lang/Character"), (18, u "value"), (0, u "C"), (19, .class_ 44), (1, u "java/lang/Object"), (3, .class_ 50), (1, u "java/lang/Character$CharacterCache"), (22, .integer 65536), (0, .integer 1114112), (0, .integer 55296), (0, .integer 56320), (0, .integer 57344), (3, u "(C)Z"), (9, u "(I)C"), (18, .integer 55232), (3, u "(I)Z"), (20, u "lowSurrogate"), (2, u "highSurrogate"), (145, u "$assertionsDisabled"), (0, u "Z"), (21, .class_ 309), (1, u "java/lang/Character$UnicodeBlock"), (73, u "TYPE"), (0, u "Ljava/lang/Class;"), (0, .class_ 386), (0, u "java/io/Serializable"), (0, .class_ 388), (0, u "java/lang/Comparable"), (0, .class_ 390), (0, u "java/lang/constant/Constable"), (0, u "MIN_RADIX"), (0, u "I"), (2, u "MAX_RADIX"), (1, u "MIN_VALUE"), (1, u "MAX_VALUE"), (3, u "UNASSIGNED"), (0, u "B"), (0, u "UPPERCASE_LETTER"), (1, u "LOWERCASE_LETTER"), (0, u "TITLECASE_LETTER"), (1, u "MODIFIER_LETTER"), (1, u "OTHER_LETTER"), (1, u "NON_SPACING_MARK"), (1, u "ENCLOSING_MARK"), (1, u "COMBINING_SPACING_MARK"), (1, u "DECIMAL_DIGIT_NUMBER"), (1, u "LETTER_NUMBER"), (1, u "OTHER_NUMBER"), (1, u "SPACE_SEPARATOR"), (1, u "LINE_SEPARATOR"), (1, u "PARAGRAPH_SEPARATOR"), (1, u "CONTROL"), (1, u "FORMAT"), (1, u "PRIVATE_USE"), (1, u "SURROGATE"), (1, u "DASH_PUNCTUATION"), (1, u "START_PUNCTUATION"), (1, u "END_PUNCTUATION"), (1, u "CONNECTOR_PUNCTUATION"), (1, u "OTHER_PUNCTUATION"), (1, u "MATH_SYMBOL"), (1, u "CURRENCY_SYMBOL"), (1, u "MODIFIER_SYMBOL"), (1, u "OTHER_SYMBOL"), (1, u "INITIAL_QUOTE_PUNCTUATION"), (1, u "FINAL_QUOTE_PUNCTUATION"), (1, u "ERROR"), (1, u "DIRECTIONALITY_UNDEFINED"), (0, u "DIRECTIONALITY_LEFT_TO_RIGHT"), (0, u "DIRECTIONALITY_RIGHT_TO_LEFT"), (0, u "DIRECTIONALITY_RIGHT_TO_LEFT_ARABIC"), (0, u "DIRECTIONALITY_EUROPEAN_NUMBER"), (0, u "DIRECTIONALITY_EUROPEAN_NUMBER_SEPARATOR"), (0, u "DIRECTIONALITY_EUROPEAN_NUMBER_TERMINATOR"), (0, u "DIRECTIONALITY_ARABIC_NUMBER"), (0, u "DIRECTIONALITY_COMMON_NUMBER_SEPARATOR"), (0, u "DIRECTIONALITY_NONSPACING_MARK"), (0, u "DIRECTIONALITY_BOUNDARY_NEUTRAL"), (0, u "DIRECTIONALITY_PARAGRAPH_SEPARATOR"), (0, u "DIRECTIONALITY_SEGMENT_SEPARATOR"), (0, u "DIRECTIONALITY_WHITESPACE"), (0, u "DIRECTIONALITY_OTHER_NEUTRALS"), (0, u "DIRECTIONALITY_LEFT_TO_RIGHT_EMBEDDING"), (0, u "DIRECTIONALITY_LEFT_TO_RIGHT_OVERRIDE"), (0, u "DIRECTIONALITY_RIGHT_TO_LEFT_EMBEDDING"), (0, u "DIRECTIONALITY_RIGHT_TO_LEFT_OVERRIDE"), (1, u "DIRECTIONALITY_POP_DIRECTIONAL_FORMAT"), (0, u "DIRECTIONALITY_LEFT_TO_RIGHT_ISOLATE"), (0, u "DIRECTIONALITY_RIGHT_TO_LEFT_ISOLATE"), (0, u "DIRECTIONALITY_FIRST_STRONG_ISOLATE"), (0, u "DIRECTIONALITY_POP_DIRECTIONAL_ISOLATE"), (0, u "MIN_HIGH_SURROGATE"), (0, u "MAX_HIGH_SURROGATE"), (1, u "MIN_LOW_SURROGATE"), (0, u "MAX_LOW_SURROGATE"), (1, u "MIN_SURROGATE"), (0, u "MAX_SURROGATE"), (0, u "MIN_SUPPLEMENTARY_CODE_POINT"), (0, u "MIN_CODE_POINT"), (0, u "MAX_CODE_POINT"), (1, u "serialVersionUID"), (0, u "J"), (2, u "SIZE"), (0, u "BYTES"), (22, u "isSupplementaryCodePoint"), (1, u "isSurrogate"), (63, .class_ 596), (0, u "java/lang/Character$UnicodeScript"), (0, .class_ 598), (0, u "java/lang/Character$Subset")] 5

def k21c0 : Code := { maxStack := 2, maxLocals := 1, code := jdk_89_method_13_code, exceptionTable := #[], attributes := #[] }
def k21m0 : Method := { name := "isSupplementaryCodePoint", desc := "(I)Z", sig := { parameters := [.int], returnType := some .boolean }, accessFlags := 9, code := some k21c0 }
def k21c1 : Code := { maxStack := 2, maxLocals := 1, code := jdk_89_method_16_code, exceptionTable := #[], attributes := #[] }
def k21m1 : Method := { name := "isSurrogate", desc := "(C)Z", sig := { parameters := [.char], returnType := some .boolean }, accessFlags := 9, code := some k21c1 }
def k21c2 : Code := { maxStack := 2, maxLocals := 1, code := jdk_89_method_28_code, exceptionTable := #[], attributes := #[] }
def k21m2 : Method := { name := "highSurrogate", desc := "(I)C", sig := { parameters := [.int], returnType := some .char }, accessFlags := 9, code := some k21c2 }
def k21c3 : Code := { maxStack := 2, maxLocals := 1, code := jdk_89_method_29_code, exceptionTable := #[], attributes := #[] }
def k21m3 : Method := { name := "lowSurrogate", desc := "(I)C", sig := { parameters := [.int], returnType := some .char }, accessFlags := 9, code := some k21c3 }
/-- java/lang/Character -/
def k21 : Class := { plain "java/lang/Character" (some 0) with
  accessFlags := 49
  interfaces := #[3, 4, 6]
  cf := some (fileOf pool21 1 #[.nestMembers #[48, 595, 307, 597]] #[{ accessFlags := 9, nameIndex := 529, descriptorIndex := 114, attributes := #[] }, { accessFlags := 9, nameIndex := 531, descriptorIndex := 81, attributes := #[] }, { accessFlags := 9, nameIndex := 138, descriptorIndex := 91, attributes := #[] }, { accessFlags := 9, nameIndex := 135, descriptorIndex := 91, attributes := #[] }] 49 42 #[385, 387, 389] #[{ accessFlags := 25, nameIndex := 391, descriptorIndex := 392, attributes := #[] }, { accessFlags := 25, nameIndex := 395, descriptorIndex := 392, attributes := #[] }, { accessFlags := 25, nameIndex := 397, descriptorIndex := 22, attributes := #[] }, { accessFlags := 25, nameIndex := 399, descriptorIndex := 22, attributes := #[] }, { accessFlags := 25, nameIndex := 383, descriptorIndex := 384, attributes := #[] }, { accessFlags := 25, nameIndex := 403, descriptorIndex := 404, attributes := #[] }, { accessFlags := 25, nameIndex := 405, descriptorIndex := 404, attributes := #[] }, { accessFlags := 25, nameIndex := 407, descriptorIndex := 404, attributes := #[] }, { accessFlags := 25, nameIndex := 408, descriptorIndex := 404, attributes := #[] }, { accessFlags := 25, nameIndex := 410, descriptorIndex := 404, attributes := #[] }, { accessFlags := 25, nameIndex := 412, descriptorIndex := 404, attributes := #[] }, { accessFlags := 25, nameIndex := 414, descriptorIndex := 404, attributes := #[] }, { accessFlags := 25, nameIndex := 416, descriptorIndex := 404, attributes := #[] }, { accessFlags := 25, nameIndex := 418, descriptorIndex := 404, attributes := #[] }, { accessFlags := 25, nameIndex := 420, descriptorIndex := 404, attributes := #[] }, { accessFlags := 25, nameIndex := 422, descriptorIndex := 404, attributes := #[] }, { accessFlags := 25, nameIndex := 424, descriptorIndex := 404, attributes := #[] }, { accessFlags := 25, nameIndex := 426, descriptorIndex := 404, attributes := #[] }, { accessFlags := 25, nameIndex := 428, descriptorIndex := 404, attributes := #[] }, { accessFlags := 25, nameIndex := 430, descriptorIndex := 404, attributes := #[] }, { accessFlags := 25, nameIndex := 432, descriptorIndex := 404, attributes := #[] }, { accessFlags := 25, nameIndex := 434, descriptorIndex := 404, attributes := #[] }, { accessFlags := 25, nameIndex := 436, descriptorIndex := 404, attributes := #[] }, { accessFlags := 25, nameIndex := 438, descriptorIndex := 404, attributes := #[] }, { accessFlags := 25, nameIndex := 440, descriptorIndex := 404, attributes := #[] }, { accessFlags := 25, nameIndex := 442, descriptorIndex := 404, attributes := #[] }, { accessFlags := 25, nameIndex := 444, descriptorIndex := 404, attributes := #[] }, { accessFlags := 25, nameIndex := 446, descriptorIndex := 404, attributes := #[] }, { accessFlags := 25, nameIndex := 448, descriptorIndex := 404, attributes := #[] }, { accessFlags := 25, nameIndex := 450, descriptorIndex := 404, attributes := #[] }, { accessFlags := 25, nameIndex := 452, descriptorIndex := 404, attributes := #[] }, { accessFlags := 25, nameIndex := 454, descriptorIndex := 404, attributes := #[] }, { accessFlags := 25, nameIndex := 456, descriptorIndex := 404, attributes := #[] }, { accessFlags := 25, nameIndex := 458, descriptorIndex := 404, attributes := #[] }, { accessFlags := 25, nameIndex := 460, descriptorIndex := 404, attributes := #[] }, { accessFlags := 24, nameIndex := 462, descriptorIndex := 392, attributes := #[] }, { accessFlags := 25, nameIndex := 464, descriptorIndex := 404, attributes := #[] }, { accessFlags := 25, nameIndex := 465, descriptorIndex := 404, attributes := #[] }, { accessFlags := 25, nameIndex := 466, descriptorIndex := 404, attributes := #[] }, { accessFlags := 25, nameIndex := 467, descriptorIndex := 404, attributes := #[] }, { accessFlags := 25, nameIndex := 468, descriptorIndex := 404, attributes := #[] }, { accessFlags := 25, nameIndex := 469, descriptorIndex := 404, attributes := #[] }, { accessFlags := 25, nameIndex := 470, descriptorIndex := 404, attributes := #[] }, { accessFlags := 25, nameIndex := 471, descriptorIndex := 404, attributes := #[] }, { accessFlags := 25, nameIndex := 472, descriptorIndex := 404, attributes := #[] }, { accessFlags := 25, nameIndex := 473, descriptorIndex := 404, attributes := #[] }, { accessFlags := 25, nameIndex := 474, descriptorIndex := 404, attributes := #[] }, { accessFlags := 25, nameIndex := 475, descriptorIndex := 404, attributes := #[] }, { accessFlags := 25, nameIndex := 476, descriptorIndex := 404, attributes := #[] }, { accessFlags := 25, nameIndex := 477, descriptorIndex := 404, attributes := #[] }, { accessFlags := 25, nameIndex := 478, descriptorIndex := 404, attributes := #[] }, { accessFlags := 25, nameIndex := 479, descriptorIndex := 404, attributes := #[] }, { accessFlags := 25, nameIndex := 480, descriptorIndex := 404, attributes := #[] }, { accessFlags := 25, nameIndex := 481, descriptorIndex := 404, attributes := #[] }, { accessFlags := 25, nameIndex := 482, descriptorIndex := 404, attributes := #[] }, { accessFlags := 25, nameIndex := 484, descriptorIndex := 404, attributes := #[] }, { accessFlags := 25, nameIndex := 485, descriptorIndex := 404, attributes := #[] }, { accessFlags := 25, nameIndex := 486, descriptorIndex := 404, attributes := #[] }, { accessFlags := 25, nameIndex := 487, descriptorIndex := 404, attributes := #[] }, { accessFlags := 25, nameIndex := 488, descriptorIndex := 404, attributes := #[] }, { accessFlags := 25, nameIndex := 489, descriptorIndex := 22, attributes := #[] }, { accessFlags := 25, nameIndex := 490, descriptorIndex := 22, attributes := #[] }, { accessFlags := 25, nameIndex := 492, descriptorIndex := 22, attributes := #[] }, { accessFlags := 25, nameIndex := 493, descriptorIndex := 22, attributes := #[] }, { accessFlags := 25, nameIndex := 495, descriptorIndex := 22, attributes := #[] }, { accessFlags := 25, nameIndex := 496, descriptorIndex := 22, attributes := #[] }, { accessFlags := 25, nameIndex := 497, descriptorIndex := 392, attributes := #[] }, { accessFlags := 25, nameIndex := 498, descriptorIndex := 392, attributes := #[] }, { accessFlags := 25, nameIndex := 499, descriptorIndex := 392, attributes := #[] }, { accessFlags := 18, nameIndex := 21, descriptorIndex := 22, attributes := #[] }, { accessFlags := 26, nameIndex := 501, descriptorIndex := 502, attributes := #[] }, { accessFlags := 25, nameIndex := 505, descriptorIndex := 392, attributes := #[] }, { accessFlags := 25, nameIndex := 506, descriptorIndex := 392, attributes := #[] }, { accessFlags := 4120, nameIndex := 284, descriptorIndex := 285, attributes := #[] }])
  fields := #[{ name := "MIN_RADIX", type := .int, accessFlags := 25, slot := 0, constantValue := 0 }, { name := "MAX_RADIX", type := .int, accessFlags := 25, slot := 1, constantValue := 0 }, { name := "MIN_VALUE", type := .char, accessFlags := 25, slot := 2, constantValue := 0 }, { name := "MAX_VALUE", type := .char, accessFlags := 25, slot := 3, constantValue := 0 }, { name := "TYPE", type := (.object "java/lang/Class"), accessFlags := 25, slot := 4, constantValue := 0 }, { name := "UNASSIGNED", type := .byte, accessFlags := 25, slot := 5, constantValue := 0 }, { name := "UPPERCASE_LETTER", type := .byte, accessFlags := 25, slot := 6, constantValue := 0 }, { name := "LOWERCASE_LETTER", type := .byte, accessFlags := 25, slot := 7, constantValue := 0 }, { name := "TITLECASE_LETTER", type := .byte, accessFlags := 25, slot := 8, constantValue := 0 }, { name := "MODIFIER_LETTER", type := .byte, accessFlags := 25, slot := 9, constantValue := 0 }, { name := "OTHER_LETTER", type := .byte, accessFlags := 25, slot := 10, constantValue := 0 }, { name := "NON_SPACING_MARK", type := .byte, accessFlags := 25, slot := 11, constantValue := 0 }, { name := "ENCLOSING_MARK", type := .byte, accessFlags := 25, slot := 12, constantValue := 0 }, { name := "COMBINING_SPACING_MARK", type := .byte, accessFlags := 25, slot := 13, constantValue := 0 }, { name := "DECIMAL_DIGIT_NUMBER", type := .byte, accessFlags := 25, slot := 14, constantValue := 0 }, { name := "LETTER_NUMBER", type := .byte, accessFlags := 25, slot := 15, constantValue := 0 }, { name := "OTHER_NUMBER", type := .byte, accessFlags := 25, slot := 16, constantValue := 0 }, { name := "SPACE_SEPARATOR", type := .byte, accessFlags := 25, slot := 17, constantValue := 0 }, { name := "LINE_SEPARATOR", type := .byte, accessFlags := 25, slot := 18, constantValue := 0 }, { name := "PARAGRAPH_SEPARATOR", type := .byte, accessFlags := 25, slot := 19, constantValue := 0 }, { name := "CONTROL", type := .byte, accessFlags := 25, slot := 20, constantValue := 0 }, { name := "FORMAT", type := .byte, accessFlags := 25, slot := 21, constantValue := 0 }, { name := "PRIVATE_USE", type := .byte, accessFlags := 25, slot := 22, constantValue := 0 }, { name := "SURROGATE", type := .byte, accessFlags := 25, slot := 23, constantValue := 0 }, { name := "DASH_PUNCTUATION", type := .byte, accessFlags := 25, slot := 24, constantValue := 0 }, { name := "START_PUNCTUATION", type := .byte, accessFlags := 25, slot := 25, constantValue := 0 }, { name := "END_PUNCTUATION", type := .byte, accessFlags := 25, slot := 26, constantValue := 0 }, { name := "CONNECTOR_PUNCTUATION", type := .byte, accessFlags := 25, slot := 27, constantValue := 0 }, { name := "OTHER_PUNCTUATION", type := .byte, accessFlags := 25, slot := 28, constantValue := 0 }, { name := "MATH_SYMBOL", type := .byte, accessFlags := 25, slot := 29, constantValue := 0 }, { name := "CURRENCY_SYMBOL", type := .byte, accessFlags := 25, slot := 30, constantValue := 0 }, { name := "MODIFIER_SYMBOL", type := .byte, accessFlags := 25, slot := 31, constantValue := 0 }, { name := "OTHER_SYMBOL", type := .byte, accessFlags := 25, slot := 32, constantValue := 0 }, { name := "INITIAL_QUOTE_PUNCTUATION", type := .byte, accessFlags := 25, slot := 33, constantValue := 0 }, { name := "FINAL_QUOTE_PUNCTUATION", type := .byte, accessFlags := 25, slot := 34, constantValue := 0 }, { name := "ERROR", type := .int, accessFlags := 24, slot := 35, constantValue := 0 }, { name := "DIRECTIONALITY_UNDEFINED", type := .byte, accessFlags := 25, slot := 36, constantValue := 0 }, { name := "DIRECTIONALITY_LEFT_TO_RIGHT", type := .byte, accessFlags := 25, slot := 37, constantValue := 0 }, { name := "DIRECTIONALITY_RIGHT_TO_LEFT", type := .byte, accessFlags := 25, slot := 38, constantValue := 0 }, { name := "DIRECTIONALITY_RIGHT_TO_LEFT_ARABIC", type := .byte, accessFlags := 25, slot := 39, constantValue := 0 }, { name := "DIRECTIONALITY_EUROPEAN_NUMBER", type := .byte, accessFlags := 25, slot := 40, constantValue := 0 }, { name := "DIRECTIONALITY_EUROPEAN_NUMBER_SEPARATOR", type := .byte, accessFlags := 25, slot := 41, constantValue := 0 }, { name := "DIRECTIONALITY_EUROPEAN_NUMBER_TERMINATOR", type := .byte, accessFlags := 25, slot := 42, constantValue := 0 }, { name := "DIRECTIONALITY_ARABIC_NUMBER", type := .byte, accessFlags := 25, slot := 43, constantValue := 0 }, { name := "DIRECTIONALITY_COMMON_NUMBER_SEPARATOR", type := .byte, accessFlags := 25, slot := 44, constantValue := 0 }, { name := "DIRECTIONALITY_NONSPACING_MARK", type := .byte, accessFlags := 25, slot := 45, constantValue := 0 }, { name := "DIRECTIONALITY_BOUNDARY_NEUTRAL", type := .byte, accessFlags := 25, slot := 46, constantValue := 0 }, { name := "DIRECTIONALITY_PARAGRAPH_SEPARATOR", type := .byte, accessFlags := 25, slot := 47, constantValue := 0 }, { name := "DIRECTIONALITY_SEGMENT_SEPARATOR", type := .byte, accessFlags := 25, slot := 48, constantValue := 0 }, { name := "DIRECTIONALITY_WHITESPACE", type := .byte, accessFlags := 25, slot := 49, constantValue := 0 }, { name := "DIRECTIONALITY_OTHER_NEUTRALS", type := .byte, accessFlags := 25, slot := 50, constantValue := 0 }, { name := "DIRECTIONALITY_LEFT_TO_RIGHT_EMBEDDING", type := .byte, accessFlags := 25, slot := 51, constantValue := 0 }, { name := "DIRECTIONALITY_LEFT_TO_RIGHT_OVERRIDE", type := .byte, accessFlags := 25, slot := 52, constantValue := 0 }, { name := "DIRECTIONALITY_RIGHT_TO_LEFT_EMBEDDING", type := .byte, accessFlags := 25, slot := 53, constantValue := 0 }, { name := "DIRECTIONALITY_RIGHT_TO_LEFT_OVERRIDE", type := .byte, accessFlags := 25, slot := 54, constantValue := 0 }, { name := "DIRECTIONALITY_POP_DIRECTIONAL_FORMAT", type := .byte, accessFlags := 25, slot := 55, constantValue := 0 }, { name := "DIRECTIONALITY_LEFT_TO_RIGHT_ISOLATE", type := .byte, accessFlags := 25, slot := 56, constantValue := 0 }, { name := "DIRECTIONALITY_RIGHT_TO_LEFT_ISOLATE", type := .byte, accessFlags := 25, slot := 57, constantValue := 0 }, { name := "DIRECTIONALITY_FIRST_STRONG_ISOLATE", type := .byte, accessFlags := 25, slot := 58, constantValue := 0 }, { name := "DIRECTIONALITY_POP_DIRECTIONAL_ISOLATE", type := .byte, accessFlags := 25, slot := 59, constantValue := 0 }, { name := "MIN_HIGH_SURROGATE", type := .char, accessFlags := 25, slot := 60, constantValue := 0 }, { name := "MAX_HIGH_SURROGATE", type := .char, accessFlags := 25, slot := 61, constantValue := 0 }, { name := "MIN_LOW_SURROGATE", type := .char, accessFlags := 25, slot := 62, constantValue := 0 }, { name := "MAX_LOW_SURROGATE", type := .char, accessFlags := 25, slot := 63, constantValue := 0 }, { name := "MIN_SURROGATE", type := .char, accessFlags := 25, slot := 64, constantValue := 0 }, { name := "MAX_SURROGATE", type := .char, accessFlags := 25, slot := 65, constantValue := 0 }, { name := "MIN_SUPPLEMENTARY_CODE_POINT", type := .int, accessFlags := 25, slot := 66, constantValue := 0 }, { name := "MIN_CODE_POINT", type := .int, accessFlags := 25, slot := 67, constantValue := 0 }, { name := "MAX_CODE_POINT", type := .int, accessFlags := 25, slot := 68, constantValue := 0 }, { name := "value", type := .char, accessFlags := 18, slot := 0, constantValue := 0 }, { name := "serialVersionUID", type := .long, accessFlags := 26, slot := 69, constantValue := 0 }, { name := "SIZE", type := .int, accessFlags := 25, slot := 70, constantValue := 0 }, { name := "BYTES", type := .int, accessFlags := 25, slot := 71, constantValue := 0 }, { name := "$assertionsDisabled", type := .boolean, accessFlags := 4120, slot := 72, constantValue := 0 }]
  methods := #[k21m0, k21m1, k21m2, k21m3]
  instanceTypes := #[.char]
  staticTypes := #[.int, .int, .char, .char, (.object "java/lang/Class"), .byte, .byte, .byte, .byte, .byte, .byte, .byte, .byte, .byte, .byte, .byte, .byte, .byte, .byte, .byte, .byte, .byte, .byte, .byte, .byte, .byte, .byte, .byte, .byte, .byte, .byte, .byte, .byte, .byte, .byte, .int, .byte, .byte, .byte, .byte, .byte, .byte, .byte, .byte, .byte, .byte, .byte, .byte, .byte, .byte, .byte, .byte, .byte, .byte, .byte, .byte, .byte, .byte, .byte, .byte, .char, .char, .char, .char, .char, .char, .int, .int, .int, .long, .int, .int, .boolean]
  resolved := Array.replicate 604 none
  statics := none }

def pool22 : Array CpInfo := pool [(1, .class_ 2), (0, u "java/lang/Math"), (1, .class_ 6), (1, u "java/lang/Object"), (0, u "<init>"), (0, u "()V"), (89, .class_ 100), (1, u "java/lang/Math$RandomNumberGeneratorHolder"), (71, u "negativeZeroFloatBits"), (0, u "J"), (2, u "negativeZeroDoubleBits"), (24, u "min"), (43, u "$assertionsDisabled"), (0, u "Z"), (88, u "(II)I"), (2, u "twoToTheDoubleScaleDown"), (0, u "D"), (4, u "twoToTheDoubleScaleUp"), (9, u "E"), (3, u "PI"), (2, u "TAU"), (2, u "DEGREES_TO_RADIANS"), (0, u "RADIANS_TO_DEGREES")] 94

def k22m0 : Method := { name := "<init>", desc := "()V", sig := { parameters := [], returnType := none }, accessFlags := 2, code := none }
def k22c1 : Code := { maxStack := 2, maxLocals := 2, code := jdk_29_method_69_code, exceptionTable := #[], attributes := #[] }
def k22m1 : Method := { name := "min", desc := "(II)I", sig := { parameters := [.int, .int], returnType := some .int }, accessFlags := 9, code := some k22c1 }
/-- java/lang/Math -/
def k22 : Class := { plain "java/lang/Math" (some 0) with
  accessFlags := 49
  interfaces := #[]
  cf := some (fileOf pool22 1 #[.nestMembers #[98]] #[{ accessFlags := 2, nameIndex := 7, descriptorIndex := 8, attributes := #[] }, { accessFlags := 9, nameIndex := 201, descriptorIndex := 335, attributes := #[] }] 49 4 #[] #[{ accessFlags := 25, nameIndex := 354, descriptorIndex := 339, attributes := #[] }, { accessFlags := 25, nameIndex := 358, descriptorIndex := 339, attributes := #[] }, { accessFlags := 25, nameIndex := 361, descriptorIndex := 339, attributes := #[] }, { accessFlags := 26, nameIndex := 364, descriptorIndex := 339, attributes := #[] }, { accessFlags := 26, nameIndex := 365, descriptorIndex := 339, attributes := #[] }, { accessFlags := 26, nameIndex := 172, descriptorIndex := 173, attributes := #[] }, { accessFlags := 26, nameIndex := 176, descriptorIndex := 173, attributes := #[] }, { accessFlags := 8, nameIndex := 344, descriptorIndex := 339, attributes := #[] }, { accessFlags := 8, nameIndex := 338, descriptorIndex := 339, attributes := #[] }, { accessFlags := 4120, nameIndex := 245, descriptorIndex := 246, attributes := #[] }])
  fields := #[{ name := "E", type := .double, accessFlags := 25, slot := 0, constantValue := 0 }, { name := "PI", type := .double, accessFlags := 25, slot := 1, constantValue := 0 }, { name := "TAU", type := .double, accessFlags := 25, slot := 2, constantValue := 0 }, { name := "DEGREES_TO_RADIANS", type := .double, accessFlags := 26, slot := 3, constantValue := 0 }, { name := "RADIANS_TO_DEGREES", type := .double, accessFlags := 26, slot := 4, constantValue := 0 }, { name := "negativeZeroFloatBits", type := .long, accessFlags := 26, slot := 5, constantValue := 0 }, { name := "negativeZeroDoubleBits", type := .long, accessFlags := 26, slot := 6, constantValue := 0 }, { name := "twoToTheDoubleScaleUp", type := .double, accessFlags := 8, slot := 7, constantValue := 0 }, { name := "twoToTheDoubleScaleDown", type := .double, accessFlags := 8, slot := 8, constantValue := 0 }, { name := "$assertionsDisabled", type := .boolean, accessFlags := 4120, slot := 9, constantValue := 0 }]
  methods := #[k22m0, k22m1]
  instanceTypes := #[]
  staticTypes := #[.double, .double, .double, .double, .double, .long, .long, .double, .double, .boolean]
  resolved := Array.replicate 460 none
  statics := none }

def pool23 : Array CpInfo := pool [(2, .class_ 4), (1, u "java/lang/Object"), (0, u "<init>"), (0, u "()V"), (1, .class_ 10), (1, u "java/lang/System"), (0, u "allowSecurityManager"), (0, u "I"), (16, u "cons"), (0, u "Ljava/io/Console;"), (77, .class_ 110), (1, u "java/lang/System$CallersHolder"), (43, u "initialErrStream"), (0, u "Ljava/io/PrintStream;"), (19, u "security"), (0, u "Ljava/lang/SecurityManager;"), (31, .class_ 209), (0, u "java/lang/System$1"), (7, u "props"), (0, u "Ljava/util/Properties;"), (2, u "lineSeparator"), (0, u "Ljava/lang/String;"), (96, .class_ 321), (1, u "java/lang/System$LoggerFinder"), (5, .class_ 328), (0, u "java/lang/System$Logger"), (67, u "err"), (2, u "out"), (91, u "notSupportedJnuEncoding"), (15, u "in"), (17, u "initialIn"), (0, u "Ljava/io/InputStream;"), (35, u "bootLayer"), (0, u "Ljava/lang/ModuleLayer;"), (99, .class_ 664), (0, u "java/lang/System$2"), (9, u "NEVER"), (2, u "MAYBE"), (49, u "arraycopy"), (0, u "(Ljava/lang/Object;ILjava/lang/Object;II)V"), (72, .class_ 802), (0, u "java/lang/System$Logger$Level")] 31

def k23m0 : Method := { name := "<init>", desc := "()V", sig := { parameters := [], returnType := none }, accessFlags := 2, code := none }
def k23m1 : Method := { name := "arraycopy", desc := "(Ljava/lang/Object;ILjava/lang/Object;II)V", sig := { parameters := [(.object "java/lang/Object"), .int, (.object "java/lang/Object"), .int, .int], returnType := none }, accessFlags := 265, code := none }
/-- java/lang/System -/
def k23 : Class := { plain "java/lang/System" (some 0) with
  accessFlags := 49
  interfaces := #[]
  cf := some (fileOf pool23 8 #[.nestMembers #[319, 327, 801, 108, 663, 208]] #[{ accessFlags := 2, nameIndex := 5, descriptorIndex := 6, attributes := #[] }, { accessFlags := 265, nameIndex := 727, descriptorIndex := 728, attributes := #[] }] 49 2 #[] #[{ accessFlags := 25, nameIndex := 507, descriptorIndex := 526, attributes := #[] }, { accessFlags := 25, nameIndex := 399, descriptorIndex := 155, attributes := #[] }, { accessFlags := 25, nameIndex := 396, descriptorIndex := 155, attributes := #[] }, { accessFlags := 10, nameIndex := 525, descriptorIndex := 526, attributes := #[] }, { accessFlags := 26, nameIndex := 674, descriptorIndex := 12, attributes := #[] }, { accessFlags := 26, nameIndex := 677, descriptorIndex := 12, attributes := #[] }, { accessFlags := 10, nameIndex := 11, descriptorIndex := 12, attributes := #[] }, { accessFlags := 74, nameIndex := 175, descriptorIndex := 176, attributes := #[] }, { accessFlags := 10, nameIndex := 491, descriptorIndex := 222, attributes := #[] }, { accessFlags := 74, nameIndex := 29, descriptorIndex := 30, attributes := #[] }, { accessFlags := 74, nameIndex := 154, descriptorIndex := 155, attributes := #[] }, { accessFlags := 10, nameIndex := 217, descriptorIndex := 218, attributes := #[] }, { accessFlags := 10, nameIndex := 221, descriptorIndex := 222, attributes := #[] }, { accessFlags := 8, nameIndex := 562, descriptorIndex := 563, attributes := #[] }])
  fields := #[{ name := "in", type := (.object "java/io/InputStream"), accessFlags := 25, slot := 0, constantValue := 0 }, { name := "out", type := (.object "java/io/PrintStream"), accessFlags := 25, slot := 1, constantValue := 0 }, { name := "err", type := (.object "java/io/PrintStream"), accessFlags := 25, slot := 2, constantValue := 0 }, { name := "initialIn", type := (.object "java/io/InputStream"), accessFlags := 10, slot := 3, constantValue := 0 }, { name := "NEVER", type := .int, accessFlags := 26, slot := 4, constantValue := 0 }, { name := "MAYBE", type := .int, accessFlags := 26, slot := 5, constantValue := 0 }, { name := "allowSecurityManager", type := .int, accessFlags := 10, slot := 6, constantValue := 0 }, { name := "security", type := (.object "java/lang/SecurityManager"), accessFlags := 74, slot := 7, constantValue := 0 }, { name := "notSupportedJnuEncoding", type := (.object "java/lang/String"), accessFlags := 10, slot := 8, constantValue := 0 }, { name := "cons", type := (.object "java/io/Console"), accessFlags := 74, slot := 9, constantValue := 0 }, { name := "initialErrStream", type := (.object "java/io/PrintStream"), accessFlags := 74, slot := 10, constantValue := 0 }, { name := "props", type := (.object "java/util/Properties"), accessFlags := 10, slot := 11, constantValue := 0 }, { name := "lineSeparator", type := (.object "java/lang/String"), accessFlags := 10, slot := 12, constantValue := 0 }, { name := "bootLayer", type := (.object "java/lang/ModuleLayer"), accessFlags := 8, slot := 13, constantValue := 0 }]
  methods := #[k23m0, k23m1]
  instanceTypes := #[]
  staticTypes := #[(.object "java/io/InputStream"), (.object "java/io/PrintStream"), (.object "java/io/PrintStream"), (.object "java/io/InputStream"), .int, .int, .int, (.object "java/lang/SecurityManager"), (.object "java/lang/String"), (.object "java/io/Console"), (.object "java/io/PrintStream"), (.object "java/util/Properties"), (.object "java/lang/String"), (.object "java/lang/ModuleLayer")]
  resolved := Array.replicate 834 none
  statics := none }

def pool24 : Array CpInfo := pool [(9, u "<init>"), (6, .class_ 18), (1, u "java/lang/Object"), (0, u "()V"), (1, .class_ 23), (1, u "jdk/internal/util/ArraysSupport"), (0, u "LOG2_ARRAY_LONG_INDEX_SCALE"), (0, u "I"), (2, u "U"), (0, u "Ljdk/internal/misc/Unsafe;"), (8, u "BIG_ENDIAN"), (0, u "Z"), (8, u "LOG2_BYTE_BIT_SIZE"), (4, u "LOG2_ARRAY_INT_INDEX_SCALE"), (54, u "JLA"), (0, u "Ljdk/internal/access/JavaLangAccess;"), (11, u "LOG2_ARRAY_BOOLEAN_INDEX_SCALE"), (9, u "LOG2_ARRAY_BYTE_INDEX_SCALE"), (5, u "LOG2_ARRAY_CHAR_INDEX_SCALE"), (5, u "LOG2_ARRAY_SHORT_INDEX_SCALE"), (18, u "LOG2_ARRAY_FLOAT_INDEX_SCALE"), (24, u "LOG2_ARRAY_DOUBLE_INDEX_SCALE"), (89, u "T_BOOLEAN"), (2, u "T_CHAR"), (1, u "T_FLOAT"), (1, u "T_DOUBLE"), (1, u "T_BYTE"), (1, u "T_SHORT"), (1, u "T_INT"), (1, u "T_LONG"), (1, u "SOFT_MAX_ARRAY_LENGTH")] 83

def k24m0 : Method := { name := "<init>", desc := "()V", sig := { parameters := [], returnType := none }, accessFlags := 2, code := none }
/-- jdk/internal/util/ArraysSupport -/
def k24 : Class := { plain "jdk/internal/util/ArraysSupport" (some 0) with
  accessFlags := 33
  interfaces := #[]
  cf := some (fileOf pool24 21 #[] #[{ accessFlags := 2, nameIndex := 9, descriptorIndex := 19, attributes := #[] }] 33 16 #[] #[{ accessFlags := 24, nameIndex := 28, descriptorIndex := 29, attributes := #[] }, { accessFlags := 26, nameIndex := 38, descriptorIndex := 39, attributes := #[] }, { accessFlags := 25, nameIndex := 121, descriptorIndex := 25, attributes := #[] }, { accessFlags := 25, nameIndex := 131, descriptorIndex := 25, attributes := #[] }, { accessFlags := 25, nameIndex := 137, descriptorIndex := 25, attributes := #[] }, { accessFlags := 25, nameIndex := 143, descriptorIndex := 25, attributes := #[] }, { accessFlags := 25, nameIndex := 53, descriptorIndex := 25, attributes := #[] }, { accessFlags := 25, nameIndex := 24, descriptorIndex := 25, attributes := #[] }, { accessFlags := 25, nameIndex := 162, descriptorIndex := 25, attributes := #[] }, { accessFlags := 25, nameIndex := 187, descriptorIndex := 25, attributes := #[] }, { accessFlags := 26, nameIndex := 48, descriptorIndex := 25, attributes := #[] }, { accessFlags := 25, nameIndex := 277, descriptorIndex := 25, attributes := #[] }, { accessFlags := 25, nameIndex := 280, descriptorIndex := 25, attributes := #[] }, { accessFlags := 25, nameIndex := 282, descriptorIndex := 25, attributes := #[] }, { accessFlags := 25, nameIndex := 284, descriptorIndex := 25, attributes := #[] }, { accessFlags := 25, nameIndex := 286, descriptorIndex := 25, attributes := #[] }, { accessFlags := 25, nameIndex := 288, descriptorIndex := 25, attributes := #[] }, { accessFlags := 25, nameIndex := 290, descriptorIndex := 25, attributes := #[] }, { accessFlags := 25, nameIndex := 292, descriptorIndex := 25, attributes := #[] }, { accessFlags := 26, nameIndex := 108, descriptorIndex := 109, attributes := #[] }, { accessFlags := 25, nameIndex := 294, descriptorIndex := 25, attributes := #[] }])
  fields := #[{ name := "U", type := (.object "jdk/internal/misc/Unsafe"), accessFlags := 24, slot := 0, constantValue := 0 }, { name := "BIG_ENDIAN", type := .boolean, accessFlags := 26, slot := 1, constantValue := 0 }, { name := "LOG2_ARRAY_BOOLEAN_INDEX_SCALE", type := .int, accessFlags := 25, slot := 2, constantValue := 0 }, { name := "LOG2_ARRAY_BYTE_INDEX_SCALE", type := .int, accessFlags := 25, slot := 3, constantValue := 0 }, { name := "LOG2_ARRAY_CHAR_INDEX_SCALE", type := .int, accessFlags := 25, slot := 4, constantValue := 0 }, { name := "LOG2_ARRAY_SHORT_INDEX_SCALE", type := .int, accessFlags := 25, slot := 5, constantValue := 0 }, { name := "LOG2_ARRAY_INT_INDEX_SCALE", type := .int, accessFlags := 25, slot := 6, constantValue := 0 }, { name := "LOG2_ARRAY_LONG_INDEX_SCALE", type := .int, accessFlags := 25, slot := 7, constantValue := 0 }, { name := "LOG2_ARRAY_FLOAT_INDEX_SCALE", type := .int, accessFlags := 25, slot := 8, constantValue := 0 }, { name := "LOG2_ARRAY_DOUBLE_INDEX_SCALE", type := .int, accessFlags := 25, slot := 9, constantValue := 0 }, { name := "LOG2_BYTE_BIT_SIZE", type := .int, accessFlags := 26, slot := 10, constantValue := 0 }, { name := "T_BOOLEAN", type := .int, accessFlags := 25, slot := 11, constantValue := 0 }, { name := "T_CHAR", type := .int, accessFlags := 25, slot := 12, constantValue := 0 }, { name := "T_FLOAT", type := .int, accessFlags := 25, slot := 13, constantValue := 0 }, { name := "T_DOUBLE", type := .int, accessFlags := 25, slot := 14, constantValue := 0 }, { name := "T_BYTE", type := .int, accessFlags := 25, slot := 15, constantValue := 0 }, { name := "T_SHORT", type := .int, accessFlags := 25, slot := 16, constantValue := 0 }, { name := "T_INT", type := .int, accessFlags := 25, slot := 17, constantValue := 0 }, { name := "T_LONG", type := .int, accessFlags := 25, slot := 18, constantValue := 0 }, { name := "JLA", type := (.object "jdk/internal/access/JavaLangAccess"), accessFlags := 26, slot := 19, constantValue := 0 }, { name := "SOFT_MAX_ARRAY_LENGTH", type := .int, accessFlags := 25, slot := 20, constantValue := 0 }]
  methods := #[k24m0]
  instanceTypes := #[]
  staticTypes := #[(.object "jdk/internal/misc/Unsafe"), .boolean, .int, .int, .int, .int, .int, .int, .int, .int, .int, .int, .int, .int, .int, .int, .int, .int, .int, (.object "jdk/internal/access/JavaLangAccess"), .int]
  resolved := Array.replicate 378 none
  statics := none }

/-- the primitive byte -/
def k25 : Class := { plain "byte" none with kind := .primitive 'B', accessFlags := 0x411 }
/-- [B -/
def k26 : Class := { plain "[B" (some 0) with kind := .array 25 .byte, interfaces := #[17, 3], accessFlags := 1041 }

/-- the primitive int -/
def k27 : Class := { plain "int" none with kind := .primitive 'I', accessFlags := 0x411 }
/-- [I -/
def k28 : Class := { plain "[I" (some 0) with kind := .array 27 .int, interfaces := #[17, 3], accessFlags := 1041 }

def heap : Heap := #[{ cls := 8, slots := #[.long 0, .int 1, .null, .int 0, .null, .int 0, .int 0], vm := .statics 8 },
  { cls := 9, slots := #[.null, .null, .ref 5, .null, .null, .null], vm := .statics 9 },
  { cls := 14, slots := #[.ref 5, .null], vm := .statics 14 },
  { cls := 19, slots := #[.null, .null, .null], vm := .statics 19 },
  { cls := 20, slots := #[.int 0, .int 8, .int 0, .int 1], vm := .statics 20 },
  { cls := 14, slots := #[.null, .null, .null], vm := .none }]
def classes : Array Class := #[k0, k1, k2, k3, k4, k5, k6, k7, k8, k9, k10, k11, k12, k13, k14, k15, k16, k17, k18, k19, k20, k21, k22, k23, k24, k25, k26, k27, k28]
def interned : List (Array UInt16 × Addr) := []
def slotsUsed : Nat := 25
def theMethod : MethodId := ⟨1, 3⟩
def args0 : Array Value := #[.int 5, .int 7, .int 1]
def aboutOver (below : List Frame) : State where
  vm := { classes := classes, interned := interned.toArray }
  heap := heap
  slotsUsed := slotsUsed
  threads := #[{ frames := .invoking theMethod args0 :: below }]
def below0 : List Frame := [.native { method := ⟨0, 0⟩, args := #[] }]
def about1 : State := aboutOver below0
def p0 : Program := .bare "" "" ""
def e0 : Env := launch0.env 0 0 0
theorem w_frames : about1.frames = Frame.invoking theMethod args0 :: below0 := rfl
set_option maxRecDepth 65536 in
theorem w_args : argsFit about1.vm theMethod args0 = true := by decide +kernel
set_option maxRecDepth 65536 in
theorem w_heap : heapFits about1 = true := by decide +kernel
set_option maxRecDepth 65536 in
theorem w_runnable : about1.curStatus? = some .runnable := by decide +kernel
set_option maxRecDepth 65536 in
theorem w_alone : about1.alone = true := by decide +kernel
set_option maxRecDepth 65536 in
theorem w_named : about1.methodNamed? x = some theMethod := by decide +kernel
set_option maxRecDepth 65536 in
theorem w_hears : about1.hears theMethod below0 = true := by decide +kernel
set_option maxRecDepth 65536 in
theorem w_ripe : about1.ripe theMethod args0 below0 = true := by decide +kernel
theorem w_running : about1.status = .running := rfl
set_option maxRecDepth 65536 in
theorem w_room : about1.hasRoom e0.platform room_1 = true :=
  launch0.hasRoom_least _ room_1 (by decide +kernel) (by decide +kernel) (by decide +kernel) (by decide +kernel) (by decide +kernel) (by decide +kernel)
theorem allAtoms_all (ts : List Jvm.Cond) (a : Array Jvm.Value) (st : Jvm.State) : (allAtoms ts).before a st = ts.all (fun c => c.before a st) := by
  induction ts with
  | nil => rfl
  | cons c t ih =>
    show (Jvm.Cond.and c (allAtoms t)).before a st = _
    rw [Jvm.Cond.before_and, ih, List.all_cons]
def words1 : List Jvm.Cond := Jvm.Cond.code x code maxLocals ret :: tables_1
/-- a 'code' word, met by the world's own term for the bytes: nothing is compared byte by byte -/
theorem code_word {y : MethodName} {bytes : ByteArray} {mx : Nat} {rt : Option FieldType} {a : Array Value} {s : State} {m : MethodId} {meth : Method} {c : Code} (h1 : s.methodNamed? y = some m) (h2 : s.vm.method? m = some meth) (h3 : meth.code = some c) (h4 : c.code = bytes)
    (h5 : (c.maxLocals == mx && c.exceptionTable.isEmpty && decide (c.maxStack ≤ mostOperands) && decide (meth.sig.returnType = rt) && !meth.locks && decide (parseMethodDescriptor y.desc = some meth.sig)) = true) : (Jvm.Cond.code y bytes mx rt).before a s = true := by
  simp only [Bool.and_eq_true, beq_iff_eq, Bool.not_eq_true', decide_eq_true_eq] at h5
  obtain ⟨⟨⟨⟨⟨g1, g2⟩, g3⟩, g4⟩, g5⟩, g6⟩ := h5
  simp [Cond.before, Cond.holds, Cond.value, h1, h2, h3, h4, g1, g2, g3, g4, g5, g6]
theorem codeWith_word {y : MethodName} {bytes : ByteArray} {mx : Nat} {rt : Option FieldType} {hs : List (Nat × Nat × Nat × Nat)} {a : Array Value} {s : State} {m : MethodId} {meth : Method} {c : Code} (h1 : s.methodNamed? y = some m) (h2 : s.vm.method? m = some meth) (h3 : meth.code = some c) (h4 : c.code = bytes)
    (h5 : (c.maxLocals == mx && decide (c.exceptionTable.toList.map (fun h => (h.startPc, h.endPc, h.handlerPc, h.catchType)) = hs) && decide (c.maxStack ≤ mostOperands) && decide (meth.sig.returnType = rt) && !meth.locks && decide (parseMethodDescriptor y.desc = some meth.sig)) = true) : (Jvm.Cond.codeWith y bytes mx rt hs).before a s = true := by
  simp only [Bool.and_eq_true, beq_iff_eq, Bool.not_eq_true', decide_eq_true_eq] at h5
  obtain ⟨⟨⟨⟨⟨g1, g2⟩, g3⟩, g4⟩, g5⟩, g6⟩ := h5
  simp [Cond.before, Cond.holds, Cond.value, h1, h2, h3, h4, g1, g2, g3, g4, g5, g6]
def isCode : Jvm.Cond → Bool
  | .code _ _ _ _ => true
  | .codeWith _ _ _ _ _ => true
  | _ => false
theorem all_split {L : List Jvm.Cond} {P : Jvm.Cond → Bool} (h1 : L.all (fun c => isCode c || P c) = true) (h2 : ∀ c ∈ L.filter isCode, P c = true) : L.all P = true := by
  refine List.all_eq_true.mpr fun c hc => ?_
  have h := List.all_eq_true.mp h1 c hc
  rcases Bool.eq_false_or_eq_true (isCode c) with hi | hi
  · exact h2 c (List.mem_filter.mpr ⟨hc, hi⟩)
  · simpa [hi] using h
set_option maxRecDepth 65536 in
theorem w_c0 : (Jvm.Cond.code x code maxLocals ret).before args0 about1 = true := code_word (m := ⟨1, 3⟩) (meth := k1m3) (c := k1c3) (by decide +kernel) rfl rfl rfl (by decide +kernel)
set_option maxRecDepth 65536 in
theorem w_c1 : (Jvm.Cond.code ({ cls := "com/example/sparsewrite/sparsewrite/cli/Utf8", name := "decodeName", desc := "([B)Ljava/lang/String;" } : Jvm.MethodName) prog_14_method_3_code (1 : Nat) (Option.some (Jvm.ClassFile.FieldType.object "java/lang/String"))).before args0 about1 = true := code_word (m := ⟨2, 1⟩) (meth := k2m1) (c := k2c1) (by decide +kernel) rfl rfl rfl (by decide +kernel)
set_option maxRecDepth 65536 in
theorem w_c2 : (Jvm.Cond.code ({ cls := "java/lang/String", name := "<init>", desc := "([BLjava/nio/charset/Charset;)V" } : Jvm.MethodName) jdk_42_method_49_code (3 : Nat) (Option.none : Option Jvm.ClassFile.FieldType)).before args0 about1 = true := code_word (m := ⟨8, 11⟩) (meth := k8m11) (c := k8c11) (by decide +kernel) rfl rfl rfl (by decide +kernel)
set_option maxRecDepth 65536 in
theorem w_c3 : (Jvm.Cond.code ({ cls := "java/util/Objects", name := "requireNonNull", desc := "(Ljava/lang/Object;)Ljava/lang/Object;" } : Jvm.MethodName) jdk_31_method_10_code (1 : Nat) (Option.some (Jvm.ClassFile.FieldType.object "java/lang/Object"))).before args0 about1 = true := code_word (m := ⟨10, 1⟩) (meth := k10m1) (c := k10c1) (by decide +kernel) rfl rfl rfl (by decide +kernel)
set_option maxRecDepth 65536 in
theorem w_c4 : (Jvm.Cond.code ({ cls := "java/lang/Object", name := "<init>", desc := "()V" } : Jvm.MethodName) object_method_1_code (1 : Nat) (Option.none : Option Jvm.ClassFile.FieldType)).before args0 about1 = true := code_word (m := ⟨0, 0⟩) (meth := k0m0) (c := k0c0) (by decide +kernel) rfl rfl rfl (by decide +kernel)
set_option maxRecDepth 65536 in
theorem w_c5 : (Jvm.Cond.code ({ cls := "java/lang/String", name := "isEmpty", desc := "()Z" } : Jvm.MethodName) jdk_42_method_55_code (1 : Nat) (Option.some Jvm.ClassFile.FieldType.boolean)).before args0 about1 = true := code_word (m := ⟨8, 13⟩) (meth := k8m13) (c := k8c13) (by decide +kernel) rfl rfl rfl (by decide +kernel)
set_option maxRecDepth 65536 in
theorem w_c6 : (Jvm.Cond.code ({ cls := "com/example/sparsewrite/sparsewrite/cli/Utf8DecodeNamePinLaw", name := "codePoint", desc := "(II)I" } : Jvm.MethodName) method_2_code (3 : Nat) (Option.some Jvm.ClassFile.FieldType.int)).before args0 about1 = true := code_word (m := ⟨1, 1⟩) (meth := k1m1) (c := k1c1) (by decide +kernel) rfl rfl rfl (by decide +kernel)
set_option maxRecDepth 65536 in
theorem w_c7 : (Jvm.Cond.code ({ cls := "com/example/sparsewrite/sparsewrite/cli/Utf8DecodeNamePinLaw", name := "encode", desc := "(IIZI)[B" } : Jvm.MethodName) method_3_code (9 : Nat) (Option.some (Jvm.ClassFile.FieldType.array Jvm.ClassFile.FieldType.byte))).before args0 about1 = true := code_word (m := ⟨1, 2⟩) (meth := k1m2) (c := k1c2) (by decide +kernel) rfl rfl rfl (by decide +kernel)
set_option maxRecDepth 65536 in
theorem w_c8 : (Jvm.Cond.code ({ cls := "java/lang/StringCoding", name := "countPositives", desc := "([BII)I" } : Jvm.MethodName) jdk_123_method_3_code (5 : Nat) (Option.some Jvm.ClassFile.FieldType.int)).before args0 about1 = true := code_word (m := ⟨15, 1⟩) (meth := k15m1) (c := k15c1) (by decide +kernel) rfl rfl rfl (by decide +kernel)
set_option maxRecDepth 65536 in
theorem w_c9 : (Jvm.Cond.code ({ cls := "java/util/Arrays", name := "copyOfRange", desc := "([BII)[B" } : Jvm.MethodName) jdk_65_method_132_code (3 : Nat) (Option.some (Jvm.ClassFile.FieldType.array Jvm.ClassFile.FieldType.byte))).before args0 about1 = true := code_word (m := ⟨16, 2⟩) (meth := k16m2) (c := k16c2) (by decide +kernel) rfl rfl rfl (by decide +kernel)
set_option maxRecDepth 65536 in
theorem w_c10 : (Jvm.Cond.code ({ cls := "java/lang/String", name := "length", desc := "()I" } : Jvm.MethodName) jdk_42_method_54_code (1 : Nat) (Option.some Jvm.ClassFile.FieldType.int)).before args0 about1 = true := code_word (m := ⟨8, 12⟩) (meth := k8m12) (c := k8c12) (by decide +kernel) rfl rfl rfl (by decide +kernel)
set_option maxRecDepth 65536 in
theorem w_c11 : (Jvm.Cond.code ({ cls := "java/lang/String", name := "coder", desc := "()B" } : Jvm.MethodName) jdk_42_method_152_code (1 : Nat) (Option.some Jvm.ClassFile.FieldType.byte)).before args0 about1 = true := code_word (m := ⟨8, 15⟩) (meth := k8m15) (c := k8c15) (by decide +kernel) rfl rfl rfl (by decide +kernel)
set_option maxRecDepth 65536 in
theorem w_c12 : (Jvm.Cond.code ({ cls := "java/lang/String", name := "charAt", desc := "(I)C" } : Jvm.MethodName) jdk_42_method_56_code (2 : Nat) (Option.some Jvm.ClassFile.FieldType.char)).before args0 about1 = true := code_word (m := ⟨8, 14⟩) (meth := k8m14) (c := k8c14) (by decide +kernel) rfl rfl rfl (by decide +kernel)
set_option maxRecDepth 65536 in
theorem w_c13 : (Jvm.Cond.code ({ cls := "java/lang/String", name := "isLatin1", desc := "()Z" } : Jvm.MethodName) jdk_42_method_154_code (1 : Nat) (Option.some Jvm.ClassFile.FieldType.boolean)).before args0 about1 = true := code_word (m := ⟨8, 16⟩) (meth := k8m16) (c := k8c16) (by decide +kernel) rfl rfl rfl (by decide +kernel)
set_option maxRecDepth 65536 in
theorem w_c14 : (Jvm.Cond.code ({ cls := "java/lang/StringLatin1", name := "charAt", desc := "([BI)C" } : Jvm.MethodName) jdk_43_method_2_code (2 : Nat) (Option.some Jvm.ClassFile.FieldType.char)).before args0 about1 = true := code_word (m := ⟨18, 1⟩) (meth := k18m1) (c := k18c1) (by decide +kernel) rfl rfl rfl (by decide +kernel)
set_option maxRecDepth 65536 in
theorem w_c15 : (Jvm.Cond.code ({ cls := "java/lang/String", name := "checkIndex", desc := "(II)V" } : Jvm.MethodName) jdk_42_method_155_code (2 : Nat) (Option.none : Option Jvm.ClassFile.FieldType)).before args0 about1 = true := code_word (m := ⟨8, 17⟩) (meth := k8m17) (c := k8c17) (by decide +kernel) rfl rfl rfl (by decide +kernel)
set_option maxRecDepth 65536 in
theorem w_c16 : (Jvm.Cond.code ({ cls := "jdk/internal/util/Preconditions", name := "checkIndex", desc := "(IILjava/util/function/BiFunction;)I" } : Jvm.MethodName) jdk_41_method_11_code (3 : Nat) (Option.some Jvm.ClassFile.FieldType.int)).before args0 about1 = true := code_word (m := ⟨19, 1⟩) (meth := k19m1) (c := k19c1) (by decide +kernel) rfl rfl rfl (by decide +kernel)
set_option maxRecDepth 65536 in
theorem w_c17 : (Jvm.Cond.code ({ cls := "java/lang/StringUTF16", name := "newBytesFor", desc := "(I)[B" } : Jvm.MethodName) jdk_52_method_2_code (1 : Nat) (Option.some (Jvm.ClassFile.FieldType.array Jvm.ClassFile.FieldType.byte))).before args0 about1 = true := code_word (m := ⟨20, 1⟩) (meth := k20m1) (c := k20c1) (by decide +kernel) rfl rfl rfl (by decide +kernel)
set_option maxRecDepth 65536 in
theorem w_c18 : (Jvm.Cond.code ({ cls := "java/lang/StringUTF16", name := "newBytesLength", desc := "(I)I" } : Jvm.MethodName) jdk_52_method_3_code (1 : Nat) (Option.some Jvm.ClassFile.FieldType.int)).before args0 about1 = true := code_word (m := ⟨20, 2⟩) (meth := k20m2) (c := k20c2) (by decide +kernel) rfl rfl rfl (by decide +kernel)
set_option maxRecDepth 65536 in
theorem w_c19 : (Jvm.Cond.code ({ cls := "java/lang/StringLatin1", name := "inflate", desc := "([BI[BII)V" } : Jvm.MethodName) jdk_43_method_50_code (5 : Nat) (Option.none : Option Jvm.ClassFile.FieldType)).before args0 about1 = true := code_word (m := ⟨18, 2⟩) (meth := k18m2) (c := k18c2) (by decide +kernel) rfl rfl rfl (by decide +kernel)
set_option maxRecDepth 65536 in
theorem w_c20 : (Jvm.Cond.code ({ cls := "java/lang/StringUTF16", name := "inflate", desc := "([BI[BII)V" } : Jvm.MethodName) jdk_52_method_86_code (6 : Nat) (Option.none : Option Jvm.ClassFile.FieldType)).before args0 about1 = true := code_word (m := ⟨20, 7⟩) (meth := k20m7) (c := k20c7) (by decide +kernel) rfl rfl rfl (by decide +kernel)
set_option maxRecDepth 65536 in
theorem w_c21 : (Jvm.Cond.code ({ cls := "java/lang/StringUTF16", name := "checkBoundsOffCount", desc := "(II[B)V" } : Jvm.MethodName) jdk_52_method_94_code (3 : Nat) (Option.none : Option Jvm.ClassFile.FieldType)).before args0 about1 = true := code_word (m := ⟨20, 9⟩) (meth := k20m9) (c := k20c9) (by decide +kernel) rfl rfl rfl (by decide +kernel)
set_option maxRecDepth 65536 in
theorem w_c22 : (Jvm.Cond.code ({ cls := "java/lang/StringUTF16", name := "length", desc := "([B)I" } : Jvm.MethodName) jdk_52_method_6_code (1 : Nat) (Option.some Jvm.ClassFile.FieldType.int)).before args0 about1 = true := code_word (m := ⟨20, 5⟩) (meth := k20m5) (c := k20c5) (by decide +kernel) rfl rfl rfl (by decide +kernel)
set_option maxRecDepth 65536 in
theorem w_c23 : (Jvm.Cond.code ({ cls := "java/lang/String", name := "checkBoundsOffCount", desc := "(III)I" } : Jvm.MethodName) jdk_42_method_157_code (3 : Nat) (Option.some Jvm.ClassFile.FieldType.int)).before args0 about1 = true := code_word (m := ⟨8, 18⟩) (meth := k8m18) (c := k8c18) (by decide +kernel) rfl rfl rfl (by decide +kernel)
set_option maxRecDepth 65536 in
theorem w_c24 : (Jvm.Cond.code ({ cls := "jdk/internal/util/Preconditions", name := "checkFromIndexSize", desc := "(IIILjava/util/function/BiFunction;)I" } : Jvm.MethodName) jdk_41_method_13_code (4 : Nat) (Option.some Jvm.ClassFile.FieldType.int)).before args0 about1 = true := code_word (m := ⟨19, 2⟩) (meth := k19m2) (c := k19c2) (by decide +kernel) rfl rfl rfl (by decide +kernel)
set_option maxRecDepth 65536 in
theorem w_c25 : (Jvm.Cond.code ({ cls := "java/lang/String", name := "decodeUTF8_UTF16", desc := "([BII[BIZ)I" } : Jvm.MethodName) jdk_42_method_38_code (11 : Nat) (Option.some Jvm.ClassFile.FieldType.int)).before args0 about1 = true := code_word (m := ⟨8, 10⟩) (meth := k8m10) (c := k8c10) (by decide +kernel) rfl rfl rfl (by decide +kernel)
set_option maxRecDepth 65536 in
theorem w_c26 : (Jvm.Cond.code ({ cls := "java/lang/String", name := "decode4", desc := "(IIII)I" } : Jvm.MethodName) jdk_42_method_37_code (4 : Nat) (Option.some Jvm.ClassFile.FieldType.int)).before args0 about1 = true := code_word (m := ⟨8, 9⟩) (meth := k8m9) (c := k8c9) (by decide +kernel) rfl rfl rfl (by decide +kernel)
set_option maxRecDepth 65536 in
theorem w_c27 : (Jvm.Cond.code ({ cls := "java/lang/String", name := "isMalformed4", desc := "(III)Z" } : Jvm.MethodName) jdk_42_method_32_code (3 : Nat) (Option.some Jvm.ClassFile.FieldType.boolean)).before args0 about1 = true := code_word (m := ⟨8, 5⟩) (meth := k8m5) (c := k8c5) (by decide +kernel) rfl rfl rfl (by decide +kernel)
set_option maxRecDepth 65536 in
theorem w_c28 : (Jvm.Cond.code ({ cls := "java/lang/Character", name := "isSupplementaryCodePoint", desc := "(I)Z" } : Jvm.MethodName) jdk_89_method_13_code (1 : Nat) (Option.some Jvm.ClassFile.FieldType.boolean)).before args0 about1 = true := code_word (m := ⟨21, 0⟩) (meth := k21m0) (c := k21c0) (by decide +kernel) rfl rfl rfl (by decide +kernel)
set_option maxRecDepth 65536 in
theorem w_c29 : (Jvm.Cond.code ({ cls := "java/lang/Character", name := "highSurrogate", desc := "(I)C" } : Jvm.MethodName) jdk_89_method_28_code (1 : Nat) (Option.some Jvm.ClassFile.FieldType.char)).before args0 about1 = true := code_word (m := ⟨21, 2⟩) (meth := k21m2) (c := k21c2) (by decide +kernel) rfl rfl rfl (by decide +kernel)
set_option maxRecDepth 65536 in
theorem w_c30 : (Jvm.Cond.code ({ cls := "java/lang/StringUTF16", name := "putChar", desc := "([BII)V" } : Jvm.MethodName) jdk_52_method_4_code (3 : Nat) (Option.none : Option Jvm.ClassFile.FieldType)).before args0 about1 = true := code_word (m := ⟨20, 3⟩) (meth := k20m3) (c := k20c3) (by decide +kernel) rfl rfl rfl (by decide +kernel)
set_option maxRecDepth 65536 in
theorem w_c31 : (Jvm.Cond.code ({ cls := "java/lang/Character", name := "lowSurrogate", desc := "(I)C" } : Jvm.MethodName) jdk_89_method_29_code (1 : Nat) (Option.some Jvm.ClassFile.FieldType.char)).before args0 about1 = true := code_word (m := ⟨21, 3⟩) (meth := k21m3) (c := k21c3) (by decide +kernel) rfl rfl rfl (by decide +kernel)
set_option maxRecDepth 65536 in
theorem w_c32 : (Jvm.Cond.code ({ cls := "java/util/Arrays", name := "copyOf", desc := "([BI)[B" } : Jvm.MethodName) jdk_65_method_121_code (3 : Nat) (Option.some (Jvm.ClassFile.FieldType.array Jvm.ClassFile.FieldType.byte))).before args0 about1 = true := code_word (m := ⟨16, 1⟩) (meth := k16m1) (c := k16c1) (by decide +kernel) rfl rfl rfl (by decide +kernel)
set_option maxRecDepth 65536 in
theorem w_c33 : (Jvm.Cond.code ({ cls := "java/lang/Math", name := "min", desc := "(II)I" } : Jvm.MethodName) jdk_29_method_69_code (2 : Nat) (Option.some Jvm.ClassFile.FieldType.int)).before args0 about1 = true := code_word (m := ⟨22, 1⟩) (meth := k22m1) (c := k22c1) (by decide +kernel) rfl rfl rfl (by decide +kernel)
set_option maxRecDepth 65536 in
theorem w_c34 : (Jvm.Cond.code ({ cls := "java/lang/StringUTF16", name := "charAt", desc := "([BI)C" } : Jvm.MethodName) jdk_52_method_83_code (2 : Nat) (Option.some Jvm.ClassFile.FieldType.char)).before args0 about1 = true := code_word (m := ⟨20, 6⟩) (meth := k20m6) (c := k20c6) (by decide +kernel) rfl rfl rfl (by decide +kernel)
set_option maxRecDepth 65536 in
theorem w_c35 : (Jvm.Cond.code ({ cls := "java/lang/StringUTF16", name := "checkIndex", desc := "(I[B)V" } : Jvm.MethodName) jdk_52_method_91_code (2 : Nat) (Option.none : Option Jvm.ClassFile.FieldType)).before args0 about1 = true := code_word (m := ⟨20, 8⟩) (meth := k20m8) (c := k20c8) (by decide +kernel) rfl rfl rfl (by decide +kernel)
set_option maxRecDepth 65536 in
theorem w_c36 : (Jvm.Cond.code ({ cls := "java/lang/StringUTF16", name := "getChar", desc := "([BI)C" } : Jvm.MethodName) jdk_52_method_5_code (2 : Nat) (Option.some Jvm.ClassFile.FieldType.char)).before args0 about1 = true := code_word (m := ⟨20, 4⟩) (meth := k20m4) (c := k20c4) (by decide +kernel) rfl rfl rfl (by decide +kernel)
set_option maxRecDepth 65536 in
theorem w_c37 : (Jvm.Cond.code ({ cls := "java/lang/String", name := "isMalformed4_2", desc := "(II)Z" } : Jvm.MethodName) jdk_42_method_33_code (2 : Nat) (Option.some Jvm.ClassFile.FieldType.boolean)).before args0 about1 = true := code_word (m := ⟨8, 6⟩) (meth := k8m6) (c := k8c6) (by decide +kernel) rfl rfl rfl (by decide +kernel)
set_option maxRecDepth 65536 in
theorem w_c38 : (Jvm.Cond.code ({ cls := "java/lang/String", name := "isMalformed3_2", desc := "(II)Z" } : Jvm.MethodName) jdk_42_method_31_code (2 : Nat) (Option.some Jvm.ClassFile.FieldType.boolean)).before args0 about1 = true := code_word (m := ⟨8, 4⟩) (meth := k8m4) (c := k8c4) (by decide +kernel) rfl rfl rfl (by decide +kernel)
set_option maxRecDepth 65536 in
theorem w_c39 : (Jvm.Cond.code ({ cls := "java/lang/String", name := "isNotContinuation", desc := "(I)Z" } : Jvm.MethodName) jdk_42_method_29_code (1 : Nat) (Option.some Jvm.ClassFile.FieldType.boolean)).before args0 about1 = true := code_word (m := ⟨8, 2⟩) (meth := k8m2) (c := k8c2) (by decide +kernel) rfl rfl rfl (by decide +kernel)
set_option maxRecDepth 65536 in
theorem w_c40 : (Jvm.Cond.code ({ cls := "java/lang/String", name := "decode2", desc := "(II)C" } : Jvm.MethodName) jdk_42_method_35_code (2 : Nat) (Option.some Jvm.ClassFile.FieldType.char)).before args0 about1 = true := code_word (m := ⟨8, 7⟩) (meth := k8m7) (c := k8c7) (by decide +kernel) rfl rfl rfl (by decide +kernel)
set_option maxRecDepth 65536 in
theorem w_c41 : (Jvm.Cond.code ({ cls := "java/lang/String", name := "isMalformed3", desc := "(III)Z" } : Jvm.MethodName) jdk_42_method_30_code (3 : Nat) (Option.some Jvm.ClassFile.FieldType.boolean)).before args0 about1 = true := code_word (m := ⟨8, 3⟩) (meth := k8m3) (c := k8c3) (by decide +kernel) rfl rfl rfl (by decide +kernel)
set_option maxRecDepth 65536 in
theorem w_c42 : (Jvm.Cond.code ({ cls := "java/lang/String", name := "decode3", desc := "(III)C" } : Jvm.MethodName) jdk_42_method_36_code (3 : Nat) (Option.some Jvm.ClassFile.FieldType.char)).before args0 about1 = true := code_word (m := ⟨8, 8⟩) (meth := k8m8) (c := k8c8) (by decide +kernel) rfl rfl rfl (by decide +kernel)
set_option maxRecDepth 65536 in
theorem w_c43 : (Jvm.Cond.code ({ cls := "java/lang/Character", name := "isSurrogate", desc := "(C)Z" } : Jvm.MethodName) jdk_89_method_16_code (1 : Nat) (Option.some Jvm.ClassFile.FieldType.boolean)).before args0 about1 = true := code_word (m := ⟨21, 1⟩) (meth := k21m1) (c := k21c1) (by decide +kernel) rfl rfl rfl (by decide +kernel)
set_option maxRecDepth 65536 in
theorem w_cw22 : (Jvm.Cond.codeWith ({ cls := "java/lang/String", name := "<init>", desc := "(Ljava/nio/charset/Charset;[BII)V" } : Jvm.MethodName) jdk_42_method_11_code (11 : Nat) (Option.none : Option Jvm.ClassFile.FieldType) [((800 : Nat), (813 : Nat), (816 : Nat), (202 : Nat))]).before args0 about1 = true := codeWith_word (m := ⟨8, 1⟩) (meth := k8m1) (c := k8c1) (by decide +kernel) rfl rfl rfl (by decide +kernel)
def codes1 : List Jvm.Cond := [Jvm.Cond.code x code maxLocals ret, Jvm.Cond.code ({ cls := "com/example/sparsewrite/sparsewrite/cli/Utf8", name := "decodeName", desc := "([B)Ljava/lang/String;" } : Jvm.MethodName) prog_14_method_3_code (1 : Nat) (Option.some (Jvm.ClassFile.FieldType.object "java/lang/String")), Jvm.Cond.code ({ cls := "java/lang/String", name := "<init>", desc := "([BLjava/nio/charset/Charset;)V" } : Jvm.MethodName) jdk_42_method_49_code (3 : Nat) (Option.none : Option Jvm.ClassFile.FieldType), Jvm.Cond.code ({ cls := "java/util/Objects", name := "requireNonNull", desc := "(Ljava/lang/Object;)Ljava/lang/Object;" } : Jvm.MethodName) jdk_31_method_10_code (1 : Nat) (Option.some (Jvm.ClassFile.FieldType.object "java/lang/Object")), Jvm.Cond.codeWith ({ cls := "java/lang/String", name := "<init>", desc := "(Ljava/nio/charset/Charset;[BII)V" } : Jvm.MethodName) jdk_42_method_11_code (11 : Nat) (Option.none : Option Jvm.ClassFile.FieldType) [((800 : Nat), (813 : Nat), (816 : Nat), (202 : Nat))], Jvm.Cond.code ({ cls := "java/lang/Object", name := "<init>", desc := "()V" } : Jvm.MethodName) object_method_1_code (1 : Nat) (Option.none : Option Jvm.ClassFile.FieldType), Jvm.Cond.code ({ cls := "java/lang/String", name := "isEmpty", desc := "()Z" } : Jvm.MethodName) jdk_42_method_55_code (1 : Nat) (Option.some Jvm.ClassFile.FieldType.boolean), Jvm.Cond.code ({ cls := "com/example/sparsewrite/sparsewrite/cli/Utf8DecodeNamePinLaw", name := "codePoint", desc := "(II)I" } : Jvm.MethodName) method_2_code (3 : Nat) (Option.some Jvm.ClassFile.FieldType.int), Jvm.Cond.code ({ cls := "com/example/sparsewrite/sparsewrite/cli/Utf8DecodeNamePinLaw", name := "encode", desc := "(IIZI)[B" } : Jvm.MethodName) method_3_code (9 : Nat) (Option.some (Jvm.ClassFile.FieldType.array Jvm.ClassFile.FieldType.byte)), Jvm.Cond.code ({ cls := "java/lang/StringCoding", name := "countPositives", desc := "([BII)I" } : Jvm.MethodName) jdk_123_method_3_code (5 : Nat) (Option.some Jvm.ClassFile.FieldType.int), Jvm.Cond.code ({ cls := "java/util/Arrays", name := "copyOfRange", desc := "([BII)[B" } : Jvm.MethodName) jdk_65_method_132_code (3 : Nat) (Option.some (Jvm.ClassFile.FieldType.array Jvm.ClassFile.FieldType.byte)), Jvm.Cond.code ({ cls := "java/lang/String", name := "length", desc := "()I" } : Jvm.MethodName) jdk_42_method_54_code (1 : Nat) (Option.some Jvm.ClassFile.FieldType.int), Jvm.Cond.code ({ cls := "java/lang/String", name := "coder", desc := "()B" } : Jvm.MethodName) jdk_42_method_152_code (1 : Nat) (Option.some Jvm.ClassFile.FieldType.byte), Jvm.Cond.code ({ cls := "java/lang/String", name := "charAt", desc := "(I)C" } : Jvm.MethodName) jdk_42_method_56_code (2 : Nat) (Option.some Jvm.ClassFile.FieldType.char), Jvm.Cond.code ({ cls := "java/lang/String", name := "isLatin1", desc := "()Z" } : Jvm.MethodName) jdk_42_method_154_code (1 : Nat) (Option.some Jvm.ClassFile.FieldType.boolean), Jvm.Cond.code ({ cls := "java/lang/StringLatin1", name := "charAt", desc := "([BI)C" } : Jvm.MethodName) jdk_43_method_2_code (2 : Nat) (Option.some Jvm.ClassFile.FieldType.char), Jvm.Cond.code ({ cls := "java/lang/String", name := "checkIndex", desc := "(II)V" } : Jvm.MethodName) jdk_42_method_155_code (2 : Nat) (Option.none : Option Jvm.ClassFile.FieldType), Jvm.Cond.code ({ cls := "jdk/internal/util/Preconditions", name := "checkIndex", desc := "(IILjava/util/function/BiFunction;)I" } : Jvm.MethodName) jdk_41_method_11_code (3 : Nat) (Option.some Jvm.ClassFile.FieldType.int), Jvm.Cond.code ({ cls := "java/lang/StringUTF16", name := "newBytesFor", desc := "(I)[B" } : Jvm.MethodName) jdk_52_method_2_code (1 : Nat) (Option.some (Jvm.ClassFile.FieldType.array Jvm.ClassFile.FieldType.byte)), Jvm.Cond.code ({ cls := "java/lang/StringUTF16", name := "newBytesLength", desc := "(I)I" } : Jvm.MethodName) jdk_52_method_3_code (1 : Nat) (Option.some Jvm.ClassFile.FieldType.int), Jvm.Cond.code ({ cls := "java/lang/StringLatin1", name := "inflate", desc := "([BI[BII)V" } : Jvm.MethodName) jdk_43_method_50_code (5 : Nat) (Option.none : Option Jvm.ClassFile.FieldType), Jvm.Cond.code ({ cls := "java/lang/StringUTF16", name := "inflate", desc := "([BI[BII)V" } : Jvm.MethodName) jdk_52_method_86_code (6 : Nat) (Option.none : Option Jvm.ClassFile.FieldType), Jvm.Cond.code ({ cls := "java/lang/StringUTF16", name := "checkBoundsOffCount", desc := "(II[B)V" } : Jvm.MethodName) jdk_52_method_94_code (3 : Nat) (Option.none : Option Jvm.ClassFile.FieldType), Jvm.Cond.code ({ cls := "java/lang/StringUTF16", name := "length", desc := "([B)I" } : Jvm.MethodName) jdk_52_method_6_code (1 : Nat) (Option.some Jvm.ClassFile.FieldType.int), Jvm.Cond.code ({ cls := "java/lang/String", name := "checkBoundsOffCount", desc := "(III)I" } : Jvm.MethodName) jdk_42_method_157_code (3 : Nat) (Option.some Jvm.ClassFile.FieldType.int), Jvm.Cond.code ({ cls := "jdk/internal/util/Preconditions", name := "checkFromIndexSize", desc := "(IIILjava/util/function/BiFunction;)I" } : Jvm.MethodName) jdk_41_method_13_code (4 : Nat) (Option.some Jvm.ClassFile.FieldType.int), Jvm.Cond.code ({ cls := "java/lang/String", name := "decodeUTF8_UTF16", desc := "([BII[BIZ)I" } : Jvm.MethodName) jdk_42_method_38_code (11 : Nat) (Option.some Jvm.ClassFile.FieldType.int), Jvm.Cond.code ({ cls := "java/lang/String", name := "decode4", desc := "(IIII)I" } : Jvm.MethodName) jdk_42_method_37_code (4 : Nat) (Option.some Jvm.ClassFile.FieldType.int), Jvm.Cond.code ({ cls := "java/lang/String", name := "isMalformed4", desc := "(III)Z" } : Jvm.MethodName) jdk_42_method_32_code (3 : Nat) (Option.some Jvm.ClassFile.FieldType.boolean), Jvm.Cond.code ({ cls := "java/lang/Character", name := "isSupplementaryCodePoint", desc := "(I)Z" } : Jvm.MethodName) jdk_89_method_13_code (1 : Nat) (Option.some Jvm.ClassFile.FieldType.boolean), Jvm.Cond.code ({ cls := "java/lang/Character", name := "highSurrogate", desc := "(I)C" } : Jvm.MethodName) jdk_89_method_28_code (1 : Nat) (Option.some Jvm.ClassFile.FieldType.char), Jvm.Cond.code ({ cls := "java/lang/StringUTF16", name := "putChar", desc := "([BII)V" } : Jvm.MethodName) jdk_52_method_4_code (3 : Nat) (Option.none : Option Jvm.ClassFile.FieldType), Jvm.Cond.code ({ cls := "java/lang/Character", name := "lowSurrogate", desc := "(I)C" } : Jvm.MethodName) jdk_89_method_29_code (1 : Nat) (Option.some Jvm.ClassFile.FieldType.char), Jvm.Cond.code ({ cls := "java/util/Arrays", name := "copyOf", desc := "([BI)[B" } : Jvm.MethodName) jdk_65_method_121_code (3 : Nat) (Option.some (Jvm.ClassFile.FieldType.array Jvm.ClassFile.FieldType.byte)), Jvm.Cond.code ({ cls := "java/lang/Math", name := "min", desc := "(II)I" } : Jvm.MethodName) jdk_29_method_69_code (2 : Nat) (Option.some Jvm.ClassFile.FieldType.int), Jvm.Cond.code ({ cls := "java/lang/StringUTF16", name := "charAt", desc := "([BI)C" } : Jvm.MethodName) jdk_52_method_83_code (2 : Nat) (Option.some Jvm.ClassFile.FieldType.char), Jvm.Cond.code ({ cls := "java/lang/StringUTF16", name := "checkIndex", desc := "(I[B)V" } : Jvm.MethodName) jdk_52_method_91_code (2 : Nat) (Option.none : Option Jvm.ClassFile.FieldType), Jvm.Cond.code ({ cls := "java/lang/StringUTF16", name := "getChar", desc := "([BI)C" } : Jvm.MethodName) jdk_52_method_5_code (2 : Nat) (Option.some Jvm.ClassFile.FieldType.char), Jvm.Cond.code ({ cls := "java/lang/String", name := "isMalformed4_2", desc := "(II)Z" } : Jvm.MethodName) jdk_42_method_33_code (2 : Nat) (Option.some Jvm.ClassFile.FieldType.boolean), Jvm.Cond.code ({ cls := "java/lang/String", name := "isMalformed3_2", desc := "(II)Z" } : Jvm.MethodName) jdk_42_method_31_code (2 : Nat) (Option.some Jvm.ClassFile.FieldType.boolean), Jvm.Cond.code ({ cls := "java/lang/String", name := "isNotContinuation", desc := "(I)Z" } : Jvm.MethodName) jdk_42_method_29_code (1 : Nat) (Option.some Jvm.ClassFile.FieldType.boolean), Jvm.Cond.code ({ cls := "java/lang/String", name := "decode2", desc := "(II)C" } : Jvm.MethodName) jdk_42_method_35_code (2 : Nat) (Option.some Jvm.ClassFile.FieldType.char), Jvm.Cond.code ({ cls := "java/lang/String", name := "isMalformed3", desc := "(III)Z" } : Jvm.MethodName) jdk_42_method_30_code (3 : Nat) (Option.some Jvm.ClassFile.FieldType.boolean), Jvm.Cond.code ({ cls := "java/lang/String", name := "decode3", desc := "(III)C" } : Jvm.MethodName) jdk_42_method_36_code (3 : Nat) (Option.some Jvm.ClassFile.FieldType.char), Jvm.Cond.code ({ cls := "java/lang/Character", name := "isSurrogate", desc := "(C)Z" } : Jvm.MethodName) jdk_89_method_16_code (1 : Nat) (Option.some Jvm.ClassFile.FieldType.boolean)]
set_option maxRecDepth 65536 in
theorem codes_eq : words1.filter isCode = codes1 := rfl
theorem w_codes : ∀ c ∈ words1.filter isCode, c.before args0 about1 = true := by
  rw [codes_eq]
  intro c hc
  simp only [codes1, List.mem_cons, List.not_mem_nil, or_false] at hc
  rcases hc with rfl | rfl | rfl | rfl | rfl | rfl | rfl | rfl | rfl | rfl | rfl | rfl | rfl | rfl | rfl | rfl | rfl | rfl | rfl | rfl | rfl | rfl | rfl | rfl | rfl | rfl | rfl | rfl | rfl | rfl | rfl | rfl | rfl | rfl | rfl | rfl | rfl | rfl | rfl | rfl | rfl | rfl | rfl | rfl | rfl
  · exact w_c0
  · exact w_c1
  · exact w_c2
  · exact w_c3
  · exact w_cw22
  · exact w_c4
  · exact w_c5
  · exact w_c6
  · exact w_c7
  · exact w_c8
  · exact w_c9
  · exact w_c10
  · exact w_c11
  · exact w_c12
  · exact w_c13
  · exact w_c14
  · exact w_c15
  · exact w_c16
  · exact w_c17
  · exact w_c18
  · exact w_c19
  · exact w_c20
  · exact w_c21
  · exact w_c22
  · exact w_c23
  · exact w_c24
  · exact w_c25
  · exact w_c26
  · exact w_c27
  · exact w_c28
  · exact w_c29
  · exact w_c30
  · exact w_c31
  · exact w_c32
  · exact w_c33
  · exact w_c34
  · exact w_c35
  · exact w_c36
  · exact w_c37
  · exact w_c38
  · exact w_c39
  · exact w_c40
  · exact w_c41
  · exact w_c42
  · exact w_c43
set_option maxRecDepth 65536 in
theorem w_t1 : (words1.take 24).all (fun c => isCode c || c.before args0 about1) = true := by decide +kernel
set_option maxRecDepth 65536 in
theorem w_t2 : ((words1.drop 24).take 24).all (fun c => isCode c || c.before args0 about1) = true := by decide +kernel
set_option maxRecDepth 65536 in
theorem w_t3 : (((words1.drop 24).drop 24).take 24).all (fun c => isCode c || c.before args0 about1) = true := by decide +kernel
set_option maxRecDepth 65536 in
theorem w_t4 : ((((words1.drop 24).drop 24).drop 24).take 24).all (fun c => isCode c || c.before args0 about1) = true := by decide +kernel
set_option maxRecDepth 65536 in
theorem w_t5 : (((((words1.drop 24).drop 24).drop 24).drop 24).take 24).all (fun c => isCode c || c.before args0 about1) = true := by decide +kernel
set_option maxRecDepth 65536 in
theorem w_t6 : ((((((words1.drop 24).drop 24).drop 24).drop 24).drop 24).take 24).all (fun c => isCode c || c.before args0 about1) = true := by decide +kernel
set_option maxRecDepth 65536 in
theorem w_t7 : (((((((words1.drop 24).drop 24).drop 24).drop 24).drop 24).drop 24).take 24).all (fun c => isCode c || c.before args0 about1) = true := by decide +kernel
set_option maxRecDepth 65536 in
theorem w_t8 : ((((((((words1.drop 24).drop 24).drop 24).drop 24).drop 24).drop 24).drop 24).take 24).all (fun c => isCode c || c.before args0 about1) = true := by decide +kernel
set_option maxRecDepth 65536 in
theorem w_t9 : ((((((((words1.drop 24).drop 24).drop 24).drop 24).drop 24).drop 24).drop 24).drop 24).all (fun c => isCode c || c.before args0 about1) = true := by decide +kernel
theorem w_tables : (allAtoms (Jvm.Cond.code x code maxLocals ret :: tables_1)).before args0 about1 = true := by
  rw [allAtoms_all]
  show words1.all (fun c => c.before args0 about1) = true
  refine all_split ?_ w_codes
  rw [← List.take_append_drop 24 words1, List.all_append, w_t1, ← List.take_append_drop 24 (words1.drop 24), List.all_append, w_t2, ← List.take_append_drop 24 ((words1.drop 24).drop 24), List.all_append, w_t3, ← List.take_append_drop 24 (((words1.drop 24).drop 24).drop 24), List.all_append, w_t4, ← List.take_append_drop 24 ((((words1.drop 24).drop 24).drop 24).drop 24), List.all_append, w_t5, ← List.take_append_drop 24 (((((words1.drop 24).drop 24).drop 24).drop 24).drop 24), List.all_append, w_t6, ← List.take_append_drop 24 ((((((words1.drop 24).drop 24).drop 24).drop 24).drop 24).drop 24), List.all_append, w_t7, ← List.take_append_drop 24 (((((((words1.drop 24).drop 24).drop 24).drop 24).drop 24).drop 24).drop 24), List.all_append, w_t8, w_t9]
  rfl
set_option maxRecDepth 65536 in
theorem w_rest : rest_1_c.before args0 about1 = true := by decide +kernel
set_option maxRecDepth 65536 in
theorem w_case : (Jvm.Cond.and given_1 narrow_1).before args0 about1 = true := by decide +kernel
set_option maxRecDepth 65536 in
theorem w_consts : constsHeld consts_1 about1 := Jvm.Lit.constsHeldB_iff.mp (by decide +kernel)
theorem w_applies : (headSpec (Jvm.Cond.code x code maxLocals ret :: tables_1) room_1).applies x e0.platform about1 = true :=
  (Spec.applies_iff w_frames).mpr ⟨w_running, w_runnable, w_alone, w_named, w_hears, w_ripe, w_room, w_tables⟩
theorem atStart : AtStart classFile x code maxLocals ret World_1 tables_1 room_1 Calls_1 rest_1 Pre_1 launch0 p0 e0 about1 theMethod args0 below0 :=
  ⟨lists_1, trivial, launch0.admits_env _ _ _, launch0.least_env, fairChoices_fair.cas, fairChoices_fair.clock, w_frames, w_args, w_heap, w_applies, ⟨w_consts, trivial⟩, w_rest, w_case⟩
end start1
theorem witness_1 : WitnessClaimed_1 := ⟨start1.p0, start1.e0, start1.about1, start1.theMethod, start1.args0, start1.below0, start1.atStart⟩
end Jvm.Pilot.@@N@@
