import JvmDerived
import JvmDerived.Pilot.@@N@@Statement
import JvmDerived.Pilot.@@N@@Code
set_option linter.unusedVariables false
set_option linter.unusedSimpArgs false
namespace Jvm.RoadKit
open Sem ClassFile Op Lib Jvm.Stand Jvm.Free Jvm.LawKit
section New
variable {p : Program} {l : Launch} {e : Env} {R : Room} {s : State} {m : MethodId} {args : Array Value} {below : List Frame} {meth : Method} {c : Code} {T : State} {locs : List Loc} {cells slots : Nat}
theorem retI (X : Stand p l e R s m args below meth c T locs cells slots) (hx : p.tables.exec = Jvm.exec) {pc : Nat} {Ls : Array Slot} {z : Int32} {rest : List Value} (hret : meth.sig.returnType = some .int) (hd : decode c.code pc = .ok (.ireturn, 1)) {fs : List Frame}
    (hl : ∀ (f : JFrame) (acts : List Action), f.method = m → f.locked = none → f.entered = [] → (doReturn e (T.setTop f) acts (some (.int z))).1 = T.setFrames fs) : Steps p.tables e below (T.setTop (mkF m pc Ls (.int z :: rest))) (T.setFrames fs) := by
  have hm' : T.vm.method? m = some meth := X.method'
  have hn : narrow .int (.int z) = .int z := rfl
  show Steps p.tables e below (T.setTop { method := m, pc := pc, locals := Ls, stack := _ :: rest, locked := none }) _
  jvm_step X.here [X.here.top, hx, hd, hm', hret, hn]
  first | (intro acts; rw [hl _ acts rfl rfl rfl]) | rw [hl _ _ rfl rfl rfl]
  exact Steps.refl _
end New
end Jvm.RoadKit
namespace Jvm.Own.Fw
open Sem ClassFile Op Lib Jvm.Stand Jvm.Free Jvm.LawKit Jvm.RoadKit
variable {p : Program} {l : Launch} {e : Env} {R : Room} {s : State} {m : MethodId} {args : Array Value} {below : List Frame} {meth : Method} {c : Code} {T S : State} {G : JFrame} {locs : List Loc} {cells slots : Nat} {pc pc' : Nat} {Ls : Array Slot} {St : List Value}
theorem iloadN {i : Fin 4} {v : Int32} (k : Goes p e below S G T (mkF m pc Ls St)) (X : Stand p l e R s m args below meth c T locs cells slots) (hx : p.tables.exec = Jvm.exec) (hd : decode c.code pc = .ok (.iload_n i, 1)) (hl : Ls[i.val]? = some (.val (.int v))) (hp : pc + 1 = pc') : Goes p e below S G T (mkF m pc' Ls (.int v :: St)) := by
  subst hp; exact fun t q => k t (XS.iloadN X.here hx rfl hd hl q)
theorem iload {i : Nat} {v : Int32} (k : Goes p e below S G T (mkF m pc Ls St)) (X : Stand p l e R s m args below meth c T locs cells slots) (hx : p.tables.exec = Jvm.exec) (hd : decode c.code pc = .ok (.iload i, 2)) (hl : Ls[i]? = some (.val (.int v))) (hp : pc + 2 = pc') : Goes p e below S G T (mkF m pc' Ls (.int v :: St)) := by
  subst hp; exact fun t q => k t (XS.iload X.here hx rfl hd hl q)
theorem aloadN {i : Fin 4} {v : Value} (k : Goes p e below S G T (mkF m pc Ls St)) (X : Stand p l e R s m args below meth c T locs cells slots) (hx : p.tables.exec = Jvm.exec) (hd : decode c.code pc = .ok (.aload_n i, 1)) (hl : Ls[i.val]? = some (.val v)) (hv : v.isRef = true) (hp : pc + 1 = pc') : Goes p e below S G T (mkF m pc' Ls (v :: St)) := by
  subst hp; exact fun t q => k t (XS.aloadN X.here hx rfl hd hl hv q)
theorem aload {i : Nat} {v : Value} (k : Goes p e below S G T (mkF m pc Ls St)) (X : Stand p l e R s m args below meth c T locs cells slots) (hx : p.tables.exec = Jvm.exec) (hd : decode c.code pc = .ok (.aload i, 2)) (hl : Ls[i]? = some (.val v)) (hv : v.isRef = true) (hp : pc + 2 = pc') : Goes p e below S G T (mkF m pc' Ls (v :: St)) := by
  subst hp; exact fun t q => k t (XS.aload X.here hx rfl hd hl hv q)
theorem istoreN {i : Fin 4} {v : Int32} {Ls' : Array Slot} (k : Goes p e below S G T (mkF m pc Ls (.int v :: St))) (X : Stand p l e R s m args below meth c T locs cells slots) (hx : p.tables.exec = Jvm.exec) (hd : decode c.code pc = .ok (.istore_n i, 1)) (hl : storeLocals Ls i.val (.int v) = some Ls') (hp : pc + 1 = pc') : Goes p e below S G T (mkF m pc' Ls' St) := by
  subst hp; exact fun t q => k t (XS.istoreN X.here hx rfl hd rfl hl q)
theorem istore {i : Nat} {v : Int32} {Ls' : Array Slot} (k : Goes p e below S G T (mkF m pc Ls (.int v :: St))) (X : Stand p l e R s m args below meth c T locs cells slots) (hx : p.tables.exec = Jvm.exec) (hd : decode c.code pc = .ok (.istore i, 2)) (hl : storeLocals Ls i (.int v) = some Ls') (hp : pc + 2 = pc') : Goes p e below S G T (mkF m pc' Ls' St) := by
  subst hp; exact fun t q => k t (XS.istore X.here hx rfl hd rfl hl q)
theorem astoreN {i : Fin 4} {v : Value} {Ls' : Array Slot} (k : Goes p e below S G T (mkF m pc Ls (v :: St))) (X : Stand p l e R s m args below meth c T locs cells slots) (hx : p.tables.exec = Jvm.exec) (hd : decode c.code pc = .ok (.astore_n i, 1)) (hv : v.isRef = true) (hl : storeLocals Ls i.val v = some Ls') (hp : pc + 1 = pc') : Goes p e below S G T (mkF m pc' Ls' St) := by
  subst hp; exact fun t q => k t (XS.astoreN X.here hx rfl hd rfl hv hl q)
theorem astore {i : Nat} {v : Value} {Ls' : Array Slot} (k : Goes p e below S G T (mkF m pc Ls (v :: St))) (X : Stand p l e R s m args below meth c T locs cells slots) (hx : p.tables.exec = Jvm.exec) (hd : decode c.code pc = .ok (.astore i, 2)) (hv : v.isRef = true) (hl : storeLocals Ls i v = some Ls') (hp : pc + 2 = pc') : Goes p e below S G T (mkF m pc' Ls' St) := by
  subst hp; exact fun t q => k t (XS.astore X.here hx rfl hd rfl hv hl q)
theorem iconst {i : Int} {z : Int32} (k : Goes p e below S G T (mkF m pc Ls St)) (X : Stand p l e R s m args below meth c T locs cells slots) (hx : p.tables.exec = Jvm.exec) (hd : decode c.code pc = .ok (.iconst i, 1)) (hz : Int32.ofInt i = z) (hp : pc + 1 = pc') : Goes p e below S G T (mkF m pc' Ls (.int z :: St)) := by
  subst hp; exact fun t q => k t (XS.iconst X.here hx rfl hd (hz ▸ q))
theorem bipush {i : Int} {z : Int32} (k : Goes p e below S G T (mkF m pc Ls St)) (X : Stand p l e R s m args below meth c T locs cells slots) (hx : p.tables.exec = Jvm.exec) (hd : decode c.code pc = .ok (.bipush i, 2)) (hz : (Int8.ofInt i).toInt32 = z) (hp : pc + 2 = pc') : Goes p e below S G T (mkF m pc' Ls (.int z :: St)) := by
  subst hp; exact fun t q => k t (XS.bipush X.here hx rfl hd (hz ▸ q))
theorem sipush {i : Int} {z : Int32} (k : Goes p e below S G T (mkF m pc Ls St)) (X : Stand p l e R s m args below meth c T locs cells slots) (hx : p.tables.exec = Jvm.exec) (hd : decode c.code pc = .ok (.sipush i, 3)) (hz : (Int16.ofInt i).toInt32 = z) (hp : pc + 3 = pc') : Goes p e below S G T (mkF m pc' Ls (.int z :: St)) := by
  subst hp; exact fun t q => k t (XS.sipush X.here hx rfl hd (hz ▸ q))
theorem aconstNull  (k : Goes p e below S G T (mkF m pc Ls St)) (X : Stand p l e R s m args below meth c T locs cells slots) (hx : p.tables.exec = Jvm.exec) (hd : decode c.code pc = .ok (.aconst_null, 1)) (hp : pc + 1 = pc') : Goes p e below S G T (mkF m pc' Ls (.null :: St)) := by
  subst hp; exact fun t q => k t (XS.aconstNull X.here hx rfl hd q)
theorem iadd {x y z : Int32} (k : Goes p e below S G T (mkF m pc Ls (.int y :: .int x :: St))) (X : Stand p l e R s m args below meth c T locs cells slots) (hx : p.tables.exec = Jvm.exec) (hd : decode c.code pc = .ok (.iadd, 1)) (hz : x + y = z) (hp : pc + 1 = pc') : Goes p e below S G T (mkF m pc' Ls (.int z :: St)) := by
  subst hp; exact fun t q => k t (XS.iadd X.here hx rfl hd rfl (hz ▸ q))
theorem isub {x y z : Int32} (k : Goes p e below S G T (mkF m pc Ls (.int y :: .int x :: St))) (X : Stand p l e R s m args below meth c T locs cells slots) (hx : p.tables.exec = Jvm.exec) (hd : decode c.code pc = .ok (.isub, 1)) (hz : x - y = z) (hp : pc + 1 = pc') : Goes p e below S G T (mkF m pc' Ls (.int z :: St)) := by
  subst hp; exact fun t q => k t (XS.isub X.here hx rfl hd rfl (hz ▸ q))
theorem iand {x y z : Int32} (k : Goes p e below S G T (mkF m pc Ls (.int y :: .int x :: St))) (X : Stand p l e R s m args below meth c T locs cells slots) (hx : p.tables.exec = Jvm.exec) (hd : decode c.code pc = .ok (.iand, 1)) (hz : x &&& y = z) (hp : pc + 1 = pc') : Goes p e below S G T (mkF m pc' Ls (.int z :: St)) := by
  subst hp; exact fun t q => k t (XS.iand X.here hx rfl hd rfl (hz ▸ q))
theorem ior {x y z : Int32} (k : Goes p e below S G T (mkF m pc Ls (.int y :: .int x :: St))) (X : Stand p l e R s m args below meth c T locs cells slots) (hx : p.tables.exec = Jvm.exec) (hd : decode c.code pc = .ok (.ior, 1)) (hz : x ||| y = z) (hp : pc + 1 = pc') : Goes p e below S G T (mkF m pc' Ls (.int z :: St)) := by
  subst hp; exact fun t q => k t (XS.ior X.here hx rfl hd rfl (hz ▸ q))
theorem i2b {x : Int32} {z : Int32} (k : Goes p e below S G T (mkF m pc Ls (.int x :: St))) (X : Stand p l e R s m args below meth c T locs cells slots) (hx : p.tables.exec = Jvm.exec) (hd : decode c.code pc = .ok (.i2b, 1)) (hz : x.toInt8.toInt32 = z) (hp : pc + 1 = pc') : Goes p e below S G T (mkF m pc' Ls (.int z :: St)) := by
  subst hp; exact fun t q => k t (XS.i2b X.here hx rfl hd rfl (hz ▸ q))
theorem i2c {x : Int32} {z : Int32} (k : Goes p e below S G T (mkF m pc Ls (.int x :: St))) (X : Stand p l e R s m args below meth c T locs cells slots) (hx : p.tables.exec = Jvm.exec) (hd : decode c.code pc = .ok (.i2c, 1)) (hz : x.toUInt32.toUInt16.toUInt32.toInt32 = z) (hp : pc + 1 = pc') : Goes p e below S G T (mkF m pc' Ls (.int z :: St)) := by
  subst hp; exact fun t q => k t (XS.i2c X.here hx rfl hd rfl (hz ▸ q))
theorem ishl {x y z : Int32} (k : Goes p e below S G T (mkF m pc Ls (.int y :: .int x :: St))) (X : Stand p l e R s m args below meth c T locs cells slots) (hx : p.tables.exec = Jvm.exec) (hd : decode c.code pc = .ok (.ishl, 1)) (hz : x <<< (y &&& 31) = z) (hp : pc + 1 = pc') : Goes p e below S G T (mkF m pc' Ls (.int z :: St)) := by
  subst hp; exact fun t q => k t (XS.ishl X.here hx rfl hd rfl (hz ▸ q))
theorem ishr {x y z : Int32} (k : Goes p e below S G T (mkF m pc Ls (.int y :: .int x :: St))) (X : Stand p l e R s m args below meth c T locs cells slots) (hx : p.tables.exec = Jvm.exec) (hd : decode c.code pc = .ok (.ishr, 1)) (hz : x >>> (y &&& 31) = z) (hp : pc + 1 = pc') : Goes p e below S G T (mkF m pc' Ls (.int z :: St)) := by
  subst hp; exact fun t q => k t (XS.ishr X.here hx rfl hd rfl (hz ▸ q))
theorem iushr {x y z : Int32} (k : Goes p e below S G T (mkF m pc Ls (.int y :: .int x :: St))) (X : Stand p l e R s m args below meth c T locs cells slots) (hx : p.tables.exec = Jvm.exec) (hd : decode c.code pc = .ok (.iushr, 1)) (hz : (x.toUInt32 >>> (y &&& 31).toUInt32).toInt32 = z) (hp : pc + 1 = pc') : Goes p e below S G T (mkF m pc' Ls (.int z :: St)) := by
  subst hp; exact fun t q => k t (XS.iushr X.here hx rfl hd rfl (hz ▸ q))
theorem irem {x y z : Int32} (k : Goes p e below S G T (mkF m pc Ls (.int y :: .int x :: St))) (X : Stand p l e R s m args below meth c T locs cells slots) (hx : p.tables.exec = Jvm.exec) (hd : decode c.code pc = .ok (.irem, 1)) (hy : y ≠ 0) (hz : x % y = z) (hp : pc + 1 = pc') : Goes p e below S G T (mkF m pc' Ls (.int z :: St)) := by
  subst hp; exact fun t q => k t (iremM X hx rfl hd rfl hy (hz ▸ q))
theorem iinc {i : Nat} {cst : Int} {x z : Int32} {Ls' : Array Slot} (k : Goes p e below S G T (mkF m pc Ls St)) (X : Stand p l e R s m args below meth c T locs cells slots) (hx : p.tables.exec = Jvm.exec) (hd : decode c.code pc = .ok (.iinc i cst, 3)) (hl : Ls[i]? = some (.val (.int x))) (hz : x + Int32.ofInt cst = z) (hl' : storeLocals Ls i (.int z) = some Ls') (hp : pc + 3 = pc') : Goes p e below S G T (mkF m pc' Ls' St) := by
  subst hp; exact fun t q => k t (XS.iinc X.here hx rfl hd hl (hz ▸ hl') q)
theorem dup {v : Value} (k : Goes p e below S G T (mkF m pc Ls (v :: St))) (X : Stand p l e R s m args below meth c T locs cells slots) (hx : p.tables.exec = Jvm.exec) (hd : decode c.code pc = .ok (.dup, 1)) (hc : v.category = 1) (hp : pc + 1 = pc') : Goes p e below S G T (mkF m pc' Ls (v :: v :: St)) := by
  subst hp; exact fun t q => k t (XS.dup X.here hx rfl hd rfl hc q)
theorem pop {v : Value} (k : Goes p e below S G T (mkF m pc Ls (v :: St))) (X : Stand p l e R s m args below meth c T locs cells slots) (hx : p.tables.exec = Jvm.exec) (hd : decode c.code pc = .ok (.pop, 1)) (hc : v.category = 1) (hp : pc + 1 = pc') : Goes p e below S G T (mkF m pc' Ls St) := by
  subst hp; exact fun t q => k t (XS.pop X.here hx rfl hd rfl hc q)
theorem goto {o : Int} (k : Goes p e below S G T (mkF m pc Ls St)) (X : Stand p l e R s m args below meth c T locs cells slots) (hx : p.tables.exec = Jvm.exec) (hd : decode c.code pc = .ok (.goto o, 3)) (ho : 0 ≤ (pc : Int) + o) (hp : ((pc : Int) + o).toNat = pc') : Goes p e below S G T (mkF m pc' Ls St) := fun t q => k t (XS.goto X.here hx rfl rfl hd ho hp q)
theorem ifYes {o : Int} {cd : ClassFile.Cond} {x : Int32} (k : Goes p e below S G T (mkF m pc Ls (.int x :: St))) (X : Stand p l e R s m args below meth c T locs cells slots) (hx : p.tables.exec = Jvm.exec) (hd : decode c.code pc = .ok (.ifCond cd o, 3)) (hc : ifCond.holds cd x = true) (ho : 0 ≤ (pc : Int) + o) (hp : ((pc : Int) + o).toNat = pc') : Goes p e below S G T (mkF m pc' Ls St) := fun t q => k t (XS.ifYes X.here hx rfl rfl hd rfl hc ho hp q)
theorem ifNo {o : Int} {cd : ClassFile.Cond} {x : Int32} (k : Goes p e below S G T (mkF m pc Ls (.int x :: St))) (X : Stand p l e R s m args below meth c T locs cells slots) (hx : p.tables.exec = Jvm.exec) (hd : decode c.code pc = .ok (.ifCond cd o, 3)) (hc : ifCond.holds cd x = false) (hp : pc + 3 = pc') : Goes p e below S G T (mkF m pc' Ls St) := fun t q => k t (XS.ifNo X.here hx rfl hd rfl hc (by subst hp; exact q))
theorem icmpYes {o : Int} {cd : ClassFile.Cond} {x y : Int32} (k : Goes p e below S G T (mkF m pc Ls (.int y :: .int x :: St))) (X : Stand p l e R s m args below meth c T locs cells slots) (hx : p.tables.exec = Jvm.exec) (hd : decode c.code pc = .ok (.if_icmp cd o, 3)) (hc : if_icmp.holds cd x y = true) (ho : 0 ≤ (pc : Int) + o) (hp : ((pc : Int) + o).toNat = pc') : Goes p e below S G T (mkF m pc' Ls St) := fun t q => k t (XS.icmpYes X.here hx rfl rfl hd rfl hc ho hp q)
theorem icmpNo {o : Int} {cd : ClassFile.Cond} {x y : Int32} (k : Goes p e below S G T (mkF m pc Ls (.int y :: .int x :: St))) (X : Stand p l e R s m args below meth c T locs cells slots) (hx : p.tables.exec = Jvm.exec) (hd : decode c.code pc = .ok (.if_icmp cd o, 3)) (hc : if_icmp.holds cd x y = false) (hp : pc + 3 = pc') : Goes p e below S G T (mkF m pc' Ls St) := fun t q => k t (XS.icmpNo X.here hx rfl hd rfl hc (by subst hp; exact q))
end Jvm.Own.Fw
namespace Jvm.Own
open Sem ClassFile Op Lib Jvm.Stand Jvm.Free Jvm.LawKit Jvm.RoadKit
theorem allC {α : Type} {P : α → Prop} {y : α} {L : List α} (q : P y) (r : ∀ x ∈ L, P x) : ∀ x ∈ y :: L, P x := fun x z => (List.mem_cons.mp z).elim (fun u => u ▸ q) (r x)
theorem allN {α : Type} {P : α → Prop} : ∀ x ∈ ([] : List α), P x := fun _ q => nomatch q
def updv (f : Nat → Value) (i : Nat) (v : Value) : Nat → Value := fun j => if j = i then v else f j
theorem fits_default (ty : FieldType) : fits ty (defaultValue ty) = true := by cases ty <;> first | rfl | decide
theorem clampNat (j : Int32) : j.toNatClampNeg = j.toInt.toNat := rfl
theorem own_nnBi2b (x : Int32) : nar .byte (x.toInt8.toInt32) = x.toInt8.toInt32 := by show x.toInt8.toInt32.toInt8.toInt32 = _; simp
theorem own_nnCi2c (x : Int32) : nar .char (x.toUInt32.toUInt16.toUInt32.toInt32) = x.toUInt32.toUInt16.toUInt32.toInt32 := by
  show x.toUInt32.toUInt16.toUInt32.toInt32.toUInt32.toUInt16.toUInt32.toInt32 = _
  generalize x.toUInt32.toUInt16 = u
  simp
theorem own_fitBi2b (x : Int32) : fits .byte (.int (x.toInt8.toInt32)) = true := fits_nar_byte x
end Jvm.Own
namespace Jvm.Own
open Jvm.RoadKit
/-! facts on int terms, for omega: each of the term's equation -/
section Ar
variable {v a b m q : Int32} {w x y : Int64}
theorem e_isub (e : v = a - b) : (v.toInt - (a.toInt - b.toInt)) % 4294967296 = 0 ∧ -2147483648 ≤ v.toInt ∧ v.toInt < 2147483648 := by subst e; exact ⟨c_isub _ _, rng32 _⟩
theorem e_mask (e : v = a &&& m) (k : Nat) (n : Int) (h : k ≤ 31 ∧ m.toBitVec.toNat = 2 ^ k - 1 ∧ ((2 ^ k : Nat) : Int) = n := by decide) : v.toInt = a.toInt % n := by obtain ⟨h1, h2, rfl⟩ := h; subst e; exact c_mask _ _ k h1 h2
theorem e_ishr (e : v = a >>> (q &&& 31)) (k : Nat) (n : Int) (h : q.toBitVec.toNat % 32 = k ∧ ((2 ^ k : Nat) : Int) = n := by decide) : v.toInt = a.toInt / n := by obtain ⟨h1, rfl⟩ := h; subst e; exact c_ishr _ _ k h1
theorem e_ishl (e : v = a <<< (q &&& 31)) (k : Nat) (n : Int) (h : q.toBitVec.toNat % 32 = k ∧ ((2 ^ k : Nat) : Int) = n := by decide) : (v.toInt - a.toInt * n) % 4294967296 = 0 ∧ -2147483648 ≤ v.toInt ∧ v.toInt < 2147483648 := by obtain ⟨h1, rfl⟩ := h; subst e; exact ⟨c_ishl _ _ k h1, rng32 _⟩
theorem e_ior' (e : v = b ||| a) (k : Nat) (n : Int) (h : k ≤ 31 ∧ n = (2 ^ k : Nat) := by decide) : a.toInt % n = 0 → 0 ≤ b.toInt → b.toInt < n → (v.toInt - (a.toInt + b.toInt)) % 4294967296 = 0 := by subst e; exact c_or' _ _ k h.1 n h.2
theorem e_i2b (e : v = a.toInt8.toInt32) : (v.toInt - a.toInt) % 256 = 0 ∧ -128 ≤ v.toInt ∧ v.toInt < 128 := by subst e; exact c_i2b _
theorem e_i2c (e : v = a.toUInt32.toUInt16.toUInt32.toInt32) : (v.toInt - a.toInt) % 65536 = 0 ∧ 0 ≤ v.toInt ∧ v.toInt < 65536 := by subst e; exact c_i2c _
theorem e_irem (e : v = a % b) (n : Int) (h : b.toInt = n := by decide) : (0 ≤ a.toInt → v.toInt = a.toInt % n) ∧ (a.toInt < 0 → v.toInt = -((-a.toInt) % n)) := by subst e; exact c_irem _ _ n h
theorem e_lat (e : v = (a.toInt8.toInt32 &&& 255).toUInt32.toUInt16.toUInt32.toInt32) : 0 ≤ a.toInt → a.toInt < 256 → v.toInt = a.toInt := by
  intro q1 q2
  subst e
  have c1 := c_i2b a
  have c2 := e_mask (v := a.toInt8.toInt32 &&& 255) rfl 8 256
  have c3 := c_i2c (a.toInt8.toInt32 &&& 255)
  omega
theorem e_gc (e : v = ((((a >>> ((0 : Int32) &&& 31)).toInt8.toInt32 &&& 255) <<< ((0 : Int32) &&& 31)) ||| (((a >>> ((8 : Int32) &&& 31)).toInt8.toInt32 &&& 255) <<< ((8 : Int32) &&& 31))).toUInt32.toUInt16.toUInt32.toInt32) : 0 ≤ a.toInt → a.toInt < 65536 → v.toInt = a.toInt := by
  intro q1 q2
  subst e
  have a1 := e_ishr (v := a >>> ((0 : Int32) &&& 31)) rfl 0 1
  have a2 := c_i2b (a >>> ((0 : Int32) &&& 31))
  have a3 := e_mask (v := (a >>> ((0 : Int32) &&& 31)).toInt8.toInt32 &&& 255) rfl 8 256
  have a4 := e_ishl (v := ((a >>> ((0 : Int32) &&& 31)).toInt8.toInt32 &&& 255) <<< ((0 : Int32) &&& 31)) rfl 0 1
  have b1 := e_ishr (v := a >>> ((8 : Int32) &&& 31)) rfl 8 256
  have b2 := c_i2b (a >>> ((8 : Int32) &&& 31))
  have b3 := e_mask (v := (a >>> ((8 : Int32) &&& 31)).toInt8.toInt32 &&& 255) rfl 8 256
  have b4 := e_ishl (v := ((a >>> ((8 : Int32) &&& 31)).toInt8.toInt32 &&& 255) <<< ((8 : Int32) &&& 31)) rfl 8 256
  generalize (((a >>> ((0 : Int32) &&& 31)).toInt8.toInt32 &&& 255) <<< ((0 : Int32) &&& 31)) = x at *
  generalize (((a >>> ((8 : Int32) &&& 31)).toInt8.toInt32 &&& 255) <<< ((8 : Int32) &&& 31)) = y at *
  have x1 : x.toInt = a.toInt % 256 := by omega
  have y1 : y.toInt = a.toInt / 256 * 256 := by omega
  have c := e_ior' (v := x ||| y) rfl 8 256 (by decide) (by omega) (by omega) (by omega)
  have d := c_i2c (x ||| y)
  have f := rng32 (x ||| y)
  omega
theorem e_isubN (e : v = a - b) (h : -2147483648 ≤ a.toInt - b.toInt ∧ a.toInt - b.toInt < 2147483648) : v.toInt = a.toInt - b.toInt := by have := e_isub e; omega
theorem e_iremN (e : v = a % b) (n : Int) (q : 0 ≤ a.toInt) (h : b.toInt = n := by decide) : v.toInt = a.toInt % n := (e_irem e n h).1 q
theorem e_i2cN (e : v = a.toUInt32.toUInt16.toUInt32.toInt32) (q : 0 ≤ a.toInt ∧ a.toInt < 65536) : v.toInt = a.toInt := by have := e_i2c e; omega
theorem i_lt {a b : Int32} (h : a < b) : a.toInt < b.toInt := Int32.lt_iff_toInt_lt.mp h
theorem i_nlt {a b : Int32} (h : ¬ a < b) : ¬ a.toInt < b.toInt := fun q => h (Int32.lt_iff_toInt_lt.mpr q)
theorem i_eq {a b : Int32} (h : a = b) : a.toInt = b.toInt := congrArg Int32.toInt h
theorem i_neq {a b : Int32} (h : ¬ a = b) : ¬ a.toInt = b.toInt := fun q => h (Int32.toInt_inj.mp q)
theorem o_lt {a b : Int32} (h : a.toInt < b.toInt) : a < b := Int32.lt_iff_toInt_lt.mpr h
theorem o_nlt {a b : Int32} (h : ¬ a.toInt < b.toInt) : ¬ a < b := fun q => h (Int32.lt_iff_toInt_lt.mp q)
theorem o_eq {a b : Int32} (h : a.toInt = b.toInt) : a = b := Int32.toInt_inj.mp h
theorem o_neq {a b : Int32} (h : ¬ a.toInt = b.toInt) : ¬ a = b := fun q => h (congrArg Int32.toInt q)
end Ar
end Jvm.Own
namespace Jvm.Own
open Sem ClassFile Op Lib Bundle Jvm.Stand Jvm.Free Jvm.LawKit Jvm.RoadKit
abbrev Dc (B : ByteArray) (pc : Nat) (i : Instr) (len pc' : Nat) : Prop := decode B pc = .ok (i, len) ∧ pc + len = pc'
abbrev Dj (B : ByteArray) (pc : Nat) (i : Instr) (o : Int) (pc' pc'' : Nat) : Prop := decode B pc = .ok (i, 3) ∧ pc + 3 = pc' ∧ 0 ≤ (pc : Int) + o ∧ ((pc : Int) + o).toNat = pc''
def Md (md : Bool) (EL : List (String × Nat)) (s Z : State) (a0 : Array Value) (h0 : Heap) (vm : Vm) (h : Heap) : Prop :=
  (md = false ∧ vm = s.vm) ∨ (md = true ∧ EW Z a0 EL ∧ (∃ k0, s.Since vm k0 ∧ k0 ≤ h.size) ∧ CHr Z EL s.vm h0 vm h)
def Wk (md : Bool) (EL : List (String × Nat)) (p : Program) (l : Launch) (e : Env) (R : Room) (s : State) (m : MethodId) (args : Array Value) (below : List Frame) (meth : Method) (c : Code) (S : State) (G : JFrame) (own : String) (B : ByteArray) (ml : Nat) (mn : String) (rt : Option FieldType) (Z : State) (a0 : Array Value) (n0 : Nat) (h0 : Heap) (vm : Vm) (h : Heap) (cells slots pc : Nat) (Ls : Array Slot) (St : List Value) : Prop :=
  (p.tables.exec = Jvm.exec ∧ c.code = B ∧ c.maxLocals = ml ∧ meth.name = mn ∧ meth.sig.returnType = rt ∧ meth.locks = false) ∧ Z.Warmed39 vm ∧ vm.findClass own = some m.cls ∧ Old Z n0 h ∧ h0.size ≤ h.size ∧ Md md EL s Z a0 h0 vm h ∧
    ∃ T locs, Stand p l e R (s.setVm vm) m args below meth c T locs cells slots ∧ T.heap = h ∧ Fr n0 locs ∧ Goes p e below S G T (mkF m pc Ls St)
section Wk
variable {md : Bool} {EL : List (String × Nat)} {p : Program} {l : Launch} {e : Env} {R : Room} {s : State} {m : MethodId} {args : Array Value} {below : List Frame} {meth : Method} {c : Code} {S : State} {G : JFrame} {own : String} {B : ByteArray} {ml : Nat} {mn : String} {rt : Option FieldType} {Z : State} {a0 : Array Value} {n0 : Nat} {h0 : Heap} {vm : Vm} {h h' : Heap} {cells slots pc pc' : Nat} {Ls Ls' : Array Slot} {St St' : List Value}
theorem Md.keep {ws : List Addr} (M : Md md EL s Z a0 h0 vm h) (K : Keep h h' ws) (hs : md = false ∨ ∀ w ∈ ws, Safe Z EL vm h w) : Md md EL s Z a0 h0 vm h' := by
  rcases M with ⟨e, q⟩ | ⟨e, w, ⟨k0, q1, q2⟩, q3⟩
  · exact Or.inl ⟨e, q⟩
  · rcases hs with hs | hs
    · rw [hs] at e; cases e
    · exact Or.inr ⟨e, w, ⟨k0, q1, Nat.le_trans q2 K.1⟩, q3.trans (CHr.keep K hs q3.1)⟩
theorem Wk.old (k : Wk md EL p l e R s m args below meth c S G own B ml mn rt Z a0 n0 h0 vm h cells slots pc Ls St) : Old Z n0 h := k.2.2.2.1
theorem Wk.sz (k : Wk md EL p l e R s m args below meth c S G own B ml mn rt Z a0 n0 h0 vm h cells slots pc Ls St) : h0.size ≤ h.size := k.2.2.2.2.1
theorem Wk.n0le (k : Wk md EL p l e R s m args below meth c S G own B ml mn rt Z a0 n0 h0 vm h cells slots pc Ls St) : n0 ≤ h.size := k.old.1 ▸ k.old.2.1
theorem Wk.al (k : Wk md EL p l e R s m args below meth c S G own B ml mn rt Z a0 n0 h0 vm h cells slots pc Ls St) : Z.vm.Alike vm := k.2.1.alike
theorem Wk.chv (k : Wk true EL p l e R s m args below meth c S G own B ml mn rt Z a0 n0 h0 vm h cells slots pc Ls St) : CHv Z EL vm h := by
  rcases k.2.2.2.2.2.1 with ⟨q, -⟩ | ⟨-, -, -, q⟩
  · cases q
  · exact q.1
theorem Wk.plain (k : Wk md EL p l e R s m args below meth c S G own B ml mn rt Z a0 n0 h0 vm h cells slots pc Ls St)
    (f : ∀ {s' T locs}, Stand p l e R s' m args below meth c T locs cells slots → p.tables.exec = Jvm.exec → c.code = B → Goes p e below S G T (mkF m pc Ls St) → Goes p e below S G T (mkF m pc' Ls' St')) :
    Wk md EL p l e R s m args below meth c S G own B ml mn rt Z a0 n0 h0 vm h cells slots pc' Ls' St' := by
  obtain ⟨q1, q2, q3, q4, q5, q6, T, locs, X, eT, N, g⟩ := k
  exact ⟨q1, q2, q3, q4, q5, q6, T, locs, X, eT, N, f X q1.1 q1.2.1 g⟩
theorem Wk.same (k : Wk md EL p l e R s m args below meth c S G own B ml mn rt Z a0 n0 h0 vm h cells slots pc Ls St)
    (f : ∀ {s' : State} {T locs}, Stand p l e R s' m args below meth c T locs cells slots → p.tables.exec = Jvm.exec → c.code = B → c.maxLocals = ml → Z.Warmed39 s'.vm → s'.vm.findClass own = some m.cls → T.heap = h →
      ∃ T', Stand p l e R s' m args below meth c T' locs cells slots ∧ T'.heap = h ∧ ∀ target, Steps p.tables e below (T'.setTop (mkF m pc' Ls' St')) target → Steps p.tables e below (T.setTop (mkF m pc Ls St)) target) :
    Wk md EL p l e R s m args below meth c S G own B ml mn rt Z a0 n0 h0 vm h cells slots pc' Ls' St' := by
  obtain ⟨q1, q2, q3, q4, q5, q6, T, locs, X, eT, N, g⟩ := k
  obtain ⟨T', X', eT', st⟩ := f X q1.1 q1.2.1 q1.2.2.1 q2 q3 eT
  exact ⟨q1, q2, q3, q4, q5, q6, T', locs, X', eT', N, fun t q => g t (st t q)⟩
theorem Wk.grow {cells' slots' : Nat} (k : Wk md EL p l e R s m args below meth c S G own B ml mn rt Z a0 n0 h0 vm h cells slots pc Ls St) {P : Heap → Prop}
    (f : ∀ {s' : State} {T locs}, Stand p l e R s' m args below meth c T locs cells slots → p.tables.exec = Jvm.exec → c.code = B → Z.Warmed39 s'.vm → s'.vm.findClass own = some m.cls → T.heap = h →
      ∃ T' h', Stand p l e R s' m args below meth c T' locs cells' slots' ∧ T'.heap = h' ∧ Ext h h' ∧ P h' ∧ ∀ target, Steps p.tables e below (T'.setTop (mkF m pc' Ls' St')) target → Steps p.tables e below (T.setTop (mkF m pc Ls St)) target) :
    ∃ h', Keep h h' [] ∧ P h' ∧ Wk md EL p l e R s m args below meth c S G own B ml mn rt Z a0 n0 h0 vm h' cells' slots' pc' Ls' St' := by
  obtain ⟨q1, q2, q3, q4, q5, q6, T, locs, X, eT, N, g⟩ := k
  obtain ⟨T', h', X', eT', E, hP, st⟩ := f X q1.1 q1.2.1 q2 q3 eT
  have K : Keep h h' [] := (Keep.refl h []).ext E
  exact ⟨h', K, hP, q1, q2, q3, q4.ext E, Nat.le_trans q5 E.1, q6.keep K (Or.inr fun _ z => nomatch z), T', locs, X', eT', N, fun t q => g t (st t q)⟩
theorem Wk.write {a : Addr} {sl : Nat} {v : Value} (k : Wk md EL p l e R s m args below meth c S G own B ml mn rt Z a0 n0 h0 vm h cells slots pc Ls St) (ha : n0 ≤ a) (hs : md = false ∨ Safe Z EL vm h a)
    (f : ∀ {s' : State} {T locs}, Stand p l e R s' m args below meth c T locs cells slots → p.tables.exec = Jvm.exec → c.code = B → meth.name = mn → Z.Warmed39 s'.vm → s'.vm.findClass own = some m.cls → T.heap = h →
      ∃ T' h', Stand p l e R s' m args below meth c T' (locs ++ [⟨a, sl⟩]) cells slots ∧ T'.heap = h' ∧ Wr h h' a sl v ∧ ∀ target, Steps p.tables e below (T'.setTop (mkF m pc' Ls' St')) target → Steps p.tables e below (T.setTop (mkF m pc Ls St)) target) :
    ∃ h', Wr h h' a sl v ∧ Wk md EL p l e R s m args below meth c S G own B ml mn rt Z a0 n0 h0 vm h' cells slots pc' Ls' St' := by
  obtain ⟨q1, q2, q3, q4, q5, q6, T, locs, X, eT, N, g⟩ := k
  obtain ⟨T', h', X', eT', W, st⟩ := f X q1.1 q1.2.1 q1.2.2.2.1 q2 q3 eT
  have K : Keep h h' [a] := Keep.of_wr W
  exact ⟨h', W, q1, q2, q3, q4.wr W ha, Nat.le_trans q5 K.1, q6.keep K (hs.imp id fun z w hw => by cases List.mem_singleton.mp hw; exact z), T', _, X', eT', Fr.snoc X' N ha, fun t q => g t (st t q)⟩
namespace Wk
theorem iloadN {i : Fin 4} {v : Int32} (k : Wk md EL p l e R s m args below meth c S G own B ml mn rt Z a0 n0 h0 vm h cells slots pc Ls St) (hd : Dc B pc (.iload_n i) 1 pc') (hl : Ls[i.val]? = some (.val (.int v))) : Wk md EL p l e R s m args below meth c S G own B ml mn rt Z a0 n0 h0 vm h cells slots pc' Ls (.int v :: St) :=
  k.plain fun X hx hb g => Fw.iloadN g X hx (by rw [hb]; exact hd.1) hl hd.2
theorem iload {i : Nat} {v : Int32} (k : Wk md EL p l e R s m args below meth c S G own B ml mn rt Z a0 n0 h0 vm h cells slots pc Ls St) (hd : Dc B pc (.iload i) 2 pc') (hl : Ls[i]? = some (.val (.int v))) : Wk md EL p l e R s m args below meth c S G own B ml mn rt Z a0 n0 h0 vm h cells slots pc' Ls (.int v :: St) :=
  k.plain fun X hx hb g => Fw.iload g X hx (by rw [hb]; exact hd.1) hl hd.2
theorem aloadN {i : Fin 4} {v : Value} (k : Wk md EL p l e R s m args below meth c S G own B ml mn rt Z a0 n0 h0 vm h cells slots pc Ls St) (hd : Dc B pc (.aload_n i) 1 pc') (hl : Ls[i.val]? = some (.val v)) (hv : v.isRef = true) : Wk md EL p l e R s m args below meth c S G own B ml mn rt Z a0 n0 h0 vm h cells slots pc' Ls (v :: St) :=
  k.plain fun X hx hb g => Fw.aloadN g X hx (by rw [hb]; exact hd.1) hl hv hd.2
theorem aload {i : Nat} {v : Value} (k : Wk md EL p l e R s m args below meth c S G own B ml mn rt Z a0 n0 h0 vm h cells slots pc Ls St) (hd : Dc B pc (.aload i) 2 pc') (hl : Ls[i]? = some (.val v)) (hv : v.isRef = true) : Wk md EL p l e R s m args below meth c S G own B ml mn rt Z a0 n0 h0 vm h cells slots pc' Ls (v :: St) :=
  k.plain fun X hx hb g => Fw.aload g X hx (by rw [hb]; exact hd.1) hl hv hd.2
theorem istoreN {i : Fin 4} {v : Int32} {Ls' : Array Slot} (k : Wk md EL p l e R s m args below meth c S G own B ml mn rt Z a0 n0 h0 vm h cells slots pc Ls (.int v :: St)) (hd : Dc B pc (.istore_n i) 1 pc') (hl : storeLocals Ls i.val (.int v) = some Ls') : Wk md EL p l e R s m args below meth c S G own B ml mn rt Z a0 n0 h0 vm h cells slots pc' Ls' St :=
  k.plain fun X hx hb g => Fw.istoreN g X hx (by rw [hb]; exact hd.1) hl hd.2
theorem istore {i : Nat} {v : Int32} {Ls' : Array Slot} (k : Wk md EL p l e R s m args below meth c S G own B ml mn rt Z a0 n0 h0 vm h cells slots pc Ls (.int v :: St)) (hd : Dc B pc (.istore i) 2 pc') (hl : storeLocals Ls i (.int v) = some Ls') : Wk md EL p l e R s m args below meth c S G own B ml mn rt Z a0 n0 h0 vm h cells slots pc' Ls' St :=
  k.plain fun X hx hb g => Fw.istore g X hx (by rw [hb]; exact hd.1) hl hd.2
theorem astoreN {i : Fin 4} {v : Value} {Ls' : Array Slot} (k : Wk md EL p l e R s m args below meth c S G own B ml mn rt Z a0 n0 h0 vm h cells slots pc Ls (v :: St)) (hd : Dc B pc (.astore_n i) 1 pc') (hv : v.isRef = true) (hl : storeLocals Ls i.val v = some Ls') : Wk md EL p l e R s m args below meth c S G own B ml mn rt Z a0 n0 h0 vm h cells slots pc' Ls' St :=
  k.plain fun X hx hb g => Fw.astoreN g X hx (by rw [hb]; exact hd.1) hv hl hd.2
theorem astore {i : Nat} {v : Value} {Ls' : Array Slot} (k : Wk md EL p l e R s m args below meth c S G own B ml mn rt Z a0 n0 h0 vm h cells slots pc Ls (v :: St)) (hd : Dc B pc (.astore i) 2 pc') (hv : v.isRef = true) (hl : storeLocals Ls i v = some Ls') : Wk md EL p l e R s m args below meth c S G own B ml mn rt Z a0 n0 h0 vm h cells slots pc' Ls' St :=
  k.plain fun X hx hb g => Fw.astore g X hx (by rw [hb]; exact hd.1) hv hl hd.2
theorem iconst {i : Int} (k : Wk md EL p l e R s m args below meth c S G own B ml mn rt Z a0 n0 h0 vm h cells slots pc Ls St) (hd : Dc B pc (.iconst i) 1 pc') (z : Int32) (hz : Int32.ofInt i = z := by decide) : Wk md EL p l e R s m args below meth c S G own B ml mn rt Z a0 n0 h0 vm h cells slots pc' Ls (.int z :: St) :=
  k.plain fun X hx hb g => Fw.iconst g X hx (by rw [hb]; exact hd.1) hz hd.2
theorem bipush {i : Int} (k : Wk md EL p l e R s m args below meth c S G own B ml mn rt Z a0 n0 h0 vm h cells slots pc Ls St) (hd : Dc B pc (.bipush i) 2 pc') (z : Int32) (hz : (Int8.ofInt i).toInt32 = z := by decide) : Wk md EL p l e R s m args below meth c S G own B ml mn rt Z a0 n0 h0 vm h cells slots pc' Ls (.int z :: St) :=
  k.plain fun X hx hb g => Fw.bipush g X hx (by rw [hb]; exact hd.1) hz hd.2
theorem sipush {i : Int} (k : Wk md EL p l e R s m args below meth c S G own B ml mn rt Z a0 n0 h0 vm h cells slots pc Ls St) (hd : Dc B pc (.sipush i) 3 pc') (z : Int32) (hz : (Int16.ofInt i).toInt32 = z := by decide) : Wk md EL p l e R s m args below meth c S G own B ml mn rt Z a0 n0 h0 vm h cells slots pc' Ls (.int z :: St) :=
  k.plain fun X hx hb g => Fw.sipush g X hx (by rw [hb]; exact hd.1) hz hd.2
theorem aconstNull  (k : Wk md EL p l e R s m args below meth c S G own B ml mn rt Z a0 n0 h0 vm h cells slots pc Ls St) (hd : Dc B pc (.aconst_null) 1 pc') : Wk md EL p l e R s m args below meth c S G own B ml mn rt Z a0 n0 h0 vm h cells slots pc' Ls (.null :: St) :=
  k.plain fun X hx hb g => Fw.aconstNull g X hx (by rw [hb]; exact hd.1) hd.2
theorem iadd {x y z : Int32} (k : Wk md EL p l e R s m args below meth c S G own B ml mn rt Z a0 n0 h0 vm h cells slots pc Ls (.int y :: .int x :: St)) (hd : Dc B pc (.iadd) 1 pc') (hz : x + y = z := by decide) : Wk md EL p l e R s m args below meth c S G own B ml mn rt Z a0 n0 h0 vm h cells slots pc' Ls (.int z :: St) :=
  k.plain fun X hx hb g => Fw.iadd g X hx (by rw [hb]; exact hd.1) hz hd.2
theorem isub {x y z : Int32} (k : Wk md EL p l e R s m args below meth c S G own B ml mn rt Z a0 n0 h0 vm h cells slots pc Ls (.int y :: .int x :: St)) (hd : Dc B pc (.isub) 1 pc') (hz : x - y = z := by decide) : Wk md EL p l e R s m args below meth c S G own B ml mn rt Z a0 n0 h0 vm h cells slots pc' Ls (.int z :: St) :=
  k.plain fun X hx hb g => Fw.isub g X hx (by rw [hb]; exact hd.1) hz hd.2
theorem iand {x y z : Int32} (k : Wk md EL p l e R s m args below meth c S G own B ml mn rt Z a0 n0 h0 vm h cells slots pc Ls (.int y :: .int x :: St)) (hd : Dc B pc (.iand) 1 pc') (hz : x &&& y = z := by decide) : Wk md EL p l e R s m args below meth c S G own B ml mn rt Z a0 n0 h0 vm h cells slots pc' Ls (.int z :: St) :=
  k.plain fun X hx hb g => Fw.iand g X hx (by rw [hb]; exact hd.1) hz hd.2
theorem ior {x y z : Int32} (k : Wk md EL p l e R s m args below meth c S G own B ml mn rt Z a0 n0 h0 vm h cells slots pc Ls (.int y :: .int x :: St)) (hd : Dc B pc (.ior) 1 pc') (hz : x ||| y = z := by decide) : Wk md EL p l e R s m args below meth c S G own B ml mn rt Z a0 n0 h0 vm h cells slots pc' Ls (.int z :: St) :=
  k.plain fun X hx hb g => Fw.ior g X hx (by rw [hb]; exact hd.1) hz hd.2
theorem i2b {x : Int32} {z : Int32} (k : Wk md EL p l e R s m args below meth c S G own B ml mn rt Z a0 n0 h0 vm h cells slots pc Ls (.int x :: St)) (hd : Dc B pc (.i2b) 1 pc') (hz : x.toInt8.toInt32 = z := by decide) : Wk md EL p l e R s m args below meth c S G own B ml mn rt Z a0 n0 h0 vm h cells slots pc' Ls (.int z :: St) :=
  k.plain fun X hx hb g => Fw.i2b g X hx (by rw [hb]; exact hd.1) hz hd.2
theorem i2c {x : Int32} {z : Int32} (k : Wk md EL p l e R s m args below meth c S G own B ml mn rt Z a0 n0 h0 vm h cells slots pc Ls (.int x :: St)) (hd : Dc B pc (.i2c) 1 pc') (hz : x.toUInt32.toUInt16.toUInt32.toInt32 = z := by decide) : Wk md EL p l e R s m args below meth c S G own B ml mn rt Z a0 n0 h0 vm h cells slots pc' Ls (.int z :: St) :=
  k.plain fun X hx hb g => Fw.i2c g X hx (by rw [hb]; exact hd.1) hz hd.2
theorem ishl {x y z : Int32} (k : Wk md EL p l e R s m args below meth c S G own B ml mn rt Z a0 n0 h0 vm h cells slots pc Ls (.int y :: .int x :: St)) (hd : Dc B pc (.ishl) 1 pc') (hz : x <<< (y &&& 31) = z := by decide) : Wk md EL p l e R s m args below meth c S G own B ml mn rt Z a0 n0 h0 vm h cells slots pc' Ls (.int z :: St) :=
  k.plain fun X hx hb g => Fw.ishl g X hx (by rw [hb]; exact hd.1) hz hd.2
theorem ishr {x y z : Int32} (k : Wk md EL p l e R s m args below meth c S G own B ml mn rt Z a0 n0 h0 vm h cells slots pc Ls (.int y :: .int x :: St)) (hd : Dc B pc (.ishr) 1 pc') (hz : x >>> (y &&& 31) = z := by decide) : Wk md EL p l e R s m args below meth c S G own B ml mn rt Z a0 n0 h0 vm h cells slots pc' Ls (.int z :: St) :=
  k.plain fun X hx hb g => Fw.ishr g X hx (by rw [hb]; exact hd.1) hz hd.2
theorem iushr {x y z : Int32} (k : Wk md EL p l e R s m args below meth c S G own B ml mn rt Z a0 n0 h0 vm h cells slots pc Ls (.int y :: .int x :: St)) (hd : Dc B pc (.iushr) 1 pc') (hz : (x.toUInt32 >>> (y &&& 31).toUInt32).toInt32 = z := by decide) : Wk md EL p l e R s m args below meth c S G own B ml mn rt Z a0 n0 h0 vm h cells slots pc' Ls (.int z :: St) :=
  k.plain fun X hx hb g => Fw.iushr g X hx (by rw [hb]; exact hd.1) hz hd.2
theorem irem {x y z : Int32} (k : Wk md EL p l e R s m args below meth c S G own B ml mn rt Z a0 n0 h0 vm h cells slots pc Ls (.int y :: .int x :: St)) (hd : Dc B pc (.irem) 1 pc') (hy : y ≠ 0) (hz : x % y = z := by decide) : Wk md EL p l e R s m args below meth c S G own B ml mn rt Z a0 n0 h0 vm h cells slots pc' Ls (.int z :: St) :=
  k.plain fun X hx hb g => Fw.irem g X hx (by rw [hb]; exact hd.1) hy hz hd.2
theorem iinc {i : Nat} {cst : Int} {x z : Int32} {Ls' : Array Slot} (k : Wk md EL p l e R s m args below meth c S G own B ml mn rt Z a0 n0 h0 vm h cells slots pc Ls St) (hd : Dc B pc (.iinc i cst) 3 pc') (hl : Ls[i]? = some (.val (.int x))) (hz : x + Int32.ofInt cst = z) (hl' : storeLocals Ls i (.int z) = some Ls') : Wk md EL p l e R s m args below meth c S G own B ml mn rt Z a0 n0 h0 vm h cells slots pc' Ls' St :=
  k.plain fun X hx hb g => Fw.iinc g X hx (by rw [hb]; exact hd.1) hl hz hl' hd.2
theorem dup {v : Value} (k : Wk md EL p l e R s m args below meth c S G own B ml mn rt Z a0 n0 h0 vm h cells slots pc Ls (v :: St)) (hd : Dc B pc (.dup) 1 pc') (hc : v.category = 1 := by decide) : Wk md EL p l e R s m args below meth c S G own B ml mn rt Z a0 n0 h0 vm h cells slots pc' Ls (v :: v :: St) :=
  k.plain fun X hx hb g => Fw.dup g X hx (by rw [hb]; exact hd.1) hc hd.2
theorem pop {v : Value} (k : Wk md EL p l e R s m args below meth c S G own B ml mn rt Z a0 n0 h0 vm h cells slots pc Ls (v :: St)) (hd : Dc B pc (.pop) 1 pc') (hc : v.category = 1 := by decide) : Wk md EL p l e R s m args below meth c S G own B ml mn rt Z a0 n0 h0 vm h cells slots pc' Ls St :=
  k.plain fun X hx hb g => Fw.pop g X hx (by rw [hb]; exact hd.1) hc hd.2
theorem goto {pc'' : Nat} {o : Int} (k : Wk md EL p l e R s m args below meth c S G own B ml mn rt Z a0 n0 h0 vm h cells slots pc Ls St) (hd : Dj B pc (.goto o) o pc' pc'') : Wk md EL p l e R s m args below meth c S G own B ml mn rt Z a0 n0 h0 vm h cells slots pc'' Ls St :=
  k.plain fun X hx hb g => Fw.goto g X hx (by rw [hb]; exact hd.1) hd.2.2.1 hd.2.2.2
theorem ifYes {pc'' : Nat} {o : Int} {cd : ClassFile.Cond} {x : Int32} (k : Wk md EL p l e R s m args below meth c S G own B ml mn rt Z a0 n0 h0 vm h cells slots pc Ls (.int x :: St)) (hd : Dj B pc (.ifCond cd o) o pc' pc'') (hc : ifCond.holds cd x = true := by decide) : Wk md EL p l e R s m args below meth c S G own B ml mn rt Z a0 n0 h0 vm h cells slots pc'' Ls St :=
  k.plain fun X hx hb g => Fw.ifYes g X hx (by rw [hb]; exact hd.1) hc hd.2.2.1 hd.2.2.2
theorem ifNo {pc'' : Nat} {o : Int} {cd : ClassFile.Cond} {x : Int32} (k : Wk md EL p l e R s m args below meth c S G own B ml mn rt Z a0 n0 h0 vm h cells slots pc Ls (.int x :: St)) (hd : Dj B pc (.ifCond cd o) o pc' pc'') (hc : ifCond.holds cd x = false := by decide) : Wk md EL p l e R s m args below meth c S G own B ml mn rt Z a0 n0 h0 vm h cells slots pc' Ls St :=
  k.plain fun X hx hb g => Fw.ifNo g X hx (by rw [hb]; exact hd.1) hc hd.2.1
theorem icmpYes {pc'' : Nat} {o : Int} {cd : ClassFile.Cond} {x y : Int32} (k : Wk md EL p l e R s m args below meth c S G own B ml mn rt Z a0 n0 h0 vm h cells slots pc Ls (.int y :: .int x :: St)) (hd : Dj B pc (.if_icmp cd o) o pc' pc'') (hc : if_icmp.holds cd x y = true := by decide) : Wk md EL p l e R s m args below meth c S G own B ml mn rt Z a0 n0 h0 vm h cells slots pc'' Ls St :=
  k.plain fun X hx hb g => Fw.icmpYes g X hx (by rw [hb]; exact hd.1) hc hd.2.2.1 hd.2.2.2
theorem icmpNo {pc'' : Nat} {o : Int} {cd : ClassFile.Cond} {x y : Int32} (k : Wk md EL p l e R s m args below meth c S G own B ml mn rt Z a0 n0 h0 vm h cells slots pc Ls (.int y :: .int x :: St)) (hd : Dj B pc (.if_icmp cd o) o pc' pc'') (hc : if_icmp.holds cd x y = false := by decide) : Wk md EL p l e R s m args below meth c S G own B ml mn rt Z a0 n0 h0 vm h cells slots pc' Ls St :=
  k.plain fun X hx hb g => Fw.icmpNo g X hx (by rw [hb]; exact hd.1) hc hd.2.1
end Wk
end Wk
/-! objects and arrays -/
section Objs
variable {Z : State} {h h' : Heap} {a b : Addr} {a0 : Array Value} {L : String × List (String × String × String × Value)} {vs vs' : List Value}
abbrev Lay : Type := String × List (String × String × String × Value)
def LOk (Z : State) (a0 : Array Value) (L : Lay) : Prop :=
  (∀ q ∈ L.2, Laid Z a0 L.1 q.1 q.2.1 q.2.2.1 ∧ ∃ t, parseFieldDescriptor q.2.2.1 = some t ∧ defaultValue t = q.2.2.2) ∧ (L.2.map fun q => q.2.1).Nodup
def Obj (Z : State) (h : Heap) (a : Addr) (L : Lay) (vs : List Value) : Prop :=
  Exa Z h a L.1 ∧ vs.length = L.2.length ∧ ∀ (i : Nat) (q : String × String × String × Value) (v : Value), L.2[i]? = some q → vs[i]? = some v → Fld Z h a q.1 q.2.1 q.2.2.1 v
theorem Obj.lt (O : Obj Z h a L vs) : a < h.size := O.1.lt
theorem Obj.exa (O : Obj Z h a L vs) : Exa Z h a L.1 := O.1
theorem Obj.keep {ws : List Addr} (O : Obj Z h a L vs) (W : Keep h h' ws) (n : a ∉ ws) : Obj Z h' a L vs := ⟨O.1.keep W, O.2.1, fun i q v q1 q2 => (O.2.2 i q v q1 q2).keep W n⟩
theorem Obj.ext (O : Obj Z h a L vs) (E : Ext h h') : Obj Z h' a L vs := ⟨O.1.ext E, O.2.1, fun i q v q1 q2 => (O.2.2 i q v q1 q2).ext E⟩
theorem Obj.at (O : Obj Z h a L vs) (i : Nat) {C f d : String} {v w : Value} (e : L.2[i]? = some (C, f, d, w)) (e' : vs[i]? = some v) : Fld Z h a C f d v := O.2.2 i _ v e e'
theorem Obj.put (O : Obj Z h a L vs) (K : LOk Z a0 L) (k : Nat) {C f d : String} {v w : Value} (e : L.2[k]? = some (C, f, d, w)) (W : Wr h h' a (Jvm.RoadKit.slotOf Z C f d) v) : Obj Z h' a L (vs.set k v) := by
  obtain ⟨O1, O2, O3⟩ := O
  refine ⟨O1.wr W, by rw [List.length_set]; exact O2, fun j q u hj hu => ?_⟩
  have hk : k < vs.length := by rw [O2]; exact (List.getElem?_eq_some_iff.mp e).1
  by_cases hne : k = j
  · subst hne
    cases hj.symm.trans e
    rw [List.getElem?_set_self hk] at hu
    cases hu
    exact (O3 k _ _ e (List.getElem?_eq_getElem hk)).same W
  · rw [List.getElem?_set_ne hne] at hu
    obtain ⟨l1, t1, ht1, -⟩ := K.1 _ (List.mem_of_getElem? hj)
    obtain ⟨l2, t2, ht2, -⟩ := K.1 _ (List.mem_of_getElem? e)
    refine (O3 j q u hj hu).other W (Or.inr (Jvm.RoadKit.slot_ne l1 l2 (fun heq => ?_) ht1 ht2))
    have e1 : (L.2.map fun q => q.2.1)[j]? = some q.2.1 := by simp [List.getElem?_map, hj]
    have e2 : (L.2.map fun q => q.2.1)[k]? = some f := by simp [List.getElem?_map, e]
    have hl1 := (List.getElem?_eq_some_iff.mp e1).1
    exact hne (((List.getElem?_inj hl1 K.2).mp (by rw [e1, e2, heq])).symm)
theorem Obj.new (K : LOk Z a0 L) (A : Exa Z h b L.1) (D : ∀ {O nm d : String} {ty : FieldType}, Laid Z a0 L.1 O nm d → parseFieldDescriptor d = some ty → Fld Z h b O nm d (defaultValue ty)) : Obj Z h b L (L.2.map fun q => q.2.2.2) := by
  refine ⟨A, by simp, fun i q v hq hv => ?_⟩
  obtain ⟨l1, t1, ht1, e1⟩ := K.1 _ (List.mem_of_getElem? hq)
  rw [List.getElem?_map, hq] at hv
  cases hv
  show Fld Z h b q.1 q.2.1 q.2.2.1 q.2.2.2
  rw [← e1]
  exact D l1 ht1
def FL (Z : State) (a0 : Array Value) (own : String) (index : Nat) (C f d : String) : Prop := ∃ R0 host, ((Cond.fieldLink own index R0 f d).before a0 Z = true ∨ (Cond.fieldLinkNest own index R0 f d host).before a0 Z = true) ∧ Via Z R0 C f d
def FP (Z : State) (a0 : Array Value) (own : String) (index : Nat) (C f d : String) : Prop := ∃ R0, (Cond.fieldLink own index R0 f d).before a0 Z = true ∧ Via Z R0 C f d
def PW (Z : State) (a0 : Array Value) (own mn : String) (L : Lay) (C f d : String) (ty : FieldType) : Prop :=
  LOk Z a0 L ∧ ((Cond.lays L.1 C f d).before a0 Z = true ∨ ((Cond.laysFinal L.1 C f d).before a0 Z = true ∧ own = C ∧ mn = "<init>")) ∧ (∃ kk, (Cond.instantiable L.1 kk).before a0 Z = true) ∧ parseFieldDescriptor d = some ty
def NW (Z : State) (a0 : Array Value) (L : Lay) (n : Nat) : Prop := LOk Z a0 L ∧ (Cond.instantiable L.1 n).before a0 Z = true ∧ (Cond.initialized L.1).before a0 Z = true
def OvT (Z : State) (ty : FieldType) (k : ClassId) : Prop := (∀ C, ty = .object C → Ovr Z k C) ∧ ∀ t, ty = .array t → OvrA Z k t (FieldType.array t).toString
theorem OvT.of_prim {ty : FieldType} {k : ClassId} (q : refKind ty = false) : OvT Z ty k := ⟨fun C e => (by subst e; cases q), fun t e => (by subst e; cases q)⟩
def Ary (Z : State) (h : Heap) (a : Addr) (T : String × FieldType) (n : Nat) (f : Nat → Value) : Prop :=
  (T.1 = "" ∨ Exa Z h a T.1) ∧ ∃ c : Cell, Arr Z h a c T.2 ∧ OvT Z T.2 c.cls ∧ c.slots.size = n ∧ n < 2147483648 ∧ (∀ i, i < n → c.slots[i]? = some (f i)) ∧ ∀ i, i < n → fits T.2 (f i) = true
variable {T : String × FieldType} {n : Nat} {f : Nat → Value}
theorem Ary.lt (A : Ary Z h a T n f) : a < h.size := by obtain ⟨-, c, q, -⟩ := A; exact (Array.getElem?_eq_some_iff.mp q.1).1
theorem Ary.exa (A : Ary Z h a T n f) (q : T.1 ≠ "") : Exa Z h a T.1 := A.1.resolve_left q
theorem Ary.keep {ws : List Addr} (A : Ary Z h a T n f) (W : Keep h h' ws) (q : a ∉ ws) : Ary Z h' a T n f := by
  obtain ⟨e, c, A1, r⟩ := A; exact ⟨e.imp id (·.keep W), c, ⟨W.2.1 a c A1.1 q, A1.2⟩, r⟩
theorem Ary.norm {g : Nat → Value} (A : Ary Z h a T n f) (q : ∀ i, i < n → f i = g i) : Ary Z h a T n g := by
  obtain ⟨x, c, A1, hk, hs, hn, hf, hfit⟩ := A
  exact ⟨x, c, A1, hk, hs, hn, fun i hi => by rw [← q i hi]; exact hf i hi, fun i hi => by rw [← q i hi]; exact hfit i hi⟩
theorem Ary.open (A : Ary Z h a T n f) {j : Int32} {i : Nat} (q : ¬ j < 0 ∧ j.toNatClampNeg = i ∧ i < n) : ∃ c : Cell, Arr Z h a c T.2 ∧ ¬ (j < 0 ∨ c.slots.size ≤ j.toNatClampNeg) ∧ c.slots[j.toNatClampNeg]? = some (f i) ∧ OvT Z T.2 c.cls ∧ fits T.2 (f i) = true := by
  obtain ⟨-, c, A1, hk, hs, hn, hf, hfit⟩ := A
  refine ⟨c, A1, fun x => x.elim q.1 (fun y => by omega), by rw [q.2.1]; exact hf i q.2.2, hk, hfit i q.2.2⟩
theorem Ary.set (A : Ary Z h a T n f) {j : Nat} {v : Value} (W : Wr h h' a j v) {i : Nat} (e : j = i) (hv : fits T.2 v = true) : Ary Z h' a T n (updv f i v) := by
  subst e
  obtain ⟨x, c, A1, hk, hs, hn, hf, hfit⟩ := A
  refine ⟨x.imp id (·.wr W), _, A1.same W, hk, by rw [sz_set]; exact hs, hn, fun i hi => ?_, fun i hi => ?_⟩
  · by_cases q : i = j
    · subst q; simp [Cell.setSlot, updv, hs, hi]
    · simp [Cell.setSlot, updv, q, Array.getElem?_setIfInBounds_ne (Ne.symm q), hf i hi]
  · by_cases q : i = j
    · subst q; simp [updv, hv]
    · simp [updv, q, hfit i hi]
theorem Ary.new {z : Int32} {k : ClassId} (A : Arr Z h a (newA k T.2 z) T.2) (O : OvT Z T.2 k) (E : Exa Z h a T.1) (q : ¬ z < 0) (e : z.toNatClampNeg = n) : Ary Z h a T n (fun _ => defaultValue T.2) := by
  subst e
  refine ⟨Or.inr E, _, A, O, sz_new _ _ _, (back32 q).2, fun i hi => ?_, fun i hi => fits_default T.2⟩
  simp [newA, hi]
def lv (V : List Value) : Nat → Value := fun i => V.getD i .null
end Objs
/-! steps on the heap -/
section Ops
variable {md : Bool} {EL : List (String × Nat)} {p : Program} {l : Launch} {e : Env} {R : Room} {s : State} {m : MethodId} {args : Array Value} {below : List Frame} {meth : Method} {c : Code} {S : State} {G : JFrame} {own : String} {B : ByteArray} {ml : Nat} {mn : String} {rt : Option FieldType} {Z : State} {a0 : Array Value} {n0 : Nat} {h0 : Heap} {vm : Vm} {h h' : Heap} {cells slots pc pc' : Nat} {Ls Ls' : Array Slot} {St St' : List Value} {L : Lay} {vs vs' : List Value} {a : Addr} {C f d : String} {v w : Value} {index : Nat} {ty : FieldType} {A : String × FieldType} {n : Nat} {F F' : Nat → Value}
theorem Wk.getS (k : Wk md EL p l e R s m args below meth c S G own B ml mn rt Z a0 n0 h0 vm h cells slots pc Ls St) (w : FL Z a0 own index C f d) (F : Sta Z Z.heap C f d v) (hd : Dc B pc (.getstatic index) 3 pc') :
    Wk md EL p l e R s m args below meth c S G own B ml mn rt Z a0 n0 h0 vm h cells slots pc' Ls (v :: St) := by
  have O := k.old
  obtain ⟨hd, rfl⟩ := hd
  obtain ⟨R0, host, w, via⟩ := w
  refine k.same fun X hx hb _ hZ hown eT => ?_
  exact getS2 X hx hZ hown w via eT (F.ext O.2) (g := mkF m pc Ls St) rfl (by rw [hb]; exact hd)
theorem Wk.getF (k : Wk md EL p l e R s m args below meth c S G own B ml mn rt Z a0 n0 h0 vm h cells slots pc Ls (.ref a :: St)) (w' : FL Z a0 own index C f d) (O : Obj Z h a L vs) (i : Nat) (hd : Dc B pc (.getfield index) 3 pc') (hi : L.2[i]? = some (C, f, d, w)) (hv : vs[i]? = some v) :
    Wk md EL p l e R s m args below meth c S G own B ml mn rt Z a0 n0 h0 vm h cells slots pc' Ls (v :: St) := by
  obtain ⟨hd, rfl⟩ := hd
  obtain ⟨R0, host, w, via⟩ := w'
  refine k.same fun X hx hb _ hZ hown eT => ?_
  exact Jvm.RoadKit.getF X hx hZ hown w via eT (O.at i hi hv) (g := mkF m pc Ls (.ref a :: St)) rfl rfl (by rw [hb]; exact hd)
theorem Wk.putF (k : Wk md EL p l e R s m args below meth c S G own B ml mn rt Z a0 n0 h0 vm h cells slots pc Ls (v :: .ref a :: St)) (wl : FL Z a0 own index C f d) (W : PW Z a0 own mn L C f d ty) (O : Obj Z h a L vs) (i : Nat) (ha : n0 ≤ a) (hs : md = false ∨ Safe Z EL vm h a) (hd : Dc B pc (.putfield index) 3 pc') (hi : L.2[i]? = some (C, f, d, w))
    (hn : narrow ty v = v) (hf : fits ty v = true) (hv : vs.set i v = vs') :
    ∃ h', Keep h h' [a] ∧ Obj Z h' a L vs' ∧ Wk md EL p l e R s m args below meth c S G own B ml mn rt Z a0 n0 h0 vm h' cells slots pc' Ls St := by
  obtain ⟨hd, rfl⟩ := hd
  obtain ⟨R0, host, wl, via⟩ := wl
  obtain ⟨W1, W2, ⟨kk, W3⟩, W4⟩ := W
  have hi' : i < vs.length := by rw [O.2.1]; exact (List.getElem?_eq_some_iff.mp hi).1
  obtain ⟨h', Wr', k⟩ := k.write (a := a) (sl := Jvm.RoadKit.slotOf Z C f d) (v := v) (pc' := pc + 3) (Ls' := Ls) (St' := St) ha hs fun X hx hb hnm hZ hown eT => by
    exact Jvm.RoadKit.putF X hx hZ hown wl via eT (O.at i hi (List.getElem?_eq_getElem hi')) O.exa (W2.imp id fun q => ⟨q.1, q.2.1, hnm.trans q.2.2⟩) W3 W4 hn hf (g := mkF m pc Ls (v :: .ref a :: St)) rfl rfl (by rw [hb]; exact hd)
  exact ⟨h', Keep.of_wr Wr', hv ▸ O.put W1 i hi Wr', k⟩
theorem Wk.putN {v' : Value} (k : Wk md EL p l e R s m args below meth c S G own B ml mn rt Z a0 n0 h0 vm h cells slots pc Ls (v :: .ref a :: St)) (wl : FP Z a0 own index C f d) (W : PW Z a0 own mn L C f d ty) (O : Obj Z h a L vs) (i : Nat) (ha : n0 ≤ a) (hs : md = false ∨ Safe Z EL vm h a) (hd : Dc B pc (.putfield index) 3 pc') (hi : L.2[i]? = some (C, f, d, w))
    (hn : narrow ty v = v') (hf : fits ty v' = true) (hv : vs.set i v' = vs') :
    ∃ h', Keep h h' [a] ∧ Obj Z h' a L vs' ∧ Wk md EL p l e R s m args below meth c S G own B ml mn rt Z a0 n0 h0 vm h' cells slots pc' Ls St := by
  obtain ⟨hd, rfl⟩ := hd
  obtain ⟨R0, wl, via⟩ := wl
  obtain ⟨W1, W2, ⟨kk, W3⟩, W4⟩ := W
  have hi' : i < vs.length := by rw [O.2.1]; exact (List.getElem?_eq_some_iff.mp hi).1
  obtain ⟨h', Wr', k⟩ := k.write (a := a) (sl := Jvm.RoadKit.slotOf Z C f d) (v := v') (pc' := pc + 3) (Ls' := Ls) (St' := St) ha hs fun X hx hb hnm hZ hown eT => by
    exact Jvm.RoadKit.putFN X hx hZ hown wl via eT (O.at i hi (List.getElem?_eq_getElem hi')) O.exa (W2.imp id fun q => ⟨q.1, q.2.1, hnm.trans q.2.2⟩) W3 W4 hn hf (g := mkF m pc Ls (v :: .ref a :: St)) rfl rfl (by rw [hb]; exact hd)
  exact ⟨h', Keep.of_wr Wr', hv ▸ O.put W1 i hi Wr', k⟩
theorem Wk.new (k : Wk md EL p l e R s m args below meth c S G own B ml mn rt Z a0 n0 h0 vm h cells slots pc Ls St) (wl : (Cond.classLink own index L.1).before a0 Z = true) (W : NW Z a0 L n) (hd : Dc B pc (.new index) 3 pc') (hc : cells + 1 ≤ R.cells ∧ slots + n ≤ R.slots) (hv : (L.2.map fun q => q.2.2.2) = vs) :
    ∃ b h', h.size ≤ b ∧ Keep h h' [] ∧ Obj Z h' b L vs ∧ Wk md EL p l e R s m args below meth c S G own B ml mn rt Z a0 n0 h0 vm h' (cells + 1) (slots + n) pc' Ls (.ref b :: St) := by
  obtain ⟨hd, rfl⟩ := hd
  subst hv
  obtain ⟨h', K, O, k⟩ := k.grow (P := fun h' => Obj Z h' h.size L (L.2.map fun q => q.2.2.2)) (cells' := cells + 1) (slots' := slots + n) (pc' := pc + 3) (Ls' := Ls) (St' := .ref h.size :: St) fun X hx hb hZ hown eT => by
    obtain ⟨T', h', X', eT', E, A, D, -, st⟩ := newO X hx hZ hown wl W.2.1 W.2.2 eT (g := mkF m pc Ls St) rfl (by rw [hb]; exact hd) hc.1 hc.2
    exact ⟨T', h', X', eT', E, Obj.new W.1 A D, st⟩
  exact ⟨h.size, h', Nat.le_refl _, K, O, k⟩
theorem Wk.newP {aty : ArrayType} {z : Int32} (k : Wk md EL p l e R s m args below meth c S G own B ml mn rt Z a0 n0 h0 vm h cells slots pc Ls (.int z :: St)) (A : String) (w : (Cond.arrayClass (newarray.typeOf aty)).before a0 Z = true) (hA : "[" ++ (newarray.typeOf aty).toString = A ∧ refKind (newarray.typeOf aty) = false) (hd : Dc B pc (.newarray aty) 2 pc') (cap : Nat) (hz : ¬ z < 0) (hn : z.toNatClampNeg = n) (hcap : n ≤ cap) (hc : cap * 8 ≤ 536870912 ∧ cells + 1 ≤ R.cells ∧ slots + cap ≤ R.slots) (hF : ∀ j, j < n → defaultValue (newarray.typeOf aty) = F j) :
    ∃ b h', h.size ≤ b ∧ Keep h h' [] ∧ Ary Z h' b (A, newarray.typeOf aty) n F ∧ Wk md EL p l e R s m args below meth c S G own B ml mn rt Z a0 n0 h0 vm h' (cells + 1) (slots + cap) pc' Ls (.ref b :: St) := by
  obtain ⟨hd, rfl⟩ := hd
  subst hn
  obtain ⟨h', K, O, k⟩ := k.grow (P := fun h' => Ary Z h' h.size (A, newarray.typeOf aty) z.toNatClampNeg F) (cells' := cells + 1) (slots' := slots + cap) (pc' := pc + 2) (Ls' := Ls) (St' := .ref h.size :: St) fun X hx hb hZ hown eT => by
    obtain ⟨T', h', cA, X', eT', E, Aa, U, st⟩ := newPE (aty := aty) X hx hZ w eT (g := mkF m pc Ls (.int z :: St)) rfl (by rw [hb]; exact hd) rfl hz hcap hc.1 hc.2.1 hc.2.2 hA.1
    exact ⟨T', h', X', eT', E, (Ary.new (T := (A, newarray.typeOf aty)) Aa (OvT.of_prim hA.2) U hz rfl).norm hF, st⟩
  exact ⟨h.size, h', Nat.le_refl _, K, O, k⟩
theorem Wk.alen {z : Int32} (k : Wk md EL p l e R s m args below meth c S G own B ml mn rt Z a0 n0 h0 vm h cells slots pc Ls (.ref a :: St)) (O : Ary Z h a A n F) (hd : Dc B pc .arraylength 1 pc') (hz : Int32.ofNat n = z) :
    Wk md EL p l e R s m args below meth c S G own B ml mn rt Z a0 n0 h0 vm h cells slots pc' Ls (.int z :: St) := by
  obtain ⟨hd, rfl⟩ := hd
  obtain ⟨-, cl, A1, -, hs, -⟩ := O
  refine k.same fun X hx hb _ hZ hown eT => ⟨_, X, eT, fun t q => ?_⟩
  exact X.arraylength hx (by rw [eT]; exact A1.1) (State.isArrayOf_alike hZ.alike A1.2.1) (g := mkF m pc Ls (.ref a :: St)) rfl rfl (by rw [hb]; exact hd) _ (by rw [hs, show n.toInt32 = z from hz]; exact q)
theorem Wk.cald {j : Int32} {i : Nat} (k : Wk md EL p l e R s m args below meth c S G own B ml mn rt Z a0 n0 h0 vm h cells slots pc Ls (.int j :: .ref a :: St)) (O : Ary Z h a (C, .char) n F) (hd : Dc B pc .caload 1 pc') (hj : ¬ j < 0 ∧ j.toNatClampNeg = i ∧ i < n) (hv : F i = v) : Wk md EL p l e R s m args below meth c S G own B ml mn rt Z a0 n0 h0 vm h cells slots pc' Ls (v :: St) := by
  obtain ⟨hd, rfl⟩ := hd; subst hv
  obtain ⟨cl, A1, hin, hat, -, -⟩ := O.open hj
  exact k.same fun X hx hb _ hZ hown eT => ⟨_, X, eT, fun t q => X.caload hx (j := j) (v := F i) (by rw [eT]; exact A1.1) (State.isArrayOf_alike hZ.alike A1.2.1) A1.2.2 hin hat (g := mkF m pc Ls (.int j :: .ref a :: St)) rfl rfl (by rw [hb]; exact hd) _ q⟩
theorem Wk.bald {j : Int32} {i : Nat} (k : Wk md EL p l e R s m args below meth c S G own B ml mn rt Z a0 n0 h0 vm h cells slots pc Ls (.int j :: .ref a :: St)) (O : Ary Z h a (C, .byte) n F) (hd : Dc B pc .baload 1 pc') (hj : ¬ j < 0 ∧ j.toNatClampNeg = i ∧ i < n) (hv : F i = v) : Wk md EL p l e R s m args below meth c S G own B ml mn rt Z a0 n0 h0 vm h cells slots pc' Ls (v :: St) := by
  obtain ⟨hd, rfl⟩ := hd; subst hv
  obtain ⟨cl, A1, hin, hat, -, -⟩ := O.open hj
  exact k.same fun X hx hb _ hZ hown eT => ⟨_, X, eT, fun t q => X.baloadBytes hx (j := j) (v := F i) (by rw [eT]; exact A1.1) (State.isArrayOf_alike hZ.alike A1.2.1) A1.2.2 hin hat (g := mkF m pc Ls (.int j :: .ref a :: St)) rfl rfl (by rw [hb]; exact hd) _ q⟩
theorem Wk.stB {j x : Int32} {i : Nat} (k : Wk md EL p l e R s m args below meth c S G own B ml mn rt Z a0 n0 h0 vm h cells slots pc Ls (.int x :: .int j :: .ref a :: St)) (O : Ary Z h a (C, .byte) n F) (ha : n0 ≤ a) (hs : md = false ∨ Safe Z EL vm h a) (hd : Dc B pc .bastore 1 pc') (hj : ¬ j < 0 ∧ j.toNatClampNeg = i ∧ i < n) (hv : (.int (nar .byte x)) = v) (hf : fits .byte v = true) (hF : ∀ q, q < n → updv F i v q = F' q) :
    ∃ h', Keep h h' [a] ∧ Ary Z h' a (C, .byte) n F' ∧ Wk md EL p l e R s m args below meth c S G own B ml mn rt Z a0 n0 h0 vm h' cells slots pc' Ls St := by
  obtain ⟨hd, rfl⟩ := hd
  obtain ⟨cl, A1, hin, -, -, -⟩ := O.open hj
  subst hv
  obtain ⟨h', W, k⟩ := k.write (a := a) (sl := j.toNatClampNeg) (v := .int (nar .byte x)) (pc' := pc + 1) (Ls' := Ls) (St' := St) ha hs fun X hx hb _ hZ hown eT => stB X hx hZ eT A1 hin (g := mkF m pc Ls (.int x :: .int j :: .ref a :: St)) rfl rfl (by rw [hb]; exact hd)
  exact ⟨h', Keep.of_wr W, (O.set W hj.2.1 hf).norm hF, k⟩
theorem Wk.stC {j x : Int32} {i : Nat} (k : Wk md EL p l e R s m args below meth c S G own B ml mn rt Z a0 n0 h0 vm h cells slots pc Ls (.int x :: .int j :: .ref a :: St)) (O : Ary Z h a (C, .char) n F) (ha : n0 ≤ a) (hs : md = false ∨ Safe Z EL vm h a) (hd : Dc B pc .castore 1 pc') (hj : ¬ j < 0 ∧ j.toNatClampNeg = i ∧ i < n) (hv : (.int (nar .char x)) = v) (hf : fits .char v = true) (hF : ∀ q, q < n → updv F i v q = F' q) :
    ∃ h', Keep h h' [a] ∧ Ary Z h' a (C, .char) n F' ∧ Wk md EL p l e R s m args below meth c S G own B ml mn rt Z a0 n0 h0 vm h' cells slots pc' Ls St := by
  obtain ⟨hd, rfl⟩ := hd
  obtain ⟨cl, A1, hin, -, -, -⟩ := O.open hj
  subst hv
  obtain ⟨h', W, k⟩ := k.write (a := a) (sl := j.toNatClampNeg) (v := .int (nar .char x)) (pc' := pc + 1) (Ls' := Ls) (St' := St) ha hs fun X hx hb _ hZ hown eT => stC X hx hZ eT A1 hin (g := mkF m pc Ls (.int x :: .int j :: .ref a :: St)) rfl rfl (by rw [hb]; exact hd)
  exact ⟨h', Keep.of_wr W, (O.set W hj.2.1 hf).norm hF, k⟩
end Ops
/-! contracts and calls -/
section Calls
variable {md : Bool} {EL : List (String × Nat)} {p : Program} {l : Launch} {e : Env} {R : Room} {s : State} {m : MethodId} {args : Array Value} {below : List Frame} {meth : Method} {c : Code} {S : State} {G : JFrame} {own : String} {B : ByteArray} {ml : Nat} {mn : String} {rt : Option FieldType} {Z : State} {a0 : Array Value} {n0 : Nat} {h0 : Heap} {vm : Vm} {h h' : Heap} {cells slots pc pc' : Nat} {Ls Ls' : Array Slot} {St St' : List Value} {index : Nat} {y z : MethodName} {cd : Cond} {rm : Room} {as' : Array Value} {maxL np ck sk W len : Nat} {ret : Option FieldType} {Q : Option Value → Heap → Prop} {argsL rest : List Value}
def Mt (md : Bool) (EL : List (String × Nat)) (l : Launch) (y : MethodName) (cd : Cond) (rm : Room) (as' : Array Value) (Z : State) (a0 : Array Value) (h0 : Heap) (n0 : Nat) (Q : Option Value → Heap → Prop) : Prop :=
  Old Z n0 h0 → (md = true → EW Z a0 EL) → ∀ ws : List Cond, MetFree l y (head1 (cd :: ws) rm) (fun a U => a = as' ∧ Z.Warmed39 U.vm ∧ U.heap = h0 ∧ (md = true → CHv Z EL U.vm h0)) (fun _ _ _ _ _ => True)
    (fun _ U o U' => ∃ v L, o = .returned v ∧ (Fr n0 L ∧ Q v U'.heap) ∧ ((md = false ∧ FrameEnd U o U' L rm.cells rm.slots) ∨ (md = true ∧ CHr Z EL U.vm U.heap U'.vm U'.heap ∧ ReturnedEndW U o U' L rm.cells rm.slots)))
def Py (l : Launch) (R : Room) (p : Program) (e : Env) (below : List Frame) (s : State) (args : Array Value) (n0 : Nat) (y : MethodName) (len W : Nat) (as' : Array Value) (h : Heap) (ck sk : Nat) (Q : Option Value → Heap → Prop) : Prop :=
  Back l R p e below s args y len W (fun A a => a = as' ∧ A.U.heap = h ∧ A.cells + ck ≤ R.cells ∧ A.slots + sk ≤ R.slots) (fun A _ v B => ∃ L, (Fr n0 L ∧ Q v B.U.heap) ∧ B.locs = A.locs ++ L ∧ B.cells = A.cells + ck ∧ B.slots = A.slots + sk)
def CW (Z : State) (a0 : Array Value) (y : MethodName) (cd : Cond) (maxL : Nat) (ret : Option FieldType) (np : Nat) : Prop :=
  (∃ bytes, cd = .code y bytes maxL ret ∨ ∃ hs, cd = .codeWith y bytes maxL ret hs) ∧ cd.before a0 Z = true ∧ (Cond.initialized y.cls).before a0 Z = true ∧ (y.cls ≠ "java/lang/invoke/MethodHandle" ∧ y.cls ≠ "java/lang/invoke/VarHandle") ∧ ∃ ps r, parseMethodDescriptor y.desc = some ⟨ps, r⟩ ∧ ps.length = np
theorem Mt.free (M : Mt false EL l y cd rm as' Z a0 h n0 Q) (O : Old Z n0 h) :
    MetFree l y (head1 [cd] rm) (fun a U => a = as' ∧ Z.Warmed39 U.vm ∧ U.heap = h) (fun _ _ _ _ _ => True) (fun _ U o U' => ∃ v L, o = .returned v ∧ (Fr n0 L ∧ Q v U'.heap) ∧ FrameEnd U o U' L rm.cells rm.slots) := by
  intro p e ha hc hk s m args below hf happ hP hK
  obtain ⟨n, o, h1, h2, h3, v, L, e1, e2, e3⟩ := M O (fun q => nomatch q) [] p e ha hc hk s m args below hf happ ⟨hP.1, hP.2.1, hP.2.2, fun q => nomatch q⟩ hK
  refine ⟨n, o, h1, h2, h3, v, L, e1, e2, ?_⟩
  rcases e3 with ⟨-, e3⟩ | ⟨q, -⟩
  · exact e3
  · cases q
theorem Mt.pay (M : Mt false EL l y cd rm as' Z a0 h n0 Q) (C : CW Z a0 y cd maxL ret np) (O : Old Z n0 h) (hZ : Z.Warmed39 s.vm) (hf : rm.frames + 1 ≤ R.frames) (hl : W + (maxL + 11) + rm.locals ≤ R.locals) : Py l R p e below s args n0 y len W as' h rm.cells rm.slots Q := by
  obtain ⟨⟨bytes, hc⟩, wc, wz, -, -⟩ := C
  have F := M.free O
  rcases hc with rfl | ⟨hs, rfl⟩
  · exact backOf (Q := fun v h L => Fr n0 L ∧ Q v h) F hZ wc wz hf hl
  · exact backOfWith (Q := fun v h L => Fr n0 L ∧ Q v h) F hZ wc wz hf hl
def Cl (md : Bool) (EL : List (String × Nat)) (p : Program) (l : Launch) (e : Env) (R : Room) (s : State) (m : MethodId) (args : Array Value) (below : List Frame) (meth : Method) (c : Code) (S : State) (G : JFrame) (own : String) (B : ByteArray) (ml : Nat) (mn : String) (rt : Option FieldType) (Z : State) (a0 : Array Value) (n0 : Nat) (h0 : Heap) (vm : Vm) (h : Heap) (cells slots pc : Nat) (Ls : Array Slot) (rest : List Value) (Q : Option Value → Heap → Prop) : Prop :=
  ∀ ws : List Addr, (∀ v h', Q v h' → Keep h h' ws) → (∀ w ∈ ws, n0 ≤ w) → (md = false ∨ ∀ w ∈ ws, Safe Z EL vm h w) → ∃ v h', Q v h' ∧ Wk md EL p l e R s m args below meth c S G own B ml mn rt Z a0 n0 h0 vm h' cells slots pc Ls (v.toList ++ rest)
theorem Wk.called (k : Wk md EL p l e R s m args below meth c S G own B ml mn rt Z a0 n0 h0 vm h cells slots pc Ls St)
    (f : ∀ {s' : State} {T locs}, Stand p l e R s' m args below meth c T locs cells slots → p.tables.exec = Jvm.exec → c.code = B → c.maxLocals = ml → Z.Warmed39 s'.vm → s'.vm.findClass own = some m.cls → T.heap = h →
      ∃ v vm₁ B', s'.WarmedH vm₁ ∧ Stand p l e R s' m args below meth c (Pt.U B') (Pt.locs B') (Pt.cells B') (Pt.slots B') ∧ (∃ L, (Fr n0 L ∧ Q v (Pt.U B').heap) ∧ Pt.locs B' = locs ++ L ∧ Pt.cells B' = cells + ck ∧ Pt.slots B' = slots + sk) ∧ Steps p.tables e below (T.setTop (mkF m pc Ls St)) ((Pt.U B').setTop (mkF m pc' Ls (v.toList ++ rest)))) :
    Cl md EL p l e R s m args below meth c S G own B ml mn rt Z a0 n0 h0 vm h (cells + ck) (slots + sk) pc' Ls rest Q := by
  intro ws hq hn hs
  obtain ⟨q1, q2, q3, q4, q5, q6, T, locs, X, eT, N, g⟩ := k
  obtain ⟨v, vm₁, ⟨T', L', c', n'⟩, -, X', ⟨L, ⟨N', hQ⟩, e1, e2, e3⟩, st⟩ := f X q1.1 q1.2.1 q1.2.2.1 q2 q3 eT
  dsimp only [Pt.U, Pt.locs, Pt.cells, Pt.slots] at X' hQ e1 e2 e3 st
  subst e1 e2 e3
  have K := hq _ _ hQ
  exact ⟨v, T'.heap, hQ, q1, q2, q3, q4.keep K hn, Nat.le_trans q5 K.1, q6.keep K hs, T', _, X', rfl, N.app N', fun t q => g t (st.trans q)⟩
def Pv (h0 : Heap) (w : Value) : Option Value → Heap → Prop := fun v h => v = some w ∧ h = h0
def P0 (h0 : Heap) : Option Value → Heap → Prop := fun v h => v = none ∧ h = h0
def KpV (h0 : Heap) (ws : List Addr) (Q : Value → Heap → Prop) : Option Value → Heap → Prop := fun v h => ∃ w, v = some w ∧ Keep h0 h ws ∧ Q w h
def K0 (h0 : Heap) (ws : List Addr) (Q : Heap → Prop) : Option Value → Heap → Prop := fun v h => v = none ∧ Keep h0 h ws ∧ Q h
theorem Cl.pv {w : Value} (k : Cl md EL p l e R s m args below meth c S G own B ml mn rt Z a0 n0 h0 vm h cells slots pc Ls rest (Pv h w)) : Wk md EL p l e R s m args below meth c S G own B ml mn rt Z a0 n0 h0 vm h cells slots pc Ls (w :: rest) := by
  obtain ⟨v, h', ⟨rfl, rfl⟩, k2⟩ := k [] (fun v h' q => q.2 ▸ Keep.refl _ _) (fun _ q => nomatch q) (Or.inr fun _ q => nomatch q)
  exact k2
theorem Cl.p0 (k : Cl md EL p l e R s m args below meth c S G own B ml mn rt Z a0 n0 h0 vm h cells slots pc Ls rest (P0 h)) : Wk md EL p l e R s m args below meth c S G own B ml mn rt Z a0 n0 h0 vm h cells slots pc Ls rest := by
  obtain ⟨v, h', ⟨rfl, rfl⟩, k2⟩ := k [] (fun v h' q => q.2 ▸ Keep.refl _ _) (fun _ q => nomatch q) (Or.inr fun _ q => nomatch q)
  exact k2
theorem Cl.kv {ws : List Addr} {Q : Value → Heap → Prop} (k : Cl md EL p l e R s m args below meth c S G own B ml mn rt Z a0 n0 h0 vm h cells slots pc Ls rest (KpV h ws Q)) (hn : ∀ w ∈ ws, n0 ≤ w := by exact all0) (hs : md = false ∨ ∀ w ∈ ws, Safe Z EL vm h w := by exact Or.inl rfl) :
    ∃ w h', Keep h h' ws ∧ Q w h' ∧ Wk md EL p l e R s m args below meth c S G own B ml mn rt Z a0 n0 h0 vm h' cells slots pc Ls (w :: rest) := by
  obtain ⟨v, h', ⟨w, rfl, K, q⟩, k⟩ := k ws (fun v h' q => q.choose_spec.2.1) hn hs
  exact ⟨w, h', K, q, k⟩
theorem Cl.k0 {ws : List Addr} {Q : Heap → Prop} (k : Cl md EL p l e R s m args below meth c S G own B ml mn rt Z a0 n0 h0 vm h cells slots pc Ls rest (K0 h ws Q)) (hn : ∀ w ∈ ws, n0 ≤ w := by exact all0) (hs : md = false ∨ ∀ w ∈ ws, Safe Z EL vm h w := by exact Or.inl rfl) :
    ∃ h', Keep h h' ws ∧ Q h' ∧ Wk md EL p l e R s m args below meth c S G own B ml mn rt Z a0 n0 h0 vm h' cells slots pc Ls rest := by
  obtain ⟨v, h', ⟨rfl, K, q⟩, k⟩ := k ws (fun v h' q => q.2.1) hn hs
  exact ⟨h', K, q, k⟩
theorem wsum (m : MethodId) (Ls : Array Slot) (St : List Value) : 2 * (mkF m pc Ls St).monitorRoom + (rest.map fun v => v.category).sum ≤ (rest.map fun v => v.category).sum := by
  show 2 * 0 + _ ≤ _; rw [Nat.mul_zero, Nat.zero_add]; exact Nat.le_refl _
theorem wsW {W : Nat} (m : MethodId) (Ls : Array Slot) (St : List Value) (h : (rest.map fun v => v.category).sum = W) : 2 * (mkF m pc Ls St).monitorRoom + (rest.map fun v => v.category).sum ≤ W := by rw [← h]; exact wsum m Ls St
theorem CW.plen {maxL np : Nat} (C : CW Z a0 y cd maxL ret np) (e : argsL.length = np) : ∀ sig, parseMethodDescriptor y.desc = some sig → argsL.length = sig.parameters.length := fun sig h => by
  obtain ⟨-, -, -, -, ps, r, hpd, hnp⟩ := C
  cases hpd.symm.trans h; exact e.trans hnp.symm
def SC (Z : State) (a0 : Array Value) (y : MethodName) (cd : Cond) (maxL : Nat) (ret : Option FieldType) (np : Nat) : Prop := (Cond.static y).before a0 Z = true ∧ CW Z a0 y cd maxL ret np
def IC (Z : State) (a0 : Array Value) (y : MethodName) (cd : Cond) (maxL : Nat) (np : Nat) : Prop := (Cond.instanceMethod y).before a0 Z = true ∧ y.name = "<init>" ∧ CW Z a0 y cd maxL none np
def VC (Z : State) (a0 : Array Value) (y z : MethodName) (C : String) (cd : Cond) (maxL : Nat) (ret : Option FieldType) (np : Nat) : Prop :=
  (Cond.declares y).before a0 Z = true ∧ (∀ s : State, Z.Warmed39 s.vm → NotFace s y) ∧ (Cond.selects C y z).before a0 Z = true ∧ (Cond.instanceMethod z).before a0 Z = true ∧ (y.cls ≠ "java/lang/invoke/MethodHandle" ∧ y.cls ≠ "java/lang/invoke/VarHandle") ∧ y.desc = z.desc ∧ CW Z a0 z cd maxL ret np
theorem Wk.callS (k : Wk md EL p l e R s m args below meth c S G own B ml mn rt Z a0 n0 h0 vm h cells slots pc Ls St) (wl : (Cond.methodLink own index y).before a0 Z = true) (C : SC Z a0 y cd maxL ret argsL.length) (M : Mt false [] l y cd rm argsL.toArray Z a0 h n0 Q)
    (hd : Dc B pc (.invokestatic index) 3 pc') (W : Nat) (hst : St = argsL.reverse ++ rest) (hL : Ls.size = ml := by rfl) (hW : (rest.map fun v => v.category).sum = W := by rfl) (hr : rm.frames + 1 ≤ R.frames ∧ W + (maxL + 11) + rm.locals ≤ R.locals ∧ cells + rm.cells ≤ R.cells ∧ slots + rm.slots ≤ R.slots := by decide) :
    Cl md EL p l e R s m args below meth c S G own B ml mn rt Z a0 n0 h0 vm h (cells + rm.cells) (slots + rm.slots) pc' Ls rest Q := by
  have O := k.old
  obtain ⟨hd, rfl⟩ := hd
  obtain ⟨ws, C⟩ := C
  refine k.called fun {s' T locs} X hx hb hml hZ hown eT => ?_
  have P := M.pay (p := p) (e := e) (below := below) (s := s') (args := args) (R := R) (len := 3) (W := W) C O hZ hr.1 hr.2.1
  have hlen := C.plen (argsL := argsL) rfl
  obtain ⟨⟨bytes, hc⟩, wc, wz, hy, -⟩ := C
  rcases hc with rfl | ⟨hs, rfl⟩
  · obtain ⟨v, vm₁, B', q1, q2, q3, q4⟩ := Jvm.LawKit.callS X hx hown (mvT hZ wl) (mvT hZ ws) (mvT hZ wz) (mvT hZ wc) hy P (g := mkF m pc Ls St) rfl (by rw [hml]; exact hL) (argsL := argsL) (rest := rest) hlen hst (wsW m Ls St hW) (by rw [hb]; exact hd) (fun _ _ => ⟨rfl, eT, hr.2.2.1, hr.2.2.2⟩)
    exact ⟨v, vm₁, B', q1, q2, q3, q4 _ (Steps.refl _)⟩
  · obtain ⟨v, vm₁, B', q1, q2, q3, q4⟩ := callSH X hx hown (mvT hZ wl) (mvT hZ ws) (mvT hZ wz) (mvT hZ wc) hy P (g := mkF m pc Ls St) rfl (by rw [hml]; exact hL) (argsL := argsL) (rest := rest) hlen hst (wsW m Ls St hW) (by rw [hb]; exact hd) (fun _ _ => ⟨rfl, eT, hr.2.2.1, hr.2.2.2⟩)
    exact ⟨v, vm₁, B', q1, q2, q3, q4 _ (Steps.refl _)⟩
theorem Wk.callI {a : Addr} (k : Wk md EL p l e R s m args below meth c S G own B ml mn rt Z a0 n0 h0 vm h cells slots pc Ls St) (wl : (Cond.methodLink own index y).before a0 Z = true) (C : IC Z a0 y cd maxL argsL.length) (M : Mt false [] l y cd rm (.ref a :: argsL).toArray Z a0 h n0 Q)
    (hd : Dc B pc (.invokespecial index) 3 pc') (W : Nat) (hst : St = argsL.reverse ++ .ref a :: rest) (hL : Ls.size = ml := by rfl) (hW : (rest.map fun v => v.category).sum = W := by rfl) (hr : rm.frames + 1 ≤ R.frames ∧ W + (maxL + 11) + rm.locals ≤ R.locals ∧ cells + rm.cells ≤ R.cells ∧ slots + rm.slots ≤ R.slots := by decide) :
    Cl md EL p l e R s m args below meth c S G own B ml mn rt Z a0 n0 h0 vm h (cells + rm.cells) (slots + rm.slots) pc' Ls rest Q := by
  have O := k.old
  obtain ⟨hd, rfl⟩ := hd
  obtain ⟨ws, hy1, C⟩ := C
  refine k.called fun {s' T locs} X hx hb hml hZ hown eT => ?_
  have P := M.pay (p := p) (e := e) (below := below) (s := s') (args := args) (R := R) (len := 3) (W := W) C O hZ hr.1 hr.2.1
  have hlen := C.plen (argsL := argsL) rfl
  obtain ⟨⟨bytes, hc⟩, wc, wz, hy, -⟩ := C
  rcases hc with rfl | ⟨hs, rfl⟩
  · exact X.specialBack hx hy1 hown (mvT hZ wl) (mvT hZ ws) (mvT hZ wc) hy P (g := mkF m pc Ls St) rfl (by rw [hml]; exact hL) (Steps.refl _) (a := a) (argsL := argsL) (rest := rest) hlen hst (wsW m Ls St hW) (by rw [hb]; exact hd) (fun _ _ => ⟨rfl, eT, hr.2.2.1, hr.2.2.2⟩)
  · exact X.specialBackH hx hy1 hown (mvT hZ wl) (mvT hZ ws) (mvT hZ wc) hy P (g := mkF m pc Ls St) rfl (by rw [hml]; exact hL) (Steps.refl _) (a := a) (argsL := argsL) (rest := rest) hlen hst (wsW m Ls St hW) (by rw [hb]; exact hd) (fun _ _ => ⟨rfl, eT, hr.2.2.1, hr.2.2.2⟩)
theorem Wk.callV {a : Addr} {C : String} (k : Wk md EL p l e R s m args below meth c S G own B ml mn rt Z a0 n0 h0 vm h cells slots pc Ls St) (wl : (Cond.methodLink own index y).before a0 Z = true) (V : VC Z a0 y z C cd maxL ret argsL.length) (E : Exa Z h a C) (M : Mt false [] l z cd rm (.ref a :: argsL).toArray Z a0 h n0 Q)
    (hd : Dc B pc (.invokevirtual index) 3 pc') (W : Nat) (hst : St = argsL.reverse ++ .ref a :: rest) (hL : Ls.size = ml := by rfl) (hW : (rest.map fun v => v.category).sum = W := by rfl) (hr : rm.frames + 1 ≤ R.frames ∧ W + (maxL + 11) + rm.locals ≤ R.locals ∧ cells + rm.cells ≤ R.cells ∧ slots + rm.slots ≤ R.slots := by decide) :
    Cl md EL p l e R s m args below meth c S G own B ml mn rt Z a0 n0 h0 vm h (cells + rm.cells) (slots + rm.slots) pc' Ls rest Q := by
  have O := k.old
  obtain ⟨hd, rfl⟩ := hd
  obtain ⟨v1, v2, v3, v4, v5, v6, C⟩ := V
  refine k.called fun {s' T locs} X hx hb hml hZ hown eT => ?_
  have P := M.pay (p := p) (e := e) (below := below) (s := s') (args := args) (R := R) (len := 3) (W := W) C O hZ hr.1 hr.2.1
  obtain ⟨cq, kq, qa, qb, qc⟩ := isOf hZ eT E
  exact X.virtualBack hx hown (mvT hZ wl) (mvT hZ v1) (v2 s' hZ) (mvT hZ v3) (mvT hZ v4) v5 P qa qc (g := mkF m pc Ls St) rfl (by rw [hml]; exact hL) (Steps.refl _) (argsL := argsL) (rest := rest) (fun sig q => C.plen (argsL := argsL) rfl sig (v6 ▸ q)) hst (wsW m Ls St hW) (by rw [hb]; exact hd) (fun _ _ => ⟨rfl, eT, hr.2.2.1, hr.2.2.2⟩)
end Calls
/-! the start and the end of a walk; the other steps -/
section More
variable {md : Bool} {EL : List (String × Nat)} {p : Program} {l : Launch} {e : Env} {R : Room} {s : State} {m : MethodId} {args : Array Value} {below : List Frame} {meth : Method} {c : Code} {S : State} {G : JFrame} {own : String} {B : ByteArray} {ml : Nat} {mn : String} {rt : Option FieldType} {Z : State} {a0 : Array Value} {n0 : Nat} {h0 : Heap} {vm : Vm} {h h' : Heap} {cells slots pc pc' : Nat} {Ls Ls' : Array Slot} {St St' : List Value} {index : Nat} {Q : Option Value → Heap → Prop} {rest : List Value} {a b : Addr}
theorem nlt {x y : Addr} (q : x < h.size) (r : h.size ≤ y) : x ≠ y := Nat.ne_of_lt (Nat.lt_of_lt_of_le q r)
theorem nlt' {x y : Addr} (q : x < h.size) (r : h.size ≤ y) : y ≠ x := Ne.symm (nlt q r)
theorem Old.nlt {x y : Addr} (O : Old Z n0 h) (q : x < Z.heap.size) (r : n0 ≤ y) : x ≠ y := O.ne q r
def En (md : Bool) (EL : List (String × Nat)) (p : Program) (e : Env) (R : Room) (s : State) (below : List Frame) (S : State) (G : JFrame) (Z : State) (n0 : Nat) (h0 : Heap) (Q : Option Value → Heap → Prop) : Prop :=
  ∃ s₂ o, Steps p.tables e below (S.setTop G) s₂ ∧ s₂.status = .running ∧ Ended s₂ below o ∧ ∃ v L, o = .returned v ∧ (Fr n0 L ∧ Q v s₂.heap) ∧ ((md = false ∧ FrameEnd s o s₂ L R.cells R.slots) ∨ (md = true ∧ CHr Z EL s.vm h0 s₂.vm s₂.heap ∧ ReturnedEndW s o s₂ L R.cells R.slots))
theorem Mt.go {y : MethodName} {bytes : ByteArray} {maxL : Nat} {ret : Option FieldType} {cd : Cond} {rm : Room} {as' : Array Value} (hp : plainFor y = true) (hcd : cd = .code y bytes maxL ret ∨ ∃ hs, cd = .codeWith y bytes maxL ret hs) (hef : ∀ m, entryFrame m as' maxL = mkF m 0 Ls [])
    (W : ∀ {p e s m below meth c s₁ vm}, Wk md EL p l e rm s m as' below meth c s₁ (entryFrame m as' maxL) y.cls bytes maxL y.name ret Z a0 n0 h0 vm h0 0 0 0 Ls [] → En md EL p e rm s below s₁ (entryFrame m as' maxL) Z n0 h0 Q) :
    Mt md EL l y cd rm as' Z a0 h0 n0 Q := by
  intro O hEW ws
  have key : ∀ p e s m args below meth c s₁, BodyLoose p l y (head1 (cd :: ws) rm) bytes maxL ret e s m args below meth c s₁ → c.maxLocals = maxL → (args = as' ∧ Z.Warmed39 s.vm ∧ s.heap = h0 ∧ (md = true → CHv Z EL s.vm h0)) → True →
      ∃ s₂ o, Steps p.tables e below (s₁.setTop (entryFrame m args maxL)) s₂ ∧ s₂.status = .running ∧ Ended s₂ below o ∧ ∃ v L, o = .returned v ∧ (Fr n0 L ∧ Q v s₂.heap) ∧ ((md = false ∧ FrameEnd s o s₂ L rm.cells rm.slots) ∨ (md = true ∧ CHr Z EL s.vm s.heap s₂.vm s₂.heap ∧ ReturnedEndW s o s₂ L rm.cells rm.slots)) := by
    intro p e s m args below meth c s₁ Bd hml hP _
    obtain ⟨rfl, hZ, hh, hC⟩ := hP
    have X : Stand p l e rm s m args below meth c s₁ [] 0 0 := Stand.of_body Bd
    have k : Wk md EL p l e rm s m args below meth c s₁ (entryFrame m args maxL) y.cls bytes maxL y.name ret Z a0 n0 h0 s.vm h0 0 0 0 Ls [] := by
      refine ⟨⟨Bd.exec, Bd.bytes, hml, (name_of_methodNamed Bd.named Bd.method).1, Bd.returns, BodyLoose.notSynchronized Bd⟩, hZ, findClass_of_methodNamed Bd.named, O, Nat.le_refl _, ?_, s₁, [], X, ?_, Fr.nil n0, fun t q => castTop (hef m) q⟩
      · cases md
        · exact Or.inl ⟨rfl, rfl⟩
        · exact Or.inr ⟨rfl, hEW rfl, ⟨h0.size, (State.WarmedH.refl s).since _, Nat.le_refl _⟩, CHr.refl (hC rfl)⟩
      · rw [← hh, Bd.state]; rfl
    obtain ⟨s₂, o, h1, h2, h3, v, L, e1, e2, e3⟩ := W k
    refine ⟨s₂, o, h1, h2, h3, v, L, e1, e2, ?_⟩
    rcases e3 with e3 | e3
    · exact Or.inl e3
    · exact Or.inr ⟨e3.1, by rw [hh]; exact e3.2.1, e3.2.2⟩
  rcases hcd with rfl | ⟨hs, rfl⟩
  · exact MetFree.of_bodySF hp hisR key
  · exact MetFree.of_bodySF hp hisWith key
theorem Wk.fin {v : Option Value} (k : Wk md EL p l e R s m args below meth c S G own B ml mn rt Z a0 n0 h0 vm h cells slots pc Ls St) (hv : rt = none → v = none) (hc : cells ≤ R.cells ∧ slots ≤ R.slots) (hq : Q v h)
    (f : ∀ {s' : State} {T locs} {fs : List Frame}, Stand p l e R s' m args below meth c T locs cells slots → p.tables.exec = Jvm.exec → c.code = B → meth.sig.returnType = rt → (∀ (f : JFrame) (acts : List Action), f.method = m → f.locked = none → f.entered = [] → (doReturn e (T.setTop f) acts v).1 = T.setFrames fs) → Steps p.tables e below (T.setTop (mkF m pc Ls St)) (T.setFrames fs)) :
    En md EL p e R s below S G Z n0 h0 Q := by
  obtain ⟨⟨q1, q1b, q1c, q1d, q1e, q1f⟩, q2, q3, q4, q5, q6, T, locs, X, eT, N, g⟩ := k
  have hv' : meth.sig.returnType = none → v = none := fun z => hv (q1e.symm.trans z)
  rcases q6 with ⟨rfl, rfl⟩ | ⟨rfl, hEW, ⟨k0, hS, hk⟩, hC⟩
  · obtain ⟨fs, hr, hrun, hended, hW, hsame⟩ := X.leave hv' q1f
    exact ⟨_, _, g _ (f X q1 q1b q1e hr), hrun, hended, v, locs, rfl, ⟨N, by show Q v T.heap; rw [eT]; exact hq⟩, Or.inl ⟨rfl, ⟨_, rfl⟩, hW, hsame.mono hc.1 hc.2⟩⟩
  · obtain ⟨fs, hr, hrun, hended, w1, w2, w3, w4⟩ := X.leaveW hS (by rw [eT]; exact hk) hv' q1f
    refine ⟨_, _, g _ (f X q1 q1b q1e hr), hrun, hended, v, locs, rfl, ⟨N, by show Q v T.heap; rw [eT]; exact hq⟩, Or.inr ⟨rfl, ?_, w1, w2, w3, w4.mono hc.1 hc.2⟩⟩
    have A := CHv.at X q2 hEW hC.1
    show CHr Z EL s.vm h0 T.vm T.heap
    rw [eT]; exact hC.trans A
theorem Wk.ret0 (k : Wk md EL p l e R s m args below meth c S G own B ml mn rt Z a0 n0 h0 vm h cells slots pc Ls []) (hd : Dc B pc .return_ 1 pc') (hr : rt = none) (hq : Q none h) (hc : cells ≤ R.cells ∧ slots ≤ R.slots := by decide) : En md EL p e R s below S G Z n0 h0 Q :=
  k.fin (fun _ => rfl) hc hq fun X hx hb hrt hl => X.returnOut hx (hrt.trans hr) (by rw [hb]; exact hd.1) hl
theorem Wk.retI {z : Int32} (k : Wk md EL p l e R s m args below meth c S G own B ml mn rt Z a0 n0 h0 vm h cells slots pc Ls (.int z :: St)) (hd : Dc B pc .ireturn 1 pc') (hr : rt = some .int) (hq : Q (some (.int z)) h) (hc : cells ≤ R.cells ∧ slots ≤ R.slots := by decide) : En md EL p e R s below S G Z n0 h0 Q :=
  k.fin (fun q => by rw [hr] at q; cases q) hc hq fun X hx hb hrt hl => Jvm.RoadKit.retI X hx (hrt.trans hr) (by rw [hb]; exact hd.1) hl
theorem Wk.retN {z z' : Int32} {t : FieldType} (k : Wk md EL p l e R s m args below meth c S G own B ml mn rt Z a0 n0 h0 vm h cells slots pc Ls (.int z :: St)) (hd : Dc B pc .ireturn 1 pc') (hr : rt = some t) (ht : t = .boolean ∨ t = .byte ∨ t = .char ∨ t = .short) (hz : nar t z = z') (hq : Q (some (.int z')) h) (hc : cells ≤ R.cells ∧ slots ≤ R.slots := by decide) : En md EL p e R s below S G Z n0 h0 Q := by
  subst hz
  exact k.fin (fun q => by rw [hr] at q; cases q) hc hq fun X hx hb hrt hl => Jvm.RoadKit.retN X hx (hrt.trans hr) ht (by rw [hb]; exact hd.1) hl
theorem Wk.retA {v : Value} {t : FieldType} (k : Wk md EL p l e R s m args below meth c S G own B ml mn rt Z a0 n0 h0 vm h cells slots pc Ls (v :: St)) (hd : Dc B pc .areturn 1 pc') (hr : rt = some t) (hq : Q (some v) h) (ht : t.isReference = true := by rfl) (hv : v.isRef = true := by rfl) (hn : narrow t v = v := by rfl) (hc : cells ≤ R.cells ∧ slots ≤ R.slots := by decide) : En md EL p e R s below S G Z n0 h0 Q :=
  k.fin (fun q => by rw [hr] at q; cases q) hc hq fun X hx hb hrt hl => Jvm.RoadKit.retOut X hx (hrt.trans hr) hn (Or.inr (Or.inr (Or.inr (Or.inr ⟨rfl, ht, hv⟩)))) (by rw [hb]; exact hd.1) hl
/-! single steps -/
theorem Wk.initO (k : Wk md EL p l e R s m args below meth c S G own B ml mn rt Z a0 n0 h0 vm h cells slots pc Ls (.ref a :: St)) (w1 : (Cond.methodLink own index Lib.objectInit).before a0 Z = true) (w2 : (Cond.instanceMethod Lib.objectInit).before a0 Z = true) (w3 : (Cond.code Lib.objectInit ⟨#[0xb1]⟩ 1 none).before a0 Z = true) (hd : Dc B pc (.invokespecial index) 3 pc') (W : Nat) (hL : Ls.size = ml := by rfl) (hW : (St.map fun v => v.category).sum = W := by rfl) (hr : 1 ≤ R.frames ∧ W + 12 ≤ R.locals := by decide) :
    Wk md EL p l e R s m args below meth c S G own B ml mn rt Z a0 n0 h0 vm h cells slots pc' Ls St := by
  obtain ⟨hd, rfl⟩ := hd
  exact k.same fun X hx hb hml hZ hown eT => Jvm.RoadKit.initO X hx hZ hown w1 w2 w3 eT (g := mkF m pc Ls (.ref a :: St)) rfl (by rw [hml]; exact hL) rfl (by rw [hb]; exact hd) hr.1 (wsW m Ls (.ref a :: St) hW) hr.2
theorem Wk.ldcI {v : Int32} (k : Wk md EL p l e R s m args below meth c S G own B ml mn rt Z a0 n0 h0 vm h cells slots pc Ls St) (w : (Cond.constant own index v).before a0 Z = true) (hd : Dc B pc (.ldc index) 2 pc') :
    Wk md EL p l e R s m args below meth c S G own B ml mn rt Z a0 n0 h0 vm h cells slots pc' Ls (.int v :: St) := by
  obtain ⟨hd, rfl⟩ := hd
  exact k.same fun X hx hb hml hZ hown eT => ⟨_, X, eT, fun t q => X.ldcInt hx hown (mvT hZ w) (g := mkF m pc Ls St) rfl (by rw [hb]; exact hd) _ q⟩
def okS : Slot → Bool
  | .second => false
  | .val v => v.category == 1
  | .unset => true
theorem stoA {A : List Slot} {x : Slot} {t : List Slot} {v : Value} (hx : okS x = true) (hv : v.category = 1) : storeLocals (A ++ x :: t).toArray A.length v = some (A ++ .val v :: t).toArray := by
  have q : (A ++ x :: t).toArray[A.length]? = some x := by simp
  rw [storeLocals_cat1 (x := x) q hv]
  · simp
  · cases x <;> simp_all [okS]
/-! copies of arrays -/
theorem ofNat_clamp {n : Nat} (h : n < 2147483648) : (Int32.ofNat n).toNatClampNeg = n ∧ ¬ (Int32.ofNat n) < 0 := by
  have e : (Int32.ofNat n).toInt = n := Int32.toInt_ofNat_small h
  refine ⟨by rw [clampNat, e]; rfl, fun q => ?_⟩
  rw [Int32.lt_iff_toInt_lt, e] at q
  have : (0 : Int32).toInt = 0 := rfl
  omega
theorem Ary.arv {T : String × FieldType} {n : Nat} {f : Nat → Value} (A : Ary Z h a T n f) (dv : Value) : ∃ k, OvT Z T.2 k ∧ n < 2147483648 ∧ Arv Z h a k T.2 (Int32.ofNat n) ((List.range n).map f) dv := by
  obtain ⟨-, c, A1, hk, hs, hn, hf, hfit⟩ := A
  have g : ∀ i, i < n → ((List.range n).map f).getD i dv = f i := fun i hi => by simp [List.getD_eq_getElem?_getD, hi]
  refine ⟨c.cls, hk, hn, c, A1, rfl, by rw [hs, (ofNat_clamp hn).1], (ofNat_clamp hn).2, fun i hi => ?_, fun i hi => ?_⟩
  · rw [hs] at hi; rw [g i hi]; exact hf i hi
  · rw [hs] at hi; rw [g i hi]; exact hfit i hi
theorem Ary.of_arv {T : String × FieldType} {n : Nat} {f : Nat → Value} {k : ClassId} {z : Int32} {vs : List Value} {dv : Value} (F : Arv Z h a k T.2 z vs dv) (O : OvT Z T.2 k) (E : T.1 = "" ∨ Exa Z h a T.1) (hz : z.toNatClampNeg = n) (g : ∀ i, i < n → vs.getD i dv = f i) : Ary Z h a T n f := by
  obtain ⟨c, A1, hk, hs, hn, H, G⟩ := F
  have hs' : c.slots.size = n := hs.trans hz
  subst hk
  refine ⟨E, c, A1, O, hs', by rw [← hz]; exact (back32 hn).2, fun i hi => ?_, fun i hi => ?_⟩
  · rw [← g i hi]; exact H i (by rw [hs']; exact hi)
  · rw [← g i hi]; exact G i (by rw [hs']; exact hi)
def cpyv (f g : Nat → Value) (sp dp nn : Nat) : Nat → Value := fun i => if dp ≤ i ∧ i < dp + nn then f (i - dp + sp) else g i
theorem cpy_list {f g : Nat → Value} {sp dp nn n : Nat} (h : dp + nn ≤ n) (dv : Value) (us : List Value) (hus : us.length = nn) (hu : ∀ i, i < nn → us.getD i dv = f (i + sp)) : ∀ i, i < n → (((List.range n).map g).take dp ++ us ++ ((List.range n).map g).drop (dp + nn)).getD i dv = cpyv f g sp dp nn i := fun i hi => by
  have l1 : (((List.range n).map g).take dp).length = dp := by simp; omega
  rw [List.getD_eq_getElem?_getD]
  by_cases c1 : i < dp
  · rw [List.append_assoc, List.getElem?_append_left (by rw [l1]; exact c1)]
    simp [cpyv, List.getElem?_take, c1, hi, Nat.not_le.mpr c1]
  · by_cases c2 : i < dp + nn
    · rw [List.getElem?_append_left (by rw [List.length_append, l1, hus]; exact c2), List.getElem?_append_right (by rw [l1]; omega), l1]
      have := hu (i - dp) (by omega)
      rw [List.getD_eq_getElem?_getD] at this
      rw [this]
      simp [cpyv, Nat.not_lt.mp c1, c2]
    · rw [List.getElem?_append_right (by rw [List.length_append, l1, hus]; omega), List.length_append, l1, hus, List.getElem?_drop]
      have e : dp + nn + (i - (dp + nn)) = i := by omega
      rw [e]
      simp [cpyv, hi, c2]
theorem Wk.acopy {T T' : String × FieldType} {n n' : Nat} {f g F : Nat → Value} {sp dp nn : Int32} {sp' dp' nn' : Nat} (k : Wk md EL p l e R s m args below meth c S G own B ml mn rt Z a0 n0 h0 vm h cells slots pc Ls (.int nn :: .int dp :: .ref b :: .int sp :: .ref a :: St))
    (w1 : (Cond.methodLink own index Jvm.Stand.acN).before a0 Z = true) (w2 : (Cond.native Jvm.Stand.acN).before a0 Z = true) (w3 : (Cond.static Jvm.Stand.acN).before a0 Z = true) (w4 : (Cond.initialized "java/lang/System").before a0 Z = true)
    (A : Ary Z h a T n f) (A' : Ary Z h b T' n' g) (hty : T.2 = T'.2 ∧ refKind T.2 = false) (h1 : ¬ sp < 0 ∧ sp.toNatClampNeg = sp') (h2 : ¬ dp < 0 ∧ dp.toNatClampNeg = dp') (h3 : ¬ nn < 0 ∧ nn.toNatClampNeg = nn') (h4 : sp' + nn' ≤ n) (h5 : dp' + nn' ≤ n') (hF : ∀ j, j < n' → cpyv f g sp' dp' nn' j = F j) (ge : n0 ≤ b) (hd : Dc B pc (.invokestatic index) 3 pc')
    (W : Nat) (hs : md = false ∨ Safe Z EL vm h b := by exact Or.inl rfl) (hL : Ls.size = ml := by rfl) (hW : (St.map fun v => v.category).sum = W := by rfl) (hr : 1 ≤ R.frames ∧ W + (nativeFrameWords "java/lang/System" "arraycopy" 5 + 11) ≤ R.locals := by decide) :
    ∃ h', Keep h h' [b] ∧ Ary Z h' b T' n' F ∧ Wk md EL p l e R s m args below meth c S G own B ml mn rt Z a0 n0 h0 vm h' cells slots pc' Ls St := by
  obtain ⟨hd, rfl⟩ := hd
  obtain ⟨h1, rfl⟩ := h1
  obtain ⟨h2, rfl⟩ := h2
  obtain ⟨h3, rfl⟩ := h3
  obtain ⟨q1, q2, q3, q4, q5, q6, T0, locs, X, eT, N, gg⟩ := k
  obtain ⟨ka, -, hA, VA⟩ := A.arv .null
  obtain ⟨kb, hO, hB, VB⟩ := A'.arv .null
  obtain ⟨T1, h', L, X', eT', N', K, V, st⟩ := cpA X q1.1 q2 q3 w1 w2 w3 w4 eT VA VB (us := (List.range nn.toNatClampNeg).map fun i => f (i + sp.toNatClampNeg)) (Or.inl hty) h1 h2 h3 (by rw [(ofNat_clamp hA).1]; exact h4) (by rw [(ofNat_clamp hB).1]; exact h5)
    (by
      refine List.map_congr_left fun i hi => ?_
      have hi' := List.mem_range.mp hi
      have hlt : i + sp.toNatClampNeg < n := by omega
      rw [Nat.add_comm sp.toNatClampNeg i]
      simp [List.getD_eq_getElem?_getD, hlt]) (by simpa using h5) N ge (g := mkF m pc Ls (.int nn :: .int dp :: .ref b :: .int sp :: .ref a :: St)) rfl (by rw [q1.2.2.1]; exact hL) rfl (by rw [q1.2.1]; exact hd) hr.1 (wsW m Ls _ hW) hr.2
  refine ⟨h', K, ?_, q1, q2, q3, q4.keep K (allS ge all0), Nat.le_trans q5 K.1, q6.keep K (hs.imp id fun z => allS z all0), T1, L, X', eT', N', fun t q => gg t (st t q)⟩
  exact (Ary.of_arv V hO (A'.1.imp id (·.keep K)) (ofNat_clamp hB).1 (cpy_list h5 .null _ (by simp) (fun i hi => by simp [List.getD_eq_getElem?_getD, hi]))).norm hF
end More
/-! walks that load String constants -/
section LitW
variable {EL : List (String × Nat)} {p : Program} {l : Launch} {e : Env} {R : Room} {s : State} {m : MethodId} {args : Array Value} {below : List Frame} {meth : Method} {c : Code} {S : State} {G : JFrame} {own : String} {B : ByteArray} {ml : Nat} {mn : String} {rt : Option FieldType} {Z : State} {a0 : Array Value} {n0 : Nat} {h0 : Heap} {vm : Vm} {h h' : Heap} {cells slots pc pc' : Nat} {Ls Ls' : Array Slot} {St St' : List Value} {index : Nat} {y z : MethodName} {cd : Cond} {rm : Room} {as' : Array Value} {maxL np W len : Nat} {ret : Option FieldType} {Q : Option Value → Heap → Prop} {argsL rest : List Value}
abbrev litL : Lay := ("java/lang/String", [("java/lang/String", "value", "[B", .null), ("java/lang/String", "coder", "B", .int 0)])
theorem Wk.ldcS {text : String} {vs : List Value} {n : Nat} (k : Wk true EL p l e R s m args below meth c S G own B ml mn rt Z a0 n0 h0 vm h cells slots pc Ls St) (w : (Cond.stringLink own index text).before a0 Z = true) (wS : ∀ a ∈ Bundle.stringAtoms, a.before a0 Z = true) (hmem : (own, index) ∈ EL)
    (ht : (∀ c ∈ text.toList, c.toNat < 256) ∧ text.toList.map (fun c => Value.int (Jvm.Lit.byteI c.toNat.toUInt16)) = vs) (hl : vs.length = n) (hd : Dc B pc (.ldc index) 2 pc') (hc : 4 * n ≤ 536870912 ∧ cells + 2 ≤ R.cells ∧ slots + (4 * n + 4) ≤ R.slots := by decide) :
    ∃ a b vm' h', Keep h h' [] ∧ CHr Z EL vm h vm' h' ∧ Obj Z h' a litL [.ref b, .int 0] ∧ Ary Z h' b ("", .byte) n (lv vs) ∧ (∀ x, Safe Z EL vm' h' x → x ≠ a ∧ x ≠ b) ∧ Wk true EL p l e R s m args below meth c S G own B ml mn rt Z a0 n0 h0 vm' h' (cells + 2) (slots + (4 * n + 4)) pc' Ls (.ref a :: St) := by
  obtain ⟨hd, rfl⟩ := hd
  obtain ⟨q1, q2, q3, q4, q5, q6, T, locs, X, eT, N, g⟩ := k
  rcases q6 with ⟨q, -⟩ | ⟨-, hEW, ⟨k0, hS, hk⟩, hC⟩
  · cases q
  have hlt : text.toList.length = n := by rw [← hl, ← ht.2, List.length_map]
  have hn : n < 2147483648 := by omega
  obtain ⟨a, T', h', k1, b, kc, X', eT', E, hS', hk', hW, ho, F1, F2, F3, F4, -, -, hR, -, hne, st⟩ := ldcCH X q1.1 q2 q3 w wS eT hS hk hEW hmem hC.1 (z := Int32.ofNat n) ht (ofNat_clamp hn).2 (by rw [(ofNat_clamp hn).1, hl]) (g := mkF m pc Ls St) rfl (by rw [q1.2.1]; exact hd) (n := 4 * n) (by rw [hlt]; exact Nat.le_refl _) hc.1 hc.2.1 hc.2.2
  have K : Keep h h' [] := (Keep.refl h []).ext E
  refine ⟨a, b, T'.vm, h', K, hR, ⟨F1, rfl, ?_⟩, ?_, hne, q1, hW, ho, q4.ext E, Nat.le_trans q5 E.1, Or.inr ⟨rfl, hEW, ⟨k1, hS', hk'⟩, hC.trans hR⟩, T', locs, X', eT', N, fun t q => g t (st t q)⟩
  · intro i q v hi hv
    match i, hi, hv with
    | 0, hi, hv => cases hi; cases hv; exact F3
    | 1, hi, hv => cases hi; cases hv; exact F2
  · refine Ary.of_arv (T := ("", .byte)) F4 (OvT.of_prim rfl) (Or.inl rfl) (ofNat_clamp hn).1 fun i hi => ?_
    rw [← hl] at hi
    simp [lv, List.getD_eq_getElem?_getD, hi]
theorem backS_of_with {Pre : Pt → Array Value → Prop} {Post : Pt → Array Value → Option Value → Pt → Prop} {S : Spec} {P : Array Value → State → Prop}
    {K : Program → Env → List Frame → State → Array Value → Prop} {Q : Array Value → State → Outcome → State → Prop} {bytes : ByteArray} {hs : List (Nat × Nat × Nat × Nat)} {E : Array Value → State → Outcome → State → List Loc → Nat → Nat → Prop}
    (hM : MetFree l y S P K Q) (hframes : S.room.frames + 1 ≤ R.frames) (hlocals : W + (maxL + 11) + S.room.locals ≤ R.locals)
    (hpre : ∀ m meth c (A : Pt) a, Stand p l e R s m args below meth c A.U A.locs A.cells A.slots → Pre A a → S.pre.before a A.U = true ∧ (Cond.codeWith y bytes maxL ret hs).before a A.U = true ∧ (Cond.initialized y.cls).before a A.U = true ∧ A.cells + S.room.cells ≤ R.cells ∧ A.slots + S.room.slots ≤ R.slots)
    (hP : ∀ m meth c (A : Pt) a (g : JFrame) mk, Stand p l e R s m args below meth c A.U A.locs A.cells A.slots → Pre A a → P a (A.U.calling g mk a))
    (hK : ∀ m meth c (A : Pt) a (g : JFrame) mk, Stand p l e R s m args below meth c A.U A.locs A.cells A.slots → Pre A a → K p e (A.U.setTop g).frames (A.U.calling g mk a) a)
    (hQ : ∀ a first o t, Q a first o t → ∃ L k n, ReturnedEndW first o t L k n ∧ E a first o t L k n)
    (hpost : ∀ m meth c (A : Pt) a (g : JFrame) mk v t L k n, Stand p l e R s m args below meth c A.U A.locs A.cells A.slots → Pre A a → Q a (A.U.calling g mk a) (.returned v) t → ReturnedEndW (A.U.calling g mk a) (.returned v) t L k n → E a (A.U.calling g mk a) (.returned v) t L k n →
      Post A a v ⟨(({ A.U with heap := t.heap, slotsUsed := t.slotsUsed } : State).setVm t.vm), A.locs ++ L, A.cells + k, A.slots + n⟩) :
    BackS l R p e below s args y len W Pre Post := by
  intro m meth c A g ig mk a X hg hsize hdg hW hn hp
  obtain ⟨h1, h2, h3, h4, h5⟩ := hpre m meth c A a X hp
  obtain ⟨U, Ls, c0, s0⟩ := A
  dsimp only [Pt.U, Pt.locs, Pt.cells, Pt.slots] at h1 h2 h3 h4 h5 X hn ⊢
  obtain ⟨mk', methY, cY, hn', hmY, hcY, -, hlY, -, -, -, -⟩ := Cond.codeWith_spec h2
  cases hn.symm.trans hn'
  obtain ⟨kY, hkY, -⟩ := className_of_methodNamed hn
  have hinitY : kY.init = .initialized := Cond.initialized_spec (findClass_of_methodNamed hn) hkY h3
  have h : At U g.method c below := by rw [hg]; exact X.here
  have happ : S.appliesLoose y e.platform (U.calling g mk a) = true :=
    Spec.appliesLoose_calling (g := g) h hdg hn hkY hinitY (X.room_calling (g := g) (R' := S.room) hsize hmY hcY hframes (by rw [hlY]; omega) h4 h5) h1
  obtain ⟨mid, hmid⟩ := h.above
  have hfr : (U.setTop g).frames = (.java g :: mid) ++ below := by rw [State.frames_setTop' g h.top, hmid]; rfl
  obtain ⟨o, s₂, hsteps, -, hend, hq⟩ := Steps.callFree hM p X.admits X.cas X.clock (acts := []) hfr happ (hP m meth c ⟨U, Ls, c0, s0⟩ a g mk X hp) (hK m meth c ⟨U, Ls, c0, s0⟩ a g mk X hp)
  have hq' : Q a (U.calling g mk a) o s₂ := hq
  rw [State.frames_setTop' g h.top] at hend
  obtain ⟨L, k, n, hfe, hE⟩ := hQ _ _ _ _ hq'
  obtain ⟨⟨v, rfl⟩, hW₂, hB₂, e2, q2, q3, q4, q5, q6⟩ := id hfe
  have e3 : s₂ = ({ (U.calling g mk a).setFrames s₂.frames with heap := s₂.heap, slotsUsed := s₂.slotsUsed } : State).setVm s₂.vm := by
    have : s₂ = ({ s₂ with vm := (U.calling g mk a).vm } : State).setVm s₂.vm := rfl
    rw [e2] at this
    exact this
  obtain ⟨c₂, i₂, len₂, hc₂, hd₂, hf₂⟩ := hend
  have hW' : U.Warmed39 s₂.vm := hW₂
  have hcc : c₂ = c := by
    have h1 : s₂.code? g.method = U.code? g.method := by rw [State.code?_eq, State.code?_eq, hW'.alike.method?]
    exact Option.some.inj (hc₂.symm.trans (h1.trans h.code))
  subst hcc
  have hlen : len₂ = len := by rw [hdg] at hd₂; cases hd₂; rfl
  subst hlen
  obtain ⟨g₀, hg0⟩ := Option.isSome_iff_exists.mp h.top
  obtain ⟨r, hr⟩ := State.topJava?_eq_some.mp hg0
  have hs₂ : s₂ = (({ U with heap := s₂.heap, slotsUsed := s₂.slotsUsed } : State).setVm s₂.vm).setTop { g with pc := g.pc + len₂, stack := v.toList ++ g.stack } := by
    have hr' : (({ U with heap := s₂.heap, slotsUsed := s₂.slotsUsed } : State).setVm s₂.vm).frames = .java g₀ :: r := hr
    refine e3.trans ?_
    rw [hf₂, State.calling_eq h.top, State.setFrames_setFrames, State.setTop_of_frames _ hr', hr]
    rfl
  have hsame : U.sameButNew ({ U with heap := s₂.heap, slotsUsed := s₂.slotsUsed } : State) L k n := by
    refine ⟨?_, q2, q3, q4, q5, q6⟩
    obtain ⟨t, ht, -⟩ := State.frames_cons hr
    show ({ U with heap := s₂.heap, slotsUsed := s₂.slotsUsed } : State) = { U.setFrames U.frames with heap := s₂.heap, slotsUsed := s₂.slotsUsed }
    rw [State.setFrames_self ht]
  subst hg
  obtain ⟨X', hS⟩ := X.movedW (T₂ := (({ U with heap := s₂.heap, slotsUsed := s₂.slotsUsed } : State).setVm s₂.vm)) ((X.here.setHeapUsed s₂.heap s₂.slotsUsed).setVm hW'.alike) X.tail rfl rfl hW' hB₂ hsame
  refine ⟨v, ⟨(({ U with heap := s₂.heap, slotsUsed := s₂.slotsUsed } : State).setVm s₂.vm), Ls ++ L, c0 + k, s0 + n⟩, X', hS, hsame.2.1, hpost _ meth _ ⟨U, Ls, c0, s0⟩ a g mk v s₂ L k n X hp hq' hfe hE, ?_⟩
  show Steps p.tables e below _ ((({ U with heap := s₂.heap, slotsUsed := s₂.slotsUsed } : State).setVm s₂.vm).setTop { g with pc := g.pc + len₂, stack := v.toList ++ g.stack })
  rw [← hs₂]
  exact hsteps
theorem Mt.freeW (M : Mt true EL l y cd rm as' Z a0 h n0 Q) (O : Old Z n0 h) (hEW : EW Z a0 EL) :
    MetFree l y (head1 [cd] rm) (fun a U => a = as' ∧ Z.Warmed39 U.vm ∧ U.heap = h ∧ CHv Z EL U.vm h) (fun _ _ _ _ _ => True) (fun _ U o U' => ∃ v L, o = .returned v ∧ (Fr n0 L ∧ Q v U'.heap) ∧ CHr Z EL U.vm U.heap U'.vm U'.heap ∧ ReturnedEndW U o U' L rm.cells rm.slots) := by
  intro p e ha hc hk s m args below hf happ hP hK
  obtain ⟨n, o, h1, h2, h3, v, L, e1, e2, e3⟩ := M O (fun _ => hEW) [] p e ha hc hk s m args below hf happ ⟨hP.1, hP.2.1, hP.2.2.1, fun _ => hP.2.2.2⟩ hK
  refine ⟨n, o, h1, h2, h3, v, L, e1, e2, ?_⟩
  rcases e3 with ⟨q, -⟩ | ⟨-, e3⟩
  · cases q
  · exact e3
theorem Mt.payW (M : Mt true EL l y cd rm as' Z a0 h n0 Q) (C : CW Z a0 y cd maxL ret np) (O : Old Z n0 h) (hZ : Z.Warmed39 vm) (hf : rm.frames + 1 ≤ R.frames) (hl : W + (maxL + 11) + rm.locals ≤ R.locals) (hEW : EW Z a0 EL) (H : CHv Z EL vm h) :
    BackS l R p e below (s.setVm vm) args y len W (fun A a => a = as' ∧ A.U.heap = h ∧ A.cells + rm.cells ≤ R.cells ∧ A.slots + rm.slots ≤ R.slots)
      (fun A _ v B => ∃ L, (Fr n0 L ∧ Q v B.U.heap) ∧ B.locs = A.locs ++ L ∧ B.cells = A.cells + rm.cells ∧ B.slots = A.slots + rm.slots ∧ CHr Z EL vm h B.U.vm B.U.heap) := by
  obtain ⟨⟨bytes, hc⟩, wc, wz, -, -⟩ := C
  have F := M.freeW O hEW
  rcases hc with rfl | ⟨hs, rfl⟩
  · exact backOfSH (Q := fun v h L => Fr n0 L ∧ Q v h) F hZ wc wz hf hl hEW H
  · exact backS_of_with (bytes := bytes) (maxL := maxL) (ret := ret) (hs := hs) (E := fun _ first o t L k n => k = rm.cells ∧ n = rm.slots ∧ (∃ v, o = .returned v ∧ (Fr n0 L ∧ Q v t.heap)) ∧ CHr Z EL first.vm first.heap t.vm t.heap) F hf hl
      (fun m meth c A a Y hp => have hU : Z.Warmed39 A.U.vm := wtrans (s := s.setVm vm) hZ Y.warmed
        ⟨by show (Cond.and _ .tt).before a A.U = true; rw [Cond.before_and, mv hU wc]; rfl, mv hU wc, mv hU wz, hp.2.2.1, hp.2.2.2⟩)
      (fun m meth c A a g mk Y hp => ⟨hp.1, wtrans (s := s.setVm vm) hZ Y.warmed, hp.2.1, (CHv.at Y hZ hEW H).1⟩) (fun _ _ _ _ _ _ _ _ _ => trivial)
      (fun _ _ _ _ ⟨v, L, h1, h2, h3, h4⟩ => ⟨L, _, _, h4, rfl, rfl, ⟨v, h1, h2⟩, h3⟩)
      (fun m meth c A a g mk v t L k n Y hp _ _ ⟨e1, e2, ⟨v', e3, e4⟩, e5⟩ => by
        cases e3; subst e1 e2
        refine ⟨L, e4, rfl, rfl, rfl, (CHv.at Y hZ hEW H).trans ?_⟩
        rw [← hp.2.1]; exact e5)
def ClW (EL : List (String × Nat)) (p : Program) (l : Launch) (e : Env) (R : Room) (s : State) (m : MethodId) (args : Array Value) (below : List Frame) (meth : Method) (c : Code) (S : State) (G : JFrame) (own : String) (B : ByteArray) (ml : Nat) (mn : String) (rt : Option FieldType) (Z : State) (a0 : Array Value) (n0 : Nat) (h0 : Heap) (vm : Vm) (h : Heap) (cells slots pc : Nat) (Ls : Array Slot) (rest : List Value) (Q : Option Value → Heap → Prop) : Prop :=
  ∀ ws : List Addr, (∀ v h', Q v h' → Keep h h' ws) → (∀ w ∈ ws, n0 ≤ w) → ∃ v vm' h', Q v h' ∧ CHr Z EL vm h vm' h' ∧ Wk true EL p l e R s m args below meth c S G own B ml mn rt Z a0 n0 h0 vm' h' cells slots pc Ls (v.toList ++ rest)
theorem Wk.calledW {ck sk : Nat} (k : Wk true EL p l e R s m args below meth c S G own B ml mn rt Z a0 n0 h0 vm h cells slots pc Ls St)
    (f : ∀ {T locs}, Stand p l e R (s.setVm vm) m args below meth c T locs cells slots → p.tables.exec = Jvm.exec → c.code = B → c.maxLocals = ml → Z.Warmed39 vm → vm.findClass own = some m.cls → T.heap = h → EW Z a0 EL → CHv Z EL vm h →
      ∃ v vm₁ B', (s.setVm vm).WarmedH vm₁ ∧ Stand p l e R ((s.setVm vm).setVm (Pt.U B').vm) m args below meth c (Pt.U B') (Pt.locs B') (Pt.cells B') (Pt.slots B') ∧ (s.setVm vm).Since (Pt.U B').vm (Pt.U B').heap.size ∧ T.heap.size ≤ (Pt.U B').heap.size ∧
        (∃ L, (Fr n0 L ∧ Q v (Pt.U B').heap) ∧ Pt.locs B' = locs ++ L ∧ Pt.cells B' = cells + ck ∧ Pt.slots B' = slots + sk ∧ CHr Z EL vm h (Pt.U B').vm (Pt.U B').heap) ∧ Steps p.tables e below (T.setTop (mkF m pc Ls St)) ((Pt.U B').setTop (mkF m pc' Ls (v.toList ++ rest)))) :
    ClW EL p l e R s m args below meth c S G own B ml mn rt Z a0 n0 h0 vm h (cells + ck) (slots + sk) pc' Ls rest Q := by
  intro ws hq hn
  obtain ⟨q1, q2, q3, q4, q5, q6, T, locs, X, eT, N, g⟩ := k
  rcases q6 with ⟨q, -⟩ | ⟨-, hEW, ⟨k0, hS, hk⟩, hC⟩
  · cases q
  obtain ⟨v, vm₁, ⟨T', L', c', n'⟩, -, X', hS2, hg2, ⟨L, ⟨N', hQ⟩, e1, e2, e3, hR⟩, st⟩ := f X q1.1 q1.2.1 q1.2.2.1 q2 q3 eT hEW hC.1
  dsimp only [Pt.U, Pt.locs, Pt.cells, Pt.slots] at X' hQ e1 e2 e3 st hR hS2 hg2
  subst e1 e2 e3
  have K := hq _ _ hQ
  have hW : Z.Warmed39 T'.vm := State.Warmed39.trans (t := s.setVm vm) q2 hS2.1
  exact ⟨v, T'.vm, T'.heap, hQ, hR, q1, hW, by rw [hS2.1.alike.findClass]; exact q3, q4.keep K hn, Nat.le_trans q5 K.1, Or.inr ⟨rfl, hEW, ⟨_, foldS hS (by rw [eT]; exact hk) hS2 hg2, Nat.le_refl _⟩, hC.trans hR⟩, T', _, X', rfl, N.app N', fun t q => g t (st.trans q)⟩
theorem ClW.kv {ws : List Addr} {Q : Value → Heap → Prop} (k : ClW EL p l e R s m args below meth c S G own B ml mn rt Z a0 n0 h0 vm h cells slots pc Ls rest (KpV h ws Q)) (hn : ∀ w ∈ ws, n0 ≤ w := by exact all0) :
    ∃ w vm' h', Keep h h' ws ∧ CHr Z EL vm h vm' h' ∧ Q w h' ∧ Wk true EL p l e R s m args below meth c S G own B ml mn rt Z a0 n0 h0 vm' h' cells slots pc Ls (w :: rest) := by
  obtain ⟨v, vm', h', ⟨w, rfl, K, q⟩, hR, k⟩ := k ws (fun v h' q => q.choose_spec.2.1) hn
  exact ⟨w, vm', h', K, hR, q, k⟩
theorem ClW.k0 {ws : List Addr} {Q : Heap → Prop} (k : ClW EL p l e R s m args below meth c S G own B ml mn rt Z a0 n0 h0 vm h cells slots pc Ls rest (K0 h ws Q)) (hn : ∀ w ∈ ws, n0 ≤ w := by exact all0) :
    ∃ vm' h', Keep h h' ws ∧ CHr Z EL vm h vm' h' ∧ Q h' ∧ Wk true EL p l e R s m args below meth c S G own B ml mn rt Z a0 n0 h0 vm' h' cells slots pc Ls rest := by
  obtain ⟨v, vm', h', ⟨rfl, K, q⟩, hR, k⟩ := k ws (fun v h' q => q.2.1) hn
  exact ⟨vm', h', K, hR, q, k⟩
theorem Wk.callSW (k : Wk true EL p l e R s m args below meth c S G own B ml mn rt Z a0 n0 h0 vm h cells slots pc Ls St) (wl : (Cond.methodLink own index y).before a0 Z = true) (C : SC Z a0 y cd maxL ret argsL.length) (M : Mt true EL l y cd rm argsL.toArray Z a0 h n0 Q)
    (hd : Dc B pc (.invokestatic index) 3 pc') (W : Nat) (hst : St = argsL.reverse ++ rest) (hL : Ls.size = ml := by rfl) (hW : (rest.map fun v => v.category).sum = W := by rfl) (hr : rm.frames + 1 ≤ R.frames ∧ W + (maxL + 11) + rm.locals ≤ R.locals ∧ cells + rm.cells ≤ R.cells ∧ slots + rm.slots ≤ R.slots := by decide) :
    ClW EL p l e R s m args below meth c S G own B ml mn rt Z a0 n0 h0 vm h (cells + rm.cells) (slots + rm.slots) pc' Ls rest Q := by
  have O := k.old
  obtain ⟨hd, rfl⟩ := hd
  obtain ⟨ws, C⟩ := C
  refine k.calledW fun {T locs} X hx hb hml hZ hown eT hEW H => ?_
  have P := M.payW (p := p) (e := e) (below := below) (s := s) (args := args) (R := R) (len := 3) (W := W) C O hZ hr.1 hr.2.1 hEW H
  have hlen := C.plen (argsL := argsL) rfl
  obtain ⟨⟨bytes, hc⟩, wc, wz, hy, -⟩ := C
  have hZ' : Z.Warmed39 (s.setVm vm).vm := hZ
  have hown' : (s.setVm vm).vm.findClass own = some m.cls := hown
  obtain ⟨mk, methM, hnamed, hmethM, hsig⟩ : ∃ mk methM, (s.setVm vm).methodNamed? y = some mk ∧ (s.setVm vm).vm.method? mk = some methM ∧ parseMethodDescriptor y.desc = some methM.sig := by
    rcases hc with rfl | ⟨hs, rfl⟩
    · have w := mvT (args := args) hZ' wc
      obtain ⟨mk, hnamed⟩ := Cond.code_named w
      obtain ⟨methM, cM, hmethM, -, -, -, -, -, -, hsig⟩ := Cond.code_spec hnamed w
      exact ⟨mk, methM, hnamed, hmethM, hsig⟩
    · obtain ⟨mk, methM, cM, hnamed, hmethM, -, -, -, -, -, -, hsig⟩ := Cond.codeWith_spec (mvT (args := args) hZ' wc)
      exact ⟨mk, methM, hnamed, hmethM, hsig⟩
  exact X.staticBackS hx hown' (mvT hZ' wl) (mvT hZ' ws) (mvT hZ' wz) hnamed hmethM hsig hy P (g := mkF m pc Ls St) rfl (by rw [hml]; exact hL) (Steps.refl _) (argsL := argsL) (rest := rest) hlen hst (wsW m Ls St hW) (by rw [hb]; exact hd) (fun _ _ => ⟨rfl, eT, hr.2.2.1, hr.2.2.2⟩)
theorem Wk.callIW {a : Addr} (k : Wk true EL p l e R s m args below meth c S G own B ml mn rt Z a0 n0 h0 vm h cells slots pc Ls St) (wl : (Cond.methodLink own index y).before a0 Z = true) (C : IC Z a0 y cd maxL argsL.length) (M : Mt true EL l y cd rm (.ref a :: argsL).toArray Z a0 h n0 Q)
    (hd : Dc B pc (.invokespecial index) 3 pc') (W : Nat) (hst : St = argsL.reverse ++ .ref a :: rest) (hL : Ls.size = ml := by rfl) (hW : (rest.map fun v => v.category).sum = W := by rfl) (hr : rm.frames + 1 ≤ R.frames ∧ W + (maxL + 11) + rm.locals ≤ R.locals ∧ cells + rm.cells ≤ R.cells ∧ slots + rm.slots ≤ R.slots := by decide) :
    ClW EL p l e R s m args below meth c S G own B ml mn rt Z a0 n0 h0 vm h (cells + rm.cells) (slots + rm.slots) pc' Ls rest Q := by
  have O := k.old
  obtain ⟨hd, rfl⟩ := hd
  obtain ⟨ws, hy1, C⟩ := C
  refine k.calledW fun {T locs} X hx hb hml hZ hown eT hEW H => ?_
  have P := M.payW (p := p) (e := e) (below := below) (s := s) (args := args) (R := R) (len := 3) (W := W) C O hZ hr.1 hr.2.1 hEW H
  have hlen := C.plen (argsL := argsL) rfl
  obtain ⟨⟨bytes, hc⟩, wc, wz, hy, -⟩ := C
  have hZ' : Z.Warmed39 (s.setVm vm).vm := hZ
  have hown' : (s.setVm vm).vm.findClass own = some m.cls := hown
  rcases hc with rfl | ⟨hs, rfl⟩
  · exact X.specialBackS hx hy1 hown' (mvT hZ' wl) (mvT hZ' ws) (mvT hZ' wc) hy P (g := mkF m pc Ls St) rfl (by rw [hml]; exact hL) (Steps.refl _) (a := a) (argsL := argsL) (rest := rest) hlen hst (wsW m Ls St hW) (by rw [hb]; exact hd) (fun _ _ => ⟨rfl, eT, hr.2.2.1, hr.2.2.2⟩)
  · have hpl : e.platform.magicAccessors = ({} : Platform).magicAccessors := by rw [X.admits.platform]
    obtain ⟨mk, methM, cM, kP, vm₁, hnamed, hmethM, -, -, -, -, hkP, -, hW₁, hstep₁⟩ :=
      Steps.initColdArgsH (e := e) X.here hx X.warmed hpl hown' hy1 hy (mvT (args := args) hZ' wl) (mvT hZ' ws) (mvT hZ' wc) (f := mkF m pc Ls St) rfl hlen hst (by rw [hb]; exact hd)
    have X₁ := X.noted hW₁
    obtain ⟨v, B', X', hS, hgr, hpost, hsteps⟩ := P m meth c ⟨T.setVm vm₁, locs, cells, slots⟩ (mkF m pc Ls rest) (.invokespecial index) mk (.ref a :: argsL).toArray X₁ rfl (by rw [hml]; exact hL) (by rw [hb]; exact hd) (wsW m Ls rest hW) (X₁.named hnamed) ⟨rfl, eT, hr.2.2.1, hr.2.2.2⟩
    exact ⟨v, vm₁, B', hW₁, X', hS, hgr, hpost, (hstep₁ _ fun acts => by rw [doInvoke_state]; exact Steps.refl _).trans hsteps⟩
theorem Wk.callVW {a : Addr} {C : String} (k : Wk true EL p l e R s m args below meth c S G own B ml mn rt Z a0 n0 h0 vm h cells slots pc Ls St) (wl : (Cond.methodLink own index y).before a0 Z = true) (V : VC Z a0 y z C cd maxL ret argsL.length) (E : Exa Z h a C) (M : Mt true EL l z cd rm (.ref a :: argsL).toArray Z a0 h n0 Q)
    (hd : Dc B pc (.invokevirtual index) 3 pc') (W : Nat) (hst : St = argsL.reverse ++ .ref a :: rest) (hL : Ls.size = ml := by rfl) (hW : (rest.map fun v => v.category).sum = W := by rfl) (hr : rm.frames + 1 ≤ R.frames ∧ W + (maxL + 11) + rm.locals ≤ R.locals ∧ cells + rm.cells ≤ R.cells ∧ slots + rm.slots ≤ R.slots := by decide) :
    ClW EL p l e R s m args below meth c S G own B ml mn rt Z a0 n0 h0 vm h (cells + rm.cells) (slots + rm.slots) pc' Ls rest Q := by
  have O := k.old
  obtain ⟨hd, rfl⟩ := hd
  obtain ⟨v1, v2, v3, v4, v5, v6, C⟩ := V
  refine k.calledW fun {T locs} X hx hb hml hZ hown eT hEW H => ?_
  have P := M.payW (p := p) (e := e) (below := below) (s := s) (args := args) (R := R) (len := 3) (W := W) C O hZ hr.1 hr.2.1 hEW H
  have hZ' : Z.Warmed39 (s.setVm vm).vm := hZ
  have hown' : (s.setVm vm).vm.findClass own = some m.cls := hown
  obtain ⟨cq, kq, qa, qb, qc⟩ := isOf hZ' eT E
  exact X.virtualBackS hx hown' (mvT hZ' wl) (mvT hZ' v1) (v2 _ hZ') (mvT hZ' v3) (mvT hZ' v4) v5 P qa qc (g := mkF m pc Ls St) rfl (by rw [hml]; exact hL) (Steps.refl _) (argsL := argsL) (rest := rest) (fun sig q => C.plen (argsL := argsL) rfl sig (v6 ▸ q)) hst (wsW m Ls St hW) (by rw [hb]; exact hd) (fun _ _ => ⟨rfl, eT, hr.2.2.1, hr.2.2.2⟩)
theorem Safe.nul {x : Addr} {L : Lay} {vs : List Value} (hal : Z.vm.Alike vm) (O : Obj Z h x L vs) (i : Nat) {w : Value} (e : L.2[i]? = some ("java/lang/String", "value", "[B", w)) (e' : vs[i]? = some .null) (hL : L.1 ≠ "[B" := by decide) : Safe Z EL vm h x := fun Bb => by
  obtain ⟨cell, k, e1, e2, e3, -, -⟩ := O.exa
  have nm : ∀ {n : String} {c : ClassId}, vm.findClass n = some c → c = cell.cls → n = L.1 := fun {n c} f e => by
    subst e
    rw [hal.findClass] at f
    obtain ⟨k1, q1, q2⟩ := Vm.findClass_spec f
    obtain ⟨k2, q3, q4⟩ := Vm.findClass_spec e2
    cases q1.symm.trans q3
    exact q2.symm.trans q4
  obtain ⟨p, -, u, a, -, q, -, F, rfl | rfl⟩ := Bb
  · obtain ⟨cell', cf, kf, i', f, f1, f2, f3, f4, f5, f6, f7⟩ := O.at i e e'
    obtain ⟨cS, ⟨⟨s1, s2, s3, ⟨cv, kv, iv, s4, s4'⟩, s5, s6, s7, s8, s9⟩, -⟩, -⟩ := F
    cases f1.symm.trans s1
    obtain ⟨kv', z4⟩ := ff_back (U := Wst Z vm h) hal s4
    cases f2.symm.trans z4
    cases f7.symm.trans s8
  · cases (show h[q.sd]? = some q.SA from F.hd).symm.trans e1
    obtain ⟨cS, -, -, f, -⟩ := F
    exact hL (nm f rfl).symm
end LitW
/-! arrays of int kinds: their contents as functions to Int32 -/
section Sym
variable {md : Bool} {EL : List (String × Nat)} {p : Program} {l : Launch} {e : Env} {R : Room} {s : State} {m : MethodId} {args : Array Value} {below : List Frame} {meth : Method} {c : Code} {S : State} {G : JFrame} {own : String} {B : ByteArray} {ml : Nat} {mn : String} {rt : Option FieldType} {Z : State} {a0 : Array Value} {n0 : Nat} {h0 : Heap} {vm : Vm} {h h' : Heap} {cells slots pc pc' : Nat} {Ls Ls' : Array Slot} {St St' : List Value} {f g : Nat → Int32} {n i : Nat}
def bv (f : Nat → Int32) : Nat → Value := fun i => .int (f i)
def lvi (L : List Int32) : Nat → Int32 := fun i => L.getD i 0
def cpyi (f g : Nat → Int32) (sp dp nn : Nat) : Nat → Int32 := fun i => if dp ≤ i ∧ i < dp + nn then f (i - dp + sp) else g i
theorem bv_at : bv f i = .int (f i) := rfl
theorem bv_cpy {sp dp nn : Nat} : ∀ q, q < n → cpyv (bv f) (bv g) sp dp nn q = bv (cpyi f g sp dp nn) q := fun q _ => by
  by_cases h : dp ≤ q ∧ q < dp + nn <;> simp [cpyv, bv, cpyi, h]
theorem bv_zero : ∀ j, j < n → Value.int 0 = bv (fun _ => 0) j := fun _ _ => rfl
theorem bi_const {L : List Int32} (e : L = List.replicate n 0) : ∀ j, j < n → Value.int 0 = bv (lvi L) j := fun j hj => by subst e; simp [bv, lvi, List.getD_eq_getElem?_getD, hj]
theorem bi_set {V V' : List Int32} {v : Int32} (e : V.set i v = V') (hi : i < V.length) : ∀ j, j < n → updv (bv (lvi V)) i (.int v) j = bv (lvi V') j := fun j _ => by
  subst e
  by_cases q : j = i
  · subst q; simp [updv, bv, lvi, List.getD_eq_getElem?_getD, hi]
  · simp [updv, bv, lvi, q, List.getD_eq_getElem?_getD, List.getElem?_set_ne (Ne.symm q)]
theorem lv_bi {L : List Int32} {V : List Value} (e : L.map Value.int = V) (hn : L.length = n) : ∀ j, j < n → lv V j = bv (lvi L) j := fun j hj => by
  subst e hn; simp [lv, bv, lvi, List.getD_eq_getElem?_getD, hj]
theorem bi_cpz {V V' : List Int32} {sp dp nn : Nat} (e : (List.range n).map (fun i => if dp ≤ i ∧ i < dp + nn then V.getD (i - dp + sp) 0 else 0) = V') : ∀ j, j < n → bv (cpyi (lvi V) (fun _ => 0) sp dp nn) j = bv (lvi V') j := fun j hj => by
  subst e
  by_cases h : dp ≤ j ∧ j < dp + nn <;> simp [bv, lvi, cpyi, List.getD_eq_getElem?_getD, hj, h]
theorem Wk.top {x y : Int32} (k : Wk md EL p l e R s m args below meth c S G own B ml mn rt Z a0 n0 h0 vm h cells slots pc Ls (.int x :: St)) (e' : x = y) : Wk md EL p l e R s m args below meth c S G own B ml mn rt Z a0 n0 h0 vm h cells slots pc Ls (.int y :: St) := e' ▸ k
theorem ixS {j q : Int32} {N : Nat} (h1 : ¬ j < 0) (h2 : j < q) (e : q.toNatClampNeg = N) : ¬ j < 0 ∧ j.toNatClampNeg = j.toNatClampNeg ∧ j.toNatClampNeg < N := by
  refine ⟨h1, rfl, ?_⟩
  rw [← e, clampNat, clampNat]
  rw [Int32.lt_iff_toInt_lt] at h1 h2
  have : (0 : Int32).toInt = 0 := rfl
  omega
theorem lenS {q : Int32} (h : ¬ q < 0) : Int32.ofNat q.toNatClampNeg = q := by
  rw [Int32.lt_iff_toInt_lt] at h
  have z : (0 : Int32).toInt = 0 := rfl
  have r := q.toInt_lt
  apply Int32.toInt_inj.mp
  rw [Int32.toInt_ofNat_small (by rw [clampNat]; omega), clampNat]
  omega
theorem nnS {q : Int32} (h : ¬ q < 0) : ¬ q < 0 ∧ q.toNatClampNeg = q.toNatClampNeg := ⟨h, rfl⟩
end Sym
end Jvm.Own
namespace Jvm.Pilot.@@N@@
set_option maxRecDepth 65536
set_option maxHeartbeats 40000000
open Jvm Jvm.ClassFile Sem Op Lib Jvm.Free Jvm.Stand Jvm.LawKit Jvm.RoadKit Jvm.Own Bundle Jvm.Pilot.@@N@@.Jvm.D
def HW (a0 : Array Value) (Z : State) : Prop := ∀ d ∈ tables_1, d.before a0 Z = true
abbrev ATB : String × FieldType := ("[B", .byte)
abbrev ATC : String × FieldType := ("[C", .char)
abbrev rmk (f c s l : Nat) : Room := { frames := f, cells := c, slots := s, locals := l }
variable {l : Launch} {Z : State} {a0 : Array Value} {n0 : Nat} {h0 : Heap}
theorem HW.at (hw : HW a0 Z) (i : Nat) {d : Cond} (e : tables_1[i]? = some d) : d.before a0 Z = true := hw d (List.mem_of_getElem? e)

abbrev lo8 (c : Int32) : Int32 := (c >>> ((0 : Int32) &&& 31)).toInt8.toInt32
abbrev hi8 (c : Int32) : Int32 := (c >>> ((8 : Int32) &&& 31)).toInt8.toInt32
abbrev gcv (x y : Int32) : Int32 := (((x &&& 255) <<< ((0 : Int32) &&& 31)) ||| ((y &&& 255) <<< ((8 : Int32) &&& 31))).toUInt32.toUInt16.toUInt32.toInt32
abbrev latc (x : Int32) : Int32 := (x &&& 255).toUInt32.toUInt16.toUInt32.toInt32
theorem e_lo8 {v c : Int32} (e : v = lo8 c) : -128 ≤ v.toInt ∧ v.toInt < 128 := (e_i2b e).2
theorem e_hi8 {v c : Int32} (e : v = hi8 c) : -128 ≤ v.toInt ∧ v.toInt < 128 := (e_i2b e).2
theorem e_gcv {v x y : Int32} (e : v = gcv x y) : 0 ≤ v.toInt ∧ v.toInt < 65536 := (e_i2c e).2
theorem e_latc {v x : Int32} (e : v = latc x) : v.toInt = x.toInt % 256 := by
  subst e
  show ((x &&& 255).toUInt32.toUInt16.toUInt32.toInt32).toInt = _
  have c2 := e_mask (v := x &&& 255) rfl 8 256
  have c3 := c_i2c (x &&& 255)
  omega
abbrev lat8 (c : Int32) : Int32 := c.toInt8.toInt32
def RG : List Int32 → Prop
  | [] => True
  | c :: t => (¬ (c < 0) ∧ c < 65536) ∧ RG t
def AL : List Int32 → Prop
  | [] => True
  | c :: t => ¬ (255 < c) ∧ AL t
def FU : List Int32 → Prop
  | [] => False
  | c :: t => 255 < c ∨ (¬ (255 < c) ∧ FU t)
def Str (Z : State) (h : Heap) (a b : Addr) (cs : List Int32) : Prop :=
  RG cs ∧ ((∃ T, Obj Z h a litL [.ref b, .int 0] ∧ Ary Z h b (T, .byte) cs.length (bv (lvi (cs.map lat8))) ∧ AL cs) ∨ (Obj Z h a litL [.ref b, .int 1] ∧ Ary Z h b ATB (cs.flatMap fun c => [lo8 c, hi8 c]).length (bv (lvi (cs.flatMap fun c => [lo8 c, hi8 c]))) ∧ FU cs))
theorem Str.keep {h h' : Heap} {a b : Addr} {cs : List Int32} {ws : List Addr} (S : Str Z h a b cs) (K : Keep h h' ws) (na : a ∉ ws) (nb : b ∉ ws) : Str Z h' a b cs := by
  obtain ⟨g, ⟨T, O, A, q⟩ | ⟨O, A, q⟩⟩ := S
  · exact ⟨g, Or.inl ⟨T, O.keep K na, A.keep K nb, q⟩⟩
  · exact ⟨g, Or.inr ⟨O.keep K na, A.keep K nb, q⟩⟩
theorem Str.exa {h : Heap} {a b : Addr} {cs : List Int32} (S : Str Z h a b cs) : Exa Z h a "java/lang/String" := by
  obtain ⟨g, ⟨T, O, A, q⟩ | ⟨O, A, q⟩⟩ := S
  · exact O.exa
  · exact O.exa
def drw (p : Int32) : Int32 := if ((p.toUInt32 >>> ((16 : Int32) &&& 31).toUInt32).toInt32 &&& 3) = 0 then 32 else if ((p.toUInt32 >>> ((16 : Int32) &&& 31).toUInt32).toInt32 &&& 3) = 1 then 9 else if ((p.toUInt32 >>> ((16 : Int32) &&& 31).toUInt32).toInt32 &&& 3) = 2 then (p &&& 255).toUInt32.toUInt16.toUInt32.toInt32 else (p &&& 65535).toUInt32.toUInt16.toUInt32.toInt32
def bl (c : Int32) : Int32 := if c = 32 then 1 else if c = 9 then 1 else 0
theorem e_drw {v p : Int32} (e : v = drw p) : 0 ≤ v.toInt ∧ v.toInt < 65536 := by
  subst e
  have q1 := (c_i2c (p &&& 255)).2
  have q2 := (c_i2c (p &&& 65535)).2
  unfold drw
  split
  · decide
  · split
    · decide
    · split
      · exact q1
      · exact q2
theorem e_bl {v c : Int32} (e : v = bl c) : (v.toInt = 1 ∧ (c.toInt = 32 ∨ c.toInt = 9)) ∨ (v.toInt = 0 ∧ ¬ c.toInt = 32 ∧ ¬ c.toInt = 9) := by
  subst e
  unfold bl
  split
  · rename_i h; subst h; exact Or.inl ⟨by decide, Or.inl (by decide)⟩
  · rename_i h1
    split
    · rename_i h; subst h; exact Or.inl ⟨by decide, Or.inr (by decide)⟩
    · rename_i h2; exact Or.inr ⟨by decide, i_neq h1, i_neq h2⟩
abbrev TS_AD (Z : State) : Prop := Sta Z Z.heap "java/lang/StringUTF16" "$assertionsDisabled" "Z" (.int 1)
abbrev TS_HI (Z : State) : Prop := Sta Z Z.heap "java/lang/StringUTF16" "HI_BYTE_SHIFT" "I" (.int 0)
abbrev TS_LO (Z : State) : Prop := Sta Z Z.heap "java/lang/StringUTF16" "LO_BYTE_SHIFT" "I" (.int 8)
abbrev TS_CS (Z : State) (w_CS : Int32) : Prop := Sta Z Z.heap "java/lang/String" "COMPACT_STRINGS" "Z" (.int w_CS)
abbrev TS_SF (Z : State) (w_SF : Value) : Prop := Sta Z Z.heap "jdk/internal/util/Preconditions" "SIOOBE_FORMATTER" "Ljava/util/function/BiFunction;" w_SF
def Gl (Z : State) (w_CS : Int32) (w_SF : Value) : Prop := TS_AD Z ∧ TS_HI Z ∧ TS_LO Z ∧ TS_CS Z w_CS ∧ TS_SF Z w_SF ∧ w_SF.isRef = true ∧ ¬ (w_CS = 0)
theorem Gl.S_AD {w_CS : Int32} {w_SF : Value} (G : Gl Z w_CS w_SF) : TS_AD Z := G.1
theorem Gl.S_HI {w_CS : Int32} {w_SF : Value} (G : Gl Z w_CS w_SF) : TS_HI Z := G.2.1
theorem Gl.S_LO {w_CS : Int32} {w_SF : Value} (G : Gl Z w_CS w_SF) : TS_LO Z := G.2.2.1
theorem Gl.S_CS {w_CS : Int32} {w_SF : Value} (G : Gl Z w_CS w_SF) : TS_CS Z w_CS := G.2.2.2.1
theorem Gl.S_SF {w_CS : Int32} {w_SF : Value} (G : Gl Z w_CS w_SF) : TS_SF Z w_SF := G.2.2.2.2.1
theorem Gl.r_SF {w_CS : Int32} {w_SF : Value} (G : Gl Z w_CS w_SF) : w_SF.isRef = true := G.2.2.2.2.2.1
theorem Gl.h_CS {w_CS : Int32} {w_SF : Value} (G : Gl Z w_CS w_SF) : ¬ (w_CS = 0) := G.2.2.2.2.2.2
variable {w_CS : Int32} {w_SF : Value}
abbrev Y0 : MethodName := ⟨"com/example/haulwright/haulwright/TextInputStripPinLaw", "draw", "(I)C"⟩
abbrev J0 := method_5_code
abbrev C0 : Cond := .code Y0 J0 2 (some .char)
theorem D0_0 : Dc J0 0 (.iload_n 0) 1 1 := by decide +kernel
theorem D0_1 : Dc J0 1 (.bipush 16) 2 3 := by decide +kernel
theorem D0_3 : Dc J0 3 .iushr 1 4 := by decide +kernel
theorem D0_4 : Dc J0 4 (.iconst 3) 1 5 := by decide +kernel
theorem D0_5 : Dc J0 5 .iand 1 6 := by decide +kernel
theorem D0_6 : Dc J0 6 (.istore_n 1) 1 7 := by decide +kernel
theorem sto1 {x0 x : Slot} {t : List Slot} {v : Value} (hx : okS x = true := by rfl) (hv : v.category = 1 := by rfl) : storeLocals (List.toArray (x0 :: x :: t)) 1 v = some (List.toArray (x0 :: .val v :: t)) := stoA (A := [x0]) hx hv
theorem D0_7 : Dc J0 7 (.iload_n 1) 1 8 := by decide +kernel
theorem D0_8 : Dj J0 8 (.ifCond .ne 6) 6 11 14 := by decide +kernel
theorem D0_11 : Dc J0 11 (.bipush 32) 2 13 := by decide +kernel
theorem D0_13 : Dc J0 13 .ireturn 1 14 := by decide +kernel
theorem D0_14 : Dc J0 14 (.iload_n 1) 1 15 := by decide +kernel
theorem D0_15 : Dc J0 15 (.iconst 1) 1 16 := by decide +kernel
theorem D0_16 : Dj J0 16 (.if_icmp .ne 6) 6 19 22 := by decide +kernel
theorem D0_19 : Dc J0 19 (.bipush 9) 2 21 := by decide +kernel
theorem D0_21 : Dc J0 21 .ireturn 1 22 := by decide +kernel
theorem D0_22 : Dc J0 22 (.iload_n 1) 1 23 := by decide +kernel
theorem D0_23 : Dc J0 23 (.iconst 2) 1 24 := by decide +kernel
theorem D0_24 : Dj J0 24 (.if_icmp .ne 10) 10 27 34 := by decide +kernel
theorem D0_27 : Dc J0 27 (.iload_n 0) 1 28 := by decide +kernel
theorem D0_28 : Dc J0 28 (.sipush 255) 3 31 := by decide +kernel
theorem D0_31 : Dc J0 31 .iand 1 32 := by decide +kernel
theorem D0_32 : Dc J0 32 .i2c 1 33 := by decide +kernel
theorem D0_33 : Dc J0 33 .ireturn 1 34 := by decide +kernel
theorem D0_34 : Dc J0 34 (.iload_n 0) 1 35 := by decide +kernel
theorem D0_35 : Dc J0 35 (.ldc 44) 2 37 := by decide +kernel
abbrev w_103 (hw : HW a0 Z) := hw.at 103 rfl
theorem D0_37 : Dc J0 37 .iand 1 38 := by decide +kernel
theorem D0_38 : Dc J0 38 .i2c 1 39 := by decide +kernel
theorem D0_39 : Dc J0 39 .ireturn 1 40 := by decide +kernel
theorem pn_TextInputStripPinLaw : plainName "com/example/haulwright/haulwright/TextInputStripPinLaw" = true := by first | (simp [plainName, overriddenIn]; done) | decide +kernel
theorem PN0 : plainFor Y0 = true := plainFor_of_name pn_TextInputStripPinLaw
theorem ef_I_2 {x0 : Int32}  (m : MethodId) : entryFrame m #[(.int x0)] 2 = mkF m 0 #[.val (.int x0), .unset] [] := by
  first | (simp [entryFrame, mkF, argsToLocals, Value.category]; done) | rfl
theorem R_own_draw {p1 : Int32} (hw : HW a0 Z) (G : Gl Z w_CS w_SF) : Mt false [] l Y0 C0 (rmk 0 0 0 0) #[.int p1] Z a0 h0 n0 (Pv h0 (.int (drw p1))) := by
  refine Mt.go PN0 (Or.inl rfl) ef_I_2 fun k => ?_
  replace k := k |>.iloadN D0_0 rfl |>.bipush D0_1 16 |>.iushr D0_3 rfl |>.iconst D0_4 3 |>.iand D0_5 rfl |>.istoreN D0_6 sto1 |>.iloadN D0_7 rfl
  by_cases hc8_1 : (((p1.toUInt32 >>> ((16 : Int32) &&& 31).toUInt32).toInt32) &&& 3) = 0
  · replace k := k |>.ifNo D0_8 ((if0 _ _).trans (teq hc8_1).2) |>.bipush D0_11 32
    exact k.retN (t := .char) D0_13 rfl (by simp) (z' := 32) (by decide) ⟨congrArg some (congrArg Value.int (by unfold drw; rw [if_pos hc8_1])), rfl⟩
  · replace k := k |>.ifYes D0_8 ((if0 _ _).trans (feq hc8_1).2) |>.iloadN D0_14 rfl |>.iconst D0_15 1
    by_cases hc16_2 : (((p1.toUInt32 >>> ((16 : Int32) &&& 31).toUInt32).toInt32) &&& 3) = 1
    · replace k := k |>.icmpNo D0_16 (teq hc16_2).2 |>.bipush D0_19 9
      exact k.retN (t := .char) D0_21 rfl (by simp) (z' := 9) (by decide) ⟨congrArg some (congrArg Value.int (by unfold drw; rw [if_neg hc8_1]; rw [if_pos hc16_2])), rfl⟩
    · replace k := k |>.icmpYes D0_16 (feq hc16_2).2 |>.iloadN D0_22 rfl |>.iconst D0_23 2
      by_cases hc24_3 : (((p1.toUInt32 >>> ((16 : Int32) &&& 31).toUInt32).toInt32) &&& 3) = 2
      · replace k := k |>.icmpNo D0_24 (teq hc24_3).2 |>.iloadN D0_27 rfl |>.sipush D0_28 255 |>.iand D0_31 rfl |>.i2c D0_32 rfl
        exact k.retN (t := .char) D0_33 rfl (by simp) (own_nnCi2c _) ⟨congrArg some (congrArg Value.int (by unfold drw; rw [if_neg hc8_1]; rw [if_neg hc16_2]; rw [if_pos hc24_3])), rfl⟩
      · replace k := k |>.icmpYes D0_24 (feq hc24_3).2 |>.iloadN D0_34 rfl |>.ldcI (w_103 hw) D0_35 |>.iand D0_37 rfl |>.i2c D0_38 rfl
        exact k.retN (t := .char) D0_39 rfl (by simp) (own_nnCi2c _) ⟨congrArg some (congrArg Value.int (by unfold drw; rw [if_neg hc8_1]; rw [if_neg hc16_2]; rw [if_neg hc24_3])), rfl⟩
abbrev Y1 : MethodName := ⟨"com/example/haulwright/haulwright/TextInputStripPinLaw", "blank", "(C)Z"⟩
abbrev J1 := method_4_code
abbrev C1 : Cond := .code Y1 J1 1 (some .boolean)
theorem D1_0 : Dc J1 0 (.iload_n 0) 1 1 := by decide +kernel
theorem D1_1 : Dc J1 1 (.bipush 32) 2 3 := by decide +kernel
theorem D1_3 : Dj J1 3 (.if_icmp .eq 9) 9 6 12 := by decide +kernel
theorem D1_12 : Dc J1 12 (.iconst 1) 1 13 := by decide +kernel
theorem D1_13 : Dj J1 13 (.goto 4) 4 16 17 := by decide +kernel
theorem D1_17 : Dc J1 17 .ireturn 1 18 := by decide +kernel
theorem D1_6 : Dc J1 6 (.iload_n 0) 1 7 := by decide +kernel
theorem D1_7 : Dc J1 7 (.bipush 9) 2 9 := by decide +kernel
theorem D1_9 : Dj J1 9 (.if_icmp .ne 7) 7 12 16 := by decide +kernel
theorem D1_16 : Dc J1 16 (.iconst 0) 1 17 := by decide +kernel
theorem PN1 : plainFor Y1 = true := plainFor_of_name pn_TextInputStripPinLaw
theorem ef_I_1 {x0 : Int32}  (m : MethodId) : entryFrame m #[(.int x0)] 1 = mkF m 0 #[.val (.int x0)] [] := by
  first | (simp [entryFrame, mkF, argsToLocals, Value.category]; done) | rfl
theorem R_own_blank {p1 : Int32} (hw : HW a0 Z) (G : Gl Z w_CS w_SF) : Mt false [] l Y1 C1 (rmk 0 0 0 0) #[.int p1] Z a0 h0 n0 (Pv h0 (.int (bl p1))) := by
  refine Mt.go PN1 (Or.inl rfl) ef_I_1 fun k => ?_
  replace k := k |>.iloadN D1_0 rfl |>.bipush D1_1 32
  by_cases hc3_1 : p1 = 32
  · replace k := k |>.icmpYes D1_3 (teq hc3_1).1 |>.iconst D1_12 1 |>.goto D1_13
    exact k.retN (t := .boolean) D1_17 rfl (by simp) (z' := 1) (by decide) ⟨congrArg some (congrArg Value.int (by unfold bl; rw [if_pos hc3_1])), rfl⟩
  · replace k := k |>.icmpNo D1_3 (feq hc3_1).1 |>.iloadN D1_6 rfl |>.bipush D1_7 9
    by_cases hc9_2 : p1 = 9
    · replace k := k |>.icmpNo D1_9 (teq hc9_2).2 |>.iconst D1_12 1 |>.goto D1_13
      exact k.retN (t := .boolean) D1_17 rfl (by simp) (z' := 1) (by decide) ⟨congrArg some (congrArg Value.int (by unfold bl; rw [if_neg hc3_1]; rw [if_pos hc9_2])), rfl⟩
    · replace k := k |>.icmpYes D1_9 (feq hc9_2).2 |>.iconst D1_16 0
      exact k.retN (t := .boolean) D1_17 rfl (by simp) (z' := 0) (by decide) ⟨congrArg some (congrArg Value.int (by unfold bl; rw [if_neg hc3_1]; rw [if_neg hc9_2])), rfl⟩
abbrev Y2 : MethodName := ⟨"com/example/haulwright/haulwright/TextInput", "isBlank", "(C)Z"⟩
abbrev J2 := prog_40_method_8_code
abbrev C2 : Cond := .code Y2 J2 1 (some .boolean)
theorem D2_0 : Dc J2 0 (.iload_n 0) 1 1 := by decide +kernel
theorem D2_1 : Dc J2 1 (.bipush 32) 2 3 := by decide +kernel
theorem D2_3 : Dj J2 3 (.if_icmp .eq 9) 9 6 12 := by decide +kernel
theorem D2_12 : Dc J2 12 (.iconst 1) 1 13 := by decide +kernel
theorem D2_13 : Dj J2 13 (.goto 4) 4 16 17 := by decide +kernel
theorem D2_17 : Dc J2 17 .ireturn 1 18 := by decide +kernel
theorem D2_6 : Dc J2 6 (.iload_n 0) 1 7 := by decide +kernel
theorem D2_7 : Dc J2 7 (.bipush 9) 2 9 := by decide +kernel
theorem D2_9 : Dj J2 9 (.if_icmp .ne 7) 7 12 16 := by decide +kernel
theorem D2_16 : Dc J2 16 (.iconst 0) 1 17 := by decide +kernel
theorem pn_TextInput : plainName "com/example/haulwright/haulwright/TextInput" = true := by first | (simp [plainName, overriddenIn]; done) | decide +kernel
theorem PN2 : plainFor Y2 = true := plainFor_of_name pn_TextInput
theorem R_own_isBlank {p1 : Int32} (hw : HW a0 Z) (G : Gl Z w_CS w_SF) : Mt false [] l Y2 C2 (rmk 0 0 0 0) #[.int p1] Z a0 h0 n0 (Pv h0 (.int (bl p1))) := by
  refine Mt.go PN2 (Or.inl rfl) ef_I_1 fun k => ?_
  replace k := k |>.iloadN D2_0 rfl |>.bipush D2_1 32
  by_cases hc3_1 : p1 = 32
  · replace k := k |>.icmpYes D2_3 (teq hc3_1).1 |>.iconst D2_12 1 |>.goto D2_13
    exact k.retN (t := .boolean) D2_17 rfl (by simp) (z' := 1) (by decide) ⟨congrArg some (congrArg Value.int (by unfold bl; rw [if_pos hc3_1])), rfl⟩
  · replace k := k |>.icmpNo D2_3 (feq hc3_1).1 |>.iloadN D2_6 rfl |>.bipush D2_7 9
    by_cases hc9_2 : p1 = 9
    · replace k := k |>.icmpNo D2_9 (teq hc9_2).2 |>.iconst D2_12 1 |>.goto D2_13
      exact k.retN (t := .boolean) D2_17 rfl (by simp) (z' := 1) (by decide) ⟨congrArg some (congrArg Value.int (by unfold bl; rw [if_neg hc3_1]; rw [if_pos hc9_2])), rfl⟩
    · replace k := k |>.icmpYes D2_9 (feq hc9_2).2 |>.iconst D2_16 0
      exact k.retN (t := .boolean) D2_17 rfl (by simp) (z' := 0) (by decide) ⟨congrArg some (congrArg Value.int (by unfold bl; rw [if_neg hc3_1]; rw [if_neg hc9_2])), rfl⟩
abbrev w_8 (hw : HW a0 Z) := hw.at 8 rfl
abbrev w_7 (hw : HW a0 Z) := hw.at 7 rfl
abbrev w_23 (hw : HW a0 Z) := hw.at 23 rfl
abbrev w_24 (hw : HW a0 Z) := hw.at 24 rfl
abbrev w_25 (hw : HW a0 Z) := hw.at 25 rfl
abbrev w_26 (hw : HW a0 Z) := hw.at 26 rfl
abbrev w_27 (hw : HW a0 Z) := hw.at 27 rfl
theorem strAt (hw : HW a0 Z) : ∀ a ∈ Bundle.stringAtoms, a.before a0 Z = true := allC (w_8 hw) (allC (w_7 hw) (allC (w_23 hw) (allC (w_24 hw) (allC (w_25 hw) (allC (w_26 hw) (allC (w_27 hw) (allN)))))))
abbrev w_99 (hw : HW a0 Z) := hw.at 99 rfl
abbrev w_22 (hw : HW a0 Z) := hw.at 22 rfl
theorem ewC (hw : HW a0 Z) : EW Z a0 consts_1 := (EW.cons (w_22 hw) (by decide) (EW.cons (w_99 hw) (by decide) EW.nil))
abbrev Y3 : MethodName := x
abbrev C3 : Cond := .code x code maxLocals ret
theorem D3_0 : Dc code 0 (.iload_n 0) 1 1 := ⟨at_0, rfl⟩
theorem D3_1 : Dc code 1 (.ldc 7) 2 3 := ⟨at_1, rfl⟩
abbrev w_0 (hw : HW a0 Z) := hw.at 0 rfl
theorem D3_3 : Dc code 3 .iand 1 4 := ⟨at_3, rfl⟩
theorem D3_4 : Dc code 4 (.iconst 5) 1 5 := ⟨at_4, rfl⟩
theorem D3_5 : Dc code 5 .irem 1 6 := ⟨at_5, rfl⟩
theorem D3_6 : Dc code 6 (.istore 5) 2 8 := ⟨at_6, rfl⟩
theorem sto5 {x0 x1 x2 x3 x4 x : Slot} {t : List Slot} {v : Value} (hx : okS x = true := by rfl) (hv : v.category = 1 := by rfl) : storeLocals (List.toArray (x0 :: x1 :: x2 :: x3 :: x4 :: x :: t)) 5 v = some (List.toArray (x0 :: x1 :: x2 :: x3 :: x4 :: .val v :: t)) := stoA (A := [x0, x1, x2, x3, x4]) hx hv
theorem D3_8 : Dc code 8 (.iconst 4) 1 9 := ⟨at_8, rfl⟩
theorem D3_9 : Dc code 9 (.newarray .char) 2 11 := ⟨at_9, rfl⟩
abbrev w_1 (hw : HW a0 Z) := hw.at 1 rfl
theorem D3_11 : Dc code 11 .dup 1 12 := ⟨at_11, rfl⟩
theorem D3_12 : Dc code 12 (.iconst 0) 1 13 := ⟨at_12, rfl⟩
theorem D3_13 : Dc code 13 (.iload_n 1) 1 14 := ⟨at_13, rfl⟩
theorem D3_14 : Dc code 14 (.invokestatic 8) 3 17 := ⟨at_14, rfl⟩
abbrev w_2 (hw : HW a0 Z) := hw.at 2 rfl
abbrev w_5 (hw : HW a0 Z) := hw.at 5 rfl
abbrev w_4 (hw : HW a0 Z) := hw.at 4 rfl
theorem pd_I_r_C : parseMethodDescriptor "(I)C" = some ⟨[.int], some .char⟩ := by decide +kernel
abbrev w_3 (hw : HW a0 Z) := hw.at 3 rfl
theorem S0 (hw : HW a0 Z) : SC Z a0 Y0 C0 2 (some .char) 1 := ⟨(w_3 hw), ⟨⟨_, Or.inl rfl⟩, (w_5 hw), (w_4 hw), by decide, _, _, pd_I_r_C, rfl⟩⟩
theorem D3_17 : Dc code 17 .castore 1 18 := ⟨at_17, rfl⟩
theorem bis0 { x v : Int32} {t : List Int32} {n : Nat} : ∀ j, j < n → updv (bv (lvi (x :: t))) 0 (.int v) j = bv (lvi (v :: t)) j := bi_set rfl (by simp)
theorem D3_18 : Dc code 18 .dup 1 19 := ⟨at_18, rfl⟩
theorem D3_19 : Dc code 19 (.iconst 1) 1 20 := ⟨at_19, rfl⟩
theorem D3_20 : Dc code 20 (.iload_n 2) 1 21 := ⟨at_20, rfl⟩
theorem D3_21 : Dc code 21 (.invokestatic 8) 3 24 := ⟨at_21, rfl⟩
theorem D3_24 : Dc code 24 .castore 1 25 := ⟨at_24, rfl⟩
theorem bis1 {x0 x v : Int32} {t : List Int32} {n : Nat} : ∀ j, j < n → updv (bv (lvi (x0 :: x :: t))) 1 (.int v) j = bv (lvi (x0 :: v :: t)) j := bi_set rfl (by simp)
theorem D3_25 : Dc code 25 .dup 1 26 := ⟨at_25, rfl⟩
theorem D3_26 : Dc code 26 (.iconst 2) 1 27 := ⟨at_26, rfl⟩
theorem D3_27 : Dc code 27 (.iload_n 3) 1 28 := ⟨at_27, rfl⟩
theorem D3_28 : Dc code 28 (.invokestatic 8) 3 31 := ⟨at_28, rfl⟩
theorem D3_31 : Dc code 31 .castore 1 32 := ⟨at_31, rfl⟩
theorem bis2 {x0 x1 x v : Int32} {t : List Int32} {n : Nat} : ∀ j, j < n → updv (bv (lvi (x0 :: x1 :: x :: t))) 2 (.int v) j = bv (lvi (x0 :: x1 :: v :: t)) j := bi_set rfl (by simp)
theorem D3_32 : Dc code 32 .dup 1 33 := ⟨at_32, rfl⟩
theorem D3_33 : Dc code 33 (.iconst 3) 1 34 := ⟨at_33, rfl⟩
theorem D3_34 : Dc code 34 (.iload 4) 2 36 := ⟨at_34, rfl⟩
theorem D3_36 : Dc code 36 (.invokestatic 8) 3 39 := ⟨at_36, rfl⟩
theorem D3_39 : Dc code 39 .castore 1 40 := ⟨at_39, rfl⟩
theorem bis3 {x0 x1 x2 x v : Int32} {t : List Int32} {n : Nat} : ∀ j, j < n → updv (bv (lvi (x0 :: x1 :: x2 :: x :: t))) 3 (.int v) j = bv (lvi (x0 :: x1 :: x2 :: v :: t)) j := bi_set rfl (by simp)
theorem D3_40 : Dc code 40 (.astore 6) 2 42 := ⟨at_40, rfl⟩
theorem sto6 {x0 x1 x2 x3 x4 x5 x : Slot} {t : List Slot} {v : Value} (hx : okS x = true := by rfl) (hv : v.category = 1 := by rfl) : storeLocals (List.toArray (x0 :: x1 :: x2 :: x3 :: x4 :: x5 :: x :: t)) 6 v = some (List.toArray (x0 :: x1 :: x2 :: x3 :: x4 :: x5 :: .val v :: t)) := stoA (A := [x0, x1, x2, x3, x4, x5]) hx hv
theorem D3_42 : Dc code 42 (.new 14) 3 45 := ⟨at_42, rfl⟩
abbrev L_String : Jvm.Own.Lay := ("java/lang/String", [("java/lang/String", "value", "[B", .null), ("java/lang/String", "coder", "B", (.int 0))])
theorem dvL_String : (L_String.2.map fun q => q.2.2.2) = [.null, (.int 0)] := rfl
theorem okL_String (hw : HW a0 Z) : LOk Z a0 L_String := ⟨allC ⟨Or.inr (w_24 hw), (.array .byte), by decide +kernel, rfl⟩ (allC ⟨Or.inr (w_25 hw), .byte, by decide +kernel, rfl⟩ (allN)), by decide +kernel⟩
theorem nw_String (hw : HW a0 Z) : NW Z a0 L_String 4 := ⟨okL_String hw, (w_7 hw), (w_8 hw)⟩
abbrev w_6 (hw : HW a0 Z) := hw.at 6 rfl
theorem D3_45 : Dc code 45 .dup 1 46 := ⟨at_45, rfl⟩
theorem D3_46 : Dc code 46 (.aload 6) 2 48 := ⟨at_46, rfl⟩
theorem D3_48 : Dc code 48 (.iload 5) 2 50 := ⟨at_48, rfl⟩
theorem D3_50 : Dc code 50 (.invokestatic 16) 3 53 := ⟨at_50, rfl⟩
abbrev Y4 : MethodName := ⟨"com/example/haulwright/haulwright/TextInputStripPinLaw", "prefix", "([CI)[C"⟩
abbrev J4 := method_6_code
abbrev C4 : Cond := .code Y4 J4 2 (some (.array .char))
theorem D4_0 : Dc J4 0 (.iload_n 1) 1 1 := by decide +kernel
theorem D4_1 : Dj J4 1 (.ifCond .ne 7) 7 4 8 := by decide +kernel
theorem D4_4 : Dc J4 4 (.iconst 0) 1 5 := by decide +kernel
theorem D4_5 : Dc J4 5 (.newarray .char) 2 7 := by decide +kernel
theorem D4_7 : Dc J4 7 .areturn 1 8 := by decide +kernel
theorem PN4 : plainFor Y4 = true := plainFor_of_name pn_TextInputStripPinLaw
theorem ef_RI_2 {x0 : Addr} {x1 : Int32}  (m : MethodId) : entryFrame m #[(.ref x0), (.int x1)] 2 = mkF m 0 #[.val (.ref x0), .val (.int x1)] [] := by
  first | (simp [entryFrame, mkF, argsToLocals, Value.category]; done) | rfl
theorem R_4_2 {a1 : Addr} {p2 : Int32} (hw : HW a0 Z) (G : Gl Z w_CS w_SF) (pr1 : p2 = 0) : Mt false [] l Y4 C4 (rmk 0 1 0 0) #[.ref a1, .int p2] Z a0 h0 n0 (KpV h0 [] fun v h => ∃ u1 : Addr, v = (.ref u1) ∧ h0.size ≤ u1 ∧ Ary Z h u1 ATC 0 (bv (lvi []))) := by
  refine Mt.go PN4 (Or.inl rfl) ef_RI_2 fun k => ?_
  replace k := k |>.iloadN D4_0 rfl |>.ifNo D4_1 ((if0 _ _).trans (teq pr1).2) |>.iconst D4_4 0
  have z1 := k.sz
  obtain ⟨b1, h1, g1, K1, O1, k⟩ := k.newP (aty := .char) "[C" (w_1 hw) (by decide) D4_5 0 (by decide) (n := 0) (by decide) (by decide) (by decide) (bi_const (L := []) rfl)
  have s_b1 := Nat.le_trans z1 g1
  exact k.retA D4_7 rfl ⟨_, rfl, K1, b1, rfl, s_b1, O1⟩
abbrev w_9 (hw : HW a0 Z) := hw.at 9 rfl
abbrev w_11 (hw : HW a0 Z) := hw.at 11 rfl
theorem pd_ACI_r_AC : parseMethodDescriptor "([CI)[C" = some ⟨[(.array .char), .int], some (.array .char)⟩ := by decide +kernel
abbrev w_10 (hw : HW a0 Z) := hw.at 10 rfl
theorem S4 (hw : HW a0 Z) : SC Z a0 Y4 C4 2 (some (.array .char)) 2 := ⟨(w_10 hw), ⟨⟨_, Or.inl rfl⟩, (w_11 hw), (w_4 hw), by decide, _, _, pd_ACI_r_AC, rfl⟩⟩
theorem D3_53 : Dc code 53 (.invokespecial 20) 3 56 := ⟨at_53, rfl⟩
abbrev Y5 : MethodName := ⟨"java/lang/String", "<init>", "([C)V"⟩
abbrev J5 := jdk_42_method_3_code
abbrev C5 : Cond := .code Y5 J5 2 none
theorem D5_0 : Dc J5 0 (.aload_n 0) 1 1 := by decide +kernel
theorem D5_1 : Dc J5 1 (.aload_n 1) 1 2 := by decide +kernel
theorem D5_2 : Dc J5 2 (.iconst 0) 1 3 := by decide +kernel
theorem D5_3 : Dc J5 3 (.aload_n 1) 1 4 := by decide +kernel
theorem D5_4 : Dc J5 4 .arraylength 1 5 := by decide +kernel
theorem D5_5 : Dc J5 5 .aconst_null 1 6 := by decide +kernel
theorem D5_6 : Dc J5 6 (.invokespecial 27) 3 9 := by decide +kernel
abbrev Y6 : MethodName := ⟨"java/lang/String", "<init>", "([CIILjava/lang/Void;)V"⟩
abbrev J6 := jdk_42_method_149_code
abbrev C6 : Cond := .code Y6 J6 6 none
theorem D6_0 : Dc J6 0 (.aload_n 0) 1 1 := by decide +kernel
theorem D6_1 : Dc J6 1 (.invokespecial 1) 3 4 := by decide +kernel
abbrev w_19 (hw : HW a0 Z) := hw.at 19 rfl
abbrev w_20 (hw : HW a0 Z) := hw.at 20 rfl
abbrev w_21 (hw : HW a0 Z) := hw.at 21 rfl
theorem D6_4 : Dc J6 4 (.iload_n 3) 1 5 := by decide +kernel
theorem D6_5 : Dj J6 5 (.ifCond .ne 22) 22 8 27 := by decide +kernel
theorem D6_8 : Dc J6 8 (.aload_n 0) 1 9 := by decide +kernel
theorem D6_9 : Dc J6 9 (.ldc 7) 2 11 := by decide +kernel
theorem lit_22 : (∀ c ∈ "".toList, c.toNat < 256) ∧ "".toList.map (fun c => Value.int (Jvm.Lit.byteI c.toNat.toUInt16)) = [] := by decide +kernel
theorem D6_11 : Dc J6 11 (.getfield 9) 3 14 := by decide +kernel
abbrev w_28 (hw : HW a0 Z) := hw.at 28 rfl
theorem fl_28 (hw : HW a0 Z) : FL Z a0 "java/lang/String" 9 "java/lang/String" "value" "[B" := ⟨_, "", Or.inl (w_28 hw), Via.refl⟩
theorem D6_14 : Dc J6 14 (.putfield 9) 3 17 := by decide +kernel
theorem pw_String_i_String_value (hw : HW a0 Z) : PW Z a0 "java/lang/String" "<init>" L_String "java/lang/String" "value" "[B" (.array .byte) := ⟨okL_String hw, Or.inr ⟨(w_24 hw), rfl, rfl⟩, ⟨_, (w_7 hw)⟩, by decide +kernel⟩
theorem ls0 { x v : Value} {t : List Value} : (x :: t).set 0 v = v :: t := rfl
theorem D6_17 : Dc J6 17 (.aload_n 0) 1 18 := by decide +kernel
theorem D6_18 : Dc J6 18 (.ldc 7) 2 20 := by decide +kernel
theorem D6_20 : Dc J6 20 (.getfield 15) 3 23 := by decide +kernel
abbrev w_29 (hw : HW a0 Z) := hw.at 29 rfl
theorem fl_29 (hw : HW a0 Z) : FL Z a0 "java/lang/String" 15 "java/lang/String" "coder" "B" := ⟨_, "", Or.inl (w_29 hw), Via.refl⟩
theorem D6_23 : Dc J6 23 (.putfield 15) 3 26 := by decide +kernel
theorem fp_29 (hw : HW a0 Z) : FP Z a0 "java/lang/String" 15 "java/lang/String" "coder" "B" := ⟨_, (w_29 hw), Via.refl⟩
theorem pw_String_i_String_coder (hw : HW a0 Z) : PW Z a0 "java/lang/String" "<init>" L_String "java/lang/String" "coder" "B" .byte := ⟨okL_String hw, Or.inr ⟨(w_25 hw), rfl, rfl⟩, ⟨_, (w_7 hw)⟩, by decide +kernel⟩
theorem ls1 {x0 x v : Value} {t : List Value} : (x0 :: x :: t).set 1 v = x0 :: v :: t := rfl
theorem D6_26 : Dc J6 26 .return_ 1 27 := by decide +kernel
theorem pn_String : plainName "java/lang/String" = true := by first | (simp [plainName, overriddenIn]; done) | decide +kernel
theorem PN6 : plainFor Y6 = true := plainFor_of_name pn_String
theorem ef_RRIIN_6 {x0 : Addr} {x1 : Addr} {x2 : Int32} {x3 : Int32}  (m : MethodId) : entryFrame m #[(.ref x0), (.ref x1), (.int x2), (.int x3), .null] 6 = mkF m 0 #[.val (.ref x0), .val (.ref x1), .val (.int x2), .val (.int x3), .val .null, .unset] [] := by
  first | (simp [entryFrame, mkF, argsToLocals, Value.category]; done) | rfl
theorem R_6_2 {a1 a2 : Addr} (hw : HW a0 Z) (G : Gl Z w_CS w_SF) (pr1 : Obj Z h0 a1 L_String [.null, .int 0]) (pr2 : n0 ≤ a1) : Mt true consts_1 l Y6 C6 (rmk 1 4 8 12) #[.ref a1, .ref a2, .int 0, .int 0, .null] Z a0 h0 n0 (K0 h0 [a1] fun h => ∃ u1 : Addr, Obj Z h a1 L_String [.ref u1, .int 0] ∧ Ary Z h u1 ("", .byte) 0 (bv (lvi []))) := by
  refine Mt.go PN6 (Or.inl rfl) ef_RRIIN_6 fun k => ?_
  replace k := k |>.aloadN D6_0 rfl rfl |>.initO (w_19 hw) (w_20 hw) (w_21 hw) D6_1 0 |>.iloadN D6_4 rfl |>.ifNo D6_5  |>.aloadN D6_8 rfl rfl
  obtain ⟨a1x, b1x, vm1, h1, K1, R1, O1, A1, N1, k⟩ := k.ldcS (w_22 hw) (strAt hw) (List.mem_of_getElem? (i := 0) rfl) lit_22 rfl D6_9
  replace A1 : Ary Z h1 b1x ("", .byte) 0 (bv (lvi [])) := Ary.norm A1 (lv_bi rfl rfl)
  replace k := k |>.getF (fl_28 hw) O1 0 D6_11 rfl rfl
  have o2 := pr1.keep K1 nin0
  have sf3 := Safe.nul (EL := consts_1) k.al o2 0 rfl rfl
  have cv4 := k.chv
  obtain ⟨h5, K5, O5, k⟩ := k.putF (fl_28 hw) (pw_String_i_String_value hw) o2 0 pr2 (Or.inr sf3) D6_14 rfl rfl rfl ls0
  replace k := k |>.aloadN D6_17 rfl rfl
  obtain ⟨a6x, b6x, vm6, h6, K6, R6, O6, A6, N6, k⟩ := k.ldcS (w_22 hw) (strAt hw) (List.mem_of_getElem? (i := 0) rfl) lit_22 rfl D6_18
  replace A6 : Ary Z h6 b6x ("", .byte) 0 (bv (lvi [])) := Ary.norm A6 (lv_bi rfl rfl)
  replace k := k |>.getF (fl_29 hw) O6 1 D6_20 rfl rfl
  have o7 := O5.keep K6 nin0
  have sf8 := R6.safe O5.lt (sf3.keep K5 (allS sf3 all0) cv4)
  obtain ⟨h10, K10, O10, k⟩ := k.putN (fp_29 hw) (pw_String_i_String_coder hw) o7 1 pr2 (Or.inr sf8) D6_23 rfl (v' := (.int 0)) (by decide) (by decide) ls1
  have o11 := ((A1.keep K5 (ninS (Ne.symm (N1 _ sf3).2) nin0)).keep K6 nin0).keep K10 (ninS (Ne.symm (N1 _ sf3).2) nin0)
  exact k.ret0 D6_26 rfl ⟨rfl, (((((Keep.refl h0 [a1]).trans K1 all0).trans K5 (allS (Or.inl (List.mem_of_getElem? (i := 0) rfl)) all0)).trans K6 all0).trans K10 (allS (Or.inl (List.mem_of_getElem? (i := 0) rfl)) all0)), b1x, O10, o11⟩
abbrev w_15 (hw : HW a0 Z) := hw.at 15 rfl
abbrev w_18 (hw : HW a0 Z) := hw.at 18 rfl
theorem pd_ACIILjava_lang_Void_r_V : parseMethodDescriptor "([CIILjava/lang/Void;)V" = some ⟨[(.array .char), .int, .int, (.object "java/lang/Void")], none⟩ := by decide +kernel
abbrev w_16 (hw : HW a0 Z) := hw.at 16 rfl
theorem I6 (hw : HW a0 Z) : IC Z a0 Y6 C6 6 4 := ⟨(w_16 hw), rfl, ⟨⟨_, Or.inl rfl⟩, (w_18 hw), (w_8 hw), by decide, _, _, pd_ACIILjava_lang_Void_r_V, rfl⟩⟩
theorem D5_9 : Dc J5 9 .return_ 1 10 := by decide +kernel
theorem PN5 : plainFor Y5 = true := plainFor_of_name pn_String
theorem ef_RR_2 {x0 : Addr} {x1 : Addr}  (m : MethodId) : entryFrame m #[(.ref x0), (.ref x1)] 2 = mkF m 0 #[.val (.ref x0), .val (.ref x1)] [] := by
  first | (simp [entryFrame, mkF, argsToLocals, Value.category]; done) | rfl
theorem R_newS0 {a1 a2 : Addr} (hw : HW a0 Z) (G : Gl Z w_CS w_SF) (O : Obj Z h0 a1 L_String [.null, .int 0]) (A : Ary Z h0 a2 ATC 0 (bv (lvi []))) (N : n0 ≤ a1) : Mt true consts_1 l Y5 C5 (rmk 2 4 8 29) #[.ref a1, .ref a2] Z a0 h0 n0 (K0 h0 [a1] fun h => ∃ u : Addr, Str Z h a1 u []) := by
  refine Mt.go PN5 (Or.inl rfl) ef_RR_2 fun k => ?_
  replace k := k |>.aloadN D5_0 rfl rfl |>.aloadN D5_1 rfl rfl |>.iconst D5_2 0 |>.aloadN D5_3 rfl rfl |>.alen A D5_4 (z := 0) (by decide) |>.aconstNull D5_5
  obtain ⟨vm1, h1, K1, R1, ⟨u1_1, f1_0, f1_1⟩, k⟩ := (k.callIW (w_15 hw) (I6 hw) (R_6_2 hw G O N) D5_6 0 rfl).k0 (allS N all0)
  exact k.ret0 D5_9 rfl ⟨rfl, K1, u1_1, ⟨trivial, Or.inl ⟨_, f1_0, f1_1, trivial⟩⟩⟩
abbrev w_12 (hw : HW a0 Z) := hw.at 12 rfl
abbrev w_14 (hw : HW a0 Z) := hw.at 14 rfl
theorem pd_AC_r_V : parseMethodDescriptor "([C)V" = some ⟨[(.array .char)], none⟩ := by decide +kernel
abbrev w_13 (hw : HW a0 Z) := hw.at 13 rfl
theorem I5 (hw : HW a0 Z) : IC Z a0 Y5 C5 2 1 := ⟨(w_13 hw), rfl, ⟨⟨_, Or.inl rfl⟩, (w_14 hw), (w_8 hw), by decide, _, _, pd_AC_r_V, rfl⟩⟩
theorem D3_56 : Dc code 56 (.astore 7) 2 58 := ⟨at_56, rfl⟩
theorem sto7 {x0 x1 x2 x3 x4 x5 x6 x : Slot} {t : List Slot} {v : Value} (hx : okS x = true := by rfl) (hv : v.category = 1 := by rfl) : storeLocals (List.toArray (x0 :: x1 :: x2 :: x3 :: x4 :: x5 :: x6 :: x :: t)) 7 v = some (List.toArray (x0 :: x1 :: x2 :: x3 :: x4 :: x5 :: x6 :: .val v :: t)) := stoA (A := [x0, x1, x2, x3, x4, x5, x6]) hx hv
theorem D3_58 : Dc code 58 (.aload 7) 2 60 := ⟨at_58, rfl⟩
theorem D3_60 : Dc code 60 (.invokestatic 23) 3 63 := ⟨at_60, rfl⟩
abbrev Y7 : MethodName := ⟨"com/example/haulwright/haulwright/TextInput", "strip", "(Ljava/lang/String;)Ljava/lang/String;"⟩
abbrev J7 := prog_40_method_7_code
abbrev C7 : Cond := .code Y7 J7 3 (some (.object "java/lang/String"))
theorem D7_0 : Dc J7 0 (.iconst 0) 1 1 := by decide +kernel
theorem D7_1 : Dc J7 1 (.istore_n 1) 1 2 := by decide +kernel
theorem D7_2 : Dc J7 2 (.aload_n 0) 1 3 := by decide +kernel
theorem D7_3 : Dc J7 3 (.invokevirtual 102) 3 6 := by decide +kernel
abbrev Y8 : MethodName := ⟨"java/lang/String", "length", "()I"⟩
abbrev J8 := jdk_42_method_54_code
abbrev C8 : Cond := .code Y8 J8 1 (some .int)
theorem D8_0 : Dc J8 0 (.aload_n 0) 1 1 := by decide +kernel
theorem D8_1 : Dc J8 1 (.getfield 9) 3 4 := by decide +kernel
theorem D8_4 : Dc J8 4 .arraylength 1 5 := by decide +kernel
theorem D8_5 : Dc J8 5 (.aload_n 0) 1 6 := by decide +kernel
theorem D8_6 : Dc J8 6 (.invokevirtual 335) 3 9 := by decide +kernel
abbrev Y9 : MethodName := ⟨"java/lang/String", "coder", "()B"⟩
abbrev J9 := jdk_42_method_152_code
abbrev C9 : Cond := .code Y9 J9 1 (some .byte)
theorem D9_0 : Dc J9 0 (.getstatic 38) 3 3 := by decide +kernel
abbrev w_44 (hw : HW a0 Z) := hw.at 44 rfl
theorem fl_44 (hw : HW a0 Z) : FL Z a0 "java/lang/String" 38 "java/lang/String" "COMPACT_STRINGS" "Z" := ⟨_, "", Or.inl (w_44 hw), Via.refl⟩
theorem D9_3 : Dj J9 3 (.ifCond .eq 10) 10 6 13 := by decide +kernel
theorem D9_6 : Dc J9 6 (.aload_n 0) 1 7 := by decide +kernel
theorem D9_7 : Dc J9 7 (.getfield 15) 3 10 := by decide +kernel
theorem D9_10 : Dj J9 10 (.goto 4) 4 13 14 := by decide +kernel
theorem D9_14 : Dc J9 14 .ireturn 1 15 := by decide +kernel
theorem PN9 : plainFor Y9 = true := plainFor_of_name pn_String
theorem ef_R_1 {x0 : Addr}  (m : MethodId) : entryFrame m #[(.ref x0)] 1 = mkF m 0 #[.val (.ref x0)] [] := by
  first | (simp [entryFrame, mkF, argsToLocals, Value.category]; done) | rfl
theorem R_9_1 {a1 a2 : Addr} (hw : HW a0 Z) (G : Gl Z w_CS w_SF) (pr1 : Obj Z h0 a1 litL [.ref a2, .int 0]) : Mt false [] l Y9 C9 (rmk 0 0 0 0) #[.ref a1] Z a0 h0 n0 (Pv h0 (.int 0)) := by
  refine Mt.go PN9 (Or.inl rfl) ef_R_1 fun k => ?_
  replace k := k |>.getS (fl_44 hw) G.S_CS D9_0 |>.ifNo D9_3 ((if0 _ _).trans (feq G.h_CS).1) |>.aloadN D9_6 rfl rfl |>.getF (fl_29 hw) pr1 1 D9_7 rfl rfl |>.goto D9_10
  exact k.retN (t := .byte) D9_14 rfl (by simp) (z' := 0) (by decide) ⟨rfl, rfl⟩
abbrev w_39 (hw : HW a0 Z) := hw.at 39 rfl
abbrev w_43 (hw : HW a0 Z) := hw.at 43 rfl
theorem pd__r_B : parseMethodDescriptor "()B" = some ⟨[], some .byte⟩ := by decide +kernel
abbrev w_42 (hw : HW a0 Z) := hw.at 42 rfl
abbrev w_41 (hw : HW a0 Z) := hw.at 41 rfl
abbrev w_40 (hw : HW a0 Z) := hw.at 40 rfl
theorem V_Y9_9_String (hw : HW a0 Z) : VC Z a0 Y9 Y9 "java/lang/String" C9 1 (some .byte) 0 := ⟨(w_40 hw), fun s hZ => notFace_of_selects (args := #[]) (mvT hZ (w_42 hw)), (w_42 hw), (w_41 hw), by decide, rfl, ⟨⟨_, Or.inl rfl⟩, (w_43 hw), (w_8 hw), by decide, _, _, pd__r_B, rfl⟩⟩
theorem D8_9 : Dc J8 9 .ishr 1 10 := by decide +kernel
theorem D8_10 : Dc J8 10 .ireturn 1 11 := by decide +kernel
theorem PN8 : plainFor Y8 = true := plainFor_of_name pn_String
theorem R_len0 {a1 a2 : Addr} (hw : HW a0 Z) (G : Gl Z w_CS w_SF) (S : Str Z h0 a1 a2 []) : Mt false [] l Y8 C8 (rmk 1 0 0 13) #[.ref a1] Z a0 h0 n0 (Pv h0 (.int 0)) := by
  refine Mt.go PN8 (Or.inl rfl) ef_R_1 fun k => ?_
  obtain ⟨-, S⟩ := S
  obtain ⟨T, O, A, hl⟩ := S.resolve_right (fun q => q.2.2)
  have A : Ary Z h0 a2 (T, .byte) 0 (bv (lvi [])) := A
  replace k := k |>.aloadN D8_0 rfl rfl |>.getF (fl_28 hw) O 0 D8_1 rfl rfl |>.alen A D8_4 (z := 0) (by decide) |>.aloadN D8_5 rfl rfl
  replace k := (k.callV (w_39 hw) (V_Y9_9_String hw) O.exa (R_9_1 hw G O) D8_6 1 rfl).pv
  replace k := k |>.ishr D8_9 (z := 0)
  exact k.retI D8_10 rfl ⟨rfl, rfl⟩
abbrev w_38 (hw : HW a0 Z) := hw.at 38 rfl
theorem pd__r_I : parseMethodDescriptor "()I" = some ⟨[], some .int⟩ := by decide +kernel
abbrev w_37 (hw : HW a0 Z) := hw.at 37 rfl
abbrev w_36 (hw : HW a0 Z) := hw.at 36 rfl
abbrev w_35 (hw : HW a0 Z) := hw.at 35 rfl
theorem V_Y8_8_String (hw : HW a0 Z) : VC Z a0 Y8 Y8 "java/lang/String" C8 1 (some .int) 0 := ⟨(w_35 hw), fun s hZ => notFace_of_selects (args := #[]) (mvT hZ (w_37 hw)), (w_37 hw), (w_36 hw), by decide, rfl, ⟨⟨_, Or.inl rfl⟩, (w_38 hw), (w_8 hw), by decide, _, _, pd__r_I, rfl⟩⟩
abbrev w_34 (hw : HW a0 Z) := hw.at 34 rfl
theorem D7_6 : Dc J7 6 (.istore_n 2) 1 7 := by decide +kernel
theorem sto2 {x0 x1 x : Slot} {t : List Slot} {v : Value} (hx : okS x = true := by rfl) (hv : v.category = 1 := by rfl) : storeLocals (List.toArray (x0 :: x1 :: x :: t)) 2 v = some (List.toArray (x0 :: x1 :: .val v :: t)) := stoA (A := [x0, x1]) hx hv
theorem D7_7 : Dc J7 7 (.iload_n 1) 1 8 := by decide +kernel
theorem D7_8 : Dc J7 8 (.iload_n 2) 1 9 := by decide +kernel
theorem D7_9 : Dj J7 9 (.if_icmp .ge 20) 20 12 29 := by decide +kernel
theorem D7_29 : Dc J7 29 (.iload_n 2) 1 30 := by decide +kernel
theorem D7_30 : Dc J7 30 (.iload_n 1) 1 31 := by decide +kernel
theorem D7_31 : Dj J7 31 (.if_icmp .le 22) 22 34 53 := by decide +kernel
theorem D7_53 : Dc J7 53 (.aload_n 0) 1 54 := by decide +kernel
theorem D7_54 : Dc J7 54 (.iload_n 1) 1 55 := by decide +kernel
theorem D7_55 : Dc J7 55 (.iload_n 2) 1 56 := by decide +kernel
theorem D7_56 : Dc J7 56 (.invokevirtual 114) 3 59 := by decide +kernel
abbrev Y10 : MethodName := ⟨"java/lang/String", "substring", "(II)Ljava/lang/String;"⟩
abbrev J10 := jdk_42_method_92_code
abbrev C10 : Cond := .code Y10 J10 5 (some (.object "java/lang/String"))
theorem D10_0 : Dc J10 0 (.aload_n 0) 1 1 := by decide +kernel
theorem D10_1 : Dc J10 1 (.invokevirtual 505) 3 4 := by decide +kernel
theorem R_8_1 {a1 a2 : Addr} (hw : HW a0 Z) (G : Gl Z w_CS w_SF) (pr1 : Obj Z h0 a1 litL [.ref a2, .int 0]) (pr2 : Ary Z h0 a2 (T, .byte) 0 (bv (lvi []))) : Mt false [] l Y8 C8 (rmk 1 0 0 13) #[.ref a1] Z a0 h0 n0 (Pv h0 (.int 0)) := by
  refine Mt.go PN8 (Or.inl rfl) ef_R_1 fun k => ?_
  replace k := k |>.aloadN D8_0 rfl rfl |>.getF (fl_28 hw) pr1 0 D8_1 rfl rfl |>.alen pr2 D8_4 (z := 0) (by decide) |>.aloadN D8_5 rfl rfl
  replace k := (k.callV (w_39 hw) (V_Y9_9_String hw) pr1.exa (R_9_1 hw G pr1) D8_6 1 rfl).pv
  replace k := k |>.ishr D8_9 (z := 0)
  exact k.retI D8_10 rfl ⟨rfl, rfl⟩
abbrev w_50 (hw : HW a0 Z) := hw.at 50 rfl
theorem D10_4 : Dc J10 4 (.istore_n 3) 1 5 := by decide +kernel
theorem sto3 {x0 x1 x2 x : Slot} {t : List Slot} {v : Value} (hx : okS x = true := by rfl) (hv : v.category = 1 := by rfl) : storeLocals (List.toArray (x0 :: x1 :: x2 :: x :: t)) 3 v = some (List.toArray (x0 :: x1 :: x2 :: .val v :: t)) := stoA (A := [x0, x1, x2]) hx hv
theorem D10_5 : Dc J10 5 (.iload_n 1) 1 6 := by decide +kernel
theorem D10_6 : Dc J10 6 (.iload_n 2) 1 7 := by decide +kernel
theorem D10_7 : Dc J10 7 (.iload_n 3) 1 8 := by decide +kernel
theorem D10_8 : Dc J10 8 (.invokestatic 521) 3 11 := by decide +kernel
abbrev Y11 : MethodName := ⟨"java/lang/String", "checkBoundsBeginEnd", "(III)V"⟩
abbrev J11 := jdk_42_method_158_code
abbrev C11 : Cond := .code Y11 J11 3 none
theorem D11_0 : Dc J11 0 (.iload_n 0) 1 1 := by decide +kernel
theorem D11_1 : Dc J11 1 (.iload_n 1) 1 2 := by decide +kernel
theorem D11_2 : Dc J11 2 (.iload_n 2) 1 3 := by decide +kernel
theorem D11_3 : Dc J11 3 (.getstatic 1053) 3 6 := by decide +kernel
abbrev w_54 (hw : HW a0 Z) := hw.at 54 rfl
theorem fl_54 (hw : HW a0 Z) : FL Z a0 "java/lang/String" 1053 "jdk/internal/util/Preconditions" "SIOOBE_FORMATTER" "Ljava/util/function/BiFunction;" := ⟨_, "", Or.inl (w_54 hw), Via.refl⟩
theorem D11_6 : Dc J11 6 (.invokestatic 1062) 3 9 := by decide +kernel
abbrev Y12 : MethodName := ⟨"jdk/internal/util/Preconditions", "checkFromToIndex", "(IIILjava/util/function/BiFunction;)I"⟩
abbrev J12 := jdk_41_method_12_code
abbrev C12 : Cond := .code Y12 J12 4 (some .int)
theorem D12_0 : Dc J12 0 (.iload_n 0) 1 1 := by decide +kernel
theorem D12_1 : Dj J12 1 (.ifCond .lt 13) 13 4 14 := by decide +kernel
theorem D12_4 : Dc J12 4 (.iload_n 0) 1 5 := by decide +kernel
theorem D12_5 : Dc J12 5 (.iload_n 1) 1 6 := by decide +kernel
theorem D12_6 : Dj J12 6 (.if_icmp .gt 8) 8 9 14 := by decide +kernel
theorem D12_9 : Dc J12 9 (.iload_n 1) 1 10 := by decide +kernel
theorem D12_10 : Dc J12 10 (.iload_n 2) 1 11 := by decide +kernel
theorem D12_11 : Dj J12 11 (.if_icmp .le 11) 11 14 22 := by decide +kernel
theorem D12_22 : Dc J12 22 (.iload_n 0) 1 23 := by decide +kernel
theorem D12_23 : Dc J12 23 .ireturn 1 24 := by decide +kernel
theorem pn_Preconditions : plainName "jdk/internal/util/Preconditions" = true := by first | (simp [plainName, overriddenIn]; done) | decide +kernel
theorem PN12 : plainFor Y12 = true := plainFor_of_name pn_Preconditions
theorem ef_IIIV_4 {x0 : Int32} {x1 : Int32} {x2 : Int32} {x3 : Value} (r3 : x3.isRef = true) (m : MethodId) : entryFrame m #[(.int x0), (.int x1), (.int x2), x3] 4 = mkF m 0 #[.val (.int x0), .val (.int x1), .val (.int x2), .val x3] [] := by
  rcases ref_cases r3 with rfl | ⟨_, rfl⟩
  all_goals
  first | (simp [entryFrame, mkF, argsToLocals, Value.category]; done) | rfl
theorem R_12_1 {p1 p2 p3 : Int32} (hw : HW a0 Z) (G : Gl Z w_CS w_SF) (pr1 : ¬ (p1 < 0)) (pr2 : ¬ (p2 < p1)) (pr3 : ¬ (p3 < p2)) : Mt false [] l Y12 C12 (rmk 0 0 0 0) #[.int p1, .int p2, .int p3, w_SF] Z a0 h0 n0 (Pv h0 (.int p1)) := by
  refine Mt.go PN12 (Or.inl rfl) (ef_IIIV_4 G.r_SF) fun k => ?_
  replace k := k |>.iloadN D12_0 rfl |>.ifNo D12_1 ((if0 _ _).trans (flt pr1).1) |>.iloadN D12_4 rfl |>.iloadN D12_5 rfl |>.icmpNo D12_6 (flt pr2).2.2.1 |>.iloadN D12_9 rfl |>.iloadN D12_10 rfl |>.icmpYes D12_11 (flt pr3).2.2.2 |>.iloadN D12_22 rfl
  exact k.retI D12_23 rfl ⟨rfl, rfl⟩
abbrev w_56 (hw : HW a0 Z) := hw.at 56 rfl
abbrev w_58 (hw : HW a0 Z) := hw.at 58 rfl
abbrev w_55 (hw : HW a0 Z) := hw.at 55 rfl
theorem pd_IIILjava_util_function_BiFunction_r_I : parseMethodDescriptor "(IIILjava/util/function/BiFunction;)I" = some ⟨[.int, .int, .int, (.object "java/util/function/BiFunction")], some .int⟩ := by decide +kernel
abbrev w_57 (hw : HW a0 Z) := hw.at 57 rfl
theorem S12 (hw : HW a0 Z) : SC Z a0 Y12 C12 4 (some .int) 4 := ⟨(w_57 hw), ⟨⟨_, Or.inl rfl⟩, (w_58 hw), (w_55 hw), by decide, _, _, pd_IIILjava_util_function_BiFunction_r_I, rfl⟩⟩
theorem D11_9 : Dc J11 9 .pop 1 10 := by decide +kernel
theorem D11_10 : Dc J11 10 .return_ 1 11 := by decide +kernel
theorem PN11 : plainFor Y11 = true := plainFor_of_name pn_String
theorem ef_III_3 {x0 : Int32} {x1 : Int32} {x2 : Int32}  (m : MethodId) : entryFrame m #[(.int x0), (.int x1), (.int x2)] 3 = mkF m 0 #[.val (.int x0), .val (.int x1), .val (.int x2)] [] := by
  first | (simp [entryFrame, mkF, argsToLocals, Value.category]; done) | rfl
theorem R_11_1 {p1 p2 p3 : Int32} (hw : HW a0 Z) (G : Gl Z w_CS w_SF) (pr1 : ¬ (p1 < 0)) (pr2 : ¬ (p2 < p1)) (pr3 : ¬ (p3 < p2)) : Mt false [] l Y11 C11 (rmk 1 0 0 15) #[.int p1, .int p2, .int p3] Z a0 h0 n0 (P0 h0) := by
  refine Mt.go PN11 (Or.inl rfl) ef_III_3 fun k => ?_
  replace k := k |>.iloadN D11_0 rfl |>.iloadN D11_1 rfl |>.iloadN D11_2 rfl |>.getS (fl_54 hw) G.S_SF D11_3
  replace k := (k.callS (w_56 hw) (S12 hw) (R_12_1 hw G pr1 pr2 pr3) D11_6 0 rfl).pv
  replace k := k |>.pop D11_9 rfl
  exact k.ret0 D11_10 rfl ⟨rfl, rfl⟩
abbrev w_51 (hw : HW a0 Z) := hw.at 51 rfl
abbrev w_53 (hw : HW a0 Z) := hw.at 53 rfl
theorem pd_III_r_V : parseMethodDescriptor "(III)V" = some ⟨[.int, .int, .int], none⟩ := by decide +kernel
abbrev w_52 (hw : HW a0 Z) := hw.at 52 rfl
theorem S11 (hw : HW a0 Z) : SC Z a0 Y11 C11 3 none 3 := ⟨(w_52 hw), ⟨⟨_, Or.inl rfl⟩, (w_53 hw), (w_8 hw), by decide, _, _, pd_III_r_V, rfl⟩⟩
theorem D10_11 : Dc J10 11 (.iload_n 1) 1 12 := by decide +kernel
theorem D10_12 : Dj J10 12 (.ifCond .ne 10) 10 15 22 := by decide +kernel
theorem D10_15 : Dc J10 15 (.iload_n 2) 1 16 := by decide +kernel
theorem D10_16 : Dc J10 16 (.iload_n 3) 1 17 := by decide +kernel
theorem D10_17 : Dj J10 17 (.if_icmp .ne 5) 5 20 22 := by decide +kernel
theorem D10_20 : Dc J10 20 (.aload_n 0) 1 21 := by decide +kernel
theorem D10_21 : Dc J10 21 .areturn 1 22 := by decide +kernel
theorem PN10 : plainFor Y10 = true := plainFor_of_name pn_String
theorem ef_RII_5 {x0 : Addr} {x1 : Int32} {x2 : Int32}  (m : MethodId) : entryFrame m #[(.ref x0), (.int x1), (.int x2)] 5 = mkF m 0 #[.val (.ref x0), .val (.int x1), .val (.int x2), .unset, .unset] [] := by
  first | (simp [entryFrame, mkF, argsToLocals, Value.category]; done) | rfl
theorem R_sub0_0_0 {a1 a2 : Addr} (hw : HW a0 Z) (G : Gl Z w_CS w_SF) (S : Str Z h0 a1 a2 []) : Mt false [] l Y10 C10 (rmk 2 0 0 29) #[.ref a1, .int 0, .int 0] Z a0 h0 n0 (KpV h0 [] fun v h => ∃ u w : Addr, v = .ref u ∧ Str Z h u w []) := by
  refine Mt.go PN10 (Or.inl rfl) ef_RII_5 fun k => ?_
  have S0 := S
  obtain ⟨-, S⟩ := S
  obtain ⟨T, O, A, hl⟩ := S.resolve_right (fun q => q.2.2)
  have A : Ary Z h0 a2 (T, .byte) 0 (bv (lvi [])) := A
  replace k := k |>.aloadN D10_0 rfl rfl
  replace k := (k.callV (w_50 hw) (V_Y8_8_String hw) O.exa (R_8_1 hw G O A) D10_1 0 rfl).pv
  replace k := k |>.istoreN D10_4 sto3 |>.iloadN D10_5 rfl |>.iloadN D10_6 rfl |>.iloadN D10_7 rfl
  replace k := (k.callS (w_51 hw) (S11 hw) (R_11_1 hw G (by decide) (by decide) (by decide) (p1 := 0) (p2 := 0) (p3 := 0)) D10_8 0 rfl).p0
  replace k := k |>.iloadN D10_11 rfl |>.ifNo D10_12  |>.iloadN D10_15 rfl |>.iloadN D10_16 rfl |>.icmpNo D10_17  |>.aloadN D10_20 rfl rfl
  exact k.retA D10_21 rfl ⟨_, rfl, (Keep.refl h0 []), a1, a2, rfl, S0⟩
abbrev w_49 (hw : HW a0 Z) := hw.at 49 rfl
theorem pd_II_r_Ljava_lang_String : parseMethodDescriptor "(II)Ljava/lang/String;" = some ⟨[.int, .int], some (.object "java/lang/String")⟩ := by decide +kernel
abbrev w_48 (hw : HW a0 Z) := hw.at 48 rfl
abbrev w_47 (hw : HW a0 Z) := hw.at 47 rfl
abbrev w_46 (hw : HW a0 Z) := hw.at 46 rfl
theorem V_Y10_10_String (hw : HW a0 Z) : VC Z a0 Y10 Y10 "java/lang/String" C10 5 (some (.object "java/lang/String")) 2 := ⟨(w_46 hw), fun s hZ => notFace_of_selects (args := #[]) (mvT hZ (w_48 hw)), (w_48 hw), (w_47 hw), by decide, rfl, ⟨⟨_, Or.inl rfl⟩, (w_49 hw), (w_8 hw), by decide, _, _, pd_II_r_Ljava_lang_String, rfl⟩⟩
abbrev w_45 (hw : HW a0 Z) := hw.at 45 rfl
theorem D7_59 : Dc J7 59 .areturn 1 60 := by decide +kernel
theorem PN7 : plainFor Y7 = true := plainFor_of_name pn_TextInput
theorem ef_R_3 {x0 : Addr}  (m : MethodId) : entryFrame m #[(.ref x0)] 3 = mkF m 0 #[.val (.ref x0), .unset, .unset] [] := by
  first | (simp [entryFrame, mkF, argsToLocals, Value.category]; done) | rfl
theorem R_7_1 {a1 a2 : Addr} (hw : HW a0 Z) (G : Gl Z w_CS w_SF) (pr1 : Str Z h0 a1 a2 []) : Mt false [] l Y7 C7 (rmk 3 0 0 45) #[.ref a1] Z a0 h0 n0 (KpV h0 [] fun v h => ∃ u1 u2 : Addr, v = (.ref u1) ∧ Str Z h u1 u2 []) := by
  refine Mt.go PN7 (Or.inl rfl) ef_R_3 fun k => ?_
  replace k := k |>.iconst D7_0 0 |>.istoreN D7_1 sto1 |>.aloadN D7_2 rfl rfl
  replace k := (k.callV (w_34 hw) (V_Y8_8_String hw) pr1.exa (R_len0 hw G pr1) D7_3 0 rfl).pv
  replace k := k |>.istoreN D7_6 sto2 |>.iloadN D7_7 rfl |>.iloadN D7_8 rfl |>.icmpYes D7_9  |>.iloadN D7_29 rfl |>.iloadN D7_30 rfl |>.icmpYes D7_31  |>.aloadN D7_53 rfl rfl |>.iloadN D7_54 rfl |>.iloadN D7_55 rfl
  obtain ⟨_, h1, K1, ⟨u1, w1, rfl, S1⟩, k⟩ := (k.callV (w_45 hw) (V_Y10_10_String hw) pr1.exa (R_sub0_0_0 hw G pr1) D7_56 0 rfl).kv
  exact k.retA D7_59 rfl ⟨_, rfl, K1, u1, w1, rfl, S1⟩
abbrev w_30 (hw : HW a0 Z) := hw.at 30 rfl
abbrev w_33 (hw : HW a0 Z) := hw.at 33 rfl
abbrev w_32 (hw : HW a0 Z) := hw.at 32 rfl
theorem pd_Ljava_lang_String_r_Ljava_lang_String : parseMethodDescriptor "(Ljava/lang/String;)Ljava/lang/String;" = some ⟨[(.object "java/lang/String")], some (.object "java/lang/String")⟩ := by decide +kernel
abbrev w_31 (hw : HW a0 Z) := hw.at 31 rfl
theorem S7 (hw : HW a0 Z) : SC Z a0 Y7 C7 3 (some (.object "java/lang/String")) 1 := ⟨(w_31 hw), ⟨⟨_, Or.inl rfl⟩, (w_33 hw), (w_32 hw), by decide, _, _, pd_Ljava_lang_String_r_Ljava_lang_String, rfl⟩⟩
theorem D3_63 : Dc code 63 (.astore 8) 2 65 := ⟨at_63, rfl⟩
theorem sto8 {x0 x1 x2 x3 x4 x5 x6 x7 x : Slot} {t : List Slot} {v : Value} (hx : okS x = true := by rfl) (hv : v.category = 1 := by rfl) : storeLocals (List.toArray (x0 :: x1 :: x2 :: x3 :: x4 :: x5 :: x6 :: x7 :: x :: t)) 8 v = some (List.toArray (x0 :: x1 :: x2 :: x3 :: x4 :: x5 :: x6 :: x7 :: .val v :: t)) := stoA (A := [x0, x1, x2, x3, x4, x5, x6, x7]) hx hv
theorem D3_65 : Dc code 65 (.iconst 0) 1 66 := ⟨at_65, rfl⟩
theorem D3_66 : Dc code 66 (.iload 5) 2 68 := ⟨at_66, rfl⟩
theorem D3_68 : Dj code 68 (.if_icmp .ge 17) 17 71 85 := ⟨at_68, rfl, by decide, by decide⟩
theorem own_d1 {p1 v0 v1 : Int32} (e0 : v0 = (p1 &&& 2147483647)) (e1 : v1 = (v0 % 5)) (q0 : v1 = 0) : ¬ (0 < v1) := by
  have := rng32 p1
  have : (2147483647 : Int32).toInt = 2147483647 := by decide
  have := e_mask e0 31 2147483648
  have : (5 : Int32).toInt = 5 := by decide
  have := e_iremN e1 5 (by omega)
  have : (0 : Int32).toInt = 0 := by decide
  have := i_eq q0
  exact o_nlt (by omega)
theorem D3_85 : Dc code 85 (.iconst 0) 1 86 := ⟨at_85, rfl⟩
theorem D3_86 : Dc code 86 (.istore 9) 2 88 := ⟨at_86, rfl⟩
theorem sto9 {x0 x1 x2 x3 x4 x5 x6 x7 x8 x : Slot} {t : List Slot} {v : Value} (hx : okS x = true := by rfl) (hv : v.category = 1 := by rfl) : storeLocals (List.toArray (x0 :: x1 :: x2 :: x3 :: x4 :: x5 :: x6 :: x7 :: x8 :: x :: t)) 9 v = some (List.toArray (x0 :: x1 :: x2 :: x3 :: x4 :: x5 :: x6 :: x7 :: x8 :: .val v :: t)) := stoA (A := [x0, x1, x2, x3, x4, x5, x6, x7, x8]) hx hv
theorem D3_88 : Dc code 88 (.iconst 1) 1 89 := ⟨at_88, rfl⟩
theorem D3_89 : Dc code 89 (.iload 5) 2 91 := ⟨at_89, rfl⟩
theorem D3_91 : Dj code 91 (.if_icmp .ge 17) 17 94 108 := ⟨at_91, rfl, by decide, by decide⟩
theorem own_d2 {p1 v0 v1 : Int32} (e0 : v0 = (p1 &&& 2147483647)) (e1 : v1 = (v0 % 5)) (q0 : v1 = 0) : ¬ (1 < v1) := by
  have := rng32 p1
  have : (2147483647 : Int32).toInt = 2147483647 := by decide
  have := e_mask e0 31 2147483648
  have : (5 : Int32).toInt = 5 := by decide
  have := e_iremN e1 5 (by omega)
  have : (0 : Int32).toInt = 0 := by decide
  have := i_eq q0
  have : (1 : Int32).toInt = 1 := by decide
  exact o_nlt (by omega)
theorem D3_108 : Dc code 108 (.iconst 0) 1 109 := ⟨at_108, rfl⟩
theorem D3_109 : Dc code 109 (.istore 10) 2 111 := ⟨at_109, rfl⟩
theorem sto10 {x0 x1 x2 x3 x4 x5 x6 x7 x8 x9 x : Slot} {t : List Slot} {v : Value} (hx : okS x = true := by rfl) (hv : v.category = 1 := by rfl) : storeLocals (List.toArray (x0 :: x1 :: x2 :: x3 :: x4 :: x5 :: x6 :: x7 :: x8 :: x9 :: x :: t)) 10 v = some (List.toArray (x0 :: x1 :: x2 :: x3 :: x4 :: x5 :: x6 :: x7 :: x8 :: x9 :: .val v :: t)) := stoA (A := [x0, x1, x2, x3, x4, x5, x6, x7, x8, x9]) hx hv
theorem D3_111 : Dc code 111 (.iconst 2) 1 112 := ⟨at_111, rfl⟩
theorem D3_112 : Dc code 112 (.iload 5) 2 114 := ⟨at_112, rfl⟩
theorem D3_114 : Dj code 114 (.if_icmp .ge 17) 17 117 131 := ⟨at_114, rfl, by decide, by decide⟩
theorem own_d3 {p1 v0 v1 : Int32} (e0 : v0 = (p1 &&& 2147483647)) (e1 : v1 = (v0 % 5)) (q0 : v1 = 0) : ¬ (2 < v1) := by
  have := rng32 p1
  have : (2147483647 : Int32).toInt = 2147483647 := by decide
  have := e_mask e0 31 2147483648
  have : (5 : Int32).toInt = 5 := by decide
  have := e_iremN e1 5 (by omega)
  have : (0 : Int32).toInt = 0 := by decide
  have := i_eq q0
  have : (2 : Int32).toInt = 2 := by decide
  exact o_nlt (by omega)
theorem D3_131 : Dc code 131 (.iconst 0) 1 132 := ⟨at_131, rfl⟩
theorem D3_132 : Dc code 132 (.istore 11) 2 134 := ⟨at_132, rfl⟩
theorem sto11 {x0 x1 x2 x3 x4 x5 x6 x7 x8 x9 x10 x : Slot} {t : List Slot} {v : Value} (hx : okS x = true := by rfl) (hv : v.category = 1 := by rfl) : storeLocals (List.toArray (x0 :: x1 :: x2 :: x3 :: x4 :: x5 :: x6 :: x7 :: x8 :: x9 :: x10 :: x :: t)) 11 v = some (List.toArray (x0 :: x1 :: x2 :: x3 :: x4 :: x5 :: x6 :: x7 :: x8 :: x9 :: x10 :: .val v :: t)) := stoA (A := [x0, x1, x2, x3, x4, x5, x6, x7, x8, x9, x10]) hx hv
theorem D3_134 : Dc code 134 (.iconst 3) 1 135 := ⟨at_134, rfl⟩
theorem D3_135 : Dc code 135 (.iload 5) 2 137 := ⟨at_135, rfl⟩
theorem D3_137 : Dj code 137 (.if_icmp .ge 17) 17 140 154 := ⟨at_137, rfl, by decide, by decide⟩
theorem own_d4 {p1 v0 v1 : Int32} (e0 : v0 = (p1 &&& 2147483647)) (e1 : v1 = (v0 % 5)) (q0 : v1 = 0) : ¬ (3 < v1) := by
  have := rng32 p1
  have : (2147483647 : Int32).toInt = 2147483647 := by decide
  have := e_mask e0 31 2147483648
  have : (5 : Int32).toInt = 5 := by decide
  have := e_iremN e1 5 (by omega)
  have : (0 : Int32).toInt = 0 := by decide
  have := i_eq q0
  have : (3 : Int32).toInt = 3 := by decide
  exact o_nlt (by omega)
theorem D3_154 : Dc code 154 (.iconst 0) 1 155 := ⟨at_154, rfl⟩
theorem D3_155 : Dc code 155 (.istore 12) 2 157 := ⟨at_155, rfl⟩
theorem sto12 {x0 x1 x2 x3 x4 x5 x6 x7 x8 x9 x10 x11 x : Slot} {t : List Slot} {v : Value} (hx : okS x = true := by rfl) (hv : v.category = 1 := by rfl) : storeLocals (List.toArray (x0 :: x1 :: x2 :: x3 :: x4 :: x5 :: x6 :: x7 :: x8 :: x9 :: x10 :: x11 :: x :: t)) 12 v = some (List.toArray (x0 :: x1 :: x2 :: x3 :: x4 :: x5 :: x6 :: x7 :: x8 :: x9 :: x10 :: x11 :: .val v :: t)) := stoA (A := [x0, x1, x2, x3, x4, x5, x6, x7, x8, x9, x10, x11]) hx hv
theorem D3_157 : Dc code 157 (.iload 9) 2 159 := ⟨at_157, rfl⟩
theorem D3_159 : Dj code 159 (.ifCond .eq 7) 7 162 166 := ⟨at_159, rfl, by decide, by decide⟩
theorem D3_166 : Dc code 166 (.iload 10) 2 168 := ⟨at_166, rfl⟩
theorem D3_168 : Dj code 168 (.ifCond .eq 7) 7 171 175 := ⟨at_168, rfl, by decide, by decide⟩
theorem D3_175 : Dc code 175 (.iload 11) 2 177 := ⟨at_175, rfl⟩
theorem D3_177 : Dj code 177 (.ifCond .eq 7) 7 180 184 := ⟨at_177, rfl, by decide, by decide⟩
theorem D3_184 : Dc code 184 (.iload 12) 2 186 := ⟨at_184, rfl⟩
theorem D3_186 : Dj code 186 (.ifCond .eq 7) 7 189 193 := ⟨at_186, rfl, by decide, by decide⟩
theorem D3_193 : Dc code 193 (.iload 5) 2 195 := ⟨at_193, rfl⟩
theorem D3_195 : Dc code 195 (.istore 13) 2 197 := ⟨at_195, rfl⟩
theorem sto13 {x0 x1 x2 x3 x4 x5 x6 x7 x8 x9 x10 x11 x12 x : Slot} {t : List Slot} {v : Value} (hx : okS x = true := by rfl) (hv : v.category = 1 := by rfl) : storeLocals (List.toArray (x0 :: x1 :: x2 :: x3 :: x4 :: x5 :: x6 :: x7 :: x8 :: x9 :: x10 :: x11 :: x12 :: x :: t)) 13 v = some (List.toArray (x0 :: x1 :: x2 :: x3 :: x4 :: x5 :: x6 :: x7 :: x8 :: x9 :: x10 :: x11 :: x12 :: .val v :: t)) := stoA (A := [x0, x1, x2, x3, x4, x5, x6, x7, x8, x9, x10, x11, x12]) hx hv
theorem D3_197 : Dc code 197 (.iload 12) 2 199 := ⟨at_197, rfl⟩
theorem D3_199 : Dj code 199 (.ifCond .eq 7) 7 202 206 := ⟨at_199, rfl, by decide, by decide⟩
theorem D3_206 : Dc code 206 (.iload 11) 2 208 := ⟨at_206, rfl⟩
theorem D3_208 : Dj code 208 (.ifCond .eq 7) 7 211 215 := ⟨at_208, rfl, by decide, by decide⟩
theorem D3_215 : Dc code 215 (.iload 10) 2 217 := ⟨at_215, rfl⟩
theorem D3_217 : Dj code 217 (.ifCond .eq 7) 7 220 224 := ⟨at_217, rfl, by decide, by decide⟩
theorem D3_224 : Dc code 224 (.iload 9) 2 226 := ⟨at_224, rfl⟩
theorem D3_226 : Dj code 226 (.ifCond .eq 7) 7 229 233 := ⟨at_226, rfl, by decide, by decide⟩
theorem D3_233 : Dc code 233 (.iload 5) 2 235 := ⟨at_233, rfl⟩
theorem D3_235 : Dc code 235 (.istore 14) 2 237 := ⟨at_235, rfl⟩
theorem sto14 {x0 x1 x2 x3 x4 x5 x6 x7 x8 x9 x10 x11 x12 x13 x : Slot} {t : List Slot} {v : Value} (hx : okS x = true := by rfl) (hv : v.category = 1 := by rfl) : storeLocals (List.toArray (x0 :: x1 :: x2 :: x3 :: x4 :: x5 :: x6 :: x7 :: x8 :: x9 :: x10 :: x11 :: x12 :: x13 :: x :: t)) 14 v = some (List.toArray (x0 :: x1 :: x2 :: x3 :: x4 :: x5 :: x6 :: x7 :: x8 :: x9 :: x10 :: x11 :: x12 :: x13 :: .val v :: t)) := stoA (A := [x0, x1, x2, x3, x4, x5, x6, x7, x8, x9, x10, x11, x12, x13]) hx hv
theorem D3_237 : Dc code 237 (.aload 8) 2 239 := ⟨at_237, rfl⟩
theorem D3_239 : Dc code 239 (.invokevirtual 33) 3 242 := ⟨at_239, rfl⟩
abbrev w_59 (hw : HW a0 Z) := hw.at 59 rfl
theorem D3_242 : Dc code 242 (.iload 14) 2 244 := ⟨at_242, rfl⟩
theorem D3_244 : Dc code 244 (.iload 13) 2 246 := ⟨at_244, rfl⟩
theorem D3_246 : Dc code 246 .isub 1 247 := ⟨at_246, rfl⟩
theorem D3_247 : Dj code 247 (.if_icmp .eq 5) 5 250 252 := ⟨at_247, rfl, by decide, by decide⟩
theorem own_d5 {p1 v0 v1 v2 : Int32} (e0 : v0 = (p1 &&& 2147483647)) (e1 : v1 = (v0 % 5)) (e2 : v2 = (v1 - v1)) (q0 : v1 = 0) : 0 = v2 := by
  have := rng32 p1
  have : (2147483647 : Int32).toInt = 2147483647 := by decide
  have := e_mask e0 31 2147483648
  have : (5 : Int32).toInt = 5 := by decide
  have := e_iremN e1 5 (by omega)
  have : (0 : Int32).toInt = 0 := by decide
  have := i_eq q0
  have := e_isubN e2 (by omega)
  exact o_eq (by omega)
theorem D3_252 : Dc code 252 (.aload 8) 2 254 := ⟨at_252, rfl⟩
theorem D3_254 : Dc code 254 (.iconst 0) 1 255 := ⟨at_254, rfl⟩
theorem D3_255 : Dc code 255 (.aload 6) 2 257 := ⟨at_255, rfl⟩
theorem D3_257 : Dc code 257 (.iload 13) 2 259 := ⟨at_257, rfl⟩
theorem D3_259 : Dc code 259 (.invokestatic 37) 3 262 := ⟨at_259, rfl⟩
abbrev Y13 : MethodName := ⟨"com/example/haulwright/haulwright/TextInputStripPinLaw", "at", "(Ljava/lang/String;I[CI)Z"⟩
abbrev J13 := method_3_code
abbrev C13 : Cond := .code Y13 J13 4 (some .boolean)
theorem D13_0 : Dc J13 0 (.iload_n 1) 1 1 := by decide +kernel
theorem D13_1 : Dc J13 1 (.aload_n 0) 1 2 := by decide +kernel
theorem D13_2 : Dc J13 2 (.invokevirtual 33) 3 5 := by decide +kernel
theorem D13_5 : Dj J13 5 (.if_icmp .ge 16) 16 8 21 := by decide +kernel
theorem D13_21 : Dc J13 21 (.iconst 1) 1 22 := by decide +kernel
theorem D13_22 : Dj J13 22 (.goto 4) 4 25 26 := by decide +kernel
theorem D13_26 : Dc J13 26 .ireturn 1 27 := by decide +kernel
theorem PN13 : plainFor Y13 = true := plainFor_of_name pn_TextInputStripPinLaw
theorem ef_RIRI_4 {x0 : Addr} {x1 : Int32} {x2 : Addr} {x3 : Int32}  (m : MethodId) : entryFrame m #[(.ref x0), (.int x1), (.ref x2), (.int x3)] 4 = mkF m 0 #[.val (.ref x0), .val (.int x1), .val (.ref x2), .val (.int x3)] [] := by
  first | (simp [entryFrame, mkF, argsToLocals, Value.category]; done) | rfl
theorem R_13_1 {a1 a2 a4 : Addr} {p3 : Int32} (hw : HW a0 Z) (G : Gl Z w_CS w_SF) (pr1 : Str Z h0 a1 a4 []) : Mt false [] l Y13 C13 (rmk 2 0 0 26) #[.ref a1, .int 0, .ref a2, .int p3] Z a0 h0 n0 (Pv h0 (.int 1)) := by
  refine Mt.go PN13 (Or.inl rfl) ef_RIRI_4 fun k => ?_
  replace k := k |>.iloadN D13_0 rfl |>.aloadN D13_1 rfl rfl
  replace k := (k.callV (w_59 hw) (V_Y8_8_String hw) pr1.exa (R_len0 hw G pr1) D13_2 1 rfl).pv
  replace k := k |>.icmpYes D13_5  |>.iconst D13_21 1 |>.goto D13_22
  exact k.retN (t := .boolean) D13_26 rfl (by simp) (z' := 1) (by decide) ⟨rfl, rfl⟩
abbrev w_60 (hw : HW a0 Z) := hw.at 60 rfl
abbrev w_62 (hw : HW a0 Z) := hw.at 62 rfl
theorem pd_Ljava_lang_StringIACI_r_Z : parseMethodDescriptor "(Ljava/lang/String;I[CI)Z" = some ⟨[(.object "java/lang/String"), .int, (.array .char), .int], some .boolean⟩ := by decide +kernel
abbrev w_61 (hw : HW a0 Z) := hw.at 61 rfl
theorem S13 (hw : HW a0 Z) : SC Z a0 Y13 C13 4 (some .boolean) 4 := ⟨(w_61 hw), ⟨⟨_, Or.inl rfl⟩, (w_62 hw), (w_4 hw), by decide, _, _, pd_Ljava_lang_StringIACI_r_Z, rfl⟩⟩
theorem D3_262 : Dj code 262 (.ifCond .eq 46) 46 265 308 := ⟨at_262, rfl, by decide, by decide⟩
theorem D3_265 : Dc code 265 (.aload 8) 2 267 := ⟨at_265, rfl⟩
theorem D3_267 : Dc code 267 (.iconst 1) 1 268 := ⟨at_267, rfl⟩
theorem D3_268 : Dc code 268 (.aload 6) 2 270 := ⟨at_268, rfl⟩
theorem D3_270 : Dc code 270 (.iload 13) 2 272 := ⟨at_270, rfl⟩
theorem D3_272 : Dc code 272 (.invokestatic 37) 3 275 := ⟨at_272, rfl⟩
theorem R_13_2 {a1 a2 a4 : Addr} {p3 : Int32} (hw : HW a0 Z) (G : Gl Z w_CS w_SF) (pr1 : Str Z h0 a1 a4 []) : Mt false [] l Y13 C13 (rmk 2 0 0 26) #[.ref a1, .int 1, .ref a2, .int p3] Z a0 h0 n0 (Pv h0 (.int 1)) := by
  refine Mt.go PN13 (Or.inl rfl) ef_RIRI_4 fun k => ?_
  replace k := k |>.iloadN D13_0 rfl |>.aloadN D13_1 rfl rfl
  replace k := (k.callV (w_59 hw) (V_Y8_8_String hw) pr1.exa (R_len0 hw G pr1) D13_2 1 rfl).pv
  replace k := k |>.icmpYes D13_5  |>.iconst D13_21 1 |>.goto D13_22
  exact k.retN (t := .boolean) D13_26 rfl (by simp) (z' := 1) (by decide) ⟨rfl, rfl⟩
theorem D3_275 : Dj code 275 (.ifCond .eq 33) 33 278 308 := ⟨at_275, rfl, by decide, by decide⟩
theorem D3_278 : Dc code 278 (.aload 8) 2 280 := ⟨at_278, rfl⟩
theorem D3_280 : Dc code 280 (.iconst 2) 1 281 := ⟨at_280, rfl⟩
theorem D3_281 : Dc code 281 (.aload 6) 2 283 := ⟨at_281, rfl⟩
theorem D3_283 : Dc code 283 (.iload 13) 2 285 := ⟨at_283, rfl⟩
theorem D3_285 : Dc code 285 (.invokestatic 37) 3 288 := ⟨at_285, rfl⟩
theorem R_13_3 {a1 a2 a4 : Addr} {p3 : Int32} (hw : HW a0 Z) (G : Gl Z w_CS w_SF) (pr1 : Str Z h0 a1 a4 []) : Mt false [] l Y13 C13 (rmk 2 0 0 26) #[.ref a1, .int 2, .ref a2, .int p3] Z a0 h0 n0 (Pv h0 (.int 1)) := by
  refine Mt.go PN13 (Or.inl rfl) ef_RIRI_4 fun k => ?_
  replace k := k |>.iloadN D13_0 rfl |>.aloadN D13_1 rfl rfl
  replace k := (k.callV (w_59 hw) (V_Y8_8_String hw) pr1.exa (R_len0 hw G pr1) D13_2 1 rfl).pv
  replace k := k |>.icmpYes D13_5  |>.iconst D13_21 1 |>.goto D13_22
  exact k.retN (t := .boolean) D13_26 rfl (by simp) (z' := 1) (by decide) ⟨rfl, rfl⟩
theorem D3_288 : Dj code 288 (.ifCond .eq 20) 20 291 308 := ⟨at_288, rfl, by decide, by decide⟩
theorem D3_291 : Dc code 291 (.aload 8) 2 293 := ⟨at_291, rfl⟩
theorem D3_293 : Dc code 293 (.iconst 3) 1 294 := ⟨at_293, rfl⟩
theorem D3_294 : Dc code 294 (.aload 6) 2 296 := ⟨at_294, rfl⟩
theorem D3_296 : Dc code 296 (.iload 13) 2 298 := ⟨at_296, rfl⟩
theorem D3_298 : Dc code 298 (.invokestatic 37) 3 301 := ⟨at_298, rfl⟩
theorem R_13_4 {a1 a2 a4 : Addr} {p3 : Int32} (hw : HW a0 Z) (G : Gl Z w_CS w_SF) (pr1 : Str Z h0 a1 a4 []) : Mt false [] l Y13 C13 (rmk 2 0 0 26) #[.ref a1, .int 3, .ref a2, .int p3] Z a0 h0 n0 (Pv h0 (.int 1)) := by
  refine Mt.go PN13 (Or.inl rfl) ef_RIRI_4 fun k => ?_
  replace k := k |>.iloadN D13_0 rfl |>.aloadN D13_1 rfl rfl
  replace k := (k.callV (w_59 hw) (V_Y8_8_String hw) pr1.exa (R_len0 hw G pr1) D13_2 1 rfl).pv
  replace k := k |>.icmpYes D13_5  |>.iconst D13_21 1 |>.goto D13_22
  exact k.retN (t := .boolean) D13_26 rfl (by simp) (z' := 1) (by decide) ⟨rfl, rfl⟩
theorem D3_301 : Dj code 301 (.ifCond .eq 7) 7 304 308 := ⟨at_301, rfl, by decide, by decide⟩
theorem D3_304 : Dc code 304 (.iconst 1) 1 305 := ⟨at_304, rfl⟩
theorem D3_305 : Dj code 305 (.goto 4) 4 308 309 := ⟨at_305, rfl, by decide, by decide⟩
theorem D3_309 : Dc code 309 .ireturn 1 310 := ⟨at_309, rfl⟩
theorem D4_8 : Dc J4 8 (.iload_n 1) 1 9 := by decide +kernel
theorem D4_9 : Dc J4 9 (.iconst 1) 1 10 := by decide +kernel
theorem D4_10 : Dj J4 10 (.if_icmp .ne 13) 13 13 23 := by decide +kernel
theorem D4_13 : Dc J4 13 (.iconst 1) 1 14 := by decide +kernel
theorem D4_14 : Dc J4 14 (.newarray .char) 2 16 := by decide +kernel
theorem D4_16 : Dc J4 16 .dup 1 17 := by decide +kernel
theorem D4_17 : Dc J4 17 (.iconst 0) 1 18 := by decide +kernel
theorem D4_18 : Dc J4 18 (.aload_n 0) 1 19 := by decide +kernel
theorem D4_19 : Dc J4 19 (.iconst 0) 1 20 := by decide +kernel
theorem D4_20 : Dc J4 20 .caload 1 21 := by decide +kernel
theorem big0 { x : Int32} {t : List Int32} : bv (lvi (x :: t)) 0 = .int x := rfl
theorem D4_21 : Dc J4 21 .castore 1 22 := by decide +kernel
theorem D4_22 : Dc J4 22 .areturn 1 23 := by decide +kernel
theorem R_4_4 {a1 : Addr} {p2 p3 p4 p5 p6 : Int32} (hw : HW a0 Z) (G : Gl Z w_CS w_SF) (pr1 : ¬ (p2 = 0)) (pr2 : p2 = 1) (pr3 : Ary Z h0 a1 ATC 4 (bv (lvi [p3, p4, p5, p6]))) : Mt false [] l Y4 C4 (rmk 0 1 1 0) #[.ref a1, .int p2] Z a0 h0 n0 (KpV h0 [] fun v h => ∃ u1 : Addr, v = (.ref u1) ∧ h0.size ≤ u1 ∧ Ary Z h u1 ATC 1 (bv (lvi [(nar .char p3)]))) := by
  refine Mt.go PN4 (Or.inl rfl) ef_RI_2 fun k => ?_
  have nz := k.n0le
  replace k := k |>.iloadN D4_0 rfl |>.ifYes D4_1 ((if0 _ _).trans (feq pr1).2) |>.iloadN D4_8 rfl |>.iconst D4_9 1 |>.icmpNo D4_10 (teq pr2).2 |>.iconst D4_13 1
  have z1 := k.sz
  obtain ⟨b1, h1, g1, K1, O1, k⟩ := k.newP (aty := .char) "[C" (w_1 hw) (by decide) D4_14 1 (by decide) (n := 1) (by decide) (by decide) (by decide) (bi_const (L := [0]) rfl)
  replace k := k |>.dup D4_16 rfl |>.iconst D4_17 0 |>.aloadN D4_18 rfl rfl |>.iconst D4_19 0
  have o2 := pr3.keep K1 nin0
  replace k := k |>.cald o2 D4_20 (i := 0) (by decide) big0
  have s_b1 := Nat.le_trans z1 g1
  have n_b1 := Nat.le_trans nz s_b1
  obtain ⟨h3, K3, O3, k⟩ := k.stC O1 n_b1 (Or.inl rfl) D4_21 (i := 0) (by decide) (v := (.int (nar .char p3))) rfl (fits_nar_char _) bis0
  exact k.retA D4_22 rfl ⟨_, rfl, (K1.trans K3 (allS (Or.inr s_b1) all0)), b1, rfl, s_b1, O3⟩
theorem D6_27 : Dc J6 27 (.getstatic 38) 3 30 := by decide +kernel
theorem D6_30 : Dj J6 30 (.ifCond .eq 28) 28 33 58 := by decide +kernel
theorem D6_33 : Dc J6 33 (.aload_n 1) 1 34 := by decide +kernel
theorem D6_34 : Dc J6 34 (.iload_n 2) 1 35 := by decide +kernel
theorem D6_35 : Dc J6 35 (.iload_n 3) 1 36 := by decide +kernel
theorem D6_36 : Dc J6 36 (.invokestatic 177) 3 39 := by decide +kernel
abbrev Y14 : MethodName := ⟨"java/lang/StringUTF16", "compress", "([CII)[B"⟩
abbrev J14 := jdk_52_method_16_code
abbrev C14 : Cond := .code Y14 J14 6 (some (.array .byte))
theorem D14_0 : Dc J14 0 (.iload_n 2) 1 1 := by decide +kernel
theorem D14_1 : Dc J14 1 (.newarray .byte) 2 3 := by decide +kernel
theorem D14_3 : Dc J14 3 (.astore_n 3) 1 4 := by decide +kernel
theorem D14_4 : Dc J14 4 (.aload_n 0) 1 5 := by decide +kernel
theorem D14_5 : Dc J14 5 (.iload_n 1) 1 6 := by decide +kernel
theorem D14_6 : Dc J14 6 (.aload_n 3) 1 7 := by decide +kernel
theorem D14_7 : Dc J14 7 (.iconst 0) 1 8 := by decide +kernel
theorem D14_8 : Dc J14 8 (.iload_n 2) 1 9 := by decide +kernel
theorem D14_9 : Dc J14 9 (.invokestatic 115) 3 12 := by decide +kernel
abbrev Y15 : MethodName := ⟨"java/lang/StringUTF16", "compress", "([CI[BII)I"⟩
abbrev J15 := jdk_52_method_21_code
abbrev C15 : Cond := .code Y15 J15 7 (some .int)
theorem D15_0 : Dc J15 0 (.iconst 0) 1 1 := by decide +kernel
theorem D15_1 : Dc J15 1 (.istore 5) 2 3 := by decide +kernel
theorem D15_3 : Dc J15 3 (.iload 5) 2 5 := by decide +kernel
theorem D15_5 : Dc J15 5 (.iload 4) 2 7 := by decide +kernel
theorem D15_7 : Dj J15 7 (.if_icmp .ge 37) 37 10 44 := by decide +kernel
theorem D15_10 : Dc J15 10 (.aload_n 0) 1 11 := by decide +kernel
theorem D15_11 : Dc J15 11 (.iload_n 1) 1 12 := by decide +kernel
theorem D15_12 : Dc J15 12 .caload 1 13 := by decide +kernel
theorem D15_13 : Dc J15 13 (.istore 6) 2 15 := by decide +kernel
theorem D15_15 : Dc J15 15 (.iload 6) 2 17 := by decide +kernel
theorem D15_17 : Dc J15 17 (.sipush 255) 3 20 := by decide +kernel
theorem D15_20 : Dj J15 20 (.if_icmp .le 6) 6 23 26 := by decide +kernel
theorem D15_23 : Dc J15 23 (.iload 5) 2 25 := by decide +kernel
theorem D15_25 : Dc J15 25 .ireturn 1 26 := by decide +kernel
theorem pn_StringUTF16 : plainName "java/lang/StringUTF16" = true := by first | (simp [plainName, overriddenIn]; done) | decide +kernel
theorem PN15 : plainFor Y15 = true := plainFor_of_name pn_StringUTF16
theorem ef_RIRII_7 {x0 : Addr} {x1 : Int32} {x2 : Addr} {x3 : Int32} {x4 : Int32}  (m : MethodId) : entryFrame m #[(.ref x0), (.int x1), (.ref x2), (.int x3), (.int x4)] 7 = mkF m 0 #[.val (.ref x0), .val (.int x1), .val (.ref x2), .val (.int x3), .val (.int x4), .unset, .unset] [] := by
  first | (simp [entryFrame, mkF, argsToLocals, Value.category]; done) | rfl
theorem R_15_2 {a1 a2 : Addr} {p3 : Int32} (hw : HW a0 Z) (G : Gl Z w_CS w_SF) (pr1 : Ary Z h0 a1 ATC 1 (bv (lvi [p3]))) (pr2 : 255 < p3) : Mt false [] l Y15 C15 (rmk 0 0 0 0) #[.ref a1, .int 0, .ref a2, .int 0, .int 1] Z a0 h0 n0 (Pv h0 (.int 0)) := by
  refine Mt.go PN15 (Or.inl rfl) ef_RIRII_7 fun k => ?_
  replace k := k |>.iconst D15_0 0 |>.istore D15_1 sto5 |>.iload D15_3 rfl |>.iload D15_5 rfl |>.icmpNo D15_7  |>.aloadN D15_10 rfl rfl |>.iloadN D15_11 rfl |>.cald pr1 D15_12 (i := 0) (by decide) big0 |>.istore D15_13 sto6 |>.iload D15_15 rfl |>.sipush D15_17 255 |>.icmpNo D15_20 (tlt pr2).2.2.2
  replace k := k |>.iload D15_23 rfl
  exact k.retI D15_25 rfl ⟨rfl, rfl⟩
abbrev w_67 (hw : HW a0 Z) := hw.at 67 rfl
abbrev w_69 (hw : HW a0 Z) := hw.at 69 rfl
abbrev w_65 (hw : HW a0 Z) := hw.at 65 rfl
theorem pd_ACIABII_r_I : parseMethodDescriptor "([CI[BII)I" = some ⟨[(.array .char), .int, (.array .byte), .int, .int], some .int⟩ := by decide +kernel
abbrev w_68 (hw : HW a0 Z) := hw.at 68 rfl
theorem S15 (hw : HW a0 Z) : SC Z a0 Y15 C15 7 (some .int) 5 := ⟨(w_68 hw), ⟨⟨_, Or.inl rfl⟩, (w_69 hw), (w_65 hw), by decide, _, _, pd_ACIABII_r_I, rfl⟩⟩
theorem D14_12 : Dc J14 12 (.istore 4) 2 14 := by decide +kernel
theorem sto4 {x0 x1 x2 x3 x : Slot} {t : List Slot} {v : Value} (hx : okS x = true := by rfl) (hv : v.category = 1 := by rfl) : storeLocals (List.toArray (x0 :: x1 :: x2 :: x3 :: x :: t)) 4 v = some (List.toArray (x0 :: x1 :: x2 :: x3 :: .val v :: t)) := stoA (A := [x0, x1, x2, x3]) hx hv
theorem D14_14 : Dc J14 14 (.iload 4) 2 16 := by decide +kernel
theorem D14_16 : Dc J14 16 (.iload_n 2) 1 17 := by decide +kernel
theorem D14_17 : Dj J14 17 (.if_icmp .eq 40) 40 20 57 := by decide +kernel
theorem D14_20 : Dc J14 20 (.aload_n 0) 1 21 := by decide +kernel
theorem D14_21 : Dc J14 21 (.iload_n 1) 1 22 := by decide +kernel
theorem D14_22 : Dc J14 22 (.iload_n 2) 1 23 := by decide +kernel
theorem D14_23 : Dc J14 23 (.invokestatic 119) 3 26 := by decide +kernel
abbrev Y16 : MethodName := ⟨"java/lang/StringUTF16", "toBytes", "([CII)[B"⟩
abbrev J16 := jdk_52_method_14_code
abbrev C16 : Cond := .code Y16 J16 5 (some (.array .byte))
theorem D16_0 : Dc J16 0 (.iload_n 2) 1 1 := by decide +kernel
theorem D16_1 : Dc J16 1 (.invokestatic 107) 3 4 := by decide +kernel
abbrev Y17 : MethodName := ⟨"java/lang/StringUTF16", "newBytesFor", "(I)[B"⟩
abbrev J17 := jdk_52_method_2_code
abbrev C17 : Cond := .code Y17 J17 1 (some (.array .byte))
theorem D17_0 : Dc J17 0 (.iload_n 0) 1 1 := by decide +kernel
theorem D17_1 : Dc J17 1 (.invokestatic 11) 3 4 := by decide +kernel
abbrev Y18 : MethodName := ⟨"java/lang/StringUTF16", "newBytesLength", "(I)I"⟩
abbrev J18 := jdk_52_method_3_code
abbrev C18 : Cond := .code Y18 J18 1 (some .int)
theorem D18_0 : Dc J18 0 (.iload_n 0) 1 1 := by decide +kernel
theorem D18_1 : Dj J18 1 (.ifCond .ge 11) 11 4 12 := by decide +kernel
theorem D18_12 : Dc J18 12 (.iload_n 0) 1 13 := by decide +kernel
theorem D18_13 : Dc J18 13 (.ldc 20) 2 15 := by decide +kernel
abbrev w_113 (hw : HW a0 Z) := hw.at 113 rfl
theorem D18_15 : Dj J18 15 (.if_icmp .lt 40) 40 18 55 := by decide +kernel
theorem D18_55 : Dc J18 55 (.iload_n 0) 1 56 := by decide +kernel
theorem D18_56 : Dc J18 56 (.iconst 1) 1 57 := by decide +kernel
theorem D18_57 : Dc J18 57 .ishl 1 58 := by decide +kernel
theorem D18_58 : Dc J18 58 .ireturn 1 59 := by decide +kernel
theorem PN18 : plainFor Y18 = true := plainFor_of_name pn_StringUTF16
theorem R_18_1 {p1 : Int32} (hw : HW a0 Z) (G : Gl Z w_CS w_SF) (pr1 : ¬ (p1 < 0)) (pr2 : p1 < 1073741823) : Mt false [] l Y18 C18 (rmk 0 0 0 0) #[.int p1] Z a0 h0 n0 (Pv h0 (.int (p1 <<< ((1 : Int32) &&& 31)))) := by
  refine Mt.go PN18 (Or.inl rfl) ef_I_1 fun k => ?_
  replace k := k |>.iloadN D18_0 rfl |>.ifYes D18_1 ((if0 _ _).trans (flt pr1).2.1) |>.iloadN D18_12 rfl |>.ldcI (w_113 hw) D18_13 |>.icmpYes D18_15 (tlt pr2).1 |>.iloadN D18_55 rfl |>.iconst D18_56 1 |>.ishl D18_57 rfl
  exact k.retI D18_58 rfl ⟨rfl, rfl⟩
abbrev w_110 (hw : HW a0 Z) := hw.at 110 rfl
abbrev w_112 (hw : HW a0 Z) := hw.at 112 rfl
theorem pd_I_r_I : parseMethodDescriptor "(I)I" = some ⟨[.int], some .int⟩ := by decide +kernel
abbrev w_111 (hw : HW a0 Z) := hw.at 111 rfl
theorem S18 (hw : HW a0 Z) : SC Z a0 Y18 C18 1 (some .int) 1 := ⟨(w_111 hw), ⟨⟨_, Or.inl rfl⟩, (w_112 hw), (w_65 hw), by decide, _, _, pd_I_r_I, rfl⟩⟩
theorem D17_4 : Dc J17 4 (.newarray .byte) 2 6 := by decide +kernel
theorem D17_6 : Dc J17 6 .areturn 1 7 := by decide +kernel
theorem PN17 : plainFor Y17 = true := plainFor_of_name pn_StringUTF16
theorem R_17_1 (hw : HW a0 Z) (G : Gl Z w_CS w_SF) : Mt false [] l Y17 C17 (rmk 1 1 2 12) #[.int 1] Z a0 h0 n0 (KpV h0 [] fun v h => ∃ u1 : Addr, v = (.ref u1) ∧ h0.size ≤ u1 ∧ Ary Z h u1 ATB 2 (bv (lvi [0, 0]))) := by
  refine Mt.go PN17 (Or.inl rfl) ef_I_1 fun k => ?_
  replace k := k |>.iloadN D17_0 rfl
  replace k := (k.callS (w_110 hw) (S18 hw) (R_18_1 hw G (by decide) (by decide) (p1 := 1)) D17_1 0 rfl).pv
  replace k := k |>.top (y := 2) (by decide)
  have z2 := k.sz
  obtain ⟨b2, h2, g2, K2, O2, k⟩ := k.newP (aty := .byte) "[B" (w_23 hw) (by decide) D17_4 2 (by decide) (n := 2) (by decide) (by decide) (by decide) (bi_const (L := [0, 0]) rfl)
  have s_b2 := Nat.le_trans z2 g2
  exact k.retA D17_6 rfl ⟨_, rfl, K2, b2, rfl, s_b2, O2⟩
abbrev w_107 (hw : HW a0 Z) := hw.at 107 rfl
abbrev w_109 (hw : HW a0 Z) := hw.at 109 rfl
theorem pd_I_r_AB : parseMethodDescriptor "(I)[B" = some ⟨[.int], some (.array .byte)⟩ := by decide +kernel
abbrev w_108 (hw : HW a0 Z) := hw.at 108 rfl
theorem S17 (hw : HW a0 Z) : SC Z a0 Y17 C17 1 (some (.array .byte)) 1 := ⟨(w_108 hw), ⟨⟨_, Or.inl rfl⟩, (w_109 hw), (w_65 hw), by decide, _, _, pd_I_r_AB, rfl⟩⟩
theorem D16_4 : Dc J16 4 (.astore_n 3) 1 5 := by decide +kernel
theorem D16_5 : Dc J16 5 (.iconst 0) 1 6 := by decide +kernel
theorem D16_6 : Dc J16 6 (.istore 4) 2 8 := by decide +kernel
theorem D16_8 : Dc J16 8 (.iload 4) 2 10 := by decide +kernel
theorem D16_10 : Dc J16 10 (.iload_n 2) 1 11 := by decide +kernel
theorem D16_11 : Dj J16 11 (.if_icmp .ge 21) 21 14 32 := by decide +kernel
theorem D16_14 : Dc J16 14 (.aload_n 3) 1 15 := by decide +kernel
theorem D16_15 : Dc J16 15 (.iload 4) 2 17 := by decide +kernel
theorem D16_17 : Dc J16 17 (.aload_n 0) 1 18 := by decide +kernel
theorem D16_18 : Dc J16 18 (.iload_n 1) 1 19 := by decide +kernel
theorem D16_19 : Dc J16 19 .caload 1 20 := by decide +kernel
theorem D16_20 : Dc J16 20 (.invokestatic 111) 3 23 := by decide +kernel
abbrev Y19 : MethodName := ⟨"java/lang/StringUTF16", "putChar", "([BII)V"⟩
abbrev J19 := jdk_52_method_4_code
abbrev C19 : Cond := .code Y19 J19 3 none
theorem D19_0 : Dc J19 0 (.getstatic 44) 3 3 := by decide +kernel
abbrev w_117 (hw : HW a0 Z) := hw.at 117 rfl
theorem fl_117 (hw : HW a0 Z) : FL Z a0 "java/lang/StringUTF16" 44 "java/lang/StringUTF16" "$assertionsDisabled" "Z" := ⟨_, "", Or.inl (w_117 hw), Via.refl⟩
theorem D19_3 : Dj J19 3 (.ifCond .ne 25) 25 6 28 := by decide +kernel
theorem D19_28 : Dc J19 28 (.iload_n 1) 1 29 := by decide +kernel
theorem D19_29 : Dc J19 29 (.iconst 1) 1 30 := by decide +kernel
theorem D19_30 : Dc J19 30 .ishl 1 31 := by decide +kernel
theorem D19_31 : Dc J19 31 (.istore_n 1) 1 32 := by decide +kernel
theorem D19_32 : Dc J19 32 (.aload_n 0) 1 33 := by decide +kernel
theorem D19_33 : Dc J19 33 (.iload_n 1) 1 34 := by decide +kernel
theorem D19_34 : Dc J19 34 (.iinc 1 1) 3 37 := by decide +kernel
theorem D19_37 : Dc J19 37 (.iload_n 2) 1 38 := by decide +kernel
theorem D19_38 : Dc J19 38 (.getstatic 59) 3 41 := by decide +kernel
abbrev w_118 (hw : HW a0 Z) := hw.at 118 rfl
theorem fl_118 (hw : HW a0 Z) : FL Z a0 "java/lang/StringUTF16" 59 "java/lang/StringUTF16" "HI_BYTE_SHIFT" "I" := ⟨_, "", Or.inl (w_118 hw), Via.refl⟩
theorem D19_41 : Dc J19 41 .ishr 1 42 := by decide +kernel
theorem D19_42 : Dc J19 42 .i2b 1 43 := by decide +kernel
theorem D19_43 : Dc J19 43 .bastore 1 44 := by decide +kernel
theorem D19_44 : Dc J19 44 (.aload_n 0) 1 45 := by decide +kernel
theorem D19_45 : Dc J19 45 (.iload_n 1) 1 46 := by decide +kernel
theorem D19_46 : Dc J19 46 (.iload_n 2) 1 47 := by decide +kernel
theorem D19_47 : Dc J19 47 (.getstatic 63) 3 50 := by decide +kernel
abbrev w_119 (hw : HW a0 Z) := hw.at 119 rfl
theorem fl_119 (hw : HW a0 Z) : FL Z a0 "java/lang/StringUTF16" 63 "java/lang/StringUTF16" "LO_BYTE_SHIFT" "I" := ⟨_, "", Or.inl (w_119 hw), Via.refl⟩
theorem D19_50 : Dc J19 50 .ishr 1 51 := by decide +kernel
theorem D19_51 : Dc J19 51 .i2b 1 52 := by decide +kernel
theorem D19_52 : Dc J19 52 .bastore 1 53 := by decide +kernel
theorem D19_53 : Dc J19 53 .return_ 1 54 := by decide +kernel
theorem PN19 : plainFor Y19 = true := plainFor_of_name pn_StringUTF16
theorem ef_RII_3 {x0 : Addr} {x1 : Int32} {x2 : Int32}  (m : MethodId) : entryFrame m #[(.ref x0), (.int x1), (.int x2)] 3 = mkF m 0 #[.val (.ref x0), .val (.int x1), .val (.int x2)] [] := by
  first | (simp [entryFrame, mkF, argsToLocals, Value.category]; done) | rfl
theorem R_19_1 {a1 : Addr} {p2 : Int32} (hw : HW a0 Z) (G : Gl Z w_CS w_SF) (pr1 : Ary Z h0 a1 ATB 2 (bv (lvi [0, 0]))) (pr2 : n0 ≤ a1) : Mt false [] l Y19 C19 (rmk 0 0 0 0) #[.ref a1, .int 0, .int p2] Z a0 h0 n0 (K0 h0 [a1] fun h => Ary Z h a1 ATB 2 (bv (lvi [(lo8 p2), (hi8 p2)]))) := by
  refine Mt.go PN19 (Or.inl rfl) ef_RII_3 fun k => ?_
  replace k := k |>.getS (fl_117 hw) G.S_AD D19_0 |>.ifYes D19_3  |>.iloadN D19_28 rfl |>.iconst D19_29 1 |>.ishl D19_30 (z := 0) |>.istoreN D19_31 sto1 |>.aloadN D19_32 rfl rfl |>.iloadN D19_33 rfl |>.iinc D19_34 rfl (z := 1) (by decide) sto1 |>.iloadN D19_37 rfl |>.getS (fl_118 hw) G.S_HI D19_38 |>.ishr D19_41 rfl
  replace k := k |>.i2b D19_42 rfl
  obtain ⟨h1, K1, O1, k⟩ := k.stB pr1 pr2 (Or.inl rfl) D19_43 (i := 0) (by decide) (v := (.int (lo8 p2))) (congrArg Value.int (own_nnBi2b _)) (own_fitBi2b _) bis0
  replace k := k |>.aloadN D19_44 rfl rfl |>.iloadN D19_45 rfl |>.iloadN D19_46 rfl |>.getS (fl_119 hw) G.S_LO D19_47 |>.ishr D19_50 rfl |>.i2b D19_51 rfl
  obtain ⟨h2, K2, O2, k⟩ := k.stB O1 pr2 (Or.inl rfl) D19_52 (i := 1) (by decide) (v := (.int (hi8 p2))) (congrArg Value.int (own_nnBi2b _)) (own_fitBi2b _) bis1
  exact k.ret0 D19_53 rfl ⟨rfl, (K1.trans K2 (allS (Or.inl (List.mem_of_getElem? (i := 0) rfl)) all0)), O2⟩
abbrev w_114 (hw : HW a0 Z) := hw.at 114 rfl
abbrev w_116 (hw : HW a0 Z) := hw.at 116 rfl
theorem pd_ABII_r_V : parseMethodDescriptor "([BII)V" = some ⟨[(.array .byte), .int, .int], none⟩ := by decide +kernel
abbrev w_115 (hw : HW a0 Z) := hw.at 115 rfl
theorem S19 (hw : HW a0 Z) : SC Z a0 Y19 C19 3 none 3 := ⟨(w_115 hw), ⟨⟨_, Or.inl rfl⟩, (w_116 hw), (w_65 hw), by decide, _, _, pd_ABII_r_V, rfl⟩⟩
theorem D16_23 : Dc J16 23 (.iinc 1 1) 3 26 := by decide +kernel
theorem D16_26 : Dc J16 26 (.iinc 4 1) 3 29 := by decide +kernel
theorem D16_29 : Dj J16 29 (.goto (-21)) (-21) 32 8 := by decide +kernel
theorem D16_32 : Dc J16 32 (.aload_n 3) 1 33 := by decide +kernel
theorem D16_33 : Dc J16 33 .areturn 1 34 := by decide +kernel
theorem PN16 : plainFor Y16 = true := plainFor_of_name pn_StringUTF16
theorem R_16_1 {a1 : Addr} {p2 : Int32} (hw : HW a0 Z) (G : Gl Z w_CS w_SF) (pr1 : Ary Z h0 a1 ATC 1 (bv (lvi [p2]))) : Mt false [] l Y16 C16 (rmk 2 1 2 24) #[.ref a1, .int 0, .int 1] Z a0 h0 n0 (KpV h0 [] fun v h => ∃ u1 : Addr, v = (.ref u1) ∧ h0.size ≤ u1 ∧ Ary Z h u1 ATB 2 (bv (lvi [(lo8 p2), (hi8 p2)]))) := by
  refine Mt.go PN16 (Or.inl rfl) ef_RII_5 fun k => ?_
  have nz := k.n0le
  replace k := k |>.iloadN D16_0 rfl
  have z1 := k.sz
  obtain ⟨_, h1, K1, ⟨u1_1, rfl, f1_0, f1_1⟩, k⟩ := (k.callS (w_107 hw) (S17 hw) (R_17_1 hw G) D16_1 0 rfl).kv
  replace k := k |>.astoreN D16_4 rfl sto3 |>.iconst D16_5 0 |>.istore D16_6 sto4 |>.iload D16_8 rfl |>.iloadN D16_10 rfl |>.icmpNo D16_11  |>.aloadN D16_14 rfl rfl |>.iload D16_15 rfl |>.aloadN D16_17 rfl rfl |>.iloadN D16_18 rfl
  have o2 := pr1.keep K1 nin0
  replace k := k |>.cald o2 D16_19 (i := 0) (by decide) big0
  have s_u1_1 := Nat.le_trans z1 f1_0
  have n_u1_1 := Nat.le_trans nz s_u1_1
  obtain ⟨h3, K3, f3_0, k⟩ := (k.callS (w_114 hw) (S19 hw) (R_19_1 hw G f1_1 n_u1_1) D16_20 0 rfl).k0 (allS n_u1_1 all0)
  replace k := k |>.iinc D16_23 rfl (z := 1) (by decide) sto1 |>.iinc D16_26 rfl (z := 1) (by decide) sto4 |>.goto D16_29 |>.iload D16_8 rfl |>.iloadN D16_10 rfl |>.icmpYes D16_11  |>.aloadN D16_32 rfl rfl
  exact k.retA D16_33 rfl ⟨_, rfl, (K1.trans K3 (allS (Or.inr s_u1_1) all0)), u1_1, rfl, s_u1_1, f3_0⟩
abbrev w_104 (hw : HW a0 Z) := hw.at 104 rfl
abbrev w_106 (hw : HW a0 Z) := hw.at 106 rfl
theorem pd_ACII_r_AB : parseMethodDescriptor "([CII)[B" = some ⟨[(.array .char), .int, .int], some (.array .byte)⟩ := by decide +kernel
abbrev w_105 (hw : HW a0 Z) := hw.at 105 rfl
theorem S16 (hw : HW a0 Z) : SC Z a0 Y16 C16 5 (some (.array .byte)) 3 := ⟨(w_105 hw), ⟨⟨_, Or.inl rfl⟩, (w_106 hw), (w_65 hw), by decide, _, _, pd_ACII_r_AB, rfl⟩⟩
theorem D14_26 : Dc J14 26 (.astore 5) 2 28 := by decide +kernel
theorem D14_28 : Dc J14 28 (.aload 5) 2 30 := by decide +kernel
theorem D14_30 : Dc J14 30 (.iload 4) 2 32 := by decide +kernel
theorem D14_32 : Dc J14 32 (.invokestatic 71) 3 35 := by decide +kernel
abbrev Y20 : MethodName := ⟨"java/lang/StringUTF16", "getChar", "([BI)C"⟩
abbrev J20 := jdk_52_method_5_code
abbrev C20 : Cond := .code Y20 J20 2 (some .char)
theorem D20_0 : Dc J20 0 (.getstatic 44) 3 3 := by decide +kernel
theorem D20_3 : Dj J20 3 (.ifCond .ne 25) 25 6 28 := by decide +kernel
theorem D20_28 : Dc J20 28 (.iload_n 1) 1 29 := by decide +kernel
theorem D20_29 : Dc J20 29 (.iconst 1) 1 30 := by decide +kernel
theorem D20_30 : Dc J20 30 .ishl 1 31 := by decide +kernel
theorem D20_31 : Dc J20 31 (.istore_n 1) 1 32 := by decide +kernel
theorem D20_32 : Dc J20 32 (.aload_n 0) 1 33 := by decide +kernel
theorem D20_33 : Dc J20 33 (.iload_n 1) 1 34 := by decide +kernel
theorem D20_34 : Dc J20 34 (.iinc 1 1) 3 37 := by decide +kernel
theorem D20_37 : Dc J20 37 .baload 1 38 := by decide +kernel
theorem D20_38 : Dc J20 38 (.sipush 255) 3 41 := by decide +kernel
theorem D20_41 : Dc J20 41 .iand 1 42 := by decide +kernel
theorem D20_42 : Dc J20 42 (.getstatic 59) 3 45 := by decide +kernel
theorem D20_45 : Dc J20 45 .ishl 1 46 := by decide +kernel
theorem D20_46 : Dc J20 46 (.aload_n 0) 1 47 := by decide +kernel
theorem D20_47 : Dc J20 47 (.iload_n 1) 1 48 := by decide +kernel
theorem D20_48 : Dc J20 48 .baload 1 49 := by decide +kernel
theorem D20_49 : Dc J20 49 (.sipush 255) 3 52 := by decide +kernel
theorem D20_52 : Dc J20 52 .iand 1 53 := by decide +kernel
theorem D20_53 : Dc J20 53 (.getstatic 63) 3 56 := by decide +kernel
theorem D20_56 : Dc J20 56 .ishl 1 57 := by decide +kernel
theorem D20_57 : Dc J20 57 .ior 1 58 := by decide +kernel
theorem D20_58 : Dc J20 58 .i2c 1 59 := by decide +kernel
theorem D20_59 : Dc J20 59 .ireturn 1 60 := by decide +kernel
theorem PN20 : plainFor Y20 = true := plainFor_of_name pn_StringUTF16
theorem R_20_1 {a1 : Addr} {p2 p3 : Int32} {f4 : Nat → Int32} (hw : HW a0 Z) (G : Gl Z w_CS w_SF) (pr1 : Ary Z h0 a1 ATB p3.toNatClampNeg (bv f4)) (pr2 : ¬ ((p2 <<< ((1 : Int32) &&& 31)) < 0)) (pr3 : (p2 <<< ((1 : Int32) &&& 31)) < p3) (pr4 : ¬ (((p2 <<< ((1 : Int32) &&& 31)) + 1) < 0)) (pr5 : ((p2 <<< ((1 : Int32) &&& 31)) + 1) < p3) : Mt false [] l Y20 C20 (rmk 0 0 0 0) #[.ref a1, .int p2] Z a0 h0 n0 (Pv h0 (.int (gcv (f4 (p2 <<< ((1 : Int32) &&& 31)).toNatClampNeg) (f4 ((p2 <<< ((1 : Int32) &&& 31)) + 1).toNatClampNeg)))) := by
  refine Mt.go PN20 (Or.inl rfl) ef_RI_2 fun k => ?_
  replace k := k |>.getS (fl_117 hw) G.S_AD D20_0 |>.ifYes D20_3  |>.iloadN D20_28 rfl |>.iconst D20_29 1 |>.ishl D20_30 rfl |>.istoreN D20_31 sto1 |>.aloadN D20_32 rfl rfl |>.iloadN D20_33 rfl |>.iinc D20_34 rfl (z := ((p2 <<< ((1 : Int32) &&& 31)) + 1)) rfl sto1 |>.bald pr1 D20_37 (i := (p2 <<< ((1 : Int32) &&& 31)).toNatClampNeg) (ixS pr2 pr3 rfl) bv_at |>.sipush D20_38 255 |>.iand D20_41 rfl
  replace k := k |>.getS (fl_118 hw) G.S_HI D20_42 |>.ishl D20_45 rfl |>.aloadN D20_46 rfl rfl |>.iloadN D20_47 rfl |>.bald pr1 D20_48 (i := ((p2 <<< ((1 : Int32) &&& 31)) + 1).toNatClampNeg) (ixS pr4 pr5 rfl) bv_at |>.sipush D20_49 255 |>.iand D20_52 rfl |>.getS (fl_119 hw) G.S_LO D20_53 |>.ishl D20_56 rfl |>.ior D20_57 rfl |>.i2c D20_58 rfl
  exact k.retN (t := .char) D20_59 rfl (by simp) (own_nnCi2c _) ⟨rfl, rfl⟩
abbrev w_120 (hw : HW a0 Z) := hw.at 120 rfl
abbrev w_122 (hw : HW a0 Z) := hw.at 122 rfl
theorem pd_ABI_r_C : parseMethodDescriptor "([BI)C" = some ⟨[(.array .byte), .int], some .char⟩ := by decide +kernel
abbrev w_121 (hw : HW a0 Z) := hw.at 121 rfl
theorem S20 (hw : HW a0 Z) : SC Z a0 Y20 C20 2 (some .char) 2 := ⟨(w_121 hw), ⟨⟨_, Or.inl rfl⟩, (w_122 hw), (w_65 hw), by decide, _, _, pd_ABI_r_C, rfl⟩⟩
theorem D14_35 : Dc J14 35 (.sipush 255) 3 38 := by decide +kernel
theorem D14_38 : Dj J14 38 (.if_icmp .gt 16) 16 41 54 := by decide +kernel
theorem own_d6 {c0 v0 : Int32} (e0 : v0 = (gcv (lo8 c0) (hi8 c0))) (q0 : ¬ (c0 < 0)) (q1 : c0 < 65536) (q2 : 255 < c0) : 255 < v0 := by
  have := rng32 c0
  have : (0 : Int32).toInt = 0 := by decide
  have := i_nlt q0
  have : (65536 : Int32).toInt = 65536 := by decide
  have := i_lt q1
  have : (255 : Int32).toInt = 255 := by decide
  have := i_lt q2
  have := e_gc e0 (by omega) (by omega)
  exact o_lt (by omega)
theorem D14_54 : Dc J14 54 (.aload 5) 2 56 := by decide +kernel
theorem D14_56 : Dc J14 56 .areturn 1 57 := by decide +kernel
theorem PN14 : plainFor Y14 = true := plainFor_of_name pn_StringUTF16
theorem ef_RII_6 {x0 : Addr} {x1 : Int32} {x2 : Int32}  (m : MethodId) : entryFrame m #[(.ref x0), (.int x1), (.int x2)] 6 = mkF m 0 #[.val (.ref x0), .val (.int x1), .val (.int x2), .unset, .unset, .unset] [] := by
  first | (simp [entryFrame, mkF, argsToLocals, Value.category]; done) | rfl
theorem R_14_2 {a1 : Addr} {p2 : Int32} (hw : HW a0 Z) (G : Gl Z w_CS w_SF) (pr1 : Ary Z h0 a1 ATC 1 (bv (lvi [p2]))) (pr2 : 255 < p2) (pr3 : 255 < (gcv (lo8 p2) (hi8 p2))) : Mt false [] l Y14 C14 (rmk 3 2 3 40) #[.ref a1, .int 0, .int 1] Z a0 h0 n0 (KpV h0 [] fun v h => ∃ u1 : Addr, v = (.ref u1) ∧ h0.size ≤ u1 ∧ Ary Z h u1 ATB 2 (bv (lvi [(lo8 p2), (hi8 p2)]))) := by
  refine Mt.go PN14 (Or.inl rfl) ef_RII_6 fun k => ?_
  replace k := k |>.iloadN D14_0 rfl
  obtain ⟨b1, h1, g1, K1, O1, k⟩ := k.newP (aty := .byte) "[B" (w_23 hw) (by decide) D14_1 1 (by decide) (n := 1) (by decide) (by decide) (by decide) (bi_const (L := [0]) rfl)
  replace k := k |>.astoreN D14_3 rfl sto3 |>.aloadN D14_4 rfl rfl |>.iloadN D14_5 rfl |>.aloadN D14_6 rfl rfl |>.iconst D14_7 0 |>.iloadN D14_8 rfl
  have o3 := pr1.keep K1 nin0
  replace k := (k.callS (w_67 hw) (S15 hw) (R_15_2 hw G o3 pr2) D14_9 0 rfl).pv
  replace k := k |>.istore D14_12 sto4 |>.iload D14_14 rfl |>.iloadN D14_16 rfl |>.icmpNo D14_17  |>.aloadN D14_20 rfl rfl |>.iloadN D14_21 rfl |>.iloadN D14_22 rfl
  have z4 := k.sz
  obtain ⟨_, h4, K4, ⟨u1_4, rfl, f4_0, f4_1⟩, k⟩ := (k.callS (w_104 hw) (S16 hw) (R_16_1 hw G o3) D14_23 0 rfl).kv
  replace k := k |>.astore D14_26 rfl sto5 |>.aload D14_28 rfl rfl |>.iload D14_30 rfl
  replace k := (k.callS (w_120 hw) (S20 hw) (R_20_1 hw G f4_1 (by decide) (by decide) (by decide) (by decide) (p2 := 0) (p3 := 2)) D14_32 0 rfl).pv
  replace k := k |>.top (y := (gcv (lo8 p2) (hi8 p2))) rfl |>.sipush D14_35 255 |>.icmpYes D14_38 (tlt pr3).2.2.1 |>.aload D14_54 rfl rfl
  have s_u1_4 := Nat.le_trans z4 f4_0
  exact k.retA D14_56 rfl ⟨_, rfl, (K1.trans K4 all0), u1_4, rfl, s_u1_4, f4_1⟩
abbrev w_63 (hw : HW a0 Z) := hw.at 63 rfl
abbrev w_66 (hw : HW a0 Z) := hw.at 66 rfl
abbrev w_64 (hw : HW a0 Z) := hw.at 64 rfl
theorem S14 (hw : HW a0 Z) : SC Z a0 Y14 C14 6 (some (.array .byte)) 3 := ⟨(w_64 hw), ⟨⟨_, Or.inl rfl⟩, (w_66 hw), (w_65 hw), by decide, _, _, pd_ACII_r_AB, rfl⟩⟩
theorem D6_39 : Dc J6 39 (.astore 5) 2 41 := by decide +kernel
theorem D6_41 : Dc J6 41 (.aload_n 0) 1 42 := by decide +kernel
theorem D6_42 : Dc J6 42 (.aload 5) 2 44 := by decide +kernel
theorem D6_44 : Dc J6 44 (.iload_n 3) 1 45 := by decide +kernel
theorem D6_45 : Dc J6 45 (.invokestatic 47) 3 48 := by decide +kernel
abbrev Y21 : MethodName := ⟨"java/lang/StringUTF16", "coderFromArrayLen", "([BI)B"⟩
abbrev J21 := jdk_52_method_15_code
abbrev C21 : Cond := .code Y21 J21 2 (some .byte)
theorem D21_0 : Dc J21 0 (.iload_n 1) 1 1 := by decide +kernel
theorem D21_1 : Dc J21 1 (.aload_n 0) 1 2 := by decide +kernel
theorem D21_2 : Dc J21 2 .arraylength 1 3 := by decide +kernel
theorem D21_3 : Dc J21 3 .isub 1 4 := by decide +kernel
theorem D21_4 : Dc J21 4 (.bipush 31) 2 6 := by decide +kernel
theorem D21_6 : Dc J21 6 .iushr 1 7 := by decide +kernel
theorem D21_7 : Dc J21 7 .i2b 1 8 := by decide +kernel
theorem D21_8 : Dc J21 8 .ireturn 1 9 := by decide +kernel
theorem PN21 : plainFor Y21 = true := plainFor_of_name pn_StringUTF16
theorem R_21_1 {a1 : Addr} {p2 p3 : Int32} {f4 : Nat → Int32} (hw : HW a0 Z) (G : Gl Z w_CS w_SF) (pr1 : Ary Z h0 a1 ATB p3.toNatClampNeg (bv f4)) (pr2 : ¬ (p3 < 0)) : Mt false [] l Y21 C21 (rmk 0 0 0 0) #[.ref a1, .int p2] Z a0 h0 n0 (Pv h0 (.int ((((p2 - p3).toUInt32 >>> ((31 : Int32) &&& 31).toUInt32).toInt32).toInt8.toInt32))) := by
  refine Mt.go PN21 (Or.inl rfl) ef_RI_2 fun k => ?_
  replace k := k |>.iloadN D21_0 rfl |>.aloadN D21_1 rfl rfl |>.alen pr1 D21_2 (lenS pr2) |>.isub D21_3 rfl |>.bipush D21_4 31 |>.iushr D21_6 rfl |>.i2b D21_7 rfl
  exact k.retN (t := .byte) D21_8 rfl (by simp) (own_nnBi2b _) ⟨rfl, rfl⟩
abbrev w_70 (hw : HW a0 Z) := hw.at 70 rfl
abbrev w_72 (hw : HW a0 Z) := hw.at 72 rfl
theorem pd_ABI_r_B : parseMethodDescriptor "([BI)B" = some ⟨[(.array .byte), .int], some .byte⟩ := by decide +kernel
abbrev w_71 (hw : HW a0 Z) := hw.at 71 rfl
theorem S21 (hw : HW a0 Z) : SC Z a0 Y21 C21 2 (some .byte) 2 := ⟨(w_71 hw), ⟨⟨_, Or.inl rfl⟩, (w_72 hw), (w_65 hw), by decide, _, _, pd_ABI_r_B, rfl⟩⟩
theorem D6_48 : Dc J6 48 (.putfield 15) 3 51 := by decide +kernel
theorem D6_51 : Dc J6 51 (.aload_n 0) 1 52 := by decide +kernel
theorem D6_52 : Dc J6 52 (.aload 5) 2 54 := by decide +kernel
theorem D6_54 : Dc J6 54 (.putfield 9) 3 57 := by decide +kernel
theorem D6_57 : Dc J6 57 .return_ 1 58 := by decide +kernel
theorem R_6_4 {a1 a2 : Addr} {p3 : Int32} (hw : HW a0 Z) (G : Gl Z w_CS w_SF) (pr1 : Ary Z h0 a2 ATC 1 (bv (lvi [p3]))) (pr2 : 255 < p3) (pr3 : 255 < (gcv (lo8 p3) (hi8 p3))) (pr4 : Obj Z h0 a1 L_String [.null, .int 0]) (pr5 : n0 ≤ a1) : Mt false [] l Y6 C6 (rmk 4 2 3 57) #[.ref a1, .ref a2, .int 0, .int 1, .null] Z a0 h0 n0 (K0 h0 [a1] fun h => ∃ u1 : Addr, h0.size ≤ u1 ∧ Obj Z h a1 L_String [.ref u1, .int 1] ∧ Ary Z h u1 ATB 2 (bv (lvi [(lo8 p3), (hi8 p3)]))) := by
  refine Mt.go PN6 (Or.inl rfl) ef_RRIIN_6 fun k => ?_
  replace k := k |>.aloadN D6_0 rfl rfl |>.initO (w_19 hw) (w_20 hw) (w_21 hw) D6_1 0 |>.iloadN D6_4 rfl |>.ifYes D6_5  |>.getS (fl_44 hw) G.S_CS D6_27 |>.ifNo D6_30 ((if0 _ _).trans (feq G.h_CS).1) |>.aloadN D6_33 rfl rfl |>.iloadN D6_34 rfl |>.iloadN D6_35 rfl
  have z1 := k.sz
  obtain ⟨_, h1, K1, ⟨u1_1, rfl, f1_0, f1_1⟩, k⟩ := (k.callS (w_63 hw) (S14 hw) (R_14_2 hw G pr1 pr2 pr3) D6_36 0 rfl).kv
  replace k := k |>.astore D6_39 rfl sto5 |>.aloadN D6_41 rfl rfl |>.aload D6_42 rfl rfl |>.iloadN D6_44 rfl
  replace k := (k.callS (w_70 hw) (S21 hw) (R_21_1 hw G f1_1 (by decide) (p2 := 1) (p3 := 2)) D6_45 1 rfl).pv
  replace k := k |>.top (y := 1) (by decide)
  have o3 := pr4.keep K1 nin0
  obtain ⟨h4, K4, O4, k⟩ := k.putN (fp_29 hw) (pw_String_i_String_coder hw) o3 1 pr5 (Or.inl rfl) D6_48 rfl (v' := (.int 1)) (by decide) (by decide) ls1
  replace k := k |>.aloadN D6_51 rfl rfl |>.aload D6_52 rfl rfl
  obtain ⟨h5, K5, O5, k⟩ := k.putF (fl_28 hw) (pw_String_i_String_value hw) O4 0 pr5 (Or.inl rfl) D6_54 rfl rfl rfl ls0
  have s_u1_1 := Nat.le_trans z1 f1_0
  have o6 := (f1_1.keep K4 (ninS (nlt' pr4.lt s_u1_1) nin0)).keep K5 (ninS (nlt' pr4.lt s_u1_1) nin0)
  exact k.ret0 D6_57 rfl ⟨rfl, ((((Keep.refl h0 [a1]).trans K1 all0).trans K4 (allS (Or.inl (List.mem_of_getElem? (i := 0) rfl)) all0)).trans K5 (allS (Or.inl (List.mem_of_getElem? (i := 0) rfl)) all0)), u1_1, s_u1_1, O5, o6⟩
theorem D15_26 : Dc J15 26 (.aload_n 2) 1 27 := by decide +kernel
theorem D15_27 : Dc J15 27 (.iload_n 3) 1 28 := by decide +kernel
theorem D15_28 : Dc J15 28 (.iload 6) 2 30 := by decide +kernel
theorem D15_30 : Dc J15 30 .i2b 1 31 := by decide +kernel
theorem D15_31 : Dc J15 31 .bastore 1 32 := by decide +kernel
theorem D15_32 : Dc J15 32 (.iinc 1 1) 3 35 := by decide +kernel
theorem D15_35 : Dc J15 35 (.iinc 3 1) 3 38 := by decide +kernel
theorem D15_38 : Dc J15 38 (.iinc 5 1) 3 41 := by decide +kernel
theorem D15_41 : Dj J15 41 (.goto (-38)) (-38) 44 3 := by decide +kernel
theorem D15_44 : Dc J15 44 (.iload 4) 2 46 := by decide +kernel
theorem D15_46 : Dc J15 46 .ireturn 1 47 := by decide +kernel
theorem R_15_3 {a1 a2 : Addr} {p3 : Int32} (hw : HW a0 Z) (G : Gl Z w_CS w_SF) (pr1 : Ary Z h0 a1 ATC 1 (bv (lvi [p3]))) (pr2 : ¬ (255 < p3)) (pr3 : Ary Z h0 a2 ATB 1 (bv (lvi [0]))) (pr4 : n0 ≤ a2) : Mt false [] l Y15 C15 (rmk 0 0 0 0) #[.ref a1, .int 0, .ref a2, .int 0, .int 1] Z a0 h0 n0 (KpV h0 [a2] fun v h => v = (.int 1) ∧ Ary Z h a2 ATB 1 (bv (lvi [(p3.toInt8.toInt32)]))) := by
  refine Mt.go PN15 (Or.inl rfl) ef_RIRII_7 fun k => ?_
  replace k := k |>.iconst D15_0 0 |>.istore D15_1 sto5 |>.iload D15_3 rfl |>.iload D15_5 rfl |>.icmpNo D15_7  |>.aloadN D15_10 rfl rfl |>.iloadN D15_11 rfl |>.cald pr1 D15_12 (i := 0) (by decide) big0 |>.istore D15_13 sto6 |>.iload D15_15 rfl |>.sipush D15_17 255 |>.icmpYes D15_20 (flt pr2).2.2.2
  replace k := k |>.aloadN D15_26 rfl rfl |>.iloadN D15_27 rfl |>.iload D15_28 rfl |>.i2b D15_30 rfl
  obtain ⟨h1, K1, O1, k⟩ := k.stB pr3 pr4 (Or.inl rfl) D15_31 (i := 0) (by decide) (v := (.int (p3.toInt8.toInt32))) (congrArg Value.int (own_nnBi2b _)) (own_fitBi2b _) bis0
  replace k := k |>.iinc D15_32 rfl (z := 1) (by decide) sto1 |>.iinc D15_35 rfl (z := 1) (by decide) sto3 |>.iinc D15_38 rfl (z := 1) (by decide) sto5 |>.goto D15_41 |>.iload D15_3 rfl |>.iload D15_5 rfl |>.icmpYes D15_7  |>.iload D15_44 rfl
  exact k.retI D15_46 rfl ⟨_, rfl, K1, rfl, O1⟩
theorem D14_57 : Dc J14 57 (.aload_n 3) 1 58 := by decide +kernel
theorem D14_58 : Dc J14 58 .areturn 1 59 := by decide +kernel
theorem R_14_3 {a1 : Addr} {p2 : Int32} (hw : HW a0 Z) (G : Gl Z w_CS w_SF) (pr1 : Ary Z h0 a1 ATC 1 (bv (lvi [p2]))) (pr2 : ¬ (255 < p2)) : Mt false [] l Y14 C14 (rmk 1 1 1 18) #[.ref a1, .int 0, .int 1] Z a0 h0 n0 (KpV h0 [] fun v h => ∃ u1 : Addr, v = (.ref u1) ∧ h0.size ≤ u1 ∧ Ary Z h u1 ATB 1 (bv (lvi [(p2.toInt8.toInt32)]))) := by
  refine Mt.go PN14 (Or.inl rfl) ef_RII_6 fun k => ?_
  have nz := k.n0le
  replace k := k |>.iloadN D14_0 rfl
  have z1 := k.sz
  obtain ⟨b1, h1, g1, K1, O1, k⟩ := k.newP (aty := .byte) "[B" (w_23 hw) (by decide) D14_1 1 (by decide) (n := 1) (by decide) (by decide) (by decide) (bi_const (L := [0]) rfl)
  replace k := k |>.astoreN D14_3 rfl sto3 |>.aloadN D14_4 rfl rfl |>.iloadN D14_5 rfl |>.aloadN D14_6 rfl rfl |>.iconst D14_7 0 |>.iloadN D14_8 rfl
  have s_b1 := Nat.le_trans z1 g1
  have n_b1 := Nat.le_trans nz s_b1
  have o3 := pr1.keep K1 nin0
  obtain ⟨_, h2, K2, ⟨rfl, f2_0⟩, k⟩ := (k.callS (w_67 hw) (S15 hw) (R_15_3 hw G o3 pr2 O1 n_b1) D14_9 0 rfl).kv (allS n_b1 all0)
  replace k := k |>.istore D14_12 sto4 |>.iload D14_14 rfl |>.iloadN D14_16 rfl |>.icmpYes D14_17  |>.aloadN D14_57 rfl rfl
  exact k.retA D14_58 rfl ⟨_, rfl, (K1.trans K2 (allS (Or.inr s_b1) all0)), b1, rfl, s_b1, f2_0⟩
theorem R_6_5 {a1 a2 : Addr} {p3 : Int32} (hw : HW a0 Z) (G : Gl Z w_CS w_SF) (pr1 : Ary Z h0 a2 ATC 1 (bv (lvi [p3]))) (pr2 : ¬ (255 < p3)) (pr3 : Obj Z h0 a1 L_String [.null, .int 0]) (pr4 : n0 ≤ a1) : Mt false [] l Y6 C6 (rmk 2 1 1 35) #[.ref a1, .ref a2, .int 0, .int 1, .null] Z a0 h0 n0 (K0 h0 [a1] fun h => ∃ u1 : Addr, h0.size ≤ u1 ∧ Obj Z h a1 L_String [.ref u1, .int 0] ∧ Ary Z h u1 ATB 1 (bv (lvi [(p3.toInt8.toInt32)]))) := by
  refine Mt.go PN6 (Or.inl rfl) ef_RRIIN_6 fun k => ?_
  replace k := k |>.aloadN D6_0 rfl rfl |>.initO (w_19 hw) (w_20 hw) (w_21 hw) D6_1 0 |>.iloadN D6_4 rfl |>.ifYes D6_5  |>.getS (fl_44 hw) G.S_CS D6_27 |>.ifNo D6_30 ((if0 _ _).trans (feq G.h_CS).1) |>.aloadN D6_33 rfl rfl |>.iloadN D6_34 rfl |>.iloadN D6_35 rfl
  have z1 := k.sz
  obtain ⟨_, h1, K1, ⟨u1_1, rfl, f1_0, f1_1⟩, k⟩ := (k.callS (w_63 hw) (S14 hw) (R_14_3 hw G pr1 pr2) D6_36 0 rfl).kv
  replace k := k |>.astore D6_39 rfl sto5 |>.aloadN D6_41 rfl rfl |>.aload D6_42 rfl rfl |>.iloadN D6_44 rfl
  replace k := (k.callS (w_70 hw) (S21 hw) (R_21_1 hw G f1_1 (by decide) (p2 := 1) (p3 := 1)) D6_45 1 rfl).pv
  replace k := k |>.top (y := 0) (by decide)
  have o3 := pr3.keep K1 nin0
  obtain ⟨h4, K4, O4, k⟩ := k.putN (fp_29 hw) (pw_String_i_String_coder hw) o3 1 pr4 (Or.inl rfl) D6_48 rfl (v' := (.int 0)) (by decide) (by decide) ls1
  replace k := k |>.aloadN D6_51 rfl rfl |>.aload D6_52 rfl rfl
  obtain ⟨h5, K5, O5, k⟩ := k.putF (fl_28 hw) (pw_String_i_String_value hw) O4 0 pr4 (Or.inl rfl) D6_54 rfl rfl rfl ls0
  have s_u1_1 := Nat.le_trans z1 f1_0
  have o6 := (f1_1.keep K4 (ninS (nlt' pr3.lt s_u1_1) nin0)).keep K5 (ninS (nlt' pr3.lt s_u1_1) nin0)
  exact k.ret0 D6_57 rfl ⟨rfl, ((((Keep.refl h0 [a1]).trans K1 all0).trans K4 (allS (Or.inl (List.mem_of_getElem? (i := 0) rfl)) all0)).trans K5 (allS (Or.inl (List.mem_of_getElem? (i := 0) rfl)) all0)), u1_1, s_u1_1, O5, o6⟩
theorem R_newS1 {a1 a2 : Addr} {c0 : Int32} (hw : HW a0 Z) (G : Gl Z w_CS w_SF) (O : Obj Z h0 a1 L_String [.null, .int 0]) (A : Ary Z h0 a2 ATC 1 (bv (lvi [c0]))) (N : n0 ≤ a1) (g0a : ¬ (c0 < 0)) (g0b : c0 < 65536) : Mt false [] l Y5 C5 (rmk 5 2 3 74) #[.ref a1, .ref a2] Z a0 h0 n0 (K0 h0 [a1] fun h => ∃ u : Addr, Str Z h a1 u [c0]) := by
  refine Mt.go PN5 (Or.inl rfl) ef_RR_2 fun k => ?_
  replace k := k |>.aloadN D5_0 rfl rfl |>.aloadN D5_1 rfl rfl |>.iconst D5_2 0 |>.aloadN D5_3 rfl rfl |>.alen A D5_4 (z := 1) (by decide) |>.aconstNull D5_5
  by_cases hs1 : 255 < c0
  · have z2 := k.sz
    obtain ⟨h2, K2, ⟨u1_2, f2_0, f2_1, f2_2⟩, k⟩ := (k.callI (w_15 hw) (I6 hw) (R_6_4 hw G A hs1 (own_d6 rfl g0a g0b hs1) O N) D5_6 0 rfl).k0 (allS N all0)
    exact k.ret0 D5_9 rfl ⟨rfl, K2, u1_2, ⟨⟨⟨g0a, g0b⟩, trivial⟩, Or.inr ⟨f2_1, f2_2, Or.inl hs1⟩⟩⟩
  · have z3 := k.sz
    obtain ⟨h3, K3, ⟨u1_3, f3_0, f3_1, f3_2⟩, k⟩ := (k.callI (w_15 hw) (I6 hw) (R_6_5 hw G A hs1 O N) D5_6 0 rfl).k0 (allS N all0)
    exact k.ret0 D5_9 rfl ⟨rfl, K3, u1_3, ⟨⟨⟨g0a, g0b⟩, trivial⟩, Or.inl ⟨_, f3_1, f3_2, ⟨hs1, trivial⟩⟩⟩⟩
theorem own_d7 {p2 v0 v1 v2 : Int32} (e0 : v0 = (drw p2)) (e1 : v1 = (nar .char v0)) (e2 : v2 = (nar .char v1)) : ¬ (v2 < 0) := by
  have := e_drw e0
  have := e_i2cN e1 (by omega)
  have := e_i2cN e2 (by omega)
  have : (0 : Int32).toInt = 0 := by decide
  exact o_nlt (by omega)
theorem own_d8 {p2 v0 v1 v2 : Int32} (e0 : v0 = (drw p2)) (e1 : v1 = (nar .char v0)) (e2 : v2 = (nar .char v1)) : v2 < 65536 := by
  have := e_drw e0
  have := e_i2cN e1 (by omega)
  have := e_i2cN e2 (by omega)
  have : (65536 : Int32).toInt = 65536 := by decide
  exact o_lt (by omega)
theorem R_9_2 {a1 a2 : Addr} (hw : HW a0 Z) (G : Gl Z w_CS w_SF) (pr1 : Obj Z h0 a1 litL [.ref a2, .int 1]) : Mt false [] l Y9 C9 (rmk 0 0 0 0) #[.ref a1] Z a0 h0 n0 (Pv h0 (.int 1)) := by
  refine Mt.go PN9 (Or.inl rfl) ef_R_1 fun k => ?_
  replace k := k |>.getS (fl_44 hw) G.S_CS D9_0 |>.ifNo D9_3 ((if0 _ _).trans (feq G.h_CS).1) |>.aloadN D9_6 rfl rfl |>.getF (fl_29 hw) pr1 1 D9_7 rfl rfl |>.goto D9_10
  exact k.retN (t := .byte) D9_14 rfl (by simp) (z' := 1) (by decide) ⟨rfl, rfl⟩
theorem R_len1 {a1 a2 : Addr} {c0 : Int32} (hw : HW a0 Z) (G : Gl Z w_CS w_SF) (S : Str Z h0 a1 a2 [c0]) : Mt false [] l Y8 C8 (rmk 1 0 0 13) #[.ref a1] Z a0 h0 n0 (Pv h0 (.int 1)) := by
  refine Mt.go PN8 (Or.inl rfl) ef_R_1 fun k => ?_
  obtain ⟨⟨⟨g0a, g0b⟩, -⟩, S⟩ := S
  rcases S with ⟨T, O, A, hl⟩ | ⟨O, A, -⟩
  · obtain ⟨l0, -⟩ := hl
    have A : Ary Z h0 a2 (T, .byte) 1 (bv (lvi [(c0.toInt8.toInt32)])) := A
    replace k := k |>.aloadN D8_0 rfl rfl |>.getF (fl_28 hw) O 0 D8_1 rfl rfl |>.alen A D8_4 (z := 1) (by decide) |>.aloadN D8_5 rfl rfl
    replace k := (k.callV (w_39 hw) (V_Y9_9_String hw) O.exa (R_9_1 hw G O) D8_6 1 rfl).pv
    replace k := k |>.ishr D8_9 (z := 1)
    exact k.retI D8_10 rfl ⟨rfl, rfl⟩
  · have A : Ary Z h0 a2 ATB 2 (bv (lvi [(lo8 c0), (hi8 c0)])) := A
    replace k := k |>.aloadN D8_0 rfl rfl |>.getF (fl_28 hw) O 0 D8_1 rfl rfl |>.alen A D8_4 (z := 2) (by decide) |>.aloadN D8_5 rfl rfl
    replace k := (k.callV (w_39 hw) (V_Y9_9_String hw) O.exa (R_9_2 hw G O) D8_6 1 rfl).pv
    replace k := k |>.ishr D8_9 (z := 1)
    exact k.retI D8_10 rfl ⟨rfl, rfl⟩
theorem D7_12 : Dc J7 12 (.aload_n 0) 1 13 := by decide +kernel
theorem D7_13 : Dc J7 13 (.iload_n 1) 1 14 := by decide +kernel
theorem D7_14 : Dc J7 14 (.invokevirtual 106) 3 17 := by decide +kernel
abbrev Y22 : MethodName := ⟨"java/lang/String", "charAt", "(I)C"⟩
abbrev J22 := jdk_42_method_56_code
abbrev C22 : Cond := .code Y22 J22 2 (some .char)
theorem D22_0 : Dc J22 0 (.aload_n 0) 1 1 := by decide +kernel
theorem D22_1 : Dc J22 1 (.invokevirtual 492) 3 4 := by decide +kernel
abbrev Y23 : MethodName := ⟨"java/lang/String", "isLatin1", "()Z"⟩
abbrev J23 := jdk_42_method_154_code
abbrev C23 : Cond := .code Y23 J23 1 (some .boolean)
theorem D23_0 : Dc J23 0 (.getstatic 38) 3 3 := by decide +kernel
theorem D23_3 : Dj J23 3 (.ifCond .eq 14) 14 6 17 := by decide +kernel
theorem D23_6 : Dc J23 6 (.aload_n 0) 1 7 := by decide +kernel
theorem D23_7 : Dc J23 7 (.getfield 15) 3 10 := by decide +kernel
theorem D23_10 : Dj J23 10 (.ifCond .ne 7) 7 13 17 := by decide +kernel
theorem D23_13 : Dc J23 13 (.iconst 1) 1 14 := by decide +kernel
theorem D23_14 : Dj J23 14 (.goto 4) 4 17 18 := by decide +kernel
theorem D23_18 : Dc J23 18 .ireturn 1 19 := by decide +kernel
theorem PN23 : plainFor Y23 = true := plainFor_of_name pn_String
theorem R_23_1 {a1 a2 : Addr} (hw : HW a0 Z) (G : Gl Z w_CS w_SF) (pr1 : Obj Z h0 a1 litL [.ref a2, .int 0]) : Mt false [] l Y23 C23 (rmk 0 0 0 0) #[.ref a1] Z a0 h0 n0 (Pv h0 (.int 1)) := by
  refine Mt.go PN23 (Or.inl rfl) ef_R_1 fun k => ?_
  replace k := k |>.getS (fl_44 hw) G.S_CS D23_0 |>.ifNo D23_3 ((if0 _ _).trans (feq G.h_CS).1) |>.aloadN D23_6 rfl rfl |>.getF (fl_29 hw) pr1 1 D23_7 rfl rfl |>.ifNo D23_10  |>.iconst D23_13 1 |>.goto D23_14
  exact k.retN (t := .boolean) D23_18 rfl (by simp) (z' := 1) (by decide) ⟨rfl, rfl⟩
abbrev w_78 (hw : HW a0 Z) := hw.at 78 rfl
abbrev w_82 (hw : HW a0 Z) := hw.at 82 rfl
theorem pd__r_Z : parseMethodDescriptor "()Z" = some ⟨[], some .boolean⟩ := by decide +kernel
abbrev w_81 (hw : HW a0 Z) := hw.at 81 rfl
abbrev w_80 (hw : HW a0 Z) := hw.at 80 rfl
abbrev w_79 (hw : HW a0 Z) := hw.at 79 rfl
theorem V_Y23_23_String (hw : HW a0 Z) : VC Z a0 Y23 Y23 "java/lang/String" C23 1 (some .boolean) 0 := ⟨(w_79 hw), fun s hZ => notFace_of_selects (args := #[]) (mvT hZ (w_81 hw)), (w_81 hw), (w_80 hw), by decide, rfl, ⟨⟨_, Or.inl rfl⟩, (w_82 hw), (w_8 hw), by decide, _, _, pd__r_Z, rfl⟩⟩
theorem D22_4 : Dj J22 4 (.ifCond .eq 12) 12 7 16 := by decide +kernel
theorem D22_7 : Dc J22 7 (.aload_n 0) 1 8 := by decide +kernel
theorem D22_8 : Dc J22 8 (.getfield 9) 3 11 := by decide +kernel
theorem D22_11 : Dc J22 11 (.iload_n 1) 1 12 := by decide +kernel
theorem D22_12 : Dc J22 12 (.invokestatic 495) 3 15 := by decide +kernel
abbrev Y24 : MethodName := ⟨"java/lang/StringLatin1", "charAt", "([BI)C"⟩
abbrev J24 := jdk_43_method_2_code
abbrev C24 : Cond := .code Y24 J24 2 (some .char)
theorem D24_0 : Dc J24 0 (.iload_n 1) 1 1 := by decide +kernel
theorem D24_1 : Dc J24 1 (.aload_n 0) 1 2 := by decide +kernel
theorem D24_2 : Dc J24 2 .arraylength 1 3 := by decide +kernel
theorem D24_3 : Dc J24 3 (.invokestatic 9) 3 6 := by decide +kernel
abbrev Y25 : MethodName := ⟨"java/lang/String", "checkIndex", "(II)V"⟩
abbrev J25 := jdk_42_method_155_code
abbrev C25 : Cond := .code Y25 J25 2 none
theorem D25_0 : Dc J25 0 (.iload_n 0) 1 1 := by decide +kernel
theorem D25_1 : Dc J25 1 (.iload_n 1) 1 2 := by decide +kernel
theorem D25_2 : Dc J25 2 (.getstatic 1053) 3 5 := by decide +kernel
theorem D25_5 : Dc J25 5 (.invokestatic 1059) 3 8 := by decide +kernel
abbrev Y26 : MethodName := ⟨"jdk/internal/util/Preconditions", "checkIndex", "(IILjava/util/function/BiFunction;)I"⟩
abbrev J26 := jdk_41_method_11_code
abbrev C26 : Cond := .code Y26 J26 3 (some .int)
theorem D26_0 : Dc J26 0 (.iload_n 0) 1 1 := by decide +kernel
theorem D26_1 : Dj J26 1 (.ifCond .lt 8) 8 4 9 := by decide +kernel
theorem D26_4 : Dc J26 4 (.iload_n 0) 1 5 := by decide +kernel
theorem D26_5 : Dc J26 5 (.iload_n 1) 1 6 := by decide +kernel
theorem D26_6 : Dj J26 6 (.if_icmp .lt 10) 10 9 16 := by decide +kernel
theorem D26_16 : Dc J26 16 (.iload_n 0) 1 17 := by decide +kernel
theorem D26_17 : Dc J26 17 .ireturn 1 18 := by decide +kernel
theorem PN26 : plainFor Y26 = true := plainFor_of_name pn_Preconditions
theorem ef_IIV_3 {x0 : Int32} {x1 : Int32} {x2 : Value} (r2 : x2.isRef = true) (m : MethodId) : entryFrame m #[(.int x0), (.int x1), x2] 3 = mkF m 0 #[.val (.int x0), .val (.int x1), .val x2] [] := by
  rcases ref_cases r2 with rfl | ⟨_, rfl⟩
  all_goals
  first | (simp [entryFrame, mkF, argsToLocals, Value.category]; done) | rfl
theorem R_26_1 {p1 p2 : Int32} (hw : HW a0 Z) (G : Gl Z w_CS w_SF) (pr1 : ¬ (p1 < 0)) (pr2 : p1 < p2) : Mt false [] l Y26 C26 (rmk 0 0 0 0) #[.int p1, .int p2, w_SF] Z a0 h0 n0 (Pv h0 (.int p1)) := by
  refine Mt.go PN26 (Or.inl rfl) (ef_IIV_3 G.r_SF) fun k => ?_
  replace k := k |>.iloadN D26_0 rfl |>.ifNo D26_1 ((if0 _ _).trans (flt pr1).1) |>.iloadN D26_4 rfl |>.iloadN D26_5 rfl |>.icmpYes D26_6 (tlt pr2).1 |>.iloadN D26_16 rfl
  exact k.retI D26_17 rfl ⟨rfl, rfl⟩
abbrev w_90 (hw : HW a0 Z) := hw.at 90 rfl
abbrev w_92 (hw : HW a0 Z) := hw.at 92 rfl
theorem pd_IILjava_util_function_BiFunction_r_I : parseMethodDescriptor "(IILjava/util/function/BiFunction;)I" = some ⟨[.int, .int, (.object "java/util/function/BiFunction")], some .int⟩ := by decide +kernel
abbrev w_91 (hw : HW a0 Z) := hw.at 91 rfl
theorem S26 (hw : HW a0 Z) : SC Z a0 Y26 C26 3 (some .int) 3 := ⟨(w_91 hw), ⟨⟨_, Or.inl rfl⟩, (w_92 hw), (w_55 hw), by decide, _, _, pd_IILjava_util_function_BiFunction_r_I, rfl⟩⟩
theorem D25_8 : Dc J25 8 .pop 1 9 := by decide +kernel
theorem D25_9 : Dc J25 9 .return_ 1 10 := by decide +kernel
theorem PN25 : plainFor Y25 = true := plainFor_of_name pn_String
theorem ef_II_2 {x0 : Int32} {x1 : Int32}  (m : MethodId) : entryFrame m #[(.int x0), (.int x1)] 2 = mkF m 0 #[.val (.int x0), .val (.int x1)] [] := by
  first | (simp [entryFrame, mkF, argsToLocals, Value.category]; done) | rfl
theorem R_25_1 {p1 p2 : Int32} (hw : HW a0 Z) (G : Gl Z w_CS w_SF) (pr1 : ¬ (p1 < 0)) (pr2 : p1 < p2) : Mt false [] l Y25 C25 (rmk 1 0 0 14) #[.int p1, .int p2] Z a0 h0 n0 (P0 h0) := by
  refine Mt.go PN25 (Or.inl rfl) ef_II_2 fun k => ?_
  replace k := k |>.iloadN D25_0 rfl |>.iloadN D25_1 rfl |>.getS (fl_54 hw) G.S_SF D25_2
  replace k := (k.callS (w_90 hw) (S26 hw) (R_26_1 hw G pr1 pr2) D25_5 0 rfl).pv
  replace k := k |>.pop D25_8 rfl
  exact k.ret0 D25_9 rfl ⟨rfl, rfl⟩
abbrev w_87 (hw : HW a0 Z) := hw.at 87 rfl
abbrev w_89 (hw : HW a0 Z) := hw.at 89 rfl
theorem pd_II_r_V : parseMethodDescriptor "(II)V" = some ⟨[.int, .int], none⟩ := by decide +kernel
abbrev w_88 (hw : HW a0 Z) := hw.at 88 rfl
theorem S25 (hw : HW a0 Z) : SC Z a0 Y25 C25 2 none 2 := ⟨(w_88 hw), ⟨⟨_, Or.inl rfl⟩, (w_89 hw), (w_8 hw), by decide, _, _, pd_II_r_V, rfl⟩⟩
theorem D24_6 : Dc J24 6 (.aload_n 0) 1 7 := by decide +kernel
theorem D24_7 : Dc J24 7 (.iload_n 1) 1 8 := by decide +kernel
theorem D24_8 : Dc J24 8 .baload 1 9 := by decide +kernel
theorem D24_9 : Dc J24 9 (.sipush 255) 3 12 := by decide +kernel
theorem D24_12 : Dc J24 12 .iand 1 13 := by decide +kernel
theorem D24_13 : Dc J24 13 .i2c 1 14 := by decide +kernel
theorem D24_14 : Dc J24 14 .ireturn 1 15 := by decide +kernel
theorem pn_StringLatin1 : plainName "java/lang/StringLatin1" = true := by first | (simp [plainName, overriddenIn]; done) | decide +kernel
theorem PN24 : plainFor Y24 = true := plainFor_of_name pn_StringLatin1
theorem R_24_1 {a1 : Addr} {p2 p3 : Int32} {f4 : Nat → Int32} (hw : HW a0 Z) (G : Gl Z w_CS w_SF) (pr1 : Ary Z h0 a1 (T, .byte) p3.toNatClampNeg (bv f4)) (pr2 : ¬ (p3 < 0)) (pr3 : ¬ (p2 < 0)) (pr4 : p2 < p3) : Mt false [] l Y24 C24 (rmk 2 0 0 27) #[.ref a1, .int p2] Z a0 h0 n0 (Pv h0 (.int (latc (f4 p2.toNatClampNeg)))) := by
  refine Mt.go PN24 (Or.inl rfl) ef_RI_2 fun k => ?_
  replace k := k |>.iloadN D24_0 rfl |>.aloadN D24_1 rfl rfl |>.alen pr1 D24_2 (lenS pr2)
  replace k := (k.callS (w_87 hw) (S25 hw) (R_25_1 hw G pr3 pr4) D24_3 0 rfl).p0
  replace k := k |>.aloadN D24_6 rfl rfl |>.iloadN D24_7 rfl |>.bald pr1 D24_8 (i := p2.toNatClampNeg) (ixS pr3 pr4 rfl) bv_at |>.sipush D24_9 255 |>.iand D24_12 rfl |>.i2c D24_13 rfl
  exact k.retN (t := .char) D24_14 rfl (by simp) (own_nnCi2c _) ⟨rfl, rfl⟩
abbrev w_83 (hw : HW a0 Z) := hw.at 83 rfl
abbrev w_86 (hw : HW a0 Z) := hw.at 86 rfl
abbrev w_85 (hw : HW a0 Z) := hw.at 85 rfl
abbrev w_84 (hw : HW a0 Z) := hw.at 84 rfl
theorem S24 (hw : HW a0 Z) : SC Z a0 Y24 C24 2 (some .char) 2 := ⟨(w_84 hw), ⟨⟨_, Or.inl rfl⟩, (w_86 hw), (w_85 hw), by decide, _, _, pd_ABI_r_C, rfl⟩⟩
theorem D22_15 : Dc J22 15 .ireturn 1 16 := by decide +kernel
theorem own_d9 {c0 v0 : Int32} (e0 : v0 = (latc (c0.toInt8.toInt32))) (q0 : ¬ (c0 < 0)) (q1 : c0 < 65536) (q2 : ¬ (255 < c0)) : v0 = c0 := by
  have := rng32 c0
  have : (0 : Int32).toInt = 0 := by decide
  have := i_nlt q0
  have : (65536 : Int32).toInt = 65536 := by decide
  have := i_lt q1
  have : (255 : Int32).toInt = 255 := by decide
  have := i_nlt q2
  have := e_lat e0 (by omega) (by omega)
  exact o_eq (by omega)
theorem D23_17 : Dc J23 17 (.iconst 0) 1 18 := by decide +kernel
theorem R_23_2 {a1 a2 : Addr} (hw : HW a0 Z) (G : Gl Z w_CS w_SF) (pr1 : Obj Z h0 a1 litL [.ref a2, .int 1]) : Mt false [] l Y23 C23 (rmk 0 0 0 0) #[.ref a1] Z a0 h0 n0 (Pv h0 (.int 0)) := by
  refine Mt.go PN23 (Or.inl rfl) ef_R_1 fun k => ?_
  replace k := k |>.getS (fl_44 hw) G.S_CS D23_0 |>.ifNo D23_3 ((if0 _ _).trans (feq G.h_CS).1) |>.aloadN D23_6 rfl rfl |>.getF (fl_29 hw) pr1 1 D23_7 rfl rfl |>.ifYes D23_10  |>.iconst D23_17 0
  exact k.retN (t := .boolean) D23_18 rfl (by simp) (z' := 0) (by decide) ⟨rfl, rfl⟩
theorem D22_16 : Dc J22 16 (.aload_n 0) 1 17 := by decide +kernel
theorem D22_17 : Dc J22 17 (.getfield 9) 3 20 := by decide +kernel
theorem D22_20 : Dc J22 20 (.iload_n 1) 1 21 := by decide +kernel
theorem D22_21 : Dc J22 21 (.invokestatic 498) 3 24 := by decide +kernel
abbrev Y27 : MethodName := ⟨"java/lang/StringUTF16", "charAt", "([BI)C"⟩
abbrev J27 := jdk_52_method_83_code
abbrev C27 : Cond := .code Y27 J27 2 (some .char)
theorem D27_0 : Dc J27 0 (.iload_n 1) 1 1 := by decide +kernel
theorem D27_1 : Dc J27 1 (.aload_n 0) 1 2 := by decide +kernel
theorem D27_2 : Dc J27 2 (.invokestatic 67) 3 5 := by decide +kernel
abbrev Y28 : MethodName := ⟨"java/lang/StringUTF16", "checkIndex", "(I[B)V"⟩
abbrev J28 := jdk_52_method_91_code
abbrev C28 : Cond := .code Y28 J28 2 none
theorem D28_0 : Dc J28 0 (.iload_n 0) 1 1 := by decide +kernel
theorem D28_1 : Dc J28 1 (.aload_n 1) 1 2 := by decide +kernel
theorem D28_2 : Dc J28 2 (.invokestatic 48) 3 5 := by decide +kernel
abbrev Y29 : MethodName := ⟨"java/lang/StringUTF16", "length", "([B)I"⟩
abbrev J29 := jdk_52_method_6_code
abbrev C29 : Cond := .code Y29 J29 1 (some .int)
theorem D29_0 : Dc J29 0 (.aload_n 0) 1 1 := by decide +kernel
theorem D29_1 : Dc J29 1 .arraylength 1 2 := by decide +kernel
theorem D29_2 : Dc J29 2 (.iconst 1) 1 3 := by decide +kernel
theorem D29_3 : Dc J29 3 .ishr 1 4 := by decide +kernel
theorem D29_4 : Dc J29 4 .ireturn 1 5 := by decide +kernel
theorem PN29 : plainFor Y29 = true := plainFor_of_name pn_StringUTF16
theorem R_29_1 {a1 : Addr} {p2 : Int32} {f3 : Nat → Int32} (hw : HW a0 Z) (G : Gl Z w_CS w_SF) (pr1 : Ary Z h0 a1 ATB p2.toNatClampNeg (bv f3)) (pr2 : ¬ (p2 < 0)) : Mt false [] l Y29 C29 (rmk 0 0 0 0) #[.ref a1] Z a0 h0 n0 (Pv h0 (.int (p2 >>> ((1 : Int32) &&& 31)))) := by
  refine Mt.go PN29 (Or.inl rfl) ef_R_1 fun k => ?_
  replace k := k |>.aloadN D29_0 rfl rfl |>.alen pr1 D29_1 (lenS pr2) |>.iconst D29_2 1 |>.ishr D29_3 rfl
  exact k.retI D29_4 rfl ⟨rfl, rfl⟩
abbrev w_129 (hw : HW a0 Z) := hw.at 129 rfl
abbrev w_131 (hw : HW a0 Z) := hw.at 131 rfl
theorem pd_AB_r_I : parseMethodDescriptor "([B)I" = some ⟨[(.array .byte)], some .int⟩ := by decide +kernel
abbrev w_130 (hw : HW a0 Z) := hw.at 130 rfl
theorem S29 (hw : HW a0 Z) : SC Z a0 Y29 C29 1 (some .int) 1 := ⟨(w_130 hw), ⟨⟨_, Or.inl rfl⟩, (w_131 hw), (w_65 hw), by decide, _, _, pd_AB_r_I, rfl⟩⟩
theorem D28_5 : Dc J28 5 (.invokestatic 414) 3 8 := by decide +kernel
abbrev w_132 (hw : HW a0 Z) := hw.at 132 rfl
theorem D28_8 : Dc J28 8 .return_ 1 9 := by decide +kernel
theorem PN28 : plainFor Y28 = true := plainFor_of_name pn_StringUTF16
theorem ef_IR_2 {x0 : Int32} {x1 : Addr}  (m : MethodId) : entryFrame m #[(.int x0), (.ref x1)] 2 = mkF m 0 #[.val (.int x0), .val (.ref x1)] [] := by
  first | (simp [entryFrame, mkF, argsToLocals, Value.category]; done) | rfl
theorem R_28_1 {p1 p3 : Int32} {a2 : Addr} {f4 : Nat → Int32} (hw : HW a0 Z) (G : Gl Z w_CS w_SF) (pr1 : Ary Z h0 a2 ATB p3.toNatClampNeg (bv f4)) (pr2 : ¬ (p3 < 0)) (pr3 : ¬ (p1 < 0)) (pr4 : p1 < (p3 >>> ((1 : Int32) &&& 31))) : Mt false [] l Y28 C28 (rmk 2 0 0 27) #[.int p1, .ref a2] Z a0 h0 n0 (P0 h0) := by
  refine Mt.go PN28 (Or.inl rfl) ef_IR_2 fun k => ?_
  replace k := k |>.iloadN D28_0 rfl |>.aloadN D28_1 rfl rfl
  replace k := (k.callS (w_129 hw) (S29 hw) (R_29_1 hw G pr1 pr2) D28_2 1 rfl).pv
  replace k := k |>.top (y := (p3 >>> ((1 : Int32) &&& 31))) rfl
  replace k := (k.callS (w_132 hw) (S25 hw) (R_25_1 hw G pr3 pr4) D28_5 0 rfl).p0
  exact k.ret0 D28_8 rfl ⟨rfl, rfl⟩
abbrev w_126 (hw : HW a0 Z) := hw.at 126 rfl
abbrev w_128 (hw : HW a0 Z) := hw.at 128 rfl
theorem pd_IAB_r_V : parseMethodDescriptor "(I[B)V" = some ⟨[.int, (.array .byte)], none⟩ := by decide +kernel
abbrev w_127 (hw : HW a0 Z) := hw.at 127 rfl
theorem S28 (hw : HW a0 Z) : SC Z a0 Y28 C28 2 none 2 := ⟨(w_127 hw), ⟨⟨_, Or.inl rfl⟩, (w_128 hw), (w_65 hw), by decide, _, _, pd_IAB_r_V, rfl⟩⟩
theorem D27_5 : Dc J27 5 (.aload_n 0) 1 6 := by decide +kernel
theorem D27_6 : Dc J27 6 (.iload_n 1) 1 7 := by decide +kernel
theorem D27_7 : Dc J27 7 (.invokestatic 71) 3 10 := by decide +kernel
theorem D27_10 : Dc J27 10 .ireturn 1 11 := by decide +kernel
theorem PN27 : plainFor Y27 = true := plainFor_of_name pn_StringUTF16
theorem R_27_1 {a1 : Addr} {p2 p3 : Int32} {f4 : Nat → Int32} (hw : HW a0 Z) (G : Gl Z w_CS w_SF) (pr1 : Ary Z h0 a1 ATB p3.toNatClampNeg (bv f4)) (pr2 : ¬ (p3 < 0)) (pr3 : ¬ (p2 < 0)) (pr4 : p2 < (p3 >>> ((1 : Int32) &&& 31))) (pr5 : ¬ ((p2 <<< ((1 : Int32) &&& 31)) < 0)) (pr6 : (p2 <<< ((1 : Int32) &&& 31)) < p3) (pr7 : ¬ (((p2 <<< ((1 : Int32) &&& 31)) + 1) < 0)) (pr8 : ((p2 <<< ((1 : Int32) &&& 31)) + 1) < p3) : Mt false [] l Y27 C27 (rmk 3 0 0 40) #[.ref a1, .int p2] Z a0 h0 n0 (Pv h0 (.int (gcv (f4 (p2 <<< ((1 : Int32) &&& 31)).toNatClampNeg) (f4 ((p2 <<< ((1 : Int32) &&& 31)) + 1).toNatClampNeg)))) := by
  refine Mt.go PN27 (Or.inl rfl) ef_RI_2 fun k => ?_
  replace k := k |>.iloadN D27_0 rfl |>.aloadN D27_1 rfl rfl
  replace k := (k.callS (w_126 hw) (S28 hw) (R_28_1 hw G pr1 pr2 pr3 pr4) D27_2 0 rfl).p0
  replace k := k |>.aloadN D27_5 rfl rfl |>.iloadN D27_6 rfl
  replace k := (k.callS (w_120 hw) (S20 hw) (R_20_1 hw G pr1 pr5 pr6 pr7 pr8) D27_7 0 rfl).pv
  replace k := k |>.top (y := (gcv (f4 (p2 <<< ((1 : Int32) &&& 31)).toNatClampNeg) (f4 ((p2 <<< ((1 : Int32) &&& 31)) + 1).toNatClampNeg))) rfl
  exact k.retN (t := .char) D27_10 rfl (by simp) (own_nnCi2c _) ⟨rfl, rfl⟩
abbrev w_123 (hw : HW a0 Z) := hw.at 123 rfl
abbrev w_125 (hw : HW a0 Z) := hw.at 125 rfl
abbrev w_124 (hw : HW a0 Z) := hw.at 124 rfl
theorem S27 (hw : HW a0 Z) : SC Z a0 Y27 C27 2 (some .char) 2 := ⟨(w_124 hw), ⟨⟨_, Or.inl rfl⟩, (w_125 hw), (w_65 hw), by decide, _, _, pd_ABI_r_C, rfl⟩⟩
theorem D22_24 : Dc J22 24 .ireturn 1 25 := by decide +kernel
theorem own_d10 {c0 v0 : Int32} (e0 : v0 = (gcv (lo8 c0) (hi8 c0))) (q0 : ¬ (c0 < 0)) (q1 : c0 < 65536) : v0 = c0 := by
  have := rng32 c0
  have : (0 : Int32).toInt = 0 := by decide
  have := i_nlt q0
  have : (65536 : Int32).toInt = 65536 := by decide
  have := i_lt q1
  have := e_gc e0 (by omega) (by omega)
  exact o_eq (by omega)
theorem PN22 : plainFor Y22 = true := plainFor_of_name pn_String
theorem R_chr1_0 {a1 a2 : Addr} {c0 : Int32} (hw : HW a0 Z) (G : Gl Z w_CS w_SF) (S : Str Z h0 a1 a2 [c0]) : Mt false [] l Y22 C22 (rmk 4 0 0 53) #[.ref a1, .int 0] Z a0 h0 n0 (Pv h0 (.int c0)) := by
  refine Mt.go PN22 (Or.inl rfl) ef_RI_2 fun k => ?_
  obtain ⟨⟨⟨g0a, g0b⟩, -⟩, S⟩ := S
  rcases S with ⟨T, O, A, hl⟩ | ⟨O, A, -⟩
  · obtain ⟨l0, -⟩ := hl
    have A : Ary Z h0 a2 (T, .byte) 1 (bv (lvi [(c0.toInt8.toInt32)])) := A
    replace k := k |>.aloadN D22_0 rfl rfl
    replace k := (k.callV (w_78 hw) (V_Y23_23_String hw) O.exa (R_23_1 hw G O) D22_1 0 rfl).pv
    replace k := k |>.ifNo D22_4  |>.aloadN D22_7 rfl rfl |>.getF (fl_28 hw) O 0 D22_8 rfl rfl |>.iloadN D22_11 rfl
    replace k := (k.callS (w_83 hw) (S24 hw) (R_24_1 hw G A (by decide) (by decide) (by decide) (p2 := 0) (p3 := 1)) D22_12 0 rfl).pv
    replace k := k |>.top (y := (latc (c0.toInt8.toInt32))) rfl
    exact k.retN (t := .char) D22_15 rfl (by simp) (own_nnCi2c _) ⟨congrArg some (congrArg Value.int (own_d9 rfl g0a g0b l0)), rfl⟩
  · have A : Ary Z h0 a2 ATB 2 (bv (lvi [(lo8 c0), (hi8 c0)])) := A
    replace k := k |>.aloadN D22_0 rfl rfl
    replace k := (k.callV (w_78 hw) (V_Y23_23_String hw) O.exa (R_23_2 hw G O) D22_1 0 rfl).pv
    replace k := k |>.ifYes D22_4  |>.aloadN D22_16 rfl rfl |>.getF (fl_28 hw) O 0 D22_17 rfl rfl |>.iloadN D22_20 rfl
    replace k := (k.callS (w_123 hw) (S27 hw) (R_27_1 hw G A (by decide) (by decide) (by decide) (by decide) (by decide) (by decide) (by decide) (p2 := 0) (p3 := 2)) D22_21 0 rfl).pv
    replace k := k |>.top (y := (gcv (lo8 c0) (hi8 c0))) rfl
    exact k.retN (t := .char) D22_24 rfl (by simp) (own_nnCi2c _) ⟨congrArg some (congrArg Value.int (own_d10 rfl g0a g0b)), rfl⟩
abbrev w_77 (hw : HW a0 Z) := hw.at 77 rfl
abbrev w_76 (hw : HW a0 Z) := hw.at 76 rfl
abbrev w_75 (hw : HW a0 Z) := hw.at 75 rfl
abbrev w_74 (hw : HW a0 Z) := hw.at 74 rfl
theorem V_Y22_22_String (hw : HW a0 Z) : VC Z a0 Y22 Y22 "java/lang/String" C22 2 (some .char) 1 := ⟨(w_74 hw), fun s hZ => notFace_of_selects (args := #[]) (mvT hZ (w_76 hw)), (w_76 hw), (w_75 hw), by decide, rfl, ⟨⟨_, Or.inl rfl⟩, (w_77 hw), (w_8 hw), by decide, _, _, pd_I_r_C, rfl⟩⟩
abbrev w_73 (hw : HW a0 Z) := hw.at 73 rfl
theorem D7_17 : Dc J7 17 (.invokestatic 110) 3 20 := by decide +kernel
abbrev w_93 (hw : HW a0 Z) := hw.at 93 rfl
abbrev w_95 (hw : HW a0 Z) := hw.at 95 rfl
theorem pd_C_r_Z : parseMethodDescriptor "(C)Z" = some ⟨[.char], some .boolean⟩ := by decide +kernel
abbrev w_94 (hw : HW a0 Z) := hw.at 94 rfl
theorem S2 (hw : HW a0 Z) : SC Z a0 Y2 C2 1 (some .boolean) 1 := ⟨(w_94 hw), ⟨⟨_, Or.inl rfl⟩, (w_95 hw), (w_32 hw), by decide, _, _, pd_C_r_Z, rfl⟩⟩
theorem D7_20 : Dj J7 20 (.ifCond .eq 9) 9 23 29 := by decide +kernel
theorem D7_34 : Dc J7 34 (.aload_n 0) 1 35 := by decide +kernel
theorem D7_35 : Dc J7 35 (.iload_n 2) 1 36 := by decide +kernel
theorem D7_36 : Dc J7 36 (.iconst 1) 1 37 := by decide +kernel
theorem D7_37 : Dc J7 37 .isub 1 38 := by decide +kernel
theorem D7_38 : Dc J7 38 (.invokevirtual 106) 3 41 := by decide +kernel
theorem D7_41 : Dc J7 41 (.invokestatic 110) 3 44 := by decide +kernel
theorem D7_44 : Dj J7 44 (.ifCond .eq 9) 9 47 53 := by decide +kernel
theorem R_8_2 {a1 a2 : Addr} {p3 : Int32} (hw : HW a0 Z) (G : Gl Z w_CS w_SF) (pr1 : Obj Z h0 a1 litL [.ref a2, .int 0]) (pr2 : Ary Z h0 a2 (T, .byte) 1 (bv (lvi [p3]))) : Mt false [] l Y8 C8 (rmk 1 0 0 13) #[.ref a1] Z a0 h0 n0 (Pv h0 (.int 1)) := by
  refine Mt.go PN8 (Or.inl rfl) ef_R_1 fun k => ?_
  replace k := k |>.aloadN D8_0 rfl rfl |>.getF (fl_28 hw) pr1 0 D8_1 rfl rfl |>.alen pr2 D8_4 (z := 1) (by decide) |>.aloadN D8_5 rfl rfl
  replace k := (k.callV (w_39 hw) (V_Y9_9_String hw) pr1.exa (R_9_1 hw G pr1) D8_6 1 rfl).pv
  replace k := k |>.ishr D8_9 (z := 1)
  exact k.retI D8_10 rfl ⟨rfl, rfl⟩
theorem R_8_3 {a1 a2 : Addr} {p3 p4 : Int32} (hw : HW a0 Z) (G : Gl Z w_CS w_SF) (pr1 : Obj Z h0 a1 litL [.ref a2, .int 1]) (pr2 : Ary Z h0 a2 ATB 2 (bv (lvi [p3, p4]))) : Mt false [] l Y8 C8 (rmk 1 0 0 13) #[.ref a1] Z a0 h0 n0 (Pv h0 (.int 1)) := by
  refine Mt.go PN8 (Or.inl rfl) ef_R_1 fun k => ?_
  replace k := k |>.aloadN D8_0 rfl rfl |>.getF (fl_28 hw) pr1 0 D8_1 rfl rfl |>.alen pr2 D8_4 (z := 2) (by decide) |>.aloadN D8_5 rfl rfl
  replace k := (k.callV (w_39 hw) (V_Y9_9_String hw) pr1.exa (R_9_2 hw G pr1) D8_6 1 rfl).pv
  replace k := k |>.ishr D8_9 (z := 1)
  exact k.retI D8_10 rfl ⟨rfl, rfl⟩
theorem R_sub1_0_1 {a1 a2 : Addr} {c0 : Int32} (hw : HW a0 Z) (G : Gl Z w_CS w_SF) (S : Str Z h0 a1 a2 [c0]) : Mt false [] l Y10 C10 (rmk 2 0 0 29) #[.ref a1, .int 0, .int 1] Z a0 h0 n0 (KpV h0 [] fun v h => ∃ u w : Addr, v = .ref u ∧ Str Z h u w [c0]) := by
  refine Mt.go PN10 (Or.inl rfl) ef_RII_5 fun k => ?_
  have S0 := S
  obtain ⟨⟨⟨g0a, g0b⟩, -⟩, S⟩ := S
  rcases S with ⟨T, O, A, hl⟩ | ⟨O, A, -⟩
  · obtain ⟨l0, -⟩ := hl
    have A : Ary Z h0 a2 (T, .byte) 1 (bv (lvi [(c0.toInt8.toInt32)])) := A
    replace k := k |>.aloadN D10_0 rfl rfl
    replace k := (k.callV (w_50 hw) (V_Y8_8_String hw) O.exa (R_8_2 hw G O A) D10_1 0 rfl).pv
    replace k := k |>.istoreN D10_4 sto3 |>.iloadN D10_5 rfl |>.iloadN D10_6 rfl |>.iloadN D10_7 rfl
    replace k := (k.callS (w_51 hw) (S11 hw) (R_11_1 hw G (by decide) (by decide) (by decide) (p1 := 0) (p2 := 1) (p3 := 1)) D10_8 0 rfl).p0
    replace k := k |>.iloadN D10_11 rfl |>.ifNo D10_12  |>.iloadN D10_15 rfl |>.iloadN D10_16 rfl |>.icmpNo D10_17  |>.aloadN D10_20 rfl rfl
    exact k.retA D10_21 rfl ⟨_, rfl, (Keep.refl h0 []), a1, a2, rfl, S0⟩
  · have A : Ary Z h0 a2 ATB 2 (bv (lvi [(lo8 c0), (hi8 c0)])) := A
    replace k := k |>.aloadN D10_0 rfl rfl
    replace k := (k.callV (w_50 hw) (V_Y8_8_String hw) O.exa (R_8_3 hw G O A) D10_1 0 rfl).pv
    replace k := k |>.istoreN D10_4 sto3 |>.iloadN D10_5 rfl |>.iloadN D10_6 rfl |>.iloadN D10_7 rfl
    replace k := (k.callS (w_51 hw) (S11 hw) (R_11_1 hw G (by decide) (by decide) (by decide) (p1 := 0) (p2 := 1) (p3 := 1)) D10_8 0 rfl).p0
    replace k := k |>.iloadN D10_11 rfl |>.ifNo D10_12  |>.iloadN D10_15 rfl |>.iloadN D10_16 rfl |>.icmpNo D10_17  |>.aloadN D10_20 rfl rfl
    exact k.retA D10_21 rfl ⟨_, rfl, (Keep.refl h0 []), a1, a2, rfl, S0⟩
theorem R_7_3 {a1 a2 : Addr} {p3 : Int32} (hw : HW a0 Z) (G : Gl Z w_CS w_SF) (pr1 : Str Z h0 a1 a2 [p3]) (pr2 : (bl p3) = 0) : Mt false [] l Y7 C7 (rmk 5 0 0 66) #[.ref a1] Z a0 h0 n0 (KpV h0 [] fun v h => ∃ u1 u2 : Addr, v = (.ref u1) ∧ Str Z h u1 u2 [p3]) := by
  refine Mt.go PN7 (Or.inl rfl) ef_R_3 fun k => ?_
  replace k := k |>.iconst D7_0 0 |>.istoreN D7_1 sto1 |>.aloadN D7_2 rfl rfl
  replace k := (k.callV (w_34 hw) (V_Y8_8_String hw) pr1.exa (R_len1 hw G pr1) D7_3 0 rfl).pv
  replace k := k |>.istoreN D7_6 sto2 |>.iloadN D7_7 rfl |>.iloadN D7_8 rfl |>.icmpNo D7_9  |>.aloadN D7_12 rfl rfl |>.iloadN D7_13 rfl
  replace k := (k.callV (w_73 hw) (V_Y22_22_String hw) pr1.exa (R_chr1_0 hw G pr1) D7_14 0 rfl).pv
  replace k := (k.callS (w_93 hw) (S2 hw) (R_own_isBlank hw G) D7_17 0 rfl).pv
  replace k := k |>.ifYes D7_20 ((if0 _ _).trans (teq pr2).1) |>.iloadN D7_29 rfl |>.iloadN D7_30 rfl |>.icmpNo D7_31  |>.aloadN D7_34 rfl rfl |>.iloadN D7_35 rfl |>.iconst D7_36 1 |>.isub D7_37 (z := 0)
  replace k := (k.callV (w_73 hw) (V_Y22_22_String hw) pr1.exa (R_chr1_0 hw G pr1) D7_38 0 rfl).pv
  replace k := (k.callS (w_93 hw) (S2 hw) (R_own_isBlank hw G) D7_41 0 rfl).pv
  replace k := k |>.ifYes D7_44 ((if0 _ _).trans (teq pr2).1) |>.aloadN D7_53 rfl rfl |>.iloadN D7_54 rfl |>.iloadN D7_55 rfl
  obtain ⟨_, h1, K1, ⟨u1, w1, rfl, S1⟩, k⟩ := (k.callV (w_45 hw) (V_Y10_10_String hw) pr1.exa (R_sub1_0_1 hw G pr1) D7_56 0 rfl).kv
  exact k.retA D7_59 rfl ⟨_, rfl, K1, u1, w1, rfl, S1⟩
theorem own_d11 {p1 v0 v1 : Int32} (e0 : v0 = (p1 &&& 2147483647)) (e1 : v1 = (v0 % 5)) (q0 : ¬ (v1 = 0)) (q1 : v1 = 1) : 0 < v1 := by
  have := rng32 p1
  have : (2147483647 : Int32).toInt = 2147483647 := by decide
  have := e_mask e0 31 2147483648
  have : (5 : Int32).toInt = 5 := by decide
  have := e_iremN e1 5 (by omega)
  have : (0 : Int32).toInt = 0 := by decide
  have := i_neq q0
  have : (1 : Int32).toInt = 1 := by decide
  have := i_eq q1
  exact o_lt (by omega)
theorem D3_71 : Dc code 71 (.aload 6) 2 73 := ⟨at_71, rfl⟩
theorem D3_73 : Dc code 73 (.iconst 0) 1 74 := ⟨at_73, rfl⟩
theorem D3_74 : Dc code 74 .caload 1 75 := ⟨at_74, rfl⟩
theorem D3_75 : Dc code 75 (.invokestatic 29) 3 78 := ⟨at_75, rfl⟩
abbrev w_100 (hw : HW a0 Z) := hw.at 100 rfl
abbrev w_102 (hw : HW a0 Z) := hw.at 102 rfl
abbrev w_101 (hw : HW a0 Z) := hw.at 101 rfl
theorem S1 (hw : HW a0 Z) : SC Z a0 Y1 C1 1 (some .boolean) 1 := ⟨(w_101 hw), ⟨⟨_, Or.inl rfl⟩, (w_102 hw), (w_4 hw), by decide, _, _, pd_C_r_Z, rfl⟩⟩
theorem D3_78 : Dj code 78 (.ifCond .ne 7) 7 81 85 := ⟨at_78, rfl, by decide, by decide⟩
theorem own_d12 {p2 v0 v1 v2 v3 v4 : Int32} (e0 : v0 = (drw p2)) (e1 : v1 = (nar .char v0)) (e2 : v2 = (nar .char v1)) (e3 : v3 = (bl v2)) (e4 : v4 = (bl v1)) (q0 : v3 = 0) : v4 = 0 := by
  have := e_drw e0
  have := e_i2cN e1 (by omega)
  have := e_i2cN e2 (by omega)
  have := e_bl e3
  have : (0 : Int32).toInt = 0 := by decide
  have := i_eq q0
  have := e_bl e4
  exact o_eq (by omega)
theorem D3_81 : Dc code 81 (.iconst 1) 1 82 := ⟨at_81, rfl⟩
theorem D3_82 : Dj code 82 (.goto 4) 4 85 86 := ⟨at_82, rfl, by decide, by decide⟩
theorem own_d13 {p1 v0 v1 : Int32} (e0 : v0 = (p1 &&& 2147483647)) (e1 : v1 = (v0 % 5)) (q0 : ¬ (v1 = 0)) (q1 : v1 = 1) : ¬ (1 < v1) := by
  have := rng32 p1
  have : (2147483647 : Int32).toInt = 2147483647 := by decide
  have := e_mask e0 31 2147483648
  have : (5 : Int32).toInt = 5 := by decide
  have := e_iremN e1 5 (by omega)
  have : (0 : Int32).toInt = 0 := by decide
  have := i_neq q0
  have : (1 : Int32).toInt = 1 := by decide
  have := i_eq q1
  exact o_nlt (by omega)
theorem own_d14 {p1 v0 v1 : Int32} (e0 : v0 = (p1 &&& 2147483647)) (e1 : v1 = (v0 % 5)) (q0 : ¬ (v1 = 0)) (q1 : v1 = 1) : ¬ (2 < v1) := by
  have := rng32 p1
  have : (2147483647 : Int32).toInt = 2147483647 := by decide
  have := e_mask e0 31 2147483648
  have : (5 : Int32).toInt = 5 := by decide
  have := e_iremN e1 5 (by omega)
  have : (0 : Int32).toInt = 0 := by decide
  have := i_neq q0
  have : (1 : Int32).toInt = 1 := by decide
  have := i_eq q1
  have : (2 : Int32).toInt = 2 := by decide
  exact o_nlt (by omega)
theorem own_d15 {p1 v0 v1 : Int32} (e0 : v0 = (p1 &&& 2147483647)) (e1 : v1 = (v0 % 5)) (q0 : ¬ (v1 = 0)) (q1 : v1 = 1) : ¬ (3 < v1) := by
  have := rng32 p1
  have : (2147483647 : Int32).toInt = 2147483647 := by decide
  have := e_mask e0 31 2147483648
  have : (5 : Int32).toInt = 5 := by decide
  have := e_iremN e1 5 (by omega)
  have : (0 : Int32).toInt = 0 := by decide
  have := i_neq q0
  have : (1 : Int32).toInt = 1 := by decide
  have := i_eq q1
  have : (3 : Int32).toInt = 3 := by decide
  exact o_nlt (by omega)
theorem D3_162 : Dc code 162 (.iconst 0) 1 163 := ⟨at_162, rfl⟩
theorem D3_163 : Dj code 163 (.goto 32) 32 166 195 := ⟨at_163, rfl, by decide, by decide⟩
theorem D3_229 : Dc code 229 (.iconst 1) 1 230 := ⟨at_229, rfl⟩
theorem D3_230 : Dj code 230 (.goto 5) 5 233 235 := ⟨at_230, rfl, by decide, by decide⟩
theorem D13_8 : Dc J13 8 (.aload_n 0) 1 9 := by decide +kernel
theorem D13_9 : Dc J13 9 (.iload_n 1) 1 10 := by decide +kernel
theorem D13_10 : Dc J13 10 (.invokevirtual 41) 3 13 := by decide +kernel
abbrev w_133 (hw : HW a0 Z) := hw.at 133 rfl
theorem D13_13 : Dc J13 13 (.aload_n 2) 1 14 := by decide +kernel
theorem D13_14 : Dc J13 14 (.iload_n 3) 1 15 := by decide +kernel
theorem D13_15 : Dc J13 15 (.iload_n 1) 1 16 := by decide +kernel
theorem D13_16 : Dc J13 16 .iadd 1 17 := by decide +kernel
theorem D13_17 : Dc J13 17 .caload 1 18 := by decide +kernel
theorem D13_18 : Dj J13 18 (.if_icmp .ne 7) 7 21 25 := by decide +kernel
theorem own_d16 {p2 v0 v1 v2 v3 : Int32} (e0 : v0 = (drw p2)) (e1 : v1 = (nar .char v0)) (e2 : v2 = (nar .char v1)) (e3 : v3 = (bl v2)) (q0 : v3 = 0) : v2 = v1 := by
  have := e_drw e0
  have := e_i2cN e1 (by omega)
  have := e_i2cN e2 (by omega)
  have := e_bl e3
  have : (0 : Int32).toInt = 0 := by decide
  have := i_eq q0
  exact o_eq (by omega)
theorem R_13_5 {a1 a2 a3 : Addr} {p4 p5 p6 p7 p8 : Int32} (hw : HW a0 Z) (G : Gl Z w_CS w_SF) (pr1 : Str Z h0 a1 a3 [p4]) (pr2 : Ary Z h0 a2 ATC 4 (bv (lvi [p5, p6, p7, p8]))) (pr3 : p4 = p5) : Mt false [] l Y13 C13 (rmk 5 0 0 66) #[.ref a1, .int 0, .ref a2, .int 0] Z a0 h0 n0 (Pv h0 (.int 1)) := by
  refine Mt.go PN13 (Or.inl rfl) ef_RIRI_4 fun k => ?_
  replace k := k |>.iloadN D13_0 rfl |>.aloadN D13_1 rfl rfl
  replace k := (k.callV (w_59 hw) (V_Y8_8_String hw) pr1.exa (R_len1 hw G pr1) D13_2 1 rfl).pv
  replace k := k |>.icmpNo D13_5  |>.aloadN D13_8 rfl rfl |>.iloadN D13_9 rfl
  replace k := (k.callV (w_133 hw) (V_Y22_22_String hw) pr1.exa (R_chr1_0 hw G pr1) D13_10 0 rfl).pv
  replace k := k |>.aloadN D13_13 rfl rfl |>.iloadN D13_14 rfl |>.iloadN D13_15 rfl |>.iadd D13_16 (z := 0) |>.cald pr2 D13_17 (i := 0) (by decide) big0 |>.icmpNo D13_18 (teq pr3).2 |>.iconst D13_21 1 |>.goto D13_22
  exact k.retN (t := .boolean) D13_26 rfl (by simp) (z' := 1) (by decide) ⟨rfl, rfl⟩
theorem R_13_6 {a1 a2 a3 : Addr} {p4 : Int32} (hw : HW a0 Z) (G : Gl Z w_CS w_SF) (pr1 : Str Z h0 a1 a3 [p4]) : Mt false [] l Y13 C13 (rmk 2 0 0 26) #[.ref a1, .int 1, .ref a2, .int 0] Z a0 h0 n0 (Pv h0 (.int 1)) := by
  refine Mt.go PN13 (Or.inl rfl) ef_RIRI_4 fun k => ?_
  replace k := k |>.iloadN D13_0 rfl |>.aloadN D13_1 rfl rfl
  replace k := (k.callV (w_59 hw) (V_Y8_8_String hw) pr1.exa (R_len1 hw G pr1) D13_2 1 rfl).pv
  replace k := k |>.icmpYes D13_5  |>.iconst D13_21 1 |>.goto D13_22
  exact k.retN (t := .boolean) D13_26 rfl (by simp) (z' := 1) (by decide) ⟨rfl, rfl⟩
theorem R_13_7 {a1 a2 a3 : Addr} {p4 : Int32} (hw : HW a0 Z) (G : Gl Z w_CS w_SF) (pr1 : Str Z h0 a1 a3 [p4]) : Mt false [] l Y13 C13 (rmk 2 0 0 26) #[.ref a1, .int 2, .ref a2, .int 0] Z a0 h0 n0 (Pv h0 (.int 1)) := by
  refine Mt.go PN13 (Or.inl rfl) ef_RIRI_4 fun k => ?_
  replace k := k |>.iloadN D13_0 rfl |>.aloadN D13_1 rfl rfl
  replace k := (k.callV (w_59 hw) (V_Y8_8_String hw) pr1.exa (R_len1 hw G pr1) D13_2 1 rfl).pv
  replace k := k |>.icmpYes D13_5  |>.iconst D13_21 1 |>.goto D13_22
  exact k.retN (t := .boolean) D13_26 rfl (by simp) (z' := 1) (by decide) ⟨rfl, rfl⟩
theorem R_13_8 {a1 a2 a3 : Addr} {p4 : Int32} (hw : HW a0 Z) (G : Gl Z w_CS w_SF) (pr1 : Str Z h0 a1 a3 [p4]) : Mt false [] l Y13 C13 (rmk 2 0 0 26) #[.ref a1, .int 3, .ref a2, .int 0] Z a0 h0 n0 (Pv h0 (.int 1)) := by
  refine Mt.go PN13 (Or.inl rfl) ef_RIRI_4 fun k => ?_
  replace k := k |>.iloadN D13_0 rfl |>.aloadN D13_1 rfl rfl
  replace k := (k.callV (w_59 hw) (V_Y8_8_String hw) pr1.exa (R_len1 hw G pr1) D13_2 1 rfl).pv
  replace k := k |>.icmpYes D13_5  |>.iconst D13_21 1 |>.goto D13_22
  exact k.retN (t := .boolean) D13_26 rfl (by simp) (z' := 1) (by decide) ⟨rfl, rfl⟩
theorem D7_23 : Dc J7 23 (.iinc 1 1) 3 26 := by decide +kernel
theorem D7_26 : Dj J7 26 (.goto (-19)) (-19) 29 7 := by decide +kernel
theorem D10_22 : Dc J10 22 (.iload_n 2) 1 23 := by decide +kernel
theorem D10_23 : Dc J10 23 (.iload_n 1) 1 24 := by decide +kernel
theorem D10_24 : Dc J10 24 .isub 1 25 := by decide +kernel
theorem D10_25 : Dc J10 25 (.istore 4) 2 27 := by decide +kernel
theorem D10_27 : Dc J10 27 (.aload_n 0) 1 28 := by decide +kernel
theorem D10_28 : Dc J10 28 (.invokevirtual 492) 3 31 := by decide +kernel
theorem D10_31 : Dj J10 31 (.ifCond .eq 16) 16 34 47 := by decide +kernel
theorem D10_34 : Dc J10 34 (.aload_n 0) 1 35 := by decide +kernel
theorem D10_35 : Dc J10 35 (.getfield 9) 3 38 := by decide +kernel
theorem D10_38 : Dc J10 38 (.iload_n 1) 1 39 := by decide +kernel
theorem D10_39 : Dc J10 39 (.iload 4) 2 41 := by decide +kernel
theorem D10_41 : Dc J10 41 (.invokestatic 685) 3 44 := by decide +kernel
abbrev Y30 : MethodName := ⟨"java/lang/StringLatin1", "newString", "([BII)Ljava/lang/String;"⟩
abbrev J30 := jdk_43_method_47_code
abbrev C30 : Cond := .code Y30 J30 3 (some (.object "java/lang/String"))
theorem D30_0 : Dc J30 0 (.iload_n 2) 1 1 := by decide +kernel
theorem D30_1 : Dj J30 1 (.ifCond .ne 6) 6 4 7 := by decide +kernel
theorem D30_4 : Dc J30 4 (.ldc 151) 2 6 := by decide +kernel
theorem lit_99 : (∀ c ∈ "".toList, c.toNat < 256) ∧ "".toList.map (fun c => Value.int (Jvm.Lit.byteI c.toNat.toUInt16)) = [] := by decide +kernel
theorem D30_6 : Dc J30 6 .areturn 1 7 := by decide +kernel
theorem PN30 : plainFor Y30 = true := plainFor_of_name pn_StringLatin1
theorem R_30_2 {a1 : Addr} {p2 p3 : Int32} (hw : HW a0 Z) (G : Gl Z w_CS w_SF) (pr1 : p3 = 0) : Mt true consts_1 l Y30 C30 (rmk 0 2 4 0) #[.ref a1, .int p2, .int p3] Z a0 h0 n0 (KpV h0 [] fun v h => ∃ u1 u2 : Addr, v = (.ref u1) ∧ Obj Z h u1 litL [.ref u2, .int 0] ∧ Ary Z h u2 ("", .byte) 0 (bv (lvi []))) := by
  refine Mt.go PN30 (Or.inl rfl) ef_RII_3 fun k => ?_
  replace k := k |>.iloadN D30_0 rfl |>.ifNo D30_1 ((if0 _ _).trans (teq pr1).2)
  obtain ⟨a1x, b1x, vm1, h1, K1, R1, O1, A1, N1, k⟩ := k.ldcS (w_99 hw) (strAt hw) (List.mem_of_getElem? (i := 1) rfl) lit_99 rfl D30_4
  replace A1 : Ary Z h1 b1x ("", .byte) 0 (bv (lvi [])) := Ary.norm A1 (lv_bi rfl rfl)
  exact k.retA D30_6 rfl ⟨_, rfl, K1, a1x, b1x, rfl, O1, A1⟩
abbrev w_96 (hw : HW a0 Z) := hw.at 96 rfl
abbrev w_98 (hw : HW a0 Z) := hw.at 98 rfl
theorem pd_ABII_r_Ljava_lang_String : parseMethodDescriptor "([BII)Ljava/lang/String;" = some ⟨[(.array .byte), .int, .int], some (.object "java/lang/String")⟩ := by decide +kernel
abbrev w_97 (hw : HW a0 Z) := hw.at 97 rfl
theorem S30 (hw : HW a0 Z) : SC Z a0 Y30 C30 3 (some (.object "java/lang/String")) 3 := ⟨(w_97 hw), ⟨⟨_, Or.inl rfl⟩, (w_98 hw), (w_85 hw), by decide, _, _, pd_ABII_r_Ljava_lang_String, rfl⟩⟩
theorem D10_44 : Dj J10 44 (.goto 13) 13 47 57 := by decide +kernel
theorem D10_57 : Dc J10 57 .areturn 1 58 := by decide +kernel
theorem R_sub1_1_1 {a1 a2 : Addr} {c0 : Int32} (hw : HW a0 Z) (G : Gl Z w_CS w_SF) (S : Str Z h0 a1 a2 [c0]) (x0 : ¬ (255 < c0)) : Mt true consts_1 l Y10 C10 (rmk 2 2 4 29) #[.ref a1, .int 1, .int 1] Z a0 h0 n0 (KpV h0 [] fun v h => ∃ u w : Addr, v = .ref u ∧ Str Z h u w []) := by
  refine Mt.go PN10 (Or.inl rfl) ef_RII_5 fun k => ?_
  obtain ⟨⟨⟨g0a, g0b⟩, -⟩, S⟩ := S
  rcases S with ⟨T, O, A, hl⟩ | ⟨O, A, u0 | ⟨-, hx⟩⟩
  · obtain ⟨l0, -⟩ := hl
    have A : Ary Z h0 a2 (T, .byte) 1 (bv (lvi [(c0.toInt8.toInt32)])) := A
    replace k := k |>.aloadN D10_0 rfl rfl
    replace k := (k.callV (w_50 hw) (V_Y8_8_String hw) O.exa (R_8_2 hw G O A) D10_1 0 rfl).pv
    replace k := k |>.istoreN D10_4 sto3 |>.iloadN D10_5 rfl |>.iloadN D10_6 rfl |>.iloadN D10_7 rfl
    replace k := (k.callS (w_51 hw) (S11 hw) (R_11_1 hw G (by decide) (by decide) (by decide) (p1 := 1) (p2 := 1) (p3 := 1)) D10_8 0 rfl).p0
    replace k := k |>.iloadN D10_11 rfl |>.ifYes D10_12  |>.iloadN D10_22 rfl |>.iloadN D10_23 rfl |>.isub D10_24 (z := 0) |>.istore D10_25 sto4 |>.aloadN D10_27 rfl rfl
    replace k := (k.callV (w_78 hw) (V_Y23_23_String hw) O.exa (R_23_1 hw G O) D10_28 0 rfl).pv
    replace k := k |>.ifNo D10_31  |>.aloadN D10_34 rfl rfl |>.getF (fl_28 hw) O 0 D10_35 rfl rfl |>.iloadN D10_38 rfl |>.iload D10_39 rfl
    obtain ⟨_, vm4, h4, K4, R4, ⟨u1_4, u2_4, rfl, f4_0, f4_1⟩, k⟩ := (k.callSW (w_96 hw) (S30 hw) (R_30_2 hw G (by decide) (p2 := 1) (p3 := 0)) D10_41 0 rfl).kv
    have o5 : Ary Z h4 u2_4 ("", .byte) 0 (bv (lvi [])) := f4_1
    replace k := k |>.goto D10_44
    exact k.retA D10_57 rfl ⟨_, rfl, K4, u1_4, u2_4, rfl, ⟨trivial, Or.inl ⟨_, f4_0, o5, trivial⟩⟩⟩
  · exact absurd u0 x0
  · exact hx.elim
theorem own_d17 {p2 v0 v1 v2 v3 : Int32} (e0 : v0 = (drw p2)) (e1 : v1 = (nar .char v0)) (e2 : v2 = (nar .char v1)) (e3 : v3 = (bl v2)) (q0 : ¬ (v3 = 0)) : ¬ (255 < v2) := by
  have := e_drw e0
  have := e_i2cN e1 (by omega)
  have := e_i2cN e2 (by omega)
  have := e_bl e3
  have : (0 : Int32).toInt = 0 := by decide
  have := i_neq q0
  have : (255 : Int32).toInt = 255 := by decide
  exact o_nlt (by omega)
theorem R_7_5 {a1 a2 : Addr} {p3 : Int32} (hw : HW a0 Z) (G : Gl Z w_CS w_SF) (pr1 : Str Z h0 a1 a2 [p3]) (pr2 : ¬ ((bl p3) = 0)) (pr3 : ¬ (255 < p3)) : Mt true consts_1 l Y7 C7 (rmk 5 2 4 66) #[.ref a1] Z a0 h0 n0 (KpV h0 [] fun v h => ∃ u1 u2 : Addr, v = (.ref u1) ∧ Str Z h u1 u2 []) := by
  refine Mt.go PN7 (Or.inl rfl) ef_R_3 fun k => ?_
  replace k := k |>.iconst D7_0 0 |>.istoreN D7_1 sto1 |>.aloadN D7_2 rfl rfl
  replace k := (k.callV (w_34 hw) (V_Y8_8_String hw) pr1.exa (R_len1 hw G pr1) D7_3 0 rfl).pv
  replace k := k |>.istoreN D7_6 sto2 |>.iloadN D7_7 rfl |>.iloadN D7_8 rfl |>.icmpNo D7_9  |>.aloadN D7_12 rfl rfl |>.iloadN D7_13 rfl
  replace k := (k.callV (w_73 hw) (V_Y22_22_String hw) pr1.exa (R_chr1_0 hw G pr1) D7_14 0 rfl).pv
  replace k := (k.callS (w_93 hw) (S2 hw) (R_own_isBlank hw G) D7_17 0 rfl).pv
  replace k := k |>.ifNo D7_20 ((if0 _ _).trans (feq pr2).1) |>.iinc D7_23 rfl (z := 1) (by decide) sto1 |>.goto D7_26 |>.iloadN D7_7 rfl |>.iloadN D7_8 rfl |>.icmpYes D7_9  |>.iloadN D7_29 rfl |>.iloadN D7_30 rfl |>.icmpYes D7_31  |>.aloadN D7_53 rfl rfl |>.iloadN D7_54 rfl |>.iloadN D7_55 rfl
  obtain ⟨_, vm1, h1, K1, R1, ⟨u1, w1, rfl, S1⟩, k⟩ := (k.callVW (w_45 hw) (V_Y10_10_String hw) pr1.exa (R_sub1_1_1 hw G pr1 pr3) D7_56 0 rfl).kv
  exact k.retA D7_59 rfl ⟨_, rfl, K1, u1, w1, rfl, S1⟩
theorem own_d18 {p2 v0 v1 v2 v3 v4 : Int32} (e0 : v0 = (drw p2)) (e1 : v1 = (nar .char v0)) (e2 : v2 = (nar .char v1)) (e3 : v3 = (bl v2)) (e4 : v4 = (bl v1)) (q0 : ¬ (v3 = 0)) : ¬ (v4 = 0) := by
  have := e_drw e0
  have := e_i2cN e1 (by omega)
  have := e_i2cN e2 (by omega)
  have := e_bl e3
  have : (0 : Int32).toInt = 0 := by decide
  have := i_neq q0
  have := e_bl e4
  exact o_neq (by omega)
theorem own_d19 {p1 v0 v1 v2 : Int32} (e0 : v0 = (p1 &&& 2147483647)) (e1 : v1 = (v0 % 5)) (e2 : v2 = (v1 - v1)) (q0 : ¬ (v1 = 0)) (q1 : v1 = 1) : 0 = v2 := by
  have := rng32 p1
  have : (2147483647 : Int32).toInt = 2147483647 := by decide
  have := e_mask e0 31 2147483648
  have : (5 : Int32).toInt = 5 := by decide
  have := e_iremN e1 5 (by omega)
  have : (0 : Int32).toInt = 0 := by decide
  have := i_neq q0
  have : (1 : Int32).toInt = 1 := by decide
  have := i_eq q1
  have := e_isubN e2 (by omega)
  exact o_eq (by omega)
theorem D4_23 : Dc J4 23 (.iload_n 1) 1 24 := by decide +kernel
theorem D4_24 : Dc J4 24 (.iconst 2) 1 25 := by decide +kernel
theorem D4_25 : Dj J4 25 (.if_icmp .ne 19) 19 28 44 := by decide +kernel
theorem D4_28 : Dc J4 28 (.iconst 2) 1 29 := by decide +kernel
theorem D4_29 : Dc J4 29 (.newarray .char) 2 31 := by decide +kernel
theorem D4_31 : Dc J4 31 .dup 1 32 := by decide +kernel
theorem D4_32 : Dc J4 32 (.iconst 0) 1 33 := by decide +kernel
theorem D4_33 : Dc J4 33 (.aload_n 0) 1 34 := by decide +kernel
theorem D4_34 : Dc J4 34 (.iconst 0) 1 35 := by decide +kernel
theorem D4_35 : Dc J4 35 .caload 1 36 := by decide +kernel
theorem D4_36 : Dc J4 36 .castore 1 37 := by decide +kernel
theorem D4_37 : Dc J4 37 .dup 1 38 := by decide +kernel
theorem D4_38 : Dc J4 38 (.iconst 1) 1 39 := by decide +kernel
theorem D4_39 : Dc J4 39 (.aload_n 0) 1 40 := by decide +kernel
theorem D4_40 : Dc J4 40 (.iconst 1) 1 41 := by decide +kernel
theorem D4_41 : Dc J4 41 .caload 1 42 := by decide +kernel
theorem big1 {x0 x : Int32} {t : List Int32} : bv (lvi (x0 :: x :: t)) 1 = .int x := rfl
theorem D4_42 : Dc J4 42 .castore 1 43 := by decide +kernel
theorem D4_43 : Dc J4 43 .areturn 1 44 := by decide +kernel
theorem R_4_6 {a1 : Addr} {p2 p3 p4 p5 p6 : Int32} (hw : HW a0 Z) (G : Gl Z w_CS w_SF) (pr1 : ¬ (p2 = 0)) (pr2 : ¬ (p2 = 1)) (pr3 : p2 = 2) (pr4 : Ary Z h0 a1 ATC 4 (bv (lvi [p3, p4, p5, p6]))) : Mt false [] l Y4 C4 (rmk 0 1 2 0) #[.ref a1, .int p2] Z a0 h0 n0 (KpV h0 [] fun v h => ∃ u1 : Addr, v = (.ref u1) ∧ h0.size ≤ u1 ∧ Ary Z h u1 ATC 2 (bv (lvi [(nar .char p3), (nar .char p4)]))) := by
  refine Mt.go PN4 (Or.inl rfl) ef_RI_2 fun k => ?_
  have nz := k.n0le
  replace k := k |>.iloadN D4_0 rfl |>.ifYes D4_1 ((if0 _ _).trans (feq pr1).2) |>.iloadN D4_8 rfl |>.iconst D4_9 1 |>.icmpYes D4_10 (feq pr2).2 |>.iloadN D4_23 rfl |>.iconst D4_24 2 |>.icmpNo D4_25 (teq pr3).2 |>.iconst D4_28 2
  have z1 := k.sz
  obtain ⟨b1, h1, g1, K1, O1, k⟩ := k.newP (aty := .char) "[C" (w_1 hw) (by decide) D4_29 2 (by decide) (n := 2) (by decide) (by decide) (by decide) (bi_const (L := [0, 0]) rfl)
  replace k := k |>.dup D4_31 rfl |>.iconst D4_32 0 |>.aloadN D4_33 rfl rfl |>.iconst D4_34 0
  have o2 := pr4.keep K1 nin0
  replace k := k |>.cald o2 D4_35 (i := 0) (by decide) big0
  have s_b1 := Nat.le_trans z1 g1
  have n_b1 := Nat.le_trans nz s_b1
  obtain ⟨h3, K3, O3, k⟩ := k.stC O1 n_b1 (Or.inl rfl) D4_36 (i := 0) (by decide) (v := (.int (nar .char p3))) rfl (fits_nar_char _) bis0
  replace k := k |>.dup D4_37 rfl |>.iconst D4_38 1 |>.aloadN D4_39 rfl rfl |>.iconst D4_40 1
  have o4 := o2.keep K3 (ninS (nlt pr4.lt s_b1) nin0)
  replace k := k |>.cald o4 D4_41 (i := 1) (by decide) big1
  obtain ⟨h5, K5, O5, k⟩ := k.stC O3 n_b1 (Or.inl rfl) D4_42 (i := 1) (by decide) (v := (.int (nar .char p4))) rfl (fits_nar_char _) bis1
  exact k.retA D4_43 rfl ⟨_, rfl, ((K1.trans K3 (allS (Or.inr s_b1) all0)).trans K5 (allS (Or.inr s_b1) all0)), b1, rfl, s_b1, O5⟩
theorem R_15_5 {a1 a2 : Addr} {p3 p4 : Int32} (hw : HW a0 Z) (G : Gl Z w_CS w_SF) (pr1 : Ary Z h0 a1 ATC 2 (bv (lvi [p3, p4]))) (pr2 : 255 < p3) : Mt false [] l Y15 C15 (rmk 0 0 0 0) #[.ref a1, .int 0, .ref a2, .int 0, .int 2] Z a0 h0 n0 (Pv h0 (.int 0)) := by
  refine Mt.go PN15 (Or.inl rfl) ef_RIRII_7 fun k => ?_
  replace k := k |>.iconst D15_0 0 |>.istore D15_1 sto5 |>.iload D15_3 rfl |>.iload D15_5 rfl |>.icmpNo D15_7  |>.aloadN D15_10 rfl rfl |>.iloadN D15_11 rfl |>.cald pr1 D15_12 (i := 0) (by decide) big0 |>.istore D15_13 sto6 |>.iload D15_15 rfl |>.sipush D15_17 255 |>.icmpNo D15_20 (tlt pr2).2.2.2
  replace k := k |>.iload D15_23 rfl
  exact k.retI D15_25 rfl ⟨rfl, rfl⟩
theorem R_17_2 (hw : HW a0 Z) (G : Gl Z w_CS w_SF) : Mt false [] l Y17 C17 (rmk 1 1 4 12) #[.int 2] Z a0 h0 n0 (KpV h0 [] fun v h => ∃ u1 : Addr, v = (.ref u1) ∧ h0.size ≤ u1 ∧ Ary Z h u1 ATB 4 (bv (lvi [0, 0, 0, 0]))) := by
  refine Mt.go PN17 (Or.inl rfl) ef_I_1 fun k => ?_
  replace k := k |>.iloadN D17_0 rfl
  replace k := (k.callS (w_110 hw) (S18 hw) (R_18_1 hw G (by decide) (by decide) (p1 := 2)) D17_1 0 rfl).pv
  replace k := k |>.top (y := 4) (by decide)
  have z2 := k.sz
  obtain ⟨b2, h2, g2, K2, O2, k⟩ := k.newP (aty := .byte) "[B" (w_23 hw) (by decide) D17_4 4 (by decide) (n := 4) (by decide) (by decide) (by decide) (bi_const (L := [0, 0, 0, 0]) rfl)
  have s_b2 := Nat.le_trans z2 g2
  exact k.retA D17_6 rfl ⟨_, rfl, K2, b2, rfl, s_b2, O2⟩
theorem R_19_2 {a1 : Addr} {p2 : Int32} (hw : HW a0 Z) (G : Gl Z w_CS w_SF) (pr1 : Ary Z h0 a1 ATB 4 (bv (lvi [0, 0, 0, 0]))) (pr2 : n0 ≤ a1) : Mt false [] l Y19 C19 (rmk 0 0 0 0) #[.ref a1, .int 0, .int p2] Z a0 h0 n0 (K0 h0 [a1] fun h => Ary Z h a1 ATB 4 (bv (lvi [(lo8 p2), (hi8 p2), 0, 0]))) := by
  refine Mt.go PN19 (Or.inl rfl) ef_RII_3 fun k => ?_
  replace k := k |>.getS (fl_117 hw) G.S_AD D19_0 |>.ifYes D19_3  |>.iloadN D19_28 rfl |>.iconst D19_29 1 |>.ishl D19_30 (z := 0) |>.istoreN D19_31 sto1 |>.aloadN D19_32 rfl rfl |>.iloadN D19_33 rfl |>.iinc D19_34 rfl (z := 1) (by decide) sto1 |>.iloadN D19_37 rfl |>.getS (fl_118 hw) G.S_HI D19_38 |>.ishr D19_41 rfl
  replace k := k |>.i2b D19_42 rfl
  obtain ⟨h1, K1, O1, k⟩ := k.stB pr1 pr2 (Or.inl rfl) D19_43 (i := 0) (by decide) (v := (.int (lo8 p2))) (congrArg Value.int (own_nnBi2b _)) (own_fitBi2b _) bis0
  replace k := k |>.aloadN D19_44 rfl rfl |>.iloadN D19_45 rfl |>.iloadN D19_46 rfl |>.getS (fl_119 hw) G.S_LO D19_47 |>.ishr D19_50 rfl |>.i2b D19_51 rfl
  obtain ⟨h2, K2, O2, k⟩ := k.stB O1 pr2 (Or.inl rfl) D19_52 (i := 1) (by decide) (v := (.int (hi8 p2))) (congrArg Value.int (own_nnBi2b _)) (own_fitBi2b _) bis1
  exact k.ret0 D19_53 rfl ⟨rfl, (K1.trans K2 (allS (Or.inl (List.mem_of_getElem? (i := 0) rfl)) all0)), O2⟩
theorem R_19_3 {a1 : Addr} {p2 p3 p4 : Int32} (hw : HW a0 Z) (G : Gl Z w_CS w_SF) (pr1 : Ary Z h0 a1 ATB 4 (bv (lvi [p3, p4, 0, 0]))) (pr2 : n0 ≤ a1) : Mt false [] l Y19 C19 (rmk 0 0 0 0) #[.ref a1, .int 1, .int p2] Z a0 h0 n0 (K0 h0 [a1] fun h => Ary Z h a1 ATB 4 (bv (lvi [p3, p4, (lo8 p2), (hi8 p2)]))) := by
  refine Mt.go PN19 (Or.inl rfl) ef_RII_3 fun k => ?_
  replace k := k |>.getS (fl_117 hw) G.S_AD D19_0 |>.ifYes D19_3  |>.iloadN D19_28 rfl |>.iconst D19_29 1 |>.ishl D19_30 (z := 2) |>.istoreN D19_31 sto1 |>.aloadN D19_32 rfl rfl |>.iloadN D19_33 rfl |>.iinc D19_34 rfl (z := 3) (by decide) sto1 |>.iloadN D19_37 rfl |>.getS (fl_118 hw) G.S_HI D19_38 |>.ishr D19_41 rfl
  replace k := k |>.i2b D19_42 rfl
  obtain ⟨h1, K1, O1, k⟩ := k.stB pr1 pr2 (Or.inl rfl) D19_43 (i := 2) (by decide) (v := (.int (lo8 p2))) (congrArg Value.int (own_nnBi2b _)) (own_fitBi2b _) bis2
  replace k := k |>.aloadN D19_44 rfl rfl |>.iloadN D19_45 rfl |>.iloadN D19_46 rfl |>.getS (fl_119 hw) G.S_LO D19_47 |>.ishr D19_50 rfl |>.i2b D19_51 rfl
  obtain ⟨h2, K2, O2, k⟩ := k.stB O1 pr2 (Or.inl rfl) D19_52 (i := 3) (by decide) (v := (.int (hi8 p2))) (congrArg Value.int (own_nnBi2b _)) (own_fitBi2b _) bis3
  exact k.ret0 D19_53 rfl ⟨rfl, (K1.trans K2 (allS (Or.inl (List.mem_of_getElem? (i := 0) rfl)) all0)), O2⟩
theorem R_16_2 {a1 : Addr} {p2 p3 : Int32} (hw : HW a0 Z) (G : Gl Z w_CS w_SF) (pr1 : Ary Z h0 a1 ATC 2 (bv (lvi [p2, p3]))) : Mt false [] l Y16 C16 (rmk 2 1 4 24) #[.ref a1, .int 0, .int 2] Z a0 h0 n0 (KpV h0 [] fun v h => ∃ u1 : Addr, v = (.ref u1) ∧ h0.size ≤ u1 ∧ Ary Z h u1 ATB 4 (bv (lvi [(lo8 p2), (hi8 p2), (lo8 p3), (hi8 p3)]))) := by
  refine Mt.go PN16 (Or.inl rfl) ef_RII_5 fun k => ?_
  have nz := k.n0le
  replace k := k |>.iloadN D16_0 rfl
  have z1 := k.sz
  obtain ⟨_, h1, K1, ⟨u1_1, rfl, f1_0, f1_1⟩, k⟩ := (k.callS (w_107 hw) (S17 hw) (R_17_2 hw G) D16_1 0 rfl).kv
  replace k := k |>.astoreN D16_4 rfl sto3 |>.iconst D16_5 0 |>.istore D16_6 sto4 |>.iload D16_8 rfl |>.iloadN D16_10 rfl |>.icmpNo D16_11  |>.aloadN D16_14 rfl rfl |>.iload D16_15 rfl |>.aloadN D16_17 rfl rfl |>.iloadN D16_18 rfl
  have o2 := pr1.keep K1 nin0
  replace k := k |>.cald o2 D16_19 (i := 0) (by decide) big0
  have s_u1_1 := Nat.le_trans z1 f1_0
  have n_u1_1 := Nat.le_trans nz s_u1_1
  obtain ⟨h3, K3, f3_0, k⟩ := (k.callS (w_114 hw) (S19 hw) (R_19_2 hw G f1_1 n_u1_1) D16_20 0 rfl).k0 (allS n_u1_1 all0)
  replace k := k |>.iinc D16_23 rfl (z := 1) (by decide) sto1 |>.iinc D16_26 rfl (z := 1) (by decide) sto4 |>.goto D16_29 |>.iload D16_8 rfl |>.iloadN D16_10 rfl |>.icmpNo D16_11  |>.aloadN D16_14 rfl rfl |>.iload D16_15 rfl |>.aloadN D16_17 rfl rfl |>.iloadN D16_18 rfl
  have o4 := o2.keep K3 (ninS (nlt pr1.lt s_u1_1) nin0)
  replace k := k |>.cald o4 D16_19 (i := 1) (by decide) big1
  obtain ⟨h5, K5, f5_0, k⟩ := (k.callS (w_114 hw) (S19 hw) (R_19_3 hw G f3_0 n_u1_1) D16_20 0 rfl).k0 (allS n_u1_1 all0)
  replace k := k |>.iinc D16_23 rfl (z := 2) (by decide) sto1 |>.iinc D16_26 rfl (z := 2) (by decide) sto4 |>.goto D16_29 |>.iload D16_8 rfl |>.iloadN D16_10 rfl |>.icmpYes D16_11  |>.aloadN D16_32 rfl rfl
  exact k.retA D16_33 rfl ⟨_, rfl, ((K1.trans K3 (allS (Or.inr s_u1_1) all0)).trans K5 (allS (Or.inr s_u1_1) all0)), u1_1, rfl, s_u1_1, f5_0⟩
theorem R_14_5 {a1 : Addr} {p2 p3 : Int32} (hw : HW a0 Z) (G : Gl Z w_CS w_SF) (pr1 : Ary Z h0 a1 ATC 2 (bv (lvi [p2, p3]))) (pr2 : 255 < p2) (pr3 : 255 < (gcv (lo8 p2) (hi8 p2))) : Mt false [] l Y14 C14 (rmk 3 2 6 40) #[.ref a1, .int 0, .int 2] Z a0 h0 n0 (KpV h0 [] fun v h => ∃ u1 : Addr, v = (.ref u1) ∧ h0.size ≤ u1 ∧ Ary Z h u1 ATB 4 (bv (lvi [(lo8 p2), (hi8 p2), (lo8 p3), (hi8 p3)]))) := by
  refine Mt.go PN14 (Or.inl rfl) ef_RII_6 fun k => ?_
  replace k := k |>.iloadN D14_0 rfl
  obtain ⟨b1, h1, g1, K1, O1, k⟩ := k.newP (aty := .byte) "[B" (w_23 hw) (by decide) D14_1 2 (by decide) (n := 2) (by decide) (by decide) (by decide) (bi_const (L := [0, 0]) rfl)
  replace k := k |>.astoreN D14_3 rfl sto3 |>.aloadN D14_4 rfl rfl |>.iloadN D14_5 rfl |>.aloadN D14_6 rfl rfl |>.iconst D14_7 0 |>.iloadN D14_8 rfl
  have o3 := pr1.keep K1 nin0
  replace k := (k.callS (w_67 hw) (S15 hw) (R_15_5 hw G o3 pr2) D14_9 0 rfl).pv
  replace k := k |>.istore D14_12 sto4 |>.iload D14_14 rfl |>.iloadN D14_16 rfl |>.icmpNo D14_17  |>.aloadN D14_20 rfl rfl |>.iloadN D14_21 rfl |>.iloadN D14_22 rfl
  have z4 := k.sz
  obtain ⟨_, h4, K4, ⟨u1_4, rfl, f4_0, f4_1⟩, k⟩ := (k.callS (w_104 hw) (S16 hw) (R_16_2 hw G o3) D14_23 0 rfl).kv
  replace k := k |>.astore D14_26 rfl sto5 |>.aload D14_28 rfl rfl |>.iload D14_30 rfl
  replace k := (k.callS (w_120 hw) (S20 hw) (R_20_1 hw G f4_1 (by decide) (by decide) (by decide) (by decide) (p2 := 0) (p3 := 4)) D14_32 0 rfl).pv
  replace k := k |>.top (y := (gcv (lo8 p2) (hi8 p2))) rfl |>.sipush D14_35 255 |>.icmpYes D14_38 (tlt pr3).2.2.1 |>.aload D14_54 rfl rfl
  have s_u1_4 := Nat.le_trans z4 f4_0
  exact k.retA D14_56 rfl ⟨_, rfl, (K1.trans K4 all0), u1_4, rfl, s_u1_4, f4_1⟩
theorem R_6_7 {a1 a2 : Addr} {p3 p4 : Int32} (hw : HW a0 Z) (G : Gl Z w_CS w_SF) (pr1 : Ary Z h0 a2 ATC 2 (bv (lvi [p3, p4]))) (pr2 : 255 < p3) (pr3 : 255 < (gcv (lo8 p3) (hi8 p3))) (pr4 : Obj Z h0 a1 L_String [.null, .int 0]) (pr5 : n0 ≤ a1) : Mt false [] l Y6 C6 (rmk 4 2 6 57) #[.ref a1, .ref a2, .int 0, .int 2, .null] Z a0 h0 n0 (K0 h0 [a1] fun h => ∃ u1 : Addr, h0.size ≤ u1 ∧ Obj Z h a1 L_String [.ref u1, .int 1] ∧ Ary Z h u1 ATB 4 (bv (lvi [(lo8 p3), (hi8 p3), (lo8 p4), (hi8 p4)]))) := by
  refine Mt.go PN6 (Or.inl rfl) ef_RRIIN_6 fun k => ?_
  replace k := k |>.aloadN D6_0 rfl rfl |>.initO (w_19 hw) (w_20 hw) (w_21 hw) D6_1 0 |>.iloadN D6_4 rfl |>.ifYes D6_5  |>.getS (fl_44 hw) G.S_CS D6_27 |>.ifNo D6_30 ((if0 _ _).trans (feq G.h_CS).1) |>.aloadN D6_33 rfl rfl |>.iloadN D6_34 rfl |>.iloadN D6_35 rfl
  have z1 := k.sz
  obtain ⟨_, h1, K1, ⟨u1_1, rfl, f1_0, f1_1⟩, k⟩ := (k.callS (w_63 hw) (S14 hw) (R_14_5 hw G pr1 pr2 pr3) D6_36 0 rfl).kv
  replace k := k |>.astore D6_39 rfl sto5 |>.aloadN D6_41 rfl rfl |>.aload D6_42 rfl rfl |>.iloadN D6_44 rfl
  replace k := (k.callS (w_70 hw) (S21 hw) (R_21_1 hw G f1_1 (by decide) (p2 := 2) (p3 := 4)) D6_45 1 rfl).pv
  replace k := k |>.top (y := 1) (by decide)
  have o3 := pr4.keep K1 nin0
  obtain ⟨h4, K4, O4, k⟩ := k.putN (fp_29 hw) (pw_String_i_String_coder hw) o3 1 pr5 (Or.inl rfl) D6_48 rfl (v' := (.int 1)) (by decide) (by decide) ls1
  replace k := k |>.aloadN D6_51 rfl rfl |>.aload D6_52 rfl rfl
  obtain ⟨h5, K5, O5, k⟩ := k.putF (fl_28 hw) (pw_String_i_String_value hw) O4 0 pr5 (Or.inl rfl) D6_54 rfl rfl rfl ls0
  have s_u1_1 := Nat.le_trans z1 f1_0
  have o6 := (f1_1.keep K4 (ninS (nlt' pr4.lt s_u1_1) nin0)).keep K5 (ninS (nlt' pr4.lt s_u1_1) nin0)
  exact k.ret0 D6_57 rfl ⟨rfl, ((((Keep.refl h0 [a1]).trans K1 all0).trans K4 (allS (Or.inl (List.mem_of_getElem? (i := 0) rfl)) all0)).trans K5 (allS (Or.inl (List.mem_of_getElem? (i := 0) rfl)) all0)), u1_1, s_u1_1, O5, o6⟩
theorem R_15_7 {a1 a2 : Addr} {p3 p4 : Int32} (hw : HW a0 Z) (G : Gl Z w_CS w_SF) (pr1 : Ary Z h0 a1 ATC 2 (bv (lvi [p3, p4]))) (pr2 : ¬ (255 < p3)) (pr3 : Ary Z h0 a2 ATB 2 (bv (lvi [0, 0]))) (pr4 : n0 ≤ a2) (pr5 : a1 ≠ a2) (pr6 : 255 < p4) : Mt false [] l Y15 C15 (rmk 0 0 0 0) #[.ref a1, .int 0, .ref a2, .int 0, .int 2] Z a0 h0 n0 (KpV h0 [a2] fun v h => v = (.int 1) ∧ Ary Z h a2 ATB 2 (bv (lvi [(p3.toInt8.toInt32), 0]))) := by
  refine Mt.go PN15 (Or.inl rfl) ef_RIRII_7 fun k => ?_
  replace k := k |>.iconst D15_0 0 |>.istore D15_1 sto5 |>.iload D15_3 rfl |>.iload D15_5 rfl |>.icmpNo D15_7  |>.aloadN D15_10 rfl rfl |>.iloadN D15_11 rfl |>.cald pr1 D15_12 (i := 0) (by decide) big0 |>.istore D15_13 sto6 |>.iload D15_15 rfl |>.sipush D15_17 255 |>.icmpYes D15_20 (flt pr2).2.2.2
  replace k := k |>.aloadN D15_26 rfl rfl |>.iloadN D15_27 rfl |>.iload D15_28 rfl |>.i2b D15_30 rfl
  obtain ⟨h1, K1, O1, k⟩ := k.stB pr3 pr4 (Or.inl rfl) D15_31 (i := 0) (by decide) (v := (.int (p3.toInt8.toInt32))) (congrArg Value.int (own_nnBi2b _)) (own_fitBi2b _) bis0
  replace k := k |>.iinc D15_32 rfl (z := 1) (by decide) sto1 |>.iinc D15_35 rfl (z := 1) (by decide) sto3 |>.iinc D15_38 rfl (z := 1) (by decide) sto5 |>.goto D15_41 |>.iload D15_3 rfl |>.iload D15_5 rfl |>.icmpNo D15_7  |>.aloadN D15_10 rfl rfl |>.iloadN D15_11 rfl
  have o2 := pr1.keep K1 (ninS pr5 nin0)
  replace k := k |>.cald o2 D15_12 (i := 1) (by decide) big1 |>.istore D15_13 sto6 |>.iload D15_15 rfl |>.sipush D15_17 255 |>.icmpNo D15_20 (tlt pr6).2.2.2 |>.iload D15_23 rfl
  exact k.retI D15_25 rfl ⟨_, rfl, K1, rfl, O1⟩
theorem own_d20 {c1 v0 : Int32} (e0 : v0 = (gcv (lo8 c1) (hi8 c1))) (q0 : ¬ (c1 < 0)) (q1 : c1 < 65536) (q2 : 255 < c1) : 255 < v0 := by
  have := rng32 c1
  have : (0 : Int32).toInt = 0 := by decide
  have := i_nlt q0
  have : (65536 : Int32).toInt = 65536 := by decide
  have := i_lt q1
  have : (255 : Int32).toInt = 255 := by decide
  have := i_lt q2
  have := e_gc e0 (by omega) (by omega)
  exact o_lt (by omega)
theorem R_14_7 {a1 : Addr} {p2 p3 : Int32} (hw : HW a0 Z) (G : Gl Z w_CS w_SF) (pr1 : Ary Z h0 a1 ATC 2 (bv (lvi [p2, p3]))) (pr2 : ¬ (255 < p2)) (pr3 : 255 < p3) (pr4 : 255 < (gcv (lo8 p3) (hi8 p3))) : Mt false [] l Y14 C14 (rmk 3 2 6 40) #[.ref a1, .int 0, .int 2] Z a0 h0 n0 (KpV h0 [] fun v h => ∃ u1 : Addr, v = (.ref u1) ∧ h0.size ≤ u1 ∧ Ary Z h u1 ATB 4 (bv (lvi [(lo8 p2), (hi8 p2), (lo8 p3), (hi8 p3)]))) := by
  refine Mt.go PN14 (Or.inl rfl) ef_RII_6 fun k => ?_
  have nz := k.n0le
  replace k := k |>.iloadN D14_0 rfl
  have z1 := k.sz
  obtain ⟨b1, h1, g1, K1, O1, k⟩ := k.newP (aty := .byte) "[B" (w_23 hw) (by decide) D14_1 2 (by decide) (n := 2) (by decide) (by decide) (by decide) (bi_const (L := [0, 0]) rfl)
  replace k := k |>.astoreN D14_3 rfl sto3 |>.aloadN D14_4 rfl rfl |>.iloadN D14_5 rfl |>.aloadN D14_6 rfl rfl |>.iconst D14_7 0 |>.iloadN D14_8 rfl
  have s_b1 := Nat.le_trans z1 g1
  have n_b1 := Nat.le_trans nz s_b1
  have o3 := pr1.keep K1 nin0
  obtain ⟨_, h2, K2, ⟨rfl, f2_0⟩, k⟩ := (k.callS (w_67 hw) (S15 hw) (R_15_7 hw G o3 pr2 O1 n_b1 (nlt pr1.lt s_b1) pr3) D14_9 0 rfl).kv (allS n_b1 all0)
  replace k := k |>.istore D14_12 sto4 |>.iload D14_14 rfl |>.iloadN D14_16 rfl |>.icmpNo D14_17  |>.aloadN D14_20 rfl rfl |>.iloadN D14_21 rfl |>.iloadN D14_22 rfl
  have o5 := o3.keep K2 (ninS (nlt pr1.lt s_b1) nin0)
  have z4 := k.sz
  obtain ⟨_, h4, K4, ⟨u1_4, rfl, f4_0, f4_1⟩, k⟩ := (k.callS (w_104 hw) (S16 hw) (R_16_2 hw G o5) D14_23 0 rfl).kv
  replace k := k |>.astore D14_26 rfl sto5 |>.aload D14_28 rfl rfl |>.iload D14_30 rfl
  replace k := (k.callS (w_120 hw) (S20 hw) (R_20_1 hw G f4_1 (by decide) (by decide) (by decide) (by decide) (p2 := 1) (p3 := 4)) D14_32 0 rfl).pv
  replace k := k |>.top (y := (gcv (lo8 p3) (hi8 p3))) rfl |>.sipush D14_35 255 |>.icmpYes D14_38 (tlt pr4).2.2.1 |>.aload D14_54 rfl rfl
  have s_u1_4 := Nat.le_trans z4 f4_0
  exact k.retA D14_56 rfl ⟨_, rfl, ((K1.trans K2 (allS (Or.inr s_b1) all0)).trans K4 all0), u1_4, rfl, s_u1_4, f4_1⟩
theorem R_6_9 {a1 a2 : Addr} {p3 p4 : Int32} (hw : HW a0 Z) (G : Gl Z w_CS w_SF) (pr1 : Ary Z h0 a2 ATC 2 (bv (lvi [p3, p4]))) (pr2 : ¬ (255 < p3)) (pr3 : 255 < p4) (pr4 : 255 < (gcv (lo8 p4) (hi8 p4))) (pr5 : Obj Z h0 a1 L_String [.null, .int 0]) (pr6 : n0 ≤ a1) : Mt false [] l Y6 C6 (rmk 4 2 6 57) #[.ref a1, .ref a2, .int 0, .int 2, .null] Z a0 h0 n0 (K0 h0 [a1] fun h => ∃ u1 : Addr, h0.size ≤ u1 ∧ Obj Z h a1 L_String [.ref u1, .int 1] ∧ Ary Z h u1 ATB 4 (bv (lvi [(lo8 p3), (hi8 p3), (lo8 p4), (hi8 p4)]))) := by
  refine Mt.go PN6 (Or.inl rfl) ef_RRIIN_6 fun k => ?_
  replace k := k |>.aloadN D6_0 rfl rfl |>.initO (w_19 hw) (w_20 hw) (w_21 hw) D6_1 0 |>.iloadN D6_4 rfl |>.ifYes D6_5  |>.getS (fl_44 hw) G.S_CS D6_27 |>.ifNo D6_30 ((if0 _ _).trans (feq G.h_CS).1) |>.aloadN D6_33 rfl rfl |>.iloadN D6_34 rfl |>.iloadN D6_35 rfl
  have z1 := k.sz
  obtain ⟨_, h1, K1, ⟨u1_1, rfl, f1_0, f1_1⟩, k⟩ := (k.callS (w_63 hw) (S14 hw) (R_14_7 hw G pr1 pr2 pr3 pr4) D6_36 0 rfl).kv
  replace k := k |>.astore D6_39 rfl sto5 |>.aloadN D6_41 rfl rfl |>.aload D6_42 rfl rfl |>.iloadN D6_44 rfl
  replace k := (k.callS (w_70 hw) (S21 hw) (R_21_1 hw G f1_1 (by decide) (p2 := 2) (p3 := 4)) D6_45 1 rfl).pv
  replace k := k |>.top (y := 1) (by decide)
  have o3 := pr5.keep K1 nin0
  obtain ⟨h4, K4, O4, k⟩ := k.putN (fp_29 hw) (pw_String_i_String_coder hw) o3 1 pr6 (Or.inl rfl) D6_48 rfl (v' := (.int 1)) (by decide) (by decide) ls1
  replace k := k |>.aloadN D6_51 rfl rfl |>.aload D6_52 rfl rfl
  obtain ⟨h5, K5, O5, k⟩ := k.putF (fl_28 hw) (pw_String_i_String_value hw) O4 0 pr6 (Or.inl rfl) D6_54 rfl rfl rfl ls0
  have s_u1_1 := Nat.le_trans z1 f1_0
  have o6 := (f1_1.keep K4 (ninS (nlt' pr5.lt s_u1_1) nin0)).keep K5 (ninS (nlt' pr5.lt s_u1_1) nin0)
  exact k.ret0 D6_57 rfl ⟨rfl, ((((Keep.refl h0 [a1]).trans K1 all0).trans K4 (allS (Or.inl (List.mem_of_getElem? (i := 0) rfl)) all0)).trans K5 (allS (Or.inl (List.mem_of_getElem? (i := 0) rfl)) all0)), u1_1, s_u1_1, O5, o6⟩
theorem R_15_8 {a1 a2 : Addr} {p3 p4 : Int32} (hw : HW a0 Z) (G : Gl Z w_CS w_SF) (pr1 : Ary Z h0 a1 ATC 2 (bv (lvi [p3, p4]))) (pr2 : ¬ (255 < p3)) (pr3 : Ary Z h0 a2 ATB 2 (bv (lvi [0, 0]))) (pr4 : n0 ≤ a2) (pr5 : a1 ≠ a2) (pr6 : ¬ (255 < p4)) : Mt false [] l Y15 C15 (rmk 0 0 0 0) #[.ref a1, .int 0, .ref a2, .int 0, .int 2] Z a0 h0 n0 (KpV h0 [a2] fun v h => v = (.int 2) ∧ Ary Z h a2 ATB 2 (bv (lvi [(p3.toInt8.toInt32), (p4.toInt8.toInt32)]))) := by
  refine Mt.go PN15 (Or.inl rfl) ef_RIRII_7 fun k => ?_
  replace k := k |>.iconst D15_0 0 |>.istore D15_1 sto5 |>.iload D15_3 rfl |>.iload D15_5 rfl |>.icmpNo D15_7  |>.aloadN D15_10 rfl rfl |>.iloadN D15_11 rfl |>.cald pr1 D15_12 (i := 0) (by decide) big0 |>.istore D15_13 sto6 |>.iload D15_15 rfl |>.sipush D15_17 255 |>.icmpYes D15_20 (flt pr2).2.2.2
  replace k := k |>.aloadN D15_26 rfl rfl |>.iloadN D15_27 rfl |>.iload D15_28 rfl |>.i2b D15_30 rfl
  obtain ⟨h1, K1, O1, k⟩ := k.stB pr3 pr4 (Or.inl rfl) D15_31 (i := 0) (by decide) (v := (.int (p3.toInt8.toInt32))) (congrArg Value.int (own_nnBi2b _)) (own_fitBi2b _) bis0
  replace k := k |>.iinc D15_32 rfl (z := 1) (by decide) sto1 |>.iinc D15_35 rfl (z := 1) (by decide) sto3 |>.iinc D15_38 rfl (z := 1) (by decide) sto5 |>.goto D15_41 |>.iload D15_3 rfl |>.iload D15_5 rfl |>.icmpNo D15_7  |>.aloadN D15_10 rfl rfl |>.iloadN D15_11 rfl
  have o2 := pr1.keep K1 (ninS pr5 nin0)
  replace k := k |>.cald o2 D15_12 (i := 1) (by decide) big1 |>.istore D15_13 sto6 |>.iload D15_15 rfl |>.sipush D15_17 255 |>.icmpYes D15_20 (flt pr6).2.2.2 |>.aloadN D15_26 rfl rfl |>.iloadN D15_27 rfl |>.iload D15_28 rfl |>.i2b D15_30 rfl
  obtain ⟨h3, K3, O3, k⟩ := k.stB O1 pr4 (Or.inl rfl) D15_31 (i := 1) (by decide) (v := (.int (p4.toInt8.toInt32))) (congrArg Value.int (own_nnBi2b _)) (own_fitBi2b _) bis1
  replace k := k |>.iinc D15_32 rfl (z := 2) (by decide) sto1 |>.iinc D15_35 rfl (z := 2) (by decide) sto3 |>.iinc D15_38 rfl (z := 2) (by decide) sto5 |>.goto D15_41 |>.iload D15_3 rfl |>.iload D15_5 rfl |>.icmpYes D15_7  |>.iload D15_44 rfl
  exact k.retI D15_46 rfl ⟨_, rfl, (K1.trans K3 (allS (Or.inl (List.mem_of_getElem? (i := 0) rfl)) all0)), rfl, O3⟩
theorem R_14_8 {a1 : Addr} {p2 p3 : Int32} (hw : HW a0 Z) (G : Gl Z w_CS w_SF) (pr1 : Ary Z h0 a1 ATC 2 (bv (lvi [p2, p3]))) (pr2 : ¬ (255 < p2)) (pr3 : ¬ (255 < p3)) : Mt false [] l Y14 C14 (rmk 1 1 2 18) #[.ref a1, .int 0, .int 2] Z a0 h0 n0 (KpV h0 [] fun v h => ∃ u1 : Addr, v = (.ref u1) ∧ h0.size ≤ u1 ∧ Ary Z h u1 ATB 2 (bv (lvi [(p2.toInt8.toInt32), (p3.toInt8.toInt32)]))) := by
  refine Mt.go PN14 (Or.inl rfl) ef_RII_6 fun k => ?_
  have nz := k.n0le
  replace k := k |>.iloadN D14_0 rfl
  have z1 := k.sz
  obtain ⟨b1, h1, g1, K1, O1, k⟩ := k.newP (aty := .byte) "[B" (w_23 hw) (by decide) D14_1 2 (by decide) (n := 2) (by decide) (by decide) (by decide) (bi_const (L := [0, 0]) rfl)
  replace k := k |>.astoreN D14_3 rfl sto3 |>.aloadN D14_4 rfl rfl |>.iloadN D14_5 rfl |>.aloadN D14_6 rfl rfl |>.iconst D14_7 0 |>.iloadN D14_8 rfl
  have s_b1 := Nat.le_trans z1 g1
  have n_b1 := Nat.le_trans nz s_b1
  have o3 := pr1.keep K1 nin0
  obtain ⟨_, h2, K2, ⟨rfl, f2_0⟩, k⟩ := (k.callS (w_67 hw) (S15 hw) (R_15_8 hw G o3 pr2 O1 n_b1 (nlt pr1.lt s_b1) pr3) D14_9 0 rfl).kv (allS n_b1 all0)
  replace k := k |>.istore D14_12 sto4 |>.iload D14_14 rfl |>.iloadN D14_16 rfl |>.icmpYes D14_17  |>.aloadN D14_57 rfl rfl
  exact k.retA D14_58 rfl ⟨_, rfl, (K1.trans K2 (allS (Or.inr s_b1) all0)), b1, rfl, s_b1, f2_0⟩
theorem R_6_10 {a1 a2 : Addr} {p3 p4 : Int32} (hw : HW a0 Z) (G : Gl Z w_CS w_SF) (pr1 : Ary Z h0 a2 ATC 2 (bv (lvi [p3, p4]))) (pr2 : ¬ (255 < p3)) (pr3 : ¬ (255 < p4)) (pr4 : Obj Z h0 a1 L_String [.null, .int 0]) (pr5 : n0 ≤ a1) : Mt false [] l Y6 C6 (rmk 2 1 2 35) #[.ref a1, .ref a2, .int 0, .int 2, .null] Z a0 h0 n0 (K0 h0 [a1] fun h => ∃ u1 : Addr, h0.size ≤ u1 ∧ Obj Z h a1 L_String [.ref u1, .int 0] ∧ Ary Z h u1 ATB 2 (bv (lvi [(p3.toInt8.toInt32), (p4.toInt8.toInt32)]))) := by
  refine Mt.go PN6 (Or.inl rfl) ef_RRIIN_6 fun k => ?_
  replace k := k |>.aloadN D6_0 rfl rfl |>.initO (w_19 hw) (w_20 hw) (w_21 hw) D6_1 0 |>.iloadN D6_4 rfl |>.ifYes D6_5  |>.getS (fl_44 hw) G.S_CS D6_27 |>.ifNo D6_30 ((if0 _ _).trans (feq G.h_CS).1) |>.aloadN D6_33 rfl rfl |>.iloadN D6_34 rfl |>.iloadN D6_35 rfl
  have z1 := k.sz
  obtain ⟨_, h1, K1, ⟨u1_1, rfl, f1_0, f1_1⟩, k⟩ := (k.callS (w_63 hw) (S14 hw) (R_14_8 hw G pr1 pr2 pr3) D6_36 0 rfl).kv
  replace k := k |>.astore D6_39 rfl sto5 |>.aloadN D6_41 rfl rfl |>.aload D6_42 rfl rfl |>.iloadN D6_44 rfl
  replace k := (k.callS (w_70 hw) (S21 hw) (R_21_1 hw G f1_1 (by decide) (p2 := 2) (p3 := 2)) D6_45 1 rfl).pv
  replace k := k |>.top (y := 0) (by decide)
  have o3 := pr4.keep K1 nin0
  obtain ⟨h4, K4, O4, k⟩ := k.putN (fp_29 hw) (pw_String_i_String_coder hw) o3 1 pr5 (Or.inl rfl) D6_48 rfl (v' := (.int 0)) (by decide) (by decide) ls1
  replace k := k |>.aloadN D6_51 rfl rfl |>.aload D6_52 rfl rfl
  obtain ⟨h5, K5, O5, k⟩ := k.putF (fl_28 hw) (pw_String_i_String_value hw) O4 0 pr5 (Or.inl rfl) D6_54 rfl rfl rfl ls0
  have s_u1_1 := Nat.le_trans z1 f1_0
  have o6 := (f1_1.keep K4 (ninS (nlt' pr4.lt s_u1_1) nin0)).keep K5 (ninS (nlt' pr4.lt s_u1_1) nin0)
  exact k.ret0 D6_57 rfl ⟨rfl, ((((Keep.refl h0 [a1]).trans K1 all0).trans K4 (allS (Or.inl (List.mem_of_getElem? (i := 0) rfl)) all0)).trans K5 (allS (Or.inl (List.mem_of_getElem? (i := 0) rfl)) all0)), u1_1, s_u1_1, O5, o6⟩
theorem R_newS2 {a1 a2 : Addr} {c0 c1 : Int32} (hw : HW a0 Z) (G : Gl Z w_CS w_SF) (O : Obj Z h0 a1 L_String [.null, .int 0]) (A : Ary Z h0 a2 ATC 2 (bv (lvi [c0, c1]))) (N : n0 ≤ a1) (g0a : ¬ (c0 < 0)) (g0b : c0 < 65536) (g1a : ¬ (c1 < 0)) (g1b : c1 < 65536) : Mt false [] l Y5 C5 (rmk 5 2 6 74) #[.ref a1, .ref a2] Z a0 h0 n0 (K0 h0 [a1] fun h => ∃ u : Addr, Str Z h a1 u [c0, c1]) := by
  refine Mt.go PN5 (Or.inl rfl) ef_RR_2 fun k => ?_
  replace k := k |>.aloadN D5_0 rfl rfl |>.aloadN D5_1 rfl rfl |>.iconst D5_2 0 |>.aloadN D5_3 rfl rfl |>.alen A D5_4 (z := 2) (by decide) |>.aconstNull D5_5
  by_cases hs1 : 255 < c0
  · have z2 := k.sz
    obtain ⟨h2, K2, ⟨u1_2, f2_0, f2_1, f2_2⟩, k⟩ := (k.callI (w_15 hw) (I6 hw) (R_6_7 hw G A hs1 (own_d6 rfl g0a g0b hs1) O N) D5_6 0 rfl).k0 (allS N all0)
    exact k.ret0 D5_9 rfl ⟨rfl, K2, u1_2, ⟨⟨⟨g0a, g0b⟩, ⟨⟨g1a, g1b⟩, trivial⟩⟩, Or.inr ⟨f2_1, f2_2, Or.inl hs1⟩⟩⟩
  · by_cases hs3 : 255 < c1
    · have z4 := k.sz
      obtain ⟨h4, K4, ⟨u1_4, f4_0, f4_1, f4_2⟩, k⟩ := (k.callI (w_15 hw) (I6 hw) (R_6_9 hw G A hs1 hs3 (own_d20 rfl g1a g1b hs3) O N) D5_6 0 rfl).k0 (allS N all0)
      exact k.ret0 D5_9 rfl ⟨rfl, K4, u1_4, ⟨⟨⟨g0a, g0b⟩, ⟨⟨g1a, g1b⟩, trivial⟩⟩, Or.inr ⟨f4_1, f4_2, Or.inr ⟨hs1, Or.inl hs3⟩⟩⟩⟩
    · have z5 := k.sz
      obtain ⟨h5, K5, ⟨u1_5, f5_0, f5_1, f5_2⟩, k⟩ := (k.callI (w_15 hw) (I6 hw) (R_6_10 hw G A hs1 hs3 O N) D5_6 0 rfl).k0 (allS N all0)
      exact k.ret0 D5_9 rfl ⟨rfl, K5, u1_5, ⟨⟨⟨g0a, g0b⟩, ⟨⟨g1a, g1b⟩, trivial⟩⟩, Or.inl ⟨_, f5_1, f5_2, ⟨hs1, ⟨hs3, trivial⟩⟩⟩⟩⟩
theorem own_d21 {p3 v0 v1 v2 : Int32} (e0 : v0 = (drw p3)) (e1 : v1 = (nar .char v0)) (e2 : v2 = (nar .char v1)) : ¬ (v2 < 0) := by
  have := e_drw e0
  have := e_i2cN e1 (by omega)
  have := e_i2cN e2 (by omega)
  have : (0 : Int32).toInt = 0 := by decide
  exact o_nlt (by omega)
theorem own_d22 {p3 v0 v1 v2 : Int32} (e0 : v0 = (drw p3)) (e1 : v1 = (nar .char v0)) (e2 : v2 = (nar .char v1)) : v2 < 65536 := by
  have := e_drw e0
  have := e_i2cN e1 (by omega)
  have := e_i2cN e2 (by omega)
  have : (65536 : Int32).toInt = 65536 := by decide
  exact o_lt (by omega)
theorem R_len2 {a1 a2 : Addr} {c0 c1 : Int32} (hw : HW a0 Z) (G : Gl Z w_CS w_SF) (S : Str Z h0 a1 a2 [c0, c1]) : Mt false [] l Y8 C8 (rmk 1 0 0 13) #[.ref a1] Z a0 h0 n0 (Pv h0 (.int 2)) := by
  refine Mt.go PN8 (Or.inl rfl) ef_R_1 fun k => ?_
  obtain ⟨⟨⟨g0a, g0b⟩, ⟨g1a, g1b⟩, -⟩, S⟩ := S
  rcases S with ⟨T, O, A, hl⟩ | ⟨O, A, -⟩
  · obtain ⟨l0, l1, -⟩ := hl
    have A : Ary Z h0 a2 (T, .byte) 2 (bv (lvi [(c0.toInt8.toInt32), (c1.toInt8.toInt32)])) := A
    replace k := k |>.aloadN D8_0 rfl rfl |>.getF (fl_28 hw) O 0 D8_1 rfl rfl |>.alen A D8_4 (z := 2) (by decide) |>.aloadN D8_5 rfl rfl
    replace k := (k.callV (w_39 hw) (V_Y9_9_String hw) O.exa (R_9_1 hw G O) D8_6 1 rfl).pv
    replace k := k |>.ishr D8_9 (z := 2)
    exact k.retI D8_10 rfl ⟨rfl, rfl⟩
  · have A : Ary Z h0 a2 ATB 4 (bv (lvi [(lo8 c0), (hi8 c0), (lo8 c1), (hi8 c1)])) := A
    replace k := k |>.aloadN D8_0 rfl rfl |>.getF (fl_28 hw) O 0 D8_1 rfl rfl |>.alen A D8_4 (z := 4) (by decide) |>.aloadN D8_5 rfl rfl
    replace k := (k.callV (w_39 hw) (V_Y9_9_String hw) O.exa (R_9_2 hw G O) D8_6 1 rfl).pv
    replace k := k |>.ishr D8_9 (z := 2)
    exact k.retI D8_10 rfl ⟨rfl, rfl⟩
theorem R_chr2_0 {a1 a2 : Addr} {c0 c1 : Int32} (hw : HW a0 Z) (G : Gl Z w_CS w_SF) (S : Str Z h0 a1 a2 [c0, c1]) : Mt false [] l Y22 C22 (rmk 4 0 0 53) #[.ref a1, .int 0] Z a0 h0 n0 (Pv h0 (.int c0)) := by
  refine Mt.go PN22 (Or.inl rfl) ef_RI_2 fun k => ?_
  obtain ⟨⟨⟨g0a, g0b⟩, ⟨g1a, g1b⟩, -⟩, S⟩ := S
  rcases S with ⟨T, O, A, hl⟩ | ⟨O, A, -⟩
  · obtain ⟨l0, l1, -⟩ := hl
    have A : Ary Z h0 a2 (T, .byte) 2 (bv (lvi [(c0.toInt8.toInt32), (c1.toInt8.toInt32)])) := A
    replace k := k |>.aloadN D22_0 rfl rfl
    replace k := (k.callV (w_78 hw) (V_Y23_23_String hw) O.exa (R_23_1 hw G O) D22_1 0 rfl).pv
    replace k := k |>.ifNo D22_4  |>.aloadN D22_7 rfl rfl |>.getF (fl_28 hw) O 0 D22_8 rfl rfl |>.iloadN D22_11 rfl
    replace k := (k.callS (w_83 hw) (S24 hw) (R_24_1 hw G A (by decide) (by decide) (by decide) (p2 := 0) (p3 := 2)) D22_12 0 rfl).pv
    replace k := k |>.top (y := (latc (c0.toInt8.toInt32))) rfl
    exact k.retN (t := .char) D22_15 rfl (by simp) (own_nnCi2c _) ⟨congrArg some (congrArg Value.int (own_d9 rfl g0a g0b l0)), rfl⟩
  · have A : Ary Z h0 a2 ATB 4 (bv (lvi [(lo8 c0), (hi8 c0), (lo8 c1), (hi8 c1)])) := A
    replace k := k |>.aloadN D22_0 rfl rfl
    replace k := (k.callV (w_78 hw) (V_Y23_23_String hw) O.exa (R_23_2 hw G O) D22_1 0 rfl).pv
    replace k := k |>.ifYes D22_4  |>.aloadN D22_16 rfl rfl |>.getF (fl_28 hw) O 0 D22_17 rfl rfl |>.iloadN D22_20 rfl
    replace k := (k.callS (w_123 hw) (S27 hw) (R_27_1 hw G A (by decide) (by decide) (by decide) (by decide) (by decide) (by decide) (by decide) (p2 := 0) (p3 := 4)) D22_21 0 rfl).pv
    replace k := k |>.top (y := (gcv (lo8 c0) (hi8 c0))) rfl
    exact k.retN (t := .char) D22_24 rfl (by simp) (own_nnCi2c _) ⟨congrArg some (congrArg Value.int (own_d10 rfl g0a g0b)), rfl⟩
theorem own_d23 {c1 v0 : Int32} (e0 : v0 = (latc (c1.toInt8.toInt32))) (q0 : ¬ (c1 < 0)) (q1 : c1 < 65536) (q2 : ¬ (255 < c1)) : v0 = c1 := by
  have := rng32 c1
  have : (0 : Int32).toInt = 0 := by decide
  have := i_nlt q0
  have : (65536 : Int32).toInt = 65536 := by decide
  have := i_lt q1
  have : (255 : Int32).toInt = 255 := by decide
  have := i_nlt q2
  have := e_lat e0 (by omega) (by omega)
  exact o_eq (by omega)
theorem own_d24 {c1 v0 : Int32} (e0 : v0 = (gcv (lo8 c1) (hi8 c1))) (q0 : ¬ (c1 < 0)) (q1 : c1 < 65536) : v0 = c1 := by
  have := rng32 c1
  have : (0 : Int32).toInt = 0 := by decide
  have := i_nlt q0
  have : (65536 : Int32).toInt = 65536 := by decide
  have := i_lt q1
  have := e_gc e0 (by omega) (by omega)
  exact o_eq (by omega)
theorem R_chr2_1 {a1 a2 : Addr} {c0 c1 : Int32} (hw : HW a0 Z) (G : Gl Z w_CS w_SF) (S : Str Z h0 a1 a2 [c0, c1]) : Mt false [] l Y22 C22 (rmk 4 0 0 53) #[.ref a1, .int 1] Z a0 h0 n0 (Pv h0 (.int c1)) := by
  refine Mt.go PN22 (Or.inl rfl) ef_RI_2 fun k => ?_
  obtain ⟨⟨⟨g0a, g0b⟩, ⟨g1a, g1b⟩, -⟩, S⟩ := S
  rcases S with ⟨T, O, A, hl⟩ | ⟨O, A, -⟩
  · obtain ⟨l0, l1, -⟩ := hl
    have A : Ary Z h0 a2 (T, .byte) 2 (bv (lvi [(c0.toInt8.toInt32), (c1.toInt8.toInt32)])) := A
    replace k := k |>.aloadN D22_0 rfl rfl
    replace k := (k.callV (w_78 hw) (V_Y23_23_String hw) O.exa (R_23_1 hw G O) D22_1 0 rfl).pv
    replace k := k |>.ifNo D22_4  |>.aloadN D22_7 rfl rfl |>.getF (fl_28 hw) O 0 D22_8 rfl rfl |>.iloadN D22_11 rfl
    replace k := (k.callS (w_83 hw) (S24 hw) (R_24_1 hw G A (by decide) (by decide) (by decide) (p2 := 1) (p3 := 2)) D22_12 0 rfl).pv
    replace k := k |>.top (y := (latc (c1.toInt8.toInt32))) rfl
    exact k.retN (t := .char) D22_15 rfl (by simp) (own_nnCi2c _) ⟨congrArg some (congrArg Value.int (own_d23 rfl g1a g1b l1)), rfl⟩
  · have A : Ary Z h0 a2 ATB 4 (bv (lvi [(lo8 c0), (hi8 c0), (lo8 c1), (hi8 c1)])) := A
    replace k := k |>.aloadN D22_0 rfl rfl
    replace k := (k.callV (w_78 hw) (V_Y23_23_String hw) O.exa (R_23_2 hw G O) D22_1 0 rfl).pv
    replace k := k |>.ifYes D22_4  |>.aloadN D22_16 rfl rfl |>.getF (fl_28 hw) O 0 D22_17 rfl rfl |>.iloadN D22_20 rfl
    replace k := (k.callS (w_123 hw) (S27 hw) (R_27_1 hw G A (by decide) (by decide) (by decide) (by decide) (by decide) (by decide) (by decide) (p2 := 1) (p3 := 4)) D22_21 0 rfl).pv
    replace k := k |>.top (y := (gcv (lo8 c1) (hi8 c1))) rfl
    exact k.retN (t := .char) D22_24 rfl (by simp) (own_nnCi2c _) ⟨congrArg some (congrArg Value.int (own_d24 rfl g1a g1b)), rfl⟩
theorem R_8_4 {a1 a2 : Addr} {p3 p4 : Int32} (hw : HW a0 Z) (G : Gl Z w_CS w_SF) (pr1 : Obj Z h0 a1 litL [.ref a2, .int 0]) (pr2 : Ary Z h0 a2 (T, .byte) 2 (bv (lvi [p3, p4]))) : Mt false [] l Y8 C8 (rmk 1 0 0 13) #[.ref a1] Z a0 h0 n0 (Pv h0 (.int 2)) := by
  refine Mt.go PN8 (Or.inl rfl) ef_R_1 fun k => ?_
  replace k := k |>.aloadN D8_0 rfl rfl |>.getF (fl_28 hw) pr1 0 D8_1 rfl rfl |>.alen pr2 D8_4 (z := 2) (by decide) |>.aloadN D8_5 rfl rfl
  replace k := (k.callV (w_39 hw) (V_Y9_9_String hw) pr1.exa (R_9_1 hw G pr1) D8_6 1 rfl).pv
  replace k := k |>.ishr D8_9 (z := 2)
  exact k.retI D8_10 rfl ⟨rfl, rfl⟩
theorem R_8_5 {a1 a2 : Addr} {p3 p4 p5 p6 : Int32} (hw : HW a0 Z) (G : Gl Z w_CS w_SF) (pr1 : Obj Z h0 a1 litL [.ref a2, .int 1]) (pr2 : Ary Z h0 a2 ATB 4 (bv (lvi [p3, p4, p5, p6]))) : Mt false [] l Y8 C8 (rmk 1 0 0 13) #[.ref a1] Z a0 h0 n0 (Pv h0 (.int 2)) := by
  refine Mt.go PN8 (Or.inl rfl) ef_R_1 fun k => ?_
  replace k := k |>.aloadN D8_0 rfl rfl |>.getF (fl_28 hw) pr1 0 D8_1 rfl rfl |>.alen pr2 D8_4 (z := 4) (by decide) |>.aloadN D8_5 rfl rfl
  replace k := (k.callV (w_39 hw) (V_Y9_9_String hw) pr1.exa (R_9_2 hw G pr1) D8_6 1 rfl).pv
  replace k := k |>.ishr D8_9 (z := 2)
  exact k.retI D8_10 rfl ⟨rfl, rfl⟩
theorem R_sub2_0_2 {a1 a2 : Addr} {c0 c1 : Int32} (hw : HW a0 Z) (G : Gl Z w_CS w_SF) (S : Str Z h0 a1 a2 [c0, c1]) : Mt false [] l Y10 C10 (rmk 2 0 0 29) #[.ref a1, .int 0, .int 2] Z a0 h0 n0 (KpV h0 [] fun v h => ∃ u w : Addr, v = .ref u ∧ Str Z h u w [c0, c1]) := by
  refine Mt.go PN10 (Or.inl rfl) ef_RII_5 fun k => ?_
  have S0 := S
  obtain ⟨⟨⟨g0a, g0b⟩, ⟨g1a, g1b⟩, -⟩, S⟩ := S
  rcases S with ⟨T, O, A, hl⟩ | ⟨O, A, -⟩
  · obtain ⟨l0, l1, -⟩ := hl
    have A : Ary Z h0 a2 (T, .byte) 2 (bv (lvi [(c0.toInt8.toInt32), (c1.toInt8.toInt32)])) := A
    replace k := k |>.aloadN D10_0 rfl rfl
    replace k := (k.callV (w_50 hw) (V_Y8_8_String hw) O.exa (R_8_4 hw G O A) D10_1 0 rfl).pv
    replace k := k |>.istoreN D10_4 sto3 |>.iloadN D10_5 rfl |>.iloadN D10_6 rfl |>.iloadN D10_7 rfl
    replace k := (k.callS (w_51 hw) (S11 hw) (R_11_1 hw G (by decide) (by decide) (by decide) (p1 := 0) (p2 := 2) (p3 := 2)) D10_8 0 rfl).p0
    replace k := k |>.iloadN D10_11 rfl |>.ifNo D10_12  |>.iloadN D10_15 rfl |>.iloadN D10_16 rfl |>.icmpNo D10_17  |>.aloadN D10_20 rfl rfl
    exact k.retA D10_21 rfl ⟨_, rfl, (Keep.refl h0 []), a1, a2, rfl, S0⟩
  · have A : Ary Z h0 a2 ATB 4 (bv (lvi [(lo8 c0), (hi8 c0), (lo8 c1), (hi8 c1)])) := A
    replace k := k |>.aloadN D10_0 rfl rfl
    replace k := (k.callV (w_50 hw) (V_Y8_8_String hw) O.exa (R_8_5 hw G O A) D10_1 0 rfl).pv
    replace k := k |>.istoreN D10_4 sto3 |>.iloadN D10_5 rfl |>.iloadN D10_6 rfl |>.iloadN D10_7 rfl
    replace k := (k.callS (w_51 hw) (S11 hw) (R_11_1 hw G (by decide) (by decide) (by decide) (p1 := 0) (p2 := 2) (p3 := 2)) D10_8 0 rfl).p0
    replace k := k |>.iloadN D10_11 rfl |>.ifNo D10_12  |>.iloadN D10_15 rfl |>.iloadN D10_16 rfl |>.icmpNo D10_17  |>.aloadN D10_20 rfl rfl
    exact k.retA D10_21 rfl ⟨_, rfl, (Keep.refl h0 []), a1, a2, rfl, S0⟩
theorem R_7_8 {a1 a2 : Addr} {p3 p4 : Int32} (hw : HW a0 Z) (G : Gl Z w_CS w_SF) (pr1 : Str Z h0 a1 a2 [p3, p4]) (pr2 : (bl p3) = 0) (pr3 : (bl p4) = 0) : Mt false [] l Y7 C7 (rmk 5 0 0 66) #[.ref a1] Z a0 h0 n0 (KpV h0 [] fun v h => ∃ u1 u2 : Addr, v = (.ref u1) ∧ Str Z h u1 u2 [p3, p4]) := by
  refine Mt.go PN7 (Or.inl rfl) ef_R_3 fun k => ?_
  replace k := k |>.iconst D7_0 0 |>.istoreN D7_1 sto1 |>.aloadN D7_2 rfl rfl
  replace k := (k.callV (w_34 hw) (V_Y8_8_String hw) pr1.exa (R_len2 hw G pr1) D7_3 0 rfl).pv
  replace k := k |>.istoreN D7_6 sto2 |>.iloadN D7_7 rfl |>.iloadN D7_8 rfl |>.icmpNo D7_9  |>.aloadN D7_12 rfl rfl |>.iloadN D7_13 rfl
  replace k := (k.callV (w_73 hw) (V_Y22_22_String hw) pr1.exa (R_chr2_0 hw G pr1) D7_14 0 rfl).pv
  replace k := (k.callS (w_93 hw) (S2 hw) (R_own_isBlank hw G) D7_17 0 rfl).pv
  replace k := k |>.ifYes D7_20 ((if0 _ _).trans (teq pr2).1) |>.iloadN D7_29 rfl |>.iloadN D7_30 rfl |>.icmpNo D7_31  |>.aloadN D7_34 rfl rfl |>.iloadN D7_35 rfl |>.iconst D7_36 1 |>.isub D7_37 (z := 1)
  replace k := (k.callV (w_73 hw) (V_Y22_22_String hw) pr1.exa (R_chr2_1 hw G pr1) D7_38 0 rfl).pv
  replace k := (k.callS (w_93 hw) (S2 hw) (R_own_isBlank hw G) D7_41 0 rfl).pv
  replace k := k |>.ifYes D7_44 ((if0 _ _).trans (teq pr3).1) |>.aloadN D7_53 rfl rfl |>.iloadN D7_54 rfl |>.iloadN D7_55 rfl
  obtain ⟨_, h1, K1, ⟨u1, w1, rfl, S1⟩, k⟩ := (k.callV (w_45 hw) (V_Y10_10_String hw) pr1.exa (R_sub2_0_2 hw G pr1) D7_56 0 rfl).kv
  exact k.retA D7_59 rfl ⟨_, rfl, K1, u1, w1, rfl, S1⟩
theorem own_d25 {p1 v0 v1 : Int32} (e0 : v0 = (p1 &&& 2147483647)) (e1 : v1 = (v0 % 5)) (q0 : ¬ (v1 = 0)) (q1 : ¬ (v1 = 1)) (q2 : v1 = 2) : 0 < v1 := by
  have := rng32 p1
  have : (2147483647 : Int32).toInt = 2147483647 := by decide
  have := e_mask e0 31 2147483648
  have : (5 : Int32).toInt = 5 := by decide
  have := e_iremN e1 5 (by omega)
  have : (0 : Int32).toInt = 0 := by decide
  have := i_neq q0
  have : (1 : Int32).toInt = 1 := by decide
  have := i_neq q1
  have : (2 : Int32).toInt = 2 := by decide
  have := i_eq q2
  exact o_lt (by omega)
theorem own_d26 {p1 v0 v1 : Int32} (e0 : v0 = (p1 &&& 2147483647)) (e1 : v1 = (v0 % 5)) (q0 : ¬ (v1 = 0)) (q1 : ¬ (v1 = 1)) (q2 : v1 = 2) : 1 < v1 := by
  have := rng32 p1
  have : (2147483647 : Int32).toInt = 2147483647 := by decide
  have := e_mask e0 31 2147483648
  have : (5 : Int32).toInt = 5 := by decide
  have := e_iremN e1 5 (by omega)
  have : (0 : Int32).toInt = 0 := by decide
  have := i_neq q0
  have : (1 : Int32).toInt = 1 := by decide
  have := i_neq q1
  have : (2 : Int32).toInt = 2 := by decide
  have := i_eq q2
  exact o_lt (by omega)
theorem D3_94 : Dc code 94 (.aload 6) 2 96 := ⟨at_94, rfl⟩
theorem D3_96 : Dc code 96 (.iconst 1) 1 97 := ⟨at_96, rfl⟩
theorem D3_97 : Dc code 97 .caload 1 98 := ⟨at_97, rfl⟩
theorem D3_98 : Dc code 98 (.invokestatic 29) 3 101 := ⟨at_98, rfl⟩
theorem D3_101 : Dj code 101 (.ifCond .ne 7) 7 104 108 := ⟨at_101, rfl, by decide, by decide⟩
theorem own_d27 {p3 v0 v1 v2 v3 v4 : Int32} (e0 : v0 = (drw p3)) (e1 : v1 = (nar .char v0)) (e2 : v2 = (nar .char v1)) (e3 : v3 = (bl v2)) (e4 : v4 = (bl v1)) (q0 : v3 = 0) : v4 = 0 := by
  have := e_drw e0
  have := e_i2cN e1 (by omega)
  have := e_i2cN e2 (by omega)
  have := e_bl e3
  have : (0 : Int32).toInt = 0 := by decide
  have := i_eq q0
  have := e_bl e4
  exact o_eq (by omega)
theorem D3_104 : Dc code 104 (.iconst 1) 1 105 := ⟨at_104, rfl⟩
theorem D3_105 : Dj code 105 (.goto 4) 4 108 109 := ⟨at_105, rfl, by decide, by decide⟩
theorem own_d28 {p1 v0 v1 : Int32} (e0 : v0 = (p1 &&& 2147483647)) (e1 : v1 = (v0 % 5)) (q0 : ¬ (v1 = 0)) (q1 : ¬ (v1 = 1)) (q2 : v1 = 2) : ¬ (2 < v1) := by
  have := rng32 p1
  have : (2147483647 : Int32).toInt = 2147483647 := by decide
  have := e_mask e0 31 2147483648
  have : (5 : Int32).toInt = 5 := by decide
  have := e_iremN e1 5 (by omega)
  have : (0 : Int32).toInt = 0 := by decide
  have := i_neq q0
  have : (1 : Int32).toInt = 1 := by decide
  have := i_neq q1
  have : (2 : Int32).toInt = 2 := by decide
  have := i_eq q2
  exact o_nlt (by omega)
theorem own_d29 {p1 v0 v1 : Int32} (e0 : v0 = (p1 &&& 2147483647)) (e1 : v1 = (v0 % 5)) (q0 : ¬ (v1 = 0)) (q1 : ¬ (v1 = 1)) (q2 : v1 = 2) : ¬ (3 < v1) := by
  have := rng32 p1
  have : (2147483647 : Int32).toInt = 2147483647 := by decide
  have := e_mask e0 31 2147483648
  have : (5 : Int32).toInt = 5 := by decide
  have := e_iremN e1 5 (by omega)
  have : (0 : Int32).toInt = 0 := by decide
  have := i_neq q0
  have : (1 : Int32).toInt = 1 := by decide
  have := i_neq q1
  have : (2 : Int32).toInt = 2 := by decide
  have := i_eq q2
  have : (3 : Int32).toInt = 3 := by decide
  exact o_nlt (by omega)
theorem D3_220 : Dc code 220 (.iconst 2) 1 221 := ⟨at_220, rfl⟩
theorem D3_221 : Dj code 221 (.goto 14) 14 224 235 := ⟨at_221, rfl, by decide, by decide⟩
theorem R_13_9 {a1 a2 a3 : Addr} {p4 p5 p6 p7 p8 p9 : Int32} (hw : HW a0 Z) (G : Gl Z w_CS w_SF) (pr1 : Str Z h0 a1 a3 [p4, p5]) (pr2 : Ary Z h0 a2 ATC 4 (bv (lvi [p6, p7, p8, p9]))) (pr3 : p4 = p6) : Mt false [] l Y13 C13 (rmk 5 0 0 66) #[.ref a1, .int 0, .ref a2, .int 0] Z a0 h0 n0 (Pv h0 (.int 1)) := by
  refine Mt.go PN13 (Or.inl rfl) ef_RIRI_4 fun k => ?_
  replace k := k |>.iloadN D13_0 rfl |>.aloadN D13_1 rfl rfl
  replace k := (k.callV (w_59 hw) (V_Y8_8_String hw) pr1.exa (R_len2 hw G pr1) D13_2 1 rfl).pv
  replace k := k |>.icmpNo D13_5  |>.aloadN D13_8 rfl rfl |>.iloadN D13_9 rfl
  replace k := (k.callV (w_133 hw) (V_Y22_22_String hw) pr1.exa (R_chr2_0 hw G pr1) D13_10 0 rfl).pv
  replace k := k |>.aloadN D13_13 rfl rfl |>.iloadN D13_14 rfl |>.iloadN D13_15 rfl |>.iadd D13_16 (z := 0) |>.cald pr2 D13_17 (i := 0) (by decide) big0 |>.icmpNo D13_18 (teq pr3).2 |>.iconst D13_21 1 |>.goto D13_22
  exact k.retN (t := .boolean) D13_26 rfl (by simp) (z' := 1) (by decide) ⟨rfl, rfl⟩
theorem own_d30 {p3 v0 v1 v2 v3 : Int32} (e0 : v0 = (drw p3)) (e1 : v1 = (nar .char v0)) (e2 : v2 = (nar .char v1)) (e3 : v3 = (bl v2)) (q0 : v3 = 0) : v2 = v1 := by
  have := e_drw e0
  have := e_i2cN e1 (by omega)
  have := e_i2cN e2 (by omega)
  have := e_bl e3
  have : (0 : Int32).toInt = 0 := by decide
  have := i_eq q0
  exact o_eq (by omega)
theorem R_13_10 {a1 a2 a3 : Addr} {p4 p5 p6 p7 p8 p9 : Int32} (hw : HW a0 Z) (G : Gl Z w_CS w_SF) (pr1 : Str Z h0 a1 a3 [p4, p5]) (pr2 : Ary Z h0 a2 ATC 4 (bv (lvi [p6, p7, p8, p9]))) (pr3 : p5 = p7) : Mt false [] l Y13 C13 (rmk 5 0 0 66) #[.ref a1, .int 1, .ref a2, .int 0] Z a0 h0 n0 (Pv h0 (.int 1)) := by
  refine Mt.go PN13 (Or.inl rfl) ef_RIRI_4 fun k => ?_
  replace k := k |>.iloadN D13_0 rfl |>.aloadN D13_1 rfl rfl
  replace k := (k.callV (w_59 hw) (V_Y8_8_String hw) pr1.exa (R_len2 hw G pr1) D13_2 1 rfl).pv
  replace k := k |>.icmpNo D13_5  |>.aloadN D13_8 rfl rfl |>.iloadN D13_9 rfl
  replace k := (k.callV (w_133 hw) (V_Y22_22_String hw) pr1.exa (R_chr2_1 hw G pr1) D13_10 0 rfl).pv
  replace k := k |>.aloadN D13_13 rfl rfl |>.iloadN D13_14 rfl |>.iloadN D13_15 rfl |>.iadd D13_16 (z := 1) |>.cald pr2 D13_17 (i := 1) (by decide) big1 |>.icmpNo D13_18 (teq pr3).2 |>.iconst D13_21 1 |>.goto D13_22
  exact k.retN (t := .boolean) D13_26 rfl (by simp) (z' := 1) (by decide) ⟨rfl, rfl⟩
theorem R_13_11 {a1 a2 a3 : Addr} {p4 p5 : Int32} (hw : HW a0 Z) (G : Gl Z w_CS w_SF) (pr1 : Str Z h0 a1 a3 [p4, p5]) : Mt false [] l Y13 C13 (rmk 2 0 0 26) #[.ref a1, .int 2, .ref a2, .int 0] Z a0 h0 n0 (Pv h0 (.int 1)) := by
  refine Mt.go PN13 (Or.inl rfl) ef_RIRI_4 fun k => ?_
  replace k := k |>.iloadN D13_0 rfl |>.aloadN D13_1 rfl rfl
  replace k := (k.callV (w_59 hw) (V_Y8_8_String hw) pr1.exa (R_len2 hw G pr1) D13_2 1 rfl).pv
  replace k := k |>.icmpYes D13_5  |>.iconst D13_21 1 |>.goto D13_22
  exact k.retN (t := .boolean) D13_26 rfl (by simp) (z' := 1) (by decide) ⟨rfl, rfl⟩
theorem R_13_12 {a1 a2 a3 : Addr} {p4 p5 : Int32} (hw : HW a0 Z) (G : Gl Z w_CS w_SF) (pr1 : Str Z h0 a1 a3 [p4, p5]) : Mt false [] l Y13 C13 (rmk 2 0 0 26) #[.ref a1, .int 3, .ref a2, .int 0] Z a0 h0 n0 (Pv h0 (.int 1)) := by
  refine Mt.go PN13 (Or.inl rfl) ef_RIRI_4 fun k => ?_
  replace k := k |>.iloadN D13_0 rfl |>.aloadN D13_1 rfl rfl
  replace k := (k.callV (w_59 hw) (V_Y8_8_String hw) pr1.exa (R_len2 hw G pr1) D13_2 1 rfl).pv
  replace k := k |>.icmpYes D13_5  |>.iconst D13_21 1 |>.goto D13_22
  exact k.retN (t := .boolean) D13_26 rfl (by simp) (z' := 1) (by decide) ⟨rfl, rfl⟩
theorem D7_47 : Dc J7 47 (.iinc 2 (-1)) 3 50 := by decide +kernel
theorem D7_50 : Dj J7 50 (.goto (-21)) (-21) 53 29 := by decide +kernel
theorem D30_7 : Dc J30 7 (.new 1) 3 10 := by decide +kernel
abbrev w_176 (hw : HW a0 Z) := hw.at 176 rfl
theorem D30_10 : Dc J30 10 .dup 1 11 := by decide +kernel
theorem D30_11 : Dc J30 11 (.aload_n 0) 1 12 := by decide +kernel
theorem D30_12 : Dc J30 12 (.iload_n 1) 1 13 := by decide +kernel
theorem D30_13 : Dc J30 13 (.iload_n 1) 1 14 := by decide +kernel
theorem D30_14 : Dc J30 14 (.iload_n 2) 1 15 := by decide +kernel
theorem D30_15 : Dc J30 15 .iadd 1 16 := by decide +kernel
theorem D30_16 : Dc J30 16 (.invokestatic 232) 3 19 := by decide +kernel
abbrev Y31 : MethodName := ⟨"java/util/Arrays", "copyOfRange", "([BII)[B"⟩
abbrev J31 := jdk_65_method_132_code
abbrev C31 : Cond := .code Y31 J31 3 (some (.array .byte))
theorem D31_0 : Dc J31 0 (.iload_n 1) 1 1 := by decide +kernel
theorem D31_1 : Dj J31 1 (.ifCond .ne 9) 9 4 10 := by decide +kernel
theorem D31_4 : Dc J31 4 (.iload_n 2) 1 5 := by decide +kernel
theorem D31_5 : Dc J31 5 (.aload_n 0) 1 6 := by decide +kernel
theorem D31_6 : Dc J31 6 .arraylength 1 7 := by decide +kernel
theorem D31_7 : Dj J31 7 (.if_icmp .eq 10) 10 10 17 := by decide +kernel
theorem D31_10 : Dc J31 10 (.aload_n 0) 1 11 := by decide +kernel
theorem D31_11 : Dc J31 11 (.iload_n 1) 1 12 := by decide +kernel
theorem D31_12 : Dc J31 12 (.iload_n 2) 1 13 := by decide +kernel
theorem D31_13 : Dc J31 13 (.invokestatic 339) 3 16 := by decide +kernel
abbrev Y32 : MethodName := ⟨"java/util/Arrays", "copyOfRangeByte", "([BII)[B"⟩
abbrev J32 := jdk_65_method_133_code
abbrev C32 : Cond := .code Y32 J32 5 (some (.array .byte))
theorem D32_0 : Dc J32 0 (.iload_n 1) 1 1 := by decide +kernel
theorem D32_1 : Dc J32 1 (.iload_n 2) 1 2 := by decide +kernel
theorem D32_2 : Dc J32 2 (.invokestatic 343) 3 5 := by decide +kernel
abbrev Y33 : MethodName := ⟨"java/util/Arrays", "checkLength", "(II)V"⟩
abbrev J33 := jdk_65_method_131_code
abbrev C33 : Cond := .code Y33 J33 2 none
theorem D33_0 : Dc J33 0 (.iload_n 1) 1 1 := by decide +kernel
theorem D33_1 : Dc J33 1 (.iload_n 0) 1 2 := by decide +kernel
theorem D33_2 : Dj J33 2 (.if_icmp .ge 35) 35 5 37 := by decide +kernel
theorem D33_37 : Dc J33 37 .return_ 1 38 := by decide +kernel
theorem pn_Arrays : plainName "java/util/Arrays" = true := by first | (simp [plainName, overriddenIn]; done) | decide +kernel
theorem PN33 : plainFor Y33 = true := plainFor_of_name pn_Arrays
theorem R_33_1 {p1 p2 : Int32} (hw : HW a0 Z) (G : Gl Z w_CS w_SF) (pr1 : ¬ (p2 < p1)) : Mt false [] l Y33 C33 (rmk 0 0 0 0) #[.int p1, .int p2] Z a0 h0 n0 (P0 h0) := by
  refine Mt.go PN33 (Or.inl rfl) ef_II_2 fun k => ?_
  replace k := k |>.iloadN D33_0 rfl |>.iloadN D33_1 rfl |>.icmpYes D33_2 (flt pr1).2.1
  exact k.ret0 D33_37 rfl ⟨rfl, rfl⟩
abbrev w_160 (hw : HW a0 Z) := hw.at 160 rfl
abbrev w_162 (hw : HW a0 Z) := hw.at 162 rfl
abbrev w_155 (hw : HW a0 Z) := hw.at 155 rfl
abbrev w_161 (hw : HW a0 Z) := hw.at 161 rfl
theorem S33 (hw : HW a0 Z) : SC Z a0 Y33 C33 2 none 2 := ⟨(w_161 hw), ⟨⟨_, Or.inl rfl⟩, (w_162 hw), (w_155 hw), by decide, _, _, pd_II_r_V, rfl⟩⟩
theorem D32_5 : Dc J32 5 (.iload_n 2) 1 6 := by decide +kernel
theorem D32_6 : Dc J32 6 (.iload_n 1) 1 7 := by decide +kernel
theorem D32_7 : Dc J32 7 .isub 1 8 := by decide +kernel
theorem D32_8 : Dc J32 8 (.istore_n 3) 1 9 := by decide +kernel
theorem D32_9 : Dc J32 9 (.iload_n 3) 1 10 := by decide +kernel
theorem D32_10 : Dc J32 10 (.newarray .byte) 2 12 := by decide +kernel
theorem D32_12 : Dc J32 12 (.astore 4) 2 14 := by decide +kernel
theorem D32_14 : Dc J32 14 (.aload_n 0) 1 15 := by decide +kernel
theorem D32_15 : Dc J32 15 (.iload_n 1) 1 16 := by decide +kernel
theorem D32_16 : Dc J32 16 (.aload 4) 2 18 := by decide +kernel
theorem D32_18 : Dc J32 18 (.iconst 0) 1 19 := by decide +kernel
theorem D32_19 : Dc J32 19 (.aload_n 0) 1 20 := by decide +kernel
theorem D32_20 : Dc J32 20 .arraylength 1 21 := by decide +kernel
theorem D32_21 : Dc J32 21 (.iload_n 1) 1 22 := by decide +kernel
theorem D32_22 : Dc J32 22 .isub 1 23 := by decide +kernel
theorem D32_23 : Dc J32 23 (.iload_n 3) 1 24 := by decide +kernel
theorem D32_24 : Dc J32 24 (.invokestatic 304) 3 27 := by decide +kernel
abbrev Y34 : MethodName := ⟨"java/lang/Math", "min", "(II)I"⟩
abbrev J34 := jdk_29_method_69_code
abbrev C34 : Cond := .code Y34 J34 2 (some .int)
theorem D34_0 : Dc J34 0 (.iload_n 0) 1 1 := by decide +kernel
theorem D34_1 : Dc J34 1 (.iload_n 1) 1 2 := by decide +kernel
theorem D34_2 : Dj J34 2 (.if_icmp .gt 7) 7 5 9 := by decide +kernel
theorem D34_9 : Dc J34 9 (.iload_n 1) 1 10 := by decide +kernel
theorem D34_10 : Dc J34 10 .ireturn 1 11 := by decide +kernel
theorem PN34 : plainFor Y34 = true := Jvm.Free.JP.mathPlain rfl (by decide +kernel)
theorem R_34_1 {p1 p2 : Int32} (hw : HW a0 Z) (G : Gl Z w_CS w_SF) (pr1 : p2 < p1) : Mt false [] l Y34 C34 (rmk 0 0 0 0) #[.int p1, .int p2] Z a0 h0 n0 (Pv h0 (.int p2)) := by
  refine Mt.go PN34 (Or.inl rfl) ef_II_2 fun k => ?_
  replace k := k |>.iloadN D34_0 rfl |>.iloadN D34_1 rfl |>.icmpYes D34_2 (tlt pr1).2.2.1 |>.iloadN D34_9 rfl
  exact k.retI D34_10 rfl ⟨rfl, rfl⟩
abbrev w_163 (hw : HW a0 Z) := hw.at 163 rfl
abbrev w_166 (hw : HW a0 Z) := hw.at 166 rfl
abbrev w_165 (hw : HW a0 Z) := hw.at 165 rfl
theorem pd_II_r_I : parseMethodDescriptor "(II)I" = some ⟨[.int, .int], some .int⟩ := by decide +kernel
abbrev w_164 (hw : HW a0 Z) := hw.at 164 rfl
theorem S34 (hw : HW a0 Z) : SC Z a0 Y34 C34 2 (some .int) 2 := ⟨(w_164 hw), ⟨⟨_, Or.inl rfl⟩, (w_166 hw), (w_165 hw), by decide, _, _, pd_II_r_I, rfl⟩⟩
theorem D32_27 : Dc J32 27 (.invokestatic 150) 3 30 := by decide +kernel
abbrev w_167 (hw : HW a0 Z) := hw.at 167 rfl
abbrev w_170 (hw : HW a0 Z) := hw.at 170 rfl
abbrev w_168 (hw : HW a0 Z) := hw.at 168 rfl
abbrev w_169 (hw : HW a0 Z) := hw.at 169 rfl
theorem D32_30 : Dc J32 30 (.aload 4) 2 32 := by decide +kernel
theorem D32_32 : Dc J32 32 .areturn 1 33 := by decide +kernel
theorem PN32 : plainFor Y32 = true := plainFor_of_name pn_Arrays
theorem R_32_1 {a1 : Addr} {p2 p3 p4 : Int32} {f5 : Nat → Int32} (hw : HW a0 Z) (G : Gl Z w_CS w_SF) (pr1 : ¬ (p3 < p2)) (pr2 : ¬ ((p3 - p2) < 0)) (pr3 : (p3 - p2).toNatClampNeg ≤ 8) (pr4 : Ary Z h0 a1 (T, .byte) p4.toNatClampNeg (bv f5)) (pr5 : ¬ (p4 < 0)) (pr6 : (p3 - p2) < (p4 - p2)) (pr7 : ¬ (p2 < 0)) (pr8 : p2.toNatClampNeg + (p3 - p2).toNatClampNeg ≤ p4.toNatClampNeg) (pr9 : 0 + (p3 - p2).toNatClampNeg ≤ (p3 - p2).toNatClampNeg) : Mt false [] l Y32 C32 (rmk 1 1 8 18) #[.ref a1, .int p2, .int p3] Z a0 h0 n0 (KpV h0 [] fun v h => ∃ u1 : Addr, v = (.ref u1) ∧ h0.size ≤ u1 ∧ Ary Z h u1 ATB (p3 - p2).toNatClampNeg (bv (cpyi f5 (fun _ => 0) p2.toNatClampNeg 0 (p3 - p2).toNatClampNeg))) := by
  refine Mt.go PN32 (Or.inl rfl) ef_RII_5 fun k => ?_
  have nz := k.n0le
  replace k := k |>.iloadN D32_0 rfl |>.iloadN D32_1 rfl
  replace k := (k.callS (w_160 hw) (S33 hw) (R_33_1 hw G pr1) D32_2 0 rfl).p0
  replace k := k |>.iloadN D32_5 rfl |>.iloadN D32_6 rfl |>.isub D32_7 rfl |>.istoreN D32_8 sto3 |>.iloadN D32_9 rfl
  have z2 := k.sz
  obtain ⟨b2, h2, g2, K2, O2, k⟩ := k.newP (aty := .byte) "[B" (w_23 hw) (by decide) D32_10 8 pr2 (n := (p3 - p2).toNatClampNeg) rfl pr3 (by decide) bv_zero
  replace k := k |>.astore D32_12 rfl sto4 |>.aloadN D32_14 rfl rfl |>.iloadN D32_15 rfl |>.aload D32_16 rfl rfl |>.iconst D32_18 0 |>.aloadN D32_19 rfl rfl
  have o3 := pr4.keep K2 nin0
  replace k := k |>.alen o3 D32_20 (lenS pr5) |>.iloadN D32_21 rfl |>.isub D32_22 rfl |>.iloadN D32_23 rfl
  replace k := (k.callS (w_163 hw) (S34 hw) (R_34_1 hw G pr6) D32_24 4 rfl).pv
  have s_b2 := Nat.le_trans z2 g2
  have n_b2 := Nat.le_trans nz s_b2
  obtain ⟨h5, K5, O5, k⟩ := k.acopy (w_167 hw) (w_170 hw) (w_168 hw) (w_169 hw) o3 O2 ⟨rfl, rfl⟩ (sp' := p2.toNatClampNeg) (nnS pr7) (dp' := 0) (by decide) (nn' := (p3 - p2).toNatClampNeg) (nnS pr2) pr8 pr9 bv_cpy n_b2 D32_27 0
  replace k := k |>.aload D32_30 rfl rfl
  exact k.retA D32_32 rfl ⟨_, rfl, (K2.trans K5 (allS (Or.inr s_b2) all0)), b2, rfl, s_b2, O5⟩
abbrev w_157 (hw : HW a0 Z) := hw.at 157 rfl
abbrev w_159 (hw : HW a0 Z) := hw.at 159 rfl
theorem pd_ABII_r_AB : parseMethodDescriptor "([BII)[B" = some ⟨[(.array .byte), .int, .int], some (.array .byte)⟩ := by decide +kernel
abbrev w_158 (hw : HW a0 Z) := hw.at 158 rfl
theorem S32 (hw : HW a0 Z) : SC Z a0 Y32 C32 5 (some (.array .byte)) 3 := ⟨(w_158 hw), ⟨⟨_, Or.inl rfl⟩, (w_159 hw), (w_155 hw), by decide, _, _, pd_ABII_r_AB, rfl⟩⟩
theorem D31_16 : Dc J31 16 .areturn 1 17 := by decide +kernel
theorem PN31 : plainFor Y31 = true := plainFor_of_name pn_Arrays
theorem R_31_1 {a1 : Addr} {p2 p3 p4 : Int32} {f5 : Nat → Int32} (hw : HW a0 Z) (G : Gl Z w_CS w_SF) (pr1 : p2 = 0) (pr2 : Ary Z h0 a1 (T, .byte) p4.toNatClampNeg (bv f5)) (pr3 : ¬ (p4 < 0)) (pr4 : ¬ (p3 = p4)) (pr5 : ¬ (p3 < p2)) (pr6 : ¬ ((p3 - p2) < 0)) (pr7 : (p3 - p2).toNatClampNeg ≤ 8) (pr8 : (p3 - p2) < (p4 - p2)) (pr9 : ¬ (p2 < 0)) (pr10 : p2.toNatClampNeg + (p3 - p2).toNatClampNeg ≤ p4.toNatClampNeg) (pr11 : 0 + (p3 - p2).toNatClampNeg ≤ (p3 - p2).toNatClampNeg) : Mt false [] l Y31 C31 (rmk 2 1 8 34) #[.ref a1, .int p2, .int p3] Z a0 h0 n0 (KpV h0 [] fun v h => ∃ u1 : Addr, v = (.ref u1) ∧ h0.size ≤ u1 ∧ Ary Z h u1 ATB (p3 - p2).toNatClampNeg (bv (cpyi f5 (fun _ => 0) p2.toNatClampNeg 0 (p3 - p2).toNatClampNeg))) := by
  refine Mt.go PN31 (Or.inl rfl) ef_RII_3 fun k => ?_
  replace k := k |>.iloadN D31_0 rfl |>.ifNo D31_1 ((if0 _ _).trans (teq pr1).2) |>.iloadN D31_4 rfl |>.aloadN D31_5 rfl rfl |>.alen pr2 D31_6 (lenS pr3) |>.icmpNo D31_7 (feq pr4).1 |>.aloadN D31_10 rfl rfl |>.iloadN D31_11 rfl |>.iloadN D31_12 rfl
  have z1 := k.sz
  obtain ⟨_, h1, K1, ⟨u1_1, rfl, f1_0, f1_1⟩, k⟩ := (k.callS (w_157 hw) (S32 hw) (R_32_1 hw G pr5 pr6 pr7 pr2 pr3 pr8 pr9 pr10 pr11) D31_13 0 rfl).kv
  have o2 : Ary Z h1 u1_1 ATB (p3 - p2).toNatClampNeg (bv (cpyi f5 (fun _ => 0) p2.toNatClampNeg 0 (p3 - p2).toNatClampNeg)) := f1_1
  have s_u1_1 := Nat.le_trans z1 f1_0
  exact k.retA D31_16 rfl ⟨_, rfl, K1, u1_1, rfl, s_u1_1, o2⟩
abbrev w_177 (hw : HW a0 Z) := hw.at 177 rfl
abbrev w_156 (hw : HW a0 Z) := hw.at 156 rfl
abbrev w_154 (hw : HW a0 Z) := hw.at 154 rfl
theorem S31 (hw : HW a0 Z) : SC Z a0 Y31 C31 3 (some (.array .byte)) 3 := ⟨(w_154 hw), ⟨⟨_, Or.inl rfl⟩, (w_156 hw), (w_155 hw), by decide, _, _, pd_ABII_r_AB, rfl⟩⟩
theorem D30_19 : Dc J30 19 (.iconst 0) 1 20 := by decide +kernel
theorem D30_20 : Dc J30 20 (.invokespecial 112) 3 23 := by decide +kernel
abbrev Y35 : MethodName := ⟨"java/lang/String", "<init>", "([BB)V"⟩
abbrev J35 := jdk_42_method_151_code
abbrev C35 : Cond := .code Y35 J35 3 none
theorem D35_0 : Dc J35 0 (.aload_n 0) 1 1 := by decide +kernel
theorem D35_1 : Dc J35 1 (.invokespecial 1) 3 4 := by decide +kernel
theorem D35_4 : Dc J35 4 (.aload_n 0) 1 5 := by decide +kernel
theorem D35_5 : Dc J35 5 (.aload_n 1) 1 6 := by decide +kernel
theorem D35_6 : Dc J35 6 (.putfield 9) 3 9 := by decide +kernel
theorem D35_9 : Dc J35 9 (.aload_n 0) 1 10 := by decide +kernel
theorem D35_10 : Dc J35 10 (.iload_n 2) 1 11 := by decide +kernel
theorem D35_11 : Dc J35 11 (.putfield 15) 3 14 := by decide +kernel
theorem D35_14 : Dc J35 14 .return_ 1 15 := by decide +kernel
theorem PN35 : plainFor Y35 = true := plainFor_of_name pn_String
theorem ef_RRI_3 {x0 : Addr} {x1 : Addr} {x2 : Int32}  (m : MethodId) : entryFrame m #[(.ref x0), (.ref x1), (.int x2)] 3 = mkF m 0 #[.val (.ref x0), .val (.ref x1), .val (.int x2)] [] := by
  first | (simp [entryFrame, mkF, argsToLocals, Value.category]; done) | rfl
theorem R_35_1 {a1 a2 : Addr} (hw : HW a0 Z) (G : Gl Z w_CS w_SF) (pr1 : Obj Z h0 a1 L_String [.null, .int 0]) (pr2 : n0 ≤ a1) : Mt false [] l Y35 C35 (rmk 1 0 0 12) #[.ref a1, .ref a2, .int 0] Z a0 h0 n0 (K0 h0 [a1] fun h => Obj Z h a1 L_String [.ref a2, .int 0]) := by
  refine Mt.go PN35 (Or.inl rfl) ef_RRI_3 fun k => ?_
  replace k := k |>.aloadN D35_0 rfl rfl |>.initO (w_19 hw) (w_20 hw) (w_21 hw) D35_1 0 |>.aloadN D35_4 rfl rfl |>.aloadN D35_5 rfl rfl
  obtain ⟨h1, K1, O1, k⟩ := k.putF (fl_28 hw) (pw_String_i_String_value hw) pr1 0 pr2 (Or.inl rfl) D35_6 rfl rfl rfl ls0
  replace k := k |>.aloadN D35_9 rfl rfl |>.iloadN D35_10 rfl
  obtain ⟨h2, K2, O2, k⟩ := k.putN (fp_29 hw) (pw_String_i_String_coder hw) O1 1 pr2 (Or.inl rfl) D35_11 rfl (v' := (.int 0)) (by decide) (by decide) ls1
  exact k.ret0 D35_14 rfl ⟨rfl, (K1.trans K2 (allS (Or.inl (List.mem_of_getElem? (i := 0) rfl)) all0)), O2⟩
abbrev w_178 (hw : HW a0 Z) := hw.at 178 rfl
abbrev w_175 (hw : HW a0 Z) := hw.at 175 rfl
theorem pd_ABB_r_V : parseMethodDescriptor "([BB)V" = some ⟨[(.array .byte), .byte], none⟩ := by decide +kernel
abbrev w_174 (hw : HW a0 Z) := hw.at 174 rfl
theorem I35 (hw : HW a0 Z) : IC Z a0 Y35 C35 3 2 := ⟨(w_174 hw), rfl, ⟨⟨_, Or.inl rfl⟩, (w_175 hw), (w_8 hw), by decide, _, _, pd_ABB_r_V, rfl⟩⟩
theorem D30_23 : Dc J30 23 .areturn 1 24 := by decide +kernel
theorem R_30_3 {a1 : Addr} {p2 p3 p4 : Int32} {f5 : Nat → Int32} (hw : HW a0 Z) (G : Gl Z w_CS w_SF) (pr1 : ¬ (p3 = 0)) (pr2 : p2 = 0) (pr3 : Ary Z h0 a1 (T, .byte) p4.toNatClampNeg (bv f5)) (pr4 : ¬ (p4 < 0)) (pr5 : ¬ ((p2 + p3) = p4)) (pr6 : ¬ ((p2 + p3) < p2)) (pr7 : ¬ (((p2 + p3) - p2) < 0)) (pr8 : ((p2 + p3) - p2).toNatClampNeg ≤ 8) (pr9 : ((p2 + p3) - p2) < (p4 - p2)) (pr10 : ¬ (p2 < 0)) (pr11 : p2.toNatClampNeg + ((p2 + p3) - p2).toNatClampNeg ≤ p4.toNatClampNeg) (pr12 : 0 + ((p2 + p3) - p2).toNatClampNeg ≤ ((p2 + p3) - p2).toNatClampNeg) : Mt false [] l Y30 C30 (rmk 3 2 12 50) #[.ref a1, .int p2, .int p3] Z a0 h0 n0 (KpV h0 [] fun v h => ∃ u1 u2 : Addr, v = (.ref u1) ∧ h0.size ≤ u1 ∧ h0.size ≤ u2 ∧ u2 ≠ u1 ∧ Obj Z h u1 L_String [.ref u2, .int 0] ∧ Ary Z h u2 ATB ((p2 + p3) - p2).toNatClampNeg (bv (cpyi f5 (fun _ => 0) p2.toNatClampNeg 0 ((p2 + p3) - p2).toNatClampNeg))) := by
  refine Mt.go PN30 (Or.inl rfl) ef_RII_3 fun k => ?_
  have nz := k.n0le
  replace k := k |>.iloadN D30_0 rfl |>.ifYes D30_1 ((if0 _ _).trans (feq pr1).2)
  have z1 := k.sz
  obtain ⟨b1, h1, g1, K1, O1, k⟩ := k.new (L := L_String) (w_176 hw) (nw_String hw) D30_7 (by decide) dvL_String
  replace k := k |>.dup D30_10 rfl |>.aloadN D30_11 rfl rfl |>.iloadN D30_12 rfl |>.iloadN D30_13 rfl |>.iloadN D30_14 rfl |>.iadd D30_15 rfl
  have o3 := pr3.keep K1 nin0
  have z2 := k.sz
  obtain ⟨_, h2, K2, ⟨u1_2, rfl, f2_0, f2_1⟩, k⟩ := (k.callS (w_177 hw) (S31 hw) (R_31_1 hw G pr2 o3 pr4 pr5 pr6 pr7 pr8 pr9 pr10 pr11 pr12) D30_16 2 rfl).kv
  have o4 : Ary Z h2 u1_2 ATB ((p2 + p3) - p2).toNatClampNeg (bv (cpyi f5 (fun _ => 0) p2.toNatClampNeg 0 ((p2 + p3) - p2).toNatClampNeg)) := f2_1
  replace k := k |>.iconst D30_19 0
  have s_b1 := Nat.le_trans z1 g1
  have n_b1 := Nat.le_trans nz s_b1
  have o6 := O1.keep K2 nin0
  obtain ⟨h5, K5, f5_0, k⟩ := (k.callI (w_178 hw) (I35 hw) (R_35_1 hw G o6 n_b1) D30_20 1 rfl).k0 (allS n_b1 all0)
  have s_u1_2 := Nat.le_trans z2 f2_0
  have o7 := o4.keep K5 (ninS (nlt' O1.lt f2_0) nin0)
  exact k.retA D30_23 rfl ⟨_, rfl, ((K1.trans K2 all0).trans K5 (allS (Or.inr s_b1) all0)), b1, u1_2, rfl, s_b1, s_u1_2, (nlt' O1.lt f2_0), f5_0, o7⟩
theorem D10_47 : Dc J10 47 (.aload_n 0) 1 48 := by decide +kernel
theorem D10_48 : Dc J10 48 (.getfield 9) 3 51 := by decide +kernel
theorem D10_51 : Dc J10 51 (.iload_n 1) 1 52 := by decide +kernel
theorem D10_52 : Dc J10 52 (.iload 4) 2 54 := by decide +kernel
theorem D10_54 : Dc J10 54 (.invokestatic 689) 3 57 := by decide +kernel
abbrev Y36 : MethodName := ⟨"java/lang/StringUTF16", "newString", "([BII)Ljava/lang/String;"⟩
abbrev J36 := jdk_52_method_69_code
abbrev C36 : Cond := .code Y36 J36 5 (some (.object "java/lang/String"))
theorem D36_0 : Dc J36 0 (.iload_n 2) 1 1 := by decide +kernel
theorem D36_1 : Dj J36 1 (.ifCond .ne 7) 7 4 8 := by decide +kernel
theorem D36_8 : Dc J36 8 (.getstatic 251) 3 11 := by decide +kernel
abbrev w_137 (hw : HW a0 Z) := hw.at 137 rfl
theorem fl_137 (hw : HW a0 Z) : FL Z a0 "java/lang/StringUTF16" 251 "java/lang/String" "COMPACT_STRINGS" "Z" := ⟨_, "", Or.inl (w_137 hw), Via.refl⟩
theorem D36_11 : Dj J36 11 (.ifCond .eq 28) 28 14 39 := by decide +kernel
theorem D36_14 : Dc J36 14 (.aload_n 0) 1 15 := by decide +kernel
theorem D36_15 : Dc J36 15 (.iload_n 1) 1 16 := by decide +kernel
theorem D36_16 : Dc J36 16 (.iload_n 2) 1 17 := by decide +kernel
theorem D36_17 : Dc J36 17 (.invokestatic 257) 3 20 := by decide +kernel
abbrev Y37 : MethodName := ⟨"java/lang/StringUTF16", "compress", "([BII)[B"⟩
abbrev J37 := jdk_52_method_17_code
abbrev C37 : Cond := .code Y37 J37 6 (some (.array .byte))
theorem D37_0 : Dc J37 0 (.iload_n 2) 1 1 := by decide +kernel
theorem D37_1 : Dc J37 1 (.newarray .byte) 2 3 := by decide +kernel
theorem D37_3 : Dc J37 3 (.astore_n 3) 1 4 := by decide +kernel
theorem D37_4 : Dc J37 4 (.aload_n 0) 1 5 := by decide +kernel
theorem D37_5 : Dc J37 5 (.iload_n 1) 1 6 := by decide +kernel
theorem D37_6 : Dc J37 6 (.aload_n 3) 1 7 := by decide +kernel
theorem D37_7 : Dc J37 7 (.iconst 0) 1 8 := by decide +kernel
theorem D37_8 : Dc J37 8 (.iload_n 2) 1 9 := by decide +kernel
theorem D37_9 : Dc J37 9 (.invokestatic 123) 3 12 := by decide +kernel
abbrev Y38 : MethodName := ⟨"java/lang/StringUTF16", "compress", "([BI[BII)I"⟩
abbrev J38 := jdk_52_method_22_code
abbrev C38 : Cond := .code Y38 J38 7 (some .int)
theorem D38_0 : Dc J38 0 (.iload_n 1) 1 1 := by decide +kernel
theorem D38_1 : Dc J38 1 (.iload 4) 2 3 := by decide +kernel
theorem D38_3 : Dc J38 3 (.aload_n 0) 1 4 := by decide +kernel
theorem D38_4 : Dc J38 4 (.invokestatic 173) 3 7 := by decide +kernel
abbrev Y39 : MethodName := ⟨"java/lang/StringUTF16", "checkBoundsOffCount", "(II[B)V"⟩
abbrev J39 := jdk_52_method_94_code
abbrev C39 : Cond := .code Y39 J39 3 none
theorem D39_0 : Dc J39 0 (.iload_n 0) 1 1 := by decide +kernel
theorem D39_1 : Dc J39 1 (.iload_n 1) 1 2 := by decide +kernel
theorem D39_2 : Dc J39 2 (.aload_n 2) 1 3 := by decide +kernel
theorem D39_3 : Dc J39 3 (.invokestatic 48) 3 6 := by decide +kernel
theorem D39_6 : Dc J39 6 (.invokestatic 419) 3 9 := by decide +kernel
abbrev Y40 : MethodName := ⟨"java/lang/String", "checkBoundsOffCount", "(III)I"⟩
abbrev J40 := jdk_42_method_157_code
abbrev C40 : Cond := .code Y40 J40 3 (some .int)
theorem D40_0 : Dc J40 0 (.iload_n 0) 1 1 := by decide +kernel
theorem D40_1 : Dc J40 1 (.iload_n 1) 1 2 := by decide +kernel
theorem D40_2 : Dc J40 2 (.iload_n 2) 1 3 := by decide +kernel
theorem D40_3 : Dc J40 3 (.getstatic 1053) 3 6 := by decide +kernel
theorem D40_6 : Dc J40 6 (.invokestatic 1065) 3 9 := by decide +kernel
abbrev Y41 : MethodName := ⟨"jdk/internal/util/Preconditions", "checkFromIndexSize", "(IIILjava/util/function/BiFunction;)I"⟩
abbrev J41 := jdk_41_method_13_code
abbrev C41 : Cond := .code Y41 J41 4 (some .int)
theorem D41_0 : Dc J41 0 (.iload_n 2) 1 1 := by decide +kernel
theorem D41_1 : Dc J41 1 (.iload_n 0) 1 2 := by decide +kernel
theorem D41_2 : Dc J41 2 .ior 1 3 := by decide +kernel
theorem D41_3 : Dc J41 3 (.iload_n 1) 1 4 := by decide +kernel
theorem D41_4 : Dc J41 4 .ior 1 5 := by decide +kernel
theorem D41_5 : Dj J41 5 (.ifCond .lt 10) 10 8 15 := by decide +kernel
theorem D41_8 : Dc J41 8 (.iload_n 1) 1 9 := by decide +kernel
theorem D41_9 : Dc J41 9 (.iload_n 2) 1 10 := by decide +kernel
theorem D41_10 : Dc J41 10 (.iload_n 0) 1 11 := by decide +kernel
theorem D41_11 : Dc J41 11 .isub 1 12 := by decide +kernel
theorem D41_12 : Dj J41 12 (.if_icmp .le 11) 11 15 23 := by decide +kernel
theorem D41_23 : Dc J41 23 (.iload_n 0) 1 24 := by decide +kernel
theorem D41_24 : Dc J41 24 .ireturn 1 25 := by decide +kernel
theorem PN41 : plainFor Y41 = true := plainFor_of_name pn_Preconditions
theorem R_41_1 {p1 p2 p3 : Int32} (hw : HW a0 Z) (G : Gl Z w_CS w_SF) (pr1 : ¬ (((p3 ||| p1) ||| p2) < 0)) (pr2 : ¬ ((p3 - p1) < p2)) : Mt false [] l Y41 C41 (rmk 0 0 0 0) #[.int p1, .int p2, .int p3, w_SF] Z a0 h0 n0 (Pv h0 (.int p1)) := by
  refine Mt.go PN41 (Or.inl rfl) (ef_IIIV_4 G.r_SF) fun k => ?_
  replace k := k |>.iloadN D41_0 rfl |>.iloadN D41_1 rfl |>.ior D41_2 rfl |>.iloadN D41_3 rfl |>.ior D41_4 rfl |>.ifNo D41_5 ((if0 _ _).trans (flt pr1).1) |>.iloadN D41_8 rfl |>.iloadN D41_9 rfl |>.iloadN D41_10 rfl |>.isub D41_11 rfl |>.icmpYes D41_12 (flt pr2).2.2.2 |>.iloadN D41_23 rfl
  exact k.retI D41_24 rfl ⟨rfl, rfl⟩
abbrev w_150 (hw : HW a0 Z) := hw.at 150 rfl
abbrev w_152 (hw : HW a0 Z) := hw.at 152 rfl
abbrev w_151 (hw : HW a0 Z) := hw.at 151 rfl
theorem S41 (hw : HW a0 Z) : SC Z a0 Y41 C41 4 (some .int) 4 := ⟨(w_151 hw), ⟨⟨_, Or.inl rfl⟩, (w_152 hw), (w_55 hw), by decide, _, _, pd_IIILjava_util_function_BiFunction_r_I, rfl⟩⟩
theorem D40_9 : Dc J40 9 .ireturn 1 10 := by decide +kernel
theorem PN40 : plainFor Y40 = true := plainFor_of_name pn_String
theorem R_40_1 {p1 p2 p3 : Int32} (hw : HW a0 Z) (G : Gl Z w_CS w_SF) (pr1 : ¬ (((p3 ||| p1) ||| p2) < 0)) (pr2 : ¬ ((p3 - p1) < p2)) : Mt false [] l Y40 C40 (rmk 1 0 0 15) #[.int p1, .int p2, .int p3] Z a0 h0 n0 (Pv h0 (.int p1)) := by
  refine Mt.go PN40 (Or.inl rfl) ef_III_3 fun k => ?_
  replace k := k |>.iloadN D40_0 rfl |>.iloadN D40_1 rfl |>.iloadN D40_2 rfl |>.getS (fl_54 hw) G.S_SF D40_3
  replace k := (k.callS (w_150 hw) (S41 hw) (R_41_1 hw G pr1 pr2) D40_6 0 rfl).pv
  exact k.retI D40_9 rfl ⟨rfl, rfl⟩
abbrev w_147 (hw : HW a0 Z) := hw.at 147 rfl
abbrev w_149 (hw : HW a0 Z) := hw.at 149 rfl
theorem pd_III_r_I : parseMethodDescriptor "(III)I" = some ⟨[.int, .int, .int], some .int⟩ := by decide +kernel
abbrev w_148 (hw : HW a0 Z) := hw.at 148 rfl
theorem S40 (hw : HW a0 Z) : SC Z a0 Y40 C40 3 (some .int) 3 := ⟨(w_148 hw), ⟨⟨_, Or.inl rfl⟩, (w_149 hw), (w_8 hw), by decide, _, _, pd_III_r_I, rfl⟩⟩
theorem D39_9 : Dc J39 9 .pop 1 10 := by decide +kernel
theorem D39_10 : Dc J39 10 .return_ 1 11 := by decide +kernel
theorem PN39 : plainFor Y39 = true := plainFor_of_name pn_StringUTF16
theorem ef_IIR_3 {x0 : Int32} {x1 : Int32} {x2 : Addr}  (m : MethodId) : entryFrame m #[(.int x0), (.int x1), (.ref x2)] 3 = mkF m 0 #[.val (.int x0), .val (.int x1), .val (.ref x2)] [] := by
  first | (simp [entryFrame, mkF, argsToLocals, Value.category]; done) | rfl
theorem R_39_1 {p1 p2 p4 : Int32} {a3 : Addr} {f5 : Nat → Int32} (hw : HW a0 Z) (G : Gl Z w_CS w_SF) (pr1 : Ary Z h0 a3 ATB p4.toNatClampNeg (bv f5)) (pr2 : ¬ (p4 < 0)) (pr3 : ¬ ((((p4 >>> ((1 : Int32) &&& 31)) ||| p1) ||| p2) < 0)) (pr4 : ¬ (((p4 >>> ((1 : Int32) &&& 31)) - p1) < p2)) : Mt false [] l Y39 C39 (rmk 2 0 0 29) #[.int p1, .int p2, .ref a3] Z a0 h0 n0 (P0 h0) := by
  refine Mt.go PN39 (Or.inl rfl) ef_IIR_3 fun k => ?_
  replace k := k |>.iloadN D39_0 rfl |>.iloadN D39_1 rfl |>.aloadN D39_2 rfl rfl
  replace k := (k.callS (w_129 hw) (S29 hw) (R_29_1 hw G pr1 pr2) D39_3 2 rfl).pv
  replace k := k |>.top (y := (p4 >>> ((1 : Int32) &&& 31))) rfl
  replace k := (k.callS (w_147 hw) (S40 hw) (R_40_1 hw G pr3 pr4) D39_6 0 rfl).pv
  replace k := k |>.pop D39_9 rfl
  exact k.ret0 D39_10 rfl ⟨rfl, rfl⟩
abbrev w_144 (hw : HW a0 Z) := hw.at 144 rfl
abbrev w_146 (hw : HW a0 Z) := hw.at 146 rfl
theorem pd_IIAB_r_V : parseMethodDescriptor "(II[B)V" = some ⟨[.int, .int, (.array .byte)], none⟩ := by decide +kernel
abbrev w_145 (hw : HW a0 Z) := hw.at 145 rfl
theorem S39 (hw : HW a0 Z) : SC Z a0 Y39 C39 3 none 3 := ⟨(w_145 hw), ⟨⟨_, Or.inl rfl⟩, (w_146 hw), (w_65 hw), by decide, _, _, pd_IIAB_r_V, rfl⟩⟩
theorem D38_7 : Dc J38 7 (.iconst 0) 1 8 := by decide +kernel
theorem D38_8 : Dc J38 8 (.istore 5) 2 10 := by decide +kernel
theorem D38_10 : Dc J38 10 (.iload 5) 2 12 := by decide +kernel
theorem D38_12 : Dc J38 12 (.iload 4) 2 14 := by decide +kernel
theorem D38_14 : Dj J38 14 (.if_icmp .ge 39) 39 17 53 := by decide +kernel
theorem D38_17 : Dc J38 17 (.aload_n 0) 1 18 := by decide +kernel
theorem D38_18 : Dc J38 18 (.iload_n 1) 1 19 := by decide +kernel
theorem D38_19 : Dc J38 19 (.invokestatic 71) 3 22 := by decide +kernel
theorem D38_22 : Dc J38 22 (.istore 6) 2 24 := by decide +kernel
theorem D38_24 : Dc J38 24 (.iload 6) 2 26 := by decide +kernel
theorem D38_26 : Dc J38 26 (.sipush 255) 3 29 := by decide +kernel
theorem D38_29 : Dj J38 29 (.if_icmp .le 6) 6 32 35 := by decide +kernel
theorem D38_32 : Dc J38 32 (.iload 5) 2 34 := by decide +kernel
theorem D38_34 : Dc J38 34 .ireturn 1 35 := by decide +kernel
theorem PN38 : plainFor Y38 = true := plainFor_of_name pn_StringUTF16
theorem R_38_1 {a1 a2 : Addr} {p3 p4 p5 p6 : Int32} (hw : HW a0 Z) (G : Gl Z w_CS w_SF) (pr1 : Ary Z h0 a1 ATB 4 (bv (lvi [p3, p4, p5, p6]))) (pr2 : 255 < (gcv p3 p4)) : Mt false [] l Y38 C38 (rmk 3 0 0 43) #[.ref a1, .int 0, .ref a2, .int 0, .int 1] Z a0 h0 n0 (Pv h0 (.int 0)) := by
  refine Mt.go PN38 (Or.inl rfl) ef_RIRII_7 fun k => ?_
  replace k := k |>.iloadN D38_0 rfl |>.iload D38_1 rfl |>.aloadN D38_3 rfl rfl
  replace k := (k.callS (w_144 hw) (S39 hw) (R_39_1 hw G pr1 (by decide) (by decide) (by decide) (p1 := 0) (p2 := 1) (p4 := 4)) D38_4 0 rfl).p0
  replace k := k |>.iconst D38_7 0 |>.istore D38_8 sto5 |>.iload D38_10 rfl |>.iload D38_12 rfl |>.icmpNo D38_14  |>.aloadN D38_17 rfl rfl |>.iloadN D38_18 rfl
  replace k := (k.callS (w_120 hw) (S20 hw) (R_20_1 hw G pr1 (by decide) (by decide) (by decide) (by decide) (p2 := 0) (p3 := 4)) D38_19 0 rfl).pv
  replace k := k |>.top (y := (gcv p3 p4)) rfl |>.istore D38_22 sto6 |>.iload D38_24 rfl |>.sipush D38_26 255 |>.icmpNo D38_29 (tlt pr2).2.2.2 |>.iload D38_32 rfl
  exact k.retI D38_34 rfl ⟨rfl, rfl⟩
abbrev w_141 (hw : HW a0 Z) := hw.at 141 rfl
abbrev w_143 (hw : HW a0 Z) := hw.at 143 rfl
theorem pd_ABIABII_r_I : parseMethodDescriptor "([BI[BII)I" = some ⟨[(.array .byte), .int, (.array .byte), .int, .int], some .int⟩ := by decide +kernel
abbrev w_142 (hw : HW a0 Z) := hw.at 142 rfl
theorem S38 (hw : HW a0 Z) : SC Z a0 Y38 C38 7 (some .int) 5 := ⟨(w_142 hw), ⟨⟨_, Or.inl rfl⟩, (w_143 hw), (w_65 hw), by decide, _, _, pd_ABIABII_r_I, rfl⟩⟩
theorem D37_12 : Dc J37 12 (.istore 4) 2 14 := by decide +kernel
theorem D37_14 : Dc J37 14 (.iload 4) 2 16 := by decide +kernel
theorem D37_16 : Dc J37 16 (.iload_n 2) 1 17 := by decide +kernel
theorem D37_17 : Dj J37 17 (.if_icmp .eq 47) 47 20 64 := by decide +kernel
theorem D37_20 : Dc J37 20 (.aload_n 0) 1 21 := by decide +kernel
theorem D37_21 : Dc J37 21 (.iload_n 1) 1 22 := by decide +kernel
theorem D37_22 : Dc J37 22 (.iconst 1) 1 23 := by decide +kernel
theorem D37_23 : Dc J37 23 .ishl 1 24 := by decide +kernel
theorem D37_24 : Dc J37 24 (.iload_n 1) 1 25 := by decide +kernel
theorem D37_25 : Dc J37 25 (.iload_n 2) 1 26 := by decide +kernel
theorem D37_26 : Dc J37 26 .iadd 1 27 := by decide +kernel
theorem D37_27 : Dc J37 27 (.invokestatic 11) 3 30 := by decide +kernel
theorem D37_30 : Dc J37 30 (.invokestatic 126) 3 33 := by decide +kernel
theorem R_32_2 {a1 : Addr} {p2 p3 p4 : Int32} {f5 : Nat → Int32} (hw : HW a0 Z) (G : Gl Z w_CS w_SF) (pr1 : ¬ (p3 < p2)) (pr2 : ¬ ((p3 - p2) < 0)) (pr3 : (p3 - p2).toNatClampNeg ≤ 8) (pr4 : Ary Z h0 a1 ATB p4.toNatClampNeg (bv f5)) (pr5 : ¬ (p4 < 0)) (pr6 : (p3 - p2) < (p4 - p2)) (pr7 : ¬ (p2 < 0)) (pr8 : p2.toNatClampNeg + (p3 - p2).toNatClampNeg ≤ p4.toNatClampNeg) (pr9 : 0 + (p3 - p2).toNatClampNeg ≤ (p3 - p2).toNatClampNeg) : Mt false [] l Y32 C32 (rmk 1 1 8 18) #[.ref a1, .int p2, .int p3] Z a0 h0 n0 (KpV h0 [] fun v h => ∃ u1 : Addr, v = (.ref u1) ∧ h0.size ≤ u1 ∧ Ary Z h u1 ATB (p3 - p2).toNatClampNeg (bv (cpyi f5 (fun _ => 0) p2.toNatClampNeg 0 (p3 - p2).toNatClampNeg))) := by
  refine Mt.go PN32 (Or.inl rfl) ef_RII_5 fun k => ?_
  have nz := k.n0le
  replace k := k |>.iloadN D32_0 rfl |>.iloadN D32_1 rfl
  replace k := (k.callS (w_160 hw) (S33 hw) (R_33_1 hw G pr1) D32_2 0 rfl).p0
  replace k := k |>.iloadN D32_5 rfl |>.iloadN D32_6 rfl |>.isub D32_7 rfl |>.istoreN D32_8 sto3 |>.iloadN D32_9 rfl
  have z2 := k.sz
  obtain ⟨b2, h2, g2, K2, O2, k⟩ := k.newP (aty := .byte) "[B" (w_23 hw) (by decide) D32_10 8 pr2 (n := (p3 - p2).toNatClampNeg) rfl pr3 (by decide) bv_zero
  replace k := k |>.astore D32_12 rfl sto4 |>.aloadN D32_14 rfl rfl |>.iloadN D32_15 rfl |>.aload D32_16 rfl rfl |>.iconst D32_18 0 |>.aloadN D32_19 rfl rfl
  have o3 := pr4.keep K2 nin0
  replace k := k |>.alen o3 D32_20 (lenS pr5) |>.iloadN D32_21 rfl |>.isub D32_22 rfl |>.iloadN D32_23 rfl
  replace k := (k.callS (w_163 hw) (S34 hw) (R_34_1 hw G pr6) D32_24 4 rfl).pv
  have s_b2 := Nat.le_trans z2 g2
  have n_b2 := Nat.le_trans nz s_b2
  obtain ⟨h5, K5, O5, k⟩ := k.acopy (w_167 hw) (w_170 hw) (w_168 hw) (w_169 hw) o3 O2 ⟨rfl, rfl⟩ (sp' := p2.toNatClampNeg) (nnS pr7) (dp' := 0) (by decide) (nn' := (p3 - p2).toNatClampNeg) (nnS pr2) pr8 pr9 bv_cpy n_b2 D32_27 0
  replace k := k |>.aload D32_30 rfl rfl
  exact k.retA D32_32 rfl ⟨_, rfl, (K2.trans K5 (allS (Or.inr s_b2) all0)), b2, rfl, s_b2, O5⟩
theorem R_31_2 {a1 : Addr} {p2 p3 p4 : Int32} {f5 : Nat → Int32} (hw : HW a0 Z) (G : Gl Z w_CS w_SF) (pr1 : p2 = 0) (pr2 : Ary Z h0 a1 ATB p4.toNatClampNeg (bv f5)) (pr3 : ¬ (p4 < 0)) (pr4 : ¬ (p3 = p4)) (pr5 : ¬ (p3 < p2)) (pr6 : ¬ ((p3 - p2) < 0)) (pr7 : (p3 - p2).toNatClampNeg ≤ 8) (pr8 : (p3 - p2) < (p4 - p2)) (pr9 : ¬ (p2 < 0)) (pr10 : p2.toNatClampNeg + (p3 - p2).toNatClampNeg ≤ p4.toNatClampNeg) (pr11 : 0 + (p3 - p2).toNatClampNeg ≤ (p3 - p2).toNatClampNeg) : Mt false [] l Y31 C31 (rmk 2 1 8 34) #[.ref a1, .int p2, .int p3] Z a0 h0 n0 (KpV h0 [] fun v h => ∃ u1 : Addr, v = (.ref u1) ∧ h0.size ≤ u1 ∧ Ary Z h u1 ATB (p3 - p2).toNatClampNeg (bv (cpyi f5 (fun _ => 0) p2.toNatClampNeg 0 (p3 - p2).toNatClampNeg))) := by
  refine Mt.go PN31 (Or.inl rfl) ef_RII_3 fun k => ?_
  replace k := k |>.iloadN D31_0 rfl |>.ifNo D31_1 ((if0 _ _).trans (teq pr1).2) |>.iloadN D31_4 rfl |>.aloadN D31_5 rfl rfl |>.alen pr2 D31_6 (lenS pr3) |>.icmpNo D31_7 (feq pr4).1 |>.aloadN D31_10 rfl rfl |>.iloadN D31_11 rfl |>.iloadN D31_12 rfl
  have z1 := k.sz
  obtain ⟨_, h1, K1, ⟨u1_1, rfl, f1_0, f1_1⟩, k⟩ := (k.callS (w_157 hw) (S32 hw) (R_32_2 hw G pr5 pr6 pr7 pr2 pr3 pr8 pr9 pr10 pr11) D31_13 0 rfl).kv
  have o2 : Ary Z h1 u1_1 ATB (p3 - p2).toNatClampNeg (bv (cpyi f5 (fun _ => 0) p2.toNatClampNeg 0 (p3 - p2).toNatClampNeg)) := f1_1
  have s_u1_1 := Nat.le_trans z1 f1_0
  exact k.retA D31_16 rfl ⟨_, rfl, K1, u1_1, rfl, s_u1_1, o2⟩
abbrev w_153 (hw : HW a0 Z) := hw.at 153 rfl
theorem D37_33 : Dc J37 33 (.astore 5) 2 35 := by decide +kernel
theorem D37_35 : Dc J37 35 (.aload 5) 2 37 := by decide +kernel
theorem D37_37 : Dc J37 37 (.iload 4) 2 39 := by decide +kernel
theorem D37_39 : Dc J37 39 (.invokestatic 71) 3 42 := by decide +kernel
theorem D37_42 : Dc J37 42 (.sipush 255) 3 45 := by decide +kernel
theorem D37_45 : Dj J37 45 (.if_icmp .gt 16) 16 48 61 := by decide +kernel
theorem D37_61 : Dc J37 61 (.aload 5) 2 63 := by decide +kernel
theorem D37_63 : Dc J37 63 .areturn 1 64 := by decide +kernel
theorem PN37 : plainFor Y37 = true := plainFor_of_name pn_StringUTF16
theorem R_37_1 {a1 : Addr} {p2 p3 p4 p5 : Int32} (hw : HW a0 Z) (G : Gl Z w_CS w_SF) (pr1 : Ary Z h0 a1 ATB 4 (bv (lvi [p2, p3, p4, p5]))) (pr2 : 255 < (gcv p2 p3)) : Mt false [] l Y37 C37 (rmk 4 2 9 61) #[.ref a1, .int 0, .int 1] Z a0 h0 n0 (KpV h0 [] fun v h => ∃ u1 : Addr, v = (.ref u1) ∧ h0.size ≤ u1 ∧ Ary Z h u1 ATB 2 (bv (lvi [p2, p3]))) := by
  refine Mt.go PN37 (Or.inl rfl) ef_RII_6 fun k => ?_
  replace k := k |>.iloadN D37_0 rfl
  obtain ⟨b1, h1, g1, K1, O1, k⟩ := k.newP (aty := .byte) "[B" (w_23 hw) (by decide) D37_1 1 (by decide) (n := 1) (by decide) (by decide) (by decide) (bi_const (L := [0]) rfl)
  replace k := k |>.astoreN D37_3 rfl sto3 |>.aloadN D37_4 rfl rfl |>.iloadN D37_5 rfl |>.aloadN D37_6 rfl rfl |>.iconst D37_7 0 |>.iloadN D37_8 rfl
  have o3 := pr1.keep K1 nin0
  replace k := (k.callS (w_141 hw) (S38 hw) (R_38_1 hw G o3 pr2) D37_9 0 rfl).pv
  replace k := k |>.istore D37_12 sto4 |>.iload D37_14 rfl |>.iloadN D37_16 rfl |>.icmpNo D37_17  |>.aloadN D37_20 rfl rfl |>.iloadN D37_21 rfl |>.iconst D37_22 1 |>.ishl D37_23 (z := 0) |>.iloadN D37_24 rfl |>.iloadN D37_25 rfl |>.iadd D37_26 (z := 1)
  replace k := (k.callS (w_110 hw) (S18 hw) (R_18_1 hw G (by decide) (by decide) (p1 := 1)) D37_27 2 rfl).pv
  replace k := k |>.top (y := 2) (by decide)
  have z5 := k.sz
  obtain ⟨_, h5, K5, ⟨u1_5, rfl, f5_0, f5_1⟩, k⟩ := (k.callS (w_153 hw) (S31 hw) (R_31_2 hw G (by decide) o3 (by decide) (by decide) (by decide) (by decide) (by decide) (by decide) (by decide) (by decide) (by decide) (p2 := 0) (p3 := 2) (p4 := 4)) D37_30 0 rfl).kv
  have o6 : Ary Z h5 u1_5 ATB 2 (bv (lvi [p2, p3])) := Ary.norm f5_1 (bi_cpz rfl)
  replace k := k |>.astore D37_33 rfl sto5 |>.aload D37_35 rfl rfl |>.iload D37_37 rfl
  replace k := (k.callS (w_120 hw) (S20 hw) (R_20_1 hw G o6 (by decide) (by decide) (by decide) (by decide) (p2 := 0) (p3 := 2)) D37_39 0 rfl).pv
  replace k := k |>.top (y := (gcv p2 p3)) rfl |>.sipush D37_42 255 |>.icmpYes D37_45 (tlt pr2).2.2.1 |>.aload D37_61 rfl rfl
  have s_u1_5 := Nat.le_trans z5 f5_0
  exact k.retA D37_63 rfl ⟨_, rfl, (K1.trans K5 all0), u1_5, rfl, s_u1_5, o6⟩
abbrev w_138 (hw : HW a0 Z) := hw.at 138 rfl
abbrev w_140 (hw : HW a0 Z) := hw.at 140 rfl
abbrev w_139 (hw : HW a0 Z) := hw.at 139 rfl
theorem S37 (hw : HW a0 Z) : SC Z a0 Y37 C37 6 (some (.array .byte)) 3 := ⟨(w_139 hw), ⟨⟨_, Or.inl rfl⟩, (w_140 hw), (w_65 hw), by decide, _, _, pd_ABII_r_AB, rfl⟩⟩
theorem D36_20 : Dc J36 20 (.astore_n 3) 1 21 := by decide +kernel
theorem D36_21 : Dc J36 21 (.aload_n 3) 1 22 := by decide +kernel
theorem D36_22 : Dc J36 22 (.iload_n 2) 1 23 := by decide +kernel
theorem D36_23 : Dc J36 23 (.invokestatic 259) 3 26 := by decide +kernel
abbrev w_171 (hw : HW a0 Z) := hw.at 171 rfl
theorem D36_26 : Dc J36 26 (.istore 4) 2 28 := by decide +kernel
theorem D36_28 : Dc J36 28 (.new 3) 3 31 := by decide +kernel
abbrev w_172 (hw : HW a0 Z) := hw.at 172 rfl
theorem D36_31 : Dc J36 31 .dup 1 32 := by decide +kernel
theorem D36_32 : Dc J36 32 (.aload_n 3) 1 33 := by decide +kernel
theorem D36_33 : Dc J36 33 (.iload 4) 2 35 := by decide +kernel
theorem D36_35 : Dc J36 35 (.invokespecial 263) 3 38 := by decide +kernel
theorem R_35_2 {a1 a2 : Addr} (hw : HW a0 Z) (G : Gl Z w_CS w_SF) (pr1 : Obj Z h0 a1 L_String [.null, .int 0]) (pr2 : n0 ≤ a1) : Mt false [] l Y35 C35 (rmk 1 0 0 12) #[.ref a1, .ref a2, .int 1] Z a0 h0 n0 (K0 h0 [a1] fun h => Obj Z h a1 L_String [.ref a2, .int 1]) := by
  refine Mt.go PN35 (Or.inl rfl) ef_RRI_3 fun k => ?_
  replace k := k |>.aloadN D35_0 rfl rfl |>.initO (w_19 hw) (w_20 hw) (w_21 hw) D35_1 0 |>.aloadN D35_4 rfl rfl |>.aloadN D35_5 rfl rfl
  obtain ⟨h1, K1, O1, k⟩ := k.putF (fl_28 hw) (pw_String_i_String_value hw) pr1 0 pr2 (Or.inl rfl) D35_6 rfl rfl rfl ls0
  replace k := k |>.aloadN D35_9 rfl rfl |>.iloadN D35_10 rfl
  obtain ⟨h2, K2, O2, k⟩ := k.putN (fp_29 hw) (pw_String_i_String_coder hw) O1 1 pr2 (Or.inl rfl) D35_11 rfl (v' := (.int 1)) (by decide) (by decide) ls1
  exact k.ret0 D35_14 rfl ⟨rfl, (K1.trans K2 (allS (Or.inl (List.mem_of_getElem? (i := 0) rfl)) all0)), O2⟩
abbrev w_173 (hw : HW a0 Z) := hw.at 173 rfl
theorem D36_38 : Dc J36 38 .areturn 1 39 := by decide +kernel
theorem PN36 : plainFor Y36 = true := plainFor_of_name pn_StringUTF16
theorem R_36_1 {a1 : Addr} {p2 p3 p4 p5 : Int32} (hw : HW a0 Z) (G : Gl Z w_CS w_SF) (pr1 : Ary Z h0 a1 ATB 4 (bv (lvi [p2, p3, p4, p5]))) (pr2 : 255 < (gcv p2 p3)) : Mt false [] l Y36 C36 (rmk 5 3 13 78) #[.ref a1, .int 0, .int 1] Z a0 h0 n0 (KpV h0 [] fun v h => ∃ u1 u2 : Addr, v = (.ref u1) ∧ h0.size ≤ u1 ∧ h0.size ≤ u2 ∧ u2 ≠ u1 ∧ Obj Z h u1 L_String [.ref u2, .int 1] ∧ Ary Z h u2 ATB 2 (bv (lvi [p2, p3]))) := by
  refine Mt.go PN36 (Or.inl rfl) ef_RII_5 fun k => ?_
  have nz := k.n0le
  replace k := k |>.iloadN D36_0 rfl |>.ifYes D36_1  |>.getS (fl_137 hw) G.S_CS D36_8 |>.ifNo D36_11 ((if0 _ _).trans (feq G.h_CS).1) |>.aloadN D36_14 rfl rfl |>.iloadN D36_15 rfl |>.iloadN D36_16 rfl
  have z1 := k.sz
  obtain ⟨_, h1, K1, ⟨u1_1, rfl, f1_0, f1_1⟩, k⟩ := (k.callS (w_138 hw) (S37 hw) (R_37_1 hw G pr1 pr2) D36_17 0 rfl).kv
  replace k := k |>.astoreN D36_20 rfl sto3 |>.aloadN D36_21 rfl rfl |>.iloadN D36_22 rfl
  replace k := (k.callS (w_171 hw) (S21 hw) (R_21_1 hw G f1_1 (by decide) (p2 := 1) (p3 := 2)) D36_23 0 rfl).pv
  replace k := k |>.top (y := 1) (by decide) |>.istore D36_26 sto4
  have z3 := k.sz
  obtain ⟨b3, h3, g3, K3, O3, k⟩ := k.new (L := L_String) (w_172 hw) (nw_String hw) D36_28 (by decide) dvL_String
  replace k := k |>.dup D36_31 rfl |>.aloadN D36_32 rfl rfl |>.iload D36_33 rfl
  have s_b3 := Nat.le_trans z3 g3
  have n_b3 := Nat.le_trans nz s_b3
  obtain ⟨h4, K4, f4_0, k⟩ := (k.callI (w_173 hw) (I35 hw) (R_35_2 hw G O3 n_b3) D36_35 1 rfl).k0 (allS n_b3 all0)
  have s_u1_1 := Nat.le_trans z1 f1_0
  have o5 := (f1_1.keep K3 nin0).keep K4 (ninS (nlt f1_1.lt g3) nin0)
  exact k.retA D36_38 rfl ⟨_, rfl, ((K1.trans K3 all0).trans K4 (allS (Or.inr s_b3) all0)), b3, u1_1, rfl, s_b3, s_u1_1, (nlt f1_1.lt g3), f4_0, o5⟩
abbrev w_134 (hw : HW a0 Z) := hw.at 134 rfl
abbrev w_136 (hw : HW a0 Z) := hw.at 136 rfl
abbrev w_135 (hw : HW a0 Z) := hw.at 135 rfl
theorem S36 (hw : HW a0 Z) : SC Z a0 Y36 C36 5 (some (.object "java/lang/String")) 3 := ⟨(w_135 hw), ⟨⟨_, Or.inl rfl⟩, (w_136 hw), (w_65 hw), by decide, _, _, pd_ABII_r_Ljava_lang_String, rfl⟩⟩
theorem R_sub2_0_1 {a1 a2 : Addr} {c0 c1 : Int32} (hw : HW a0 Z) (G : Gl Z w_CS w_SF) (S : Str Z h0 a1 a2 [c0, c1]) (x1 : ¬ (255 < c1)) : Mt false [] l Y10 C10 (rmk 6 3 13 94) #[.ref a1, .int 0, .int 1] Z a0 h0 n0 (KpV h0 [] fun v h => ∃ u w : Addr, v = .ref u ∧ Str Z h u w [c0]) := by
  refine Mt.go PN10 (Or.inl rfl) ef_RII_5 fun k => ?_
  obtain ⟨⟨⟨g0a, g0b⟩, ⟨g1a, g1b⟩, -⟩, S⟩ := S
  rcases S with ⟨T, O, A, hl⟩ | ⟨O, A, u0 | ⟨l0, u1 | ⟨-, hx⟩⟩⟩
  · obtain ⟨l0, l1, -⟩ := hl
    have A : Ary Z h0 a2 (T, .byte) 2 (bv (lvi [(c0.toInt8.toInt32), (c1.toInt8.toInt32)])) := A
    replace k := k |>.aloadN D10_0 rfl rfl
    replace k := (k.callV (w_50 hw) (V_Y8_8_String hw) O.exa (R_8_4 hw G O A) D10_1 0 rfl).pv
    replace k := k |>.istoreN D10_4 sto3 |>.iloadN D10_5 rfl |>.iloadN D10_6 rfl |>.iloadN D10_7 rfl
    replace k := (k.callS (w_51 hw) (S11 hw) (R_11_1 hw G (by decide) (by decide) (by decide) (p1 := 0) (p2 := 1) (p3 := 2)) D10_8 0 rfl).p0
    replace k := k |>.iloadN D10_11 rfl |>.ifNo D10_12  |>.iloadN D10_15 rfl |>.iloadN D10_16 rfl |>.icmpYes D10_17  |>.iloadN D10_22 rfl |>.iloadN D10_23 rfl |>.isub D10_24 (z := 1) |>.istore D10_25 sto4 |>.aloadN D10_27 rfl rfl
    replace k := (k.callV (w_78 hw) (V_Y23_23_String hw) O.exa (R_23_1 hw G O) D10_28 0 rfl).pv
    replace k := k |>.ifNo D10_31  |>.aloadN D10_34 rfl rfl |>.getF (fl_28 hw) O 0 D10_35 rfl rfl |>.iloadN D10_38 rfl |>.iload D10_39 rfl
    obtain ⟨_, h4, K4, ⟨u1_4, u2_4, rfl, f4_0, f4_1, f4_2, f4_3, f4_4⟩, k⟩ := (k.callS (w_96 hw) (S30 hw) (R_30_3 hw G (by decide) (by decide) A (by decide) (by decide) (by decide) (by decide) (by decide) (by decide) (by decide) (by decide) (by decide) (p2 := 0) (p3 := 1) (p4 := 2)) D10_41 0 rfl).kv
    have o5 : Ary Z h4 u2_4 ATB 1 (bv (lvi [(c0.toInt8.toInt32)])) := Ary.norm f4_4 (bi_cpz rfl)
    replace k := k |>.goto D10_44
    exact k.retA D10_57 rfl ⟨_, rfl, K4, u1_4, u2_4, rfl, ⟨⟨⟨g0a, g0b⟩, trivial⟩, Or.inl ⟨_, f4_3, o5, ⟨l0, trivial⟩⟩⟩⟩
  · have A : Ary Z h0 a2 ATB 4 (bv (lvi [(lo8 c0), (hi8 c0), (lo8 c1), (hi8 c1)])) := A
    replace k := k |>.aloadN D10_0 rfl rfl
    replace k := (k.callV (w_50 hw) (V_Y8_8_String hw) O.exa (R_8_5 hw G O A) D10_1 0 rfl).pv
    replace k := k |>.istoreN D10_4 sto3 |>.iloadN D10_5 rfl |>.iloadN D10_6 rfl |>.iloadN D10_7 rfl
    replace k := (k.callS (w_51 hw) (S11 hw) (R_11_1 hw G (by decide) (by decide) (by decide) (p1 := 0) (p2 := 1) (p3 := 2)) D10_8 0 rfl).p0
    replace k := k |>.iloadN D10_11 rfl |>.ifNo D10_12  |>.iloadN D10_15 rfl |>.iloadN D10_16 rfl |>.icmpYes D10_17  |>.iloadN D10_22 rfl |>.iloadN D10_23 rfl |>.isub D10_24 (z := 1) |>.istore D10_25 sto4 |>.aloadN D10_27 rfl rfl
    replace k := (k.callV (w_78 hw) (V_Y23_23_String hw) O.exa (R_23_2 hw G O) D10_28 0 rfl).pv
    replace k := k |>.ifYes D10_31  |>.aloadN D10_47 rfl rfl |>.getF (fl_28 hw) O 0 D10_48 rfl rfl |>.iloadN D10_51 rfl |>.iload D10_52 rfl
    obtain ⟨_, h9, K9, ⟨u1_9, u2_9, rfl, f9_0, f9_1, f9_2, f9_3, f9_4⟩, k⟩ := (k.callS (w_134 hw) (S36 hw) (R_36_1 hw G A (own_d6 rfl g0a g0b u0)) D10_54 0 rfl).kv
    exact k.retA D10_57 rfl ⟨_, rfl, K9, u1_9, u2_9, rfl, ⟨⟨⟨g0a, g0b⟩, trivial⟩, Or.inr ⟨f9_3, f9_4, Or.inl u0⟩⟩⟩
  · exact absurd u1 x1
  · exact hx.elim
theorem own_d31 {p3 v0 v1 v2 v3 : Int32} (e0 : v0 = (drw p3)) (e1 : v1 = (nar .char v0)) (e2 : v2 = (nar .char v1)) (e3 : v3 = (bl v2)) (q0 : ¬ (v3 = 0)) : ¬ (255 < v2) := by
  have := e_drw e0
  have := e_i2cN e1 (by omega)
  have := e_i2cN e2 (by omega)
  have := e_bl e3
  have : (0 : Int32).toInt = 0 := by decide
  have := i_neq q0
  have : (255 : Int32).toInt = 255 := by decide
  exact o_nlt (by omega)
theorem R_7_9 {a1 a2 : Addr} {p3 p4 : Int32} (hw : HW a0 Z) (G : Gl Z w_CS w_SF) (pr1 : Str Z h0 a1 a2 [p3, p4]) (pr2 : (bl p3) = 0) (pr3 : ¬ ((bl p4) = 0)) (pr4 : ¬ (255 < p4)) : Mt false [] l Y7 C7 (rmk 7 3 13 110) #[.ref a1] Z a0 h0 n0 (KpV h0 [] fun v h => ∃ u1 u2 : Addr, v = (.ref u1) ∧ Str Z h u1 u2 [p3]) := by
  refine Mt.go PN7 (Or.inl rfl) ef_R_3 fun k => ?_
  replace k := k |>.iconst D7_0 0 |>.istoreN D7_1 sto1 |>.aloadN D7_2 rfl rfl
  replace k := (k.callV (w_34 hw) (V_Y8_8_String hw) pr1.exa (R_len2 hw G pr1) D7_3 0 rfl).pv
  replace k := k |>.istoreN D7_6 sto2 |>.iloadN D7_7 rfl |>.iloadN D7_8 rfl |>.icmpNo D7_9  |>.aloadN D7_12 rfl rfl |>.iloadN D7_13 rfl
  replace k := (k.callV (w_73 hw) (V_Y22_22_String hw) pr1.exa (R_chr2_0 hw G pr1) D7_14 0 rfl).pv
  replace k := (k.callS (w_93 hw) (S2 hw) (R_own_isBlank hw G) D7_17 0 rfl).pv
  replace k := k |>.ifYes D7_20 ((if0 _ _).trans (teq pr2).1) |>.iloadN D7_29 rfl |>.iloadN D7_30 rfl |>.icmpNo D7_31  |>.aloadN D7_34 rfl rfl |>.iloadN D7_35 rfl |>.iconst D7_36 1 |>.isub D7_37 (z := 1)
  replace k := (k.callV (w_73 hw) (V_Y22_22_String hw) pr1.exa (R_chr2_1 hw G pr1) D7_38 0 rfl).pv
  replace k := (k.callS (w_93 hw) (S2 hw) (R_own_isBlank hw G) D7_41 0 rfl).pv
  replace k := k |>.ifNo D7_44 ((if0 _ _).trans (feq pr3).1) |>.iinc D7_47 rfl (z := 1) (by decide) sto2 |>.goto D7_50 |>.iloadN D7_29 rfl |>.iloadN D7_30 rfl |>.icmpNo D7_31  |>.aloadN D7_34 rfl rfl |>.iloadN D7_35 rfl |>.iconst D7_36 1 |>.isub D7_37 (z := 0)
  replace k := (k.callV (w_73 hw) (V_Y22_22_String hw) pr1.exa (R_chr2_0 hw G pr1) D7_38 0 rfl).pv
  replace k := (k.callS (w_93 hw) (S2 hw) (R_own_isBlank hw G) D7_41 0 rfl).pv
  replace k := k |>.ifYes D7_44 ((if0 _ _).trans (teq pr2).1) |>.aloadN D7_53 rfl rfl |>.iloadN D7_54 rfl |>.iloadN D7_55 rfl
  obtain ⟨_, h1, K1, ⟨u1, w1, rfl, S1⟩, k⟩ := (k.callV (w_45 hw) (V_Y10_10_String hw) pr1.exa (R_sub2_0_1 hw G pr1 pr4) D7_56 0 rfl).kv
  exact k.retA D7_59 rfl ⟨_, rfl, K1, u1, w1, rfl, S1⟩
theorem own_d32 {p3 v0 v1 v2 v3 v4 : Int32} (e0 : v0 = (drw p3)) (e1 : v1 = (nar .char v0)) (e2 : v2 = (nar .char v1)) (e3 : v3 = (bl v2)) (e4 : v4 = (bl v1)) (q0 : ¬ (v3 = 0)) : ¬ (v4 = 0) := by
  have := e_drw e0
  have := e_i2cN e1 (by omega)
  have := e_i2cN e2 (by omega)
  have := e_bl e3
  have : (0 : Int32).toInt = 0 := by decide
  have := i_neq q0
  have := e_bl e4
  exact o_neq (by omega)
theorem D34_5 : Dc J34 5 (.iload_n 0) 1 6 := by decide +kernel
theorem D34_6 : Dj J34 6 (.goto 4) 4 9 10 := by decide +kernel
theorem R_34_2 {p1 p2 : Int32} (hw : HW a0 Z) (G : Gl Z w_CS w_SF) (pr1 : ¬ (p2 < p1)) : Mt false [] l Y34 C34 (rmk 0 0 0 0) #[.int p1, .int p2] Z a0 h0 n0 (Pv h0 (.int p1)) := by
  refine Mt.go PN34 (Or.inl rfl) ef_II_2 fun k => ?_
  replace k := k |>.iloadN D34_0 rfl |>.iloadN D34_1 rfl |>.icmpNo D34_2 (flt pr1).2.2.1 |>.iloadN D34_5 rfl |>.goto D34_6
  exact k.retI D34_10 rfl ⟨rfl, rfl⟩
theorem R_32_3 {a1 : Addr} {p2 p3 p4 : Int32} {f5 : Nat → Int32} (hw : HW a0 Z) (G : Gl Z w_CS w_SF) (pr1 : ¬ (p3 < p2)) (pr2 : ¬ ((p3 - p2) < 0)) (pr3 : (p3 - p2).toNatClampNeg ≤ 8) (pr4 : Ary Z h0 a1 (T, .byte) p4.toNatClampNeg (bv f5)) (pr5 : ¬ (p4 < 0)) (pr6 : ¬ ((p3 - p2) < (p4 - p2))) (pr7 : ¬ (p2 < 0)) (pr8 : ¬ ((p4 - p2) < 0)) (pr9 : p2.toNatClampNeg + (p4 - p2).toNatClampNeg ≤ p4.toNatClampNeg) (pr10 : 0 + (p4 - p2).toNatClampNeg ≤ (p3 - p2).toNatClampNeg) : Mt false [] l Y32 C32 (rmk 1 1 8 18) #[.ref a1, .int p2, .int p3] Z a0 h0 n0 (KpV h0 [] fun v h => ∃ u1 : Addr, v = (.ref u1) ∧ h0.size ≤ u1 ∧ Ary Z h u1 ATB (p3 - p2).toNatClampNeg (bv (cpyi f5 (fun _ => 0) p2.toNatClampNeg 0 (p4 - p2).toNatClampNeg))) := by
  refine Mt.go PN32 (Or.inl rfl) ef_RII_5 fun k => ?_
  have nz := k.n0le
  replace k := k |>.iloadN D32_0 rfl |>.iloadN D32_1 rfl
  replace k := (k.callS (w_160 hw) (S33 hw) (R_33_1 hw G pr1) D32_2 0 rfl).p0
  replace k := k |>.iloadN D32_5 rfl |>.iloadN D32_6 rfl |>.isub D32_7 rfl |>.istoreN D32_8 sto3 |>.iloadN D32_9 rfl
  have z2 := k.sz
  obtain ⟨b2, h2, g2, K2, O2, k⟩ := k.newP (aty := .byte) "[B" (w_23 hw) (by decide) D32_10 8 pr2 (n := (p3 - p2).toNatClampNeg) rfl pr3 (by decide) bv_zero
  replace k := k |>.astore D32_12 rfl sto4 |>.aloadN D32_14 rfl rfl |>.iloadN D32_15 rfl |>.aload D32_16 rfl rfl |>.iconst D32_18 0 |>.aloadN D32_19 rfl rfl
  have o3 := pr4.keep K2 nin0
  replace k := k |>.alen o3 D32_20 (lenS pr5) |>.iloadN D32_21 rfl |>.isub D32_22 rfl |>.iloadN D32_23 rfl
  replace k := (k.callS (w_163 hw) (S34 hw) (R_34_2 hw G pr6) D32_24 4 rfl).pv
  have s_b2 := Nat.le_trans z2 g2
  have n_b2 := Nat.le_trans nz s_b2
  obtain ⟨h5, K5, O5, k⟩ := k.acopy (w_167 hw) (w_170 hw) (w_168 hw) (w_169 hw) o3 O2 ⟨rfl, rfl⟩ (sp' := p2.toNatClampNeg) (nnS pr7) (dp' := 0) (by decide) (nn' := (p4 - p2).toNatClampNeg) (nnS pr8) pr9 pr10 bv_cpy n_b2 D32_27 0
  replace k := k |>.aload D32_30 rfl rfl
  exact k.retA D32_32 rfl ⟨_, rfl, (K2.trans K5 (allS (Or.inr s_b2) all0)), b2, rfl, s_b2, O5⟩
theorem R_31_3 {a1 : Addr} {p2 p3 p4 : Int32} {f5 : Nat → Int32} (hw : HW a0 Z) (G : Gl Z w_CS w_SF) (pr1 : ¬ (p2 = 0)) (pr2 : ¬ (p3 < p2)) (pr3 : ¬ ((p3 - p2) < 0)) (pr4 : (p3 - p2).toNatClampNeg ≤ 8) (pr5 : Ary Z h0 a1 (T, .byte) p4.toNatClampNeg (bv f5)) (pr6 : ¬ (p4 < 0)) (pr7 : ¬ ((p3 - p2) < (p4 - p2))) (pr8 : ¬ (p2 < 0)) (pr9 : ¬ ((p4 - p2) < 0)) (pr10 : p2.toNatClampNeg + (p4 - p2).toNatClampNeg ≤ p4.toNatClampNeg) (pr11 : 0 + (p4 - p2).toNatClampNeg ≤ (p3 - p2).toNatClampNeg) : Mt false [] l Y31 C31 (rmk 2 1 8 34) #[.ref a1, .int p2, .int p3] Z a0 h0 n0 (KpV h0 [] fun v h => ∃ u1 : Addr, v = (.ref u1) ∧ h0.size ≤ u1 ∧ Ary Z h u1 ATB (p3 - p2).toNatClampNeg (bv (cpyi f5 (fun _ => 0) p2.toNatClampNeg 0 (p4 - p2).toNatClampNeg))) := by
  refine Mt.go PN31 (Or.inl rfl) ef_RII_3 fun k => ?_
  replace k := k |>.iloadN D31_0 rfl |>.ifYes D31_1 ((if0 _ _).trans (feq pr1).2) |>.aloadN D31_10 rfl rfl |>.iloadN D31_11 rfl |>.iloadN D31_12 rfl
  have z1 := k.sz
  obtain ⟨_, h1, K1, ⟨u1_1, rfl, f1_0, f1_1⟩, k⟩ := (k.callS (w_157 hw) (S32 hw) (R_32_3 hw G pr2 pr3 pr4 pr5 pr6 pr7 pr8 pr9 pr10 pr11) D31_13 0 rfl).kv
  have o2 : Ary Z h1 u1_1 ATB (p3 - p2).toNatClampNeg (bv (cpyi f5 (fun _ => 0) p2.toNatClampNeg 0 (p4 - p2).toNatClampNeg)) := f1_1
  have s_u1_1 := Nat.le_trans z1 f1_0
  exact k.retA D31_16 rfl ⟨_, rfl, K1, u1_1, rfl, s_u1_1, o2⟩
theorem R_30_4 {a1 : Addr} {p2 p3 p4 : Int32} {f5 : Nat → Int32} (hw : HW a0 Z) (G : Gl Z w_CS w_SF) (pr1 : ¬ (p3 = 0)) (pr2 : ¬ (p2 = 0)) (pr3 : ¬ ((p2 + p3) < p2)) (pr4 : ¬ (((p2 + p3) - p2) < 0)) (pr5 : ((p2 + p3) - p2).toNatClampNeg ≤ 8) (pr6 : Ary Z h0 a1 (T, .byte) p4.toNatClampNeg (bv f5)) (pr7 : ¬ (p4 < 0)) (pr8 : ¬ (((p2 + p3) - p2) < (p4 - p2))) (pr9 : ¬ (p2 < 0)) (pr10 : ¬ ((p4 - p2) < 0)) (pr11 : p2.toNatClampNeg + (p4 - p2).toNatClampNeg ≤ p4.toNatClampNeg) (pr12 : 0 + (p4 - p2).toNatClampNeg ≤ ((p2 + p3) - p2).toNatClampNeg) : Mt false [] l Y30 C30 (rmk 3 2 12 50) #[.ref a1, .int p2, .int p3] Z a0 h0 n0 (KpV h0 [] fun v h => ∃ u1 u2 : Addr, v = (.ref u1) ∧ h0.size ≤ u1 ∧ h0.size ≤ u2 ∧ u2 ≠ u1 ∧ Obj Z h u1 L_String [.ref u2, .int 0] ∧ Ary Z h u2 ATB ((p2 + p3) - p2).toNatClampNeg (bv (cpyi f5 (fun _ => 0) p2.toNatClampNeg 0 (p4 - p2).toNatClampNeg))) := by
  refine Mt.go PN30 (Or.inl rfl) ef_RII_3 fun k => ?_
  have nz := k.n0le
  replace k := k |>.iloadN D30_0 rfl |>.ifYes D30_1 ((if0 _ _).trans (feq pr1).2)
  have z1 := k.sz
  obtain ⟨b1, h1, g1, K1, O1, k⟩ := k.new (L := L_String) (w_176 hw) (nw_String hw) D30_7 (by decide) dvL_String
  replace k := k |>.dup D30_10 rfl |>.aloadN D30_11 rfl rfl |>.iloadN D30_12 rfl |>.iloadN D30_13 rfl |>.iloadN D30_14 rfl |>.iadd D30_15 rfl
  have o3 := pr6.keep K1 nin0
  have z2 := k.sz
  obtain ⟨_, h2, K2, ⟨u1_2, rfl, f2_0, f2_1⟩, k⟩ := (k.callS (w_177 hw) (S31 hw) (R_31_3 hw G pr2 pr3 pr4 pr5 o3 pr7 pr8 pr9 pr10 pr11 pr12) D30_16 2 rfl).kv
  have o4 : Ary Z h2 u1_2 ATB ((p2 + p3) - p2).toNatClampNeg (bv (cpyi f5 (fun _ => 0) p2.toNatClampNeg 0 (p4 - p2).toNatClampNeg)) := f2_1
  replace k := k |>.iconst D30_19 0
  have s_b1 := Nat.le_trans z1 g1
  have n_b1 := Nat.le_trans nz s_b1
  have o6 := O1.keep K2 nin0
  obtain ⟨h5, K5, f5_0, k⟩ := (k.callI (w_178 hw) (I35 hw) (R_35_1 hw G o6 n_b1) D30_20 1 rfl).k0 (allS n_b1 all0)
  have s_u1_2 := Nat.le_trans z2 f2_0
  have o7 := o4.keep K5 (ninS (nlt' O1.lt f2_0) nin0)
  exact k.retA D30_23 rfl ⟨_, rfl, ((K1.trans K2 all0).trans K5 (allS (Or.inr s_b1) all0)), b1, u1_2, rfl, s_b1, s_u1_2, (nlt' O1.lt f2_0), f5_0, o7⟩
theorem R_38_2 {a1 a2 : Addr} {p3 p4 p5 p6 : Int32} (hw : HW a0 Z) (G : Gl Z w_CS w_SF) (pr1 : Ary Z h0 a1 ATB 4 (bv (lvi [p3, p4, p5, p6]))) (pr2 : 255 < (gcv p5 p6)) : Mt false [] l Y38 C38 (rmk 3 0 0 43) #[.ref a1, .int 1, .ref a2, .int 0, .int 1] Z a0 h0 n0 (Pv h0 (.int 0)) := by
  refine Mt.go PN38 (Or.inl rfl) ef_RIRII_7 fun k => ?_
  replace k := k |>.iloadN D38_0 rfl |>.iload D38_1 rfl |>.aloadN D38_3 rfl rfl
  replace k := (k.callS (w_144 hw) (S39 hw) (R_39_1 hw G pr1 (by decide) (by decide) (by decide) (p1 := 1) (p2 := 1) (p4 := 4)) D38_4 0 rfl).p0
  replace k := k |>.iconst D38_7 0 |>.istore D38_8 sto5 |>.iload D38_10 rfl |>.iload D38_12 rfl |>.icmpNo D38_14  |>.aloadN D38_17 rfl rfl |>.iloadN D38_18 rfl
  replace k := (k.callS (w_120 hw) (S20 hw) (R_20_1 hw G pr1 (by decide) (by decide) (by decide) (by decide) (p2 := 1) (p3 := 4)) D38_19 0 rfl).pv
  replace k := k |>.top (y := (gcv p5 p6)) rfl |>.istore D38_22 sto6 |>.iload D38_24 rfl |>.sipush D38_26 255 |>.icmpNo D38_29 (tlt pr2).2.2.2 |>.iload D38_32 rfl
  exact k.retI D38_34 rfl ⟨rfl, rfl⟩
theorem R_32_4 {a1 : Addr} {p2 p3 p4 : Int32} {f5 : Nat → Int32} (hw : HW a0 Z) (G : Gl Z w_CS w_SF) (pr1 : ¬ (p3 < p2)) (pr2 : ¬ ((p3 - p2) < 0)) (pr3 : (p3 - p2).toNatClampNeg ≤ 8) (pr4 : Ary Z h0 a1 ATB p4.toNatClampNeg (bv f5)) (pr5 : ¬ (p4 < 0)) (pr6 : ¬ ((p3 - p2) < (p4 - p2))) (pr7 : ¬ (p2 < 0)) (pr8 : ¬ ((p4 - p2) < 0)) (pr9 : p2.toNatClampNeg + (p4 - p2).toNatClampNeg ≤ p4.toNatClampNeg) (pr10 : 0 + (p4 - p2).toNatClampNeg ≤ (p3 - p2).toNatClampNeg) : Mt false [] l Y32 C32 (rmk 1 1 8 18) #[.ref a1, .int p2, .int p3] Z a0 h0 n0 (KpV h0 [] fun v h => ∃ u1 : Addr, v = (.ref u1) ∧ h0.size ≤ u1 ∧ Ary Z h u1 ATB (p3 - p2).toNatClampNeg (bv (cpyi f5 (fun _ => 0) p2.toNatClampNeg 0 (p4 - p2).toNatClampNeg))) := by
  refine Mt.go PN32 (Or.inl rfl) ef_RII_5 fun k => ?_
  have nz := k.n0le
  replace k := k |>.iloadN D32_0 rfl |>.iloadN D32_1 rfl
  replace k := (k.callS (w_160 hw) (S33 hw) (R_33_1 hw G pr1) D32_2 0 rfl).p0
  replace k := k |>.iloadN D32_5 rfl |>.iloadN D32_6 rfl |>.isub D32_7 rfl |>.istoreN D32_8 sto3 |>.iloadN D32_9 rfl
  have z2 := k.sz
  obtain ⟨b2, h2, g2, K2, O2, k⟩ := k.newP (aty := .byte) "[B" (w_23 hw) (by decide) D32_10 8 pr2 (n := (p3 - p2).toNatClampNeg) rfl pr3 (by decide) bv_zero
  replace k := k |>.astore D32_12 rfl sto4 |>.aloadN D32_14 rfl rfl |>.iloadN D32_15 rfl |>.aload D32_16 rfl rfl |>.iconst D32_18 0 |>.aloadN D32_19 rfl rfl
  have o3 := pr4.keep K2 nin0
  replace k := k |>.alen o3 D32_20 (lenS pr5) |>.iloadN D32_21 rfl |>.isub D32_22 rfl |>.iloadN D32_23 rfl
  replace k := (k.callS (w_163 hw) (S34 hw) (R_34_2 hw G pr6) D32_24 4 rfl).pv
  have s_b2 := Nat.le_trans z2 g2
  have n_b2 := Nat.le_trans nz s_b2
  obtain ⟨h5, K5, O5, k⟩ := k.acopy (w_167 hw) (w_170 hw) (w_168 hw) (w_169 hw) o3 O2 ⟨rfl, rfl⟩ (sp' := p2.toNatClampNeg) (nnS pr7) (dp' := 0) (by decide) (nn' := (p4 - p2).toNatClampNeg) (nnS pr8) pr9 pr10 bv_cpy n_b2 D32_27 0
  replace k := k |>.aload D32_30 rfl rfl
  exact k.retA D32_32 rfl ⟨_, rfl, (K2.trans K5 (allS (Or.inr s_b2) all0)), b2, rfl, s_b2, O5⟩
theorem R_31_4 {a1 : Addr} {p2 p3 p4 : Int32} {f5 : Nat → Int32} (hw : HW a0 Z) (G : Gl Z w_CS w_SF) (pr1 : ¬ (p2 = 0)) (pr2 : ¬ (p3 < p2)) (pr3 : ¬ ((p3 - p2) < 0)) (pr4 : (p3 - p2).toNatClampNeg ≤ 8) (pr5 : Ary Z h0 a1 ATB p4.toNatClampNeg (bv f5)) (pr6 : ¬ (p4 < 0)) (pr7 : ¬ ((p3 - p2) < (p4 - p2))) (pr8 : ¬ (p2 < 0)) (pr9 : ¬ ((p4 - p2) < 0)) (pr10 : p2.toNatClampNeg + (p4 - p2).toNatClampNeg ≤ p4.toNatClampNeg) (pr11 : 0 + (p4 - p2).toNatClampNeg ≤ (p3 - p2).toNatClampNeg) : Mt false [] l Y31 C31 (rmk 2 1 8 34) #[.ref a1, .int p2, .int p3] Z a0 h0 n0 (KpV h0 [] fun v h => ∃ u1 : Addr, v = (.ref u1) ∧ h0.size ≤ u1 ∧ Ary Z h u1 ATB (p3 - p2).toNatClampNeg (bv (cpyi f5 (fun _ => 0) p2.toNatClampNeg 0 (p4 - p2).toNatClampNeg))) := by
  refine Mt.go PN31 (Or.inl rfl) ef_RII_3 fun k => ?_
  replace k := k |>.iloadN D31_0 rfl |>.ifYes D31_1 ((if0 _ _).trans (feq pr1).2) |>.aloadN D31_10 rfl rfl |>.iloadN D31_11 rfl |>.iloadN D31_12 rfl
  have z1 := k.sz
  obtain ⟨_, h1, K1, ⟨u1_1, rfl, f1_0, f1_1⟩, k⟩ := (k.callS (w_157 hw) (S32 hw) (R_32_4 hw G pr2 pr3 pr4 pr5 pr6 pr7 pr8 pr9 pr10 pr11) D31_13 0 rfl).kv
  have o2 : Ary Z h1 u1_1 ATB (p3 - p2).toNatClampNeg (bv (cpyi f5 (fun _ => 0) p2.toNatClampNeg 0 (p4 - p2).toNatClampNeg)) := f1_1
  have s_u1_1 := Nat.le_trans z1 f1_0
  exact k.retA D31_16 rfl ⟨_, rfl, K1, u1_1, rfl, s_u1_1, o2⟩
theorem R_37_2 {a1 : Addr} {p2 p3 p4 p5 : Int32} (hw : HW a0 Z) (G : Gl Z w_CS w_SF) (pr1 : Ary Z h0 a1 ATB 4 (bv (lvi [p2, p3, p4, p5]))) (pr2 : 255 < (gcv p4 p5)) : Mt false [] l Y37 C37 (rmk 4 2 9 61) #[.ref a1, .int 1, .int 1] Z a0 h0 n0 (KpV h0 [] fun v h => ∃ u1 : Addr, v = (.ref u1) ∧ h0.size ≤ u1 ∧ Ary Z h u1 ATB 2 (bv (lvi [p4, p5]))) := by
  refine Mt.go PN37 (Or.inl rfl) ef_RII_6 fun k => ?_
  replace k := k |>.iloadN D37_0 rfl
  obtain ⟨b1, h1, g1, K1, O1, k⟩ := k.newP (aty := .byte) "[B" (w_23 hw) (by decide) D37_1 1 (by decide) (n := 1) (by decide) (by decide) (by decide) (bi_const (L := [0]) rfl)
  replace k := k |>.astoreN D37_3 rfl sto3 |>.aloadN D37_4 rfl rfl |>.iloadN D37_5 rfl |>.aloadN D37_6 rfl rfl |>.iconst D37_7 0 |>.iloadN D37_8 rfl
  have o3 := pr1.keep K1 nin0
  replace k := (k.callS (w_141 hw) (S38 hw) (R_38_2 hw G o3 pr2) D37_9 0 rfl).pv
  replace k := k |>.istore D37_12 sto4 |>.iload D37_14 rfl |>.iloadN D37_16 rfl |>.icmpNo D37_17  |>.aloadN D37_20 rfl rfl |>.iloadN D37_21 rfl |>.iconst D37_22 1 |>.ishl D37_23 (z := 2) |>.iloadN D37_24 rfl |>.iloadN D37_25 rfl |>.iadd D37_26 (z := 2)
  replace k := (k.callS (w_110 hw) (S18 hw) (R_18_1 hw G (by decide) (by decide) (p1 := 2)) D37_27 2 rfl).pv
  replace k := k |>.top (y := 4) (by decide)
  have z5 := k.sz
  obtain ⟨_, h5, K5, ⟨u1_5, rfl, f5_0, f5_1⟩, k⟩ := (k.callS (w_153 hw) (S31 hw) (R_31_4 hw G (by decide) (by decide) (by decide) (by decide) o3 (by decide) (by decide) (by decide) (by decide) (by decide) (by decide) (p2 := 2) (p3 := 4) (p4 := 4)) D37_30 0 rfl).kv
  have o6 : Ary Z h5 u1_5 ATB 2 (bv (lvi [p4, p5])) := Ary.norm f5_1 (bi_cpz rfl)
  replace k := k |>.astore D37_33 rfl sto5 |>.aload D37_35 rfl rfl |>.iload D37_37 rfl
  replace k := (k.callS (w_120 hw) (S20 hw) (R_20_1 hw G o6 (by decide) (by decide) (by decide) (by decide) (p2 := 0) (p3 := 2)) D37_39 0 rfl).pv
  replace k := k |>.top (y := (gcv p4 p5)) rfl |>.sipush D37_42 255 |>.icmpYes D37_45 (tlt pr2).2.2.1 |>.aload D37_61 rfl rfl
  have s_u1_5 := Nat.le_trans z5 f5_0
  exact k.retA D37_63 rfl ⟨_, rfl, (K1.trans K5 all0), u1_5, rfl, s_u1_5, o6⟩
theorem R_36_2 {a1 : Addr} {p2 p3 p4 p5 : Int32} (hw : HW a0 Z) (G : Gl Z w_CS w_SF) (pr1 : Ary Z h0 a1 ATB 4 (bv (lvi [p2, p3, p4, p5]))) (pr2 : 255 < (gcv p4 p5)) : Mt false [] l Y36 C36 (rmk 5 3 13 78) #[.ref a1, .int 1, .int 1] Z a0 h0 n0 (KpV h0 [] fun v h => ∃ u1 u2 : Addr, v = (.ref u1) ∧ h0.size ≤ u1 ∧ h0.size ≤ u2 ∧ u2 ≠ u1 ∧ Obj Z h u1 L_String [.ref u2, .int 1] ∧ Ary Z h u2 ATB 2 (bv (lvi [p4, p5]))) := by
  refine Mt.go PN36 (Or.inl rfl) ef_RII_5 fun k => ?_
  have nz := k.n0le
  replace k := k |>.iloadN D36_0 rfl |>.ifYes D36_1  |>.getS (fl_137 hw) G.S_CS D36_8 |>.ifNo D36_11 ((if0 _ _).trans (feq G.h_CS).1) |>.aloadN D36_14 rfl rfl |>.iloadN D36_15 rfl |>.iloadN D36_16 rfl
  have z1 := k.sz
  obtain ⟨_, h1, K1, ⟨u1_1, rfl, f1_0, f1_1⟩, k⟩ := (k.callS (w_138 hw) (S37 hw) (R_37_2 hw G pr1 pr2) D36_17 0 rfl).kv
  replace k := k |>.astoreN D36_20 rfl sto3 |>.aloadN D36_21 rfl rfl |>.iloadN D36_22 rfl
  replace k := (k.callS (w_171 hw) (S21 hw) (R_21_1 hw G f1_1 (by decide) (p2 := 1) (p3 := 2)) D36_23 0 rfl).pv
  replace k := k |>.top (y := 1) (by decide) |>.istore D36_26 sto4
  have z3 := k.sz
  obtain ⟨b3, h3, g3, K3, O3, k⟩ := k.new (L := L_String) (w_172 hw) (nw_String hw) D36_28 (by decide) dvL_String
  replace k := k |>.dup D36_31 rfl |>.aloadN D36_32 rfl rfl |>.iload D36_33 rfl
  have s_b3 := Nat.le_trans z3 g3
  have n_b3 := Nat.le_trans nz s_b3
  obtain ⟨h4, K4, f4_0, k⟩ := (k.callI (w_173 hw) (I35 hw) (R_35_2 hw G O3 n_b3) D36_35 1 rfl).k0 (allS n_b3 all0)
  have s_u1_1 := Nat.le_trans z1 f1_0
  have o5 := (f1_1.keep K3 nin0).keep K4 (ninS (nlt f1_1.lt g3) nin0)
  exact k.retA D36_38 rfl ⟨_, rfl, ((K1.trans K3 all0).trans K4 (allS (Or.inr s_b3) all0)), b3, u1_1, rfl, s_b3, s_u1_1, (nlt f1_1.lt g3), f4_0, o5⟩
theorem R_sub2_1_2 {a1 a2 : Addr} {c0 c1 : Int32} (hw : HW a0 Z) (G : Gl Z w_CS w_SF) (S : Str Z h0 a1 a2 [c0, c1]) (x0 : ¬ (255 < c0)) : Mt false [] l Y10 C10 (rmk 6 3 13 94) #[.ref a1, .int 1, .int 2] Z a0 h0 n0 (KpV h0 [] fun v h => ∃ u w : Addr, v = .ref u ∧ Str Z h u w [c1]) := by
  refine Mt.go PN10 (Or.inl rfl) ef_RII_5 fun k => ?_
  obtain ⟨⟨⟨g0a, g0b⟩, ⟨g1a, g1b⟩, -⟩, S⟩ := S
  rcases S with ⟨T, O, A, hl⟩ | ⟨O, A, u0 | ⟨l0, u1 | ⟨-, hx⟩⟩⟩
  · obtain ⟨l0, l1, -⟩ := hl
    have A : Ary Z h0 a2 (T, .byte) 2 (bv (lvi [(c0.toInt8.toInt32), (c1.toInt8.toInt32)])) := A
    replace k := k |>.aloadN D10_0 rfl rfl
    replace k := (k.callV (w_50 hw) (V_Y8_8_String hw) O.exa (R_8_4 hw G O A) D10_1 0 rfl).pv
    replace k := k |>.istoreN D10_4 sto3 |>.iloadN D10_5 rfl |>.iloadN D10_6 rfl |>.iloadN D10_7 rfl
    replace k := (k.callS (w_51 hw) (S11 hw) (R_11_1 hw G (by decide) (by decide) (by decide) (p1 := 1) (p2 := 2) (p3 := 2)) D10_8 0 rfl).p0
    replace k := k |>.iloadN D10_11 rfl |>.ifYes D10_12  |>.iloadN D10_22 rfl |>.iloadN D10_23 rfl |>.isub D10_24 (z := 1) |>.istore D10_25 sto4 |>.aloadN D10_27 rfl rfl
    replace k := (k.callV (w_78 hw) (V_Y23_23_String hw) O.exa (R_23_1 hw G O) D10_28 0 rfl).pv
    replace k := k |>.ifNo D10_31  |>.aloadN D10_34 rfl rfl |>.getF (fl_28 hw) O 0 D10_35 rfl rfl |>.iloadN D10_38 rfl |>.iload D10_39 rfl
    obtain ⟨_, h4, K4, ⟨u1_4, u2_4, rfl, f4_0, f4_1, f4_2, f4_3, f4_4⟩, k⟩ := (k.callS (w_96 hw) (S30 hw) (R_30_4 hw G (by decide) (by decide) (by decide) (by decide) (by decide) A (by decide) (by decide) (by decide) (by decide) (by decide) (by decide) (p2 := 1) (p3 := 1) (p4 := 2)) D10_41 0 rfl).kv
    have o5 : Ary Z h4 u2_4 ATB 1 (bv (lvi [(c1.toInt8.toInt32)])) := Ary.norm f4_4 (bi_cpz rfl)
    replace k := k |>.goto D10_44
    exact k.retA D10_57 rfl ⟨_, rfl, K4, u1_4, u2_4, rfl, ⟨⟨⟨g1a, g1b⟩, trivial⟩, Or.inl ⟨_, f4_3, o5, ⟨l1, trivial⟩⟩⟩⟩
  · exact absurd u0 x0
  · have A : Ary Z h0 a2 ATB 4 (bv (lvi [(lo8 c0), (hi8 c0), (lo8 c1), (hi8 c1)])) := A
    replace k := k |>.aloadN D10_0 rfl rfl
    replace k := (k.callV (w_50 hw) (V_Y8_8_String hw) O.exa (R_8_5 hw G O A) D10_1 0 rfl).pv
    replace k := k |>.istoreN D10_4 sto3 |>.iloadN D10_5 rfl |>.iloadN D10_6 rfl |>.iloadN D10_7 rfl
    replace k := (k.callS (w_51 hw) (S11 hw) (R_11_1 hw G (by decide) (by decide) (by decide) (p1 := 1) (p2 := 2) (p3 := 2)) D10_8 0 rfl).p0
    replace k := k |>.iloadN D10_11 rfl |>.ifYes D10_12  |>.iloadN D10_22 rfl |>.iloadN D10_23 rfl |>.isub D10_24 (z := 1) |>.istore D10_25 sto4 |>.aloadN D10_27 rfl rfl
    replace k := (k.callV (w_78 hw) (V_Y23_23_String hw) O.exa (R_23_2 hw G O) D10_28 0 rfl).pv
    replace k := k |>.ifYes D10_31  |>.aloadN D10_47 rfl rfl |>.getF (fl_28 hw) O 0 D10_48 rfl rfl |>.iloadN D10_51 rfl |>.iload D10_52 rfl
    obtain ⟨_, h9, K9, ⟨u1_9, u2_9, rfl, f9_0, f9_1, f9_2, f9_3, f9_4⟩, k⟩ := (k.callS (w_134 hw) (S36 hw) (R_36_2 hw G A (own_d20 rfl g1a g1b u1)) D10_54 0 rfl).kv
    exact k.retA D10_57 rfl ⟨_, rfl, K9, u1_9, u2_9, rfl, ⟨⟨⟨g1a, g1b⟩, trivial⟩, Or.inr ⟨f9_3, f9_4, Or.inl u1⟩⟩⟩
  · exact hx.elim
theorem R_7_11 {a1 a2 : Addr} {p3 p4 : Int32} (hw : HW a0 Z) (G : Gl Z w_CS w_SF) (pr1 : Str Z h0 a1 a2 [p3, p4]) (pr2 : ¬ ((bl p3) = 0)) (pr3 : (bl p4) = 0) (pr4 : ¬ (255 < p3)) : Mt false [] l Y7 C7 (rmk 7 3 13 110) #[.ref a1] Z a0 h0 n0 (KpV h0 [] fun v h => ∃ u1 u2 : Addr, v = (.ref u1) ∧ Str Z h u1 u2 [p4]) := by
  refine Mt.go PN7 (Or.inl rfl) ef_R_3 fun k => ?_
  replace k := k |>.iconst D7_0 0 |>.istoreN D7_1 sto1 |>.aloadN D7_2 rfl rfl
  replace k := (k.callV (w_34 hw) (V_Y8_8_String hw) pr1.exa (R_len2 hw G pr1) D7_3 0 rfl).pv
  replace k := k |>.istoreN D7_6 sto2 |>.iloadN D7_7 rfl |>.iloadN D7_8 rfl |>.icmpNo D7_9  |>.aloadN D7_12 rfl rfl |>.iloadN D7_13 rfl
  replace k := (k.callV (w_73 hw) (V_Y22_22_String hw) pr1.exa (R_chr2_0 hw G pr1) D7_14 0 rfl).pv
  replace k := (k.callS (w_93 hw) (S2 hw) (R_own_isBlank hw G) D7_17 0 rfl).pv
  replace k := k |>.ifNo D7_20 ((if0 _ _).trans (feq pr2).1) |>.iinc D7_23 rfl (z := 1) (by decide) sto1 |>.goto D7_26 |>.iloadN D7_7 rfl |>.iloadN D7_8 rfl |>.icmpNo D7_9  |>.aloadN D7_12 rfl rfl |>.iloadN D7_13 rfl
  replace k := (k.callV (w_73 hw) (V_Y22_22_String hw) pr1.exa (R_chr2_1 hw G pr1) D7_14 0 rfl).pv
  replace k := (k.callS (w_93 hw) (S2 hw) (R_own_isBlank hw G) D7_17 0 rfl).pv
  replace k := k |>.ifYes D7_20 ((if0 _ _).trans (teq pr3).1) |>.iloadN D7_29 rfl |>.iloadN D7_30 rfl |>.icmpNo D7_31  |>.aloadN D7_34 rfl rfl |>.iloadN D7_35 rfl |>.iconst D7_36 1 |>.isub D7_37 (z := 1)
  replace k := (k.callV (w_73 hw) (V_Y22_22_String hw) pr1.exa (R_chr2_1 hw G pr1) D7_38 0 rfl).pv
  replace k := (k.callS (w_93 hw) (S2 hw) (R_own_isBlank hw G) D7_41 0 rfl).pv
  replace k := k |>.ifYes D7_44 ((if0 _ _).trans (teq pr3).1) |>.aloadN D7_53 rfl rfl |>.iloadN D7_54 rfl |>.iloadN D7_55 rfl
  obtain ⟨_, h1, K1, ⟨u1, w1, rfl, S1⟩, k⟩ := (k.callV (w_45 hw) (V_Y10_10_String hw) pr1.exa (R_sub2_1_2 hw G pr1 pr4) D7_56 0 rfl).kv
  exact k.retA D7_59 rfl ⟨_, rfl, K1, u1, w1, rfl, S1⟩
theorem D3_171 : Dc code 171 (.iconst 1) 1 172 := ⟨at_171, rfl⟩
theorem D3_172 : Dj code 172 (.goto 23) 23 175 195 := ⟨at_172, rfl, by decide, by decide⟩
theorem R_13_13 {a1 a2 a3 : Addr} {p4 p5 p6 p7 p8 : Int32} (hw : HW a0 Z) (G : Gl Z w_CS w_SF) (pr1 : Str Z h0 a1 a3 [p4]) (pr2 : Ary Z h0 a2 ATC 4 (bv (lvi [p5, p6, p7, p8]))) (pr3 : p4 = p6) : Mt false [] l Y13 C13 (rmk 5 0 0 66) #[.ref a1, .int 0, .ref a2, .int 1] Z a0 h0 n0 (Pv h0 (.int 1)) := by
  refine Mt.go PN13 (Or.inl rfl) ef_RIRI_4 fun k => ?_
  replace k := k |>.iloadN D13_0 rfl |>.aloadN D13_1 rfl rfl
  replace k := (k.callV (w_59 hw) (V_Y8_8_String hw) pr1.exa (R_len1 hw G pr1) D13_2 1 rfl).pv
  replace k := k |>.icmpNo D13_5  |>.aloadN D13_8 rfl rfl |>.iloadN D13_9 rfl
  replace k := (k.callV (w_133 hw) (V_Y22_22_String hw) pr1.exa (R_chr1_0 hw G pr1) D13_10 0 rfl).pv
  replace k := k |>.aloadN D13_13 rfl rfl |>.iloadN D13_14 rfl |>.iloadN D13_15 rfl |>.iadd D13_16 (z := 1) |>.cald pr2 D13_17 (i := 1) (by decide) big1 |>.icmpNo D13_18 (teq pr3).2 |>.iconst D13_21 1 |>.goto D13_22
  exact k.retN (t := .boolean) D13_26 rfl (by simp) (z' := 1) (by decide) ⟨rfl, rfl⟩
theorem R_13_14 {a1 a2 a3 : Addr} {p4 : Int32} (hw : HW a0 Z) (G : Gl Z w_CS w_SF) (pr1 : Str Z h0 a1 a3 [p4]) : Mt false [] l Y13 C13 (rmk 2 0 0 26) #[.ref a1, .int 1, .ref a2, .int 1] Z a0 h0 n0 (Pv h0 (.int 1)) := by
  refine Mt.go PN13 (Or.inl rfl) ef_RIRI_4 fun k => ?_
  replace k := k |>.iloadN D13_0 rfl |>.aloadN D13_1 rfl rfl
  replace k := (k.callV (w_59 hw) (V_Y8_8_String hw) pr1.exa (R_len1 hw G pr1) D13_2 1 rfl).pv
  replace k := k |>.icmpYes D13_5  |>.iconst D13_21 1 |>.goto D13_22
  exact k.retN (t := .boolean) D13_26 rfl (by simp) (z' := 1) (by decide) ⟨rfl, rfl⟩
theorem R_13_15 {a1 a2 a3 : Addr} {p4 : Int32} (hw : HW a0 Z) (G : Gl Z w_CS w_SF) (pr1 : Str Z h0 a1 a3 [p4]) : Mt false [] l Y13 C13 (rmk 2 0 0 26) #[.ref a1, .int 2, .ref a2, .int 1] Z a0 h0 n0 (Pv h0 (.int 1)) := by
  refine Mt.go PN13 (Or.inl rfl) ef_RIRI_4 fun k => ?_
  replace k := k |>.iloadN D13_0 rfl |>.aloadN D13_1 rfl rfl
  replace k := (k.callV (w_59 hw) (V_Y8_8_String hw) pr1.exa (R_len1 hw G pr1) D13_2 1 rfl).pv
  replace k := k |>.icmpYes D13_5  |>.iconst D13_21 1 |>.goto D13_22
  exact k.retN (t := .boolean) D13_26 rfl (by simp) (z' := 1) (by decide) ⟨rfl, rfl⟩
theorem R_13_16 {a1 a2 a3 : Addr} {p4 : Int32} (hw : HW a0 Z) (G : Gl Z w_CS w_SF) (pr1 : Str Z h0 a1 a3 [p4]) : Mt false [] l Y13 C13 (rmk 2 0 0 26) #[.ref a1, .int 3, .ref a2, .int 1] Z a0 h0 n0 (Pv h0 (.int 1)) := by
  refine Mt.go PN13 (Or.inl rfl) ef_RIRI_4 fun k => ?_
  replace k := k |>.iloadN D13_0 rfl |>.aloadN D13_1 rfl rfl
  replace k := (k.callV (w_59 hw) (V_Y8_8_String hw) pr1.exa (R_len1 hw G pr1) D13_2 1 rfl).pv
  replace k := k |>.icmpYes D13_5  |>.iconst D13_21 1 |>.goto D13_22
  exact k.retN (t := .boolean) D13_26 rfl (by simp) (z' := 1) (by decide) ⟨rfl, rfl⟩
theorem R_sub2_2_2 {a1 a2 : Addr} {c0 c1 : Int32} (hw : HW a0 Z) (G : Gl Z w_CS w_SF) (S : Str Z h0 a1 a2 [c0, c1]) (x0 : ¬ (255 < c0)) (x1 : ¬ (255 < c1)) : Mt true consts_1 l Y10 C10 (rmk 2 2 4 29) #[.ref a1, .int 2, .int 2] Z a0 h0 n0 (KpV h0 [] fun v h => ∃ u w : Addr, v = .ref u ∧ Str Z h u w []) := by
  refine Mt.go PN10 (Or.inl rfl) ef_RII_5 fun k => ?_
  obtain ⟨⟨⟨g0a, g0b⟩, ⟨g1a, g1b⟩, -⟩, S⟩ := S
  rcases S with ⟨T, O, A, hl⟩ | ⟨O, A, u0 | ⟨l0, u1 | ⟨-, hx⟩⟩⟩
  · obtain ⟨l0, l1, -⟩ := hl
    have A : Ary Z h0 a2 (T, .byte) 2 (bv (lvi [(c0.toInt8.toInt32), (c1.toInt8.toInt32)])) := A
    replace k := k |>.aloadN D10_0 rfl rfl
    replace k := (k.callV (w_50 hw) (V_Y8_8_String hw) O.exa (R_8_4 hw G O A) D10_1 0 rfl).pv
    replace k := k |>.istoreN D10_4 sto3 |>.iloadN D10_5 rfl |>.iloadN D10_6 rfl |>.iloadN D10_7 rfl
    replace k := (k.callS (w_51 hw) (S11 hw) (R_11_1 hw G (by decide) (by decide) (by decide) (p1 := 2) (p2 := 2) (p3 := 2)) D10_8 0 rfl).p0
    replace k := k |>.iloadN D10_11 rfl |>.ifYes D10_12  |>.iloadN D10_22 rfl |>.iloadN D10_23 rfl |>.isub D10_24 (z := 0) |>.istore D10_25 sto4 |>.aloadN D10_27 rfl rfl
    replace k := (k.callV (w_78 hw) (V_Y23_23_String hw) O.exa (R_23_1 hw G O) D10_28 0 rfl).pv
    replace k := k |>.ifNo D10_31  |>.aloadN D10_34 rfl rfl |>.getF (fl_28 hw) O 0 D10_35 rfl rfl |>.iloadN D10_38 rfl |>.iload D10_39 rfl
    obtain ⟨_, vm4, h4, K4, R4, ⟨u1_4, u2_4, rfl, f4_0, f4_1⟩, k⟩ := (k.callSW (w_96 hw) (S30 hw) (R_30_2 hw G (by decide) (p2 := 2) (p3 := 0)) D10_41 0 rfl).kv
    have o5 : Ary Z h4 u2_4 ("", .byte) 0 (bv (lvi [])) := f4_1
    replace k := k |>.goto D10_44
    exact k.retA D10_57 rfl ⟨_, rfl, K4, u1_4, u2_4, rfl, ⟨trivial, Or.inl ⟨_, f4_0, o5, trivial⟩⟩⟩
  · exact absurd u0 x0
  · exact absurd u1 x1
  · exact hx.elim
theorem R_7_13 {a1 a2 : Addr} {p3 p4 : Int32} (hw : HW a0 Z) (G : Gl Z w_CS w_SF) (pr1 : Str Z h0 a1 a2 [p3, p4]) (pr2 : ¬ ((bl p3) = 0)) (pr3 : ¬ ((bl p4) = 0)) (pr4 : ¬ (255 < p3)) (pr5 : ¬ (255 < p4)) : Mt true consts_1 l Y7 C7 (rmk 5 2 4 66) #[.ref a1] Z a0 h0 n0 (KpV h0 [] fun v h => ∃ u1 u2 : Addr, v = (.ref u1) ∧ Str Z h u1 u2 []) := by
  refine Mt.go PN7 (Or.inl rfl) ef_R_3 fun k => ?_
  replace k := k |>.iconst D7_0 0 |>.istoreN D7_1 sto1 |>.aloadN D7_2 rfl rfl
  replace k := (k.callV (w_34 hw) (V_Y8_8_String hw) pr1.exa (R_len2 hw G pr1) D7_3 0 rfl).pv
  replace k := k |>.istoreN D7_6 sto2 |>.iloadN D7_7 rfl |>.iloadN D7_8 rfl |>.icmpNo D7_9  |>.aloadN D7_12 rfl rfl |>.iloadN D7_13 rfl
  replace k := (k.callV (w_73 hw) (V_Y22_22_String hw) pr1.exa (R_chr2_0 hw G pr1) D7_14 0 rfl).pv
  replace k := (k.callS (w_93 hw) (S2 hw) (R_own_isBlank hw G) D7_17 0 rfl).pv
  replace k := k |>.ifNo D7_20 ((if0 _ _).trans (feq pr2).1) |>.iinc D7_23 rfl (z := 1) (by decide) sto1 |>.goto D7_26 |>.iloadN D7_7 rfl |>.iloadN D7_8 rfl |>.icmpNo D7_9  |>.aloadN D7_12 rfl rfl |>.iloadN D7_13 rfl
  replace k := (k.callV (w_73 hw) (V_Y22_22_String hw) pr1.exa (R_chr2_1 hw G pr1) D7_14 0 rfl).pv
  replace k := (k.callS (w_93 hw) (S2 hw) (R_own_isBlank hw G) D7_17 0 rfl).pv
  replace k := k |>.ifNo D7_20 ((if0 _ _).trans (feq pr3).1) |>.iinc D7_23 rfl (z := 2) (by decide) sto1 |>.goto D7_26 |>.iloadN D7_7 rfl |>.iloadN D7_8 rfl |>.icmpYes D7_9  |>.iloadN D7_29 rfl |>.iloadN D7_30 rfl |>.icmpYes D7_31  |>.aloadN D7_53 rfl rfl |>.iloadN D7_54 rfl |>.iloadN D7_55 rfl
  obtain ⟨_, vm1, h1, K1, R1, ⟨u1, w1, rfl, S1⟩, k⟩ := (k.callVW (w_45 hw) (V_Y10_10_String hw) pr1.exa (R_sub2_2_2 hw G pr1 pr4 pr5) D7_56 0 rfl).kv
  exact k.retA D7_59 rfl ⟨_, rfl, K1, u1, w1, rfl, S1⟩
theorem own_d33 {p1 v0 v1 v2 : Int32} (e0 : v0 = (p1 &&& 2147483647)) (e1 : v1 = (v0 % 5)) (e2 : v2 = (v1 - v1)) (q0 : ¬ (v1 = 0)) (q1 : ¬ (v1 = 1)) (q2 : v1 = 2) : 0 = v2 := by
  have := rng32 p1
  have : (2147483647 : Int32).toInt = 2147483647 := by decide
  have := e_mask e0 31 2147483648
  have : (5 : Int32).toInt = 5 := by decide
  have := e_iremN e1 5 (by omega)
  have : (0 : Int32).toInt = 0 := by decide
  have := i_neq q0
  have : (1 : Int32).toInt = 1 := by decide
  have := i_neq q1
  have : (2 : Int32).toInt = 2 := by decide
  have := i_eq q2
  have := e_isubN e2 (by omega)
  exact o_eq (by omega)
theorem D4_44 : Dc J4 44 (.iload_n 1) 1 45 := by decide +kernel
theorem D4_45 : Dc J4 45 (.iconst 3) 1 46 := by decide +kernel
theorem D4_46 : Dj J4 46 (.if_icmp .ne 25) 25 49 71 := by decide +kernel
theorem D4_49 : Dc J4 49 (.iconst 3) 1 50 := by decide +kernel
theorem D4_50 : Dc J4 50 (.newarray .char) 2 52 := by decide +kernel
theorem D4_52 : Dc J4 52 .dup 1 53 := by decide +kernel
theorem D4_53 : Dc J4 53 (.iconst 0) 1 54 := by decide +kernel
theorem D4_54 : Dc J4 54 (.aload_n 0) 1 55 := by decide +kernel
theorem D4_55 : Dc J4 55 (.iconst 0) 1 56 := by decide +kernel
theorem D4_56 : Dc J4 56 .caload 1 57 := by decide +kernel
theorem D4_57 : Dc J4 57 .castore 1 58 := by decide +kernel
theorem D4_58 : Dc J4 58 .dup 1 59 := by decide +kernel
theorem D4_59 : Dc J4 59 (.iconst 1) 1 60 := by decide +kernel
theorem D4_60 : Dc J4 60 (.aload_n 0) 1 61 := by decide +kernel
theorem D4_61 : Dc J4 61 (.iconst 1) 1 62 := by decide +kernel
theorem D4_62 : Dc J4 62 .caload 1 63 := by decide +kernel
theorem D4_63 : Dc J4 63 .castore 1 64 := by decide +kernel
theorem D4_64 : Dc J4 64 .dup 1 65 := by decide +kernel
theorem D4_65 : Dc J4 65 (.iconst 2) 1 66 := by decide +kernel
theorem D4_66 : Dc J4 66 (.aload_n 0) 1 67 := by decide +kernel
theorem D4_67 : Dc J4 67 (.iconst 2) 1 68 := by decide +kernel
theorem D4_68 : Dc J4 68 .caload 1 69 := by decide +kernel
theorem big2 {x0 x1 x : Int32} {t : List Int32} : bv (lvi (x0 :: x1 :: x :: t)) 2 = .int x := rfl
theorem D4_69 : Dc J4 69 .castore 1 70 := by decide +kernel
theorem D4_70 : Dc J4 70 .areturn 1 71 := by decide +kernel
theorem R_4_8 {a1 : Addr} {p2 p3 p4 p5 p6 : Int32} (hw : HW a0 Z) (G : Gl Z w_CS w_SF) (pr1 : ¬ (p2 = 0)) (pr2 : ¬ (p2 = 1)) (pr3 : ¬ (p2 = 2)) (pr4 : p2 = 3) (pr5 : Ary Z h0 a1 ATC 4 (bv (lvi [p3, p4, p5, p6]))) : Mt false [] l Y4 C4 (rmk 0 1 3 0) #[.ref a1, .int p2] Z a0 h0 n0 (KpV h0 [] fun v h => ∃ u1 : Addr, v = (.ref u1) ∧ h0.size ≤ u1 ∧ Ary Z h u1 ATC 3 (bv (lvi [(nar .char p3), (nar .char p4), (nar .char p5)]))) := by
  refine Mt.go PN4 (Or.inl rfl) ef_RI_2 fun k => ?_
  have nz := k.n0le
  replace k := k |>.iloadN D4_0 rfl |>.ifYes D4_1 ((if0 _ _).trans (feq pr1).2) |>.iloadN D4_8 rfl |>.iconst D4_9 1 |>.icmpYes D4_10 (feq pr2).2 |>.iloadN D4_23 rfl |>.iconst D4_24 2 |>.icmpYes D4_25 (feq pr3).2 |>.iloadN D4_44 rfl |>.iconst D4_45 3 |>.icmpNo D4_46 (teq pr4).2 |>.iconst D4_49 3
  have z1 := k.sz
  obtain ⟨b1, h1, g1, K1, O1, k⟩ := k.newP (aty := .char) "[C" (w_1 hw) (by decide) D4_50 3 (by decide) (n := 3) (by decide) (by decide) (by decide) (bi_const (L := [0, 0, 0]) rfl)
  replace k := k |>.dup D4_52 rfl |>.iconst D4_53 0 |>.aloadN D4_54 rfl rfl |>.iconst D4_55 0
  have o2 := pr5.keep K1 nin0
  replace k := k |>.cald o2 D4_56 (i := 0) (by decide) big0
  have s_b1 := Nat.le_trans z1 g1
  have n_b1 := Nat.le_trans nz s_b1
  obtain ⟨h3, K3, O3, k⟩ := k.stC O1 n_b1 (Or.inl rfl) D4_57 (i := 0) (by decide) (v := (.int (nar .char p3))) rfl (fits_nar_char _) bis0
  replace k := k |>.dup D4_58 rfl |>.iconst D4_59 1 |>.aloadN D4_60 rfl rfl |>.iconst D4_61 1
  have o4 := o2.keep K3 (ninS (nlt pr5.lt s_b1) nin0)
  replace k := k |>.cald o4 D4_62 (i := 1) (by decide) big1
  obtain ⟨h5, K5, O5, k⟩ := k.stC O3 n_b1 (Or.inl rfl) D4_63 (i := 1) (by decide) (v := (.int (nar .char p4))) rfl (fits_nar_char _) bis1
  replace k := k |>.dup D4_64 rfl |>.iconst D4_65 2 |>.aloadN D4_66 rfl rfl |>.iconst D4_67 2
  have o6 := o4.keep K5 (ninS (nlt pr5.lt s_b1) nin0)
  replace k := k |>.cald o6 D4_68 (i := 2) (by decide) big2
  obtain ⟨h7, K7, O7, k⟩ := k.stC O5 n_b1 (Or.inl rfl) D4_69 (i := 2) (by decide) (v := (.int (nar .char p5))) rfl (fits_nar_char _) bis2
  exact k.retA D4_70 rfl ⟨_, rfl, (((K1.trans K3 (allS (Or.inr s_b1) all0)).trans K5 (allS (Or.inr s_b1) all0)).trans K7 (allS (Or.inr s_b1) all0)), b1, rfl, s_b1, O7⟩
theorem R_15_10 {a1 a2 : Addr} {p3 p4 p5 : Int32} (hw : HW a0 Z) (G : Gl Z w_CS w_SF) (pr1 : Ary Z h0 a1 ATC 3 (bv (lvi [p3, p4, p5]))) (pr2 : 255 < p3) : Mt false [] l Y15 C15 (rmk 0 0 0 0) #[.ref a1, .int 0, .ref a2, .int 0, .int 3] Z a0 h0 n0 (Pv h0 (.int 0)) := by
  refine Mt.go PN15 (Or.inl rfl) ef_RIRII_7 fun k => ?_
  replace k := k |>.iconst D15_0 0 |>.istore D15_1 sto5 |>.iload D15_3 rfl |>.iload D15_5 rfl |>.icmpNo D15_7  |>.aloadN D15_10 rfl rfl |>.iloadN D15_11 rfl |>.cald pr1 D15_12 (i := 0) (by decide) big0 |>.istore D15_13 sto6 |>.iload D15_15 rfl |>.sipush D15_17 255 |>.icmpNo D15_20 (tlt pr2).2.2.2
  replace k := k |>.iload D15_23 rfl
  exact k.retI D15_25 rfl ⟨rfl, rfl⟩
theorem R_17_3 (hw : HW a0 Z) (G : Gl Z w_CS w_SF) : Mt false [] l Y17 C17 (rmk 1 1 6 12) #[.int 3] Z a0 h0 n0 (KpV h0 [] fun v h => ∃ u1 : Addr, v = (.ref u1) ∧ h0.size ≤ u1 ∧ Ary Z h u1 ATB 6 (bv (lvi [0, 0, 0, 0, 0, 0]))) := by
  refine Mt.go PN17 (Or.inl rfl) ef_I_1 fun k => ?_
  replace k := k |>.iloadN D17_0 rfl
  replace k := (k.callS (w_110 hw) (S18 hw) (R_18_1 hw G (by decide) (by decide) (p1 := 3)) D17_1 0 rfl).pv
  replace k := k |>.top (y := 6) (by decide)
  have z2 := k.sz
  obtain ⟨b2, h2, g2, K2, O2, k⟩ := k.newP (aty := .byte) "[B" (w_23 hw) (by decide) D17_4 6 (by decide) (n := 6) (by decide) (by decide) (by decide) (bi_const (L := [0, 0, 0, 0, 0, 0]) rfl)
  have s_b2 := Nat.le_trans z2 g2
  exact k.retA D17_6 rfl ⟨_, rfl, K2, b2, rfl, s_b2, O2⟩
theorem R_19_4 {a1 : Addr} {p2 : Int32} (hw : HW a0 Z) (G : Gl Z w_CS w_SF) (pr1 : Ary Z h0 a1 ATB 6 (bv (lvi [0, 0, 0, 0, 0, 0]))) (pr2 : n0 ≤ a1) : Mt false [] l Y19 C19 (rmk 0 0 0 0) #[.ref a1, .int 0, .int p2] Z a0 h0 n0 (K0 h0 [a1] fun h => Ary Z h a1 ATB 6 (bv (lvi [(lo8 p2), (hi8 p2), 0, 0, 0, 0]))) := by
  refine Mt.go PN19 (Or.inl rfl) ef_RII_3 fun k => ?_
  replace k := k |>.getS (fl_117 hw) G.S_AD D19_0 |>.ifYes D19_3  |>.iloadN D19_28 rfl |>.iconst D19_29 1 |>.ishl D19_30 (z := 0) |>.istoreN D19_31 sto1 |>.aloadN D19_32 rfl rfl |>.iloadN D19_33 rfl |>.iinc D19_34 rfl (z := 1) (by decide) sto1 |>.iloadN D19_37 rfl |>.getS (fl_118 hw) G.S_HI D19_38 |>.ishr D19_41 rfl
  replace k := k |>.i2b D19_42 rfl
  obtain ⟨h1, K1, O1, k⟩ := k.stB pr1 pr2 (Or.inl rfl) D19_43 (i := 0) (by decide) (v := (.int (lo8 p2))) (congrArg Value.int (own_nnBi2b _)) (own_fitBi2b _) bis0
  replace k := k |>.aloadN D19_44 rfl rfl |>.iloadN D19_45 rfl |>.iloadN D19_46 rfl |>.getS (fl_119 hw) G.S_LO D19_47 |>.ishr D19_50 rfl |>.i2b D19_51 rfl
  obtain ⟨h2, K2, O2, k⟩ := k.stB O1 pr2 (Or.inl rfl) D19_52 (i := 1) (by decide) (v := (.int (hi8 p2))) (congrArg Value.int (own_nnBi2b _)) (own_fitBi2b _) bis1
  exact k.ret0 D19_53 rfl ⟨rfl, (K1.trans K2 (allS (Or.inl (List.mem_of_getElem? (i := 0) rfl)) all0)), O2⟩
theorem R_19_5 {a1 : Addr} {p2 p3 p4 : Int32} (hw : HW a0 Z) (G : Gl Z w_CS w_SF) (pr1 : Ary Z h0 a1 ATB 6 (bv (lvi [p3, p4, 0, 0, 0, 0]))) (pr2 : n0 ≤ a1) : Mt false [] l Y19 C19 (rmk 0 0 0 0) #[.ref a1, .int 1, .int p2] Z a0 h0 n0 (K0 h0 [a1] fun h => Ary Z h a1 ATB 6 (bv (lvi [p3, p4, (lo8 p2), (hi8 p2), 0, 0]))) := by
  refine Mt.go PN19 (Or.inl rfl) ef_RII_3 fun k => ?_
  replace k := k |>.getS (fl_117 hw) G.S_AD D19_0 |>.ifYes D19_3  |>.iloadN D19_28 rfl |>.iconst D19_29 1 |>.ishl D19_30 (z := 2) |>.istoreN D19_31 sto1 |>.aloadN D19_32 rfl rfl |>.iloadN D19_33 rfl |>.iinc D19_34 rfl (z := 3) (by decide) sto1 |>.iloadN D19_37 rfl |>.getS (fl_118 hw) G.S_HI D19_38 |>.ishr D19_41 rfl
  replace k := k |>.i2b D19_42 rfl
  obtain ⟨h1, K1, O1, k⟩ := k.stB pr1 pr2 (Or.inl rfl) D19_43 (i := 2) (by decide) (v := (.int (lo8 p2))) (congrArg Value.int (own_nnBi2b _)) (own_fitBi2b _) bis2
  replace k := k |>.aloadN D19_44 rfl rfl |>.iloadN D19_45 rfl |>.iloadN D19_46 rfl |>.getS (fl_119 hw) G.S_LO D19_47 |>.ishr D19_50 rfl |>.i2b D19_51 rfl
  obtain ⟨h2, K2, O2, k⟩ := k.stB O1 pr2 (Or.inl rfl) D19_52 (i := 3) (by decide) (v := (.int (hi8 p2))) (congrArg Value.int (own_nnBi2b _)) (own_fitBi2b _) bis3
  exact k.ret0 D19_53 rfl ⟨rfl, (K1.trans K2 (allS (Or.inl (List.mem_of_getElem? (i := 0) rfl)) all0)), O2⟩
theorem bis4 {x0 x1 x2 x3 x v : Int32} {t : List Int32} {n : Nat} : ∀ j, j < n → updv (bv (lvi (x0 :: x1 :: x2 :: x3 :: x :: t))) 4 (.int v) j = bv (lvi (x0 :: x1 :: x2 :: x3 :: v :: t)) j := bi_set rfl (by simp)
theorem bis5 {x0 x1 x2 x3 x4 x v : Int32} {t : List Int32} {n : Nat} : ∀ j, j < n → updv (bv (lvi (x0 :: x1 :: x2 :: x3 :: x4 :: x :: t))) 5 (.int v) j = bv (lvi (x0 :: x1 :: x2 :: x3 :: x4 :: v :: t)) j := bi_set rfl (by simp)
theorem R_19_6 {a1 : Addr} {p2 p3 p4 p5 p6 : Int32} (hw : HW a0 Z) (G : Gl Z w_CS w_SF) (pr1 : Ary Z h0 a1 ATB 6 (bv (lvi [p3, p4, p5, p6, 0, 0]))) (pr2 : n0 ≤ a1) : Mt false [] l Y19 C19 (rmk 0 0 0 0) #[.ref a1, .int 2, .int p2] Z a0 h0 n0 (K0 h0 [a1] fun h => Ary Z h a1 ATB 6 (bv (lvi [p3, p4, p5, p6, (lo8 p2), (hi8 p2)]))) := by
  refine Mt.go PN19 (Or.inl rfl) ef_RII_3 fun k => ?_
  replace k := k |>.getS (fl_117 hw) G.S_AD D19_0 |>.ifYes D19_3  |>.iloadN D19_28 rfl |>.iconst D19_29 1 |>.ishl D19_30 (z := 4) |>.istoreN D19_31 sto1 |>.aloadN D19_32 rfl rfl |>.iloadN D19_33 rfl |>.iinc D19_34 rfl (z := 5) (by decide) sto1 |>.iloadN D19_37 rfl |>.getS (fl_118 hw) G.S_HI D19_38 |>.ishr D19_41 rfl
  replace k := k |>.i2b D19_42 rfl
  obtain ⟨h1, K1, O1, k⟩ := k.stB pr1 pr2 (Or.inl rfl) D19_43 (i := 4) (by decide) (v := (.int (lo8 p2))) (congrArg Value.int (own_nnBi2b _)) (own_fitBi2b _) bis4
  replace k := k |>.aloadN D19_44 rfl rfl |>.iloadN D19_45 rfl |>.iloadN D19_46 rfl |>.getS (fl_119 hw) G.S_LO D19_47 |>.ishr D19_50 rfl |>.i2b D19_51 rfl
  obtain ⟨h2, K2, O2, k⟩ := k.stB O1 pr2 (Or.inl rfl) D19_52 (i := 5) (by decide) (v := (.int (hi8 p2))) (congrArg Value.int (own_nnBi2b _)) (own_fitBi2b _) bis5
  exact k.ret0 D19_53 rfl ⟨rfl, (K1.trans K2 (allS (Or.inl (List.mem_of_getElem? (i := 0) rfl)) all0)), O2⟩
theorem R_16_3 {a1 : Addr} {p2 p3 p4 : Int32} (hw : HW a0 Z) (G : Gl Z w_CS w_SF) (pr1 : Ary Z h0 a1 ATC 3 (bv (lvi [p2, p3, p4]))) : Mt false [] l Y16 C16 (rmk 2 1 6 24) #[.ref a1, .int 0, .int 3] Z a0 h0 n0 (KpV h0 [] fun v h => ∃ u1 : Addr, v = (.ref u1) ∧ h0.size ≤ u1 ∧ Ary Z h u1 ATB 6 (bv (lvi [(lo8 p2), (hi8 p2), (lo8 p3), (hi8 p3), (lo8 p4), (hi8 p4)]))) := by
  refine Mt.go PN16 (Or.inl rfl) ef_RII_5 fun k => ?_
  have nz := k.n0le
  replace k := k |>.iloadN D16_0 rfl
  have z1 := k.sz
  obtain ⟨_, h1, K1, ⟨u1_1, rfl, f1_0, f1_1⟩, k⟩ := (k.callS (w_107 hw) (S17 hw) (R_17_3 hw G) D16_1 0 rfl).kv
  replace k := k |>.astoreN D16_4 rfl sto3 |>.iconst D16_5 0 |>.istore D16_6 sto4 |>.iload D16_8 rfl |>.iloadN D16_10 rfl |>.icmpNo D16_11  |>.aloadN D16_14 rfl rfl |>.iload D16_15 rfl |>.aloadN D16_17 rfl rfl |>.iloadN D16_18 rfl
  have o2 := pr1.keep K1 nin0
  replace k := k |>.cald o2 D16_19 (i := 0) (by decide) big0
  have s_u1_1 := Nat.le_trans z1 f1_0
  have n_u1_1 := Nat.le_trans nz s_u1_1
  obtain ⟨h3, K3, f3_0, k⟩ := (k.callS (w_114 hw) (S19 hw) (R_19_4 hw G f1_1 n_u1_1) D16_20 0 rfl).k0 (allS n_u1_1 all0)
  replace k := k |>.iinc D16_23 rfl (z := 1) (by decide) sto1 |>.iinc D16_26 rfl (z := 1) (by decide) sto4 |>.goto D16_29 |>.iload D16_8 rfl |>.iloadN D16_10 rfl |>.icmpNo D16_11  |>.aloadN D16_14 rfl rfl |>.iload D16_15 rfl |>.aloadN D16_17 rfl rfl |>.iloadN D16_18 rfl
  have o4 := o2.keep K3 (ninS (nlt pr1.lt s_u1_1) nin0)
  replace k := k |>.cald o4 D16_19 (i := 1) (by decide) big1
  obtain ⟨h5, K5, f5_0, k⟩ := (k.callS (w_114 hw) (S19 hw) (R_19_5 hw G f3_0 n_u1_1) D16_20 0 rfl).k0 (allS n_u1_1 all0)
  replace k := k |>.iinc D16_23 rfl (z := 2) (by decide) sto1 |>.iinc D16_26 rfl (z := 2) (by decide) sto4 |>.goto D16_29 |>.iload D16_8 rfl |>.iloadN D16_10 rfl |>.icmpNo D16_11  |>.aloadN D16_14 rfl rfl |>.iload D16_15 rfl |>.aloadN D16_17 rfl rfl |>.iloadN D16_18 rfl
  have o6 := o4.keep K5 (ninS (nlt pr1.lt s_u1_1) nin0)
  replace k := k |>.cald o6 D16_19 (i := 2) (by decide) big2
  obtain ⟨h7, K7, f7_0, k⟩ := (k.callS (w_114 hw) (S19 hw) (R_19_6 hw G f5_0 n_u1_1) D16_20 0 rfl).k0 (allS n_u1_1 all0)
  replace k := k |>.iinc D16_23 rfl (z := 3) (by decide) sto1 |>.iinc D16_26 rfl (z := 3) (by decide) sto4 |>.goto D16_29 |>.iload D16_8 rfl |>.iloadN D16_10 rfl |>.icmpYes D16_11  |>.aloadN D16_32 rfl rfl
  exact k.retA D16_33 rfl ⟨_, rfl, (((K1.trans K3 (allS (Or.inr s_u1_1) all0)).trans K5 (allS (Or.inr s_u1_1) all0)).trans K7 (allS (Or.inr s_u1_1) all0)), u1_1, rfl, s_u1_1, f7_0⟩
theorem R_14_10 {a1 : Addr} {p2 p3 p4 : Int32} (hw : HW a0 Z) (G : Gl Z w_CS w_SF) (pr1 : Ary Z h0 a1 ATC 3 (bv (lvi [p2, p3, p4]))) (pr2 : 255 < p2) (pr3 : 255 < (gcv (lo8 p2) (hi8 p2))) : Mt false [] l Y14 C14 (rmk 3 2 9 40) #[.ref a1, .int 0, .int 3] Z a0 h0 n0 (KpV h0 [] fun v h => ∃ u1 : Addr, v = (.ref u1) ∧ h0.size ≤ u1 ∧ Ary Z h u1 ATB 6 (bv (lvi [(lo8 p2), (hi8 p2), (lo8 p3), (hi8 p3), (lo8 p4), (hi8 p4)]))) := by
  refine Mt.go PN14 (Or.inl rfl) ef_RII_6 fun k => ?_
  replace k := k |>.iloadN D14_0 rfl
  obtain ⟨b1, h1, g1, K1, O1, k⟩ := k.newP (aty := .byte) "[B" (w_23 hw) (by decide) D14_1 3 (by decide) (n := 3) (by decide) (by decide) (by decide) (bi_const (L := [0, 0, 0]) rfl)
  replace k := k |>.astoreN D14_3 rfl sto3 |>.aloadN D14_4 rfl rfl |>.iloadN D14_5 rfl |>.aloadN D14_6 rfl rfl |>.iconst D14_7 0 |>.iloadN D14_8 rfl
  have o3 := pr1.keep K1 nin0
  replace k := (k.callS (w_67 hw) (S15 hw) (R_15_10 hw G o3 pr2) D14_9 0 rfl).pv
  replace k := k |>.istore D14_12 sto4 |>.iload D14_14 rfl |>.iloadN D14_16 rfl |>.icmpNo D14_17  |>.aloadN D14_20 rfl rfl |>.iloadN D14_21 rfl |>.iloadN D14_22 rfl
  have z4 := k.sz
  obtain ⟨_, h4, K4, ⟨u1_4, rfl, f4_0, f4_1⟩, k⟩ := (k.callS (w_104 hw) (S16 hw) (R_16_3 hw G o3) D14_23 0 rfl).kv
  replace k := k |>.astore D14_26 rfl sto5 |>.aload D14_28 rfl rfl |>.iload D14_30 rfl
  replace k := (k.callS (w_120 hw) (S20 hw) (R_20_1 hw G f4_1 (by decide) (by decide) (by decide) (by decide) (p2 := 0) (p3 := 6)) D14_32 0 rfl).pv
  replace k := k |>.top (y := (gcv (lo8 p2) (hi8 p2))) rfl |>.sipush D14_35 255 |>.icmpYes D14_38 (tlt pr3).2.2.1 |>.aload D14_54 rfl rfl
  have s_u1_4 := Nat.le_trans z4 f4_0
  exact k.retA D14_56 rfl ⟨_, rfl, (K1.trans K4 all0), u1_4, rfl, s_u1_4, f4_1⟩
theorem R_6_12 {a1 a2 : Addr} {p3 p4 p5 : Int32} (hw : HW a0 Z) (G : Gl Z w_CS w_SF) (pr1 : Ary Z h0 a2 ATC 3 (bv (lvi [p3, p4, p5]))) (pr2 : 255 < p3) (pr3 : 255 < (gcv (lo8 p3) (hi8 p3))) (pr4 : Obj Z h0 a1 L_String [.null, .int 0]) (pr5 : n0 ≤ a1) : Mt false [] l Y6 C6 (rmk 4 2 9 57) #[.ref a1, .ref a2, .int 0, .int 3, .null] Z a0 h0 n0 (K0 h0 [a1] fun h => ∃ u1 : Addr, h0.size ≤ u1 ∧ Obj Z h a1 L_String [.ref u1, .int 1] ∧ Ary Z h u1 ATB 6 (bv (lvi [(lo8 p3), (hi8 p3), (lo8 p4), (hi8 p4), (lo8 p5), (hi8 p5)]))) := by
  refine Mt.go PN6 (Or.inl rfl) ef_RRIIN_6 fun k => ?_
  replace k := k |>.aloadN D6_0 rfl rfl |>.initO (w_19 hw) (w_20 hw) (w_21 hw) D6_1 0 |>.iloadN D6_4 rfl |>.ifYes D6_5  |>.getS (fl_44 hw) G.S_CS D6_27 |>.ifNo D6_30 ((if0 _ _).trans (feq G.h_CS).1) |>.aloadN D6_33 rfl rfl |>.iloadN D6_34 rfl |>.iloadN D6_35 rfl
  have z1 := k.sz
  obtain ⟨_, h1, K1, ⟨u1_1, rfl, f1_0, f1_1⟩, k⟩ := (k.callS (w_63 hw) (S14 hw) (R_14_10 hw G pr1 pr2 pr3) D6_36 0 rfl).kv
  replace k := k |>.astore D6_39 rfl sto5 |>.aloadN D6_41 rfl rfl |>.aload D6_42 rfl rfl |>.iloadN D6_44 rfl
  replace k := (k.callS (w_70 hw) (S21 hw) (R_21_1 hw G f1_1 (by decide) (p2 := 3) (p3 := 6)) D6_45 1 rfl).pv
  replace k := k |>.top (y := 1) (by decide)
  have o3 := pr4.keep K1 nin0
  obtain ⟨h4, K4, O4, k⟩ := k.putN (fp_29 hw) (pw_String_i_String_coder hw) o3 1 pr5 (Or.inl rfl) D6_48 rfl (v' := (.int 1)) (by decide) (by decide) ls1
  replace k := k |>.aloadN D6_51 rfl rfl |>.aload D6_52 rfl rfl
  obtain ⟨h5, K5, O5, k⟩ := k.putF (fl_28 hw) (pw_String_i_String_value hw) O4 0 pr5 (Or.inl rfl) D6_54 rfl rfl rfl ls0
  have s_u1_1 := Nat.le_trans z1 f1_0
  have o6 := (f1_1.keep K4 (ninS (nlt' pr4.lt s_u1_1) nin0)).keep K5 (ninS (nlt' pr4.lt s_u1_1) nin0)
  exact k.ret0 D6_57 rfl ⟨rfl, ((((Keep.refl h0 [a1]).trans K1 all0).trans K4 (allS (Or.inl (List.mem_of_getElem? (i := 0) rfl)) all0)).trans K5 (allS (Or.inl (List.mem_of_getElem? (i := 0) rfl)) all0)), u1_1, s_u1_1, O5, o6⟩
theorem R_15_12 {a1 a2 : Addr} {p3 p4 p5 : Int32} (hw : HW a0 Z) (G : Gl Z w_CS w_SF) (pr1 : Ary Z h0 a1 ATC 3 (bv (lvi [p3, p4, p5]))) (pr2 : ¬ (255 < p3)) (pr3 : Ary Z h0 a2 ATB 3 (bv (lvi [0, 0, 0]))) (pr4 : n0 ≤ a2) (pr5 : a1 ≠ a2) (pr6 : 255 < p4) : Mt false [] l Y15 C15 (rmk 0 0 0 0) #[.ref a1, .int 0, .ref a2, .int 0, .int 3] Z a0 h0 n0 (KpV h0 [a2] fun v h => v = (.int 1) ∧ Ary Z h a2 ATB 3 (bv (lvi [(p3.toInt8.toInt32), 0, 0]))) := by
  refine Mt.go PN15 (Or.inl rfl) ef_RIRII_7 fun k => ?_
  replace k := k |>.iconst D15_0 0 |>.istore D15_1 sto5 |>.iload D15_3 rfl |>.iload D15_5 rfl |>.icmpNo D15_7  |>.aloadN D15_10 rfl rfl |>.iloadN D15_11 rfl |>.cald pr1 D15_12 (i := 0) (by decide) big0 |>.istore D15_13 sto6 |>.iload D15_15 rfl |>.sipush D15_17 255 |>.icmpYes D15_20 (flt pr2).2.2.2
  replace k := k |>.aloadN D15_26 rfl rfl |>.iloadN D15_27 rfl |>.iload D15_28 rfl |>.i2b D15_30 rfl
  obtain ⟨h1, K1, O1, k⟩ := k.stB pr3 pr4 (Or.inl rfl) D15_31 (i := 0) (by decide) (v := (.int (p3.toInt8.toInt32))) (congrArg Value.int (own_nnBi2b _)) (own_fitBi2b _) bis0
  replace k := k |>.iinc D15_32 rfl (z := 1) (by decide) sto1 |>.iinc D15_35 rfl (z := 1) (by decide) sto3 |>.iinc D15_38 rfl (z := 1) (by decide) sto5 |>.goto D15_41 |>.iload D15_3 rfl |>.iload D15_5 rfl |>.icmpNo D15_7  |>.aloadN D15_10 rfl rfl |>.iloadN D15_11 rfl
  have o2 := pr1.keep K1 (ninS pr5 nin0)
  replace k := k |>.cald o2 D15_12 (i := 1) (by decide) big1 |>.istore D15_13 sto6 |>.iload D15_15 rfl |>.sipush D15_17 255 |>.icmpNo D15_20 (tlt pr6).2.2.2 |>.iload D15_23 rfl
  exact k.retI D15_25 rfl ⟨_, rfl, K1, rfl, O1⟩
theorem R_14_12 {a1 : Addr} {p2 p3 p4 : Int32} (hw : HW a0 Z) (G : Gl Z w_CS w_SF) (pr1 : Ary Z h0 a1 ATC 3 (bv (lvi [p2, p3, p4]))) (pr2 : ¬ (255 < p2)) (pr3 : 255 < p3) (pr4 : 255 < (gcv (lo8 p3) (hi8 p3))) : Mt false [] l Y14 C14 (rmk 3 2 9 40) #[.ref a1, .int 0, .int 3] Z a0 h0 n0 (KpV h0 [] fun v h => ∃ u1 : Addr, v = (.ref u1) ∧ h0.size ≤ u1 ∧ Ary Z h u1 ATB 6 (bv (lvi [(lo8 p2), (hi8 p2), (lo8 p3), (hi8 p3), (lo8 p4), (hi8 p4)]))) := by
  refine Mt.go PN14 (Or.inl rfl) ef_RII_6 fun k => ?_
  have nz := k.n0le
  replace k := k |>.iloadN D14_0 rfl
  have z1 := k.sz
  obtain ⟨b1, h1, g1, K1, O1, k⟩ := k.newP (aty := .byte) "[B" (w_23 hw) (by decide) D14_1 3 (by decide) (n := 3) (by decide) (by decide) (by decide) (bi_const (L := [0, 0, 0]) rfl)
  replace k := k |>.astoreN D14_3 rfl sto3 |>.aloadN D14_4 rfl rfl |>.iloadN D14_5 rfl |>.aloadN D14_6 rfl rfl |>.iconst D14_7 0 |>.iloadN D14_8 rfl
  have s_b1 := Nat.le_trans z1 g1
  have n_b1 := Nat.le_trans nz s_b1
  have o3 := pr1.keep K1 nin0
  obtain ⟨_, h2, K2, ⟨rfl, f2_0⟩, k⟩ := (k.callS (w_67 hw) (S15 hw) (R_15_12 hw G o3 pr2 O1 n_b1 (nlt pr1.lt s_b1) pr3) D14_9 0 rfl).kv (allS n_b1 all0)
  replace k := k |>.istore D14_12 sto4 |>.iload D14_14 rfl |>.iloadN D14_16 rfl |>.icmpNo D14_17  |>.aloadN D14_20 rfl rfl |>.iloadN D14_21 rfl |>.iloadN D14_22 rfl
  have o5 := o3.keep K2 (ninS (nlt pr1.lt s_b1) nin0)
  have z4 := k.sz
  obtain ⟨_, h4, K4, ⟨u1_4, rfl, f4_0, f4_1⟩, k⟩ := (k.callS (w_104 hw) (S16 hw) (R_16_3 hw G o5) D14_23 0 rfl).kv
  replace k := k |>.astore D14_26 rfl sto5 |>.aload D14_28 rfl rfl |>.iload D14_30 rfl
  replace k := (k.callS (w_120 hw) (S20 hw) (R_20_1 hw G f4_1 (by decide) (by decide) (by decide) (by decide) (p2 := 1) (p3 := 6)) D14_32 0 rfl).pv
  replace k := k |>.top (y := (gcv (lo8 p3) (hi8 p3))) rfl |>.sipush D14_35 255 |>.icmpYes D14_38 (tlt pr4).2.2.1 |>.aload D14_54 rfl rfl
  have s_u1_4 := Nat.le_trans z4 f4_0
  exact k.retA D14_56 rfl ⟨_, rfl, ((K1.trans K2 (allS (Or.inr s_b1) all0)).trans K4 all0), u1_4, rfl, s_u1_4, f4_1⟩
theorem R_6_14 {a1 a2 : Addr} {p3 p4 p5 : Int32} (hw : HW a0 Z) (G : Gl Z w_CS w_SF) (pr1 : Ary Z h0 a2 ATC 3 (bv (lvi [p3, p4, p5]))) (pr2 : ¬ (255 < p3)) (pr3 : 255 < p4) (pr4 : 255 < (gcv (lo8 p4) (hi8 p4))) (pr5 : Obj Z h0 a1 L_String [.null, .int 0]) (pr6 : n0 ≤ a1) : Mt false [] l Y6 C6 (rmk 4 2 9 57) #[.ref a1, .ref a2, .int 0, .int 3, .null] Z a0 h0 n0 (K0 h0 [a1] fun h => ∃ u1 : Addr, h0.size ≤ u1 ∧ Obj Z h a1 L_String [.ref u1, .int 1] ∧ Ary Z h u1 ATB 6 (bv (lvi [(lo8 p3), (hi8 p3), (lo8 p4), (hi8 p4), (lo8 p5), (hi8 p5)]))) := by
  refine Mt.go PN6 (Or.inl rfl) ef_RRIIN_6 fun k => ?_
  replace k := k |>.aloadN D6_0 rfl rfl |>.initO (w_19 hw) (w_20 hw) (w_21 hw) D6_1 0 |>.iloadN D6_4 rfl |>.ifYes D6_5  |>.getS (fl_44 hw) G.S_CS D6_27 |>.ifNo D6_30 ((if0 _ _).trans (feq G.h_CS).1) |>.aloadN D6_33 rfl rfl |>.iloadN D6_34 rfl |>.iloadN D6_35 rfl
  have z1 := k.sz
  obtain ⟨_, h1, K1, ⟨u1_1, rfl, f1_0, f1_1⟩, k⟩ := (k.callS (w_63 hw) (S14 hw) (R_14_12 hw G pr1 pr2 pr3 pr4) D6_36 0 rfl).kv
  replace k := k |>.astore D6_39 rfl sto5 |>.aloadN D6_41 rfl rfl |>.aload D6_42 rfl rfl |>.iloadN D6_44 rfl
  replace k := (k.callS (w_70 hw) (S21 hw) (R_21_1 hw G f1_1 (by decide) (p2 := 3) (p3 := 6)) D6_45 1 rfl).pv
  replace k := k |>.top (y := 1) (by decide)
  have o3 := pr5.keep K1 nin0
  obtain ⟨h4, K4, O4, k⟩ := k.putN (fp_29 hw) (pw_String_i_String_coder hw) o3 1 pr6 (Or.inl rfl) D6_48 rfl (v' := (.int 1)) (by decide) (by decide) ls1
  replace k := k |>.aloadN D6_51 rfl rfl |>.aload D6_52 rfl rfl
  obtain ⟨h5, K5, O5, k⟩ := k.putF (fl_28 hw) (pw_String_i_String_value hw) O4 0 pr6 (Or.inl rfl) D6_54 rfl rfl rfl ls0
  have s_u1_1 := Nat.le_trans z1 f1_0
  have o6 := (f1_1.keep K4 (ninS (nlt' pr5.lt s_u1_1) nin0)).keep K5 (ninS (nlt' pr5.lt s_u1_1) nin0)
  exact k.ret0 D6_57 rfl ⟨rfl, ((((Keep.refl h0 [a1]).trans K1 all0).trans K4 (allS (Or.inl (List.mem_of_getElem? (i := 0) rfl)) all0)).trans K5 (allS (Or.inl (List.mem_of_getElem? (i := 0) rfl)) all0)), u1_1, s_u1_1, O5, o6⟩
theorem R_15_14 {a1 a2 : Addr} {p3 p4 p5 : Int32} (hw : HW a0 Z) (G : Gl Z w_CS w_SF) (pr1 : Ary Z h0 a1 ATC 3 (bv (lvi [p3, p4, p5]))) (pr2 : ¬ (255 < p3)) (pr3 : Ary Z h0 a2 ATB 3 (bv (lvi [0, 0, 0]))) (pr4 : n0 ≤ a2) (pr5 : a1 ≠ a2) (pr6 : ¬ (255 < p4)) (pr7 : 255 < p5) : Mt false [] l Y15 C15 (rmk 0 0 0 0) #[.ref a1, .int 0, .ref a2, .int 0, .int 3] Z a0 h0 n0 (KpV h0 [a2] fun v h => v = (.int 2) ∧ Ary Z h a2 ATB 3 (bv (lvi [(p3.toInt8.toInt32), (p4.toInt8.toInt32), 0]))) := by
  refine Mt.go PN15 (Or.inl rfl) ef_RIRII_7 fun k => ?_
  replace k := k |>.iconst D15_0 0 |>.istore D15_1 sto5 |>.iload D15_3 rfl |>.iload D15_5 rfl |>.icmpNo D15_7  |>.aloadN D15_10 rfl rfl |>.iloadN D15_11 rfl |>.cald pr1 D15_12 (i := 0) (by decide) big0 |>.istore D15_13 sto6 |>.iload D15_15 rfl |>.sipush D15_17 255 |>.icmpYes D15_20 (flt pr2).2.2.2
  replace k := k |>.aloadN D15_26 rfl rfl |>.iloadN D15_27 rfl |>.iload D15_28 rfl |>.i2b D15_30 rfl
  obtain ⟨h1, K1, O1, k⟩ := k.stB pr3 pr4 (Or.inl rfl) D15_31 (i := 0) (by decide) (v := (.int (p3.toInt8.toInt32))) (congrArg Value.int (own_nnBi2b _)) (own_fitBi2b _) bis0
  replace k := k |>.iinc D15_32 rfl (z := 1) (by decide) sto1 |>.iinc D15_35 rfl (z := 1) (by decide) sto3 |>.iinc D15_38 rfl (z := 1) (by decide) sto5 |>.goto D15_41 |>.iload D15_3 rfl |>.iload D15_5 rfl |>.icmpNo D15_7  |>.aloadN D15_10 rfl rfl |>.iloadN D15_11 rfl
  have o2 := pr1.keep K1 (ninS pr5 nin0)
  replace k := k |>.cald o2 D15_12 (i := 1) (by decide) big1 |>.istore D15_13 sto6 |>.iload D15_15 rfl |>.sipush D15_17 255 |>.icmpYes D15_20 (flt pr6).2.2.2 |>.aloadN D15_26 rfl rfl |>.iloadN D15_27 rfl |>.iload D15_28 rfl |>.i2b D15_30 rfl
  obtain ⟨h3, K3, O3, k⟩ := k.stB O1 pr4 (Or.inl rfl) D15_31 (i := 1) (by decide) (v := (.int (p4.toInt8.toInt32))) (congrArg Value.int (own_nnBi2b _)) (own_fitBi2b _) bis1
  replace k := k |>.iinc D15_32 rfl (z := 2) (by decide) sto1 |>.iinc D15_35 rfl (z := 2) (by decide) sto3 |>.iinc D15_38 rfl (z := 2) (by decide) sto5 |>.goto D15_41 |>.iload D15_3 rfl |>.iload D15_5 rfl |>.icmpNo D15_7  |>.aloadN D15_10 rfl rfl |>.iloadN D15_11 rfl
  have o4 := o2.keep K3 (ninS pr5 nin0)
  replace k := k |>.cald o4 D15_12 (i := 2) (by decide) big2 |>.istore D15_13 sto6 |>.iload D15_15 rfl |>.sipush D15_17 255 |>.icmpNo D15_20 (tlt pr7).2.2.2 |>.iload D15_23 rfl
  exact k.retI D15_25 rfl ⟨_, rfl, (K1.trans K3 (allS (Or.inl (List.mem_of_getElem? (i := 0) rfl)) all0)), rfl, O3⟩
theorem own_d34 {c2 v0 : Int32} (e0 : v0 = (gcv (lo8 c2) (hi8 c2))) (q0 : ¬ (c2 < 0)) (q1 : c2 < 65536) (q2 : 255 < c2) : 255 < v0 := by
  have := rng32 c2
  have : (0 : Int32).toInt = 0 := by decide
  have := i_nlt q0
  have : (65536 : Int32).toInt = 65536 := by decide
  have := i_lt q1
  have : (255 : Int32).toInt = 255 := by decide
  have := i_lt q2
  have := e_gc e0 (by omega) (by omega)
  exact o_lt (by omega)
theorem R_14_14 {a1 : Addr} {p2 p3 p4 : Int32} (hw : HW a0 Z) (G : Gl Z w_CS w_SF) (pr1 : Ary Z h0 a1 ATC 3 (bv (lvi [p2, p3, p4]))) (pr2 : ¬ (255 < p2)) (pr3 : ¬ (255 < p3)) (pr4 : 255 < p4) (pr5 : 255 < (gcv (lo8 p4) (hi8 p4))) : Mt false [] l Y14 C14 (rmk 3 2 9 40) #[.ref a1, .int 0, .int 3] Z a0 h0 n0 (KpV h0 [] fun v h => ∃ u1 : Addr, v = (.ref u1) ∧ h0.size ≤ u1 ∧ Ary Z h u1 ATB 6 (bv (lvi [(lo8 p2), (hi8 p2), (lo8 p3), (hi8 p3), (lo8 p4), (hi8 p4)]))) := by
  refine Mt.go PN14 (Or.inl rfl) ef_RII_6 fun k => ?_
  have nz := k.n0le
  replace k := k |>.iloadN D14_0 rfl
  have z1 := k.sz
  obtain ⟨b1, h1, g1, K1, O1, k⟩ := k.newP (aty := .byte) "[B" (w_23 hw) (by decide) D14_1 3 (by decide) (n := 3) (by decide) (by decide) (by decide) (bi_const (L := [0, 0, 0]) rfl)
  replace k := k |>.astoreN D14_3 rfl sto3 |>.aloadN D14_4 rfl rfl |>.iloadN D14_5 rfl |>.aloadN D14_6 rfl rfl |>.iconst D14_7 0 |>.iloadN D14_8 rfl
  have s_b1 := Nat.le_trans z1 g1
  have n_b1 := Nat.le_trans nz s_b1
  have o3 := pr1.keep K1 nin0
  obtain ⟨_, h2, K2, ⟨rfl, f2_0⟩, k⟩ := (k.callS (w_67 hw) (S15 hw) (R_15_14 hw G o3 pr2 O1 n_b1 (nlt pr1.lt s_b1) pr3 pr4) D14_9 0 rfl).kv (allS n_b1 all0)
  replace k := k |>.istore D14_12 sto4 |>.iload D14_14 rfl |>.iloadN D14_16 rfl |>.icmpNo D14_17  |>.aloadN D14_20 rfl rfl |>.iloadN D14_21 rfl |>.iloadN D14_22 rfl
  have o5 := o3.keep K2 (ninS (nlt pr1.lt s_b1) nin0)
  have z4 := k.sz
  obtain ⟨_, h4, K4, ⟨u1_4, rfl, f4_0, f4_1⟩, k⟩ := (k.callS (w_104 hw) (S16 hw) (R_16_3 hw G o5) D14_23 0 rfl).kv
  replace k := k |>.astore D14_26 rfl sto5 |>.aload D14_28 rfl rfl |>.iload D14_30 rfl
  replace k := (k.callS (w_120 hw) (S20 hw) (R_20_1 hw G f4_1 (by decide) (by decide) (by decide) (by decide) (p2 := 2) (p3 := 6)) D14_32 0 rfl).pv
  replace k := k |>.top (y := (gcv (lo8 p4) (hi8 p4))) rfl |>.sipush D14_35 255 |>.icmpYes D14_38 (tlt pr5).2.2.1 |>.aload D14_54 rfl rfl
  have s_u1_4 := Nat.le_trans z4 f4_0
  exact k.retA D14_56 rfl ⟨_, rfl, ((K1.trans K2 (allS (Or.inr s_b1) all0)).trans K4 all0), u1_4, rfl, s_u1_4, f4_1⟩
theorem R_6_16 {a1 a2 : Addr} {p3 p4 p5 : Int32} (hw : HW a0 Z) (G : Gl Z w_CS w_SF) (pr1 : Ary Z h0 a2 ATC 3 (bv (lvi [p3, p4, p5]))) (pr2 : ¬ (255 < p3)) (pr3 : ¬ (255 < p4)) (pr4 : 255 < p5) (pr5 : 255 < (gcv (lo8 p5) (hi8 p5))) (pr6 : Obj Z h0 a1 L_String [.null, .int 0]) (pr7 : n0 ≤ a1) : Mt false [] l Y6 C6 (rmk 4 2 9 57) #[.ref a1, .ref a2, .int 0, .int 3, .null] Z a0 h0 n0 (K0 h0 [a1] fun h => ∃ u1 : Addr, h0.size ≤ u1 ∧ Obj Z h a1 L_String [.ref u1, .int 1] ∧ Ary Z h u1 ATB 6 (bv (lvi [(lo8 p3), (hi8 p3), (lo8 p4), (hi8 p4), (lo8 p5), (hi8 p5)]))) := by
  refine Mt.go PN6 (Or.inl rfl) ef_RRIIN_6 fun k => ?_
  replace k := k |>.aloadN D6_0 rfl rfl |>.initO (w_19 hw) (w_20 hw) (w_21 hw) D6_1 0 |>.iloadN D6_4 rfl |>.ifYes D6_5  |>.getS (fl_44 hw) G.S_CS D6_27 |>.ifNo D6_30 ((if0 _ _).trans (feq G.h_CS).1) |>.aloadN D6_33 rfl rfl |>.iloadN D6_34 rfl |>.iloadN D6_35 rfl
  have z1 := k.sz
  obtain ⟨_, h1, K1, ⟨u1_1, rfl, f1_0, f1_1⟩, k⟩ := (k.callS (w_63 hw) (S14 hw) (R_14_14 hw G pr1 pr2 pr3 pr4 pr5) D6_36 0 rfl).kv
  replace k := k |>.astore D6_39 rfl sto5 |>.aloadN D6_41 rfl rfl |>.aload D6_42 rfl rfl |>.iloadN D6_44 rfl
  replace k := (k.callS (w_70 hw) (S21 hw) (R_21_1 hw G f1_1 (by decide) (p2 := 3) (p3 := 6)) D6_45 1 rfl).pv
  replace k := k |>.top (y := 1) (by decide)
  have o3 := pr6.keep K1 nin0
  obtain ⟨h4, K4, O4, k⟩ := k.putN (fp_29 hw) (pw_String_i_String_coder hw) o3 1 pr7 (Or.inl rfl) D6_48 rfl (v' := (.int 1)) (by decide) (by decide) ls1
  replace k := k |>.aloadN D6_51 rfl rfl |>.aload D6_52 rfl rfl
  obtain ⟨h5, K5, O5, k⟩ := k.putF (fl_28 hw) (pw_String_i_String_value hw) O4 0 pr7 (Or.inl rfl) D6_54 rfl rfl rfl ls0
  have s_u1_1 := Nat.le_trans z1 f1_0
  have o6 := (f1_1.keep K4 (ninS (nlt' pr6.lt s_u1_1) nin0)).keep K5 (ninS (nlt' pr6.lt s_u1_1) nin0)
  exact k.ret0 D6_57 rfl ⟨rfl, ((((Keep.refl h0 [a1]).trans K1 all0).trans K4 (allS (Or.inl (List.mem_of_getElem? (i := 0) rfl)) all0)).trans K5 (allS (Or.inl (List.mem_of_getElem? (i := 0) rfl)) all0)), u1_1, s_u1_1, O5, o6⟩
theorem R_15_15 {a1 a2 : Addr} {p3 p4 p5 : Int32} (hw : HW a0 Z) (G : Gl Z w_CS w_SF) (pr1 : Ary Z h0 a1 ATC 3 (bv (lvi [p3, p4, p5]))) (pr2 : ¬ (255 < p3)) (pr3 : Ary Z h0 a2 ATB 3 (bv (lvi [0, 0, 0]))) (pr4 : n0 ≤ a2) (pr5 : a1 ≠ a2) (pr6 : ¬ (255 < p4)) (pr7 : ¬ (255 < p5)) : Mt false [] l Y15 C15 (rmk 0 0 0 0) #[.ref a1, .int 0, .ref a2, .int 0, .int 3] Z a0 h0 n0 (KpV h0 [a2] fun v h => v = (.int 3) ∧ Ary Z h a2 ATB 3 (bv (lvi [(p3.toInt8.toInt32), (p4.toInt8.toInt32), (p5.toInt8.toInt32)]))) := by
  refine Mt.go PN15 (Or.inl rfl) ef_RIRII_7 fun k => ?_
  replace k := k |>.iconst D15_0 0 |>.istore D15_1 sto5 |>.iload D15_3 rfl |>.iload D15_5 rfl |>.icmpNo D15_7  |>.aloadN D15_10 rfl rfl |>.iloadN D15_11 rfl |>.cald pr1 D15_12 (i := 0) (by decide) big0 |>.istore D15_13 sto6 |>.iload D15_15 rfl |>.sipush D15_17 255 |>.icmpYes D15_20 (flt pr2).2.2.2
  replace k := k |>.aloadN D15_26 rfl rfl |>.iloadN D15_27 rfl |>.iload D15_28 rfl |>.i2b D15_30 rfl
  obtain ⟨h1, K1, O1, k⟩ := k.stB pr3 pr4 (Or.inl rfl) D15_31 (i := 0) (by decide) (v := (.int (p3.toInt8.toInt32))) (congrArg Value.int (own_nnBi2b _)) (own_fitBi2b _) bis0
  replace k := k |>.iinc D15_32 rfl (z := 1) (by decide) sto1 |>.iinc D15_35 rfl (z := 1) (by decide) sto3 |>.iinc D15_38 rfl (z := 1) (by decide) sto5 |>.goto D15_41 |>.iload D15_3 rfl |>.iload D15_5 rfl |>.icmpNo D15_7  |>.aloadN D15_10 rfl rfl |>.iloadN D15_11 rfl
  have o2 := pr1.keep K1 (ninS pr5 nin0)
  replace k := k |>.cald o2 D15_12 (i := 1) (by decide) big1 |>.istore D15_13 sto6 |>.iload D15_15 rfl |>.sipush D15_17 255 |>.icmpYes D15_20 (flt pr6).2.2.2 |>.aloadN D15_26 rfl rfl |>.iloadN D15_27 rfl |>.iload D15_28 rfl |>.i2b D15_30 rfl
  obtain ⟨h3, K3, O3, k⟩ := k.stB O1 pr4 (Or.inl rfl) D15_31 (i := 1) (by decide) (v := (.int (p4.toInt8.toInt32))) (congrArg Value.int (own_nnBi2b _)) (own_fitBi2b _) bis1
  replace k := k |>.iinc D15_32 rfl (z := 2) (by decide) sto1 |>.iinc D15_35 rfl (z := 2) (by decide) sto3 |>.iinc D15_38 rfl (z := 2) (by decide) sto5 |>.goto D15_41 |>.iload D15_3 rfl |>.iload D15_5 rfl |>.icmpNo D15_7  |>.aloadN D15_10 rfl rfl |>.iloadN D15_11 rfl
  have o4 := o2.keep K3 (ninS pr5 nin0)
  replace k := k |>.cald o4 D15_12 (i := 2) (by decide) big2 |>.istore D15_13 sto6 |>.iload D15_15 rfl |>.sipush D15_17 255 |>.icmpYes D15_20 (flt pr7).2.2.2 |>.aloadN D15_26 rfl rfl |>.iloadN D15_27 rfl |>.iload D15_28 rfl |>.i2b D15_30 rfl
  obtain ⟨h5, K5, O5, k⟩ := k.stB O3 pr4 (Or.inl rfl) D15_31 (i := 2) (by decide) (v := (.int (p5.toInt8.toInt32))) (congrArg Value.int (own_nnBi2b _)) (own_fitBi2b _) bis2
  replace k := k |>.iinc D15_32 rfl (z := 3) (by decide) sto1 |>.iinc D15_35 rfl (z := 3) (by decide) sto3 |>.iinc D15_38 rfl (z := 3) (by decide) sto5 |>.goto D15_41 |>.iload D15_3 rfl |>.iload D15_5 rfl |>.icmpYes D15_7  |>.iload D15_44 rfl
  exact k.retI D15_46 rfl ⟨_, rfl, ((K1.trans K3 (allS (Or.inl (List.mem_of_getElem? (i := 0) rfl)) all0)).trans K5 (allS (Or.inl (List.mem_of_getElem? (i := 0) rfl)) all0)), rfl, O5⟩
theorem R_14_15 {a1 : Addr} {p2 p3 p4 : Int32} (hw : HW a0 Z) (G : Gl Z w_CS w_SF) (pr1 : Ary Z h0 a1 ATC 3 (bv (lvi [p2, p3, p4]))) (pr2 : ¬ (255 < p2)) (pr3 : ¬ (255 < p3)) (pr4 : ¬ (255 < p4)) : Mt false [] l Y14 C14 (rmk 1 1 3 18) #[.ref a1, .int 0, .int 3] Z a0 h0 n0 (KpV h0 [] fun v h => ∃ u1 : Addr, v = (.ref u1) ∧ h0.size ≤ u1 ∧ Ary Z h u1 ATB 3 (bv (lvi [(p2.toInt8.toInt32), (p3.toInt8.toInt32), (p4.toInt8.toInt32)]))) := by
  refine Mt.go PN14 (Or.inl rfl) ef_RII_6 fun k => ?_
  have nz := k.n0le
  replace k := k |>.iloadN D14_0 rfl
  have z1 := k.sz
  obtain ⟨b1, h1, g1, K1, O1, k⟩ := k.newP (aty := .byte) "[B" (w_23 hw) (by decide) D14_1 3 (by decide) (n := 3) (by decide) (by decide) (by decide) (bi_const (L := [0, 0, 0]) rfl)
  replace k := k |>.astoreN D14_3 rfl sto3 |>.aloadN D14_4 rfl rfl |>.iloadN D14_5 rfl |>.aloadN D14_6 rfl rfl |>.iconst D14_7 0 |>.iloadN D14_8 rfl
  have s_b1 := Nat.le_trans z1 g1
  have n_b1 := Nat.le_trans nz s_b1
  have o3 := pr1.keep K1 nin0
  obtain ⟨_, h2, K2, ⟨rfl, f2_0⟩, k⟩ := (k.callS (w_67 hw) (S15 hw) (R_15_15 hw G o3 pr2 O1 n_b1 (nlt pr1.lt s_b1) pr3 pr4) D14_9 0 rfl).kv (allS n_b1 all0)
  replace k := k |>.istore D14_12 sto4 |>.iload D14_14 rfl |>.iloadN D14_16 rfl |>.icmpYes D14_17  |>.aloadN D14_57 rfl rfl
  exact k.retA D14_58 rfl ⟨_, rfl, (K1.trans K2 (allS (Or.inr s_b1) all0)), b1, rfl, s_b1, f2_0⟩
theorem R_6_17 {a1 a2 : Addr} {p3 p4 p5 : Int32} (hw : HW a0 Z) (G : Gl Z w_CS w_SF) (pr1 : Ary Z h0 a2 ATC 3 (bv (lvi [p3, p4, p5]))) (pr2 : ¬ (255 < p3)) (pr3 : ¬ (255 < p4)) (pr4 : ¬ (255 < p5)) (pr5 : Obj Z h0 a1 L_String [.null, .int 0]) (pr6 : n0 ≤ a1) : Mt false [] l Y6 C6 (rmk 2 1 3 35) #[.ref a1, .ref a2, .int 0, .int 3, .null] Z a0 h0 n0 (K0 h0 [a1] fun h => ∃ u1 : Addr, h0.size ≤ u1 ∧ Obj Z h a1 L_String [.ref u1, .int 0] ∧ Ary Z h u1 ATB 3 (bv (lvi [(p3.toInt8.toInt32), (p4.toInt8.toInt32), (p5.toInt8.toInt32)]))) := by
  refine Mt.go PN6 (Or.inl rfl) ef_RRIIN_6 fun k => ?_
  replace k := k |>.aloadN D6_0 rfl rfl |>.initO (w_19 hw) (w_20 hw) (w_21 hw) D6_1 0 |>.iloadN D6_4 rfl |>.ifYes D6_5  |>.getS (fl_44 hw) G.S_CS D6_27 |>.ifNo D6_30 ((if0 _ _).trans (feq G.h_CS).1) |>.aloadN D6_33 rfl rfl |>.iloadN D6_34 rfl |>.iloadN D6_35 rfl
  have z1 := k.sz
  obtain ⟨_, h1, K1, ⟨u1_1, rfl, f1_0, f1_1⟩, k⟩ := (k.callS (w_63 hw) (S14 hw) (R_14_15 hw G pr1 pr2 pr3 pr4) D6_36 0 rfl).kv
  replace k := k |>.astore D6_39 rfl sto5 |>.aloadN D6_41 rfl rfl |>.aload D6_42 rfl rfl |>.iloadN D6_44 rfl
  replace k := (k.callS (w_70 hw) (S21 hw) (R_21_1 hw G f1_1 (by decide) (p2 := 3) (p3 := 3)) D6_45 1 rfl).pv
  replace k := k |>.top (y := 0) (by decide)
  have o3 := pr5.keep K1 nin0
  obtain ⟨h4, K4, O4, k⟩ := k.putN (fp_29 hw) (pw_String_i_String_coder hw) o3 1 pr6 (Or.inl rfl) D6_48 rfl (v' := (.int 0)) (by decide) (by decide) ls1
  replace k := k |>.aloadN D6_51 rfl rfl |>.aload D6_52 rfl rfl
  obtain ⟨h5, K5, O5, k⟩ := k.putF (fl_28 hw) (pw_String_i_String_value hw) O4 0 pr6 (Or.inl rfl) D6_54 rfl rfl rfl ls0
  have s_u1_1 := Nat.le_trans z1 f1_0
  have o6 := (f1_1.keep K4 (ninS (nlt' pr5.lt s_u1_1) nin0)).keep K5 (ninS (nlt' pr5.lt s_u1_1) nin0)
  exact k.ret0 D6_57 rfl ⟨rfl, ((((Keep.refl h0 [a1]).trans K1 all0).trans K4 (allS (Or.inl (List.mem_of_getElem? (i := 0) rfl)) all0)).trans K5 (allS (Or.inl (List.mem_of_getElem? (i := 0) rfl)) all0)), u1_1, s_u1_1, O5, o6⟩
theorem R_newS3 {a1 a2 : Addr} {c0 c1 c2 : Int32} (hw : HW a0 Z) (G : Gl Z w_CS w_SF) (O : Obj Z h0 a1 L_String [.null, .int 0]) (A : Ary Z h0 a2 ATC 3 (bv (lvi [c0, c1, c2]))) (N : n0 ≤ a1) (g0a : ¬ (c0 < 0)) (g0b : c0 < 65536) (g1a : ¬ (c1 < 0)) (g1b : c1 < 65536) (g2a : ¬ (c2 < 0)) (g2b : c2 < 65536) : Mt false [] l Y5 C5 (rmk 5 2 9 74) #[.ref a1, .ref a2] Z a0 h0 n0 (K0 h0 [a1] fun h => ∃ u : Addr, Str Z h a1 u [c0, c1, c2]) := by
  refine Mt.go PN5 (Or.inl rfl) ef_RR_2 fun k => ?_
  replace k := k |>.aloadN D5_0 rfl rfl |>.aloadN D5_1 rfl rfl |>.iconst D5_2 0 |>.aloadN D5_3 rfl rfl |>.alen A D5_4 (z := 3) (by decide) |>.aconstNull D5_5
  by_cases hs1 : 255 < c0
  · have z2 := k.sz
    obtain ⟨h2, K2, ⟨u1_2, f2_0, f2_1, f2_2⟩, k⟩ := (k.callI (w_15 hw) (I6 hw) (R_6_12 hw G A hs1 (own_d6 rfl g0a g0b hs1) O N) D5_6 0 rfl).k0 (allS N all0)
    exact k.ret0 D5_9 rfl ⟨rfl, K2, u1_2, ⟨⟨⟨g0a, g0b⟩, ⟨⟨g1a, g1b⟩, ⟨⟨g2a, g2b⟩, trivial⟩⟩⟩, Or.inr ⟨f2_1, f2_2, Or.inl hs1⟩⟩⟩
  · by_cases hs3 : 255 < c1
    · have z4 := k.sz
      obtain ⟨h4, K4, ⟨u1_4, f4_0, f4_1, f4_2⟩, k⟩ := (k.callI (w_15 hw) (I6 hw) (R_6_14 hw G A hs1 hs3 (own_d20 rfl g1a g1b hs3) O N) D5_6 0 rfl).k0 (allS N all0)
      exact k.ret0 D5_9 rfl ⟨rfl, K4, u1_4, ⟨⟨⟨g0a, g0b⟩, ⟨⟨g1a, g1b⟩, ⟨⟨g2a, g2b⟩, trivial⟩⟩⟩, Or.inr ⟨f4_1, f4_2, Or.inr ⟨hs1, Or.inl hs3⟩⟩⟩⟩
    · by_cases hs5 : 255 < c2
      · have z6 := k.sz
        obtain ⟨h6, K6, ⟨u1_6, f6_0, f6_1, f6_2⟩, k⟩ := (k.callI (w_15 hw) (I6 hw) (R_6_16 hw G A hs1 hs3 hs5 (own_d34 rfl g2a g2b hs5) O N) D5_6 0 rfl).k0 (allS N all0)
        exact k.ret0 D5_9 rfl ⟨rfl, K6, u1_6, ⟨⟨⟨g0a, g0b⟩, ⟨⟨g1a, g1b⟩, ⟨⟨g2a, g2b⟩, trivial⟩⟩⟩, Or.inr ⟨f6_1, f6_2, Or.inr ⟨hs1, Or.inr ⟨hs3, Or.inl hs5⟩⟩⟩⟩⟩
      · have z7 := k.sz
        obtain ⟨h7, K7, ⟨u1_7, f7_0, f7_1, f7_2⟩, k⟩ := (k.callI (w_15 hw) (I6 hw) (R_6_17 hw G A hs1 hs3 hs5 O N) D5_6 0 rfl).k0 (allS N all0)
        exact k.ret0 D5_9 rfl ⟨rfl, K7, u1_7, ⟨⟨⟨g0a, g0b⟩, ⟨⟨g1a, g1b⟩, ⟨⟨g2a, g2b⟩, trivial⟩⟩⟩, Or.inl ⟨_, f7_1, f7_2, ⟨hs1, ⟨hs3, ⟨hs5, trivial⟩⟩⟩⟩⟩⟩
theorem own_d35 {p4 v0 v1 v2 : Int32} (e0 : v0 = (drw p4)) (e1 : v1 = (nar .char v0)) (e2 : v2 = (nar .char v1)) : ¬ (v2 < 0) := by
  have := e_drw e0
  have := e_i2cN e1 (by omega)
  have := e_i2cN e2 (by omega)
  have : (0 : Int32).toInt = 0 := by decide
  exact o_nlt (by omega)
theorem own_d36 {p4 v0 v1 v2 : Int32} (e0 : v0 = (drw p4)) (e1 : v1 = (nar .char v0)) (e2 : v2 = (nar .char v1)) : v2 < 65536 := by
  have := e_drw e0
  have := e_i2cN e1 (by omega)
  have := e_i2cN e2 (by omega)
  have : (65536 : Int32).toInt = 65536 := by decide
  exact o_lt (by omega)
theorem R_len3 {a1 a2 : Addr} {c0 c1 c2 : Int32} (hw : HW a0 Z) (G : Gl Z w_CS w_SF) (S : Str Z h0 a1 a2 [c0, c1, c2]) : Mt false [] l Y8 C8 (rmk 1 0 0 13) #[.ref a1] Z a0 h0 n0 (Pv h0 (.int 3)) := by
  refine Mt.go PN8 (Or.inl rfl) ef_R_1 fun k => ?_
  obtain ⟨⟨⟨g0a, g0b⟩, ⟨g1a, g1b⟩, ⟨g2a, g2b⟩, -⟩, S⟩ := S
  rcases S with ⟨T, O, A, hl⟩ | ⟨O, A, -⟩
  · obtain ⟨l0, l1, l2, -⟩ := hl
    have A : Ary Z h0 a2 (T, .byte) 3 (bv (lvi [(c0.toInt8.toInt32), (c1.toInt8.toInt32), (c2.toInt8.toInt32)])) := A
    replace k := k |>.aloadN D8_0 rfl rfl |>.getF (fl_28 hw) O 0 D8_1 rfl rfl |>.alen A D8_4 (z := 3) (by decide) |>.aloadN D8_5 rfl rfl
    replace k := (k.callV (w_39 hw) (V_Y9_9_String hw) O.exa (R_9_1 hw G O) D8_6 1 rfl).pv
    replace k := k |>.ishr D8_9 (z := 3)
    exact k.retI D8_10 rfl ⟨rfl, rfl⟩
  · have A : Ary Z h0 a2 ATB 6 (bv (lvi [(lo8 c0), (hi8 c0), (lo8 c1), (hi8 c1), (lo8 c2), (hi8 c2)])) := A
    replace k := k |>.aloadN D8_0 rfl rfl |>.getF (fl_28 hw) O 0 D8_1 rfl rfl |>.alen A D8_4 (z := 6) (by decide) |>.aloadN D8_5 rfl rfl
    replace k := (k.callV (w_39 hw) (V_Y9_9_String hw) O.exa (R_9_2 hw G O) D8_6 1 rfl).pv
    replace k := k |>.ishr D8_9 (z := 3)
    exact k.retI D8_10 rfl ⟨rfl, rfl⟩
theorem R_chr3_0 {a1 a2 : Addr} {c0 c1 c2 : Int32} (hw : HW a0 Z) (G : Gl Z w_CS w_SF) (S : Str Z h0 a1 a2 [c0, c1, c2]) : Mt false [] l Y22 C22 (rmk 4 0 0 53) #[.ref a1, .int 0] Z a0 h0 n0 (Pv h0 (.int c0)) := by
  refine Mt.go PN22 (Or.inl rfl) ef_RI_2 fun k => ?_
  obtain ⟨⟨⟨g0a, g0b⟩, ⟨g1a, g1b⟩, ⟨g2a, g2b⟩, -⟩, S⟩ := S
  rcases S with ⟨T, O, A, hl⟩ | ⟨O, A, -⟩
  · obtain ⟨l0, l1, l2, -⟩ := hl
    have A : Ary Z h0 a2 (T, .byte) 3 (bv (lvi [(c0.toInt8.toInt32), (c1.toInt8.toInt32), (c2.toInt8.toInt32)])) := A
    replace k := k |>.aloadN D22_0 rfl rfl
    replace k := (k.callV (w_78 hw) (V_Y23_23_String hw) O.exa (R_23_1 hw G O) D22_1 0 rfl).pv
    replace k := k |>.ifNo D22_4  |>.aloadN D22_7 rfl rfl |>.getF (fl_28 hw) O 0 D22_8 rfl rfl |>.iloadN D22_11 rfl
    replace k := (k.callS (w_83 hw) (S24 hw) (R_24_1 hw G A (by decide) (by decide) (by decide) (p2 := 0) (p3 := 3)) D22_12 0 rfl).pv
    replace k := k |>.top (y := (latc (c0.toInt8.toInt32))) rfl
    exact k.retN (t := .char) D22_15 rfl (by simp) (own_nnCi2c _) ⟨congrArg some (congrArg Value.int (own_d9 rfl g0a g0b l0)), rfl⟩
  · have A : Ary Z h0 a2 ATB 6 (bv (lvi [(lo8 c0), (hi8 c0), (lo8 c1), (hi8 c1), (lo8 c2), (hi8 c2)])) := A
    replace k := k |>.aloadN D22_0 rfl rfl
    replace k := (k.callV (w_78 hw) (V_Y23_23_String hw) O.exa (R_23_2 hw G O) D22_1 0 rfl).pv
    replace k := k |>.ifYes D22_4  |>.aloadN D22_16 rfl rfl |>.getF (fl_28 hw) O 0 D22_17 rfl rfl |>.iloadN D22_20 rfl
    replace k := (k.callS (w_123 hw) (S27 hw) (R_27_1 hw G A (by decide) (by decide) (by decide) (by decide) (by decide) (by decide) (by decide) (p2 := 0) (p3 := 6)) D22_21 0 rfl).pv
    replace k := k |>.top (y := (gcv (lo8 c0) (hi8 c0))) rfl
    exact k.retN (t := .char) D22_24 rfl (by simp) (own_nnCi2c _) ⟨congrArg some (congrArg Value.int (own_d10 rfl g0a g0b)), rfl⟩
theorem own_d37 {c2 v0 : Int32} (e0 : v0 = (latc (c2.toInt8.toInt32))) (q0 : ¬ (c2 < 0)) (q1 : c2 < 65536) (q2 : ¬ (255 < c2)) : v0 = c2 := by
  have := rng32 c2
  have : (0 : Int32).toInt = 0 := by decide
  have := i_nlt q0
  have : (65536 : Int32).toInt = 65536 := by decide
  have := i_lt q1
  have : (255 : Int32).toInt = 255 := by decide
  have := i_nlt q2
  have := e_lat e0 (by omega) (by omega)
  exact o_eq (by omega)
theorem own_d38 {c2 v0 : Int32} (e0 : v0 = (gcv (lo8 c2) (hi8 c2))) (q0 : ¬ (c2 < 0)) (q1 : c2 < 65536) : v0 = c2 := by
  have := rng32 c2
  have : (0 : Int32).toInt = 0 := by decide
  have := i_nlt q0
  have : (65536 : Int32).toInt = 65536 := by decide
  have := i_lt q1
  have := e_gc e0 (by omega) (by omega)
  exact o_eq (by omega)
theorem R_chr3_2 {a1 a2 : Addr} {c0 c1 c2 : Int32} (hw : HW a0 Z) (G : Gl Z w_CS w_SF) (S : Str Z h0 a1 a2 [c0, c1, c2]) : Mt false [] l Y22 C22 (rmk 4 0 0 53) #[.ref a1, .int 2] Z a0 h0 n0 (Pv h0 (.int c2)) := by
  refine Mt.go PN22 (Or.inl rfl) ef_RI_2 fun k => ?_
  obtain ⟨⟨⟨g0a, g0b⟩, ⟨g1a, g1b⟩, ⟨g2a, g2b⟩, -⟩, S⟩ := S
  rcases S with ⟨T, O, A, hl⟩ | ⟨O, A, -⟩
  · obtain ⟨l0, l1, l2, -⟩ := hl
    have A : Ary Z h0 a2 (T, .byte) 3 (bv (lvi [(c0.toInt8.toInt32), (c1.toInt8.toInt32), (c2.toInt8.toInt32)])) := A
    replace k := k |>.aloadN D22_0 rfl rfl
    replace k := (k.callV (w_78 hw) (V_Y23_23_String hw) O.exa (R_23_1 hw G O) D22_1 0 rfl).pv
    replace k := k |>.ifNo D22_4  |>.aloadN D22_7 rfl rfl |>.getF (fl_28 hw) O 0 D22_8 rfl rfl |>.iloadN D22_11 rfl
    replace k := (k.callS (w_83 hw) (S24 hw) (R_24_1 hw G A (by decide) (by decide) (by decide) (p2 := 2) (p3 := 3)) D22_12 0 rfl).pv
    replace k := k |>.top (y := (latc (c2.toInt8.toInt32))) rfl
    exact k.retN (t := .char) D22_15 rfl (by simp) (own_nnCi2c _) ⟨congrArg some (congrArg Value.int (own_d37 rfl g2a g2b l2)), rfl⟩
  · have A : Ary Z h0 a2 ATB 6 (bv (lvi [(lo8 c0), (hi8 c0), (lo8 c1), (hi8 c1), (lo8 c2), (hi8 c2)])) := A
    replace k := k |>.aloadN D22_0 rfl rfl
    replace k := (k.callV (w_78 hw) (V_Y23_23_String hw) O.exa (R_23_2 hw G O) D22_1 0 rfl).pv
    replace k := k |>.ifYes D22_4  |>.aloadN D22_16 rfl rfl |>.getF (fl_28 hw) O 0 D22_17 rfl rfl |>.iloadN D22_20 rfl
    replace k := (k.callS (w_123 hw) (S27 hw) (R_27_1 hw G A (by decide) (by decide) (by decide) (by decide) (by decide) (by decide) (by decide) (p2 := 2) (p3 := 6)) D22_21 0 rfl).pv
    replace k := k |>.top (y := (gcv (lo8 c2) (hi8 c2))) rfl
    exact k.retN (t := .char) D22_24 rfl (by simp) (own_nnCi2c _) ⟨congrArg some (congrArg Value.int (own_d38 rfl g2a g2b)), rfl⟩
theorem R_8_6 {a1 a2 : Addr} {p3 p4 p5 : Int32} (hw : HW a0 Z) (G : Gl Z w_CS w_SF) (pr1 : Obj Z h0 a1 litL [.ref a2, .int 0]) (pr2 : Ary Z h0 a2 (T, .byte) 3 (bv (lvi [p3, p4, p5]))) : Mt false [] l Y8 C8 (rmk 1 0 0 13) #[.ref a1] Z a0 h0 n0 (Pv h0 (.int 3)) := by
  refine Mt.go PN8 (Or.inl rfl) ef_R_1 fun k => ?_
  replace k := k |>.aloadN D8_0 rfl rfl |>.getF (fl_28 hw) pr1 0 D8_1 rfl rfl |>.alen pr2 D8_4 (z := 3) (by decide) |>.aloadN D8_5 rfl rfl
  replace k := (k.callV (w_39 hw) (V_Y9_9_String hw) pr1.exa (R_9_1 hw G pr1) D8_6 1 rfl).pv
  replace k := k |>.ishr D8_9 (z := 3)
  exact k.retI D8_10 rfl ⟨rfl, rfl⟩
theorem R_8_7 {a1 a2 : Addr} {p3 p4 p5 p6 p7 p8 : Int32} (hw : HW a0 Z) (G : Gl Z w_CS w_SF) (pr1 : Obj Z h0 a1 litL [.ref a2, .int 1]) (pr2 : Ary Z h0 a2 ATB 6 (bv (lvi [p3, p4, p5, p6, p7, p8]))) : Mt false [] l Y8 C8 (rmk 1 0 0 13) #[.ref a1] Z a0 h0 n0 (Pv h0 (.int 3)) := by
  refine Mt.go PN8 (Or.inl rfl) ef_R_1 fun k => ?_
  replace k := k |>.aloadN D8_0 rfl rfl |>.getF (fl_28 hw) pr1 0 D8_1 rfl rfl |>.alen pr2 D8_4 (z := 6) (by decide) |>.aloadN D8_5 rfl rfl
  replace k := (k.callV (w_39 hw) (V_Y9_9_String hw) pr1.exa (R_9_2 hw G pr1) D8_6 1 rfl).pv
  replace k := k |>.ishr D8_9 (z := 3)
  exact k.retI D8_10 rfl ⟨rfl, rfl⟩
theorem R_sub3_0_3 {a1 a2 : Addr} {c0 c1 c2 : Int32} (hw : HW a0 Z) (G : Gl Z w_CS w_SF) (S : Str Z h0 a1 a2 [c0, c1, c2]) : Mt false [] l Y10 C10 (rmk 2 0 0 29) #[.ref a1, .int 0, .int 3] Z a0 h0 n0 (KpV h0 [] fun v h => ∃ u w : Addr, v = .ref u ∧ Str Z h u w [c0, c1, c2]) := by
  refine Mt.go PN10 (Or.inl rfl) ef_RII_5 fun k => ?_
  have S0 := S
  obtain ⟨⟨⟨g0a, g0b⟩, ⟨g1a, g1b⟩, ⟨g2a, g2b⟩, -⟩, S⟩ := S
  rcases S with ⟨T, O, A, hl⟩ | ⟨O, A, -⟩
  · obtain ⟨l0, l1, l2, -⟩ := hl
    have A : Ary Z h0 a2 (T, .byte) 3 (bv (lvi [(c0.toInt8.toInt32), (c1.toInt8.toInt32), (c2.toInt8.toInt32)])) := A
    replace k := k |>.aloadN D10_0 rfl rfl
    replace k := (k.callV (w_50 hw) (V_Y8_8_String hw) O.exa (R_8_6 hw G O A) D10_1 0 rfl).pv
    replace k := k |>.istoreN D10_4 sto3 |>.iloadN D10_5 rfl |>.iloadN D10_6 rfl |>.iloadN D10_7 rfl
    replace k := (k.callS (w_51 hw) (S11 hw) (R_11_1 hw G (by decide) (by decide) (by decide) (p1 := 0) (p2 := 3) (p3 := 3)) D10_8 0 rfl).p0
    replace k := k |>.iloadN D10_11 rfl |>.ifNo D10_12  |>.iloadN D10_15 rfl |>.iloadN D10_16 rfl |>.icmpNo D10_17  |>.aloadN D10_20 rfl rfl
    exact k.retA D10_21 rfl ⟨_, rfl, (Keep.refl h0 []), a1, a2, rfl, S0⟩
  · have A : Ary Z h0 a2 ATB 6 (bv (lvi [(lo8 c0), (hi8 c0), (lo8 c1), (hi8 c1), (lo8 c2), (hi8 c2)])) := A
    replace k := k |>.aloadN D10_0 rfl rfl
    replace k := (k.callV (w_50 hw) (V_Y8_8_String hw) O.exa (R_8_7 hw G O A) D10_1 0 rfl).pv
    replace k := k |>.istoreN D10_4 sto3 |>.iloadN D10_5 rfl |>.iloadN D10_6 rfl |>.iloadN D10_7 rfl
    replace k := (k.callS (w_51 hw) (S11 hw) (R_11_1 hw G (by decide) (by decide) (by decide) (p1 := 0) (p2 := 3) (p3 := 3)) D10_8 0 rfl).p0
    replace k := k |>.iloadN D10_11 rfl |>.ifNo D10_12  |>.iloadN D10_15 rfl |>.iloadN D10_16 rfl |>.icmpNo D10_17  |>.aloadN D10_20 rfl rfl
    exact k.retA D10_21 rfl ⟨_, rfl, (Keep.refl h0 []), a1, a2, rfl, S0⟩
theorem R_7_16 {a1 a2 : Addr} {p3 p4 p5 : Int32} (hw : HW a0 Z) (G : Gl Z w_CS w_SF) (pr1 : Str Z h0 a1 a2 [p3, p4, p5]) (pr2 : (bl p3) = 0) (pr3 : (bl p5) = 0) : Mt false [] l Y7 C7 (rmk 5 0 0 66) #[.ref a1] Z a0 h0 n0 (KpV h0 [] fun v h => ∃ u1 u2 : Addr, v = (.ref u1) ∧ Str Z h u1 u2 [p3, p4, p5]) := by
  refine Mt.go PN7 (Or.inl rfl) ef_R_3 fun k => ?_
  replace k := k |>.iconst D7_0 0 |>.istoreN D7_1 sto1 |>.aloadN D7_2 rfl rfl
  replace k := (k.callV (w_34 hw) (V_Y8_8_String hw) pr1.exa (R_len3 hw G pr1) D7_3 0 rfl).pv
  replace k := k |>.istoreN D7_6 sto2 |>.iloadN D7_7 rfl |>.iloadN D7_8 rfl |>.icmpNo D7_9  |>.aloadN D7_12 rfl rfl |>.iloadN D7_13 rfl
  replace k := (k.callV (w_73 hw) (V_Y22_22_String hw) pr1.exa (R_chr3_0 hw G pr1) D7_14 0 rfl).pv
  replace k := (k.callS (w_93 hw) (S2 hw) (R_own_isBlank hw G) D7_17 0 rfl).pv
  replace k := k |>.ifYes D7_20 ((if0 _ _).trans (teq pr2).1) |>.iloadN D7_29 rfl |>.iloadN D7_30 rfl |>.icmpNo D7_31  |>.aloadN D7_34 rfl rfl |>.iloadN D7_35 rfl |>.iconst D7_36 1 |>.isub D7_37 (z := 2)
  replace k := (k.callV (w_73 hw) (V_Y22_22_String hw) pr1.exa (R_chr3_2 hw G pr1) D7_38 0 rfl).pv
  replace k := (k.callS (w_93 hw) (S2 hw) (R_own_isBlank hw G) D7_41 0 rfl).pv
  replace k := k |>.ifYes D7_44 ((if0 _ _).trans (teq pr3).1) |>.aloadN D7_53 rfl rfl |>.iloadN D7_54 rfl |>.iloadN D7_55 rfl
  obtain ⟨_, h1, K1, ⟨u1, w1, rfl, S1⟩, k⟩ := (k.callV (w_45 hw) (V_Y10_10_String hw) pr1.exa (R_sub3_0_3 hw G pr1) D7_56 0 rfl).kv
  exact k.retA D7_59 rfl ⟨_, rfl, K1, u1, w1, rfl, S1⟩
theorem own_d39 {p1 v0 v1 : Int32} (e0 : v0 = (p1 &&& 2147483647)) (e1 : v1 = (v0 % 5)) (q0 : ¬ (v1 = 0)) (q1 : ¬ (v1 = 1)) (q2 : ¬ (v1 = 2)) (q3 : v1 = 3) : 0 < v1 := by
  have := rng32 p1
  have : (2147483647 : Int32).toInt = 2147483647 := by decide
  have := e_mask e0 31 2147483648
  have : (5 : Int32).toInt = 5 := by decide
  have := e_iremN e1 5 (by omega)
  have : (0 : Int32).toInt = 0 := by decide
  have := i_neq q0
  have : (1 : Int32).toInt = 1 := by decide
  have := i_neq q1
  have : (2 : Int32).toInt = 2 := by decide
  have := i_neq q2
  have : (3 : Int32).toInt = 3 := by decide
  have := i_eq q3
  exact o_lt (by omega)
theorem own_d40 {p1 v0 v1 : Int32} (e0 : v0 = (p1 &&& 2147483647)) (e1 : v1 = (v0 % 5)) (q0 : ¬ (v1 = 0)) (q1 : ¬ (v1 = 1)) (q2 : ¬ (v1 = 2)) (q3 : v1 = 3) : 1 < v1 := by
  have := rng32 p1
  have : (2147483647 : Int32).toInt = 2147483647 := by decide
  have := e_mask e0 31 2147483648
  have : (5 : Int32).toInt = 5 := by decide
  have := e_iremN e1 5 (by omega)
  have : (0 : Int32).toInt = 0 := by decide
  have := i_neq q0
  have : (1 : Int32).toInt = 1 := by decide
  have := i_neq q1
  have : (2 : Int32).toInt = 2 := by decide
  have := i_neq q2
  have : (3 : Int32).toInt = 3 := by decide
  have := i_eq q3
  exact o_lt (by omega)
theorem own_d41 {p1 v0 v1 : Int32} (e0 : v0 = (p1 &&& 2147483647)) (e1 : v1 = (v0 % 5)) (q0 : ¬ (v1 = 0)) (q1 : ¬ (v1 = 1)) (q2 : ¬ (v1 = 2)) (q3 : v1 = 3) : 2 < v1 := by
  have := rng32 p1
  have : (2147483647 : Int32).toInt = 2147483647 := by decide
  have := e_mask e0 31 2147483648
  have : (5 : Int32).toInt = 5 := by decide
  have := e_iremN e1 5 (by omega)
  have : (0 : Int32).toInt = 0 := by decide
  have := i_neq q0
  have : (1 : Int32).toInt = 1 := by decide
  have := i_neq q1
  have : (2 : Int32).toInt = 2 := by decide
  have := i_neq q2
  have : (3 : Int32).toInt = 3 := by decide
  have := i_eq q3
  exact o_lt (by omega)
theorem D3_117 : Dc code 117 (.aload 6) 2 119 := ⟨at_117, rfl⟩
theorem D3_119 : Dc code 119 (.iconst 2) 1 120 := ⟨at_119, rfl⟩
theorem D3_120 : Dc code 120 .caload 1 121 := ⟨at_120, rfl⟩
theorem D3_121 : Dc code 121 (.invokestatic 29) 3 124 := ⟨at_121, rfl⟩
theorem D3_124 : Dj code 124 (.ifCond .ne 7) 7 127 131 := ⟨at_124, rfl, by decide, by decide⟩
theorem own_d42 {p4 v0 v1 v2 v3 v4 : Int32} (e0 : v0 = (drw p4)) (e1 : v1 = (nar .char v0)) (e2 : v2 = (nar .char v1)) (e3 : v3 = (bl v2)) (e4 : v4 = (bl v1)) (q0 : v3 = 0) : v4 = 0 := by
  have := e_drw e0
  have := e_i2cN e1 (by omega)
  have := e_i2cN e2 (by omega)
  have := e_bl e3
  have : (0 : Int32).toInt = 0 := by decide
  have := i_eq q0
  have := e_bl e4
  exact o_eq (by omega)
theorem D3_127 : Dc code 127 (.iconst 1) 1 128 := ⟨at_127, rfl⟩
theorem D3_128 : Dj code 128 (.goto 4) 4 131 132 := ⟨at_128, rfl, by decide, by decide⟩
theorem own_d43 {p1 v0 v1 : Int32} (e0 : v0 = (p1 &&& 2147483647)) (e1 : v1 = (v0 % 5)) (q0 : ¬ (v1 = 0)) (q1 : ¬ (v1 = 1)) (q2 : ¬ (v1 = 2)) (q3 : v1 = 3) : ¬ (3 < v1) := by
  have := rng32 p1
  have : (2147483647 : Int32).toInt = 2147483647 := by decide
  have := e_mask e0 31 2147483648
  have : (5 : Int32).toInt = 5 := by decide
  have := e_iremN e1 5 (by omega)
  have : (0 : Int32).toInt = 0 := by decide
  have := i_neq q0
  have : (1 : Int32).toInt = 1 := by decide
  have := i_neq q1
  have : (2 : Int32).toInt = 2 := by decide
  have := i_neq q2
  have : (3 : Int32).toInt = 3 := by decide
  have := i_eq q3
  exact o_nlt (by omega)
theorem D3_211 : Dc code 211 (.iconst 3) 1 212 := ⟨at_211, rfl⟩
theorem D3_212 : Dj code 212 (.goto 23) 23 215 235 := ⟨at_212, rfl, by decide, by decide⟩
theorem R_13_17 {a1 a2 a3 : Addr} {p4 p5 p6 p7 p8 p9 p10 : Int32} (hw : HW a0 Z) (G : Gl Z w_CS w_SF) (pr1 : Str Z h0 a1 a3 [p4, p5, p6]) (pr2 : Ary Z h0 a2 ATC 4 (bv (lvi [p7, p8, p9, p10]))) (pr3 : p4 = p7) : Mt false [] l Y13 C13 (rmk 5 0 0 66) #[.ref a1, .int 0, .ref a2, .int 0] Z a0 h0 n0 (Pv h0 (.int 1)) := by
  refine Mt.go PN13 (Or.inl rfl) ef_RIRI_4 fun k => ?_
  replace k := k |>.iloadN D13_0 rfl |>.aloadN D13_1 rfl rfl
  replace k := (k.callV (w_59 hw) (V_Y8_8_String hw) pr1.exa (R_len3 hw G pr1) D13_2 1 rfl).pv
  replace k := k |>.icmpNo D13_5  |>.aloadN D13_8 rfl rfl |>.iloadN D13_9 rfl
  replace k := (k.callV (w_133 hw) (V_Y22_22_String hw) pr1.exa (R_chr3_0 hw G pr1) D13_10 0 rfl).pv
  replace k := k |>.aloadN D13_13 rfl rfl |>.iloadN D13_14 rfl |>.iloadN D13_15 rfl |>.iadd D13_16 (z := 0) |>.cald pr2 D13_17 (i := 0) (by decide) big0 |>.icmpNo D13_18 (teq pr3).2 |>.iconst D13_21 1 |>.goto D13_22
  exact k.retN (t := .boolean) D13_26 rfl (by simp) (z' := 1) (by decide) ⟨rfl, rfl⟩
theorem R_chr3_1 {a1 a2 : Addr} {c0 c1 c2 : Int32} (hw : HW a0 Z) (G : Gl Z w_CS w_SF) (S : Str Z h0 a1 a2 [c0, c1, c2]) : Mt false [] l Y22 C22 (rmk 4 0 0 53) #[.ref a1, .int 1] Z a0 h0 n0 (Pv h0 (.int c1)) := by
  refine Mt.go PN22 (Or.inl rfl) ef_RI_2 fun k => ?_
  obtain ⟨⟨⟨g0a, g0b⟩, ⟨g1a, g1b⟩, ⟨g2a, g2b⟩, -⟩, S⟩ := S
  rcases S with ⟨T, O, A, hl⟩ | ⟨O, A, -⟩
  · obtain ⟨l0, l1, l2, -⟩ := hl
    have A : Ary Z h0 a2 (T, .byte) 3 (bv (lvi [(c0.toInt8.toInt32), (c1.toInt8.toInt32), (c2.toInt8.toInt32)])) := A
    replace k := k |>.aloadN D22_0 rfl rfl
    replace k := (k.callV (w_78 hw) (V_Y23_23_String hw) O.exa (R_23_1 hw G O) D22_1 0 rfl).pv
    replace k := k |>.ifNo D22_4  |>.aloadN D22_7 rfl rfl |>.getF (fl_28 hw) O 0 D22_8 rfl rfl |>.iloadN D22_11 rfl
    replace k := (k.callS (w_83 hw) (S24 hw) (R_24_1 hw G A (by decide) (by decide) (by decide) (p2 := 1) (p3 := 3)) D22_12 0 rfl).pv
    replace k := k |>.top (y := (latc (c1.toInt8.toInt32))) rfl
    exact k.retN (t := .char) D22_15 rfl (by simp) (own_nnCi2c _) ⟨congrArg some (congrArg Value.int (own_d23 rfl g1a g1b l1)), rfl⟩
  · have A : Ary Z h0 a2 ATB 6 (bv (lvi [(lo8 c0), (hi8 c0), (lo8 c1), (hi8 c1), (lo8 c2), (hi8 c2)])) := A
    replace k := k |>.aloadN D22_0 rfl rfl
    replace k := (k.callV (w_78 hw) (V_Y23_23_String hw) O.exa (R_23_2 hw G O) D22_1 0 rfl).pv
    replace k := k |>.ifYes D22_4  |>.aloadN D22_16 rfl rfl |>.getF (fl_28 hw) O 0 D22_17 rfl rfl |>.iloadN D22_20 rfl
    replace k := (k.callS (w_123 hw) (S27 hw) (R_27_1 hw G A (by decide) (by decide) (by decide) (by decide) (by decide) (by decide) (by decide) (p2 := 1) (p3 := 6)) D22_21 0 rfl).pv
    replace k := k |>.top (y := (gcv (lo8 c1) (hi8 c1))) rfl
    exact k.retN (t := .char) D22_24 rfl (by simp) (own_nnCi2c _) ⟨congrArg some (congrArg Value.int (own_d24 rfl g1a g1b)), rfl⟩
theorem own_d44 {p3 v0 v1 v2 v3 : Int32} (e0 : v0 = (drw p3)) (e1 : v1 = (nar .char v0)) (e2 : v2 = (bl v1)) (e3 : v3 = (nar .char v1)) (q0 : v2 = 0) : v3 = v1 := by
  have := e_drw e0
  have := e_i2cN e1 (by omega)
  have := e_bl e2
  have : (0 : Int32).toInt = 0 := by decide
  have := i_eq q0
  have := e_i2cN e3 (by omega)
  exact o_eq (by omega)
theorem R_13_18 {a1 a2 a3 : Addr} {p4 p5 p6 p7 p8 p9 p10 : Int32} (hw : HW a0 Z) (G : Gl Z w_CS w_SF) (pr1 : Str Z h0 a1 a3 [p4, p5, p6]) (pr2 : Ary Z h0 a2 ATC 4 (bv (lvi [p7, p8, p9, p10]))) (pr3 : p5 = p8) : Mt false [] l Y13 C13 (rmk 5 0 0 66) #[.ref a1, .int 1, .ref a2, .int 0] Z a0 h0 n0 (Pv h0 (.int 1)) := by
  refine Mt.go PN13 (Or.inl rfl) ef_RIRI_4 fun k => ?_
  replace k := k |>.iloadN D13_0 rfl |>.aloadN D13_1 rfl rfl
  replace k := (k.callV (w_59 hw) (V_Y8_8_String hw) pr1.exa (R_len3 hw G pr1) D13_2 1 rfl).pv
  replace k := k |>.icmpNo D13_5  |>.aloadN D13_8 rfl rfl |>.iloadN D13_9 rfl
  replace k := (k.callV (w_133 hw) (V_Y22_22_String hw) pr1.exa (R_chr3_1 hw G pr1) D13_10 0 rfl).pv
  replace k := k |>.aloadN D13_13 rfl rfl |>.iloadN D13_14 rfl |>.iloadN D13_15 rfl |>.iadd D13_16 (z := 1) |>.cald pr2 D13_17 (i := 1) (by decide) big1 |>.icmpNo D13_18 (teq pr3).2 |>.iconst D13_21 1 |>.goto D13_22
  exact k.retN (t := .boolean) D13_26 rfl (by simp) (z' := 1) (by decide) ⟨rfl, rfl⟩
theorem own_d45 {p4 v0 v1 v2 v3 : Int32} (e0 : v0 = (drw p4)) (e1 : v1 = (nar .char v0)) (e2 : v2 = (nar .char v1)) (e3 : v3 = (bl v2)) (q0 : v3 = 0) : v2 = v1 := by
  have := e_drw e0
  have := e_i2cN e1 (by omega)
  have := e_i2cN e2 (by omega)
  have := e_bl e3
  have : (0 : Int32).toInt = 0 := by decide
  have := i_eq q0
  exact o_eq (by omega)
theorem R_13_19 {a1 a2 a3 : Addr} {p4 p5 p6 p7 p8 p9 p10 : Int32} (hw : HW a0 Z) (G : Gl Z w_CS w_SF) (pr1 : Str Z h0 a1 a3 [p4, p5, p6]) (pr2 : Ary Z h0 a2 ATC 4 (bv (lvi [p7, p8, p9, p10]))) (pr3 : p6 = p9) : Mt false [] l Y13 C13 (rmk 5 0 0 66) #[.ref a1, .int 2, .ref a2, .int 0] Z a0 h0 n0 (Pv h0 (.int 1)) := by
  refine Mt.go PN13 (Or.inl rfl) ef_RIRI_4 fun k => ?_
  replace k := k |>.iloadN D13_0 rfl |>.aloadN D13_1 rfl rfl
  replace k := (k.callV (w_59 hw) (V_Y8_8_String hw) pr1.exa (R_len3 hw G pr1) D13_2 1 rfl).pv
  replace k := k |>.icmpNo D13_5  |>.aloadN D13_8 rfl rfl |>.iloadN D13_9 rfl
  replace k := (k.callV (w_133 hw) (V_Y22_22_String hw) pr1.exa (R_chr3_2 hw G pr1) D13_10 0 rfl).pv
  replace k := k |>.aloadN D13_13 rfl rfl |>.iloadN D13_14 rfl |>.iloadN D13_15 rfl |>.iadd D13_16 (z := 2) |>.cald pr2 D13_17 (i := 2) (by decide) big2 |>.icmpNo D13_18 (teq pr3).2 |>.iconst D13_21 1 |>.goto D13_22
  exact k.retN (t := .boolean) D13_26 rfl (by simp) (z' := 1) (by decide) ⟨rfl, rfl⟩
theorem R_13_20 {a1 a2 a3 : Addr} {p4 p5 p6 : Int32} (hw : HW a0 Z) (G : Gl Z w_CS w_SF) (pr1 : Str Z h0 a1 a3 [p4, p5, p6]) : Mt false [] l Y13 C13 (rmk 2 0 0 26) #[.ref a1, .int 3, .ref a2, .int 0] Z a0 h0 n0 (Pv h0 (.int 1)) := by
  refine Mt.go PN13 (Or.inl rfl) ef_RIRI_4 fun k => ?_
  replace k := k |>.iloadN D13_0 rfl |>.aloadN D13_1 rfl rfl
  replace k := (k.callV (w_59 hw) (V_Y8_8_String hw) pr1.exa (R_len3 hw G pr1) D13_2 1 rfl).pv
  replace k := k |>.icmpYes D13_5  |>.iconst D13_21 1 |>.goto D13_22
  exact k.retN (t := .boolean) D13_26 rfl (by simp) (z' := 1) (by decide) ⟨rfl, rfl⟩
theorem own_d46 {p3 v0 v1 v2 v3 : Int32} (e0 : v0 = (drw p3)) (e1 : v1 = (nar .char v0)) (e2 : v2 = (bl v1)) (e3 : v3 = (nar .char v1)) (q0 : ¬ (v2 = 0)) : v3 = v1 := by
  have := e_drw e0
  have := e_i2cN e1 (by omega)
  have := e_bl e2
  have : (0 : Int32).toInt = 0 := by decide
  have := i_neq q0
  have := e_i2cN e3 (by omega)
  exact o_eq (by omega)
theorem R_38_3 {a1 a2 : Addr} {p3 p4 p5 p6 p7 p8 : Int32} (hw : HW a0 Z) (G : Gl Z w_CS w_SF) (pr1 : Ary Z h0 a1 ATB 6 (bv (lvi [p3, p4, p5, p6, p7, p8]))) (pr2 : 255 < (gcv p3 p4)) : Mt false [] l Y38 C38 (rmk 3 0 0 43) #[.ref a1, .int 0, .ref a2, .int 0, .int 2] Z a0 h0 n0 (Pv h0 (.int 0)) := by
  refine Mt.go PN38 (Or.inl rfl) ef_RIRII_7 fun k => ?_
  replace k := k |>.iloadN D38_0 rfl |>.iload D38_1 rfl |>.aloadN D38_3 rfl rfl
  replace k := (k.callS (w_144 hw) (S39 hw) (R_39_1 hw G pr1 (by decide) (by decide) (by decide) (p1 := 0) (p2 := 2) (p4 := 6)) D38_4 0 rfl).p0
  replace k := k |>.iconst D38_7 0 |>.istore D38_8 sto5 |>.iload D38_10 rfl |>.iload D38_12 rfl |>.icmpNo D38_14  |>.aloadN D38_17 rfl rfl |>.iloadN D38_18 rfl
  replace k := (k.callS (w_120 hw) (S20 hw) (R_20_1 hw G pr1 (by decide) (by decide) (by decide) (by decide) (p2 := 0) (p3 := 6)) D38_19 0 rfl).pv
  replace k := k |>.top (y := (gcv p3 p4)) rfl |>.istore D38_22 sto6 |>.iload D38_24 rfl |>.sipush D38_26 255 |>.icmpNo D38_29 (tlt pr2).2.2.2 |>.iload D38_32 rfl
  exact k.retI D38_34 rfl ⟨rfl, rfl⟩
theorem R_37_3 {a1 : Addr} {p2 p3 p4 p5 p6 p7 : Int32} (hw : HW a0 Z) (G : Gl Z w_CS w_SF) (pr1 : Ary Z h0 a1 ATB 6 (bv (lvi [p2, p3, p4, p5, p6, p7]))) (pr2 : 255 < (gcv p2 p3)) : Mt false [] l Y37 C37 (rmk 4 2 10 61) #[.ref a1, .int 0, .int 2] Z a0 h0 n0 (KpV h0 [] fun v h => ∃ u1 : Addr, v = (.ref u1) ∧ h0.size ≤ u1 ∧ Ary Z h u1 ATB 4 (bv (lvi [p2, p3, p4, p5]))) := by
  refine Mt.go PN37 (Or.inl rfl) ef_RII_6 fun k => ?_
  replace k := k |>.iloadN D37_0 rfl
  obtain ⟨b1, h1, g1, K1, O1, k⟩ := k.newP (aty := .byte) "[B" (w_23 hw) (by decide) D37_1 2 (by decide) (n := 2) (by decide) (by decide) (by decide) (bi_const (L := [0, 0]) rfl)
  replace k := k |>.astoreN D37_3 rfl sto3 |>.aloadN D37_4 rfl rfl |>.iloadN D37_5 rfl |>.aloadN D37_6 rfl rfl |>.iconst D37_7 0 |>.iloadN D37_8 rfl
  have o3 := pr1.keep K1 nin0
  replace k := (k.callS (w_141 hw) (S38 hw) (R_38_3 hw G o3 pr2) D37_9 0 rfl).pv
  replace k := k |>.istore D37_12 sto4 |>.iload D37_14 rfl |>.iloadN D37_16 rfl |>.icmpNo D37_17  |>.aloadN D37_20 rfl rfl |>.iloadN D37_21 rfl |>.iconst D37_22 1 |>.ishl D37_23 (z := 0) |>.iloadN D37_24 rfl |>.iloadN D37_25 rfl |>.iadd D37_26 (z := 2)
  replace k := (k.callS (w_110 hw) (S18 hw) (R_18_1 hw G (by decide) (by decide) (p1 := 2)) D37_27 2 rfl).pv
  replace k := k |>.top (y := 4) (by decide)
  have z5 := k.sz
  obtain ⟨_, h5, K5, ⟨u1_5, rfl, f5_0, f5_1⟩, k⟩ := (k.callS (w_153 hw) (S31 hw) (R_31_2 hw G (by decide) o3 (by decide) (by decide) (by decide) (by decide) (by decide) (by decide) (by decide) (by decide) (by decide) (p2 := 0) (p3 := 4) (p4 := 6)) D37_30 0 rfl).kv
  have o6 : Ary Z h5 u1_5 ATB 4 (bv (lvi [p2, p3, p4, p5])) := Ary.norm f5_1 (bi_cpz rfl)
  replace k := k |>.astore D37_33 rfl sto5 |>.aload D37_35 rfl rfl |>.iload D37_37 rfl
  replace k := (k.callS (w_120 hw) (S20 hw) (R_20_1 hw G o6 (by decide) (by decide) (by decide) (by decide) (p2 := 0) (p3 := 4)) D37_39 0 rfl).pv
  replace k := k |>.top (y := (gcv p2 p3)) rfl |>.sipush D37_42 255 |>.icmpYes D37_45 (tlt pr2).2.2.1 |>.aload D37_61 rfl rfl
  have s_u1_5 := Nat.le_trans z5 f5_0
  exact k.retA D37_63 rfl ⟨_, rfl, (K1.trans K5 all0), u1_5, rfl, s_u1_5, o6⟩
theorem R_36_3 {a1 : Addr} {p2 p3 p4 p5 p6 p7 : Int32} (hw : HW a0 Z) (G : Gl Z w_CS w_SF) (pr1 : Ary Z h0 a1 ATB 6 (bv (lvi [p2, p3, p4, p5, p6, p7]))) (pr2 : 255 < (gcv p2 p3)) : Mt false [] l Y36 C36 (rmk 5 3 14 78) #[.ref a1, .int 0, .int 2] Z a0 h0 n0 (KpV h0 [] fun v h => ∃ u1 u2 : Addr, v = (.ref u1) ∧ h0.size ≤ u1 ∧ h0.size ≤ u2 ∧ u2 ≠ u1 ∧ Obj Z h u1 L_String [.ref u2, .int 1] ∧ Ary Z h u2 ATB 4 (bv (lvi [p2, p3, p4, p5]))) := by
  refine Mt.go PN36 (Or.inl rfl) ef_RII_5 fun k => ?_
  have nz := k.n0le
  replace k := k |>.iloadN D36_0 rfl |>.ifYes D36_1  |>.getS (fl_137 hw) G.S_CS D36_8 |>.ifNo D36_11 ((if0 _ _).trans (feq G.h_CS).1) |>.aloadN D36_14 rfl rfl |>.iloadN D36_15 rfl |>.iloadN D36_16 rfl
  have z1 := k.sz
  obtain ⟨_, h1, K1, ⟨u1_1, rfl, f1_0, f1_1⟩, k⟩ := (k.callS (w_138 hw) (S37 hw) (R_37_3 hw G pr1 pr2) D36_17 0 rfl).kv
  replace k := k |>.astoreN D36_20 rfl sto3 |>.aloadN D36_21 rfl rfl |>.iloadN D36_22 rfl
  replace k := (k.callS (w_171 hw) (S21 hw) (R_21_1 hw G f1_1 (by decide) (p2 := 2) (p3 := 4)) D36_23 0 rfl).pv
  replace k := k |>.top (y := 1) (by decide) |>.istore D36_26 sto4
  have z3 := k.sz
  obtain ⟨b3, h3, g3, K3, O3, k⟩ := k.new (L := L_String) (w_172 hw) (nw_String hw) D36_28 (by decide) dvL_String
  replace k := k |>.dup D36_31 rfl |>.aloadN D36_32 rfl rfl |>.iload D36_33 rfl
  have s_b3 := Nat.le_trans z3 g3
  have n_b3 := Nat.le_trans nz s_b3
  obtain ⟨h4, K4, f4_0, k⟩ := (k.callI (w_173 hw) (I35 hw) (R_35_2 hw G O3 n_b3) D36_35 1 rfl).k0 (allS n_b3 all0)
  have s_u1_1 := Nat.le_trans z1 f1_0
  have o5 := (f1_1.keep K3 nin0).keep K4 (ninS (nlt f1_1.lt g3) nin0)
  exact k.retA D36_38 rfl ⟨_, rfl, ((K1.trans K3 all0).trans K4 (allS (Or.inr s_b3) all0)), b3, u1_1, rfl, s_b3, s_u1_1, (nlt f1_1.lt g3), f4_0, o5⟩
theorem own_d47 {c0 v0 : Int32} (e0 : v0 = (gcv (lo8 c0) (hi8 c0))) (q0 : ¬ (c0 < 0)) (q1 : c0 < 65536) (q2 : ¬ (255 < c0)) : ¬ (255 < v0) := by
  have := rng32 c0
  have : (0 : Int32).toInt = 0 := by decide
  have := i_nlt q0
  have : (65536 : Int32).toInt = 65536 := by decide
  have := i_lt q1
  have : (255 : Int32).toInt = 255 := by decide
  have := i_nlt q2
  have := e_gc e0 (by omega) (by omega)
  exact o_nlt (by omega)
theorem D38_35 : Dc J38 35 (.aload_n 2) 1 36 := by decide +kernel
theorem D38_36 : Dc J38 36 (.iload_n 3) 1 37 := by decide +kernel
theorem D38_37 : Dc J38 37 (.iload 6) 2 39 := by decide +kernel
theorem D38_39 : Dc J38 39 .i2b 1 40 := by decide +kernel
theorem D38_40 : Dc J38 40 .bastore 1 41 := by decide +kernel
theorem D38_41 : Dc J38 41 (.iinc 1 1) 3 44 := by decide +kernel
theorem D38_44 : Dc J38 44 (.iinc 3 1) 3 47 := by decide +kernel
theorem D38_47 : Dc J38 47 (.iinc 5 1) 3 50 := by decide +kernel
theorem D38_50 : Dj J38 50 (.goto (-40)) (-40) 53 10 := by decide +kernel
theorem R_38_4 {a1 a2 : Addr} {p3 p4 p5 p6 p7 p8 : Int32} (hw : HW a0 Z) (G : Gl Z w_CS w_SF) (pr1 : Ary Z h0 a1 ATB 6 (bv (lvi [p3, p4, p5, p6, p7, p8]))) (pr2 : ¬ (255 < (gcv p3 p4))) (pr3 : Ary Z h0 a2 ATB 2 (bv (lvi [0, 0]))) (pr4 : n0 ≤ a2) (pr5 : a1 ≠ a2) (pr6 : 255 < (gcv p5 p6)) : Mt false [] l Y38 C38 (rmk 3 0 0 43) #[.ref a1, .int 0, .ref a2, .int 0, .int 2] Z a0 h0 n0 (KpV h0 [a2] fun v h => v = (.int 1) ∧ Ary Z h a2 ATB 2 (bv (lvi [((gcv p3 p4).toInt8.toInt32), 0]))) := by
  refine Mt.go PN38 (Or.inl rfl) ef_RIRII_7 fun k => ?_
  replace k := k |>.iloadN D38_0 rfl |>.iload D38_1 rfl |>.aloadN D38_3 rfl rfl
  replace k := (k.callS (w_144 hw) (S39 hw) (R_39_1 hw G pr1 (by decide) (by decide) (by decide) (p1 := 0) (p2 := 2) (p4 := 6)) D38_4 0 rfl).p0
  replace k := k |>.iconst D38_7 0 |>.istore D38_8 sto5 |>.iload D38_10 rfl |>.iload D38_12 rfl |>.icmpNo D38_14  |>.aloadN D38_17 rfl rfl |>.iloadN D38_18 rfl
  replace k := (k.callS (w_120 hw) (S20 hw) (R_20_1 hw G pr1 (by decide) (by decide) (by decide) (by decide) (p2 := 0) (p3 := 6)) D38_19 0 rfl).pv
  replace k := k |>.top (y := (gcv p3 p4)) rfl |>.istore D38_22 sto6 |>.iload D38_24 rfl |>.sipush D38_26 255 |>.icmpYes D38_29 (flt pr2).2.2.2 |>.aloadN D38_35 rfl rfl |>.iloadN D38_36 rfl |>.iload D38_37 rfl |>.i2b D38_39 rfl
  obtain ⟨h3, K3, O3, k⟩ := k.stB pr3 pr4 (Or.inl rfl) D38_40 (i := 0) (by decide) (v := (.int ((gcv p3 p4).toInt8.toInt32))) (congrArg Value.int (own_nnBi2b _)) (own_fitBi2b _) bis0
  replace k := k |>.iinc D38_41 rfl (z := 1) (by decide) sto1 |>.iinc D38_44 rfl (z := 1) (by decide) sto3 |>.iinc D38_47 rfl (z := 1) (by decide) sto5 |>.goto D38_50 |>.iload D38_10 rfl |>.iload D38_12 rfl |>.icmpNo D38_14  |>.aloadN D38_17 rfl rfl |>.iloadN D38_18 rfl
  have o5 := pr1.keep K3 (ninS pr5 nin0)
  replace k := (k.callS (w_120 hw) (S20 hw) (R_20_1 hw G o5 (by decide) (by decide) (by decide) (by decide) (p2 := 1) (p3 := 6)) D38_19 0 rfl).pv
  replace k := k |>.top (y := (gcv p5 p6)) rfl |>.istore D38_22 sto6 |>.iload D38_24 rfl |>.sipush D38_26 255 |>.icmpNo D38_29 (tlt pr6).2.2.2 |>.iload D38_32 rfl
  exact k.retI D38_34 rfl ⟨_, rfl, K3, rfl, O3⟩
theorem R_37_4 {a1 : Addr} {p2 p3 p4 p5 p6 p7 : Int32} (hw : HW a0 Z) (G : Gl Z w_CS w_SF) (pr1 : Ary Z h0 a1 ATB 6 (bv (lvi [p2, p3, p4, p5, p6, p7]))) (pr2 : ¬ (255 < (gcv p2 p3))) (pr3 : 255 < (gcv p4 p5)) : Mt false [] l Y37 C37 (rmk 4 2 10 61) #[.ref a1, .int 0, .int 2] Z a0 h0 n0 (KpV h0 [] fun v h => ∃ u1 : Addr, v = (.ref u1) ∧ h0.size ≤ u1 ∧ Ary Z h u1 ATB 4 (bv (lvi [p2, p3, p4, p5]))) := by
  refine Mt.go PN37 (Or.inl rfl) ef_RII_6 fun k => ?_
  have nz := k.n0le
  replace k := k |>.iloadN D37_0 rfl
  have z1 := k.sz
  obtain ⟨b1, h1, g1, K1, O1, k⟩ := k.newP (aty := .byte) "[B" (w_23 hw) (by decide) D37_1 2 (by decide) (n := 2) (by decide) (by decide) (by decide) (bi_const (L := [0, 0]) rfl)
  replace k := k |>.astoreN D37_3 rfl sto3 |>.aloadN D37_4 rfl rfl |>.iloadN D37_5 rfl |>.aloadN D37_6 rfl rfl |>.iconst D37_7 0 |>.iloadN D37_8 rfl
  have s_b1 := Nat.le_trans z1 g1
  have n_b1 := Nat.le_trans nz s_b1
  have o3 := pr1.keep K1 nin0
  obtain ⟨_, h2, K2, ⟨rfl, f2_0⟩, k⟩ := (k.callS (w_141 hw) (S38 hw) (R_38_4 hw G o3 pr2 O1 n_b1 (nlt pr1.lt s_b1) pr3) D37_9 0 rfl).kv (allS n_b1 all0)
  replace k := k |>.istore D37_12 sto4 |>.iload D37_14 rfl |>.iloadN D37_16 rfl |>.icmpNo D37_17  |>.aloadN D37_20 rfl rfl |>.iloadN D37_21 rfl |>.iconst D37_22 1 |>.ishl D37_23 (z := 0) |>.iloadN D37_24 rfl |>.iloadN D37_25 rfl |>.iadd D37_26 (z := 2)
  replace k := (k.callS (w_110 hw) (S18 hw) (R_18_1 hw G (by decide) (by decide) (p1 := 2)) D37_27 2 rfl).pv
  replace k := k |>.top (y := 4) (by decide)
  have o6 := o3.keep K2 (ninS (nlt pr1.lt s_b1) nin0)
  have z5 := k.sz
  obtain ⟨_, h5, K5, ⟨u1_5, rfl, f5_0, f5_1⟩, k⟩ := (k.callS (w_153 hw) (S31 hw) (R_31_2 hw G (by decide) o6 (by decide) (by decide) (by decide) (by decide) (by decide) (by decide) (by decide) (by decide) (by decide) (p2 := 0) (p3 := 4) (p4 := 6)) D37_30 0 rfl).kv
  have o7 : Ary Z h5 u1_5 ATB 4 (bv (lvi [p2, p3, p4, p5])) := Ary.norm f5_1 (bi_cpz rfl)
  replace k := k |>.astore D37_33 rfl sto5 |>.aload D37_35 rfl rfl |>.iload D37_37 rfl
  replace k := (k.callS (w_120 hw) (S20 hw) (R_20_1 hw G o7 (by decide) (by decide) (by decide) (by decide) (p2 := 1) (p3 := 4)) D37_39 0 rfl).pv
  replace k := k |>.top (y := (gcv p4 p5)) rfl |>.sipush D37_42 255 |>.icmpYes D37_45 (tlt pr3).2.2.1 |>.aload D37_61 rfl rfl
  have s_u1_5 := Nat.le_trans z5 f5_0
  exact k.retA D37_63 rfl ⟨_, rfl, ((K1.trans K2 (allS (Or.inr s_b1) all0)).trans K5 all0), u1_5, rfl, s_u1_5, o7⟩
theorem R_36_4 {a1 : Addr} {p2 p3 p4 p5 p6 p7 : Int32} (hw : HW a0 Z) (G : Gl Z w_CS w_SF) (pr1 : Ary Z h0 a1 ATB 6 (bv (lvi [p2, p3, p4, p5, p6, p7]))) (pr2 : ¬ (255 < (gcv p2 p3))) (pr3 : 255 < (gcv p4 p5)) : Mt false [] l Y36 C36 (rmk 5 3 14 78) #[.ref a1, .int 0, .int 2] Z a0 h0 n0 (KpV h0 [] fun v h => ∃ u1 u2 : Addr, v = (.ref u1) ∧ h0.size ≤ u1 ∧ h0.size ≤ u2 ∧ u2 ≠ u1 ∧ Obj Z h u1 L_String [.ref u2, .int 1] ∧ Ary Z h u2 ATB 4 (bv (lvi [p2, p3, p4, p5]))) := by
  refine Mt.go PN36 (Or.inl rfl) ef_RII_5 fun k => ?_
  have nz := k.n0le
  replace k := k |>.iloadN D36_0 rfl |>.ifYes D36_1  |>.getS (fl_137 hw) G.S_CS D36_8 |>.ifNo D36_11 ((if0 _ _).trans (feq G.h_CS).1) |>.aloadN D36_14 rfl rfl |>.iloadN D36_15 rfl |>.iloadN D36_16 rfl
  have z1 := k.sz
  obtain ⟨_, h1, K1, ⟨u1_1, rfl, f1_0, f1_1⟩, k⟩ := (k.callS (w_138 hw) (S37 hw) (R_37_4 hw G pr1 pr2 pr3) D36_17 0 rfl).kv
  replace k := k |>.astoreN D36_20 rfl sto3 |>.aloadN D36_21 rfl rfl |>.iloadN D36_22 rfl
  replace k := (k.callS (w_171 hw) (S21 hw) (R_21_1 hw G f1_1 (by decide) (p2 := 2) (p3 := 4)) D36_23 0 rfl).pv
  replace k := k |>.top (y := 1) (by decide) |>.istore D36_26 sto4
  have z3 := k.sz
  obtain ⟨b3, h3, g3, K3, O3, k⟩ := k.new (L := L_String) (w_172 hw) (nw_String hw) D36_28 (by decide) dvL_String
  replace k := k |>.dup D36_31 rfl |>.aloadN D36_32 rfl rfl |>.iload D36_33 rfl
  have s_b3 := Nat.le_trans z3 g3
  have n_b3 := Nat.le_trans nz s_b3
  obtain ⟨h4, K4, f4_0, k⟩ := (k.callI (w_173 hw) (I35 hw) (R_35_2 hw G O3 n_b3) D36_35 1 rfl).k0 (allS n_b3 all0)
  have s_u1_1 := Nat.le_trans z1 f1_0
  have o5 := (f1_1.keep K3 nin0).keep K4 (ninS (nlt f1_1.lt g3) nin0)
  exact k.retA D36_38 rfl ⟨_, rfl, ((K1.trans K3 all0).trans K4 (allS (Or.inr s_b3) all0)), b3, u1_1, rfl, s_b3, s_u1_1, (nlt f1_1.lt g3), f4_0, o5⟩
theorem R_sub3_0_2 {a1 a2 : Addr} {c0 c1 c2 : Int32} (hw : HW a0 Z) (G : Gl Z w_CS w_SF) (S : Str Z h0 a1 a2 [c0, c1, c2]) (x2 : ¬ (255 < c2)) : Mt false [] l Y10 C10 (rmk 6 3 14 94) #[.ref a1, .int 0, .int 2] Z a0 h0 n0 (KpV h0 [] fun v h => ∃ u w : Addr, v = .ref u ∧ Str Z h u w [c0, c1]) := by
  refine Mt.go PN10 (Or.inl rfl) ef_RII_5 fun k => ?_
  obtain ⟨⟨⟨g0a, g0b⟩, ⟨g1a, g1b⟩, ⟨g2a, g2b⟩, -⟩, S⟩ := S
  rcases S with ⟨T, O, A, hl⟩ | ⟨O, A, u0 | ⟨l0, u1 | ⟨l1, u2 | ⟨-, hx⟩⟩⟩⟩
  · obtain ⟨l0, l1, l2, -⟩ := hl
    have A : Ary Z h0 a2 (T, .byte) 3 (bv (lvi [(c0.toInt8.toInt32), (c1.toInt8.toInt32), (c2.toInt8.toInt32)])) := A
    replace k := k |>.aloadN D10_0 rfl rfl
    replace k := (k.callV (w_50 hw) (V_Y8_8_String hw) O.exa (R_8_6 hw G O A) D10_1 0 rfl).pv
    replace k := k |>.istoreN D10_4 sto3 |>.iloadN D10_5 rfl |>.iloadN D10_6 rfl |>.iloadN D10_7 rfl
    replace k := (k.callS (w_51 hw) (S11 hw) (R_11_1 hw G (by decide) (by decide) (by decide) (p1 := 0) (p2 := 2) (p3 := 3)) D10_8 0 rfl).p0
    replace k := k |>.iloadN D10_11 rfl |>.ifNo D10_12  |>.iloadN D10_15 rfl |>.iloadN D10_16 rfl |>.icmpYes D10_17  |>.iloadN D10_22 rfl |>.iloadN D10_23 rfl |>.isub D10_24 (z := 2) |>.istore D10_25 sto4 |>.aloadN D10_27 rfl rfl
    replace k := (k.callV (w_78 hw) (V_Y23_23_String hw) O.exa (R_23_1 hw G O) D10_28 0 rfl).pv
    replace k := k |>.ifNo D10_31  |>.aloadN D10_34 rfl rfl |>.getF (fl_28 hw) O 0 D10_35 rfl rfl |>.iloadN D10_38 rfl |>.iload D10_39 rfl
    obtain ⟨_, h4, K4, ⟨u1_4, u2_4, rfl, f4_0, f4_1, f4_2, f4_3, f4_4⟩, k⟩ := (k.callS (w_96 hw) (S30 hw) (R_30_3 hw G (by decide) (by decide) A (by decide) (by decide) (by decide) (by decide) (by decide) (by decide) (by decide) (by decide) (by decide) (p2 := 0) (p3 := 2) (p4 := 3)) D10_41 0 rfl).kv
    have o5 : Ary Z h4 u2_4 ATB 2 (bv (lvi [(c0.toInt8.toInt32), (c1.toInt8.toInt32)])) := Ary.norm f4_4 (bi_cpz rfl)
    replace k := k |>.goto D10_44
    exact k.retA D10_57 rfl ⟨_, rfl, K4, u1_4, u2_4, rfl, ⟨⟨⟨g0a, g0b⟩, ⟨⟨g1a, g1b⟩, trivial⟩⟩, Or.inl ⟨_, f4_3, o5, ⟨l0, ⟨l1, trivial⟩⟩⟩⟩⟩
  · have A : Ary Z h0 a2 ATB 6 (bv (lvi [(lo8 c0), (hi8 c0), (lo8 c1), (hi8 c1), (lo8 c2), (hi8 c2)])) := A
    replace k := k |>.aloadN D10_0 rfl rfl
    replace k := (k.callV (w_50 hw) (V_Y8_8_String hw) O.exa (R_8_7 hw G O A) D10_1 0 rfl).pv
    replace k := k |>.istoreN D10_4 sto3 |>.iloadN D10_5 rfl |>.iloadN D10_6 rfl |>.iloadN D10_7 rfl
    replace k := (k.callS (w_51 hw) (S11 hw) (R_11_1 hw G (by decide) (by decide) (by decide) (p1 := 0) (p2 := 2) (p3 := 3)) D10_8 0 rfl).p0
    replace k := k |>.iloadN D10_11 rfl |>.ifNo D10_12  |>.iloadN D10_15 rfl |>.iloadN D10_16 rfl |>.icmpYes D10_17  |>.iloadN D10_22 rfl |>.iloadN D10_23 rfl |>.isub D10_24 (z := 2) |>.istore D10_25 sto4 |>.aloadN D10_27 rfl rfl
    replace k := (k.callV (w_78 hw) (V_Y23_23_String hw) O.exa (R_23_2 hw G O) D10_28 0 rfl).pv
    replace k := k |>.ifYes D10_31  |>.aloadN D10_47 rfl rfl |>.getF (fl_28 hw) O 0 D10_48 rfl rfl |>.iloadN D10_51 rfl |>.iload D10_52 rfl
    obtain ⟨_, h9, K9, ⟨u1_9, u2_9, rfl, f9_0, f9_1, f9_2, f9_3, f9_4⟩, k⟩ := (k.callS (w_134 hw) (S36 hw) (R_36_3 hw G A (own_d6 rfl g0a g0b u0)) D10_54 0 rfl).kv
    exact k.retA D10_57 rfl ⟨_, rfl, K9, u1_9, u2_9, rfl, ⟨⟨⟨g0a, g0b⟩, ⟨⟨g1a, g1b⟩, trivial⟩⟩, Or.inr ⟨f9_3, f9_4, Or.inl u0⟩⟩⟩
  · have A : Ary Z h0 a2 ATB 6 (bv (lvi [(lo8 c0), (hi8 c0), (lo8 c1), (hi8 c1), (lo8 c2), (hi8 c2)])) := A
    replace k := k |>.aloadN D10_0 rfl rfl
    replace k := (k.callV (w_50 hw) (V_Y8_8_String hw) O.exa (R_8_7 hw G O A) D10_1 0 rfl).pv
    replace k := k |>.istoreN D10_4 sto3 |>.iloadN D10_5 rfl |>.iloadN D10_6 rfl |>.iloadN D10_7 rfl
    replace k := (k.callS (w_51 hw) (S11 hw) (R_11_1 hw G (by decide) (by decide) (by decide) (p1 := 0) (p2 := 2) (p3 := 3)) D10_8 0 rfl).p0
    replace k := k |>.iloadN D10_11 rfl |>.ifNo D10_12  |>.iloadN D10_15 rfl |>.iloadN D10_16 rfl |>.icmpYes D10_17  |>.iloadN D10_22 rfl |>.iloadN D10_23 rfl |>.isub D10_24 (z := 2) |>.istore D10_25 sto4 |>.aloadN D10_27 rfl rfl
    replace k := (k.callV (w_78 hw) (V_Y23_23_String hw) O.exa (R_23_2 hw G O) D10_28 0 rfl).pv
    replace k := k |>.ifYes D10_31  |>.aloadN D10_47 rfl rfl |>.getF (fl_28 hw) O 0 D10_48 rfl rfl |>.iloadN D10_51 rfl |>.iload D10_52 rfl
    obtain ⟨_, h13, K13, ⟨u1_13, u2_13, rfl, f13_0, f13_1, f13_2, f13_3, f13_4⟩, k⟩ := (k.callS (w_134 hw) (S36 hw) (R_36_4 hw G A (own_d47 rfl g0a g0b l0) (own_d20 rfl g1a g1b u1)) D10_54 0 rfl).kv
    exact k.retA D10_57 rfl ⟨_, rfl, K13, u1_13, u2_13, rfl, ⟨⟨⟨g0a, g0b⟩, ⟨⟨g1a, g1b⟩, trivial⟩⟩, Or.inr ⟨f13_3, f13_4, Or.inr ⟨l0, Or.inl u1⟩⟩⟩⟩
  · exact absurd u2 x2
  · exact hx.elim
theorem own_d48 {p4 v0 v1 v2 v3 : Int32} (e0 : v0 = (drw p4)) (e1 : v1 = (nar .char v0)) (e2 : v2 = (nar .char v1)) (e3 : v3 = (bl v2)) (q0 : ¬ (v3 = 0)) : ¬ (255 < v2) := by
  have := e_drw e0
  have := e_i2cN e1 (by omega)
  have := e_i2cN e2 (by omega)
  have := e_bl e3
  have : (0 : Int32).toInt = 0 := by decide
  have := i_neq q0
  have : (255 : Int32).toInt = 255 := by decide
  exact o_nlt (by omega)
theorem R_7_18 {a1 a2 : Addr} {p3 p4 p5 : Int32} (hw : HW a0 Z) (G : Gl Z w_CS w_SF) (pr1 : Str Z h0 a1 a2 [p3, p4, p5]) (pr2 : (bl p3) = 0) (pr3 : ¬ ((bl p5) = 0)) (pr4 : (bl p4) = 0) (pr5 : ¬ (255 < p5)) : Mt false [] l Y7 C7 (rmk 7 3 14 110) #[.ref a1] Z a0 h0 n0 (KpV h0 [] fun v h => ∃ u1 u2 : Addr, v = (.ref u1) ∧ Str Z h u1 u2 [p3, p4]) := by
  refine Mt.go PN7 (Or.inl rfl) ef_R_3 fun k => ?_
  replace k := k |>.iconst D7_0 0 |>.istoreN D7_1 sto1 |>.aloadN D7_2 rfl rfl
  replace k := (k.callV (w_34 hw) (V_Y8_8_String hw) pr1.exa (R_len3 hw G pr1) D7_3 0 rfl).pv
  replace k := k |>.istoreN D7_6 sto2 |>.iloadN D7_7 rfl |>.iloadN D7_8 rfl |>.icmpNo D7_9  |>.aloadN D7_12 rfl rfl |>.iloadN D7_13 rfl
  replace k := (k.callV (w_73 hw) (V_Y22_22_String hw) pr1.exa (R_chr3_0 hw G pr1) D7_14 0 rfl).pv
  replace k := (k.callS (w_93 hw) (S2 hw) (R_own_isBlank hw G) D7_17 0 rfl).pv
  replace k := k |>.ifYes D7_20 ((if0 _ _).trans (teq pr2).1) |>.iloadN D7_29 rfl |>.iloadN D7_30 rfl |>.icmpNo D7_31  |>.aloadN D7_34 rfl rfl |>.iloadN D7_35 rfl |>.iconst D7_36 1 |>.isub D7_37 (z := 2)
  replace k := (k.callV (w_73 hw) (V_Y22_22_String hw) pr1.exa (R_chr3_2 hw G pr1) D7_38 0 rfl).pv
  replace k := (k.callS (w_93 hw) (S2 hw) (R_own_isBlank hw G) D7_41 0 rfl).pv
  replace k := k |>.ifNo D7_44 ((if0 _ _).trans (feq pr3).1) |>.iinc D7_47 rfl (z := 2) (by decide) sto2 |>.goto D7_50 |>.iloadN D7_29 rfl |>.iloadN D7_30 rfl |>.icmpNo D7_31  |>.aloadN D7_34 rfl rfl |>.iloadN D7_35 rfl |>.iconst D7_36 1 |>.isub D7_37 (z := 1)
  replace k := (k.callV (w_73 hw) (V_Y22_22_String hw) pr1.exa (R_chr3_1 hw G pr1) D7_38 0 rfl).pv
  replace k := (k.callS (w_93 hw) (S2 hw) (R_own_isBlank hw G) D7_41 0 rfl).pv
  replace k := k |>.ifYes D7_44 ((if0 _ _).trans (teq pr4).1) |>.aloadN D7_53 rfl rfl |>.iloadN D7_54 rfl |>.iloadN D7_55 rfl
  obtain ⟨_, h1, K1, ⟨u1, w1, rfl, S1⟩, k⟩ := (k.callV (w_45 hw) (V_Y10_10_String hw) pr1.exa (R_sub3_0_2 hw G pr1 pr5) D7_56 0 rfl).kv
  exact k.retA D7_59 rfl ⟨_, rfl, K1, u1, w1, rfl, S1⟩
theorem own_d49 {p4 v0 v1 v2 v3 v4 : Int32} (e0 : v0 = (drw p4)) (e1 : v1 = (nar .char v0)) (e2 : v2 = (nar .char v1)) (e3 : v3 = (bl v2)) (e4 : v4 = (bl v1)) (q0 : ¬ (v3 = 0)) : ¬ (v4 = 0) := by
  have := e_drw e0
  have := e_i2cN e1 (by omega)
  have := e_i2cN e2 (by omega)
  have := e_bl e3
  have : (0 : Int32).toInt = 0 := by decide
  have := i_neq q0
  have := e_bl e4
  exact o_neq (by omega)
theorem R_38_5 {a1 a2 : Addr} {p3 p4 p5 p6 p7 p8 : Int32} (hw : HW a0 Z) (G : Gl Z w_CS w_SF) (pr1 : Ary Z h0 a1 ATB 6 (bv (lvi [p3, p4, p5, p6, p7, p8]))) (pr2 : 255 < (gcv p3 p4)) : Mt false [] l Y38 C38 (rmk 3 0 0 43) #[.ref a1, .int 0, .ref a2, .int 0, .int 1] Z a0 h0 n0 (Pv h0 (.int 0)) := by
  refine Mt.go PN38 (Or.inl rfl) ef_RIRII_7 fun k => ?_
  replace k := k |>.iloadN D38_0 rfl |>.iload D38_1 rfl |>.aloadN D38_3 rfl rfl
  replace k := (k.callS (w_144 hw) (S39 hw) (R_39_1 hw G pr1 (by decide) (by decide) (by decide) (p1 := 0) (p2 := 1) (p4 := 6)) D38_4 0 rfl).p0
  replace k := k |>.iconst D38_7 0 |>.istore D38_8 sto5 |>.iload D38_10 rfl |>.iload D38_12 rfl |>.icmpNo D38_14  |>.aloadN D38_17 rfl rfl |>.iloadN D38_18 rfl
  replace k := (k.callS (w_120 hw) (S20 hw) (R_20_1 hw G pr1 (by decide) (by decide) (by decide) (by decide) (p2 := 0) (p3 := 6)) D38_19 0 rfl).pv
  replace k := k |>.top (y := (gcv p3 p4)) rfl |>.istore D38_22 sto6 |>.iload D38_24 rfl |>.sipush D38_26 255 |>.icmpNo D38_29 (tlt pr2).2.2.2 |>.iload D38_32 rfl
  exact k.retI D38_34 rfl ⟨rfl, rfl⟩
theorem R_37_5 {a1 : Addr} {p2 p3 p4 p5 p6 p7 : Int32} (hw : HW a0 Z) (G : Gl Z w_CS w_SF) (pr1 : Ary Z h0 a1 ATB 6 (bv (lvi [p2, p3, p4, p5, p6, p7]))) (pr2 : 255 < (gcv p2 p3)) : Mt false [] l Y37 C37 (rmk 4 2 9 61) #[.ref a1, .int 0, .int 1] Z a0 h0 n0 (KpV h0 [] fun v h => ∃ u1 : Addr, v = (.ref u1) ∧ h0.size ≤ u1 ∧ Ary Z h u1 ATB 2 (bv (lvi [p2, p3]))) := by
  refine Mt.go PN37 (Or.inl rfl) ef_RII_6 fun k => ?_
  replace k := k |>.iloadN D37_0 rfl
  obtain ⟨b1, h1, g1, K1, O1, k⟩ := k.newP (aty := .byte) "[B" (w_23 hw) (by decide) D37_1 1 (by decide) (n := 1) (by decide) (by decide) (by decide) (bi_const (L := [0]) rfl)
  replace k := k |>.astoreN D37_3 rfl sto3 |>.aloadN D37_4 rfl rfl |>.iloadN D37_5 rfl |>.aloadN D37_6 rfl rfl |>.iconst D37_7 0 |>.iloadN D37_8 rfl
  have o3 := pr1.keep K1 nin0
  replace k := (k.callS (w_141 hw) (S38 hw) (R_38_5 hw G o3 pr2) D37_9 0 rfl).pv
  replace k := k |>.istore D37_12 sto4 |>.iload D37_14 rfl |>.iloadN D37_16 rfl |>.icmpNo D37_17  |>.aloadN D37_20 rfl rfl |>.iloadN D37_21 rfl |>.iconst D37_22 1 |>.ishl D37_23 (z := 0) |>.iloadN D37_24 rfl |>.iloadN D37_25 rfl |>.iadd D37_26 (z := 1)
  replace k := (k.callS (w_110 hw) (S18 hw) (R_18_1 hw G (by decide) (by decide) (p1 := 1)) D37_27 2 rfl).pv
  replace k := k |>.top (y := 2) (by decide)
  have z5 := k.sz
  obtain ⟨_, h5, K5, ⟨u1_5, rfl, f5_0, f5_1⟩, k⟩ := (k.callS (w_153 hw) (S31 hw) (R_31_2 hw G (by decide) o3 (by decide) (by decide) (by decide) (by decide) (by decide) (by decide) (by decide) (by decide) (by decide) (p2 := 0) (p3 := 2) (p4 := 6)) D37_30 0 rfl).kv
  have o6 : Ary Z h5 u1_5 ATB 2 (bv (lvi [p2, p3])) := Ary.norm f5_1 (bi_cpz rfl)
  replace k := k |>.astore D37_33 rfl sto5 |>.aload D37_35 rfl rfl |>.iload D37_37 rfl
  replace k := (k.callS (w_120 hw) (S20 hw) (R_20_1 hw G o6 (by decide) (by decide) (by decide) (by decide) (p2 := 0) (p3 := 2)) D37_39 0 rfl).pv
  replace k := k |>.top (y := (gcv p2 p3)) rfl |>.sipush D37_42 255 |>.icmpYes D37_45 (tlt pr2).2.2.1 |>.aload D37_61 rfl rfl
  have s_u1_5 := Nat.le_trans z5 f5_0
  exact k.retA D37_63 rfl ⟨_, rfl, (K1.trans K5 all0), u1_5, rfl, s_u1_5, o6⟩
theorem R_36_5 {a1 : Addr} {p2 p3 p4 p5 p6 p7 : Int32} (hw : HW a0 Z) (G : Gl Z w_CS w_SF) (pr1 : Ary Z h0 a1 ATB 6 (bv (lvi [p2, p3, p4, p5, p6, p7]))) (pr2 : 255 < (gcv p2 p3)) : Mt false [] l Y36 C36 (rmk 5 3 13 78) #[.ref a1, .int 0, .int 1] Z a0 h0 n0 (KpV h0 [] fun v h => ∃ u1 u2 : Addr, v = (.ref u1) ∧ h0.size ≤ u1 ∧ h0.size ≤ u2 ∧ u2 ≠ u1 ∧ Obj Z h u1 L_String [.ref u2, .int 1] ∧ Ary Z h u2 ATB 2 (bv (lvi [p2, p3]))) := by
  refine Mt.go PN36 (Or.inl rfl) ef_RII_5 fun k => ?_
  have nz := k.n0le
  replace k := k |>.iloadN D36_0 rfl |>.ifYes D36_1  |>.getS (fl_137 hw) G.S_CS D36_8 |>.ifNo D36_11 ((if0 _ _).trans (feq G.h_CS).1) |>.aloadN D36_14 rfl rfl |>.iloadN D36_15 rfl |>.iloadN D36_16 rfl
  have z1 := k.sz
  obtain ⟨_, h1, K1, ⟨u1_1, rfl, f1_0, f1_1⟩, k⟩ := (k.callS (w_138 hw) (S37 hw) (R_37_5 hw G pr1 pr2) D36_17 0 rfl).kv
  replace k := k |>.astoreN D36_20 rfl sto3 |>.aloadN D36_21 rfl rfl |>.iloadN D36_22 rfl
  replace k := (k.callS (w_171 hw) (S21 hw) (R_21_1 hw G f1_1 (by decide) (p2 := 1) (p3 := 2)) D36_23 0 rfl).pv
  replace k := k |>.top (y := 1) (by decide) |>.istore D36_26 sto4
  have z3 := k.sz
  obtain ⟨b3, h3, g3, K3, O3, k⟩ := k.new (L := L_String) (w_172 hw) (nw_String hw) D36_28 (by decide) dvL_String
  replace k := k |>.dup D36_31 rfl |>.aloadN D36_32 rfl rfl |>.iload D36_33 rfl
  have s_b3 := Nat.le_trans z3 g3
  have n_b3 := Nat.le_trans nz s_b3
  obtain ⟨h4, K4, f4_0, k⟩ := (k.callI (w_173 hw) (I35 hw) (R_35_2 hw G O3 n_b3) D36_35 1 rfl).k0 (allS n_b3 all0)
  have s_u1_1 := Nat.le_trans z1 f1_0
  have o5 := (f1_1.keep K3 nin0).keep K4 (ninS (nlt f1_1.lt g3) nin0)
  exact k.retA D36_38 rfl ⟨_, rfl, ((K1.trans K3 all0).trans K4 (allS (Or.inr s_b3) all0)), b3, u1_1, rfl, s_b3, s_u1_1, (nlt f1_1.lt g3), f4_0, o5⟩
theorem R_sub3_0_1 {a1 a2 : Addr} {c0 c1 c2 : Int32} (hw : HW a0 Z) (G : Gl Z w_CS w_SF) (S : Str Z h0 a1 a2 [c0, c1, c2]) (x1 : ¬ (255 < c1)) (x2 : ¬ (255 < c2)) : Mt false [] l Y10 C10 (rmk 6 3 13 94) #[.ref a1, .int 0, .int 1] Z a0 h0 n0 (KpV h0 [] fun v h => ∃ u w : Addr, v = .ref u ∧ Str Z h u w [c0]) := by
  refine Mt.go PN10 (Or.inl rfl) ef_RII_5 fun k => ?_
  obtain ⟨⟨⟨g0a, g0b⟩, ⟨g1a, g1b⟩, ⟨g2a, g2b⟩, -⟩, S⟩ := S
  rcases S with ⟨T, O, A, hl⟩ | ⟨O, A, u0 | ⟨l0, u1 | ⟨l1, u2 | ⟨-, hx⟩⟩⟩⟩
  · obtain ⟨l0, l1, l2, -⟩ := hl
    have A : Ary Z h0 a2 (T, .byte) 3 (bv (lvi [(c0.toInt8.toInt32), (c1.toInt8.toInt32), (c2.toInt8.toInt32)])) := A
    replace k := k |>.aloadN D10_0 rfl rfl
    replace k := (k.callV (w_50 hw) (V_Y8_8_String hw) O.exa (R_8_6 hw G O A) D10_1 0 rfl).pv
    replace k := k |>.istoreN D10_4 sto3 |>.iloadN D10_5 rfl |>.iloadN D10_6 rfl |>.iloadN D10_7 rfl
    replace k := (k.callS (w_51 hw) (S11 hw) (R_11_1 hw G (by decide) (by decide) (by decide) (p1 := 0) (p2 := 1) (p3 := 3)) D10_8 0 rfl).p0
    replace k := k |>.iloadN D10_11 rfl |>.ifNo D10_12  |>.iloadN D10_15 rfl |>.iloadN D10_16 rfl |>.icmpYes D10_17  |>.iloadN D10_22 rfl |>.iloadN D10_23 rfl |>.isub D10_24 (z := 1) |>.istore D10_25 sto4 |>.aloadN D10_27 rfl rfl
    replace k := (k.callV (w_78 hw) (V_Y23_23_String hw) O.exa (R_23_1 hw G O) D10_28 0 rfl).pv
    replace k := k |>.ifNo D10_31  |>.aloadN D10_34 rfl rfl |>.getF (fl_28 hw) O 0 D10_35 rfl rfl |>.iloadN D10_38 rfl |>.iload D10_39 rfl
    obtain ⟨_, h4, K4, ⟨u1_4, u2_4, rfl, f4_0, f4_1, f4_2, f4_3, f4_4⟩, k⟩ := (k.callS (w_96 hw) (S30 hw) (R_30_3 hw G (by decide) (by decide) A (by decide) (by decide) (by decide) (by decide) (by decide) (by decide) (by decide) (by decide) (by decide) (p2 := 0) (p3 := 1) (p4 := 3)) D10_41 0 rfl).kv
    have o5 : Ary Z h4 u2_4 ATB 1 (bv (lvi [(c0.toInt8.toInt32)])) := Ary.norm f4_4 (bi_cpz rfl)
    replace k := k |>.goto D10_44
    exact k.retA D10_57 rfl ⟨_, rfl, K4, u1_4, u2_4, rfl, ⟨⟨⟨g0a, g0b⟩, trivial⟩, Or.inl ⟨_, f4_3, o5, ⟨l0, trivial⟩⟩⟩⟩
  · have A : Ary Z h0 a2 ATB 6 (bv (lvi [(lo8 c0), (hi8 c0), (lo8 c1), (hi8 c1), (lo8 c2), (hi8 c2)])) := A
    replace k := k |>.aloadN D10_0 rfl rfl
    replace k := (k.callV (w_50 hw) (V_Y8_8_String hw) O.exa (R_8_7 hw G O A) D10_1 0 rfl).pv
    replace k := k |>.istoreN D10_4 sto3 |>.iloadN D10_5 rfl |>.iloadN D10_6 rfl |>.iloadN D10_7 rfl
    replace k := (k.callS (w_51 hw) (S11 hw) (R_11_1 hw G (by decide) (by decide) (by decide) (p1 := 0) (p2 := 1) (p3 := 3)) D10_8 0 rfl).p0
    replace k := k |>.iloadN D10_11 rfl |>.ifNo D10_12  |>.iloadN D10_15 rfl |>.iloadN D10_16 rfl |>.icmpYes D10_17  |>.iloadN D10_22 rfl |>.iloadN D10_23 rfl |>.isub D10_24 (z := 1) |>.istore D10_25 sto4 |>.aloadN D10_27 rfl rfl
    replace k := (k.callV (w_78 hw) (V_Y23_23_String hw) O.exa (R_23_2 hw G O) D10_28 0 rfl).pv
    replace k := k |>.ifYes D10_31  |>.aloadN D10_47 rfl rfl |>.getF (fl_28 hw) O 0 D10_48 rfl rfl |>.iloadN D10_51 rfl |>.iload D10_52 rfl
    obtain ⟨_, h9, K9, ⟨u1_9, u2_9, rfl, f9_0, f9_1, f9_2, f9_3, f9_4⟩, k⟩ := (k.callS (w_134 hw) (S36 hw) (R_36_5 hw G A (own_d6 rfl g0a g0b u0)) D10_54 0 rfl).kv
    exact k.retA D10_57 rfl ⟨_, rfl, K9, u1_9, u2_9, rfl, ⟨⟨⟨g0a, g0b⟩, trivial⟩, Or.inr ⟨f9_3, f9_4, Or.inl u0⟩⟩⟩
  · exact absurd u1 x1
  · exact absurd u2 x2
  · exact hx.elim
theorem R_7_19 {a1 a2 : Addr} {p3 p4 p5 : Int32} (hw : HW a0 Z) (G : Gl Z w_CS w_SF) (pr1 : Str Z h0 a1 a2 [p3, p4, p5]) (pr2 : (bl p3) = 0) (pr3 : ¬ ((bl p5) = 0)) (pr4 : ¬ ((bl p4) = 0)) (pr5 : ¬ (255 < p4)) (pr6 : ¬ (255 < p5)) : Mt false [] l Y7 C7 (rmk 7 3 13 110) #[.ref a1] Z a0 h0 n0 (KpV h0 [] fun v h => ∃ u1 u2 : Addr, v = (.ref u1) ∧ Str Z h u1 u2 [p3]) := by
  refine Mt.go PN7 (Or.inl rfl) ef_R_3 fun k => ?_
  replace k := k |>.iconst D7_0 0 |>.istoreN D7_1 sto1 |>.aloadN D7_2 rfl rfl
  replace k := (k.callV (w_34 hw) (V_Y8_8_String hw) pr1.exa (R_len3 hw G pr1) D7_3 0 rfl).pv
  replace k := k |>.istoreN D7_6 sto2 |>.iloadN D7_7 rfl |>.iloadN D7_8 rfl |>.icmpNo D7_9  |>.aloadN D7_12 rfl rfl |>.iloadN D7_13 rfl
  replace k := (k.callV (w_73 hw) (V_Y22_22_String hw) pr1.exa (R_chr3_0 hw G pr1) D7_14 0 rfl).pv
  replace k := (k.callS (w_93 hw) (S2 hw) (R_own_isBlank hw G) D7_17 0 rfl).pv
  replace k := k |>.ifYes D7_20 ((if0 _ _).trans (teq pr2).1) |>.iloadN D7_29 rfl |>.iloadN D7_30 rfl |>.icmpNo D7_31  |>.aloadN D7_34 rfl rfl |>.iloadN D7_35 rfl |>.iconst D7_36 1 |>.isub D7_37 (z := 2)
  replace k := (k.callV (w_73 hw) (V_Y22_22_String hw) pr1.exa (R_chr3_2 hw G pr1) D7_38 0 rfl).pv
  replace k := (k.callS (w_93 hw) (S2 hw) (R_own_isBlank hw G) D7_41 0 rfl).pv
  replace k := k |>.ifNo D7_44 ((if0 _ _).trans (feq pr3).1) |>.iinc D7_47 rfl (z := 2) (by decide) sto2 |>.goto D7_50 |>.iloadN D7_29 rfl |>.iloadN D7_30 rfl |>.icmpNo D7_31  |>.aloadN D7_34 rfl rfl |>.iloadN D7_35 rfl |>.iconst D7_36 1 |>.isub D7_37 (z := 1)
  replace k := (k.callV (w_73 hw) (V_Y22_22_String hw) pr1.exa (R_chr3_1 hw G pr1) D7_38 0 rfl).pv
  replace k := (k.callS (w_93 hw) (S2 hw) (R_own_isBlank hw G) D7_41 0 rfl).pv
  replace k := k |>.ifNo D7_44 ((if0 _ _).trans (feq pr4).1) |>.iinc D7_47 rfl (z := 1) (by decide) sto2 |>.goto D7_50 |>.iloadN D7_29 rfl |>.iloadN D7_30 rfl |>.icmpNo D7_31  |>.aloadN D7_34 rfl rfl |>.iloadN D7_35 rfl |>.iconst D7_36 1 |>.isub D7_37 (z := 0)
  replace k := (k.callV (w_73 hw) (V_Y22_22_String hw) pr1.exa (R_chr3_0 hw G pr1) D7_38 0 rfl).pv
  replace k := (k.callS (w_93 hw) (S2 hw) (R_own_isBlank hw G) D7_41 0 rfl).pv
  replace k := k |>.ifYes D7_44 ((if0 _ _).trans (teq pr2).1) |>.aloadN D7_53 rfl rfl |>.iloadN D7_54 rfl |>.iloadN D7_55 rfl
  obtain ⟨_, h1, K1, ⟨u1, w1, rfl, S1⟩, k⟩ := (k.callV (w_45 hw) (V_Y10_10_String hw) pr1.exa (R_sub3_0_1 hw G pr1 pr5 pr6) D7_56 0 rfl).kv
  exact k.retA D7_59 rfl ⟨_, rfl, K1, u1, w1, rfl, S1⟩
theorem R_38_6 {a1 a2 : Addr} {p3 p4 p5 p6 p7 p8 : Int32} (hw : HW a0 Z) (G : Gl Z w_CS w_SF) (pr1 : Ary Z h0 a1 ATB 6 (bv (lvi [p3, p4, p5, p6, p7, p8]))) (pr2 : 255 < (gcv p5 p6)) : Mt false [] l Y38 C38 (rmk 3 0 0 43) #[.ref a1, .int 1, .ref a2, .int 0, .int 2] Z a0 h0 n0 (Pv h0 (.int 0)) := by
  refine Mt.go PN38 (Or.inl rfl) ef_RIRII_7 fun k => ?_
  replace k := k |>.iloadN D38_0 rfl |>.iload D38_1 rfl |>.aloadN D38_3 rfl rfl
  replace k := (k.callS (w_144 hw) (S39 hw) (R_39_1 hw G pr1 (by decide) (by decide) (by decide) (p1 := 1) (p2 := 2) (p4 := 6)) D38_4 0 rfl).p0
  replace k := k |>.iconst D38_7 0 |>.istore D38_8 sto5 |>.iload D38_10 rfl |>.iload D38_12 rfl |>.icmpNo D38_14  |>.aloadN D38_17 rfl rfl |>.iloadN D38_18 rfl
  replace k := (k.callS (w_120 hw) (S20 hw) (R_20_1 hw G pr1 (by decide) (by decide) (by decide) (by decide) (p2 := 1) (p3 := 6)) D38_19 0 rfl).pv
  replace k := k |>.top (y := (gcv p5 p6)) rfl |>.istore D38_22 sto6 |>.iload D38_24 rfl |>.sipush D38_26 255 |>.icmpNo D38_29 (tlt pr2).2.2.2 |>.iload D38_32 rfl
  exact k.retI D38_34 rfl ⟨rfl, rfl⟩
theorem R_37_6 {a1 : Addr} {p2 p3 p4 p5 p6 p7 : Int32} (hw : HW a0 Z) (G : Gl Z w_CS w_SF) (pr1 : Ary Z h0 a1 ATB 6 (bv (lvi [p2, p3, p4, p5, p6, p7]))) (pr2 : 255 < (gcv p4 p5)) : Mt false [] l Y37 C37 (rmk 4 2 10 61) #[.ref a1, .int 1, .int 2] Z a0 h0 n0 (KpV h0 [] fun v h => ∃ u1 : Addr, v = (.ref u1) ∧ h0.size ≤ u1 ∧ Ary Z h u1 ATB 4 (bv (lvi [p4, p5, p6, p7]))) := by
  refine Mt.go PN37 (Or.inl rfl) ef_RII_6 fun k => ?_
  replace k := k |>.iloadN D37_0 rfl
  obtain ⟨b1, h1, g1, K1, O1, k⟩ := k.newP (aty := .byte) "[B" (w_23 hw) (by decide) D37_1 2 (by decide) (n := 2) (by decide) (by decide) (by decide) (bi_const (L := [0, 0]) rfl)
  replace k := k |>.astoreN D37_3 rfl sto3 |>.aloadN D37_4 rfl rfl |>.iloadN D37_5 rfl |>.aloadN D37_6 rfl rfl |>.iconst D37_7 0 |>.iloadN D37_8 rfl
  have o3 := pr1.keep K1 nin0
  replace k := (k.callS (w_141 hw) (S38 hw) (R_38_6 hw G o3 pr2) D37_9 0 rfl).pv
  replace k := k |>.istore D37_12 sto4 |>.iload D37_14 rfl |>.iloadN D37_16 rfl |>.icmpNo D37_17  |>.aloadN D37_20 rfl rfl |>.iloadN D37_21 rfl |>.iconst D37_22 1 |>.ishl D37_23 (z := 2) |>.iloadN D37_24 rfl |>.iloadN D37_25 rfl |>.iadd D37_26 (z := 3)
  replace k := (k.callS (w_110 hw) (S18 hw) (R_18_1 hw G (by decide) (by decide) (p1 := 3)) D37_27 2 rfl).pv
  replace k := k |>.top (y := 6) (by decide)
  have z5 := k.sz
  obtain ⟨_, h5, K5, ⟨u1_5, rfl, f5_0, f5_1⟩, k⟩ := (k.callS (w_153 hw) (S31 hw) (R_31_4 hw G (by decide) (by decide) (by decide) (by decide) o3 (by decide) (by decide) (by decide) (by decide) (by decide) (by decide) (p2 := 2) (p3 := 6) (p4 := 6)) D37_30 0 rfl).kv
  have o6 : Ary Z h5 u1_5 ATB 4 (bv (lvi [p4, p5, p6, p7])) := Ary.norm f5_1 (bi_cpz rfl)
  replace k := k |>.astore D37_33 rfl sto5 |>.aload D37_35 rfl rfl |>.iload D37_37 rfl
  replace k := (k.callS (w_120 hw) (S20 hw) (R_20_1 hw G o6 (by decide) (by decide) (by decide) (by decide) (p2 := 0) (p3 := 4)) D37_39 0 rfl).pv
  replace k := k |>.top (y := (gcv p4 p5)) rfl |>.sipush D37_42 255 |>.icmpYes D37_45 (tlt pr2).2.2.1 |>.aload D37_61 rfl rfl
  have s_u1_5 := Nat.le_trans z5 f5_0
  exact k.retA D37_63 rfl ⟨_, rfl, (K1.trans K5 all0), u1_5, rfl, s_u1_5, o6⟩
theorem R_36_6 {a1 : Addr} {p2 p3 p4 p5 p6 p7 : Int32} (hw : HW a0 Z) (G : Gl Z w_CS w_SF) (pr1 : Ary Z h0 a1 ATB 6 (bv (lvi [p2, p3, p4, p5, p6, p7]))) (pr2 : 255 < (gcv p4 p5)) : Mt false [] l Y36 C36 (rmk 5 3 14 78) #[.ref a1, .int 1, .int 2] Z a0 h0 n0 (KpV h0 [] fun v h => ∃ u1 u2 : Addr, v = (.ref u1) ∧ h0.size ≤ u1 ∧ h0.size ≤ u2 ∧ u2 ≠ u1 ∧ Obj Z h u1 L_String [.ref u2, .int 1] ∧ Ary Z h u2 ATB 4 (bv (lvi [p4, p5, p6, p7]))) := by
  refine Mt.go PN36 (Or.inl rfl) ef_RII_5 fun k => ?_
  have nz := k.n0le
  replace k := k |>.iloadN D36_0 rfl |>.ifYes D36_1  |>.getS (fl_137 hw) G.S_CS D36_8 |>.ifNo D36_11 ((if0 _ _).trans (feq G.h_CS).1) |>.aloadN D36_14 rfl rfl |>.iloadN D36_15 rfl |>.iloadN D36_16 rfl
  have z1 := k.sz
  obtain ⟨_, h1, K1, ⟨u1_1, rfl, f1_0, f1_1⟩, k⟩ := (k.callS (w_138 hw) (S37 hw) (R_37_6 hw G pr1 pr2) D36_17 0 rfl).kv
  replace k := k |>.astoreN D36_20 rfl sto3 |>.aloadN D36_21 rfl rfl |>.iloadN D36_22 rfl
  replace k := (k.callS (w_171 hw) (S21 hw) (R_21_1 hw G f1_1 (by decide) (p2 := 2) (p3 := 4)) D36_23 0 rfl).pv
  replace k := k |>.top (y := 1) (by decide) |>.istore D36_26 sto4
  have z3 := k.sz
  obtain ⟨b3, h3, g3, K3, O3, k⟩ := k.new (L := L_String) (w_172 hw) (nw_String hw) D36_28 (by decide) dvL_String
  replace k := k |>.dup D36_31 rfl |>.aloadN D36_32 rfl rfl |>.iload D36_33 rfl
  have s_b3 := Nat.le_trans z3 g3
  have n_b3 := Nat.le_trans nz s_b3
  obtain ⟨h4, K4, f4_0, k⟩ := (k.callI (w_173 hw) (I35 hw) (R_35_2 hw G O3 n_b3) D36_35 1 rfl).k0 (allS n_b3 all0)
  have s_u1_1 := Nat.le_trans z1 f1_0
  have o5 := (f1_1.keep K3 nin0).keep K4 (ninS (nlt f1_1.lt g3) nin0)
  exact k.retA D36_38 rfl ⟨_, rfl, ((K1.trans K3 all0).trans K4 (allS (Or.inr s_b3) all0)), b3, u1_1, rfl, s_b3, s_u1_1, (nlt f1_1.lt g3), f4_0, o5⟩
theorem own_d50 {c1 v0 : Int32} (e0 : v0 = (gcv (lo8 c1) (hi8 c1))) (q0 : ¬ (c1 < 0)) (q1 : c1 < 65536) (q2 : ¬ (255 < c1)) : ¬ (255 < v0) := by
  have := rng32 c1
  have : (0 : Int32).toInt = 0 := by decide
  have := i_nlt q0
  have : (65536 : Int32).toInt = 65536 := by decide
  have := i_lt q1
  have : (255 : Int32).toInt = 255 := by decide
  have := i_nlt q2
  have := e_gc e0 (by omega) (by omega)
  exact o_nlt (by omega)
theorem R_38_7 {a1 a2 : Addr} {p3 p4 p5 p6 p7 p8 : Int32} (hw : HW a0 Z) (G : Gl Z w_CS w_SF) (pr1 : Ary Z h0 a1 ATB 6 (bv (lvi [p3, p4, p5, p6, p7, p8]))) (pr2 : ¬ (255 < (gcv p5 p6))) (pr3 : Ary Z h0 a2 ATB 2 (bv (lvi [0, 0]))) (pr4 : n0 ≤ a2) (pr5 : a1 ≠ a2) (pr6 : 255 < (gcv p7 p8)) : Mt false [] l Y38 C38 (rmk 3 0 0 43) #[.ref a1, .int 1, .ref a2, .int 0, .int 2] Z a0 h0 n0 (KpV h0 [a2] fun v h => v = (.int 1) ∧ Ary Z h a2 ATB 2 (bv (lvi [((gcv p5 p6).toInt8.toInt32), 0]))) := by
  refine Mt.go PN38 (Or.inl rfl) ef_RIRII_7 fun k => ?_
  replace k := k |>.iloadN D38_0 rfl |>.iload D38_1 rfl |>.aloadN D38_3 rfl rfl
  replace k := (k.callS (w_144 hw) (S39 hw) (R_39_1 hw G pr1 (by decide) (by decide) (by decide) (p1 := 1) (p2 := 2) (p4 := 6)) D38_4 0 rfl).p0
  replace k := k |>.iconst D38_7 0 |>.istore D38_8 sto5 |>.iload D38_10 rfl |>.iload D38_12 rfl |>.icmpNo D38_14  |>.aloadN D38_17 rfl rfl |>.iloadN D38_18 rfl
  replace k := (k.callS (w_120 hw) (S20 hw) (R_20_1 hw G pr1 (by decide) (by decide) (by decide) (by decide) (p2 := 1) (p3 := 6)) D38_19 0 rfl).pv
  replace k := k |>.top (y := (gcv p5 p6)) rfl |>.istore D38_22 sto6 |>.iload D38_24 rfl |>.sipush D38_26 255 |>.icmpYes D38_29 (flt pr2).2.2.2 |>.aloadN D38_35 rfl rfl |>.iloadN D38_36 rfl |>.iload D38_37 rfl |>.i2b D38_39 rfl
  obtain ⟨h3, K3, O3, k⟩ := k.stB pr3 pr4 (Or.inl rfl) D38_40 (i := 0) (by decide) (v := (.int ((gcv p5 p6).toInt8.toInt32))) (congrArg Value.int (own_nnBi2b _)) (own_fitBi2b _) bis0
  replace k := k |>.iinc D38_41 rfl (z := 2) (by decide) sto1 |>.iinc D38_44 rfl (z := 1) (by decide) sto3 |>.iinc D38_47 rfl (z := 1) (by decide) sto5 |>.goto D38_50 |>.iload D38_10 rfl |>.iload D38_12 rfl |>.icmpNo D38_14  |>.aloadN D38_17 rfl rfl |>.iloadN D38_18 rfl
  have o5 := pr1.keep K3 (ninS pr5 nin0)
  replace k := (k.callS (w_120 hw) (S20 hw) (R_20_1 hw G o5 (by decide) (by decide) (by decide) (by decide) (p2 := 2) (p3 := 6)) D38_19 0 rfl).pv
  replace k := k |>.top (y := (gcv p7 p8)) rfl |>.istore D38_22 sto6 |>.iload D38_24 rfl |>.sipush D38_26 255 |>.icmpNo D38_29 (tlt pr6).2.2.2 |>.iload D38_32 rfl
  exact k.retI D38_34 rfl ⟨_, rfl, K3, rfl, O3⟩
theorem R_37_7 {a1 : Addr} {p2 p3 p4 p5 p6 p7 : Int32} (hw : HW a0 Z) (G : Gl Z w_CS w_SF) (pr1 : Ary Z h0 a1 ATB 6 (bv (lvi [p2, p3, p4, p5, p6, p7]))) (pr2 : ¬ (255 < (gcv p4 p5))) (pr3 : 255 < (gcv p6 p7)) : Mt false [] l Y37 C37 (rmk 4 2 10 61) #[.ref a1, .int 1, .int 2] Z a0 h0 n0 (KpV h0 [] fun v h => ∃ u1 : Addr, v = (.ref u1) ∧ h0.size ≤ u1 ∧ Ary Z h u1 ATB 4 (bv (lvi [p4, p5, p6, p7]))) := by
  refine Mt.go PN37 (Or.inl rfl) ef_RII_6 fun k => ?_
  have nz := k.n0le
  replace k := k |>.iloadN D37_0 rfl
  have z1 := k.sz
  obtain ⟨b1, h1, g1, K1, O1, k⟩ := k.newP (aty := .byte) "[B" (w_23 hw) (by decide) D37_1 2 (by decide) (n := 2) (by decide) (by decide) (by decide) (bi_const (L := [0, 0]) rfl)
  replace k := k |>.astoreN D37_3 rfl sto3 |>.aloadN D37_4 rfl rfl |>.iloadN D37_5 rfl |>.aloadN D37_6 rfl rfl |>.iconst D37_7 0 |>.iloadN D37_8 rfl
  have s_b1 := Nat.le_trans z1 g1
  have n_b1 := Nat.le_trans nz s_b1
  have o3 := pr1.keep K1 nin0
  obtain ⟨_, h2, K2, ⟨rfl, f2_0⟩, k⟩ := (k.callS (w_141 hw) (S38 hw) (R_38_7 hw G o3 pr2 O1 n_b1 (nlt pr1.lt s_b1) pr3) D37_9 0 rfl).kv (allS n_b1 all0)
  replace k := k |>.istore D37_12 sto4 |>.iload D37_14 rfl |>.iloadN D37_16 rfl |>.icmpNo D37_17  |>.aloadN D37_20 rfl rfl |>.iloadN D37_21 rfl |>.iconst D37_22 1 |>.ishl D37_23 (z := 2) |>.iloadN D37_24 rfl |>.iloadN D37_25 rfl |>.iadd D37_26 (z := 3)
  replace k := (k.callS (w_110 hw) (S18 hw) (R_18_1 hw G (by decide) (by decide) (p1 := 3)) D37_27 2 rfl).pv
  replace k := k |>.top (y := 6) (by decide)
  have o6 := o3.keep K2 (ninS (nlt pr1.lt s_b1) nin0)
  have z5 := k.sz
  obtain ⟨_, h5, K5, ⟨u1_5, rfl, f5_0, f5_1⟩, k⟩ := (k.callS (w_153 hw) (S31 hw) (R_31_4 hw G (by decide) (by decide) (by decide) (by decide) o6 (by decide) (by decide) (by decide) (by decide) (by decide) (by decide) (p2 := 2) (p3 := 6) (p4 := 6)) D37_30 0 rfl).kv
  have o7 : Ary Z h5 u1_5 ATB 4 (bv (lvi [p4, p5, p6, p7])) := Ary.norm f5_1 (bi_cpz rfl)
  replace k := k |>.astore D37_33 rfl sto5 |>.aload D37_35 rfl rfl |>.iload D37_37 rfl
  replace k := (k.callS (w_120 hw) (S20 hw) (R_20_1 hw G o7 (by decide) (by decide) (by decide) (by decide) (p2 := 1) (p3 := 4)) D37_39 0 rfl).pv
  replace k := k |>.top (y := (gcv p6 p7)) rfl |>.sipush D37_42 255 |>.icmpYes D37_45 (tlt pr3).2.2.1 |>.aload D37_61 rfl rfl
  have s_u1_5 := Nat.le_trans z5 f5_0
  exact k.retA D37_63 rfl ⟨_, rfl, ((K1.trans K2 (allS (Or.inr s_b1) all0)).trans K5 all0), u1_5, rfl, s_u1_5, o7⟩
theorem R_36_7 {a1 : Addr} {p2 p3 p4 p5 p6 p7 : Int32} (hw : HW a0 Z) (G : Gl Z w_CS w_SF) (pr1 : Ary Z h0 a1 ATB 6 (bv (lvi [p2, p3, p4, p5, p6, p7]))) (pr2 : ¬ (255 < (gcv p4 p5))) (pr3 : 255 < (gcv p6 p7)) : Mt false [] l Y36 C36 (rmk 5 3 14 78) #[.ref a1, .int 1, .int 2] Z a0 h0 n0 (KpV h0 [] fun v h => ∃ u1 u2 : Addr, v = (.ref u1) ∧ h0.size ≤ u1 ∧ h0.size ≤ u2 ∧ u2 ≠ u1 ∧ Obj Z h u1 L_String [.ref u2, .int 1] ∧ Ary Z h u2 ATB 4 (bv (lvi [p4, p5, p6, p7]))) := by
  refine Mt.go PN36 (Or.inl rfl) ef_RII_5 fun k => ?_
  have nz := k.n0le
  replace k := k |>.iloadN D36_0 rfl |>.ifYes D36_1  |>.getS (fl_137 hw) G.S_CS D36_8 |>.ifNo D36_11 ((if0 _ _).trans (feq G.h_CS).1) |>.aloadN D36_14 rfl rfl |>.iloadN D36_15 rfl |>.iloadN D36_16 rfl
  have z1 := k.sz
  obtain ⟨_, h1, K1, ⟨u1_1, rfl, f1_0, f1_1⟩, k⟩ := (k.callS (w_138 hw) (S37 hw) (R_37_7 hw G pr1 pr2 pr3) D36_17 0 rfl).kv
  replace k := k |>.astoreN D36_20 rfl sto3 |>.aloadN D36_21 rfl rfl |>.iloadN D36_22 rfl
  replace k := (k.callS (w_171 hw) (S21 hw) (R_21_1 hw G f1_1 (by decide) (p2 := 2) (p3 := 4)) D36_23 0 rfl).pv
  replace k := k |>.top (y := 1) (by decide) |>.istore D36_26 sto4
  have z3 := k.sz
  obtain ⟨b3, h3, g3, K3, O3, k⟩ := k.new (L := L_String) (w_172 hw) (nw_String hw) D36_28 (by decide) dvL_String
  replace k := k |>.dup D36_31 rfl |>.aloadN D36_32 rfl rfl |>.iload D36_33 rfl
  have s_b3 := Nat.le_trans z3 g3
  have n_b3 := Nat.le_trans nz s_b3
  obtain ⟨h4, K4, f4_0, k⟩ := (k.callI (w_173 hw) (I35 hw) (R_35_2 hw G O3 n_b3) D36_35 1 rfl).k0 (allS n_b3 all0)
  have s_u1_1 := Nat.le_trans z1 f1_0
  have o5 := (f1_1.keep K3 nin0).keep K4 (ninS (nlt f1_1.lt g3) nin0)
  exact k.retA D36_38 rfl ⟨_, rfl, ((K1.trans K3 all0).trans K4 (allS (Or.inr s_b3) all0)), b3, u1_1, rfl, s_b3, s_u1_1, (nlt f1_1.lt g3), f4_0, o5⟩
theorem R_sub3_1_3 {a1 a2 : Addr} {c0 c1 c2 : Int32} (hw : HW a0 Z) (G : Gl Z w_CS w_SF) (S : Str Z h0 a1 a2 [c0, c1, c2]) (x0 : ¬ (255 < c0)) : Mt false [] l Y10 C10 (rmk 6 3 14 94) #[.ref a1, .int 1, .int 3] Z a0 h0 n0 (KpV h0 [] fun v h => ∃ u w : Addr, v = .ref u ∧ Str Z h u w [c1, c2]) := by
  refine Mt.go PN10 (Or.inl rfl) ef_RII_5 fun k => ?_
  obtain ⟨⟨⟨g0a, g0b⟩, ⟨g1a, g1b⟩, ⟨g2a, g2b⟩, -⟩, S⟩ := S
  rcases S with ⟨T, O, A, hl⟩ | ⟨O, A, u0 | ⟨l0, u1 | ⟨l1, u2 | ⟨-, hx⟩⟩⟩⟩
  · obtain ⟨l0, l1, l2, -⟩ := hl
    have A : Ary Z h0 a2 (T, .byte) 3 (bv (lvi [(c0.toInt8.toInt32), (c1.toInt8.toInt32), (c2.toInt8.toInt32)])) := A
    replace k := k |>.aloadN D10_0 rfl rfl
    replace k := (k.callV (w_50 hw) (V_Y8_8_String hw) O.exa (R_8_6 hw G O A) D10_1 0 rfl).pv
    replace k := k |>.istoreN D10_4 sto3 |>.iloadN D10_5 rfl |>.iloadN D10_6 rfl |>.iloadN D10_7 rfl
    replace k := (k.callS (w_51 hw) (S11 hw) (R_11_1 hw G (by decide) (by decide) (by decide) (p1 := 1) (p2 := 3) (p3 := 3)) D10_8 0 rfl).p0
    replace k := k |>.iloadN D10_11 rfl |>.ifYes D10_12  |>.iloadN D10_22 rfl |>.iloadN D10_23 rfl |>.isub D10_24 (z := 2) |>.istore D10_25 sto4 |>.aloadN D10_27 rfl rfl
    replace k := (k.callV (w_78 hw) (V_Y23_23_String hw) O.exa (R_23_1 hw G O) D10_28 0 rfl).pv
    replace k := k |>.ifNo D10_31  |>.aloadN D10_34 rfl rfl |>.getF (fl_28 hw) O 0 D10_35 rfl rfl |>.iloadN D10_38 rfl |>.iload D10_39 rfl
    obtain ⟨_, h4, K4, ⟨u1_4, u2_4, rfl, f4_0, f4_1, f4_2, f4_3, f4_4⟩, k⟩ := (k.callS (w_96 hw) (S30 hw) (R_30_4 hw G (by decide) (by decide) (by decide) (by decide) (by decide) A (by decide) (by decide) (by decide) (by decide) (by decide) (by decide) (p2 := 1) (p3 := 2) (p4 := 3)) D10_41 0 rfl).kv
    have o5 : Ary Z h4 u2_4 ATB 2 (bv (lvi [(c1.toInt8.toInt32), (c2.toInt8.toInt32)])) := Ary.norm f4_4 (bi_cpz rfl)
    replace k := k |>.goto D10_44
    exact k.retA D10_57 rfl ⟨_, rfl, K4, u1_4, u2_4, rfl, ⟨⟨⟨g1a, g1b⟩, ⟨⟨g2a, g2b⟩, trivial⟩⟩, Or.inl ⟨_, f4_3, o5, ⟨l1, ⟨l2, trivial⟩⟩⟩⟩⟩
  · exact absurd u0 x0
  · have A : Ary Z h0 a2 ATB 6 (bv (lvi [(lo8 c0), (hi8 c0), (lo8 c1), (hi8 c1), (lo8 c2), (hi8 c2)])) := A
    replace k := k |>.aloadN D10_0 rfl rfl
    replace k := (k.callV (w_50 hw) (V_Y8_8_String hw) O.exa (R_8_7 hw G O A) D10_1 0 rfl).pv
    replace k := k |>.istoreN D10_4 sto3 |>.iloadN D10_5 rfl |>.iloadN D10_6 rfl |>.iloadN D10_7 rfl
    replace k := (k.callS (w_51 hw) (S11 hw) (R_11_1 hw G (by decide) (by decide) (by decide) (p1 := 1) (p2 := 3) (p3 := 3)) D10_8 0 rfl).p0
    replace k := k |>.iloadN D10_11 rfl |>.ifYes D10_12  |>.iloadN D10_22 rfl |>.iloadN D10_23 rfl |>.isub D10_24 (z := 2) |>.istore D10_25 sto4 |>.aloadN D10_27 rfl rfl
    replace k := (k.callV (w_78 hw) (V_Y23_23_String hw) O.exa (R_23_2 hw G O) D10_28 0 rfl).pv
    replace k := k |>.ifYes D10_31  |>.aloadN D10_47 rfl rfl |>.getF (fl_28 hw) O 0 D10_48 rfl rfl |>.iloadN D10_51 rfl |>.iload D10_52 rfl
    obtain ⟨_, h9, K9, ⟨u1_9, u2_9, rfl, f9_0, f9_1, f9_2, f9_3, f9_4⟩, k⟩ := (k.callS (w_134 hw) (S36 hw) (R_36_6 hw G A (own_d20 rfl g1a g1b u1)) D10_54 0 rfl).kv
    exact k.retA D10_57 rfl ⟨_, rfl, K9, u1_9, u2_9, rfl, ⟨⟨⟨g1a, g1b⟩, ⟨⟨g2a, g2b⟩, trivial⟩⟩, Or.inr ⟨f9_3, f9_4, Or.inl u1⟩⟩⟩
  · have A : Ary Z h0 a2 ATB 6 (bv (lvi [(lo8 c0), (hi8 c0), (lo8 c1), (hi8 c1), (lo8 c2), (hi8 c2)])) := A
    replace k := k |>.aloadN D10_0 rfl rfl
    replace k := (k.callV (w_50 hw) (V_Y8_8_String hw) O.exa (R_8_7 hw G O A) D10_1 0 rfl).pv
    replace k := k |>.istoreN D10_4 sto3 |>.iloadN D10_5 rfl |>.iloadN D10_6 rfl |>.iloadN D10_7 rfl
    replace k := (k.callS (w_51 hw) (S11 hw) (R_11_1 hw G (by decide) (by decide) (by decide) (p1 := 1) (p2 := 3) (p3 := 3)) D10_8 0 rfl).p0
    replace k := k |>.iloadN D10_11 rfl |>.ifYes D10_12  |>.iloadN D10_22 rfl |>.iloadN D10_23 rfl |>.isub D10_24 (z := 2) |>.istore D10_25 sto4 |>.aloadN D10_27 rfl rfl
    replace k := (k.callV (w_78 hw) (V_Y23_23_String hw) O.exa (R_23_2 hw G O) D10_28 0 rfl).pv
    replace k := k |>.ifYes D10_31  |>.aloadN D10_47 rfl rfl |>.getF (fl_28 hw) O 0 D10_48 rfl rfl |>.iloadN D10_51 rfl |>.iload D10_52 rfl
    obtain ⟨_, h13, K13, ⟨u1_13, u2_13, rfl, f13_0, f13_1, f13_2, f13_3, f13_4⟩, k⟩ := (k.callS (w_134 hw) (S36 hw) (R_36_7 hw G A (own_d50 rfl g1a g1b l1) (own_d34 rfl g2a g2b u2)) D10_54 0 rfl).kv
    exact k.retA D10_57 rfl ⟨_, rfl, K13, u1_13, u2_13, rfl, ⟨⟨⟨g1a, g1b⟩, ⟨⟨g2a, g2b⟩, trivial⟩⟩, Or.inr ⟨f13_3, f13_4, Or.inr ⟨l1, Or.inl u2⟩⟩⟩⟩
  · exact hx.elim
theorem R_7_22 {a1 a2 : Addr} {p3 p4 p5 : Int32} (hw : HW a0 Z) (G : Gl Z w_CS w_SF) (pr1 : Str Z h0 a1 a2 [p3, p4, p5]) (pr2 : ¬ ((bl p3) = 0)) (pr3 : (bl p4) = 0) (pr4 : (bl p5) = 0) (pr5 : ¬ (255 < p3)) : Mt false [] l Y7 C7 (rmk 7 3 14 110) #[.ref a1] Z a0 h0 n0 (KpV h0 [] fun v h => ∃ u1 u2 : Addr, v = (.ref u1) ∧ Str Z h u1 u2 [p4, p5]) := by
  refine Mt.go PN7 (Or.inl rfl) ef_R_3 fun k => ?_
  replace k := k |>.iconst D7_0 0 |>.istoreN D7_1 sto1 |>.aloadN D7_2 rfl rfl
  replace k := (k.callV (w_34 hw) (V_Y8_8_String hw) pr1.exa (R_len3 hw G pr1) D7_3 0 rfl).pv
  replace k := k |>.istoreN D7_6 sto2 |>.iloadN D7_7 rfl |>.iloadN D7_8 rfl |>.icmpNo D7_9  |>.aloadN D7_12 rfl rfl |>.iloadN D7_13 rfl
  replace k := (k.callV (w_73 hw) (V_Y22_22_String hw) pr1.exa (R_chr3_0 hw G pr1) D7_14 0 rfl).pv
  replace k := (k.callS (w_93 hw) (S2 hw) (R_own_isBlank hw G) D7_17 0 rfl).pv
  replace k := k |>.ifNo D7_20 ((if0 _ _).trans (feq pr2).1) |>.iinc D7_23 rfl (z := 1) (by decide) sto1 |>.goto D7_26 |>.iloadN D7_7 rfl |>.iloadN D7_8 rfl |>.icmpNo D7_9  |>.aloadN D7_12 rfl rfl |>.iloadN D7_13 rfl
  replace k := (k.callV (w_73 hw) (V_Y22_22_String hw) pr1.exa (R_chr3_1 hw G pr1) D7_14 0 rfl).pv
  replace k := (k.callS (w_93 hw) (S2 hw) (R_own_isBlank hw G) D7_17 0 rfl).pv
  replace k := k |>.ifYes D7_20 ((if0 _ _).trans (teq pr3).1) |>.iloadN D7_29 rfl |>.iloadN D7_30 rfl |>.icmpNo D7_31  |>.aloadN D7_34 rfl rfl |>.iloadN D7_35 rfl |>.iconst D7_36 1 |>.isub D7_37 (z := 2)
  replace k := (k.callV (w_73 hw) (V_Y22_22_String hw) pr1.exa (R_chr3_2 hw G pr1) D7_38 0 rfl).pv
  replace k := (k.callS (w_93 hw) (S2 hw) (R_own_isBlank hw G) D7_41 0 rfl).pv
  replace k := k |>.ifYes D7_44 ((if0 _ _).trans (teq pr4).1) |>.aloadN D7_53 rfl rfl |>.iloadN D7_54 rfl |>.iloadN D7_55 rfl
  obtain ⟨_, h1, K1, ⟨u1, w1, rfl, S1⟩, k⟩ := (k.callV (w_45 hw) (V_Y10_10_String hw) pr1.exa (R_sub3_1_3 hw G pr1 pr5) D7_56 0 rfl).kv
  exact k.retA D7_59 rfl ⟨_, rfl, K1, u1, w1, rfl, S1⟩
theorem R_13_21 {a1 a2 a3 : Addr} {p4 p5 p6 p7 p8 p9 : Int32} (hw : HW a0 Z) (G : Gl Z w_CS w_SF) (pr1 : Str Z h0 a1 a3 [p4, p5]) (pr2 : Ary Z h0 a2 ATC 4 (bv (lvi [p6, p7, p8, p9]))) (pr3 : p4 = p7) : Mt false [] l Y13 C13 (rmk 5 0 0 66) #[.ref a1, .int 0, .ref a2, .int 1] Z a0 h0 n0 (Pv h0 (.int 1)) := by
  refine Mt.go PN13 (Or.inl rfl) ef_RIRI_4 fun k => ?_
  replace k := k |>.iloadN D13_0 rfl |>.aloadN D13_1 rfl rfl
  replace k := (k.callV (w_59 hw) (V_Y8_8_String hw) pr1.exa (R_len2 hw G pr1) D13_2 1 rfl).pv
  replace k := k |>.icmpNo D13_5  |>.aloadN D13_8 rfl rfl |>.iloadN D13_9 rfl
  replace k := (k.callV (w_133 hw) (V_Y22_22_String hw) pr1.exa (R_chr2_0 hw G pr1) D13_10 0 rfl).pv
  replace k := k |>.aloadN D13_13 rfl rfl |>.iloadN D13_14 rfl |>.iloadN D13_15 rfl |>.iadd D13_16 (z := 1) |>.cald pr2 D13_17 (i := 1) (by decide) big1 |>.icmpNo D13_18 (teq pr3).2 |>.iconst D13_21 1 |>.goto D13_22
  exact k.retN (t := .boolean) D13_26 rfl (by simp) (z' := 1) (by decide) ⟨rfl, rfl⟩
theorem R_13_22 {a1 a2 a3 : Addr} {p4 p5 p6 p7 p8 p9 : Int32} (hw : HW a0 Z) (G : Gl Z w_CS w_SF) (pr1 : Str Z h0 a1 a3 [p4, p5]) (pr2 : Ary Z h0 a2 ATC 4 (bv (lvi [p6, p7, p8, p9]))) (pr3 : p5 = p8) : Mt false [] l Y13 C13 (rmk 5 0 0 66) #[.ref a1, .int 1, .ref a2, .int 1] Z a0 h0 n0 (Pv h0 (.int 1)) := by
  refine Mt.go PN13 (Or.inl rfl) ef_RIRI_4 fun k => ?_
  replace k := k |>.iloadN D13_0 rfl |>.aloadN D13_1 rfl rfl
  replace k := (k.callV (w_59 hw) (V_Y8_8_String hw) pr1.exa (R_len2 hw G pr1) D13_2 1 rfl).pv
  replace k := k |>.icmpNo D13_5  |>.aloadN D13_8 rfl rfl |>.iloadN D13_9 rfl
  replace k := (k.callV (w_133 hw) (V_Y22_22_String hw) pr1.exa (R_chr2_1 hw G pr1) D13_10 0 rfl).pv
  replace k := k |>.aloadN D13_13 rfl rfl |>.iloadN D13_14 rfl |>.iloadN D13_15 rfl |>.iadd D13_16 (z := 2) |>.cald pr2 D13_17 (i := 2) (by decide) big2 |>.icmpNo D13_18 (teq pr3).2 |>.iconst D13_21 1 |>.goto D13_22
  exact k.retN (t := .boolean) D13_26 rfl (by simp) (z' := 1) (by decide) ⟨rfl, rfl⟩
theorem R_13_23 {a1 a2 a3 : Addr} {p4 p5 : Int32} (hw : HW a0 Z) (G : Gl Z w_CS w_SF) (pr1 : Str Z h0 a1 a3 [p4, p5]) : Mt false [] l Y13 C13 (rmk 2 0 0 26) #[.ref a1, .int 2, .ref a2, .int 1] Z a0 h0 n0 (Pv h0 (.int 1)) := by
  refine Mt.go PN13 (Or.inl rfl) ef_RIRI_4 fun k => ?_
  replace k := k |>.iloadN D13_0 rfl |>.aloadN D13_1 rfl rfl
  replace k := (k.callV (w_59 hw) (V_Y8_8_String hw) pr1.exa (R_len2 hw G pr1) D13_2 1 rfl).pv
  replace k := k |>.icmpYes D13_5  |>.iconst D13_21 1 |>.goto D13_22
  exact k.retN (t := .boolean) D13_26 rfl (by simp) (z' := 1) (by decide) ⟨rfl, rfl⟩
theorem R_13_24 {a1 a2 a3 : Addr} {p4 p5 : Int32} (hw : HW a0 Z) (G : Gl Z w_CS w_SF) (pr1 : Str Z h0 a1 a3 [p4, p5]) : Mt false [] l Y13 C13 (rmk 2 0 0 26) #[.ref a1, .int 3, .ref a2, .int 1] Z a0 h0 n0 (Pv h0 (.int 1)) := by
  refine Mt.go PN13 (Or.inl rfl) ef_RIRI_4 fun k => ?_
  replace k := k |>.iloadN D13_0 rfl |>.aloadN D13_1 rfl rfl
  replace k := (k.callV (w_59 hw) (V_Y8_8_String hw) pr1.exa (R_len2 hw G pr1) D13_2 1 rfl).pv
  replace k := k |>.icmpYes D13_5  |>.iconst D13_21 1 |>.goto D13_22
  exact k.retN (t := .boolean) D13_26 rfl (by simp) (z' := 1) (by decide) ⟨rfl, rfl⟩
theorem R_31_5 {a1 : Addr} {p2 p3 p4 : Int32} {f5 : Nat → Int32} (hw : HW a0 Z) (G : Gl Z w_CS w_SF) (pr1 : ¬ (p2 = 0)) (pr2 : ¬ (p3 < p2)) (pr3 : ¬ ((p3 - p2) < 0)) (pr4 : (p3 - p2).toNatClampNeg ≤ 8) (pr5 : Ary Z h0 a1 (T, .byte) p4.toNatClampNeg (bv f5)) (pr6 : ¬ (p4 < 0)) (pr7 : (p3 - p2) < (p4 - p2)) (pr8 : ¬ (p2 < 0)) (pr9 : p2.toNatClampNeg + (p3 - p2).toNatClampNeg ≤ p4.toNatClampNeg) (pr10 : 0 + (p3 - p2).toNatClampNeg ≤ (p3 - p2).toNatClampNeg) : Mt false [] l Y31 C31 (rmk 2 1 8 34) #[.ref a1, .int p2, .int p3] Z a0 h0 n0 (KpV h0 [] fun v h => ∃ u1 : Addr, v = (.ref u1) ∧ h0.size ≤ u1 ∧ Ary Z h u1 ATB (p3 - p2).toNatClampNeg (bv (cpyi f5 (fun _ => 0) p2.toNatClampNeg 0 (p3 - p2).toNatClampNeg))) := by
  refine Mt.go PN31 (Or.inl rfl) ef_RII_3 fun k => ?_
  replace k := k |>.iloadN D31_0 rfl |>.ifYes D31_1 ((if0 _ _).trans (feq pr1).2) |>.aloadN D31_10 rfl rfl |>.iloadN D31_11 rfl |>.iloadN D31_12 rfl
  have z1 := k.sz
  obtain ⟨_, h1, K1, ⟨u1_1, rfl, f1_0, f1_1⟩, k⟩ := (k.callS (w_157 hw) (S32 hw) (R_32_1 hw G pr2 pr3 pr4 pr5 pr6 pr7 pr8 pr9 pr10) D31_13 0 rfl).kv
  have o2 : Ary Z h1 u1_1 ATB (p3 - p2).toNatClampNeg (bv (cpyi f5 (fun _ => 0) p2.toNatClampNeg 0 (p3 - p2).toNatClampNeg)) := f1_1
  have s_u1_1 := Nat.le_trans z1 f1_0
  exact k.retA D31_16 rfl ⟨_, rfl, K1, u1_1, rfl, s_u1_1, o2⟩
theorem R_30_5 {a1 : Addr} {p2 p3 p4 : Int32} {f5 : Nat → Int32} (hw : HW a0 Z) (G : Gl Z w_CS w_SF) (pr1 : ¬ (p3 = 0)) (pr2 : ¬ (p2 = 0)) (pr3 : ¬ ((p2 + p3) < p2)) (pr4 : ¬ (((p2 + p3) - p2) < 0)) (pr5 : ((p2 + p3) - p2).toNatClampNeg ≤ 8) (pr6 : Ary Z h0 a1 (T, .byte) p4.toNatClampNeg (bv f5)) (pr7 : ¬ (p4 < 0)) (pr8 : ((p2 + p3) - p2) < (p4 - p2)) (pr9 : ¬ (p2 < 0)) (pr10 : p2.toNatClampNeg + ((p2 + p3) - p2).toNatClampNeg ≤ p4.toNatClampNeg) (pr11 : 0 + ((p2 + p3) - p2).toNatClampNeg ≤ ((p2 + p3) - p2).toNatClampNeg) : Mt false [] l Y30 C30 (rmk 3 2 12 50) #[.ref a1, .int p2, .int p3] Z a0 h0 n0 (KpV h0 [] fun v h => ∃ u1 u2 : Addr, v = (.ref u1) ∧ h0.size ≤ u1 ∧ h0.size ≤ u2 ∧ u2 ≠ u1 ∧ Obj Z h u1 L_String [.ref u2, .int 0] ∧ Ary Z h u2 ATB ((p2 + p3) - p2).toNatClampNeg (bv (cpyi f5 (fun _ => 0) p2.toNatClampNeg 0 ((p2 + p3) - p2).toNatClampNeg))) := by
  refine Mt.go PN30 (Or.inl rfl) ef_RII_3 fun k => ?_
  have nz := k.n0le
  replace k := k |>.iloadN D30_0 rfl |>.ifYes D30_1 ((if0 _ _).trans (feq pr1).2)
  have z1 := k.sz
  obtain ⟨b1, h1, g1, K1, O1, k⟩ := k.new (L := L_String) (w_176 hw) (nw_String hw) D30_7 (by decide) dvL_String
  replace k := k |>.dup D30_10 rfl |>.aloadN D30_11 rfl rfl |>.iloadN D30_12 rfl |>.iloadN D30_13 rfl |>.iloadN D30_14 rfl |>.iadd D30_15 rfl
  have o3 := pr6.keep K1 nin0
  have z2 := k.sz
  obtain ⟨_, h2, K2, ⟨u1_2, rfl, f2_0, f2_1⟩, k⟩ := (k.callS (w_177 hw) (S31 hw) (R_31_5 hw G pr2 pr3 pr4 pr5 o3 pr7 pr8 pr9 pr10 pr11) D30_16 2 rfl).kv
  have o4 : Ary Z h2 u1_2 ATB ((p2 + p3) - p2).toNatClampNeg (bv (cpyi f5 (fun _ => 0) p2.toNatClampNeg 0 ((p2 + p3) - p2).toNatClampNeg)) := f2_1
  replace k := k |>.iconst D30_19 0
  have s_b1 := Nat.le_trans z1 g1
  have n_b1 := Nat.le_trans nz s_b1
  have o6 := O1.keep K2 nin0
  obtain ⟨h5, K5, f5_0, k⟩ := (k.callI (w_178 hw) (I35 hw) (R_35_1 hw G o6 n_b1) D30_20 1 rfl).k0 (allS n_b1 all0)
  have s_u1_2 := Nat.le_trans z2 f2_0
  have o7 := o4.keep K5 (ninS (nlt' O1.lt f2_0) nin0)
  exact k.retA D30_23 rfl ⟨_, rfl, ((K1.trans K2 all0).trans K5 (allS (Or.inr s_b1) all0)), b1, u1_2, rfl, s_b1, s_u1_2, (nlt' O1.lt f2_0), f5_0, o7⟩
theorem R_38_8 {a1 a2 : Addr} {p3 p4 p5 p6 p7 p8 : Int32} (hw : HW a0 Z) (G : Gl Z w_CS w_SF) (pr1 : Ary Z h0 a1 ATB 6 (bv (lvi [p3, p4, p5, p6, p7, p8]))) (pr2 : 255 < (gcv p5 p6)) : Mt false [] l Y38 C38 (rmk 3 0 0 43) #[.ref a1, .int 1, .ref a2, .int 0, .int 1] Z a0 h0 n0 (Pv h0 (.int 0)) := by
  refine Mt.go PN38 (Or.inl rfl) ef_RIRII_7 fun k => ?_
  replace k := k |>.iloadN D38_0 rfl |>.iload D38_1 rfl |>.aloadN D38_3 rfl rfl
  replace k := (k.callS (w_144 hw) (S39 hw) (R_39_1 hw G pr1 (by decide) (by decide) (by decide) (p1 := 1) (p2 := 1) (p4 := 6)) D38_4 0 rfl).p0
  replace k := k |>.iconst D38_7 0 |>.istore D38_8 sto5 |>.iload D38_10 rfl |>.iload D38_12 rfl |>.icmpNo D38_14  |>.aloadN D38_17 rfl rfl |>.iloadN D38_18 rfl
  replace k := (k.callS (w_120 hw) (S20 hw) (R_20_1 hw G pr1 (by decide) (by decide) (by decide) (by decide) (p2 := 1) (p3 := 6)) D38_19 0 rfl).pv
  replace k := k |>.top (y := (gcv p5 p6)) rfl |>.istore D38_22 sto6 |>.iload D38_24 rfl |>.sipush D38_26 255 |>.icmpNo D38_29 (tlt pr2).2.2.2 |>.iload D38_32 rfl
  exact k.retI D38_34 rfl ⟨rfl, rfl⟩
theorem R_31_6 {a1 : Addr} {p2 p3 p4 : Int32} {f5 : Nat → Int32} (hw : HW a0 Z) (G : Gl Z w_CS w_SF) (pr1 : ¬ (p2 = 0)) (pr2 : ¬ (p3 < p2)) (pr3 : ¬ ((p3 - p2) < 0)) (pr4 : (p3 - p2).toNatClampNeg ≤ 8) (pr5 : Ary Z h0 a1 ATB p4.toNatClampNeg (bv f5)) (pr6 : ¬ (p4 < 0)) (pr7 : (p3 - p2) < (p4 - p2)) (pr8 : ¬ (p2 < 0)) (pr9 : p2.toNatClampNeg + (p3 - p2).toNatClampNeg ≤ p4.toNatClampNeg) (pr10 : 0 + (p3 - p2).toNatClampNeg ≤ (p3 - p2).toNatClampNeg) : Mt false [] l Y31 C31 (rmk 2 1 8 34) #[.ref a1, .int p2, .int p3] Z a0 h0 n0 (KpV h0 [] fun v h => ∃ u1 : Addr, v = (.ref u1) ∧ h0.size ≤ u1 ∧ Ary Z h u1 ATB (p3 - p2).toNatClampNeg (bv (cpyi f5 (fun _ => 0) p2.toNatClampNeg 0 (p3 - p2).toNatClampNeg))) := by
  refine Mt.go PN31 (Or.inl rfl) ef_RII_3 fun k => ?_
  replace k := k |>.iloadN D31_0 rfl |>.ifYes D31_1 ((if0 _ _).trans (feq pr1).2) |>.aloadN D31_10 rfl rfl |>.iloadN D31_11 rfl |>.iloadN D31_12 rfl
  have z1 := k.sz
  obtain ⟨_, h1, K1, ⟨u1_1, rfl, f1_0, f1_1⟩, k⟩ := (k.callS (w_157 hw) (S32 hw) (R_32_2 hw G pr2 pr3 pr4 pr5 pr6 pr7 pr8 pr9 pr10) D31_13 0 rfl).kv
  have o2 : Ary Z h1 u1_1 ATB (p3 - p2).toNatClampNeg (bv (cpyi f5 (fun _ => 0) p2.toNatClampNeg 0 (p3 - p2).toNatClampNeg)) := f1_1
  have s_u1_1 := Nat.le_trans z1 f1_0
  exact k.retA D31_16 rfl ⟨_, rfl, K1, u1_1, rfl, s_u1_1, o2⟩
theorem R_37_8 {a1 : Addr} {p2 p3 p4 p5 p6 p7 : Int32} (hw : HW a0 Z) (G : Gl Z w_CS w_SF) (pr1 : Ary Z h0 a1 ATB 6 (bv (lvi [p2, p3, p4, p5, p6, p7]))) (pr2 : 255 < (gcv p4 p5)) : Mt false [] l Y37 C37 (rmk 4 2 9 61) #[.ref a1, .int 1, .int 1] Z a0 h0 n0 (KpV h0 [] fun v h => ∃ u1 : Addr, v = (.ref u1) ∧ h0.size ≤ u1 ∧ Ary Z h u1 ATB 2 (bv (lvi [p4, p5]))) := by
  refine Mt.go PN37 (Or.inl rfl) ef_RII_6 fun k => ?_
  replace k := k |>.iloadN D37_0 rfl
  obtain ⟨b1, h1, g1, K1, O1, k⟩ := k.newP (aty := .byte) "[B" (w_23 hw) (by decide) D37_1 1 (by decide) (n := 1) (by decide) (by decide) (by decide) (bi_const (L := [0]) rfl)
  replace k := k |>.astoreN D37_3 rfl sto3 |>.aloadN D37_4 rfl rfl |>.iloadN D37_5 rfl |>.aloadN D37_6 rfl rfl |>.iconst D37_7 0 |>.iloadN D37_8 rfl
  have o3 := pr1.keep K1 nin0
  replace k := (k.callS (w_141 hw) (S38 hw) (R_38_8 hw G o3 pr2) D37_9 0 rfl).pv
  replace k := k |>.istore D37_12 sto4 |>.iload D37_14 rfl |>.iloadN D37_16 rfl |>.icmpNo D37_17  |>.aloadN D37_20 rfl rfl |>.iloadN D37_21 rfl |>.iconst D37_22 1 |>.ishl D37_23 (z := 2) |>.iloadN D37_24 rfl |>.iloadN D37_25 rfl |>.iadd D37_26 (z := 2)
  replace k := (k.callS (w_110 hw) (S18 hw) (R_18_1 hw G (by decide) (by decide) (p1 := 2)) D37_27 2 rfl).pv
  replace k := k |>.top (y := 4) (by decide)
  have z5 := k.sz
  obtain ⟨_, h5, K5, ⟨u1_5, rfl, f5_0, f5_1⟩, k⟩ := (k.callS (w_153 hw) (S31 hw) (R_31_6 hw G (by decide) (by decide) (by decide) (by decide) o3 (by decide) (by decide) (by decide) (by decide) (by decide) (p2 := 2) (p3 := 4) (p4 := 6)) D37_30 0 rfl).kv
  have o6 : Ary Z h5 u1_5 ATB 2 (bv (lvi [p4, p5])) := Ary.norm f5_1 (bi_cpz rfl)
  replace k := k |>.astore D37_33 rfl sto5 |>.aload D37_35 rfl rfl |>.iload D37_37 rfl
  replace k := (k.callS (w_120 hw) (S20 hw) (R_20_1 hw G o6 (by decide) (by decide) (by decide) (by decide) (p2 := 0) (p3 := 2)) D37_39 0 rfl).pv
  replace k := k |>.top (y := (gcv p4 p5)) rfl |>.sipush D37_42 255 |>.icmpYes D37_45 (tlt pr2).2.2.1 |>.aload D37_61 rfl rfl
  have s_u1_5 := Nat.le_trans z5 f5_0
  exact k.retA D37_63 rfl ⟨_, rfl, (K1.trans K5 all0), u1_5, rfl, s_u1_5, o6⟩
theorem R_36_8 {a1 : Addr} {p2 p3 p4 p5 p6 p7 : Int32} (hw : HW a0 Z) (G : Gl Z w_CS w_SF) (pr1 : Ary Z h0 a1 ATB 6 (bv (lvi [p2, p3, p4, p5, p6, p7]))) (pr2 : 255 < (gcv p4 p5)) : Mt false [] l Y36 C36 (rmk 5 3 13 78) #[.ref a1, .int 1, .int 1] Z a0 h0 n0 (KpV h0 [] fun v h => ∃ u1 u2 : Addr, v = (.ref u1) ∧ h0.size ≤ u1 ∧ h0.size ≤ u2 ∧ u2 ≠ u1 ∧ Obj Z h u1 L_String [.ref u2, .int 1] ∧ Ary Z h u2 ATB 2 (bv (lvi [p4, p5]))) := by
  refine Mt.go PN36 (Or.inl rfl) ef_RII_5 fun k => ?_
  have nz := k.n0le
  replace k := k |>.iloadN D36_0 rfl |>.ifYes D36_1  |>.getS (fl_137 hw) G.S_CS D36_8 |>.ifNo D36_11 ((if0 _ _).trans (feq G.h_CS).1) |>.aloadN D36_14 rfl rfl |>.iloadN D36_15 rfl |>.iloadN D36_16 rfl
  have z1 := k.sz
  obtain ⟨_, h1, K1, ⟨u1_1, rfl, f1_0, f1_1⟩, k⟩ := (k.callS (w_138 hw) (S37 hw) (R_37_8 hw G pr1 pr2) D36_17 0 rfl).kv
  replace k := k |>.astoreN D36_20 rfl sto3 |>.aloadN D36_21 rfl rfl |>.iloadN D36_22 rfl
  replace k := (k.callS (w_171 hw) (S21 hw) (R_21_1 hw G f1_1 (by decide) (p2 := 1) (p3 := 2)) D36_23 0 rfl).pv
  replace k := k |>.top (y := 1) (by decide) |>.istore D36_26 sto4
  have z3 := k.sz
  obtain ⟨b3, h3, g3, K3, O3, k⟩ := k.new (L := L_String) (w_172 hw) (nw_String hw) D36_28 (by decide) dvL_String
  replace k := k |>.dup D36_31 rfl |>.aloadN D36_32 rfl rfl |>.iload D36_33 rfl
  have s_b3 := Nat.le_trans z3 g3
  have n_b3 := Nat.le_trans nz s_b3
  obtain ⟨h4, K4, f4_0, k⟩ := (k.callI (w_173 hw) (I35 hw) (R_35_2 hw G O3 n_b3) D36_35 1 rfl).k0 (allS n_b3 all0)
  have s_u1_1 := Nat.le_trans z1 f1_0
  have o5 := (f1_1.keep K3 nin0).keep K4 (ninS (nlt f1_1.lt g3) nin0)
  exact k.retA D36_38 rfl ⟨_, rfl, ((K1.trans K3 all0).trans K4 (allS (Or.inr s_b3) all0)), b3, u1_1, rfl, s_b3, s_u1_1, (nlt f1_1.lt g3), f4_0, o5⟩
theorem R_sub3_1_2 {a1 a2 : Addr} {c0 c1 c2 : Int32} (hw : HW a0 Z) (G : Gl Z w_CS w_SF) (S : Str Z h0 a1 a2 [c0, c1, c2]) (x0 : ¬ (255 < c0)) (x2 : ¬ (255 < c2)) : Mt false [] l Y10 C10 (rmk 6 3 13 94) #[.ref a1, .int 1, .int 2] Z a0 h0 n0 (KpV h0 [] fun v h => ∃ u w : Addr, v = .ref u ∧ Str Z h u w [c1]) := by
  refine Mt.go PN10 (Or.inl rfl) ef_RII_5 fun k => ?_
  obtain ⟨⟨⟨g0a, g0b⟩, ⟨g1a, g1b⟩, ⟨g2a, g2b⟩, -⟩, S⟩ := S
  rcases S with ⟨T, O, A, hl⟩ | ⟨O, A, u0 | ⟨l0, u1 | ⟨l1, u2 | ⟨-, hx⟩⟩⟩⟩
  · obtain ⟨l0, l1, l2, -⟩ := hl
    have A : Ary Z h0 a2 (T, .byte) 3 (bv (lvi [(c0.toInt8.toInt32), (c1.toInt8.toInt32), (c2.toInt8.toInt32)])) := A
    replace k := k |>.aloadN D10_0 rfl rfl
    replace k := (k.callV (w_50 hw) (V_Y8_8_String hw) O.exa (R_8_6 hw G O A) D10_1 0 rfl).pv
    replace k := k |>.istoreN D10_4 sto3 |>.iloadN D10_5 rfl |>.iloadN D10_6 rfl |>.iloadN D10_7 rfl
    replace k := (k.callS (w_51 hw) (S11 hw) (R_11_1 hw G (by decide) (by decide) (by decide) (p1 := 1) (p2 := 2) (p3 := 3)) D10_8 0 rfl).p0
    replace k := k |>.iloadN D10_11 rfl |>.ifYes D10_12  |>.iloadN D10_22 rfl |>.iloadN D10_23 rfl |>.isub D10_24 (z := 1) |>.istore D10_25 sto4 |>.aloadN D10_27 rfl rfl
    replace k := (k.callV (w_78 hw) (V_Y23_23_String hw) O.exa (R_23_1 hw G O) D10_28 0 rfl).pv
    replace k := k |>.ifNo D10_31  |>.aloadN D10_34 rfl rfl |>.getF (fl_28 hw) O 0 D10_35 rfl rfl |>.iloadN D10_38 rfl |>.iload D10_39 rfl
    obtain ⟨_, h4, K4, ⟨u1_4, u2_4, rfl, f4_0, f4_1, f4_2, f4_3, f4_4⟩, k⟩ := (k.callS (w_96 hw) (S30 hw) (R_30_5 hw G (by decide) (by decide) (by decide) (by decide) (by decide) A (by decide) (by decide) (by decide) (by decide) (by decide) (p2 := 1) (p3 := 1) (p4 := 3)) D10_41 0 rfl).kv
    have o5 : Ary Z h4 u2_4 ATB 1 (bv (lvi [(c1.toInt8.toInt32)])) := Ary.norm f4_4 (bi_cpz rfl)
    replace k := k |>.goto D10_44
    exact k.retA D10_57 rfl ⟨_, rfl, K4, u1_4, u2_4, rfl, ⟨⟨⟨g1a, g1b⟩, trivial⟩, Or.inl ⟨_, f4_3, o5, ⟨l1, trivial⟩⟩⟩⟩
  · exact absurd u0 x0
  · have A : Ary Z h0 a2 ATB 6 (bv (lvi [(lo8 c0), (hi8 c0), (lo8 c1), (hi8 c1), (lo8 c2), (hi8 c2)])) := A
    replace k := k |>.aloadN D10_0 rfl rfl
    replace k := (k.callV (w_50 hw) (V_Y8_8_String hw) O.exa (R_8_7 hw G O A) D10_1 0 rfl).pv
    replace k := k |>.istoreN D10_4 sto3 |>.iloadN D10_5 rfl |>.iloadN D10_6 rfl |>.iloadN D10_7 rfl
    replace k := (k.callS (w_51 hw) (S11 hw) (R_11_1 hw G (by decide) (by decide) (by decide) (p1 := 1) (p2 := 2) (p3 := 3)) D10_8 0 rfl).p0
    replace k := k |>.iloadN D10_11 rfl |>.ifYes D10_12  |>.iloadN D10_22 rfl |>.iloadN D10_23 rfl |>.isub D10_24 (z := 1) |>.istore D10_25 sto4 |>.aloadN D10_27 rfl rfl
    replace k := (k.callV (w_78 hw) (V_Y23_23_String hw) O.exa (R_23_2 hw G O) D10_28 0 rfl).pv
    replace k := k |>.ifYes D10_31  |>.aloadN D10_47 rfl rfl |>.getF (fl_28 hw) O 0 D10_48 rfl rfl |>.iloadN D10_51 rfl |>.iload D10_52 rfl
    obtain ⟨_, h9, K9, ⟨u1_9, u2_9, rfl, f9_0, f9_1, f9_2, f9_3, f9_4⟩, k⟩ := (k.callS (w_134 hw) (S36 hw) (R_36_8 hw G A (own_d20 rfl g1a g1b u1)) D10_54 0 rfl).kv
    exact k.retA D10_57 rfl ⟨_, rfl, K9, u1_9, u2_9, rfl, ⟨⟨⟨g1a, g1b⟩, trivial⟩, Or.inr ⟨f9_3, f9_4, Or.inl u1⟩⟩⟩
  · exact absurd u2 x2
  · exact hx.elim
theorem R_7_23 {a1 a2 : Addr} {p3 p4 p5 : Int32} (hw : HW a0 Z) (G : Gl Z w_CS w_SF) (pr1 : Str Z h0 a1 a2 [p3, p4, p5]) (pr2 : ¬ ((bl p3) = 0)) (pr3 : (bl p4) = 0) (pr4 : ¬ ((bl p5) = 0)) (pr5 : ¬ (255 < p3)) (pr6 : ¬ (255 < p5)) : Mt false [] l Y7 C7 (rmk 7 3 13 110) #[.ref a1] Z a0 h0 n0 (KpV h0 [] fun v h => ∃ u1 u2 : Addr, v = (.ref u1) ∧ Str Z h u1 u2 [p4]) := by
  refine Mt.go PN7 (Or.inl rfl) ef_R_3 fun k => ?_
  replace k := k |>.iconst D7_0 0 |>.istoreN D7_1 sto1 |>.aloadN D7_2 rfl rfl
  replace k := (k.callV (w_34 hw) (V_Y8_8_String hw) pr1.exa (R_len3 hw G pr1) D7_3 0 rfl).pv
  replace k := k |>.istoreN D7_6 sto2 |>.iloadN D7_7 rfl |>.iloadN D7_8 rfl |>.icmpNo D7_9  |>.aloadN D7_12 rfl rfl |>.iloadN D7_13 rfl
  replace k := (k.callV (w_73 hw) (V_Y22_22_String hw) pr1.exa (R_chr3_0 hw G pr1) D7_14 0 rfl).pv
  replace k := (k.callS (w_93 hw) (S2 hw) (R_own_isBlank hw G) D7_17 0 rfl).pv
  replace k := k |>.ifNo D7_20 ((if0 _ _).trans (feq pr2).1) |>.iinc D7_23 rfl (z := 1) (by decide) sto1 |>.goto D7_26 |>.iloadN D7_7 rfl |>.iloadN D7_8 rfl |>.icmpNo D7_9  |>.aloadN D7_12 rfl rfl |>.iloadN D7_13 rfl
  replace k := (k.callV (w_73 hw) (V_Y22_22_String hw) pr1.exa (R_chr3_1 hw G pr1) D7_14 0 rfl).pv
  replace k := (k.callS (w_93 hw) (S2 hw) (R_own_isBlank hw G) D7_17 0 rfl).pv
  replace k := k |>.ifYes D7_20 ((if0 _ _).trans (teq pr3).1) |>.iloadN D7_29 rfl |>.iloadN D7_30 rfl |>.icmpNo D7_31  |>.aloadN D7_34 rfl rfl |>.iloadN D7_35 rfl |>.iconst D7_36 1 |>.isub D7_37 (z := 2)
  replace k := (k.callV (w_73 hw) (V_Y22_22_String hw) pr1.exa (R_chr3_2 hw G pr1) D7_38 0 rfl).pv
  replace k := (k.callS (w_93 hw) (S2 hw) (R_own_isBlank hw G) D7_41 0 rfl).pv
  replace k := k |>.ifNo D7_44 ((if0 _ _).trans (feq pr4).1) |>.iinc D7_47 rfl (z := 2) (by decide) sto2 |>.goto D7_50 |>.iloadN D7_29 rfl |>.iloadN D7_30 rfl |>.icmpNo D7_31  |>.aloadN D7_34 rfl rfl |>.iloadN D7_35 rfl |>.iconst D7_36 1 |>.isub D7_37 (z := 1)
  replace k := (k.callV (w_73 hw) (V_Y22_22_String hw) pr1.exa (R_chr3_1 hw G pr1) D7_38 0 rfl).pv
  replace k := (k.callS (w_93 hw) (S2 hw) (R_own_isBlank hw G) D7_41 0 rfl).pv
  replace k := k |>.ifYes D7_44 ((if0 _ _).trans (teq pr3).1) |>.aloadN D7_53 rfl rfl |>.iloadN D7_54 rfl |>.iloadN D7_55 rfl
  obtain ⟨_, h1, K1, ⟨u1, w1, rfl, S1⟩, k⟩ := (k.callV (w_45 hw) (V_Y10_10_String hw) pr1.exa (R_sub3_1_2 hw G pr1 pr5 pr6) D7_56 0 rfl).kv
  exact k.retA D7_59 rfl ⟨_, rfl, K1, u1, w1, rfl, S1⟩
theorem R_38_9 {a1 a2 : Addr} {p3 p4 p5 p6 p7 p8 : Int32} (hw : HW a0 Z) (G : Gl Z w_CS w_SF) (pr1 : Ary Z h0 a1 ATB 6 (bv (lvi [p3, p4, p5, p6, p7, p8]))) (pr2 : 255 < (gcv p7 p8)) : Mt false [] l Y38 C38 (rmk 3 0 0 43) #[.ref a1, .int 2, .ref a2, .int 0, .int 1] Z a0 h0 n0 (Pv h0 (.int 0)) := by
  refine Mt.go PN38 (Or.inl rfl) ef_RIRII_7 fun k => ?_
  replace k := k |>.iloadN D38_0 rfl |>.iload D38_1 rfl |>.aloadN D38_3 rfl rfl
  replace k := (k.callS (w_144 hw) (S39 hw) (R_39_1 hw G pr1 (by decide) (by decide) (by decide) (p1 := 2) (p2 := 1) (p4 := 6)) D38_4 0 rfl).p0
  replace k := k |>.iconst D38_7 0 |>.istore D38_8 sto5 |>.iload D38_10 rfl |>.iload D38_12 rfl |>.icmpNo D38_14  |>.aloadN D38_17 rfl rfl |>.iloadN D38_18 rfl
  replace k := (k.callS (w_120 hw) (S20 hw) (R_20_1 hw G pr1 (by decide) (by decide) (by decide) (by decide) (p2 := 2) (p3 := 6)) D38_19 0 rfl).pv
  replace k := k |>.top (y := (gcv p7 p8)) rfl |>.istore D38_22 sto6 |>.iload D38_24 rfl |>.sipush D38_26 255 |>.icmpNo D38_29 (tlt pr2).2.2.2 |>.iload D38_32 rfl
  exact k.retI D38_34 rfl ⟨rfl, rfl⟩
theorem R_37_9 {a1 : Addr} {p2 p3 p4 p5 p6 p7 : Int32} (hw : HW a0 Z) (G : Gl Z w_CS w_SF) (pr1 : Ary Z h0 a1 ATB 6 (bv (lvi [p2, p3, p4, p5, p6, p7]))) (pr2 : 255 < (gcv p6 p7)) : Mt false [] l Y37 C37 (rmk 4 2 9 61) #[.ref a1, .int 2, .int 1] Z a0 h0 n0 (KpV h0 [] fun v h => ∃ u1 : Addr, v = (.ref u1) ∧ h0.size ≤ u1 ∧ Ary Z h u1 ATB 2 (bv (lvi [p6, p7]))) := by
  refine Mt.go PN37 (Or.inl rfl) ef_RII_6 fun k => ?_
  replace k := k |>.iloadN D37_0 rfl
  obtain ⟨b1, h1, g1, K1, O1, k⟩ := k.newP (aty := .byte) "[B" (w_23 hw) (by decide) D37_1 1 (by decide) (n := 1) (by decide) (by decide) (by decide) (bi_const (L := [0]) rfl)
  replace k := k |>.astoreN D37_3 rfl sto3 |>.aloadN D37_4 rfl rfl |>.iloadN D37_5 rfl |>.aloadN D37_6 rfl rfl |>.iconst D37_7 0 |>.iloadN D37_8 rfl
  have o3 := pr1.keep K1 nin0
  replace k := (k.callS (w_141 hw) (S38 hw) (R_38_9 hw G o3 pr2) D37_9 0 rfl).pv
  replace k := k |>.istore D37_12 sto4 |>.iload D37_14 rfl |>.iloadN D37_16 rfl |>.icmpNo D37_17  |>.aloadN D37_20 rfl rfl |>.iloadN D37_21 rfl |>.iconst D37_22 1 |>.ishl D37_23 (z := 4) |>.iloadN D37_24 rfl |>.iloadN D37_25 rfl |>.iadd D37_26 (z := 3)
  replace k := (k.callS (w_110 hw) (S18 hw) (R_18_1 hw G (by decide) (by decide) (p1 := 3)) D37_27 2 rfl).pv
  replace k := k |>.top (y := 6) (by decide)
  have z5 := k.sz
  obtain ⟨_, h5, K5, ⟨u1_5, rfl, f5_0, f5_1⟩, k⟩ := (k.callS (w_153 hw) (S31 hw) (R_31_4 hw G (by decide) (by decide) (by decide) (by decide) o3 (by decide) (by decide) (by decide) (by decide) (by decide) (by decide) (p2 := 4) (p3 := 6) (p4 := 6)) D37_30 0 rfl).kv
  have o6 : Ary Z h5 u1_5 ATB 2 (bv (lvi [p6, p7])) := Ary.norm f5_1 (bi_cpz rfl)
  replace k := k |>.astore D37_33 rfl sto5 |>.aload D37_35 rfl rfl |>.iload D37_37 rfl
  replace k := (k.callS (w_120 hw) (S20 hw) (R_20_1 hw G o6 (by decide) (by decide) (by decide) (by decide) (p2 := 0) (p3 := 2)) D37_39 0 rfl).pv
  replace k := k |>.top (y := (gcv p6 p7)) rfl |>.sipush D37_42 255 |>.icmpYes D37_45 (tlt pr2).2.2.1 |>.aload D37_61 rfl rfl
  have s_u1_5 := Nat.le_trans z5 f5_0
  exact k.retA D37_63 rfl ⟨_, rfl, (K1.trans K5 all0), u1_5, rfl, s_u1_5, o6⟩
theorem R_36_9 {a1 : Addr} {p2 p3 p4 p5 p6 p7 : Int32} (hw : HW a0 Z) (G : Gl Z w_CS w_SF) (pr1 : Ary Z h0 a1 ATB 6 (bv (lvi [p2, p3, p4, p5, p6, p7]))) (pr2 : 255 < (gcv p6 p7)) : Mt false [] l Y36 C36 (rmk 5 3 13 78) #[.ref a1, .int 2, .int 1] Z a0 h0 n0 (KpV h0 [] fun v h => ∃ u1 u2 : Addr, v = (.ref u1) ∧ h0.size ≤ u1 ∧ h0.size ≤ u2 ∧ u2 ≠ u1 ∧ Obj Z h u1 L_String [.ref u2, .int 1] ∧ Ary Z h u2 ATB 2 (bv (lvi [p6, p7]))) := by
  refine Mt.go PN36 (Or.inl rfl) ef_RII_5 fun k => ?_
  have nz := k.n0le
  replace k := k |>.iloadN D36_0 rfl |>.ifYes D36_1  |>.getS (fl_137 hw) G.S_CS D36_8 |>.ifNo D36_11 ((if0 _ _).trans (feq G.h_CS).1) |>.aloadN D36_14 rfl rfl |>.iloadN D36_15 rfl |>.iloadN D36_16 rfl
  have z1 := k.sz
  obtain ⟨_, h1, K1, ⟨u1_1, rfl, f1_0, f1_1⟩, k⟩ := (k.callS (w_138 hw) (S37 hw) (R_37_9 hw G pr1 pr2) D36_17 0 rfl).kv
  replace k := k |>.astoreN D36_20 rfl sto3 |>.aloadN D36_21 rfl rfl |>.iloadN D36_22 rfl
  replace k := (k.callS (w_171 hw) (S21 hw) (R_21_1 hw G f1_1 (by decide) (p2 := 1) (p3 := 2)) D36_23 0 rfl).pv
  replace k := k |>.top (y := 1) (by decide) |>.istore D36_26 sto4
  have z3 := k.sz
  obtain ⟨b3, h3, g3, K3, O3, k⟩ := k.new (L := L_String) (w_172 hw) (nw_String hw) D36_28 (by decide) dvL_String
  replace k := k |>.dup D36_31 rfl |>.aloadN D36_32 rfl rfl |>.iload D36_33 rfl
  have s_b3 := Nat.le_trans z3 g3
  have n_b3 := Nat.le_trans nz s_b3
  obtain ⟨h4, K4, f4_0, k⟩ := (k.callI (w_173 hw) (I35 hw) (R_35_2 hw G O3 n_b3) D36_35 1 rfl).k0 (allS n_b3 all0)
  have s_u1_1 := Nat.le_trans z1 f1_0
  have o5 := (f1_1.keep K3 nin0).keep K4 (ninS (nlt f1_1.lt g3) nin0)
  exact k.retA D36_38 rfl ⟨_, rfl, ((K1.trans K3 all0).trans K4 (allS (Or.inr s_b3) all0)), b3, u1_1, rfl, s_b3, s_u1_1, (nlt f1_1.lt g3), f4_0, o5⟩
theorem R_sub3_2_3 {a1 a2 : Addr} {c0 c1 c2 : Int32} (hw : HW a0 Z) (G : Gl Z w_CS w_SF) (S : Str Z h0 a1 a2 [c0, c1, c2]) (x0 : ¬ (255 < c0)) (x1 : ¬ (255 < c1)) : Mt false [] l Y10 C10 (rmk 6 3 13 94) #[.ref a1, .int 2, .int 3] Z a0 h0 n0 (KpV h0 [] fun v h => ∃ u w : Addr, v = .ref u ∧ Str Z h u w [c2]) := by
  refine Mt.go PN10 (Or.inl rfl) ef_RII_5 fun k => ?_
  obtain ⟨⟨⟨g0a, g0b⟩, ⟨g1a, g1b⟩, ⟨g2a, g2b⟩, -⟩, S⟩ := S
  rcases S with ⟨T, O, A, hl⟩ | ⟨O, A, u0 | ⟨l0, u1 | ⟨l1, u2 | ⟨-, hx⟩⟩⟩⟩
  · obtain ⟨l0, l1, l2, -⟩ := hl
    have A : Ary Z h0 a2 (T, .byte) 3 (bv (lvi [(c0.toInt8.toInt32), (c1.toInt8.toInt32), (c2.toInt8.toInt32)])) := A
    replace k := k |>.aloadN D10_0 rfl rfl
    replace k := (k.callV (w_50 hw) (V_Y8_8_String hw) O.exa (R_8_6 hw G O A) D10_1 0 rfl).pv
    replace k := k |>.istoreN D10_4 sto3 |>.iloadN D10_5 rfl |>.iloadN D10_6 rfl |>.iloadN D10_7 rfl
    replace k := (k.callS (w_51 hw) (S11 hw) (R_11_1 hw G (by decide) (by decide) (by decide) (p1 := 2) (p2 := 3) (p3 := 3)) D10_8 0 rfl).p0
    replace k := k |>.iloadN D10_11 rfl |>.ifYes D10_12  |>.iloadN D10_22 rfl |>.iloadN D10_23 rfl |>.isub D10_24 (z := 1) |>.istore D10_25 sto4 |>.aloadN D10_27 rfl rfl
    replace k := (k.callV (w_78 hw) (V_Y23_23_String hw) O.exa (R_23_1 hw G O) D10_28 0 rfl).pv
    replace k := k |>.ifNo D10_31  |>.aloadN D10_34 rfl rfl |>.getF (fl_28 hw) O 0 D10_35 rfl rfl |>.iloadN D10_38 rfl |>.iload D10_39 rfl
    obtain ⟨_, h4, K4, ⟨u1_4, u2_4, rfl, f4_0, f4_1, f4_2, f4_3, f4_4⟩, k⟩ := (k.callS (w_96 hw) (S30 hw) (R_30_4 hw G (by decide) (by decide) (by decide) (by decide) (by decide) A (by decide) (by decide) (by decide) (by decide) (by decide) (by decide) (p2 := 2) (p3 := 1) (p4 := 3)) D10_41 0 rfl).kv
    have o5 : Ary Z h4 u2_4 ATB 1 (bv (lvi [(c2.toInt8.toInt32)])) := Ary.norm f4_4 (bi_cpz rfl)
    replace k := k |>.goto D10_44
    exact k.retA D10_57 rfl ⟨_, rfl, K4, u1_4, u2_4, rfl, ⟨⟨⟨g2a, g2b⟩, trivial⟩, Or.inl ⟨_, f4_3, o5, ⟨l2, trivial⟩⟩⟩⟩
  · exact absurd u0 x0
  · exact absurd u1 x1
  · have A : Ary Z h0 a2 ATB 6 (bv (lvi [(lo8 c0), (hi8 c0), (lo8 c1), (hi8 c1), (lo8 c2), (hi8 c2)])) := A
    replace k := k |>.aloadN D10_0 rfl rfl
    replace k := (k.callV (w_50 hw) (V_Y8_8_String hw) O.exa (R_8_7 hw G O A) D10_1 0 rfl).pv
    replace k := k |>.istoreN D10_4 sto3 |>.iloadN D10_5 rfl |>.iloadN D10_6 rfl |>.iloadN D10_7 rfl
    replace k := (k.callS (w_51 hw) (S11 hw) (R_11_1 hw G (by decide) (by decide) (by decide) (p1 := 2) (p2 := 3) (p3 := 3)) D10_8 0 rfl).p0
    replace k := k |>.iloadN D10_11 rfl |>.ifYes D10_12  |>.iloadN D10_22 rfl |>.iloadN D10_23 rfl |>.isub D10_24 (z := 1) |>.istore D10_25 sto4 |>.aloadN D10_27 rfl rfl
    replace k := (k.callV (w_78 hw) (V_Y23_23_String hw) O.exa (R_23_2 hw G O) D10_28 0 rfl).pv
    replace k := k |>.ifYes D10_31  |>.aloadN D10_47 rfl rfl |>.getF (fl_28 hw) O 0 D10_48 rfl rfl |>.iloadN D10_51 rfl |>.iload D10_52 rfl
    obtain ⟨_, h9, K9, ⟨u1_9, u2_9, rfl, f9_0, f9_1, f9_2, f9_3, f9_4⟩, k⟩ := (k.callS (w_134 hw) (S36 hw) (R_36_9 hw G A (own_d34 rfl g2a g2b u2)) D10_54 0 rfl).kv
    exact k.retA D10_57 rfl ⟨_, rfl, K9, u1_9, u2_9, rfl, ⟨⟨⟨g2a, g2b⟩, trivial⟩, Or.inr ⟨f9_3, f9_4, Or.inl u2⟩⟩⟩
  · exact hx.elim
theorem R_7_25 {a1 a2 : Addr} {p3 p4 p5 : Int32} (hw : HW a0 Z) (G : Gl Z w_CS w_SF) (pr1 : Str Z h0 a1 a2 [p3, p4, p5]) (pr2 : ¬ ((bl p3) = 0)) (pr3 : ¬ ((bl p4) = 0)) (pr4 : (bl p5) = 0) (pr5 : ¬ (255 < p3)) (pr6 : ¬ (255 < p4)) : Mt false [] l Y7 C7 (rmk 7 3 13 110) #[.ref a1] Z a0 h0 n0 (KpV h0 [] fun v h => ∃ u1 u2 : Addr, v = (.ref u1) ∧ Str Z h u1 u2 [p5]) := by
  refine Mt.go PN7 (Or.inl rfl) ef_R_3 fun k => ?_
  replace k := k |>.iconst D7_0 0 |>.istoreN D7_1 sto1 |>.aloadN D7_2 rfl rfl
  replace k := (k.callV (w_34 hw) (V_Y8_8_String hw) pr1.exa (R_len3 hw G pr1) D7_3 0 rfl).pv
  replace k := k |>.istoreN D7_6 sto2 |>.iloadN D7_7 rfl |>.iloadN D7_8 rfl |>.icmpNo D7_9  |>.aloadN D7_12 rfl rfl |>.iloadN D7_13 rfl
  replace k := (k.callV (w_73 hw) (V_Y22_22_String hw) pr1.exa (R_chr3_0 hw G pr1) D7_14 0 rfl).pv
  replace k := (k.callS (w_93 hw) (S2 hw) (R_own_isBlank hw G) D7_17 0 rfl).pv
  replace k := k |>.ifNo D7_20 ((if0 _ _).trans (feq pr2).1) |>.iinc D7_23 rfl (z := 1) (by decide) sto1 |>.goto D7_26 |>.iloadN D7_7 rfl |>.iloadN D7_8 rfl |>.icmpNo D7_9  |>.aloadN D7_12 rfl rfl |>.iloadN D7_13 rfl
  replace k := (k.callV (w_73 hw) (V_Y22_22_String hw) pr1.exa (R_chr3_1 hw G pr1) D7_14 0 rfl).pv
  replace k := (k.callS (w_93 hw) (S2 hw) (R_own_isBlank hw G) D7_17 0 rfl).pv
  replace k := k |>.ifNo D7_20 ((if0 _ _).trans (feq pr3).1) |>.iinc D7_23 rfl (z := 2) (by decide) sto1 |>.goto D7_26 |>.iloadN D7_7 rfl |>.iloadN D7_8 rfl |>.icmpNo D7_9  |>.aloadN D7_12 rfl rfl |>.iloadN D7_13 rfl
  replace k := (k.callV (w_73 hw) (V_Y22_22_String hw) pr1.exa (R_chr3_2 hw G pr1) D7_14 0 rfl).pv
  replace k := (k.callS (w_93 hw) (S2 hw) (R_own_isBlank hw G) D7_17 0 rfl).pv
  replace k := k |>.ifYes D7_20 ((if0 _ _).trans (teq pr4).1) |>.iloadN D7_29 rfl |>.iloadN D7_30 rfl |>.icmpNo D7_31  |>.aloadN D7_34 rfl rfl |>.iloadN D7_35 rfl |>.iconst D7_36 1 |>.isub D7_37 (z := 2)
  replace k := (k.callV (w_73 hw) (V_Y22_22_String hw) pr1.exa (R_chr3_2 hw G pr1) D7_38 0 rfl).pv
  replace k := (k.callS (w_93 hw) (S2 hw) (R_own_isBlank hw G) D7_41 0 rfl).pv
  replace k := k |>.ifYes D7_44 ((if0 _ _).trans (teq pr4).1) |>.aloadN D7_53 rfl rfl |>.iloadN D7_54 rfl |>.iloadN D7_55 rfl
  obtain ⟨_, h1, K1, ⟨u1, w1, rfl, S1⟩, k⟩ := (k.callV (w_45 hw) (V_Y10_10_String hw) pr1.exa (R_sub3_2_3 hw G pr1 pr5 pr6) D7_56 0 rfl).kv
  exact k.retA D7_59 rfl ⟨_, rfl, K1, u1, w1, rfl, S1⟩
theorem D3_180 : Dc code 180 (.iconst 2) 1 181 := ⟨at_180, rfl⟩
theorem D3_181 : Dj code 181 (.goto 14) 14 184 195 := ⟨at_181, rfl, by decide, by decide⟩
theorem R_13_25 {a1 a2 a3 : Addr} {p4 p5 p6 p7 p8 : Int32} (hw : HW a0 Z) (G : Gl Z w_CS w_SF) (pr1 : Str Z h0 a1 a3 [p4]) (pr2 : Ary Z h0 a2 ATC 4 (bv (lvi [p5, p6, p7, p8]))) (pr3 : p4 = p7) : Mt false [] l Y13 C13 (rmk 5 0 0 66) #[.ref a1, .int 0, .ref a2, .int 2] Z a0 h0 n0 (Pv h0 (.int 1)) := by
  refine Mt.go PN13 (Or.inl rfl) ef_RIRI_4 fun k => ?_
  replace k := k |>.iloadN D13_0 rfl |>.aloadN D13_1 rfl rfl
  replace k := (k.callV (w_59 hw) (V_Y8_8_String hw) pr1.exa (R_len1 hw G pr1) D13_2 1 rfl).pv
  replace k := k |>.icmpNo D13_5  |>.aloadN D13_8 rfl rfl |>.iloadN D13_9 rfl
  replace k := (k.callV (w_133 hw) (V_Y22_22_String hw) pr1.exa (R_chr1_0 hw G pr1) D13_10 0 rfl).pv
  replace k := k |>.aloadN D13_13 rfl rfl |>.iloadN D13_14 rfl |>.iloadN D13_15 rfl |>.iadd D13_16 (z := 2) |>.cald pr2 D13_17 (i := 2) (by decide) big2 |>.icmpNo D13_18 (teq pr3).2 |>.iconst D13_21 1 |>.goto D13_22
  exact k.retN (t := .boolean) D13_26 rfl (by simp) (z' := 1) (by decide) ⟨rfl, rfl⟩
theorem R_13_26 {a1 a2 a3 : Addr} {p4 : Int32} (hw : HW a0 Z) (G : Gl Z w_CS w_SF) (pr1 : Str Z h0 a1 a3 [p4]) : Mt false [] l Y13 C13 (rmk 2 0 0 26) #[.ref a1, .int 1, .ref a2, .int 2] Z a0 h0 n0 (Pv h0 (.int 1)) := by
  refine Mt.go PN13 (Or.inl rfl) ef_RIRI_4 fun k => ?_
  replace k := k |>.iloadN D13_0 rfl |>.aloadN D13_1 rfl rfl
  replace k := (k.callV (w_59 hw) (V_Y8_8_String hw) pr1.exa (R_len1 hw G pr1) D13_2 1 rfl).pv
  replace k := k |>.icmpYes D13_5  |>.iconst D13_21 1 |>.goto D13_22
  exact k.retN (t := .boolean) D13_26 rfl (by simp) (z' := 1) (by decide) ⟨rfl, rfl⟩
theorem R_13_27 {a1 a2 a3 : Addr} {p4 : Int32} (hw : HW a0 Z) (G : Gl Z w_CS w_SF) (pr1 : Str Z h0 a1 a3 [p4]) : Mt false [] l Y13 C13 (rmk 2 0 0 26) #[.ref a1, .int 2, .ref a2, .int 2] Z a0 h0 n0 (Pv h0 (.int 1)) := by
  refine Mt.go PN13 (Or.inl rfl) ef_RIRI_4 fun k => ?_
  replace k := k |>.iloadN D13_0 rfl |>.aloadN D13_1 rfl rfl
  replace k := (k.callV (w_59 hw) (V_Y8_8_String hw) pr1.exa (R_len1 hw G pr1) D13_2 1 rfl).pv
  replace k := k |>.icmpYes D13_5  |>.iconst D13_21 1 |>.goto D13_22
  exact k.retN (t := .boolean) D13_26 rfl (by simp) (z' := 1) (by decide) ⟨rfl, rfl⟩
theorem R_13_28 {a1 a2 a3 : Addr} {p4 : Int32} (hw : HW a0 Z) (G : Gl Z w_CS w_SF) (pr1 : Str Z h0 a1 a3 [p4]) : Mt false [] l Y13 C13 (rmk 2 0 0 26) #[.ref a1, .int 3, .ref a2, .int 2] Z a0 h0 n0 (Pv h0 (.int 1)) := by
  refine Mt.go PN13 (Or.inl rfl) ef_RIRI_4 fun k => ?_
  replace k := k |>.iloadN D13_0 rfl |>.aloadN D13_1 rfl rfl
  replace k := (k.callV (w_59 hw) (V_Y8_8_String hw) pr1.exa (R_len1 hw G pr1) D13_2 1 rfl).pv
  replace k := k |>.icmpYes D13_5  |>.iconst D13_21 1 |>.goto D13_22
  exact k.retN (t := .boolean) D13_26 rfl (by simp) (z' := 1) (by decide) ⟨rfl, rfl⟩
theorem R_sub3_3_3 {a1 a2 : Addr} {c0 c1 c2 : Int32} (hw : HW a0 Z) (G : Gl Z w_CS w_SF) (S : Str Z h0 a1 a2 [c0, c1, c2]) (x0 : ¬ (255 < c0)) (x1 : ¬ (255 < c1)) (x2 : ¬ (255 < c2)) : Mt true consts_1 l Y10 C10 (rmk 2 2 4 29) #[.ref a1, .int 3, .int 3] Z a0 h0 n0 (KpV h0 [] fun v h => ∃ u w : Addr, v = .ref u ∧ Str Z h u w []) := by
  refine Mt.go PN10 (Or.inl rfl) ef_RII_5 fun k => ?_
  obtain ⟨⟨⟨g0a, g0b⟩, ⟨g1a, g1b⟩, ⟨g2a, g2b⟩, -⟩, S⟩ := S
  rcases S with ⟨T, O, A, hl⟩ | ⟨O, A, u0 | ⟨l0, u1 | ⟨l1, u2 | ⟨-, hx⟩⟩⟩⟩
  · obtain ⟨l0, l1, l2, -⟩ := hl
    have A : Ary Z h0 a2 (T, .byte) 3 (bv (lvi [(c0.toInt8.toInt32), (c1.toInt8.toInt32), (c2.toInt8.toInt32)])) := A
    replace k := k |>.aloadN D10_0 rfl rfl
    replace k := (k.callV (w_50 hw) (V_Y8_8_String hw) O.exa (R_8_6 hw G O A) D10_1 0 rfl).pv
    replace k := k |>.istoreN D10_4 sto3 |>.iloadN D10_5 rfl |>.iloadN D10_6 rfl |>.iloadN D10_7 rfl
    replace k := (k.callS (w_51 hw) (S11 hw) (R_11_1 hw G (by decide) (by decide) (by decide) (p1 := 3) (p2 := 3) (p3 := 3)) D10_8 0 rfl).p0
    replace k := k |>.iloadN D10_11 rfl |>.ifYes D10_12  |>.iloadN D10_22 rfl |>.iloadN D10_23 rfl |>.isub D10_24 (z := 0) |>.istore D10_25 sto4 |>.aloadN D10_27 rfl rfl
    replace k := (k.callV (w_78 hw) (V_Y23_23_String hw) O.exa (R_23_1 hw G O) D10_28 0 rfl).pv
    replace k := k |>.ifNo D10_31  |>.aloadN D10_34 rfl rfl |>.getF (fl_28 hw) O 0 D10_35 rfl rfl |>.iloadN D10_38 rfl |>.iload D10_39 rfl
    obtain ⟨_, vm4, h4, K4, R4, ⟨u1_4, u2_4, rfl, f4_0, f4_1⟩, k⟩ := (k.callSW (w_96 hw) (S30 hw) (R_30_2 hw G (by decide) (p2 := 3) (p3 := 0)) D10_41 0 rfl).kv
    have o5 : Ary Z h4 u2_4 ("", .byte) 0 (bv (lvi [])) := f4_1
    replace k := k |>.goto D10_44
    exact k.retA D10_57 rfl ⟨_, rfl, K4, u1_4, u2_4, rfl, ⟨trivial, Or.inl ⟨_, f4_0, o5, trivial⟩⟩⟩
  · exact absurd u0 x0
  · exact absurd u1 x1
  · exact absurd u2 x2
  · exact hx.elim
theorem R_7_27 {a1 a2 : Addr} {p3 p4 p5 : Int32} (hw : HW a0 Z) (G : Gl Z w_CS w_SF) (pr1 : Str Z h0 a1 a2 [p3, p4, p5]) (pr2 : ¬ ((bl p3) = 0)) (pr3 : ¬ ((bl p4) = 0)) (pr4 : ¬ ((bl p5) = 0)) (pr5 : ¬ (255 < p3)) (pr6 : ¬ (255 < p4)) (pr7 : ¬ (255 < p5)) : Mt true consts_1 l Y7 C7 (rmk 5 2 4 66) #[.ref a1] Z a0 h0 n0 (KpV h0 [] fun v h => ∃ u1 u2 : Addr, v = (.ref u1) ∧ Str Z h u1 u2 []) := by
  refine Mt.go PN7 (Or.inl rfl) ef_R_3 fun k => ?_
  replace k := k |>.iconst D7_0 0 |>.istoreN D7_1 sto1 |>.aloadN D7_2 rfl rfl
  replace k := (k.callV (w_34 hw) (V_Y8_8_String hw) pr1.exa (R_len3 hw G pr1) D7_3 0 rfl).pv
  replace k := k |>.istoreN D7_6 sto2 |>.iloadN D7_7 rfl |>.iloadN D7_8 rfl |>.icmpNo D7_9  |>.aloadN D7_12 rfl rfl |>.iloadN D7_13 rfl
  replace k := (k.callV (w_73 hw) (V_Y22_22_String hw) pr1.exa (R_chr3_0 hw G pr1) D7_14 0 rfl).pv
  replace k := (k.callS (w_93 hw) (S2 hw) (R_own_isBlank hw G) D7_17 0 rfl).pv
  replace k := k |>.ifNo D7_20 ((if0 _ _).trans (feq pr2).1) |>.iinc D7_23 rfl (z := 1) (by decide) sto1 |>.goto D7_26 |>.iloadN D7_7 rfl |>.iloadN D7_8 rfl |>.icmpNo D7_9  |>.aloadN D7_12 rfl rfl |>.iloadN D7_13 rfl
  replace k := (k.callV (w_73 hw) (V_Y22_22_String hw) pr1.exa (R_chr3_1 hw G pr1) D7_14 0 rfl).pv
  replace k := (k.callS (w_93 hw) (S2 hw) (R_own_isBlank hw G) D7_17 0 rfl).pv
  replace k := k |>.ifNo D7_20 ((if0 _ _).trans (feq pr3).1) |>.iinc D7_23 rfl (z := 2) (by decide) sto1 |>.goto D7_26 |>.iloadN D7_7 rfl |>.iloadN D7_8 rfl |>.icmpNo D7_9  |>.aloadN D7_12 rfl rfl |>.iloadN D7_13 rfl
  replace k := (k.callV (w_73 hw) (V_Y22_22_String hw) pr1.exa (R_chr3_2 hw G pr1) D7_14 0 rfl).pv
  replace k := (k.callS (w_93 hw) (S2 hw) (R_own_isBlank hw G) D7_17 0 rfl).pv
  replace k := k |>.ifNo D7_20 ((if0 _ _).trans (feq pr4).1) |>.iinc D7_23 rfl (z := 3) (by decide) sto1 |>.goto D7_26 |>.iloadN D7_7 rfl |>.iloadN D7_8 rfl |>.icmpYes D7_9  |>.iloadN D7_29 rfl |>.iloadN D7_30 rfl |>.icmpYes D7_31  |>.aloadN D7_53 rfl rfl |>.iloadN D7_54 rfl |>.iloadN D7_55 rfl
  obtain ⟨_, vm1, h1, K1, R1, ⟨u1, w1, rfl, S1⟩, k⟩ := (k.callVW (w_45 hw) (V_Y10_10_String hw) pr1.exa (R_sub3_3_3 hw G pr1 pr5 pr6 pr7) D7_56 0 rfl).kv
  exact k.retA D7_59 rfl ⟨_, rfl, K1, u1, w1, rfl, S1⟩
theorem own_d51 {p1 v0 v1 v2 : Int32} (e0 : v0 = (p1 &&& 2147483647)) (e1 : v1 = (v0 % 5)) (e2 : v2 = (v1 - v1)) (q0 : ¬ (v1 = 0)) (q1 : ¬ (v1 = 1)) (q2 : ¬ (v1 = 2)) (q3 : v1 = 3) : 0 = v2 := by
  have := rng32 p1
  have : (2147483647 : Int32).toInt = 2147483647 := by decide
  have := e_mask e0 31 2147483648
  have : (5 : Int32).toInt = 5 := by decide
  have := e_iremN e1 5 (by omega)
  have : (0 : Int32).toInt = 0 := by decide
  have := i_neq q0
  have : (1 : Int32).toInt = 1 := by decide
  have := i_neq q1
  have : (2 : Int32).toInt = 2 := by decide
  have := i_neq q2
  have : (3 : Int32).toInt = 3 := by decide
  have := i_eq q3
  have := e_isubN e2 (by omega)
  exact o_eq (by omega)
theorem D4_71 : Dc J4 71 (.iconst 4) 1 72 := by decide +kernel
theorem D4_72 : Dc J4 72 (.newarray .char) 2 74 := by decide +kernel
theorem D4_74 : Dc J4 74 .dup 1 75 := by decide +kernel
theorem D4_75 : Dc J4 75 (.iconst 0) 1 76 := by decide +kernel
theorem D4_76 : Dc J4 76 (.aload_n 0) 1 77 := by decide +kernel
theorem D4_77 : Dc J4 77 (.iconst 0) 1 78 := by decide +kernel
theorem D4_78 : Dc J4 78 .caload 1 79 := by decide +kernel
theorem D4_79 : Dc J4 79 .castore 1 80 := by decide +kernel
theorem D4_80 : Dc J4 80 .dup 1 81 := by decide +kernel
theorem D4_81 : Dc J4 81 (.iconst 1) 1 82 := by decide +kernel
theorem D4_82 : Dc J4 82 (.aload_n 0) 1 83 := by decide +kernel
theorem D4_83 : Dc J4 83 (.iconst 1) 1 84 := by decide +kernel
theorem D4_84 : Dc J4 84 .caload 1 85 := by decide +kernel
theorem D4_85 : Dc J4 85 .castore 1 86 := by decide +kernel
theorem D4_86 : Dc J4 86 .dup 1 87 := by decide +kernel
theorem D4_87 : Dc J4 87 (.iconst 2) 1 88 := by decide +kernel
theorem D4_88 : Dc J4 88 (.aload_n 0) 1 89 := by decide +kernel
theorem D4_89 : Dc J4 89 (.iconst 2) 1 90 := by decide +kernel
theorem D4_90 : Dc J4 90 .caload 1 91 := by decide +kernel
theorem D4_91 : Dc J4 91 .castore 1 92 := by decide +kernel
theorem D4_92 : Dc J4 92 .dup 1 93 := by decide +kernel
theorem D4_93 : Dc J4 93 (.iconst 3) 1 94 := by decide +kernel
theorem D4_94 : Dc J4 94 (.aload_n 0) 1 95 := by decide +kernel
theorem D4_95 : Dc J4 95 (.iconst 3) 1 96 := by decide +kernel
theorem D4_96 : Dc J4 96 .caload 1 97 := by decide +kernel
theorem big3 {x0 x1 x2 x : Int32} {t : List Int32} : bv (lvi (x0 :: x1 :: x2 :: x :: t)) 3 = .int x := rfl
theorem D4_97 : Dc J4 97 .castore 1 98 := by decide +kernel
theorem D4_98 : Dc J4 98 .areturn 1 99 := by decide +kernel
theorem R_4_9 {a1 : Addr} {p2 p3 p4 p5 p6 : Int32} (hw : HW a0 Z) (G : Gl Z w_CS w_SF) (pr1 : ¬ (p2 = 0)) (pr2 : ¬ (p2 = 1)) (pr3 : ¬ (p2 = 2)) (pr4 : ¬ (p2 = 3)) (pr5 : Ary Z h0 a1 ATC 4 (bv (lvi [p3, p4, p5, p6]))) : Mt false [] l Y4 C4 (rmk 0 1 4 0) #[.ref a1, .int p2] Z a0 h0 n0 (KpV h0 [] fun v h => ∃ u1 : Addr, v = (.ref u1) ∧ h0.size ≤ u1 ∧ Ary Z h u1 ATC 4 (bv (lvi [(nar .char p3), (nar .char p4), (nar .char p5), (nar .char p6)]))) := by
  refine Mt.go PN4 (Or.inl rfl) ef_RI_2 fun k => ?_
  have nz := k.n0le
  replace k := k |>.iloadN D4_0 rfl |>.ifYes D4_1 ((if0 _ _).trans (feq pr1).2) |>.iloadN D4_8 rfl |>.iconst D4_9 1 |>.icmpYes D4_10 (feq pr2).2 |>.iloadN D4_23 rfl |>.iconst D4_24 2 |>.icmpYes D4_25 (feq pr3).2 |>.iloadN D4_44 rfl |>.iconst D4_45 3 |>.icmpYes D4_46 (feq pr4).2 |>.iconst D4_71 4
  have z1 := k.sz
  obtain ⟨b1, h1, g1, K1, O1, k⟩ := k.newP (aty := .char) "[C" (w_1 hw) (by decide) D4_72 4 (by decide) (n := 4) (by decide) (by decide) (by decide) (bi_const (L := [0, 0, 0, 0]) rfl)
  replace k := k |>.dup D4_74 rfl |>.iconst D4_75 0 |>.aloadN D4_76 rfl rfl |>.iconst D4_77 0
  have o2 := pr5.keep K1 nin0
  replace k := k |>.cald o2 D4_78 (i := 0) (by decide) big0
  have s_b1 := Nat.le_trans z1 g1
  have n_b1 := Nat.le_trans nz s_b1
  obtain ⟨h3, K3, O3, k⟩ := k.stC O1 n_b1 (Or.inl rfl) D4_79 (i := 0) (by decide) (v := (.int (nar .char p3))) rfl (fits_nar_char _) bis0
  replace k := k |>.dup D4_80 rfl |>.iconst D4_81 1 |>.aloadN D4_82 rfl rfl |>.iconst D4_83 1
  have o4 := o2.keep K3 (ninS (nlt pr5.lt s_b1) nin0)
  replace k := k |>.cald o4 D4_84 (i := 1) (by decide) big1
  obtain ⟨h5, K5, O5, k⟩ := k.stC O3 n_b1 (Or.inl rfl) D4_85 (i := 1) (by decide) (v := (.int (nar .char p4))) rfl (fits_nar_char _) bis1
  replace k := k |>.dup D4_86 rfl |>.iconst D4_87 2 |>.aloadN D4_88 rfl rfl |>.iconst D4_89 2
  have o6 := o4.keep K5 (ninS (nlt pr5.lt s_b1) nin0)
  replace k := k |>.cald o6 D4_90 (i := 2) (by decide) big2
  obtain ⟨h7, K7, O7, k⟩ := k.stC O5 n_b1 (Or.inl rfl) D4_91 (i := 2) (by decide) (v := (.int (nar .char p5))) rfl (fits_nar_char _) bis2
  replace k := k |>.dup D4_92 rfl |>.iconst D4_93 3 |>.aloadN D4_94 rfl rfl |>.iconst D4_95 3
  have o8 := o6.keep K7 (ninS (nlt pr5.lt s_b1) nin0)
  replace k := k |>.cald o8 D4_96 (i := 3) (by decide) big3
  obtain ⟨h9, K9, O9, k⟩ := k.stC O7 n_b1 (Or.inl rfl) D4_97 (i := 3) (by decide) (v := (.int (nar .char p6))) rfl (fits_nar_char _) bis3
  exact k.retA D4_98 rfl ⟨_, rfl, ((((K1.trans K3 (allS (Or.inr s_b1) all0)).trans K5 (allS (Or.inr s_b1) all0)).trans K7 (allS (Or.inr s_b1) all0)).trans K9 (allS (Or.inr s_b1) all0)), b1, rfl, s_b1, O9⟩
theorem R_15_17 {a1 a2 : Addr} {p3 p4 p5 p6 : Int32} (hw : HW a0 Z) (G : Gl Z w_CS w_SF) (pr1 : Ary Z h0 a1 ATC 4 (bv (lvi [p3, p4, p5, p6]))) (pr2 : 255 < p3) : Mt false [] l Y15 C15 (rmk 0 0 0 0) #[.ref a1, .int 0, .ref a2, .int 0, .int 4] Z a0 h0 n0 (Pv h0 (.int 0)) := by
  refine Mt.go PN15 (Or.inl rfl) ef_RIRII_7 fun k => ?_
  replace k := k |>.iconst D15_0 0 |>.istore D15_1 sto5 |>.iload D15_3 rfl |>.iload D15_5 rfl |>.icmpNo D15_7  |>.aloadN D15_10 rfl rfl |>.iloadN D15_11 rfl |>.cald pr1 D15_12 (i := 0) (by decide) big0 |>.istore D15_13 sto6 |>.iload D15_15 rfl |>.sipush D15_17 255 |>.icmpNo D15_20 (tlt pr2).2.2.2
  replace k := k |>.iload D15_23 rfl
  exact k.retI D15_25 rfl ⟨rfl, rfl⟩
theorem R_17_4 (hw : HW a0 Z) (G : Gl Z w_CS w_SF) : Mt false [] l Y17 C17 (rmk 1 1 8 12) #[.int 4] Z a0 h0 n0 (KpV h0 [] fun v h => ∃ u1 : Addr, v = (.ref u1) ∧ h0.size ≤ u1 ∧ Ary Z h u1 ATB 8 (bv (lvi [0, 0, 0, 0, 0, 0, 0, 0]))) := by
  refine Mt.go PN17 (Or.inl rfl) ef_I_1 fun k => ?_
  replace k := k |>.iloadN D17_0 rfl
  replace k := (k.callS (w_110 hw) (S18 hw) (R_18_1 hw G (by decide) (by decide) (p1 := 4)) D17_1 0 rfl).pv
  replace k := k |>.top (y := 8) (by decide)
  have z2 := k.sz
  obtain ⟨b2, h2, g2, K2, O2, k⟩ := k.newP (aty := .byte) "[B" (w_23 hw) (by decide) D17_4 8 (by decide) (n := 8) (by decide) (by decide) (by decide) (bi_const (L := [0, 0, 0, 0, 0, 0, 0, 0]) rfl)
  have s_b2 := Nat.le_trans z2 g2
  exact k.retA D17_6 rfl ⟨_, rfl, K2, b2, rfl, s_b2, O2⟩
theorem R_19_7 {a1 : Addr} {p2 : Int32} (hw : HW a0 Z) (G : Gl Z w_CS w_SF) (pr1 : Ary Z h0 a1 ATB 8 (bv (lvi [0, 0, 0, 0, 0, 0, 0, 0]))) (pr2 : n0 ≤ a1) : Mt false [] l Y19 C19 (rmk 0 0 0 0) #[.ref a1, .int 0, .int p2] Z a0 h0 n0 (K0 h0 [a1] fun h => Ary Z h a1 ATB 8 (bv (lvi [(lo8 p2), (hi8 p2), 0, 0, 0, 0, 0, 0]))) := by
  refine Mt.go PN19 (Or.inl rfl) ef_RII_3 fun k => ?_
  replace k := k |>.getS (fl_117 hw) G.S_AD D19_0 |>.ifYes D19_3  |>.iloadN D19_28 rfl |>.iconst D19_29 1 |>.ishl D19_30 (z := 0) |>.istoreN D19_31 sto1 |>.aloadN D19_32 rfl rfl |>.iloadN D19_33 rfl |>.iinc D19_34 rfl (z := 1) (by decide) sto1 |>.iloadN D19_37 rfl |>.getS (fl_118 hw) G.S_HI D19_38 |>.ishr D19_41 rfl
  replace k := k |>.i2b D19_42 rfl
  obtain ⟨h1, K1, O1, k⟩ := k.stB pr1 pr2 (Or.inl rfl) D19_43 (i := 0) (by decide) (v := (.int (lo8 p2))) (congrArg Value.int (own_nnBi2b _)) (own_fitBi2b _) bis0
  replace k := k |>.aloadN D19_44 rfl rfl |>.iloadN D19_45 rfl |>.iloadN D19_46 rfl |>.getS (fl_119 hw) G.S_LO D19_47 |>.ishr D19_50 rfl |>.i2b D19_51 rfl
  obtain ⟨h2, K2, O2, k⟩ := k.stB O1 pr2 (Or.inl rfl) D19_52 (i := 1) (by decide) (v := (.int (hi8 p2))) (congrArg Value.int (own_nnBi2b _)) (own_fitBi2b _) bis1
  exact k.ret0 D19_53 rfl ⟨rfl, (K1.trans K2 (allS (Or.inl (List.mem_of_getElem? (i := 0) rfl)) all0)), O2⟩
theorem R_19_8 {a1 : Addr} {p2 p3 p4 : Int32} (hw : HW a0 Z) (G : Gl Z w_CS w_SF) (pr1 : Ary Z h0 a1 ATB 8 (bv (lvi [p3, p4, 0, 0, 0, 0, 0, 0]))) (pr2 : n0 ≤ a1) : Mt false [] l Y19 C19 (rmk 0 0 0 0) #[.ref a1, .int 1, .int p2] Z a0 h0 n0 (K0 h0 [a1] fun h => Ary Z h a1 ATB 8 (bv (lvi [p3, p4, (lo8 p2), (hi8 p2), 0, 0, 0, 0]))) := by
  refine Mt.go PN19 (Or.inl rfl) ef_RII_3 fun k => ?_
  replace k := k |>.getS (fl_117 hw) G.S_AD D19_0 |>.ifYes D19_3  |>.iloadN D19_28 rfl |>.iconst D19_29 1 |>.ishl D19_30 (z := 2) |>.istoreN D19_31 sto1 |>.aloadN D19_32 rfl rfl |>.iloadN D19_33 rfl |>.iinc D19_34 rfl (z := 3) (by decide) sto1 |>.iloadN D19_37 rfl |>.getS (fl_118 hw) G.S_HI D19_38 |>.ishr D19_41 rfl
  replace k := k |>.i2b D19_42 rfl
  obtain ⟨h1, K1, O1, k⟩ := k.stB pr1 pr2 (Or.inl rfl) D19_43 (i := 2) (by decide) (v := (.int (lo8 p2))) (congrArg Value.int (own_nnBi2b _)) (own_fitBi2b _) bis2
  replace k := k |>.aloadN D19_44 rfl rfl |>.iloadN D19_45 rfl |>.iloadN D19_46 rfl |>.getS (fl_119 hw) G.S_LO D19_47 |>.ishr D19_50 rfl |>.i2b D19_51 rfl
  obtain ⟨h2, K2, O2, k⟩ := k.stB O1 pr2 (Or.inl rfl) D19_52 (i := 3) (by decide) (v := (.int (hi8 p2))) (congrArg Value.int (own_nnBi2b _)) (own_fitBi2b _) bis3
  exact k.ret0 D19_53 rfl ⟨rfl, (K1.trans K2 (allS (Or.inl (List.mem_of_getElem? (i := 0) rfl)) all0)), O2⟩
theorem R_19_9 {a1 : Addr} {p2 p3 p4 p5 p6 : Int32} (hw : HW a0 Z) (G : Gl Z w_CS w_SF) (pr1 : Ary Z h0 a1 ATB 8 (bv (lvi [p3, p4, p5, p6, 0, 0, 0, 0]))) (pr2 : n0 ≤ a1) : Mt false [] l Y19 C19 (rmk 0 0 0 0) #[.ref a1, .int 2, .int p2] Z a0 h0 n0 (K0 h0 [a1] fun h => Ary Z h a1 ATB 8 (bv (lvi [p3, p4, p5, p6, (lo8 p2), (hi8 p2), 0, 0]))) := by
  refine Mt.go PN19 (Or.inl rfl) ef_RII_3 fun k => ?_
  replace k := k |>.getS (fl_117 hw) G.S_AD D19_0 |>.ifYes D19_3  |>.iloadN D19_28 rfl |>.iconst D19_29 1 |>.ishl D19_30 (z := 4) |>.istoreN D19_31 sto1 |>.aloadN D19_32 rfl rfl |>.iloadN D19_33 rfl |>.iinc D19_34 rfl (z := 5) (by decide) sto1 |>.iloadN D19_37 rfl |>.getS (fl_118 hw) G.S_HI D19_38 |>.ishr D19_41 rfl
  replace k := k |>.i2b D19_42 rfl
  obtain ⟨h1, K1, O1, k⟩ := k.stB pr1 pr2 (Or.inl rfl) D19_43 (i := 4) (by decide) (v := (.int (lo8 p2))) (congrArg Value.int (own_nnBi2b _)) (own_fitBi2b _) bis4
  replace k := k |>.aloadN D19_44 rfl rfl |>.iloadN D19_45 rfl |>.iloadN D19_46 rfl |>.getS (fl_119 hw) G.S_LO D19_47 |>.ishr D19_50 rfl |>.i2b D19_51 rfl
  obtain ⟨h2, K2, O2, k⟩ := k.stB O1 pr2 (Or.inl rfl) D19_52 (i := 5) (by decide) (v := (.int (hi8 p2))) (congrArg Value.int (own_nnBi2b _)) (own_fitBi2b _) bis5
  exact k.ret0 D19_53 rfl ⟨rfl, (K1.trans K2 (allS (Or.inl (List.mem_of_getElem? (i := 0) rfl)) all0)), O2⟩
theorem bis6 {x0 x1 x2 x3 x4 x5 x v : Int32} {t : List Int32} {n : Nat} : ∀ j, j < n → updv (bv (lvi (x0 :: x1 :: x2 :: x3 :: x4 :: x5 :: x :: t))) 6 (.int v) j = bv (lvi (x0 :: x1 :: x2 :: x3 :: x4 :: x5 :: v :: t)) j := bi_set rfl (by simp)
theorem bis7 {x0 x1 x2 x3 x4 x5 x6 x v : Int32} {t : List Int32} {n : Nat} : ∀ j, j < n → updv (bv (lvi (x0 :: x1 :: x2 :: x3 :: x4 :: x5 :: x6 :: x :: t))) 7 (.int v) j = bv (lvi (x0 :: x1 :: x2 :: x3 :: x4 :: x5 :: x6 :: v :: t)) j := bi_set rfl (by simp)
theorem R_19_10 {a1 : Addr} {p2 p3 p4 p5 p6 p7 p8 : Int32} (hw : HW a0 Z) (G : Gl Z w_CS w_SF) (pr1 : Ary Z h0 a1 ATB 8 (bv (lvi [p3, p4, p5, p6, p7, p8, 0, 0]))) (pr2 : n0 ≤ a1) : Mt false [] l Y19 C19 (rmk 0 0 0 0) #[.ref a1, .int 3, .int p2] Z a0 h0 n0 (K0 h0 [a1] fun h => Ary Z h a1 ATB 8 (bv (lvi [p3, p4, p5, p6, p7, p8, (lo8 p2), (hi8 p2)]))) := by
  refine Mt.go PN19 (Or.inl rfl) ef_RII_3 fun k => ?_
  replace k := k |>.getS (fl_117 hw) G.S_AD D19_0 |>.ifYes D19_3  |>.iloadN D19_28 rfl |>.iconst D19_29 1 |>.ishl D19_30 (z := 6) |>.istoreN D19_31 sto1 |>.aloadN D19_32 rfl rfl |>.iloadN D19_33 rfl |>.iinc D19_34 rfl (z := 7) (by decide) sto1 |>.iloadN D19_37 rfl |>.getS (fl_118 hw) G.S_HI D19_38 |>.ishr D19_41 rfl
  replace k := k |>.i2b D19_42 rfl
  obtain ⟨h1, K1, O1, k⟩ := k.stB pr1 pr2 (Or.inl rfl) D19_43 (i := 6) (by decide) (v := (.int (lo8 p2))) (congrArg Value.int (own_nnBi2b _)) (own_fitBi2b _) bis6
  replace k := k |>.aloadN D19_44 rfl rfl |>.iloadN D19_45 rfl |>.iloadN D19_46 rfl |>.getS (fl_119 hw) G.S_LO D19_47 |>.ishr D19_50 rfl |>.i2b D19_51 rfl
  obtain ⟨h2, K2, O2, k⟩ := k.stB O1 pr2 (Or.inl rfl) D19_52 (i := 7) (by decide) (v := (.int (hi8 p2))) (congrArg Value.int (own_nnBi2b _)) (own_fitBi2b _) bis7
  exact k.ret0 D19_53 rfl ⟨rfl, (K1.trans K2 (allS (Or.inl (List.mem_of_getElem? (i := 0) rfl)) all0)), O2⟩
theorem R_16_4 {a1 : Addr} {p2 p3 p4 p5 : Int32} (hw : HW a0 Z) (G : Gl Z w_CS w_SF) (pr1 : Ary Z h0 a1 ATC 4 (bv (lvi [p2, p3, p4, p5]))) : Mt false [] l Y16 C16 (rmk 2 1 8 24) #[.ref a1, .int 0, .int 4] Z a0 h0 n0 (KpV h0 [] fun v h => ∃ u1 : Addr, v = (.ref u1) ∧ h0.size ≤ u1 ∧ Ary Z h u1 ATB 8 (bv (lvi [(lo8 p2), (hi8 p2), (lo8 p3), (hi8 p3), (lo8 p4), (hi8 p4), (lo8 p5), (hi8 p5)]))) := by
  refine Mt.go PN16 (Or.inl rfl) ef_RII_5 fun k => ?_
  have nz := k.n0le
  replace k := k |>.iloadN D16_0 rfl
  have z1 := k.sz
  obtain ⟨_, h1, K1, ⟨u1_1, rfl, f1_0, f1_1⟩, k⟩ := (k.callS (w_107 hw) (S17 hw) (R_17_4 hw G) D16_1 0 rfl).kv
  replace k := k |>.astoreN D16_4 rfl sto3 |>.iconst D16_5 0 |>.istore D16_6 sto4 |>.iload D16_8 rfl |>.iloadN D16_10 rfl |>.icmpNo D16_11  |>.aloadN D16_14 rfl rfl |>.iload D16_15 rfl |>.aloadN D16_17 rfl rfl |>.iloadN D16_18 rfl
  have o2 := pr1.keep K1 nin0
  replace k := k |>.cald o2 D16_19 (i := 0) (by decide) big0
  have s_u1_1 := Nat.le_trans z1 f1_0
  have n_u1_1 := Nat.le_trans nz s_u1_1
  obtain ⟨h3, K3, f3_0, k⟩ := (k.callS (w_114 hw) (S19 hw) (R_19_7 hw G f1_1 n_u1_1) D16_20 0 rfl).k0 (allS n_u1_1 all0)
  replace k := k |>.iinc D16_23 rfl (z := 1) (by decide) sto1 |>.iinc D16_26 rfl (z := 1) (by decide) sto4 |>.goto D16_29 |>.iload D16_8 rfl |>.iloadN D16_10 rfl |>.icmpNo D16_11  |>.aloadN D16_14 rfl rfl |>.iload D16_15 rfl |>.aloadN D16_17 rfl rfl |>.iloadN D16_18 rfl
  have o4 := o2.keep K3 (ninS (nlt pr1.lt s_u1_1) nin0)
  replace k := k |>.cald o4 D16_19 (i := 1) (by decide) big1
  obtain ⟨h5, K5, f5_0, k⟩ := (k.callS (w_114 hw) (S19 hw) (R_19_8 hw G f3_0 n_u1_1) D16_20 0 rfl).k0 (allS n_u1_1 all0)
  replace k := k |>.iinc D16_23 rfl (z := 2) (by decide) sto1 |>.iinc D16_26 rfl (z := 2) (by decide) sto4 |>.goto D16_29 |>.iload D16_8 rfl |>.iloadN D16_10 rfl |>.icmpNo D16_11  |>.aloadN D16_14 rfl rfl |>.iload D16_15 rfl |>.aloadN D16_17 rfl rfl |>.iloadN D16_18 rfl
  have o6 := o4.keep K5 (ninS (nlt pr1.lt s_u1_1) nin0)
  replace k := k |>.cald o6 D16_19 (i := 2) (by decide) big2
  obtain ⟨h7, K7, f7_0, k⟩ := (k.callS (w_114 hw) (S19 hw) (R_19_9 hw G f5_0 n_u1_1) D16_20 0 rfl).k0 (allS n_u1_1 all0)
  replace k := k |>.iinc D16_23 rfl (z := 3) (by decide) sto1 |>.iinc D16_26 rfl (z := 3) (by decide) sto4 |>.goto D16_29 |>.iload D16_8 rfl |>.iloadN D16_10 rfl |>.icmpNo D16_11  |>.aloadN D16_14 rfl rfl |>.iload D16_15 rfl |>.aloadN D16_17 rfl rfl |>.iloadN D16_18 rfl
  have o8 := o6.keep K7 (ninS (nlt pr1.lt s_u1_1) nin0)
  replace k := k |>.cald o8 D16_19 (i := 3) (by decide) big3
  obtain ⟨h9, K9, f9_0, k⟩ := (k.callS (w_114 hw) (S19 hw) (R_19_10 hw G f7_0 n_u1_1) D16_20 0 rfl).k0 (allS n_u1_1 all0)
  replace k := k |>.iinc D16_23 rfl (z := 4) (by decide) sto1 |>.iinc D16_26 rfl (z := 4) (by decide) sto4 |>.goto D16_29 |>.iload D16_8 rfl |>.iloadN D16_10 rfl |>.icmpYes D16_11  |>.aloadN D16_32 rfl rfl
  exact k.retA D16_33 rfl ⟨_, rfl, ((((K1.trans K3 (allS (Or.inr s_u1_1) all0)).trans K5 (allS (Or.inr s_u1_1) all0)).trans K7 (allS (Or.inr s_u1_1) all0)).trans K9 (allS (Or.inr s_u1_1) all0)), u1_1, rfl, s_u1_1, f9_0⟩
theorem R_14_17 {a1 : Addr} {p2 p3 p4 p5 : Int32} (hw : HW a0 Z) (G : Gl Z w_CS w_SF) (pr1 : Ary Z h0 a1 ATC 4 (bv (lvi [p2, p3, p4, p5]))) (pr2 : 255 < p2) (pr3 : 255 < (gcv (lo8 p2) (hi8 p2))) : Mt false [] l Y14 C14 (rmk 3 2 12 40) #[.ref a1, .int 0, .int 4] Z a0 h0 n0 (KpV h0 [] fun v h => ∃ u1 : Addr, v = (.ref u1) ∧ h0.size ≤ u1 ∧ Ary Z h u1 ATB 8 (bv (lvi [(lo8 p2), (hi8 p2), (lo8 p3), (hi8 p3), (lo8 p4), (hi8 p4), (lo8 p5), (hi8 p5)]))) := by
  refine Mt.go PN14 (Or.inl rfl) ef_RII_6 fun k => ?_
  replace k := k |>.iloadN D14_0 rfl
  obtain ⟨b1, h1, g1, K1, O1, k⟩ := k.newP (aty := .byte) "[B" (w_23 hw) (by decide) D14_1 4 (by decide) (n := 4) (by decide) (by decide) (by decide) (bi_const (L := [0, 0, 0, 0]) rfl)
  replace k := k |>.astoreN D14_3 rfl sto3 |>.aloadN D14_4 rfl rfl |>.iloadN D14_5 rfl |>.aloadN D14_6 rfl rfl |>.iconst D14_7 0 |>.iloadN D14_8 rfl
  have o3 := pr1.keep K1 nin0
  replace k := (k.callS (w_67 hw) (S15 hw) (R_15_17 hw G o3 pr2) D14_9 0 rfl).pv
  replace k := k |>.istore D14_12 sto4 |>.iload D14_14 rfl |>.iloadN D14_16 rfl |>.icmpNo D14_17  |>.aloadN D14_20 rfl rfl |>.iloadN D14_21 rfl |>.iloadN D14_22 rfl
  have z4 := k.sz
  obtain ⟨_, h4, K4, ⟨u1_4, rfl, f4_0, f4_1⟩, k⟩ := (k.callS (w_104 hw) (S16 hw) (R_16_4 hw G o3) D14_23 0 rfl).kv
  replace k := k |>.astore D14_26 rfl sto5 |>.aload D14_28 rfl rfl |>.iload D14_30 rfl
  replace k := (k.callS (w_120 hw) (S20 hw) (R_20_1 hw G f4_1 (by decide) (by decide) (by decide) (by decide) (p2 := 0) (p3 := 8)) D14_32 0 rfl).pv
  replace k := k |>.top (y := (gcv (lo8 p2) (hi8 p2))) rfl |>.sipush D14_35 255 |>.icmpYes D14_38 (tlt pr3).2.2.1 |>.aload D14_54 rfl rfl
  have s_u1_4 := Nat.le_trans z4 f4_0
  exact k.retA D14_56 rfl ⟨_, rfl, (K1.trans K4 all0), u1_4, rfl, s_u1_4, f4_1⟩
theorem R_6_19 {a1 a2 : Addr} {p3 p4 p5 p6 : Int32} (hw : HW a0 Z) (G : Gl Z w_CS w_SF) (pr1 : Ary Z h0 a2 ATC 4 (bv (lvi [p3, p4, p5, p6]))) (pr2 : 255 < p3) (pr3 : 255 < (gcv (lo8 p3) (hi8 p3))) (pr4 : Obj Z h0 a1 L_String [.null, .int 0]) (pr5 : n0 ≤ a1) : Mt false [] l Y6 C6 (rmk 4 2 12 57) #[.ref a1, .ref a2, .int 0, .int 4, .null] Z a0 h0 n0 (K0 h0 [a1] fun h => ∃ u1 : Addr, h0.size ≤ u1 ∧ Obj Z h a1 L_String [.ref u1, .int 1] ∧ Ary Z h u1 ATB 8 (bv (lvi [(lo8 p3), (hi8 p3), (lo8 p4), (hi8 p4), (lo8 p5), (hi8 p5), (lo8 p6), (hi8 p6)]))) := by
  refine Mt.go PN6 (Or.inl rfl) ef_RRIIN_6 fun k => ?_
  replace k := k |>.aloadN D6_0 rfl rfl |>.initO (w_19 hw) (w_20 hw) (w_21 hw) D6_1 0 |>.iloadN D6_4 rfl |>.ifYes D6_5  |>.getS (fl_44 hw) G.S_CS D6_27 |>.ifNo D6_30 ((if0 _ _).trans (feq G.h_CS).1) |>.aloadN D6_33 rfl rfl |>.iloadN D6_34 rfl |>.iloadN D6_35 rfl
  have z1 := k.sz
  obtain ⟨_, h1, K1, ⟨u1_1, rfl, f1_0, f1_1⟩, k⟩ := (k.callS (w_63 hw) (S14 hw) (R_14_17 hw G pr1 pr2 pr3) D6_36 0 rfl).kv
  replace k := k |>.astore D6_39 rfl sto5 |>.aloadN D6_41 rfl rfl |>.aload D6_42 rfl rfl |>.iloadN D6_44 rfl
  replace k := (k.callS (w_70 hw) (S21 hw) (R_21_1 hw G f1_1 (by decide) (p2 := 4) (p3 := 8)) D6_45 1 rfl).pv
  replace k := k |>.top (y := 1) (by decide)
  have o3 := pr4.keep K1 nin0
  obtain ⟨h4, K4, O4, k⟩ := k.putN (fp_29 hw) (pw_String_i_String_coder hw) o3 1 pr5 (Or.inl rfl) D6_48 rfl (v' := (.int 1)) (by decide) (by decide) ls1
  replace k := k |>.aloadN D6_51 rfl rfl |>.aload D6_52 rfl rfl
  obtain ⟨h5, K5, O5, k⟩ := k.putF (fl_28 hw) (pw_String_i_String_value hw) O4 0 pr5 (Or.inl rfl) D6_54 rfl rfl rfl ls0
  have s_u1_1 := Nat.le_trans z1 f1_0
  have o6 := (f1_1.keep K4 (ninS (nlt' pr4.lt s_u1_1) nin0)).keep K5 (ninS (nlt' pr4.lt s_u1_1) nin0)
  exact k.ret0 D6_57 rfl ⟨rfl, ((((Keep.refl h0 [a1]).trans K1 all0).trans K4 (allS (Or.inl (List.mem_of_getElem? (i := 0) rfl)) all0)).trans K5 (allS (Or.inl (List.mem_of_getElem? (i := 0) rfl)) all0)), u1_1, s_u1_1, O5, o6⟩
theorem R_15_19 {a1 a2 : Addr} {p3 p4 p5 p6 : Int32} (hw : HW a0 Z) (G : Gl Z w_CS w_SF) (pr1 : Ary Z h0 a1 ATC 4 (bv (lvi [p3, p4, p5, p6]))) (pr2 : ¬ (255 < p3)) (pr3 : Ary Z h0 a2 ATB 4 (bv (lvi [0, 0, 0, 0]))) (pr4 : n0 ≤ a2) (pr5 : a1 ≠ a2) (pr6 : 255 < p4) : Mt false [] l Y15 C15 (rmk 0 0 0 0) #[.ref a1, .int 0, .ref a2, .int 0, .int 4] Z a0 h0 n0 (KpV h0 [a2] fun v h => v = (.int 1) ∧ Ary Z h a2 ATB 4 (bv (lvi [(p3.toInt8.toInt32), 0, 0, 0]))) := by
  refine Mt.go PN15 (Or.inl rfl) ef_RIRII_7 fun k => ?_
  replace k := k |>.iconst D15_0 0 |>.istore D15_1 sto5 |>.iload D15_3 rfl |>.iload D15_5 rfl |>.icmpNo D15_7  |>.aloadN D15_10 rfl rfl |>.iloadN D15_11 rfl |>.cald pr1 D15_12 (i := 0) (by decide) big0 |>.istore D15_13 sto6 |>.iload D15_15 rfl |>.sipush D15_17 255 |>.icmpYes D15_20 (flt pr2).2.2.2
  replace k := k |>.aloadN D15_26 rfl rfl |>.iloadN D15_27 rfl |>.iload D15_28 rfl |>.i2b D15_30 rfl
  obtain ⟨h1, K1, O1, k⟩ := k.stB pr3 pr4 (Or.inl rfl) D15_31 (i := 0) (by decide) (v := (.int (p3.toInt8.toInt32))) (congrArg Value.int (own_nnBi2b _)) (own_fitBi2b _) bis0
  replace k := k |>.iinc D15_32 rfl (z := 1) (by decide) sto1 |>.iinc D15_35 rfl (z := 1) (by decide) sto3 |>.iinc D15_38 rfl (z := 1) (by decide) sto5 |>.goto D15_41 |>.iload D15_3 rfl |>.iload D15_5 rfl |>.icmpNo D15_7  |>.aloadN D15_10 rfl rfl |>.iloadN D15_11 rfl
  have o2 := pr1.keep K1 (ninS pr5 nin0)
  replace k := k |>.cald o2 D15_12 (i := 1) (by decide) big1 |>.istore D15_13 sto6 |>.iload D15_15 rfl |>.sipush D15_17 255 |>.icmpNo D15_20 (tlt pr6).2.2.2 |>.iload D15_23 rfl
  exact k.retI D15_25 rfl ⟨_, rfl, K1, rfl, O1⟩
theorem R_14_19 {a1 : Addr} {p2 p3 p4 p5 : Int32} (hw : HW a0 Z) (G : Gl Z w_CS w_SF) (pr1 : Ary Z h0 a1 ATC 4 (bv (lvi [p2, p3, p4, p5]))) (pr2 : ¬ (255 < p2)) (pr3 : 255 < p3) (pr4 : 255 < (gcv (lo8 p3) (hi8 p3))) : Mt false [] l Y14 C14 (rmk 3 2 12 40) #[.ref a1, .int 0, .int 4] Z a0 h0 n0 (KpV h0 [] fun v h => ∃ u1 : Addr, v = (.ref u1) ∧ h0.size ≤ u1 ∧ Ary Z h u1 ATB 8 (bv (lvi [(lo8 p2), (hi8 p2), (lo8 p3), (hi8 p3), (lo8 p4), (hi8 p4), (lo8 p5), (hi8 p5)]))) := by
  refine Mt.go PN14 (Or.inl rfl) ef_RII_6 fun k => ?_
  have nz := k.n0le
  replace k := k |>.iloadN D14_0 rfl
  have z1 := k.sz
  obtain ⟨b1, h1, g1, K1, O1, k⟩ := k.newP (aty := .byte) "[B" (w_23 hw) (by decide) D14_1 4 (by decide) (n := 4) (by decide) (by decide) (by decide) (bi_const (L := [0, 0, 0, 0]) rfl)
  replace k := k |>.astoreN D14_3 rfl sto3 |>.aloadN D14_4 rfl rfl |>.iloadN D14_5 rfl |>.aloadN D14_6 rfl rfl |>.iconst D14_7 0 |>.iloadN D14_8 rfl
  have s_b1 := Nat.le_trans z1 g1
  have n_b1 := Nat.le_trans nz s_b1
  have o3 := pr1.keep K1 nin0
  obtain ⟨_, h2, K2, ⟨rfl, f2_0⟩, k⟩ := (k.callS (w_67 hw) (S15 hw) (R_15_19 hw G o3 pr2 O1 n_b1 (nlt pr1.lt s_b1) pr3) D14_9 0 rfl).kv (allS n_b1 all0)
  replace k := k |>.istore D14_12 sto4 |>.iload D14_14 rfl |>.iloadN D14_16 rfl |>.icmpNo D14_17  |>.aloadN D14_20 rfl rfl |>.iloadN D14_21 rfl |>.iloadN D14_22 rfl
  have o5 := o3.keep K2 (ninS (nlt pr1.lt s_b1) nin0)
  have z4 := k.sz
  obtain ⟨_, h4, K4, ⟨u1_4, rfl, f4_0, f4_1⟩, k⟩ := (k.callS (w_104 hw) (S16 hw) (R_16_4 hw G o5) D14_23 0 rfl).kv
  replace k := k |>.astore D14_26 rfl sto5 |>.aload D14_28 rfl rfl |>.iload D14_30 rfl
  replace k := (k.callS (w_120 hw) (S20 hw) (R_20_1 hw G f4_1 (by decide) (by decide) (by decide) (by decide) (p2 := 1) (p3 := 8)) D14_32 0 rfl).pv
  replace k := k |>.top (y := (gcv (lo8 p3) (hi8 p3))) rfl |>.sipush D14_35 255 |>.icmpYes D14_38 (tlt pr4).2.2.1 |>.aload D14_54 rfl rfl
  have s_u1_4 := Nat.le_trans z4 f4_0
  exact k.retA D14_56 rfl ⟨_, rfl, ((K1.trans K2 (allS (Or.inr s_b1) all0)).trans K4 all0), u1_4, rfl, s_u1_4, f4_1⟩
theorem R_6_21 {a1 a2 : Addr} {p3 p4 p5 p6 : Int32} (hw : HW a0 Z) (G : Gl Z w_CS w_SF) (pr1 : Ary Z h0 a2 ATC 4 (bv (lvi [p3, p4, p5, p6]))) (pr2 : ¬ (255 < p3)) (pr3 : 255 < p4) (pr4 : 255 < (gcv (lo8 p4) (hi8 p4))) (pr5 : Obj Z h0 a1 L_String [.null, .int 0]) (pr6 : n0 ≤ a1) : Mt false [] l Y6 C6 (rmk 4 2 12 57) #[.ref a1, .ref a2, .int 0, .int 4, .null] Z a0 h0 n0 (K0 h0 [a1] fun h => ∃ u1 : Addr, h0.size ≤ u1 ∧ Obj Z h a1 L_String [.ref u1, .int 1] ∧ Ary Z h u1 ATB 8 (bv (lvi [(lo8 p3), (hi8 p3), (lo8 p4), (hi8 p4), (lo8 p5), (hi8 p5), (lo8 p6), (hi8 p6)]))) := by
  refine Mt.go PN6 (Or.inl rfl) ef_RRIIN_6 fun k => ?_
  replace k := k |>.aloadN D6_0 rfl rfl |>.initO (w_19 hw) (w_20 hw) (w_21 hw) D6_1 0 |>.iloadN D6_4 rfl |>.ifYes D6_5  |>.getS (fl_44 hw) G.S_CS D6_27 |>.ifNo D6_30 ((if0 _ _).trans (feq G.h_CS).1) |>.aloadN D6_33 rfl rfl |>.iloadN D6_34 rfl |>.iloadN D6_35 rfl
  have z1 := k.sz
  obtain ⟨_, h1, K1, ⟨u1_1, rfl, f1_0, f1_1⟩, k⟩ := (k.callS (w_63 hw) (S14 hw) (R_14_19 hw G pr1 pr2 pr3 pr4) D6_36 0 rfl).kv
  replace k := k |>.astore D6_39 rfl sto5 |>.aloadN D6_41 rfl rfl |>.aload D6_42 rfl rfl |>.iloadN D6_44 rfl
  replace k := (k.callS (w_70 hw) (S21 hw) (R_21_1 hw G f1_1 (by decide) (p2 := 4) (p3 := 8)) D6_45 1 rfl).pv
  replace k := k |>.top (y := 1) (by decide)
  have o3 := pr5.keep K1 nin0
  obtain ⟨h4, K4, O4, k⟩ := k.putN (fp_29 hw) (pw_String_i_String_coder hw) o3 1 pr6 (Or.inl rfl) D6_48 rfl (v' := (.int 1)) (by decide) (by decide) ls1
  replace k := k |>.aloadN D6_51 rfl rfl |>.aload D6_52 rfl rfl
  obtain ⟨h5, K5, O5, k⟩ := k.putF (fl_28 hw) (pw_String_i_String_value hw) O4 0 pr6 (Or.inl rfl) D6_54 rfl rfl rfl ls0
  have s_u1_1 := Nat.le_trans z1 f1_0
  have o6 := (f1_1.keep K4 (ninS (nlt' pr5.lt s_u1_1) nin0)).keep K5 (ninS (nlt' pr5.lt s_u1_1) nin0)
  exact k.ret0 D6_57 rfl ⟨rfl, ((((Keep.refl h0 [a1]).trans K1 all0).trans K4 (allS (Or.inl (List.mem_of_getElem? (i := 0) rfl)) all0)).trans K5 (allS (Or.inl (List.mem_of_getElem? (i := 0) rfl)) all0)), u1_1, s_u1_1, O5, o6⟩
theorem R_15_21 {a1 a2 : Addr} {p3 p4 p5 p6 : Int32} (hw : HW a0 Z) (G : Gl Z w_CS w_SF) (pr1 : Ary Z h0 a1 ATC 4 (bv (lvi [p3, p4, p5, p6]))) (pr2 : ¬ (255 < p3)) (pr3 : Ary Z h0 a2 ATB 4 (bv (lvi [0, 0, 0, 0]))) (pr4 : n0 ≤ a2) (pr5 : a1 ≠ a2) (pr6 : ¬ (255 < p4)) (pr7 : 255 < p5) : Mt false [] l Y15 C15 (rmk 0 0 0 0) #[.ref a1, .int 0, .ref a2, .int 0, .int 4] Z a0 h0 n0 (KpV h0 [a2] fun v h => v = (.int 2) ∧ Ary Z h a2 ATB 4 (bv (lvi [(p3.toInt8.toInt32), (p4.toInt8.toInt32), 0, 0]))) := by
  refine Mt.go PN15 (Or.inl rfl) ef_RIRII_7 fun k => ?_
  replace k := k |>.iconst D15_0 0 |>.istore D15_1 sto5 |>.iload D15_3 rfl |>.iload D15_5 rfl |>.icmpNo D15_7  |>.aloadN D15_10 rfl rfl |>.iloadN D15_11 rfl |>.cald pr1 D15_12 (i := 0) (by decide) big0 |>.istore D15_13 sto6 |>.iload D15_15 rfl |>.sipush D15_17 255 |>.icmpYes D15_20 (flt pr2).2.2.2
  replace k := k |>.aloadN D15_26 rfl rfl |>.iloadN D15_27 rfl |>.iload D15_28 rfl |>.i2b D15_30 rfl
  obtain ⟨h1, K1, O1, k⟩ := k.stB pr3 pr4 (Or.inl rfl) D15_31 (i := 0) (by decide) (v := (.int (p3.toInt8.toInt32))) (congrArg Value.int (own_nnBi2b _)) (own_fitBi2b _) bis0
  replace k := k |>.iinc D15_32 rfl (z := 1) (by decide) sto1 |>.iinc D15_35 rfl (z := 1) (by decide) sto3 |>.iinc D15_38 rfl (z := 1) (by decide) sto5 |>.goto D15_41 |>.iload D15_3 rfl |>.iload D15_5 rfl |>.icmpNo D15_7  |>.aloadN D15_10 rfl rfl |>.iloadN D15_11 rfl
  have o2 := pr1.keep K1 (ninS pr5 nin0)
  replace k := k |>.cald o2 D15_12 (i := 1) (by decide) big1 |>.istore D15_13 sto6 |>.iload D15_15 rfl |>.sipush D15_17 255 |>.icmpYes D15_20 (flt pr6).2.2.2 |>.aloadN D15_26 rfl rfl |>.iloadN D15_27 rfl |>.iload D15_28 rfl |>.i2b D15_30 rfl
  obtain ⟨h3, K3, O3, k⟩ := k.stB O1 pr4 (Or.inl rfl) D15_31 (i := 1) (by decide) (v := (.int (p4.toInt8.toInt32))) (congrArg Value.int (own_nnBi2b _)) (own_fitBi2b _) bis1
  replace k := k |>.iinc D15_32 rfl (z := 2) (by decide) sto1 |>.iinc D15_35 rfl (z := 2) (by decide) sto3 |>.iinc D15_38 rfl (z := 2) (by decide) sto5 |>.goto D15_41 |>.iload D15_3 rfl |>.iload D15_5 rfl |>.icmpNo D15_7  |>.aloadN D15_10 rfl rfl |>.iloadN D15_11 rfl
  have o4 := o2.keep K3 (ninS pr5 nin0)
  replace k := k |>.cald o4 D15_12 (i := 2) (by decide) big2 |>.istore D15_13 sto6 |>.iload D15_15 rfl |>.sipush D15_17 255 |>.icmpNo D15_20 (tlt pr7).2.2.2 |>.iload D15_23 rfl
  exact k.retI D15_25 rfl ⟨_, rfl, (K1.trans K3 (allS (Or.inl (List.mem_of_getElem? (i := 0) rfl)) all0)), rfl, O3⟩
theorem R_14_21 {a1 : Addr} {p2 p3 p4 p5 : Int32} (hw : HW a0 Z) (G : Gl Z w_CS w_SF) (pr1 : Ary Z h0 a1 ATC 4 (bv (lvi [p2, p3, p4, p5]))) (pr2 : ¬ (255 < p2)) (pr3 : ¬ (255 < p3)) (pr4 : 255 < p4) (pr5 : 255 < (gcv (lo8 p4) (hi8 p4))) : Mt false [] l Y14 C14 (rmk 3 2 12 40) #[.ref a1, .int 0, .int 4] Z a0 h0 n0 (KpV h0 [] fun v h => ∃ u1 : Addr, v = (.ref u1) ∧ h0.size ≤ u1 ∧ Ary Z h u1 ATB 8 (bv (lvi [(lo8 p2), (hi8 p2), (lo8 p3), (hi8 p3), (lo8 p4), (hi8 p4), (lo8 p5), (hi8 p5)]))) := by
  refine Mt.go PN14 (Or.inl rfl) ef_RII_6 fun k => ?_
  have nz := k.n0le
  replace k := k |>.iloadN D14_0 rfl
  have z1 := k.sz
  obtain ⟨b1, h1, g1, K1, O1, k⟩ := k.newP (aty := .byte) "[B" (w_23 hw) (by decide) D14_1 4 (by decide) (n := 4) (by decide) (by decide) (by decide) (bi_const (L := [0, 0, 0, 0]) rfl)
  replace k := k |>.astoreN D14_3 rfl sto3 |>.aloadN D14_4 rfl rfl |>.iloadN D14_5 rfl |>.aloadN D14_6 rfl rfl |>.iconst D14_7 0 |>.iloadN D14_8 rfl
  have s_b1 := Nat.le_trans z1 g1
  have n_b1 := Nat.le_trans nz s_b1
  have o3 := pr1.keep K1 nin0
  obtain ⟨_, h2, K2, ⟨rfl, f2_0⟩, k⟩ := (k.callS (w_67 hw) (S15 hw) (R_15_21 hw G o3 pr2 O1 n_b1 (nlt pr1.lt s_b1) pr3 pr4) D14_9 0 rfl).kv (allS n_b1 all0)
  replace k := k |>.istore D14_12 sto4 |>.iload D14_14 rfl |>.iloadN D14_16 rfl |>.icmpNo D14_17  |>.aloadN D14_20 rfl rfl |>.iloadN D14_21 rfl |>.iloadN D14_22 rfl
  have o5 := o3.keep K2 (ninS (nlt pr1.lt s_b1) nin0)
  have z4 := k.sz
  obtain ⟨_, h4, K4, ⟨u1_4, rfl, f4_0, f4_1⟩, k⟩ := (k.callS (w_104 hw) (S16 hw) (R_16_4 hw G o5) D14_23 0 rfl).kv
  replace k := k |>.astore D14_26 rfl sto5 |>.aload D14_28 rfl rfl |>.iload D14_30 rfl
  replace k := (k.callS (w_120 hw) (S20 hw) (R_20_1 hw G f4_1 (by decide) (by decide) (by decide) (by decide) (p2 := 2) (p3 := 8)) D14_32 0 rfl).pv
  replace k := k |>.top (y := (gcv (lo8 p4) (hi8 p4))) rfl |>.sipush D14_35 255 |>.icmpYes D14_38 (tlt pr5).2.2.1 |>.aload D14_54 rfl rfl
  have s_u1_4 := Nat.le_trans z4 f4_0
  exact k.retA D14_56 rfl ⟨_, rfl, ((K1.trans K2 (allS (Or.inr s_b1) all0)).trans K4 all0), u1_4, rfl, s_u1_4, f4_1⟩
theorem R_6_23 {a1 a2 : Addr} {p3 p4 p5 p6 : Int32} (hw : HW a0 Z) (G : Gl Z w_CS w_SF) (pr1 : Ary Z h0 a2 ATC 4 (bv (lvi [p3, p4, p5, p6]))) (pr2 : ¬ (255 < p3)) (pr3 : ¬ (255 < p4)) (pr4 : 255 < p5) (pr5 : 255 < (gcv (lo8 p5) (hi8 p5))) (pr6 : Obj Z h0 a1 L_String [.null, .int 0]) (pr7 : n0 ≤ a1) : Mt false [] l Y6 C6 (rmk 4 2 12 57) #[.ref a1, .ref a2, .int 0, .int 4, .null] Z a0 h0 n0 (K0 h0 [a1] fun h => ∃ u1 : Addr, h0.size ≤ u1 ∧ Obj Z h a1 L_String [.ref u1, .int 1] ∧ Ary Z h u1 ATB 8 (bv (lvi [(lo8 p3), (hi8 p3), (lo8 p4), (hi8 p4), (lo8 p5), (hi8 p5), (lo8 p6), (hi8 p6)]))) := by
  refine Mt.go PN6 (Or.inl rfl) ef_RRIIN_6 fun k => ?_
  replace k := k |>.aloadN D6_0 rfl rfl |>.initO (w_19 hw) (w_20 hw) (w_21 hw) D6_1 0 |>.iloadN D6_4 rfl |>.ifYes D6_5  |>.getS (fl_44 hw) G.S_CS D6_27 |>.ifNo D6_30 ((if0 _ _).trans (feq G.h_CS).1) |>.aloadN D6_33 rfl rfl |>.iloadN D6_34 rfl |>.iloadN D6_35 rfl
  have z1 := k.sz
  obtain ⟨_, h1, K1, ⟨u1_1, rfl, f1_0, f1_1⟩, k⟩ := (k.callS (w_63 hw) (S14 hw) (R_14_21 hw G pr1 pr2 pr3 pr4 pr5) D6_36 0 rfl).kv
  replace k := k |>.astore D6_39 rfl sto5 |>.aloadN D6_41 rfl rfl |>.aload D6_42 rfl rfl |>.iloadN D6_44 rfl
  replace k := (k.callS (w_70 hw) (S21 hw) (R_21_1 hw G f1_1 (by decide) (p2 := 4) (p3 := 8)) D6_45 1 rfl).pv
  replace k := k |>.top (y := 1) (by decide)
  have o3 := pr6.keep K1 nin0
  obtain ⟨h4, K4, O4, k⟩ := k.putN (fp_29 hw) (pw_String_i_String_coder hw) o3 1 pr7 (Or.inl rfl) D6_48 rfl (v' := (.int 1)) (by decide) (by decide) ls1
  replace k := k |>.aloadN D6_51 rfl rfl |>.aload D6_52 rfl rfl
  obtain ⟨h5, K5, O5, k⟩ := k.putF (fl_28 hw) (pw_String_i_String_value hw) O4 0 pr7 (Or.inl rfl) D6_54 rfl rfl rfl ls0
  have s_u1_1 := Nat.le_trans z1 f1_0
  have o6 := (f1_1.keep K4 (ninS (nlt' pr6.lt s_u1_1) nin0)).keep K5 (ninS (nlt' pr6.lt s_u1_1) nin0)
  exact k.ret0 D6_57 rfl ⟨rfl, ((((Keep.refl h0 [a1]).trans K1 all0).trans K4 (allS (Or.inl (List.mem_of_getElem? (i := 0) rfl)) all0)).trans K5 (allS (Or.inl (List.mem_of_getElem? (i := 0) rfl)) all0)), u1_1, s_u1_1, O5, o6⟩
theorem R_15_23 {a1 a2 : Addr} {p3 p4 p5 p6 : Int32} (hw : HW a0 Z) (G : Gl Z w_CS w_SF) (pr1 : Ary Z h0 a1 ATC 4 (bv (lvi [p3, p4, p5, p6]))) (pr2 : ¬ (255 < p3)) (pr3 : Ary Z h0 a2 ATB 4 (bv (lvi [0, 0, 0, 0]))) (pr4 : n0 ≤ a2) (pr5 : a1 ≠ a2) (pr6 : ¬ (255 < p4)) (pr7 : ¬ (255 < p5)) (pr8 : 255 < p6) : Mt false [] l Y15 C15 (rmk 0 0 0 0) #[.ref a1, .int 0, .ref a2, .int 0, .int 4] Z a0 h0 n0 (KpV h0 [a2] fun v h => v = (.int 3) ∧ Ary Z h a2 ATB 4 (bv (lvi [(p3.toInt8.toInt32), (p4.toInt8.toInt32), (p5.toInt8.toInt32), 0]))) := by
  refine Mt.go PN15 (Or.inl rfl) ef_RIRII_7 fun k => ?_
  replace k := k |>.iconst D15_0 0 |>.istore D15_1 sto5 |>.iload D15_3 rfl |>.iload D15_5 rfl |>.icmpNo D15_7  |>.aloadN D15_10 rfl rfl |>.iloadN D15_11 rfl |>.cald pr1 D15_12 (i := 0) (by decide) big0 |>.istore D15_13 sto6 |>.iload D15_15 rfl |>.sipush D15_17 255 |>.icmpYes D15_20 (flt pr2).2.2.2
  replace k := k |>.aloadN D15_26 rfl rfl |>.iloadN D15_27 rfl |>.iload D15_28 rfl |>.i2b D15_30 rfl
  obtain ⟨h1, K1, O1, k⟩ := k.stB pr3 pr4 (Or.inl rfl) D15_31 (i := 0) (by decide) (v := (.int (p3.toInt8.toInt32))) (congrArg Value.int (own_nnBi2b _)) (own_fitBi2b _) bis0
  replace k := k |>.iinc D15_32 rfl (z := 1) (by decide) sto1 |>.iinc D15_35 rfl (z := 1) (by decide) sto3 |>.iinc D15_38 rfl (z := 1) (by decide) sto5 |>.goto D15_41 |>.iload D15_3 rfl |>.iload D15_5 rfl |>.icmpNo D15_7  |>.aloadN D15_10 rfl rfl |>.iloadN D15_11 rfl
  have o2 := pr1.keep K1 (ninS pr5 nin0)
  replace k := k |>.cald o2 D15_12 (i := 1) (by decide) big1 |>.istore D15_13 sto6 |>.iload D15_15 rfl |>.sipush D15_17 255 |>.icmpYes D15_20 (flt pr6).2.2.2 |>.aloadN D15_26 rfl rfl |>.iloadN D15_27 rfl |>.iload D15_28 rfl |>.i2b D15_30 rfl
  obtain ⟨h3, K3, O3, k⟩ := k.stB O1 pr4 (Or.inl rfl) D15_31 (i := 1) (by decide) (v := (.int (p4.toInt8.toInt32))) (congrArg Value.int (own_nnBi2b _)) (own_fitBi2b _) bis1
  replace k := k |>.iinc D15_32 rfl (z := 2) (by decide) sto1 |>.iinc D15_35 rfl (z := 2) (by decide) sto3 |>.iinc D15_38 rfl (z := 2) (by decide) sto5 |>.goto D15_41 |>.iload D15_3 rfl |>.iload D15_5 rfl |>.icmpNo D15_7  |>.aloadN D15_10 rfl rfl |>.iloadN D15_11 rfl
  have o4 := o2.keep K3 (ninS pr5 nin0)
  replace k := k |>.cald o4 D15_12 (i := 2) (by decide) big2 |>.istore D15_13 sto6 |>.iload D15_15 rfl |>.sipush D15_17 255 |>.icmpYes D15_20 (flt pr7).2.2.2 |>.aloadN D15_26 rfl rfl |>.iloadN D15_27 rfl |>.iload D15_28 rfl |>.i2b D15_30 rfl
  obtain ⟨h5, K5, O5, k⟩ := k.stB O3 pr4 (Or.inl rfl) D15_31 (i := 2) (by decide) (v := (.int (p5.toInt8.toInt32))) (congrArg Value.int (own_nnBi2b _)) (own_fitBi2b _) bis2
  replace k := k |>.iinc D15_32 rfl (z := 3) (by decide) sto1 |>.iinc D15_35 rfl (z := 3) (by decide) sto3 |>.iinc D15_38 rfl (z := 3) (by decide) sto5 |>.goto D15_41 |>.iload D15_3 rfl |>.iload D15_5 rfl |>.icmpNo D15_7  |>.aloadN D15_10 rfl rfl |>.iloadN D15_11 rfl
  have o6 := o4.keep K5 (ninS pr5 nin0)
  replace k := k |>.cald o6 D15_12 (i := 3) (by decide) big3 |>.istore D15_13 sto6 |>.iload D15_15 rfl |>.sipush D15_17 255 |>.icmpNo D15_20 (tlt pr8).2.2.2 |>.iload D15_23 rfl
  exact k.retI D15_25 rfl ⟨_, rfl, ((K1.trans K3 (allS (Or.inl (List.mem_of_getElem? (i := 0) rfl)) all0)).trans K5 (allS (Or.inl (List.mem_of_getElem? (i := 0) rfl)) all0)), rfl, O5⟩
theorem own_d52 {c3 v0 : Int32} (e0 : v0 = (gcv (lo8 c3) (hi8 c3))) (q0 : ¬ (c3 < 0)) (q1 : c3 < 65536) (q2 : 255 < c3) : 255 < v0 := by
  have := rng32 c3
  have : (0 : Int32).toInt = 0 := by decide
  have := i_nlt q0
  have : (65536 : Int32).toInt = 65536 := by decide
  have := i_lt q1
  have : (255 : Int32).toInt = 255 := by decide
  have := i_lt q2
  have := e_gc e0 (by omega) (by omega)
  exact o_lt (by omega)
theorem R_14_23 {a1 : Addr} {p2 p3 p4 p5 : Int32} (hw : HW a0 Z) (G : Gl Z w_CS w_SF) (pr1 : Ary Z h0 a1 ATC 4 (bv (lvi [p2, p3, p4, p5]))) (pr2 : ¬ (255 < p2)) (pr3 : ¬ (255 < p3)) (pr4 : ¬ (255 < p4)) (pr5 : 255 < p5) (pr6 : 255 < (gcv (lo8 p5) (hi8 p5))) : Mt false [] l Y14 C14 (rmk 3 2 12 40) #[.ref a1, .int 0, .int 4] Z a0 h0 n0 (KpV h0 [] fun v h => ∃ u1 : Addr, v = (.ref u1) ∧ h0.size ≤ u1 ∧ Ary Z h u1 ATB 8 (bv (lvi [(lo8 p2), (hi8 p2), (lo8 p3), (hi8 p3), (lo8 p4), (hi8 p4), (lo8 p5), (hi8 p5)]))) := by
  refine Mt.go PN14 (Or.inl rfl) ef_RII_6 fun k => ?_
  have nz := k.n0le
  replace k := k |>.iloadN D14_0 rfl
  have z1 := k.sz
  obtain ⟨b1, h1, g1, K1, O1, k⟩ := k.newP (aty := .byte) "[B" (w_23 hw) (by decide) D14_1 4 (by decide) (n := 4) (by decide) (by decide) (by decide) (bi_const (L := [0, 0, 0, 0]) rfl)
  replace k := k |>.astoreN D14_3 rfl sto3 |>.aloadN D14_4 rfl rfl |>.iloadN D14_5 rfl |>.aloadN D14_6 rfl rfl |>.iconst D14_7 0 |>.iloadN D14_8 rfl
  have s_b1 := Nat.le_trans z1 g1
  have n_b1 := Nat.le_trans nz s_b1
  have o3 := pr1.keep K1 nin0
  obtain ⟨_, h2, K2, ⟨rfl, f2_0⟩, k⟩ := (k.callS (w_67 hw) (S15 hw) (R_15_23 hw G o3 pr2 O1 n_b1 (nlt pr1.lt s_b1) pr3 pr4 pr5) D14_9 0 rfl).kv (allS n_b1 all0)
  replace k := k |>.istore D14_12 sto4 |>.iload D14_14 rfl |>.iloadN D14_16 rfl |>.icmpNo D14_17  |>.aloadN D14_20 rfl rfl |>.iloadN D14_21 rfl |>.iloadN D14_22 rfl
  have o5 := o3.keep K2 (ninS (nlt pr1.lt s_b1) nin0)
  have z4 := k.sz
  obtain ⟨_, h4, K4, ⟨u1_4, rfl, f4_0, f4_1⟩, k⟩ := (k.callS (w_104 hw) (S16 hw) (R_16_4 hw G o5) D14_23 0 rfl).kv
  replace k := k |>.astore D14_26 rfl sto5 |>.aload D14_28 rfl rfl |>.iload D14_30 rfl
  replace k := (k.callS (w_120 hw) (S20 hw) (R_20_1 hw G f4_1 (by decide) (by decide) (by decide) (by decide) (p2 := 3) (p3 := 8)) D14_32 0 rfl).pv
  replace k := k |>.top (y := (gcv (lo8 p5) (hi8 p5))) rfl |>.sipush D14_35 255 |>.icmpYes D14_38 (tlt pr6).2.2.1 |>.aload D14_54 rfl rfl
  have s_u1_4 := Nat.le_trans z4 f4_0
  exact k.retA D14_56 rfl ⟨_, rfl, ((K1.trans K2 (allS (Or.inr s_b1) all0)).trans K4 all0), u1_4, rfl, s_u1_4, f4_1⟩
theorem R_6_25 {a1 a2 : Addr} {p3 p4 p5 p6 : Int32} (hw : HW a0 Z) (G : Gl Z w_CS w_SF) (pr1 : Ary Z h0 a2 ATC 4 (bv (lvi [p3, p4, p5, p6]))) (pr2 : ¬ (255 < p3)) (pr3 : ¬ (255 < p4)) (pr4 : ¬ (255 < p5)) (pr5 : 255 < p6) (pr6 : 255 < (gcv (lo8 p6) (hi8 p6))) (pr7 : Obj Z h0 a1 L_String [.null, .int 0]) (pr8 : n0 ≤ a1) : Mt false [] l Y6 C6 (rmk 4 2 12 57) #[.ref a1, .ref a2, .int 0, .int 4, .null] Z a0 h0 n0 (K0 h0 [a1] fun h => ∃ u1 : Addr, h0.size ≤ u1 ∧ Obj Z h a1 L_String [.ref u1, .int 1] ∧ Ary Z h u1 ATB 8 (bv (lvi [(lo8 p3), (hi8 p3), (lo8 p4), (hi8 p4), (lo8 p5), (hi8 p5), (lo8 p6), (hi8 p6)]))) := by
  refine Mt.go PN6 (Or.inl rfl) ef_RRIIN_6 fun k => ?_
  replace k := k |>.aloadN D6_0 rfl rfl |>.initO (w_19 hw) (w_20 hw) (w_21 hw) D6_1 0 |>.iloadN D6_4 rfl |>.ifYes D6_5  |>.getS (fl_44 hw) G.S_CS D6_27 |>.ifNo D6_30 ((if0 _ _).trans (feq G.h_CS).1) |>.aloadN D6_33 rfl rfl |>.iloadN D6_34 rfl |>.iloadN D6_35 rfl
  have z1 := k.sz
  obtain ⟨_, h1, K1, ⟨u1_1, rfl, f1_0, f1_1⟩, k⟩ := (k.callS (w_63 hw) (S14 hw) (R_14_23 hw G pr1 pr2 pr3 pr4 pr5 pr6) D6_36 0 rfl).kv
  replace k := k |>.astore D6_39 rfl sto5 |>.aloadN D6_41 rfl rfl |>.aload D6_42 rfl rfl |>.iloadN D6_44 rfl
  replace k := (k.callS (w_70 hw) (S21 hw) (R_21_1 hw G f1_1 (by decide) (p2 := 4) (p3 := 8)) D6_45 1 rfl).pv
  replace k := k |>.top (y := 1) (by decide)
  have o3 := pr7.keep K1 nin0
  obtain ⟨h4, K4, O4, k⟩ := k.putN (fp_29 hw) (pw_String_i_String_coder hw) o3 1 pr8 (Or.inl rfl) D6_48 rfl (v' := (.int 1)) (by decide) (by decide) ls1
  replace k := k |>.aloadN D6_51 rfl rfl |>.aload D6_52 rfl rfl
  obtain ⟨h5, K5, O5, k⟩ := k.putF (fl_28 hw) (pw_String_i_String_value hw) O4 0 pr8 (Or.inl rfl) D6_54 rfl rfl rfl ls0
  have s_u1_1 := Nat.le_trans z1 f1_0
  have o6 := (f1_1.keep K4 (ninS (nlt' pr7.lt s_u1_1) nin0)).keep K5 (ninS (nlt' pr7.lt s_u1_1) nin0)
  exact k.ret0 D6_57 rfl ⟨rfl, ((((Keep.refl h0 [a1]).trans K1 all0).trans K4 (allS (Or.inl (List.mem_of_getElem? (i := 0) rfl)) all0)).trans K5 (allS (Or.inl (List.mem_of_getElem? (i := 0) rfl)) all0)), u1_1, s_u1_1, O5, o6⟩
theorem R_15_24 {a1 a2 : Addr} {p3 p4 p5 p6 : Int32} (hw : HW a0 Z) (G : Gl Z w_CS w_SF) (pr1 : Ary Z h0 a1 ATC 4 (bv (lvi [p3, p4, p5, p6]))) (pr2 : ¬ (255 < p3)) (pr3 : Ary Z h0 a2 ATB 4 (bv (lvi [0, 0, 0, 0]))) (pr4 : n0 ≤ a2) (pr5 : a1 ≠ a2) (pr6 : ¬ (255 < p4)) (pr7 : ¬ (255 < p5)) (pr8 : ¬ (255 < p6)) : Mt false [] l Y15 C15 (rmk 0 0 0 0) #[.ref a1, .int 0, .ref a2, .int 0, .int 4] Z a0 h0 n0 (KpV h0 [a2] fun v h => v = (.int 4) ∧ Ary Z h a2 ATB 4 (bv (lvi [(p3.toInt8.toInt32), (p4.toInt8.toInt32), (p5.toInt8.toInt32), (p6.toInt8.toInt32)]))) := by
  refine Mt.go PN15 (Or.inl rfl) ef_RIRII_7 fun k => ?_
  replace k := k |>.iconst D15_0 0 |>.istore D15_1 sto5 |>.iload D15_3 rfl |>.iload D15_5 rfl |>.icmpNo D15_7  |>.aloadN D15_10 rfl rfl |>.iloadN D15_11 rfl |>.cald pr1 D15_12 (i := 0) (by decide) big0 |>.istore D15_13 sto6 |>.iload D15_15 rfl |>.sipush D15_17 255 |>.icmpYes D15_20 (flt pr2).2.2.2
  replace k := k |>.aloadN D15_26 rfl rfl |>.iloadN D15_27 rfl |>.iload D15_28 rfl |>.i2b D15_30 rfl
  obtain ⟨h1, K1, O1, k⟩ := k.stB pr3 pr4 (Or.inl rfl) D15_31 (i := 0) (by decide) (v := (.int (p3.toInt8.toInt32))) (congrArg Value.int (own_nnBi2b _)) (own_fitBi2b _) bis0
  replace k := k |>.iinc D15_32 rfl (z := 1) (by decide) sto1 |>.iinc D15_35 rfl (z := 1) (by decide) sto3 |>.iinc D15_38 rfl (z := 1) (by decide) sto5 |>.goto D15_41 |>.iload D15_3 rfl |>.iload D15_5 rfl |>.icmpNo D15_7  |>.aloadN D15_10 rfl rfl |>.iloadN D15_11 rfl
  have o2 := pr1.keep K1 (ninS pr5 nin0)
  replace k := k |>.cald o2 D15_12 (i := 1) (by decide) big1 |>.istore D15_13 sto6 |>.iload D15_15 rfl |>.sipush D15_17 255 |>.icmpYes D15_20 (flt pr6).2.2.2 |>.aloadN D15_26 rfl rfl |>.iloadN D15_27 rfl |>.iload D15_28 rfl |>.i2b D15_30 rfl
  obtain ⟨h3, K3, O3, k⟩ := k.stB O1 pr4 (Or.inl rfl) D15_31 (i := 1) (by decide) (v := (.int (p4.toInt8.toInt32))) (congrArg Value.int (own_nnBi2b _)) (own_fitBi2b _) bis1
  replace k := k |>.iinc D15_32 rfl (z := 2) (by decide) sto1 |>.iinc D15_35 rfl (z := 2) (by decide) sto3 |>.iinc D15_38 rfl (z := 2) (by decide) sto5 |>.goto D15_41 |>.iload D15_3 rfl |>.iload D15_5 rfl |>.icmpNo D15_7  |>.aloadN D15_10 rfl rfl |>.iloadN D15_11 rfl
  have o4 := o2.keep K3 (ninS pr5 nin0)
  replace k := k |>.cald o4 D15_12 (i := 2) (by decide) big2 |>.istore D15_13 sto6 |>.iload D15_15 rfl |>.sipush D15_17 255 |>.icmpYes D15_20 (flt pr7).2.2.2 |>.aloadN D15_26 rfl rfl |>.iloadN D15_27 rfl |>.iload D15_28 rfl |>.i2b D15_30 rfl
  obtain ⟨h5, K5, O5, k⟩ := k.stB O3 pr4 (Or.inl rfl) D15_31 (i := 2) (by decide) (v := (.int (p5.toInt8.toInt32))) (congrArg Value.int (own_nnBi2b _)) (own_fitBi2b _) bis2
  replace k := k |>.iinc D15_32 rfl (z := 3) (by decide) sto1 |>.iinc D15_35 rfl (z := 3) (by decide) sto3 |>.iinc D15_38 rfl (z := 3) (by decide) sto5 |>.goto D15_41 |>.iload D15_3 rfl |>.iload D15_5 rfl |>.icmpNo D15_7  |>.aloadN D15_10 rfl rfl |>.iloadN D15_11 rfl
  have o6 := o4.keep K5 (ninS pr5 nin0)
  replace k := k |>.cald o6 D15_12 (i := 3) (by decide) big3 |>.istore D15_13 sto6 |>.iload D15_15 rfl |>.sipush D15_17 255 |>.icmpYes D15_20 (flt pr8).2.2.2 |>.aloadN D15_26 rfl rfl |>.iloadN D15_27 rfl |>.iload D15_28 rfl |>.i2b D15_30 rfl
  obtain ⟨h7, K7, O7, k⟩ := k.stB O5 pr4 (Or.inl rfl) D15_31 (i := 3) (by decide) (v := (.int (p6.toInt8.toInt32))) (congrArg Value.int (own_nnBi2b _)) (own_fitBi2b _) bis3
  replace k := k |>.iinc D15_32 rfl (z := 4) (by decide) sto1 |>.iinc D15_35 rfl (z := 4) (by decide) sto3 |>.iinc D15_38 rfl (z := 4) (by decide) sto5 |>.goto D15_41 |>.iload D15_3 rfl |>.iload D15_5 rfl |>.icmpYes D15_7  |>.iload D15_44 rfl
  exact k.retI D15_46 rfl ⟨_, rfl, (((K1.trans K3 (allS (Or.inl (List.mem_of_getElem? (i := 0) rfl)) all0)).trans K5 (allS (Or.inl (List.mem_of_getElem? (i := 0) rfl)) all0)).trans K7 (allS (Or.inl (List.mem_of_getElem? (i := 0) rfl)) all0)), rfl, O7⟩
theorem R_14_24 {a1 : Addr} {p2 p3 p4 p5 : Int32} (hw : HW a0 Z) (G : Gl Z w_CS w_SF) (pr1 : Ary Z h0 a1 ATC 4 (bv (lvi [p2, p3, p4, p5]))) (pr2 : ¬ (255 < p2)) (pr3 : ¬ (255 < p3)) (pr4 : ¬ (255 < p4)) (pr5 : ¬ (255 < p5)) : Mt false [] l Y14 C14 (rmk 1 1 4 18) #[.ref a1, .int 0, .int 4] Z a0 h0 n0 (KpV h0 [] fun v h => ∃ u1 : Addr, v = (.ref u1) ∧ h0.size ≤ u1 ∧ Ary Z h u1 ATB 4 (bv (lvi [(p2.toInt8.toInt32), (p3.toInt8.toInt32), (p4.toInt8.toInt32), (p5.toInt8.toInt32)]))) := by
  refine Mt.go PN14 (Or.inl rfl) ef_RII_6 fun k => ?_
  have nz := k.n0le
  replace k := k |>.iloadN D14_0 rfl
  have z1 := k.sz
  obtain ⟨b1, h1, g1, K1, O1, k⟩ := k.newP (aty := .byte) "[B" (w_23 hw) (by decide) D14_1 4 (by decide) (n := 4) (by decide) (by decide) (by decide) (bi_const (L := [0, 0, 0, 0]) rfl)
  replace k := k |>.astoreN D14_3 rfl sto3 |>.aloadN D14_4 rfl rfl |>.iloadN D14_5 rfl |>.aloadN D14_6 rfl rfl |>.iconst D14_7 0 |>.iloadN D14_8 rfl
  have s_b1 := Nat.le_trans z1 g1
  have n_b1 := Nat.le_trans nz s_b1
  have o3 := pr1.keep K1 nin0
  obtain ⟨_, h2, K2, ⟨rfl, f2_0⟩, k⟩ := (k.callS (w_67 hw) (S15 hw) (R_15_24 hw G o3 pr2 O1 n_b1 (nlt pr1.lt s_b1) pr3 pr4 pr5) D14_9 0 rfl).kv (allS n_b1 all0)
  replace k := k |>.istore D14_12 sto4 |>.iload D14_14 rfl |>.iloadN D14_16 rfl |>.icmpYes D14_17  |>.aloadN D14_57 rfl rfl
  exact k.retA D14_58 rfl ⟨_, rfl, (K1.trans K2 (allS (Or.inr s_b1) all0)), b1, rfl, s_b1, f2_0⟩
theorem R_6_26 {a1 a2 : Addr} {p3 p4 p5 p6 : Int32} (hw : HW a0 Z) (G : Gl Z w_CS w_SF) (pr1 : Ary Z h0 a2 ATC 4 (bv (lvi [p3, p4, p5, p6]))) (pr2 : ¬ (255 < p3)) (pr3 : ¬ (255 < p4)) (pr4 : ¬ (255 < p5)) (pr5 : ¬ (255 < p6)) (pr6 : Obj Z h0 a1 L_String [.null, .int 0]) (pr7 : n0 ≤ a1) : Mt false [] l Y6 C6 (rmk 2 1 4 35) #[.ref a1, .ref a2, .int 0, .int 4, .null] Z a0 h0 n0 (K0 h0 [a1] fun h => ∃ u1 : Addr, h0.size ≤ u1 ∧ Obj Z h a1 L_String [.ref u1, .int 0] ∧ Ary Z h u1 ATB 4 (bv (lvi [(p3.toInt8.toInt32), (p4.toInt8.toInt32), (p5.toInt8.toInt32), (p6.toInt8.toInt32)]))) := by
  refine Mt.go PN6 (Or.inl rfl) ef_RRIIN_6 fun k => ?_
  replace k := k |>.aloadN D6_0 rfl rfl |>.initO (w_19 hw) (w_20 hw) (w_21 hw) D6_1 0 |>.iloadN D6_4 rfl |>.ifYes D6_5  |>.getS (fl_44 hw) G.S_CS D6_27 |>.ifNo D6_30 ((if0 _ _).trans (feq G.h_CS).1) |>.aloadN D6_33 rfl rfl |>.iloadN D6_34 rfl |>.iloadN D6_35 rfl
  have z1 := k.sz
  obtain ⟨_, h1, K1, ⟨u1_1, rfl, f1_0, f1_1⟩, k⟩ := (k.callS (w_63 hw) (S14 hw) (R_14_24 hw G pr1 pr2 pr3 pr4 pr5) D6_36 0 rfl).kv
  replace k := k |>.astore D6_39 rfl sto5 |>.aloadN D6_41 rfl rfl |>.aload D6_42 rfl rfl |>.iloadN D6_44 rfl
  replace k := (k.callS (w_70 hw) (S21 hw) (R_21_1 hw G f1_1 (by decide) (p2 := 4) (p3 := 4)) D6_45 1 rfl).pv
  replace k := k |>.top (y := 0) (by decide)
  have o3 := pr6.keep K1 nin0
  obtain ⟨h4, K4, O4, k⟩ := k.putN (fp_29 hw) (pw_String_i_String_coder hw) o3 1 pr7 (Or.inl rfl) D6_48 rfl (v' := (.int 0)) (by decide) (by decide) ls1
  replace k := k |>.aloadN D6_51 rfl rfl |>.aload D6_52 rfl rfl
  obtain ⟨h5, K5, O5, k⟩ := k.putF (fl_28 hw) (pw_String_i_String_value hw) O4 0 pr7 (Or.inl rfl) D6_54 rfl rfl rfl ls0
  have s_u1_1 := Nat.le_trans z1 f1_0
  have o6 := (f1_1.keep K4 (ninS (nlt' pr6.lt s_u1_1) nin0)).keep K5 (ninS (nlt' pr6.lt s_u1_1) nin0)
  exact k.ret0 D6_57 rfl ⟨rfl, ((((Keep.refl h0 [a1]).trans K1 all0).trans K4 (allS (Or.inl (List.mem_of_getElem? (i := 0) rfl)) all0)).trans K5 (allS (Or.inl (List.mem_of_getElem? (i := 0) rfl)) all0)), u1_1, s_u1_1, O5, o6⟩
theorem R_newS4 {a1 a2 : Addr} {c0 c1 c2 c3 : Int32} (hw : HW a0 Z) (G : Gl Z w_CS w_SF) (O : Obj Z h0 a1 L_String [.null, .int 0]) (A : Ary Z h0 a2 ATC 4 (bv (lvi [c0, c1, c2, c3]))) (N : n0 ≤ a1) (g0a : ¬ (c0 < 0)) (g0b : c0 < 65536) (g1a : ¬ (c1 < 0)) (g1b : c1 < 65536) (g2a : ¬ (c2 < 0)) (g2b : c2 < 65536) (g3a : ¬ (c3 < 0)) (g3b : c3 < 65536) : Mt false [] l Y5 C5 (rmk 5 2 12 74) #[.ref a1, .ref a2] Z a0 h0 n0 (K0 h0 [a1] fun h => ∃ u : Addr, Str Z h a1 u [c0, c1, c2, c3]) := by
  refine Mt.go PN5 (Or.inl rfl) ef_RR_2 fun k => ?_
  replace k := k |>.aloadN D5_0 rfl rfl |>.aloadN D5_1 rfl rfl |>.iconst D5_2 0 |>.aloadN D5_3 rfl rfl |>.alen A D5_4 (z := 4) (by decide) |>.aconstNull D5_5
  by_cases hs1 : 255 < c0
  · have z2 := k.sz
    obtain ⟨h2, K2, ⟨u1_2, f2_0, f2_1, f2_2⟩, k⟩ := (k.callI (w_15 hw) (I6 hw) (R_6_19 hw G A hs1 (own_d6 rfl g0a g0b hs1) O N) D5_6 0 rfl).k0 (allS N all0)
    exact k.ret0 D5_9 rfl ⟨rfl, K2, u1_2, ⟨⟨⟨g0a, g0b⟩, ⟨⟨g1a, g1b⟩, ⟨⟨g2a, g2b⟩, ⟨⟨g3a, g3b⟩, trivial⟩⟩⟩⟩, Or.inr ⟨f2_1, f2_2, Or.inl hs1⟩⟩⟩
  · by_cases hs3 : 255 < c1
    · have z4 := k.sz
      obtain ⟨h4, K4, ⟨u1_4, f4_0, f4_1, f4_2⟩, k⟩ := (k.callI (w_15 hw) (I6 hw) (R_6_21 hw G A hs1 hs3 (own_d20 rfl g1a g1b hs3) O N) D5_6 0 rfl).k0 (allS N all0)
      exact k.ret0 D5_9 rfl ⟨rfl, K4, u1_4, ⟨⟨⟨g0a, g0b⟩, ⟨⟨g1a, g1b⟩, ⟨⟨g2a, g2b⟩, ⟨⟨g3a, g3b⟩, trivial⟩⟩⟩⟩, Or.inr ⟨f4_1, f4_2, Or.inr ⟨hs1, Or.inl hs3⟩⟩⟩⟩
    · by_cases hs5 : 255 < c2
      · have z6 := k.sz
        obtain ⟨h6, K6, ⟨u1_6, f6_0, f6_1, f6_2⟩, k⟩ := (k.callI (w_15 hw) (I6 hw) (R_6_23 hw G A hs1 hs3 hs5 (own_d34 rfl g2a g2b hs5) O N) D5_6 0 rfl).k0 (allS N all0)
        exact k.ret0 D5_9 rfl ⟨rfl, K6, u1_6, ⟨⟨⟨g0a, g0b⟩, ⟨⟨g1a, g1b⟩, ⟨⟨g2a, g2b⟩, ⟨⟨g3a, g3b⟩, trivial⟩⟩⟩⟩, Or.inr ⟨f6_1, f6_2, Or.inr ⟨hs1, Or.inr ⟨hs3, Or.inl hs5⟩⟩⟩⟩⟩
      · by_cases hs7 : 255 < c3
        · have z8 := k.sz
          obtain ⟨h8, K8, ⟨u1_8, f8_0, f8_1, f8_2⟩, k⟩ := (k.callI (w_15 hw) (I6 hw) (R_6_25 hw G A hs1 hs3 hs5 hs7 (own_d52 rfl g3a g3b hs7) O N) D5_6 0 rfl).k0 (allS N all0)
          exact k.ret0 D5_9 rfl ⟨rfl, K8, u1_8, ⟨⟨⟨g0a, g0b⟩, ⟨⟨g1a, g1b⟩, ⟨⟨g2a, g2b⟩, ⟨⟨g3a, g3b⟩, trivial⟩⟩⟩⟩, Or.inr ⟨f8_1, f8_2, Or.inr ⟨hs1, Or.inr ⟨hs3, Or.inr ⟨hs5, Or.inl hs7⟩⟩⟩⟩⟩⟩
        · have z9 := k.sz
          obtain ⟨h9, K9, ⟨u1_9, f9_0, f9_1, f9_2⟩, k⟩ := (k.callI (w_15 hw) (I6 hw) (R_6_26 hw G A hs1 hs3 hs5 hs7 O N) D5_6 0 rfl).k0 (allS N all0)
          exact k.ret0 D5_9 rfl ⟨rfl, K9, u1_9, ⟨⟨⟨g0a, g0b⟩, ⟨⟨g1a, g1b⟩, ⟨⟨g2a, g2b⟩, ⟨⟨g3a, g3b⟩, trivial⟩⟩⟩⟩, Or.inl ⟨_, f9_1, f9_2, ⟨hs1, ⟨hs3, ⟨hs5, ⟨hs7, trivial⟩⟩⟩⟩⟩⟩⟩
theorem own_d53 {p5 v0 v1 v2 : Int32} (e0 : v0 = (drw p5)) (e1 : v1 = (nar .char v0)) (e2 : v2 = (nar .char v1)) : ¬ (v2 < 0) := by
  have := e_drw e0
  have := e_i2cN e1 (by omega)
  have := e_i2cN e2 (by omega)
  have : (0 : Int32).toInt = 0 := by decide
  exact o_nlt (by omega)
theorem own_d54 {p5 v0 v1 v2 : Int32} (e0 : v0 = (drw p5)) (e1 : v1 = (nar .char v0)) (e2 : v2 = (nar .char v1)) : v2 < 65536 := by
  have := e_drw e0
  have := e_i2cN e1 (by omega)
  have := e_i2cN e2 (by omega)
  have : (65536 : Int32).toInt = 65536 := by decide
  exact o_lt (by omega)
theorem R_len4 {a1 a2 : Addr} {c0 c1 c2 c3 : Int32} (hw : HW a0 Z) (G : Gl Z w_CS w_SF) (S : Str Z h0 a1 a2 [c0, c1, c2, c3]) : Mt false [] l Y8 C8 (rmk 1 0 0 13) #[.ref a1] Z a0 h0 n0 (Pv h0 (.int 4)) := by
  refine Mt.go PN8 (Or.inl rfl) ef_R_1 fun k => ?_
  obtain ⟨⟨⟨g0a, g0b⟩, ⟨g1a, g1b⟩, ⟨g2a, g2b⟩, ⟨g3a, g3b⟩, -⟩, S⟩ := S
  rcases S with ⟨T, O, A, hl⟩ | ⟨O, A, -⟩
  · obtain ⟨l0, l1, l2, l3, -⟩ := hl
    have A : Ary Z h0 a2 (T, .byte) 4 (bv (lvi [(c0.toInt8.toInt32), (c1.toInt8.toInt32), (c2.toInt8.toInt32), (c3.toInt8.toInt32)])) := A
    replace k := k |>.aloadN D8_0 rfl rfl |>.getF (fl_28 hw) O 0 D8_1 rfl rfl |>.alen A D8_4 (z := 4) (by decide) |>.aloadN D8_5 rfl rfl
    replace k := (k.callV (w_39 hw) (V_Y9_9_String hw) O.exa (R_9_1 hw G O) D8_6 1 rfl).pv
    replace k := k |>.ishr D8_9 (z := 4)
    exact k.retI D8_10 rfl ⟨rfl, rfl⟩
  · have A : Ary Z h0 a2 ATB 8 (bv (lvi [(lo8 c0), (hi8 c0), (lo8 c1), (hi8 c1), (lo8 c2), (hi8 c2), (lo8 c3), (hi8 c3)])) := A
    replace k := k |>.aloadN D8_0 rfl rfl |>.getF (fl_28 hw) O 0 D8_1 rfl rfl |>.alen A D8_4 (z := 8) (by decide) |>.aloadN D8_5 rfl rfl
    replace k := (k.callV (w_39 hw) (V_Y9_9_String hw) O.exa (R_9_2 hw G O) D8_6 1 rfl).pv
    replace k := k |>.ishr D8_9 (z := 4)
    exact k.retI D8_10 rfl ⟨rfl, rfl⟩
theorem R_chr4_0 {a1 a2 : Addr} {c0 c1 c2 c3 : Int32} (hw : HW a0 Z) (G : Gl Z w_CS w_SF) (S : Str Z h0 a1 a2 [c0, c1, c2, c3]) : Mt false [] l Y22 C22 (rmk 4 0 0 53) #[.ref a1, .int 0] Z a0 h0 n0 (Pv h0 (.int c0)) := by
  refine Mt.go PN22 (Or.inl rfl) ef_RI_2 fun k => ?_
  obtain ⟨⟨⟨g0a, g0b⟩, ⟨g1a, g1b⟩, ⟨g2a, g2b⟩, ⟨g3a, g3b⟩, -⟩, S⟩ := S
  rcases S with ⟨T, O, A, hl⟩ | ⟨O, A, -⟩
  · obtain ⟨l0, l1, l2, l3, -⟩ := hl
    have A : Ary Z h0 a2 (T, .byte) 4 (bv (lvi [(c0.toInt8.toInt32), (c1.toInt8.toInt32), (c2.toInt8.toInt32), (c3.toInt8.toInt32)])) := A
    replace k := k |>.aloadN D22_0 rfl rfl
    replace k := (k.callV (w_78 hw) (V_Y23_23_String hw) O.exa (R_23_1 hw G O) D22_1 0 rfl).pv
    replace k := k |>.ifNo D22_4  |>.aloadN D22_7 rfl rfl |>.getF (fl_28 hw) O 0 D22_8 rfl rfl |>.iloadN D22_11 rfl
    replace k := (k.callS (w_83 hw) (S24 hw) (R_24_1 hw G A (by decide) (by decide) (by decide) (p2 := 0) (p3 := 4)) D22_12 0 rfl).pv
    replace k := k |>.top (y := (latc (c0.toInt8.toInt32))) rfl
    exact k.retN (t := .char) D22_15 rfl (by simp) (own_nnCi2c _) ⟨congrArg some (congrArg Value.int (own_d9 rfl g0a g0b l0)), rfl⟩
  · have A : Ary Z h0 a2 ATB 8 (bv (lvi [(lo8 c0), (hi8 c0), (lo8 c1), (hi8 c1), (lo8 c2), (hi8 c2), (lo8 c3), (hi8 c3)])) := A
    replace k := k |>.aloadN D22_0 rfl rfl
    replace k := (k.callV (w_78 hw) (V_Y23_23_String hw) O.exa (R_23_2 hw G O) D22_1 0 rfl).pv
    replace k := k |>.ifYes D22_4  |>.aloadN D22_16 rfl rfl |>.getF (fl_28 hw) O 0 D22_17 rfl rfl |>.iloadN D22_20 rfl
    replace k := (k.callS (w_123 hw) (S27 hw) (R_27_1 hw G A (by decide) (by decide) (by decide) (by decide) (by decide) (by decide) (by decide) (p2 := 0) (p3 := 8)) D22_21 0 rfl).pv
    replace k := k |>.top (y := (gcv (lo8 c0) (hi8 c0))) rfl
    exact k.retN (t := .char) D22_24 rfl (by simp) (own_nnCi2c _) ⟨congrArg some (congrArg Value.int (own_d10 rfl g0a g0b)), rfl⟩
theorem own_d55 {c3 v0 : Int32} (e0 : v0 = (latc (c3.toInt8.toInt32))) (q0 : ¬ (c3 < 0)) (q1 : c3 < 65536) (q2 : ¬ (255 < c3)) : v0 = c3 := by
  have := rng32 c3
  have : (0 : Int32).toInt = 0 := by decide
  have := i_nlt q0
  have : (65536 : Int32).toInt = 65536 := by decide
  have := i_lt q1
  have : (255 : Int32).toInt = 255 := by decide
  have := i_nlt q2
  have := e_lat e0 (by omega) (by omega)
  exact o_eq (by omega)
theorem own_d56 {c3 v0 : Int32} (e0 : v0 = (gcv (lo8 c3) (hi8 c3))) (q0 : ¬ (c3 < 0)) (q1 : c3 < 65536) : v0 = c3 := by
  have := rng32 c3
  have : (0 : Int32).toInt = 0 := by decide
  have := i_nlt q0
  have : (65536 : Int32).toInt = 65536 := by decide
  have := i_lt q1
  have := e_gc e0 (by omega) (by omega)
  exact o_eq (by omega)
theorem R_chr4_3 {a1 a2 : Addr} {c0 c1 c2 c3 : Int32} (hw : HW a0 Z) (G : Gl Z w_CS w_SF) (S : Str Z h0 a1 a2 [c0, c1, c2, c3]) : Mt false [] l Y22 C22 (rmk 4 0 0 53) #[.ref a1, .int 3] Z a0 h0 n0 (Pv h0 (.int c3)) := by
  refine Mt.go PN22 (Or.inl rfl) ef_RI_2 fun k => ?_
  obtain ⟨⟨⟨g0a, g0b⟩, ⟨g1a, g1b⟩, ⟨g2a, g2b⟩, ⟨g3a, g3b⟩, -⟩, S⟩ := S
  rcases S with ⟨T, O, A, hl⟩ | ⟨O, A, -⟩
  · obtain ⟨l0, l1, l2, l3, -⟩ := hl
    have A : Ary Z h0 a2 (T, .byte) 4 (bv (lvi [(c0.toInt8.toInt32), (c1.toInt8.toInt32), (c2.toInt8.toInt32), (c3.toInt8.toInt32)])) := A
    replace k := k |>.aloadN D22_0 rfl rfl
    replace k := (k.callV (w_78 hw) (V_Y23_23_String hw) O.exa (R_23_1 hw G O) D22_1 0 rfl).pv
    replace k := k |>.ifNo D22_4  |>.aloadN D22_7 rfl rfl |>.getF (fl_28 hw) O 0 D22_8 rfl rfl |>.iloadN D22_11 rfl
    replace k := (k.callS (w_83 hw) (S24 hw) (R_24_1 hw G A (by decide) (by decide) (by decide) (p2 := 3) (p3 := 4)) D22_12 0 rfl).pv
    replace k := k |>.top (y := (latc (c3.toInt8.toInt32))) rfl
    exact k.retN (t := .char) D22_15 rfl (by simp) (own_nnCi2c _) ⟨congrArg some (congrArg Value.int (own_d55 rfl g3a g3b l3)), rfl⟩
  · have A : Ary Z h0 a2 ATB 8 (bv (lvi [(lo8 c0), (hi8 c0), (lo8 c1), (hi8 c1), (lo8 c2), (hi8 c2), (lo8 c3), (hi8 c3)])) := A
    replace k := k |>.aloadN D22_0 rfl rfl
    replace k := (k.callV (w_78 hw) (V_Y23_23_String hw) O.exa (R_23_2 hw G O) D22_1 0 rfl).pv
    replace k := k |>.ifYes D22_4  |>.aloadN D22_16 rfl rfl |>.getF (fl_28 hw) O 0 D22_17 rfl rfl |>.iloadN D22_20 rfl
    replace k := (k.callS (w_123 hw) (S27 hw) (R_27_1 hw G A (by decide) (by decide) (by decide) (by decide) (by decide) (by decide) (by decide) (p2 := 3) (p3 := 8)) D22_21 0 rfl).pv
    replace k := k |>.top (y := (gcv (lo8 c3) (hi8 c3))) rfl
    exact k.retN (t := .char) D22_24 rfl (by simp) (own_nnCi2c _) ⟨congrArg some (congrArg Value.int (own_d56 rfl g3a g3b)), rfl⟩
theorem R_8_8 {a1 a2 : Addr} {p3 p4 p5 p6 : Int32} (hw : HW a0 Z) (G : Gl Z w_CS w_SF) (pr1 : Obj Z h0 a1 litL [.ref a2, .int 0]) (pr2 : Ary Z h0 a2 (T, .byte) 4 (bv (lvi [p3, p4, p5, p6]))) : Mt false [] l Y8 C8 (rmk 1 0 0 13) #[.ref a1] Z a0 h0 n0 (Pv h0 (.int 4)) := by
  refine Mt.go PN8 (Or.inl rfl) ef_R_1 fun k => ?_
  replace k := k |>.aloadN D8_0 rfl rfl |>.getF (fl_28 hw) pr1 0 D8_1 rfl rfl |>.alen pr2 D8_4 (z := 4) (by decide) |>.aloadN D8_5 rfl rfl
  replace k := (k.callV (w_39 hw) (V_Y9_9_String hw) pr1.exa (R_9_1 hw G pr1) D8_6 1 rfl).pv
  replace k := k |>.ishr D8_9 (z := 4)
  exact k.retI D8_10 rfl ⟨rfl, rfl⟩
theorem R_8_9 {a1 a2 : Addr} {p3 p4 p5 p6 p7 p8 p9 p10 : Int32} (hw : HW a0 Z) (G : Gl Z w_CS w_SF) (pr1 : Obj Z h0 a1 litL [.ref a2, .int 1]) (pr2 : Ary Z h0 a2 ATB 8 (bv (lvi [p3, p4, p5, p6, p7, p8, p9, p10]))) : Mt false [] l Y8 C8 (rmk 1 0 0 13) #[.ref a1] Z a0 h0 n0 (Pv h0 (.int 4)) := by
  refine Mt.go PN8 (Or.inl rfl) ef_R_1 fun k => ?_
  replace k := k |>.aloadN D8_0 rfl rfl |>.getF (fl_28 hw) pr1 0 D8_1 rfl rfl |>.alen pr2 D8_4 (z := 8) (by decide) |>.aloadN D8_5 rfl rfl
  replace k := (k.callV (w_39 hw) (V_Y9_9_String hw) pr1.exa (R_9_2 hw G pr1) D8_6 1 rfl).pv
  replace k := k |>.ishr D8_9 (z := 4)
  exact k.retI D8_10 rfl ⟨rfl, rfl⟩
theorem R_sub4_0_4 {a1 a2 : Addr} {c0 c1 c2 c3 : Int32} (hw : HW a0 Z) (G : Gl Z w_CS w_SF) (S : Str Z h0 a1 a2 [c0, c1, c2, c3]) : Mt false [] l Y10 C10 (rmk 2 0 0 29) #[.ref a1, .int 0, .int 4] Z a0 h0 n0 (KpV h0 [] fun v h => ∃ u w : Addr, v = .ref u ∧ Str Z h u w [c0, c1, c2, c3]) := by
  refine Mt.go PN10 (Or.inl rfl) ef_RII_5 fun k => ?_
  have S0 := S
  obtain ⟨⟨⟨g0a, g0b⟩, ⟨g1a, g1b⟩, ⟨g2a, g2b⟩, ⟨g3a, g3b⟩, -⟩, S⟩ := S
  rcases S with ⟨T, O, A, hl⟩ | ⟨O, A, -⟩
  · obtain ⟨l0, l1, l2, l3, -⟩ := hl
    have A : Ary Z h0 a2 (T, .byte) 4 (bv (lvi [(c0.toInt8.toInt32), (c1.toInt8.toInt32), (c2.toInt8.toInt32), (c3.toInt8.toInt32)])) := A
    replace k := k |>.aloadN D10_0 rfl rfl
    replace k := (k.callV (w_50 hw) (V_Y8_8_String hw) O.exa (R_8_8 hw G O A) D10_1 0 rfl).pv
    replace k := k |>.istoreN D10_4 sto3 |>.iloadN D10_5 rfl |>.iloadN D10_6 rfl |>.iloadN D10_7 rfl
    replace k := (k.callS (w_51 hw) (S11 hw) (R_11_1 hw G (by decide) (by decide) (by decide) (p1 := 0) (p2 := 4) (p3 := 4)) D10_8 0 rfl).p0
    replace k := k |>.iloadN D10_11 rfl |>.ifNo D10_12  |>.iloadN D10_15 rfl |>.iloadN D10_16 rfl |>.icmpNo D10_17  |>.aloadN D10_20 rfl rfl
    exact k.retA D10_21 rfl ⟨_, rfl, (Keep.refl h0 []), a1, a2, rfl, S0⟩
  · have A : Ary Z h0 a2 ATB 8 (bv (lvi [(lo8 c0), (hi8 c0), (lo8 c1), (hi8 c1), (lo8 c2), (hi8 c2), (lo8 c3), (hi8 c3)])) := A
    replace k := k |>.aloadN D10_0 rfl rfl
    replace k := (k.callV (w_50 hw) (V_Y8_8_String hw) O.exa (R_8_9 hw G O A) D10_1 0 rfl).pv
    replace k := k |>.istoreN D10_4 sto3 |>.iloadN D10_5 rfl |>.iloadN D10_6 rfl |>.iloadN D10_7 rfl
    replace k := (k.callS (w_51 hw) (S11 hw) (R_11_1 hw G (by decide) (by decide) (by decide) (p1 := 0) (p2 := 4) (p3 := 4)) D10_8 0 rfl).p0
    replace k := k |>.iloadN D10_11 rfl |>.ifNo D10_12  |>.iloadN D10_15 rfl |>.iloadN D10_16 rfl |>.icmpNo D10_17  |>.aloadN D10_20 rfl rfl
    exact k.retA D10_21 rfl ⟨_, rfl, (Keep.refl h0 []), a1, a2, rfl, S0⟩
theorem R_7_30 {a1 a2 : Addr} {p3 p4 p5 p6 : Int32} (hw : HW a0 Z) (G : Gl Z w_CS w_SF) (pr1 : Str Z h0 a1 a2 [p3, p4, p5, p6]) (pr2 : (bl p3) = 0) (pr3 : (bl p6) = 0) : Mt false [] l Y7 C7 (rmk 5 0 0 66) #[.ref a1] Z a0 h0 n0 (KpV h0 [] fun v h => ∃ u1 u2 : Addr, v = (.ref u1) ∧ Str Z h u1 u2 [p3, p4, p5, p6]) := by
  refine Mt.go PN7 (Or.inl rfl) ef_R_3 fun k => ?_
  replace k := k |>.iconst D7_0 0 |>.istoreN D7_1 sto1 |>.aloadN D7_2 rfl rfl
  replace k := (k.callV (w_34 hw) (V_Y8_8_String hw) pr1.exa (R_len4 hw G pr1) D7_3 0 rfl).pv
  replace k := k |>.istoreN D7_6 sto2 |>.iloadN D7_7 rfl |>.iloadN D7_8 rfl |>.icmpNo D7_9  |>.aloadN D7_12 rfl rfl |>.iloadN D7_13 rfl
  replace k := (k.callV (w_73 hw) (V_Y22_22_String hw) pr1.exa (R_chr4_0 hw G pr1) D7_14 0 rfl).pv
  replace k := (k.callS (w_93 hw) (S2 hw) (R_own_isBlank hw G) D7_17 0 rfl).pv
  replace k := k |>.ifYes D7_20 ((if0 _ _).trans (teq pr2).1) |>.iloadN D7_29 rfl |>.iloadN D7_30 rfl |>.icmpNo D7_31  |>.aloadN D7_34 rfl rfl |>.iloadN D7_35 rfl |>.iconst D7_36 1 |>.isub D7_37 (z := 3)
  replace k := (k.callV (w_73 hw) (V_Y22_22_String hw) pr1.exa (R_chr4_3 hw G pr1) D7_38 0 rfl).pv
  replace k := (k.callS (w_93 hw) (S2 hw) (R_own_isBlank hw G) D7_41 0 rfl).pv
  replace k := k |>.ifYes D7_44 ((if0 _ _).trans (teq pr3).1) |>.aloadN D7_53 rfl rfl |>.iloadN D7_54 rfl |>.iloadN D7_55 rfl
  obtain ⟨_, h1, K1, ⟨u1, w1, rfl, S1⟩, k⟩ := (k.callV (w_45 hw) (V_Y10_10_String hw) pr1.exa (R_sub4_0_4 hw G pr1) D7_56 0 rfl).kv
  exact k.retA D7_59 rfl ⟨_, rfl, K1, u1, w1, rfl, S1⟩
theorem own_d57 {p1 v0 v1 : Int32} (e0 : v0 = (p1 &&& 2147483647)) (e1 : v1 = (v0 % 5)) (q0 : ¬ (v1 = 0)) (q1 : ¬ (v1 = 1)) (q2 : ¬ (v1 = 2)) (q3 : ¬ (v1 = 3)) : 0 < v1 := by
  have := rng32 p1
  have : (2147483647 : Int32).toInt = 2147483647 := by decide
  have := e_mask e0 31 2147483648
  have : (5 : Int32).toInt = 5 := by decide
  have := e_iremN e1 5 (by omega)
  have : (0 : Int32).toInt = 0 := by decide
  have := i_neq q0
  have : (1 : Int32).toInt = 1 := by decide
  have := i_neq q1
  have : (2 : Int32).toInt = 2 := by decide
  have := i_neq q2
  have : (3 : Int32).toInt = 3 := by decide
  have := i_neq q3
  exact o_lt (by omega)
theorem own_d58 {p1 v0 v1 : Int32} (e0 : v0 = (p1 &&& 2147483647)) (e1 : v1 = (v0 % 5)) (q0 : ¬ (v1 = 0)) (q1 : ¬ (v1 = 1)) (q2 : ¬ (v1 = 2)) (q3 : ¬ (v1 = 3)) : 1 < v1 := by
  have := rng32 p1
  have : (2147483647 : Int32).toInt = 2147483647 := by decide
  have := e_mask e0 31 2147483648
  have : (5 : Int32).toInt = 5 := by decide
  have := e_iremN e1 5 (by omega)
  have : (0 : Int32).toInt = 0 := by decide
  have := i_neq q0
  have : (1 : Int32).toInt = 1 := by decide
  have := i_neq q1
  have : (2 : Int32).toInt = 2 := by decide
  have := i_neq q2
  have : (3 : Int32).toInt = 3 := by decide
  have := i_neq q3
  exact o_lt (by omega)
theorem own_d59 {p1 v0 v1 : Int32} (e0 : v0 = (p1 &&& 2147483647)) (e1 : v1 = (v0 % 5)) (q0 : ¬ (v1 = 0)) (q1 : ¬ (v1 = 1)) (q2 : ¬ (v1 = 2)) (q3 : ¬ (v1 = 3)) : 2 < v1 := by
  have := rng32 p1
  have : (2147483647 : Int32).toInt = 2147483647 := by decide
  have := e_mask e0 31 2147483648
  have : (5 : Int32).toInt = 5 := by decide
  have := e_iremN e1 5 (by omega)
  have : (0 : Int32).toInt = 0 := by decide
  have := i_neq q0
  have : (1 : Int32).toInt = 1 := by decide
  have := i_neq q1
  have : (2 : Int32).toInt = 2 := by decide
  have := i_neq q2
  have : (3 : Int32).toInt = 3 := by decide
  have := i_neq q3
  exact o_lt (by omega)
theorem own_d60 {p1 v0 v1 : Int32} (e0 : v0 = (p1 &&& 2147483647)) (e1 : v1 = (v0 % 5)) (q0 : ¬ (v1 = 0)) (q1 : ¬ (v1 = 1)) (q2 : ¬ (v1 = 2)) (q3 : ¬ (v1 = 3)) : 3 < v1 := by
  have := rng32 p1
  have : (2147483647 : Int32).toInt = 2147483647 := by decide
  have := e_mask e0 31 2147483648
  have : (5 : Int32).toInt = 5 := by decide
  have := e_iremN e1 5 (by omega)
  have : (0 : Int32).toInt = 0 := by decide
  have := i_neq q0
  have : (1 : Int32).toInt = 1 := by decide
  have := i_neq q1
  have : (2 : Int32).toInt = 2 := by decide
  have := i_neq q2
  have : (3 : Int32).toInt = 3 := by decide
  have := i_neq q3
  exact o_lt (by omega)
theorem D3_140 : Dc code 140 (.aload 6) 2 142 := ⟨at_140, rfl⟩
theorem D3_142 : Dc code 142 (.iconst 3) 1 143 := ⟨at_142, rfl⟩
theorem D3_143 : Dc code 143 .caload 1 144 := ⟨at_143, rfl⟩
theorem D3_144 : Dc code 144 (.invokestatic 29) 3 147 := ⟨at_144, rfl⟩
theorem D3_147 : Dj code 147 (.ifCond .ne 7) 7 150 154 := ⟨at_147, rfl, by decide, by decide⟩
theorem own_d61 {p5 v0 v1 v2 v3 v4 : Int32} (e0 : v0 = (drw p5)) (e1 : v1 = (nar .char v0)) (e2 : v2 = (nar .char v1)) (e3 : v3 = (bl v2)) (e4 : v4 = (bl v1)) (q0 : v3 = 0) : v4 = 0 := by
  have := e_drw e0
  have := e_i2cN e1 (by omega)
  have := e_i2cN e2 (by omega)
  have := e_bl e3
  have : (0 : Int32).toInt = 0 := by decide
  have := i_eq q0
  have := e_bl e4
  exact o_eq (by omega)
theorem D3_150 : Dc code 150 (.iconst 1) 1 151 := ⟨at_150, rfl⟩
theorem D3_151 : Dj code 151 (.goto 4) 4 154 155 := ⟨at_151, rfl, by decide, by decide⟩
theorem D3_202 : Dc code 202 (.iconst 4) 1 203 := ⟨at_202, rfl⟩
theorem D3_203 : Dj code 203 (.goto 32) 32 206 235 := ⟨at_203, rfl, by decide, by decide⟩
theorem R_13_29 {a1 a2 a3 : Addr} {p4 p5 p6 p7 p8 p9 p10 p11 : Int32} (hw : HW a0 Z) (G : Gl Z w_CS w_SF) (pr1 : Str Z h0 a1 a3 [p4, p5, p6, p7]) (pr2 : Ary Z h0 a2 ATC 4 (bv (lvi [p8, p9, p10, p11]))) (pr3 : p4 = p8) : Mt false [] l Y13 C13 (rmk 5 0 0 66) #[.ref a1, .int 0, .ref a2, .int 0] Z a0 h0 n0 (Pv h0 (.int 1)) := by
  refine Mt.go PN13 (Or.inl rfl) ef_RIRI_4 fun k => ?_
  replace k := k |>.iloadN D13_0 rfl |>.aloadN D13_1 rfl rfl
  replace k := (k.callV (w_59 hw) (V_Y8_8_String hw) pr1.exa (R_len4 hw G pr1) D13_2 1 rfl).pv
  replace k := k |>.icmpNo D13_5  |>.aloadN D13_8 rfl rfl |>.iloadN D13_9 rfl
  replace k := (k.callV (w_133 hw) (V_Y22_22_String hw) pr1.exa (R_chr4_0 hw G pr1) D13_10 0 rfl).pv
  replace k := k |>.aloadN D13_13 rfl rfl |>.iloadN D13_14 rfl |>.iloadN D13_15 rfl |>.iadd D13_16 (z := 0) |>.cald pr2 D13_17 (i := 0) (by decide) big0 |>.icmpNo D13_18 (teq pr3).2 |>.iconst D13_21 1 |>.goto D13_22
  exact k.retN (t := .boolean) D13_26 rfl (by simp) (z' := 1) (by decide) ⟨rfl, rfl⟩
theorem R_chr4_1 {a1 a2 : Addr} {c0 c1 c2 c3 : Int32} (hw : HW a0 Z) (G : Gl Z w_CS w_SF) (S : Str Z h0 a1 a2 [c0, c1, c2, c3]) : Mt false [] l Y22 C22 (rmk 4 0 0 53) #[.ref a1, .int 1] Z a0 h0 n0 (Pv h0 (.int c1)) := by
  refine Mt.go PN22 (Or.inl rfl) ef_RI_2 fun k => ?_
  obtain ⟨⟨⟨g0a, g0b⟩, ⟨g1a, g1b⟩, ⟨g2a, g2b⟩, ⟨g3a, g3b⟩, -⟩, S⟩ := S
  rcases S with ⟨T, O, A, hl⟩ | ⟨O, A, -⟩
  · obtain ⟨l0, l1, l2, l3, -⟩ := hl
    have A : Ary Z h0 a2 (T, .byte) 4 (bv (lvi [(c0.toInt8.toInt32), (c1.toInt8.toInt32), (c2.toInt8.toInt32), (c3.toInt8.toInt32)])) := A
    replace k := k |>.aloadN D22_0 rfl rfl
    replace k := (k.callV (w_78 hw) (V_Y23_23_String hw) O.exa (R_23_1 hw G O) D22_1 0 rfl).pv
    replace k := k |>.ifNo D22_4  |>.aloadN D22_7 rfl rfl |>.getF (fl_28 hw) O 0 D22_8 rfl rfl |>.iloadN D22_11 rfl
    replace k := (k.callS (w_83 hw) (S24 hw) (R_24_1 hw G A (by decide) (by decide) (by decide) (p2 := 1) (p3 := 4)) D22_12 0 rfl).pv
    replace k := k |>.top (y := (latc (c1.toInt8.toInt32))) rfl
    exact k.retN (t := .char) D22_15 rfl (by simp) (own_nnCi2c _) ⟨congrArg some (congrArg Value.int (own_d23 rfl g1a g1b l1)), rfl⟩
  · have A : Ary Z h0 a2 ATB 8 (bv (lvi [(lo8 c0), (hi8 c0), (lo8 c1), (hi8 c1), (lo8 c2), (hi8 c2), (lo8 c3), (hi8 c3)])) := A
    replace k := k |>.aloadN D22_0 rfl rfl
    replace k := (k.callV (w_78 hw) (V_Y23_23_String hw) O.exa (R_23_2 hw G O) D22_1 0 rfl).pv
    replace k := k |>.ifYes D22_4  |>.aloadN D22_16 rfl rfl |>.getF (fl_28 hw) O 0 D22_17 rfl rfl |>.iloadN D22_20 rfl
    replace k := (k.callS (w_123 hw) (S27 hw) (R_27_1 hw G A (by decide) (by decide) (by decide) (by decide) (by decide) (by decide) (by decide) (p2 := 1) (p3 := 8)) D22_21 0 rfl).pv
    replace k := k |>.top (y := (gcv (lo8 c1) (hi8 c1))) rfl
    exact k.retN (t := .char) D22_24 rfl (by simp) (own_nnCi2c _) ⟨congrArg some (congrArg Value.int (own_d24 rfl g1a g1b)), rfl⟩
theorem R_13_30 {a1 a2 a3 : Addr} {p4 p5 p6 p7 p8 p9 p10 p11 : Int32} (hw : HW a0 Z) (G : Gl Z w_CS w_SF) (pr1 : Str Z h0 a1 a3 [p4, p5, p6, p7]) (pr2 : Ary Z h0 a2 ATC 4 (bv (lvi [p8, p9, p10, p11]))) (pr3 : p5 = p9) : Mt false [] l Y13 C13 (rmk 5 0 0 66) #[.ref a1, .int 1, .ref a2, .int 0] Z a0 h0 n0 (Pv h0 (.int 1)) := by
  refine Mt.go PN13 (Or.inl rfl) ef_RIRI_4 fun k => ?_
  replace k := k |>.iloadN D13_0 rfl |>.aloadN D13_1 rfl rfl
  replace k := (k.callV (w_59 hw) (V_Y8_8_String hw) pr1.exa (R_len4 hw G pr1) D13_2 1 rfl).pv
  replace k := k |>.icmpNo D13_5  |>.aloadN D13_8 rfl rfl |>.iloadN D13_9 rfl
  replace k := (k.callV (w_133 hw) (V_Y22_22_String hw) pr1.exa (R_chr4_1 hw G pr1) D13_10 0 rfl).pv
  replace k := k |>.aloadN D13_13 rfl rfl |>.iloadN D13_14 rfl |>.iloadN D13_15 rfl |>.iadd D13_16 (z := 1) |>.cald pr2 D13_17 (i := 1) (by decide) big1 |>.icmpNo D13_18 (teq pr3).2 |>.iconst D13_21 1 |>.goto D13_22
  exact k.retN (t := .boolean) D13_26 rfl (by simp) (z' := 1) (by decide) ⟨rfl, rfl⟩
theorem R_chr4_2 {a1 a2 : Addr} {c0 c1 c2 c3 : Int32} (hw : HW a0 Z) (G : Gl Z w_CS w_SF) (S : Str Z h0 a1 a2 [c0, c1, c2, c3]) : Mt false [] l Y22 C22 (rmk 4 0 0 53) #[.ref a1, .int 2] Z a0 h0 n0 (Pv h0 (.int c2)) := by
  refine Mt.go PN22 (Or.inl rfl) ef_RI_2 fun k => ?_
  obtain ⟨⟨⟨g0a, g0b⟩, ⟨g1a, g1b⟩, ⟨g2a, g2b⟩, ⟨g3a, g3b⟩, -⟩, S⟩ := S
  rcases S with ⟨T, O, A, hl⟩ | ⟨O, A, -⟩
  · obtain ⟨l0, l1, l2, l3, -⟩ := hl
    have A : Ary Z h0 a2 (T, .byte) 4 (bv (lvi [(c0.toInt8.toInt32), (c1.toInt8.toInt32), (c2.toInt8.toInt32), (c3.toInt8.toInt32)])) := A
    replace k := k |>.aloadN D22_0 rfl rfl
    replace k := (k.callV (w_78 hw) (V_Y23_23_String hw) O.exa (R_23_1 hw G O) D22_1 0 rfl).pv
    replace k := k |>.ifNo D22_4  |>.aloadN D22_7 rfl rfl |>.getF (fl_28 hw) O 0 D22_8 rfl rfl |>.iloadN D22_11 rfl
    replace k := (k.callS (w_83 hw) (S24 hw) (R_24_1 hw G A (by decide) (by decide) (by decide) (p2 := 2) (p3 := 4)) D22_12 0 rfl).pv
    replace k := k |>.top (y := (latc (c2.toInt8.toInt32))) rfl
    exact k.retN (t := .char) D22_15 rfl (by simp) (own_nnCi2c _) ⟨congrArg some (congrArg Value.int (own_d37 rfl g2a g2b l2)), rfl⟩
  · have A : Ary Z h0 a2 ATB 8 (bv (lvi [(lo8 c0), (hi8 c0), (lo8 c1), (hi8 c1), (lo8 c2), (hi8 c2), (lo8 c3), (hi8 c3)])) := A
    replace k := k |>.aloadN D22_0 rfl rfl
    replace k := (k.callV (w_78 hw) (V_Y23_23_String hw) O.exa (R_23_2 hw G O) D22_1 0 rfl).pv
    replace k := k |>.ifYes D22_4  |>.aloadN D22_16 rfl rfl |>.getF (fl_28 hw) O 0 D22_17 rfl rfl |>.iloadN D22_20 rfl
    replace k := (k.callS (w_123 hw) (S27 hw) (R_27_1 hw G A (by decide) (by decide) (by decide) (by decide) (by decide) (by decide) (by decide) (p2 := 2) (p3 := 8)) D22_21 0 rfl).pv
    replace k := k |>.top (y := (gcv (lo8 c2) (hi8 c2))) rfl
    exact k.retN (t := .char) D22_24 rfl (by simp) (own_nnCi2c _) ⟨congrArg some (congrArg Value.int (own_d38 rfl g2a g2b)), rfl⟩
theorem own_d62 {p4 v0 v1 v2 v3 : Int32} (e0 : v0 = (drw p4)) (e1 : v1 = (nar .char v0)) (e2 : v2 = (bl v1)) (e3 : v3 = (nar .char v1)) (q0 : v2 = 0) : v3 = v1 := by
  have := e_drw e0
  have := e_i2cN e1 (by omega)
  have := e_bl e2
  have : (0 : Int32).toInt = 0 := by decide
  have := i_eq q0
  have := e_i2cN e3 (by omega)
  exact o_eq (by omega)
theorem R_13_31 {a1 a2 a3 : Addr} {p4 p5 p6 p7 p8 p9 p10 p11 : Int32} (hw : HW a0 Z) (G : Gl Z w_CS w_SF) (pr1 : Str Z h0 a1 a3 [p4, p5, p6, p7]) (pr2 : Ary Z h0 a2 ATC 4 (bv (lvi [p8, p9, p10, p11]))) (pr3 : p6 = p10) : Mt false [] l Y13 C13 (rmk 5 0 0 66) #[.ref a1, .int 2, .ref a2, .int 0] Z a0 h0 n0 (Pv h0 (.int 1)) := by
  refine Mt.go PN13 (Or.inl rfl) ef_RIRI_4 fun k => ?_
  replace k := k |>.iloadN D13_0 rfl |>.aloadN D13_1 rfl rfl
  replace k := (k.callV (w_59 hw) (V_Y8_8_String hw) pr1.exa (R_len4 hw G pr1) D13_2 1 rfl).pv
  replace k := k |>.icmpNo D13_5  |>.aloadN D13_8 rfl rfl |>.iloadN D13_9 rfl
  replace k := (k.callV (w_133 hw) (V_Y22_22_String hw) pr1.exa (R_chr4_2 hw G pr1) D13_10 0 rfl).pv
  replace k := k |>.aloadN D13_13 rfl rfl |>.iloadN D13_14 rfl |>.iloadN D13_15 rfl |>.iadd D13_16 (z := 2) |>.cald pr2 D13_17 (i := 2) (by decide) big2 |>.icmpNo D13_18 (teq pr3).2 |>.iconst D13_21 1 |>.goto D13_22
  exact k.retN (t := .boolean) D13_26 rfl (by simp) (z' := 1) (by decide) ⟨rfl, rfl⟩
theorem own_d63 {p5 v0 v1 v2 v3 : Int32} (e0 : v0 = (drw p5)) (e1 : v1 = (nar .char v0)) (e2 : v2 = (nar .char v1)) (e3 : v3 = (bl v2)) (q0 : v3 = 0) : v2 = v1 := by
  have := e_drw e0
  have := e_i2cN e1 (by omega)
  have := e_i2cN e2 (by omega)
  have := e_bl e3
  have : (0 : Int32).toInt = 0 := by decide
  have := i_eq q0
  exact o_eq (by omega)
theorem R_13_32 {a1 a2 a3 : Addr} {p4 p5 p6 p7 p8 p9 p10 p11 : Int32} (hw : HW a0 Z) (G : Gl Z w_CS w_SF) (pr1 : Str Z h0 a1 a3 [p4, p5, p6, p7]) (pr2 : Ary Z h0 a2 ATC 4 (bv (lvi [p8, p9, p10, p11]))) (pr3 : p7 = p11) : Mt false [] l Y13 C13 (rmk 5 0 0 66) #[.ref a1, .int 3, .ref a2, .int 0] Z a0 h0 n0 (Pv h0 (.int 1)) := by
  refine Mt.go PN13 (Or.inl rfl) ef_RIRI_4 fun k => ?_
  replace k := k |>.iloadN D13_0 rfl |>.aloadN D13_1 rfl rfl
  replace k := (k.callV (w_59 hw) (V_Y8_8_String hw) pr1.exa (R_len4 hw G pr1) D13_2 1 rfl).pv
  replace k := k |>.icmpNo D13_5  |>.aloadN D13_8 rfl rfl |>.iloadN D13_9 rfl
  replace k := (k.callV (w_133 hw) (V_Y22_22_String hw) pr1.exa (R_chr4_3 hw G pr1) D13_10 0 rfl).pv
  replace k := k |>.aloadN D13_13 rfl rfl |>.iloadN D13_14 rfl |>.iloadN D13_15 rfl |>.iadd D13_16 (z := 3) |>.cald pr2 D13_17 (i := 3) (by decide) big3 |>.icmpNo D13_18 (teq pr3).2 |>.iconst D13_21 1 |>.goto D13_22
  exact k.retN (t := .boolean) D13_26 rfl (by simp) (z' := 1) (by decide) ⟨rfl, rfl⟩
theorem own_d64 {p4 v0 v1 v2 v3 : Int32} (e0 : v0 = (drw p4)) (e1 : v1 = (nar .char v0)) (e2 : v2 = (bl v1)) (e3 : v3 = (nar .char v1)) (q0 : ¬ (v2 = 0)) : v3 = v1 := by
  have := e_drw e0
  have := e_i2cN e1 (by omega)
  have := e_bl e2
  have : (0 : Int32).toInt = 0 := by decide
  have := i_neq q0
  have := e_i2cN e3 (by omega)
  exact o_eq (by omega)
theorem R_38_10 {a1 a2 : Addr} {p3 p4 p5 p6 p7 p8 p9 p10 : Int32} (hw : HW a0 Z) (G : Gl Z w_CS w_SF) (pr1 : Ary Z h0 a1 ATB 8 (bv (lvi [p3, p4, p5, p6, p7, p8, p9, p10]))) (pr2 : 255 < (gcv p3 p4)) : Mt false [] l Y38 C38 (rmk 3 0 0 43) #[.ref a1, .int 0, .ref a2, .int 0, .int 3] Z a0 h0 n0 (Pv h0 (.int 0)) := by
  refine Mt.go PN38 (Or.inl rfl) ef_RIRII_7 fun k => ?_
  replace k := k |>.iloadN D38_0 rfl |>.iload D38_1 rfl |>.aloadN D38_3 rfl rfl
  replace k := (k.callS (w_144 hw) (S39 hw) (R_39_1 hw G pr1 (by decide) (by decide) (by decide) (p1 := 0) (p2 := 3) (p4 := 8)) D38_4 0 rfl).p0
  replace k := k |>.iconst D38_7 0 |>.istore D38_8 sto5 |>.iload D38_10 rfl |>.iload D38_12 rfl |>.icmpNo D38_14  |>.aloadN D38_17 rfl rfl |>.iloadN D38_18 rfl
  replace k := (k.callS (w_120 hw) (S20 hw) (R_20_1 hw G pr1 (by decide) (by decide) (by decide) (by decide) (p2 := 0) (p3 := 8)) D38_19 0 rfl).pv
  replace k := k |>.top (y := (gcv p3 p4)) rfl |>.istore D38_22 sto6 |>.iload D38_24 rfl |>.sipush D38_26 255 |>.icmpNo D38_29 (tlt pr2).2.2.2 |>.iload D38_32 rfl
  exact k.retI D38_34 rfl ⟨rfl, rfl⟩
theorem R_37_10 {a1 : Addr} {p2 p3 p4 p5 p6 p7 p8 p9 : Int32} (hw : HW a0 Z) (G : Gl Z w_CS w_SF) (pr1 : Ary Z h0 a1 ATB 8 (bv (lvi [p2, p3, p4, p5, p6, p7, p8, p9]))) (pr2 : 255 < (gcv p2 p3)) : Mt false [] l Y37 C37 (rmk 4 2 11 61) #[.ref a1, .int 0, .int 3] Z a0 h0 n0 (KpV h0 [] fun v h => ∃ u1 : Addr, v = (.ref u1) ∧ h0.size ≤ u1 ∧ Ary Z h u1 ATB 6 (bv (lvi [p2, p3, p4, p5, p6, p7]))) := by
  refine Mt.go PN37 (Or.inl rfl) ef_RII_6 fun k => ?_
  replace k := k |>.iloadN D37_0 rfl
  obtain ⟨b1, h1, g1, K1, O1, k⟩ := k.newP (aty := .byte) "[B" (w_23 hw) (by decide) D37_1 3 (by decide) (n := 3) (by decide) (by decide) (by decide) (bi_const (L := [0, 0, 0]) rfl)
  replace k := k |>.astoreN D37_3 rfl sto3 |>.aloadN D37_4 rfl rfl |>.iloadN D37_5 rfl |>.aloadN D37_6 rfl rfl |>.iconst D37_7 0 |>.iloadN D37_8 rfl
  have o3 := pr1.keep K1 nin0
  replace k := (k.callS (w_141 hw) (S38 hw) (R_38_10 hw G o3 pr2) D37_9 0 rfl).pv
  replace k := k |>.istore D37_12 sto4 |>.iload D37_14 rfl |>.iloadN D37_16 rfl |>.icmpNo D37_17  |>.aloadN D37_20 rfl rfl |>.iloadN D37_21 rfl |>.iconst D37_22 1 |>.ishl D37_23 (z := 0) |>.iloadN D37_24 rfl |>.iloadN D37_25 rfl |>.iadd D37_26 (z := 3)
  replace k := (k.callS (w_110 hw) (S18 hw) (R_18_1 hw G (by decide) (by decide) (p1 := 3)) D37_27 2 rfl).pv
  replace k := k |>.top (y := 6) (by decide)
  have z5 := k.sz
  obtain ⟨_, h5, K5, ⟨u1_5, rfl, f5_0, f5_1⟩, k⟩ := (k.callS (w_153 hw) (S31 hw) (R_31_2 hw G (by decide) o3 (by decide) (by decide) (by decide) (by decide) (by decide) (by decide) (by decide) (by decide) (by decide) (p2 := 0) (p3 := 6) (p4 := 8)) D37_30 0 rfl).kv
  have o6 : Ary Z h5 u1_5 ATB 6 (bv (lvi [p2, p3, p4, p5, p6, p7])) := Ary.norm f5_1 (bi_cpz rfl)
  replace k := k |>.astore D37_33 rfl sto5 |>.aload D37_35 rfl rfl |>.iload D37_37 rfl
  replace k := (k.callS (w_120 hw) (S20 hw) (R_20_1 hw G o6 (by decide) (by decide) (by decide) (by decide) (p2 := 0) (p3 := 6)) D37_39 0 rfl).pv
  replace k := k |>.top (y := (gcv p2 p3)) rfl |>.sipush D37_42 255 |>.icmpYes D37_45 (tlt pr2).2.2.1 |>.aload D37_61 rfl rfl
  have s_u1_5 := Nat.le_trans z5 f5_0
  exact k.retA D37_63 rfl ⟨_, rfl, (K1.trans K5 all0), u1_5, rfl, s_u1_5, o6⟩
theorem R_36_10 {a1 : Addr} {p2 p3 p4 p5 p6 p7 p8 p9 : Int32} (hw : HW a0 Z) (G : Gl Z w_CS w_SF) (pr1 : Ary Z h0 a1 ATB 8 (bv (lvi [p2, p3, p4, p5, p6, p7, p8, p9]))) (pr2 : 255 < (gcv p2 p3)) : Mt false [] l Y36 C36 (rmk 5 3 15 78) #[.ref a1, .int 0, .int 3] Z a0 h0 n0 (KpV h0 [] fun v h => ∃ u1 u2 : Addr, v = (.ref u1) ∧ h0.size ≤ u1 ∧ h0.size ≤ u2 ∧ u2 ≠ u1 ∧ Obj Z h u1 L_String [.ref u2, .int 1] ∧ Ary Z h u2 ATB 6 (bv (lvi [p2, p3, p4, p5, p6, p7]))) := by
  refine Mt.go PN36 (Or.inl rfl) ef_RII_5 fun k => ?_
  have nz := k.n0le
  replace k := k |>.iloadN D36_0 rfl |>.ifYes D36_1  |>.getS (fl_137 hw) G.S_CS D36_8 |>.ifNo D36_11 ((if0 _ _).trans (feq G.h_CS).1) |>.aloadN D36_14 rfl rfl |>.iloadN D36_15 rfl |>.iloadN D36_16 rfl
  have z1 := k.sz
  obtain ⟨_, h1, K1, ⟨u1_1, rfl, f1_0, f1_1⟩, k⟩ := (k.callS (w_138 hw) (S37 hw) (R_37_10 hw G pr1 pr2) D36_17 0 rfl).kv
  replace k := k |>.astoreN D36_20 rfl sto3 |>.aloadN D36_21 rfl rfl |>.iloadN D36_22 rfl
  replace k := (k.callS (w_171 hw) (S21 hw) (R_21_1 hw G f1_1 (by decide) (p2 := 3) (p3 := 6)) D36_23 0 rfl).pv
  replace k := k |>.top (y := 1) (by decide) |>.istore D36_26 sto4
  have z3 := k.sz
  obtain ⟨b3, h3, g3, K3, O3, k⟩ := k.new (L := L_String) (w_172 hw) (nw_String hw) D36_28 (by decide) dvL_String
  replace k := k |>.dup D36_31 rfl |>.aloadN D36_32 rfl rfl |>.iload D36_33 rfl
  have s_b3 := Nat.le_trans z3 g3
  have n_b3 := Nat.le_trans nz s_b3
  obtain ⟨h4, K4, f4_0, k⟩ := (k.callI (w_173 hw) (I35 hw) (R_35_2 hw G O3 n_b3) D36_35 1 rfl).k0 (allS n_b3 all0)
  have s_u1_1 := Nat.le_trans z1 f1_0
  have o5 := (f1_1.keep K3 nin0).keep K4 (ninS (nlt f1_1.lt g3) nin0)
  exact k.retA D36_38 rfl ⟨_, rfl, ((K1.trans K3 all0).trans K4 (allS (Or.inr s_b3) all0)), b3, u1_1, rfl, s_b3, s_u1_1, (nlt f1_1.lt g3), f4_0, o5⟩
theorem R_38_11 {a1 a2 : Addr} {p3 p4 p5 p6 p7 p8 p9 p10 : Int32} (hw : HW a0 Z) (G : Gl Z w_CS w_SF) (pr1 : Ary Z h0 a1 ATB 8 (bv (lvi [p3, p4, p5, p6, p7, p8, p9, p10]))) (pr2 : ¬ (255 < (gcv p3 p4))) (pr3 : Ary Z h0 a2 ATB 3 (bv (lvi [0, 0, 0]))) (pr4 : n0 ≤ a2) (pr5 : a1 ≠ a2) (pr6 : 255 < (gcv p5 p6)) : Mt false [] l Y38 C38 (rmk 3 0 0 43) #[.ref a1, .int 0, .ref a2, .int 0, .int 3] Z a0 h0 n0 (KpV h0 [a2] fun v h => v = (.int 1) ∧ Ary Z h a2 ATB 3 (bv (lvi [((gcv p3 p4).toInt8.toInt32), 0, 0]))) := by
  refine Mt.go PN38 (Or.inl rfl) ef_RIRII_7 fun k => ?_
  replace k := k |>.iloadN D38_0 rfl |>.iload D38_1 rfl |>.aloadN D38_3 rfl rfl
  replace k := (k.callS (w_144 hw) (S39 hw) (R_39_1 hw G pr1 (by decide) (by decide) (by decide) (p1 := 0) (p2 := 3) (p4 := 8)) D38_4 0 rfl).p0
  replace k := k |>.iconst D38_7 0 |>.istore D38_8 sto5 |>.iload D38_10 rfl |>.iload D38_12 rfl |>.icmpNo D38_14  |>.aloadN D38_17 rfl rfl |>.iloadN D38_18 rfl
  replace k := (k.callS (w_120 hw) (S20 hw) (R_20_1 hw G pr1 (by decide) (by decide) (by decide) (by decide) (p2 := 0) (p3 := 8)) D38_19 0 rfl).pv
  replace k := k |>.top (y := (gcv p3 p4)) rfl |>.istore D38_22 sto6 |>.iload D38_24 rfl |>.sipush D38_26 255 |>.icmpYes D38_29 (flt pr2).2.2.2 |>.aloadN D38_35 rfl rfl |>.iloadN D38_36 rfl |>.iload D38_37 rfl |>.i2b D38_39 rfl
  obtain ⟨h3, K3, O3, k⟩ := k.stB pr3 pr4 (Or.inl rfl) D38_40 (i := 0) (by decide) (v := (.int ((gcv p3 p4).toInt8.toInt32))) (congrArg Value.int (own_nnBi2b _)) (own_fitBi2b _) bis0
  replace k := k |>.iinc D38_41 rfl (z := 1) (by decide) sto1 |>.iinc D38_44 rfl (z := 1) (by decide) sto3 |>.iinc D38_47 rfl (z := 1) (by decide) sto5 |>.goto D38_50 |>.iload D38_10 rfl |>.iload D38_12 rfl |>.icmpNo D38_14  |>.aloadN D38_17 rfl rfl |>.iloadN D38_18 rfl
  have o5 := pr1.keep K3 (ninS pr5 nin0)
  replace k := (k.callS (w_120 hw) (S20 hw) (R_20_1 hw G o5 (by decide) (by decide) (by decide) (by decide) (p2 := 1) (p3 := 8)) D38_19 0 rfl).pv
  replace k := k |>.top (y := (gcv p5 p6)) rfl |>.istore D38_22 sto6 |>.iload D38_24 rfl |>.sipush D38_26 255 |>.icmpNo D38_29 (tlt pr6).2.2.2 |>.iload D38_32 rfl
  exact k.retI D38_34 rfl ⟨_, rfl, K3, rfl, O3⟩
theorem R_37_11 {a1 : Addr} {p2 p3 p4 p5 p6 p7 p8 p9 : Int32} (hw : HW a0 Z) (G : Gl Z w_CS w_SF) (pr1 : Ary Z h0 a1 ATB 8 (bv (lvi [p2, p3, p4, p5, p6, p7, p8, p9]))) (pr2 : ¬ (255 < (gcv p2 p3))) (pr3 : 255 < (gcv p4 p5)) : Mt false [] l Y37 C37 (rmk 4 2 11 61) #[.ref a1, .int 0, .int 3] Z a0 h0 n0 (KpV h0 [] fun v h => ∃ u1 : Addr, v = (.ref u1) ∧ h0.size ≤ u1 ∧ Ary Z h u1 ATB 6 (bv (lvi [p2, p3, p4, p5, p6, p7]))) := by
  refine Mt.go PN37 (Or.inl rfl) ef_RII_6 fun k => ?_
  have nz := k.n0le
  replace k := k |>.iloadN D37_0 rfl
  have z1 := k.sz
  obtain ⟨b1, h1, g1, K1, O1, k⟩ := k.newP (aty := .byte) "[B" (w_23 hw) (by decide) D37_1 3 (by decide) (n := 3) (by decide) (by decide) (by decide) (bi_const (L := [0, 0, 0]) rfl)
  replace k := k |>.astoreN D37_3 rfl sto3 |>.aloadN D37_4 rfl rfl |>.iloadN D37_5 rfl |>.aloadN D37_6 rfl rfl |>.iconst D37_7 0 |>.iloadN D37_8 rfl
  have s_b1 := Nat.le_trans z1 g1
  have n_b1 := Nat.le_trans nz s_b1
  have o3 := pr1.keep K1 nin0
  obtain ⟨_, h2, K2, ⟨rfl, f2_0⟩, k⟩ := (k.callS (w_141 hw) (S38 hw) (R_38_11 hw G o3 pr2 O1 n_b1 (nlt pr1.lt s_b1) pr3) D37_9 0 rfl).kv (allS n_b1 all0)
  replace k := k |>.istore D37_12 sto4 |>.iload D37_14 rfl |>.iloadN D37_16 rfl |>.icmpNo D37_17  |>.aloadN D37_20 rfl rfl |>.iloadN D37_21 rfl |>.iconst D37_22 1 |>.ishl D37_23 (z := 0) |>.iloadN D37_24 rfl |>.iloadN D37_25 rfl |>.iadd D37_26 (z := 3)
  replace k := (k.callS (w_110 hw) (S18 hw) (R_18_1 hw G (by decide) (by decide) (p1 := 3)) D37_27 2 rfl).pv
  replace k := k |>.top (y := 6) (by decide)
  have o6 := o3.keep K2 (ninS (nlt pr1.lt s_b1) nin0)
  have z5 := k.sz
  obtain ⟨_, h5, K5, ⟨u1_5, rfl, f5_0, f5_1⟩, k⟩ := (k.callS (w_153 hw) (S31 hw) (R_31_2 hw G (by decide) o6 (by decide) (by decide) (by decide) (by decide) (by decide) (by decide) (by decide) (by decide) (by decide) (p2 := 0) (p3 := 6) (p4 := 8)) D37_30 0 rfl).kv
  have o7 : Ary Z h5 u1_5 ATB 6 (bv (lvi [p2, p3, p4, p5, p6, p7])) := Ary.norm f5_1 (bi_cpz rfl)
  replace k := k |>.astore D37_33 rfl sto5 |>.aload D37_35 rfl rfl |>.iload D37_37 rfl
  replace k := (k.callS (w_120 hw) (S20 hw) (R_20_1 hw G o7 (by decide) (by decide) (by decide) (by decide) (p2 := 1) (p3 := 6)) D37_39 0 rfl).pv
  replace k := k |>.top (y := (gcv p4 p5)) rfl |>.sipush D37_42 255 |>.icmpYes D37_45 (tlt pr3).2.2.1 |>.aload D37_61 rfl rfl
  have s_u1_5 := Nat.le_trans z5 f5_0
  exact k.retA D37_63 rfl ⟨_, rfl, ((K1.trans K2 (allS (Or.inr s_b1) all0)).trans K5 all0), u1_5, rfl, s_u1_5, o7⟩
theorem R_36_11 {a1 : Addr} {p2 p3 p4 p5 p6 p7 p8 p9 : Int32} (hw : HW a0 Z) (G : Gl Z w_CS w_SF) (pr1 : Ary Z h0 a1 ATB 8 (bv (lvi [p2, p3, p4, p5, p6, p7, p8, p9]))) (pr2 : ¬ (255 < (gcv p2 p3))) (pr3 : 255 < (gcv p4 p5)) : Mt false [] l Y36 C36 (rmk 5 3 15 78) #[.ref a1, .int 0, .int 3] Z a0 h0 n0 (KpV h0 [] fun v h => ∃ u1 u2 : Addr, v = (.ref u1) ∧ h0.size ≤ u1 ∧ h0.size ≤ u2 ∧ u2 ≠ u1 ∧ Obj Z h u1 L_String [.ref u2, .int 1] ∧ Ary Z h u2 ATB 6 (bv (lvi [p2, p3, p4, p5, p6, p7]))) := by
  refine Mt.go PN36 (Or.inl rfl) ef_RII_5 fun k => ?_
  have nz := k.n0le
  replace k := k |>.iloadN D36_0 rfl |>.ifYes D36_1  |>.getS (fl_137 hw) G.S_CS D36_8 |>.ifNo D36_11 ((if0 _ _).trans (feq G.h_CS).1) |>.aloadN D36_14 rfl rfl |>.iloadN D36_15 rfl |>.iloadN D36_16 rfl
  have z1 := k.sz
  obtain ⟨_, h1, K1, ⟨u1_1, rfl, f1_0, f1_1⟩, k⟩ := (k.callS (w_138 hw) (S37 hw) (R_37_11 hw G pr1 pr2 pr3) D36_17 0 rfl).kv
  replace k := k |>.astoreN D36_20 rfl sto3 |>.aloadN D36_21 rfl rfl |>.iloadN D36_22 rfl
  replace k := (k.callS (w_171 hw) (S21 hw) (R_21_1 hw G f1_1 (by decide) (p2 := 3) (p3 := 6)) D36_23 0 rfl).pv
  replace k := k |>.top (y := 1) (by decide) |>.istore D36_26 sto4
  have z3 := k.sz
  obtain ⟨b3, h3, g3, K3, O3, k⟩ := k.new (L := L_String) (w_172 hw) (nw_String hw) D36_28 (by decide) dvL_String
  replace k := k |>.dup D36_31 rfl |>.aloadN D36_32 rfl rfl |>.iload D36_33 rfl
  have s_b3 := Nat.le_trans z3 g3
  have n_b3 := Nat.le_trans nz s_b3
  obtain ⟨h4, K4, f4_0, k⟩ := (k.callI (w_173 hw) (I35 hw) (R_35_2 hw G O3 n_b3) D36_35 1 rfl).k0 (allS n_b3 all0)
  have s_u1_1 := Nat.le_trans z1 f1_0
  have o5 := (f1_1.keep K3 nin0).keep K4 (ninS (nlt f1_1.lt g3) nin0)
  exact k.retA D36_38 rfl ⟨_, rfl, ((K1.trans K3 all0).trans K4 (allS (Or.inr s_b3) all0)), b3, u1_1, rfl, s_b3, s_u1_1, (nlt f1_1.lt g3), f4_0, o5⟩
theorem R_38_12 {a1 a2 : Addr} {p3 p4 p5 p6 p7 p8 p9 p10 : Int32} (hw : HW a0 Z) (G : Gl Z w_CS w_SF) (pr1 : Ary Z h0 a1 ATB 8 (bv (lvi [p3, p4, p5, p6, p7, p8, p9, p10]))) (pr2 : ¬ (255 < (gcv p3 p4))) (pr3 : Ary Z h0 a2 ATB 3 (bv (lvi [0, 0, 0]))) (pr4 : n0 ≤ a2) (pr5 : a1 ≠ a2) (pr6 : ¬ (255 < (gcv p5 p6))) (pr7 : 255 < (gcv p7 p8)) : Mt false [] l Y38 C38 (rmk 3 0 0 43) #[.ref a1, .int 0, .ref a2, .int 0, .int 3] Z a0 h0 n0 (KpV h0 [a2] fun v h => v = (.int 2) ∧ Ary Z h a2 ATB 3 (bv (lvi [((gcv p3 p4).toInt8.toInt32), ((gcv p5 p6).toInt8.toInt32), 0]))) := by
  refine Mt.go PN38 (Or.inl rfl) ef_RIRII_7 fun k => ?_
  replace k := k |>.iloadN D38_0 rfl |>.iload D38_1 rfl |>.aloadN D38_3 rfl rfl
  replace k := (k.callS (w_144 hw) (S39 hw) (R_39_1 hw G pr1 (by decide) (by decide) (by decide) (p1 := 0) (p2 := 3) (p4 := 8)) D38_4 0 rfl).p0
  replace k := k |>.iconst D38_7 0 |>.istore D38_8 sto5 |>.iload D38_10 rfl |>.iload D38_12 rfl |>.icmpNo D38_14  |>.aloadN D38_17 rfl rfl |>.iloadN D38_18 rfl
  replace k := (k.callS (w_120 hw) (S20 hw) (R_20_1 hw G pr1 (by decide) (by decide) (by decide) (by decide) (p2 := 0) (p3 := 8)) D38_19 0 rfl).pv
  replace k := k |>.top (y := (gcv p3 p4)) rfl |>.istore D38_22 sto6 |>.iload D38_24 rfl |>.sipush D38_26 255 |>.icmpYes D38_29 (flt pr2).2.2.2 |>.aloadN D38_35 rfl rfl |>.iloadN D38_36 rfl |>.iload D38_37 rfl |>.i2b D38_39 rfl
  obtain ⟨h3, K3, O3, k⟩ := k.stB pr3 pr4 (Or.inl rfl) D38_40 (i := 0) (by decide) (v := (.int ((gcv p3 p4).toInt8.toInt32))) (congrArg Value.int (own_nnBi2b _)) (own_fitBi2b _) bis0
  replace k := k |>.iinc D38_41 rfl (z := 1) (by decide) sto1 |>.iinc D38_44 rfl (z := 1) (by decide) sto3 |>.iinc D38_47 rfl (z := 1) (by decide) sto5 |>.goto D38_50 |>.iload D38_10 rfl |>.iload D38_12 rfl |>.icmpNo D38_14  |>.aloadN D38_17 rfl rfl |>.iloadN D38_18 rfl
  have o5 := pr1.keep K3 (ninS pr5 nin0)
  replace k := (k.callS (w_120 hw) (S20 hw) (R_20_1 hw G o5 (by decide) (by decide) (by decide) (by decide) (p2 := 1) (p3 := 8)) D38_19 0 rfl).pv
  replace k := k |>.top (y := (gcv p5 p6)) rfl |>.istore D38_22 sto6 |>.iload D38_24 rfl |>.sipush D38_26 255 |>.icmpYes D38_29 (flt pr6).2.2.2 |>.aloadN D38_35 rfl rfl |>.iloadN D38_36 rfl |>.iload D38_37 rfl |>.i2b D38_39 rfl
  obtain ⟨h6, K6, O6, k⟩ := k.stB O3 pr4 (Or.inl rfl) D38_40 (i := 1) (by decide) (v := (.int ((gcv p5 p6).toInt8.toInt32))) (congrArg Value.int (own_nnBi2b _)) (own_fitBi2b _) bis1
  replace k := k |>.iinc D38_41 rfl (z := 2) (by decide) sto1 |>.iinc D38_44 rfl (z := 2) (by decide) sto3 |>.iinc D38_47 rfl (z := 2) (by decide) sto5 |>.goto D38_50 |>.iload D38_10 rfl |>.iload D38_12 rfl |>.icmpNo D38_14  |>.aloadN D38_17 rfl rfl |>.iloadN D38_18 rfl
  have o8 := o5.keep K6 (ninS pr5 nin0)
  replace k := (k.callS (w_120 hw) (S20 hw) (R_20_1 hw G o8 (by decide) (by decide) (by decide) (by decide) (p2 := 2) (p3 := 8)) D38_19 0 rfl).pv
  replace k := k |>.top (y := (gcv p7 p8)) rfl |>.istore D38_22 sto6 |>.iload D38_24 rfl |>.sipush D38_26 255 |>.icmpNo D38_29 (tlt pr7).2.2.2 |>.iload D38_32 rfl
  exact k.retI D38_34 rfl ⟨_, rfl, (K3.trans K6 (allS (Or.inl (List.mem_of_getElem? (i := 0) rfl)) all0)), rfl, O6⟩
theorem R_37_12 {a1 : Addr} {p2 p3 p4 p5 p6 p7 p8 p9 : Int32} (hw : HW a0 Z) (G : Gl Z w_CS w_SF) (pr1 : Ary Z h0 a1 ATB 8 (bv (lvi [p2, p3, p4, p5, p6, p7, p8, p9]))) (pr2 : ¬ (255 < (gcv p2 p3))) (pr3 : ¬ (255 < (gcv p4 p5))) (pr4 : 255 < (gcv p6 p7)) : Mt false [] l Y37 C37 (rmk 4 2 11 61) #[.ref a1, .int 0, .int 3] Z a0 h0 n0 (KpV h0 [] fun v h => ∃ u1 : Addr, v = (.ref u1) ∧ h0.size ≤ u1 ∧ Ary Z h u1 ATB 6 (bv (lvi [p2, p3, p4, p5, p6, p7]))) := by
  refine Mt.go PN37 (Or.inl rfl) ef_RII_6 fun k => ?_
  have nz := k.n0le
  replace k := k |>.iloadN D37_0 rfl
  have z1 := k.sz
  obtain ⟨b1, h1, g1, K1, O1, k⟩ := k.newP (aty := .byte) "[B" (w_23 hw) (by decide) D37_1 3 (by decide) (n := 3) (by decide) (by decide) (by decide) (bi_const (L := [0, 0, 0]) rfl)
  replace k := k |>.astoreN D37_3 rfl sto3 |>.aloadN D37_4 rfl rfl |>.iloadN D37_5 rfl |>.aloadN D37_6 rfl rfl |>.iconst D37_7 0 |>.iloadN D37_8 rfl
  have s_b1 := Nat.le_trans z1 g1
  have n_b1 := Nat.le_trans nz s_b1
  have o3 := pr1.keep K1 nin0
  obtain ⟨_, h2, K2, ⟨rfl, f2_0⟩, k⟩ := (k.callS (w_141 hw) (S38 hw) (R_38_12 hw G o3 pr2 O1 n_b1 (nlt pr1.lt s_b1) pr3 pr4) D37_9 0 rfl).kv (allS n_b1 all0)
  replace k := k |>.istore D37_12 sto4 |>.iload D37_14 rfl |>.iloadN D37_16 rfl |>.icmpNo D37_17  |>.aloadN D37_20 rfl rfl |>.iloadN D37_21 rfl |>.iconst D37_22 1 |>.ishl D37_23 (z := 0) |>.iloadN D37_24 rfl |>.iloadN D37_25 rfl |>.iadd D37_26 (z := 3)
  replace k := (k.callS (w_110 hw) (S18 hw) (R_18_1 hw G (by decide) (by decide) (p1 := 3)) D37_27 2 rfl).pv
  replace k := k |>.top (y := 6) (by decide)
  have o6 := o3.keep K2 (ninS (nlt pr1.lt s_b1) nin0)
  have z5 := k.sz
  obtain ⟨_, h5, K5, ⟨u1_5, rfl, f5_0, f5_1⟩, k⟩ := (k.callS (w_153 hw) (S31 hw) (R_31_2 hw G (by decide) o6 (by decide) (by decide) (by decide) (by decide) (by decide) (by decide) (by decide) (by decide) (by decide) (p2 := 0) (p3 := 6) (p4 := 8)) D37_30 0 rfl).kv
  have o7 : Ary Z h5 u1_5 ATB 6 (bv (lvi [p2, p3, p4, p5, p6, p7])) := Ary.norm f5_1 (bi_cpz rfl)
  replace k := k |>.astore D37_33 rfl sto5 |>.aload D37_35 rfl rfl |>.iload D37_37 rfl
  replace k := (k.callS (w_120 hw) (S20 hw) (R_20_1 hw G o7 (by decide) (by decide) (by decide) (by decide) (p2 := 2) (p3 := 6)) D37_39 0 rfl).pv
  replace k := k |>.top (y := (gcv p6 p7)) rfl |>.sipush D37_42 255 |>.icmpYes D37_45 (tlt pr4).2.2.1 |>.aload D37_61 rfl rfl
  have s_u1_5 := Nat.le_trans z5 f5_0
  exact k.retA D37_63 rfl ⟨_, rfl, ((K1.trans K2 (allS (Or.inr s_b1) all0)).trans K5 all0), u1_5, rfl, s_u1_5, o7⟩
theorem R_36_12 {a1 : Addr} {p2 p3 p4 p5 p6 p7 p8 p9 : Int32} (hw : HW a0 Z) (G : Gl Z w_CS w_SF) (pr1 : Ary Z h0 a1 ATB 8 (bv (lvi [p2, p3, p4, p5, p6, p7, p8, p9]))) (pr2 : ¬ (255 < (gcv p2 p3))) (pr3 : ¬ (255 < (gcv p4 p5))) (pr4 : 255 < (gcv p6 p7)) : Mt false [] l Y36 C36 (rmk 5 3 15 78) #[.ref a1, .int 0, .int 3] Z a0 h0 n0 (KpV h0 [] fun v h => ∃ u1 u2 : Addr, v = (.ref u1) ∧ h0.size ≤ u1 ∧ h0.size ≤ u2 ∧ u2 ≠ u1 ∧ Obj Z h u1 L_String [.ref u2, .int 1] ∧ Ary Z h u2 ATB 6 (bv (lvi [p2, p3, p4, p5, p6, p7]))) := by
  refine Mt.go PN36 (Or.inl rfl) ef_RII_5 fun k => ?_
  have nz := k.n0le
  replace k := k |>.iloadN D36_0 rfl |>.ifYes D36_1  |>.getS (fl_137 hw) G.S_CS D36_8 |>.ifNo D36_11 ((if0 _ _).trans (feq G.h_CS).1) |>.aloadN D36_14 rfl rfl |>.iloadN D36_15 rfl |>.iloadN D36_16 rfl
  have z1 := k.sz
  obtain ⟨_, h1, K1, ⟨u1_1, rfl, f1_0, f1_1⟩, k⟩ := (k.callS (w_138 hw) (S37 hw) (R_37_12 hw G pr1 pr2 pr3 pr4) D36_17 0 rfl).kv
  replace k := k |>.astoreN D36_20 rfl sto3 |>.aloadN D36_21 rfl rfl |>.iloadN D36_22 rfl
  replace k := (k.callS (w_171 hw) (S21 hw) (R_21_1 hw G f1_1 (by decide) (p2 := 3) (p3 := 6)) D36_23 0 rfl).pv
  replace k := k |>.top (y := 1) (by decide) |>.istore D36_26 sto4
  have z3 := k.sz
  obtain ⟨b3, h3, g3, K3, O3, k⟩ := k.new (L := L_String) (w_172 hw) (nw_String hw) D36_28 (by decide) dvL_String
  replace k := k |>.dup D36_31 rfl |>.aloadN D36_32 rfl rfl |>.iload D36_33 rfl
  have s_b3 := Nat.le_trans z3 g3
  have n_b3 := Nat.le_trans nz s_b3
  obtain ⟨h4, K4, f4_0, k⟩ := (k.callI (w_173 hw) (I35 hw) (R_35_2 hw G O3 n_b3) D36_35 1 rfl).k0 (allS n_b3 all0)
  have s_u1_1 := Nat.le_trans z1 f1_0
  have o5 := (f1_1.keep K3 nin0).keep K4 (ninS (nlt f1_1.lt g3) nin0)
  exact k.retA D36_38 rfl ⟨_, rfl, ((K1.trans K3 all0).trans K4 (allS (Or.inr s_b3) all0)), b3, u1_1, rfl, s_b3, s_u1_1, (nlt f1_1.lt g3), f4_0, o5⟩
theorem R_sub4_0_3 {a1 a2 : Addr} {c0 c1 c2 c3 : Int32} (hw : HW a0 Z) (G : Gl Z w_CS w_SF) (S : Str Z h0 a1 a2 [c0, c1, c2, c3]) (x3 : ¬ (255 < c3)) : Mt false [] l Y10 C10 (rmk 6 3 15 94) #[.ref a1, .int 0, .int 3] Z a0 h0 n0 (KpV h0 [] fun v h => ∃ u w : Addr, v = .ref u ∧ Str Z h u w [c0, c1, c2]) := by
  refine Mt.go PN10 (Or.inl rfl) ef_RII_5 fun k => ?_
  obtain ⟨⟨⟨g0a, g0b⟩, ⟨g1a, g1b⟩, ⟨g2a, g2b⟩, ⟨g3a, g3b⟩, -⟩, S⟩ := S
  rcases S with ⟨T, O, A, hl⟩ | ⟨O, A, u0 | ⟨l0, u1 | ⟨l1, u2 | ⟨l2, u3 | ⟨-, hx⟩⟩⟩⟩⟩
  · obtain ⟨l0, l1, l2, l3, -⟩ := hl
    have A : Ary Z h0 a2 (T, .byte) 4 (bv (lvi [(c0.toInt8.toInt32), (c1.toInt8.toInt32), (c2.toInt8.toInt32), (c3.toInt8.toInt32)])) := A
    replace k := k |>.aloadN D10_0 rfl rfl
    replace k := (k.callV (w_50 hw) (V_Y8_8_String hw) O.exa (R_8_8 hw G O A) D10_1 0 rfl).pv
    replace k := k |>.istoreN D10_4 sto3 |>.iloadN D10_5 rfl |>.iloadN D10_6 rfl |>.iloadN D10_7 rfl
    replace k := (k.callS (w_51 hw) (S11 hw) (R_11_1 hw G (by decide) (by decide) (by decide) (p1 := 0) (p2 := 3) (p3 := 4)) D10_8 0 rfl).p0
    replace k := k |>.iloadN D10_11 rfl |>.ifNo D10_12  |>.iloadN D10_15 rfl |>.iloadN D10_16 rfl |>.icmpYes D10_17  |>.iloadN D10_22 rfl |>.iloadN D10_23 rfl |>.isub D10_24 (z := 3) |>.istore D10_25 sto4 |>.aloadN D10_27 rfl rfl
    replace k := (k.callV (w_78 hw) (V_Y23_23_String hw) O.exa (R_23_1 hw G O) D10_28 0 rfl).pv
    replace k := k |>.ifNo D10_31  |>.aloadN D10_34 rfl rfl |>.getF (fl_28 hw) O 0 D10_35 rfl rfl |>.iloadN D10_38 rfl |>.iload D10_39 rfl
    obtain ⟨_, h4, K4, ⟨u1_4, u2_4, rfl, f4_0, f4_1, f4_2, f4_3, f4_4⟩, k⟩ := (k.callS (w_96 hw) (S30 hw) (R_30_3 hw G (by decide) (by decide) A (by decide) (by decide) (by decide) (by decide) (by decide) (by decide) (by decide) (by decide) (by decide) (p2 := 0) (p3 := 3) (p4 := 4)) D10_41 0 rfl).kv
    have o5 : Ary Z h4 u2_4 ATB 3 (bv (lvi [(c0.toInt8.toInt32), (c1.toInt8.toInt32), (c2.toInt8.toInt32)])) := Ary.norm f4_4 (bi_cpz rfl)
    replace k := k |>.goto D10_44
    exact k.retA D10_57 rfl ⟨_, rfl, K4, u1_4, u2_4, rfl, ⟨⟨⟨g0a, g0b⟩, ⟨⟨g1a, g1b⟩, ⟨⟨g2a, g2b⟩, trivial⟩⟩⟩, Or.inl ⟨_, f4_3, o5, ⟨l0, ⟨l1, ⟨l2, trivial⟩⟩⟩⟩⟩⟩
  · have A : Ary Z h0 a2 ATB 8 (bv (lvi [(lo8 c0), (hi8 c0), (lo8 c1), (hi8 c1), (lo8 c2), (hi8 c2), (lo8 c3), (hi8 c3)])) := A
    replace k := k |>.aloadN D10_0 rfl rfl
    replace k := (k.callV (w_50 hw) (V_Y8_8_String hw) O.exa (R_8_9 hw G O A) D10_1 0 rfl).pv
    replace k := k |>.istoreN D10_4 sto3 |>.iloadN D10_5 rfl |>.iloadN D10_6 rfl |>.iloadN D10_7 rfl
    replace k := (k.callS (w_51 hw) (S11 hw) (R_11_1 hw G (by decide) (by decide) (by decide) (p1 := 0) (p2 := 3) (p3 := 4)) D10_8 0 rfl).p0
    replace k := k |>.iloadN D10_11 rfl |>.ifNo D10_12  |>.iloadN D10_15 rfl |>.iloadN D10_16 rfl |>.icmpYes D10_17  |>.iloadN D10_22 rfl |>.iloadN D10_23 rfl |>.isub D10_24 (z := 3) |>.istore D10_25 sto4 |>.aloadN D10_27 rfl rfl
    replace k := (k.callV (w_78 hw) (V_Y23_23_String hw) O.exa (R_23_2 hw G O) D10_28 0 rfl).pv
    replace k := k |>.ifYes D10_31  |>.aloadN D10_47 rfl rfl |>.getF (fl_28 hw) O 0 D10_48 rfl rfl |>.iloadN D10_51 rfl |>.iload D10_52 rfl
    obtain ⟨_, h9, K9, ⟨u1_9, u2_9, rfl, f9_0, f9_1, f9_2, f9_3, f9_4⟩, k⟩ := (k.callS (w_134 hw) (S36 hw) (R_36_10 hw G A (own_d6 rfl g0a g0b u0)) D10_54 0 rfl).kv
    exact k.retA D10_57 rfl ⟨_, rfl, K9, u1_9, u2_9, rfl, ⟨⟨⟨g0a, g0b⟩, ⟨⟨g1a, g1b⟩, ⟨⟨g2a, g2b⟩, trivial⟩⟩⟩, Or.inr ⟨f9_3, f9_4, Or.inl u0⟩⟩⟩
  · have A : Ary Z h0 a2 ATB 8 (bv (lvi [(lo8 c0), (hi8 c0), (lo8 c1), (hi8 c1), (lo8 c2), (hi8 c2), (lo8 c3), (hi8 c3)])) := A
    replace k := k |>.aloadN D10_0 rfl rfl
    replace k := (k.callV (w_50 hw) (V_Y8_8_String hw) O.exa (R_8_9 hw G O A) D10_1 0 rfl).pv
    replace k := k |>.istoreN D10_4 sto3 |>.iloadN D10_5 rfl |>.iloadN D10_6 rfl |>.iloadN D10_7 rfl
    replace k := (k.callS (w_51 hw) (S11 hw) (R_11_1 hw G (by decide) (by decide) (by decide) (p1 := 0) (p2 := 3) (p3 := 4)) D10_8 0 rfl).p0
    replace k := k |>.iloadN D10_11 rfl |>.ifNo D10_12  |>.iloadN D10_15 rfl |>.iloadN D10_16 rfl |>.icmpYes D10_17  |>.iloadN D10_22 rfl |>.iloadN D10_23 rfl |>.isub D10_24 (z := 3) |>.istore D10_25 sto4 |>.aloadN D10_27 rfl rfl
    replace k := (k.callV (w_78 hw) (V_Y23_23_String hw) O.exa (R_23_2 hw G O) D10_28 0 rfl).pv
    replace k := k |>.ifYes D10_31  |>.aloadN D10_47 rfl rfl |>.getF (fl_28 hw) O 0 D10_48 rfl rfl |>.iloadN D10_51 rfl |>.iload D10_52 rfl
    obtain ⟨_, h13, K13, ⟨u1_13, u2_13, rfl, f13_0, f13_1, f13_2, f13_3, f13_4⟩, k⟩ := (k.callS (w_134 hw) (S36 hw) (R_36_11 hw G A (own_d47 rfl g0a g0b l0) (own_d20 rfl g1a g1b u1)) D10_54 0 rfl).kv
    exact k.retA D10_57 rfl ⟨_, rfl, K13, u1_13, u2_13, rfl, ⟨⟨⟨g0a, g0b⟩, ⟨⟨g1a, g1b⟩, ⟨⟨g2a, g2b⟩, trivial⟩⟩⟩, Or.inr ⟨f13_3, f13_4, Or.inr ⟨l0, Or.inl u1⟩⟩⟩⟩
  · have A : Ary Z h0 a2 ATB 8 (bv (lvi [(lo8 c0), (hi8 c0), (lo8 c1), (hi8 c1), (lo8 c2), (hi8 c2), (lo8 c3), (hi8 c3)])) := A
    replace k := k |>.aloadN D10_0 rfl rfl
    replace k := (k.callV (w_50 hw) (V_Y8_8_String hw) O.exa (R_8_9 hw G O A) D10_1 0 rfl).pv
    replace k := k |>.istoreN D10_4 sto3 |>.iloadN D10_5 rfl |>.iloadN D10_6 rfl |>.iloadN D10_7 rfl
    replace k := (k.callS (w_51 hw) (S11 hw) (R_11_1 hw G (by decide) (by decide) (by decide) (p1 := 0) (p2 := 3) (p3 := 4)) D10_8 0 rfl).p0
    replace k := k |>.iloadN D10_11 rfl |>.ifNo D10_12  |>.iloadN D10_15 rfl |>.iloadN D10_16 rfl |>.icmpYes D10_17  |>.iloadN D10_22 rfl |>.iloadN D10_23 rfl |>.isub D10_24 (z := 3) |>.istore D10_25 sto4 |>.aloadN D10_27 rfl rfl
    replace k := (k.callV (w_78 hw) (V_Y23_23_String hw) O.exa (R_23_2 hw G O) D10_28 0 rfl).pv
    replace k := k |>.ifYes D10_31  |>.aloadN D10_47 rfl rfl |>.getF (fl_28 hw) O 0 D10_48 rfl rfl |>.iloadN D10_51 rfl |>.iload D10_52 rfl
    obtain ⟨_, h17, K17, ⟨u1_17, u2_17, rfl, f17_0, f17_1, f17_2, f17_3, f17_4⟩, k⟩ := (k.callS (w_134 hw) (S36 hw) (R_36_12 hw G A (own_d47 rfl g0a g0b l0) (own_d50 rfl g1a g1b l1) (own_d34 rfl g2a g2b u2)) D10_54 0 rfl).kv
    exact k.retA D10_57 rfl ⟨_, rfl, K17, u1_17, u2_17, rfl, ⟨⟨⟨g0a, g0b⟩, ⟨⟨g1a, g1b⟩, ⟨⟨g2a, g2b⟩, trivial⟩⟩⟩, Or.inr ⟨f17_3, f17_4, Or.inr ⟨l0, Or.inr ⟨l1, Or.inl u2⟩⟩⟩⟩⟩
  · exact absurd u3 x3
  · exact hx.elim
theorem own_d65 {p5 v0 v1 v2 v3 : Int32} (e0 : v0 = (drw p5)) (e1 : v1 = (nar .char v0)) (e2 : v2 = (nar .char v1)) (e3 : v3 = (bl v2)) (q0 : ¬ (v3 = 0)) : ¬ (255 < v2) := by
  have := e_drw e0
  have := e_i2cN e1 (by omega)
  have := e_i2cN e2 (by omega)
  have := e_bl e3
  have : (0 : Int32).toInt = 0 := by decide
  have := i_neq q0
  have : (255 : Int32).toInt = 255 := by decide
  exact o_nlt (by omega)
theorem R_7_32 {a1 a2 : Addr} {p3 p4 p5 p6 : Int32} (hw : HW a0 Z) (G : Gl Z w_CS w_SF) (pr1 : Str Z h0 a1 a2 [p3, p4, p5, p6]) (pr2 : (bl p3) = 0) (pr3 : ¬ ((bl p6) = 0)) (pr4 : (bl p5) = 0) (pr5 : ¬ (255 < p6)) : Mt false [] l Y7 C7 (rmk 7 3 15 110) #[.ref a1] Z a0 h0 n0 (KpV h0 [] fun v h => ∃ u1 u2 : Addr, v = (.ref u1) ∧ Str Z h u1 u2 [p3, p4, p5]) := by
  refine Mt.go PN7 (Or.inl rfl) ef_R_3 fun k => ?_
  replace k := k |>.iconst D7_0 0 |>.istoreN D7_1 sto1 |>.aloadN D7_2 rfl rfl
  replace k := (k.callV (w_34 hw) (V_Y8_8_String hw) pr1.exa (R_len4 hw G pr1) D7_3 0 rfl).pv
  replace k := k |>.istoreN D7_6 sto2 |>.iloadN D7_7 rfl |>.iloadN D7_8 rfl |>.icmpNo D7_9  |>.aloadN D7_12 rfl rfl |>.iloadN D7_13 rfl
  replace k := (k.callV (w_73 hw) (V_Y22_22_String hw) pr1.exa (R_chr4_0 hw G pr1) D7_14 0 rfl).pv
  replace k := (k.callS (w_93 hw) (S2 hw) (R_own_isBlank hw G) D7_17 0 rfl).pv
  replace k := k |>.ifYes D7_20 ((if0 _ _).trans (teq pr2).1) |>.iloadN D7_29 rfl |>.iloadN D7_30 rfl |>.icmpNo D7_31  |>.aloadN D7_34 rfl rfl |>.iloadN D7_35 rfl |>.iconst D7_36 1 |>.isub D7_37 (z := 3)
  replace k := (k.callV (w_73 hw) (V_Y22_22_String hw) pr1.exa (R_chr4_3 hw G pr1) D7_38 0 rfl).pv
  replace k := (k.callS (w_93 hw) (S2 hw) (R_own_isBlank hw G) D7_41 0 rfl).pv
  replace k := k |>.ifNo D7_44 ((if0 _ _).trans (feq pr3).1) |>.iinc D7_47 rfl (z := 3) (by decide) sto2 |>.goto D7_50 |>.iloadN D7_29 rfl |>.iloadN D7_30 rfl |>.icmpNo D7_31  |>.aloadN D7_34 rfl rfl |>.iloadN D7_35 rfl |>.iconst D7_36 1 |>.isub D7_37 (z := 2)
  replace k := (k.callV (w_73 hw) (V_Y22_22_String hw) pr1.exa (R_chr4_2 hw G pr1) D7_38 0 rfl).pv
  replace k := (k.callS (w_93 hw) (S2 hw) (R_own_isBlank hw G) D7_41 0 rfl).pv
  replace k := k |>.ifYes D7_44 ((if0 _ _).trans (teq pr4).1) |>.aloadN D7_53 rfl rfl |>.iloadN D7_54 rfl |>.iloadN D7_55 rfl
  obtain ⟨_, h1, K1, ⟨u1, w1, rfl, S1⟩, k⟩ := (k.callV (w_45 hw) (V_Y10_10_String hw) pr1.exa (R_sub4_0_3 hw G pr1 pr5) D7_56 0 rfl).kv
  exact k.retA D7_59 rfl ⟨_, rfl, K1, u1, w1, rfl, S1⟩
theorem own_d66 {p5 v0 v1 v2 v3 v4 : Int32} (e0 : v0 = (drw p5)) (e1 : v1 = (nar .char v0)) (e2 : v2 = (nar .char v1)) (e3 : v3 = (bl v2)) (e4 : v4 = (bl v1)) (q0 : ¬ (v3 = 0)) : ¬ (v4 = 0) := by
  have := e_drw e0
  have := e_i2cN e1 (by omega)
  have := e_i2cN e2 (by omega)
  have := e_bl e3
  have : (0 : Int32).toInt = 0 := by decide
  have := i_neq q0
  have := e_bl e4
  exact o_neq (by omega)
theorem R_38_13 {a1 a2 : Addr} {p3 p4 p5 p6 p7 p8 p9 p10 : Int32} (hw : HW a0 Z) (G : Gl Z w_CS w_SF) (pr1 : Ary Z h0 a1 ATB 8 (bv (lvi [p3, p4, p5, p6, p7, p8, p9, p10]))) (pr2 : 255 < (gcv p3 p4)) : Mt false [] l Y38 C38 (rmk 3 0 0 43) #[.ref a1, .int 0, .ref a2, .int 0, .int 2] Z a0 h0 n0 (Pv h0 (.int 0)) := by
  refine Mt.go PN38 (Or.inl rfl) ef_RIRII_7 fun k => ?_
  replace k := k |>.iloadN D38_0 rfl |>.iload D38_1 rfl |>.aloadN D38_3 rfl rfl
  replace k := (k.callS (w_144 hw) (S39 hw) (R_39_1 hw G pr1 (by decide) (by decide) (by decide) (p1 := 0) (p2 := 2) (p4 := 8)) D38_4 0 rfl).p0
  replace k := k |>.iconst D38_7 0 |>.istore D38_8 sto5 |>.iload D38_10 rfl |>.iload D38_12 rfl |>.icmpNo D38_14  |>.aloadN D38_17 rfl rfl |>.iloadN D38_18 rfl
  replace k := (k.callS (w_120 hw) (S20 hw) (R_20_1 hw G pr1 (by decide) (by decide) (by decide) (by decide) (p2 := 0) (p3 := 8)) D38_19 0 rfl).pv
  replace k := k |>.top (y := (gcv p3 p4)) rfl |>.istore D38_22 sto6 |>.iload D38_24 rfl |>.sipush D38_26 255 |>.icmpNo D38_29 (tlt pr2).2.2.2 |>.iload D38_32 rfl
  exact k.retI D38_34 rfl ⟨rfl, rfl⟩
theorem R_37_13 {a1 : Addr} {p2 p3 p4 p5 p6 p7 p8 p9 : Int32} (hw : HW a0 Z) (G : Gl Z w_CS w_SF) (pr1 : Ary Z h0 a1 ATB 8 (bv (lvi [p2, p3, p4, p5, p6, p7, p8, p9]))) (pr2 : 255 < (gcv p2 p3)) : Mt false [] l Y37 C37 (rmk 4 2 10 61) #[.ref a1, .int 0, .int 2] Z a0 h0 n0 (KpV h0 [] fun v h => ∃ u1 : Addr, v = (.ref u1) ∧ h0.size ≤ u1 ∧ Ary Z h u1 ATB 4 (bv (lvi [p2, p3, p4, p5]))) := by
  refine Mt.go PN37 (Or.inl rfl) ef_RII_6 fun k => ?_
  replace k := k |>.iloadN D37_0 rfl
  obtain ⟨b1, h1, g1, K1, O1, k⟩ := k.newP (aty := .byte) "[B" (w_23 hw) (by decide) D37_1 2 (by decide) (n := 2) (by decide) (by decide) (by decide) (bi_const (L := [0, 0]) rfl)
  replace k := k |>.astoreN D37_3 rfl sto3 |>.aloadN D37_4 rfl rfl |>.iloadN D37_5 rfl |>.aloadN D37_6 rfl rfl |>.iconst D37_7 0 |>.iloadN D37_8 rfl
  have o3 := pr1.keep K1 nin0
  replace k := (k.callS (w_141 hw) (S38 hw) (R_38_13 hw G o3 pr2) D37_9 0 rfl).pv
  replace k := k |>.istore D37_12 sto4 |>.iload D37_14 rfl |>.iloadN D37_16 rfl |>.icmpNo D37_17  |>.aloadN D37_20 rfl rfl |>.iloadN D37_21 rfl |>.iconst D37_22 1 |>.ishl D37_23 (z := 0) |>.iloadN D37_24 rfl |>.iloadN D37_25 rfl |>.iadd D37_26 (z := 2)
  replace k := (k.callS (w_110 hw) (S18 hw) (R_18_1 hw G (by decide) (by decide) (p1 := 2)) D37_27 2 rfl).pv
  replace k := k |>.top (y := 4) (by decide)
  have z5 := k.sz
  obtain ⟨_, h5, K5, ⟨u1_5, rfl, f5_0, f5_1⟩, k⟩ := (k.callS (w_153 hw) (S31 hw) (R_31_2 hw G (by decide) o3 (by decide) (by decide) (by decide) (by decide) (by decide) (by decide) (by decide) (by decide) (by decide) (p2 := 0) (p3 := 4) (p4 := 8)) D37_30 0 rfl).kv
  have o6 : Ary Z h5 u1_5 ATB 4 (bv (lvi [p2, p3, p4, p5])) := Ary.norm f5_1 (bi_cpz rfl)
  replace k := k |>.astore D37_33 rfl sto5 |>.aload D37_35 rfl rfl |>.iload D37_37 rfl
  replace k := (k.callS (w_120 hw) (S20 hw) (R_20_1 hw G o6 (by decide) (by decide) (by decide) (by decide) (p2 := 0) (p3 := 4)) D37_39 0 rfl).pv
  replace k := k |>.top (y := (gcv p2 p3)) rfl |>.sipush D37_42 255 |>.icmpYes D37_45 (tlt pr2).2.2.1 |>.aload D37_61 rfl rfl
  have s_u1_5 := Nat.le_trans z5 f5_0
  exact k.retA D37_63 rfl ⟨_, rfl, (K1.trans K5 all0), u1_5, rfl, s_u1_5, o6⟩
theorem R_36_13 {a1 : Addr} {p2 p3 p4 p5 p6 p7 p8 p9 : Int32} (hw : HW a0 Z) (G : Gl Z w_CS w_SF) (pr1 : Ary Z h0 a1 ATB 8 (bv (lvi [p2, p3, p4, p5, p6, p7, p8, p9]))) (pr2 : 255 < (gcv p2 p3)) : Mt false [] l Y36 C36 (rmk 5 3 14 78) #[.ref a1, .int 0, .int 2] Z a0 h0 n0 (KpV h0 [] fun v h => ∃ u1 u2 : Addr, v = (.ref u1) ∧ h0.size ≤ u1 ∧ h0.size ≤ u2 ∧ u2 ≠ u1 ∧ Obj Z h u1 L_String [.ref u2, .int 1] ∧ Ary Z h u2 ATB 4 (bv (lvi [p2, p3, p4, p5]))) := by
  refine Mt.go PN36 (Or.inl rfl) ef_RII_5 fun k => ?_
  have nz := k.n0le
  replace k := k |>.iloadN D36_0 rfl |>.ifYes D36_1  |>.getS (fl_137 hw) G.S_CS D36_8 |>.ifNo D36_11 ((if0 _ _).trans (feq G.h_CS).1) |>.aloadN D36_14 rfl rfl |>.iloadN D36_15 rfl |>.iloadN D36_16 rfl
  have z1 := k.sz
  obtain ⟨_, h1, K1, ⟨u1_1, rfl, f1_0, f1_1⟩, k⟩ := (k.callS (w_138 hw) (S37 hw) (R_37_13 hw G pr1 pr2) D36_17 0 rfl).kv
  replace k := k |>.astoreN D36_20 rfl sto3 |>.aloadN D36_21 rfl rfl |>.iloadN D36_22 rfl
  replace k := (k.callS (w_171 hw) (S21 hw) (R_21_1 hw G f1_1 (by decide) (p2 := 2) (p3 := 4)) D36_23 0 rfl).pv
  replace k := k |>.top (y := 1) (by decide) |>.istore D36_26 sto4
  have z3 := k.sz
  obtain ⟨b3, h3, g3, K3, O3, k⟩ := k.new (L := L_String) (w_172 hw) (nw_String hw) D36_28 (by decide) dvL_String
  replace k := k |>.dup D36_31 rfl |>.aloadN D36_32 rfl rfl |>.iload D36_33 rfl
  have s_b3 := Nat.le_trans z3 g3
  have n_b3 := Nat.le_trans nz s_b3
  obtain ⟨h4, K4, f4_0, k⟩ := (k.callI (w_173 hw) (I35 hw) (R_35_2 hw G O3 n_b3) D36_35 1 rfl).k0 (allS n_b3 all0)
  have s_u1_1 := Nat.le_trans z1 f1_0
  have o5 := (f1_1.keep K3 nin0).keep K4 (ninS (nlt f1_1.lt g3) nin0)
  exact k.retA D36_38 rfl ⟨_, rfl, ((K1.trans K3 all0).trans K4 (allS (Or.inr s_b3) all0)), b3, u1_1, rfl, s_b3, s_u1_1, (nlt f1_1.lt g3), f4_0, o5⟩
theorem R_38_14 {a1 a2 : Addr} {p3 p4 p5 p6 p7 p8 p9 p10 : Int32} (hw : HW a0 Z) (G : Gl Z w_CS w_SF) (pr1 : Ary Z h0 a1 ATB 8 (bv (lvi [p3, p4, p5, p6, p7, p8, p9, p10]))) (pr2 : ¬ (255 < (gcv p3 p4))) (pr3 : Ary Z h0 a2 ATB 2 (bv (lvi [0, 0]))) (pr4 : n0 ≤ a2) (pr5 : a1 ≠ a2) (pr6 : 255 < (gcv p5 p6)) : Mt false [] l Y38 C38 (rmk 3 0 0 43) #[.ref a1, .int 0, .ref a2, .int 0, .int 2] Z a0 h0 n0 (KpV h0 [a2] fun v h => v = (.int 1) ∧ Ary Z h a2 ATB 2 (bv (lvi [((gcv p3 p4).toInt8.toInt32), 0]))) := by
  refine Mt.go PN38 (Or.inl rfl) ef_RIRII_7 fun k => ?_
  replace k := k |>.iloadN D38_0 rfl |>.iload D38_1 rfl |>.aloadN D38_3 rfl rfl
  replace k := (k.callS (w_144 hw) (S39 hw) (R_39_1 hw G pr1 (by decide) (by decide) (by decide) (p1 := 0) (p2 := 2) (p4 := 8)) D38_4 0 rfl).p0
  replace k := k |>.iconst D38_7 0 |>.istore D38_8 sto5 |>.iload D38_10 rfl |>.iload D38_12 rfl |>.icmpNo D38_14  |>.aloadN D38_17 rfl rfl |>.iloadN D38_18 rfl
  replace k := (k.callS (w_120 hw) (S20 hw) (R_20_1 hw G pr1 (by decide) (by decide) (by decide) (by decide) (p2 := 0) (p3 := 8)) D38_19 0 rfl).pv
  replace k := k |>.top (y := (gcv p3 p4)) rfl |>.istore D38_22 sto6 |>.iload D38_24 rfl |>.sipush D38_26 255 |>.icmpYes D38_29 (flt pr2).2.2.2 |>.aloadN D38_35 rfl rfl |>.iloadN D38_36 rfl |>.iload D38_37 rfl |>.i2b D38_39 rfl
  obtain ⟨h3, K3, O3, k⟩ := k.stB pr3 pr4 (Or.inl rfl) D38_40 (i := 0) (by decide) (v := (.int ((gcv p3 p4).toInt8.toInt32))) (congrArg Value.int (own_nnBi2b _)) (own_fitBi2b _) bis0
  replace k := k |>.iinc D38_41 rfl (z := 1) (by decide) sto1 |>.iinc D38_44 rfl (z := 1) (by decide) sto3 |>.iinc D38_47 rfl (z := 1) (by decide) sto5 |>.goto D38_50 |>.iload D38_10 rfl |>.iload D38_12 rfl |>.icmpNo D38_14  |>.aloadN D38_17 rfl rfl |>.iloadN D38_18 rfl
  have o5 := pr1.keep K3 (ninS pr5 nin0)
  replace k := (k.callS (w_120 hw) (S20 hw) (R_20_1 hw G o5 (by decide) (by decide) (by decide) (by decide) (p2 := 1) (p3 := 8)) D38_19 0 rfl).pv
  replace k := k |>.top (y := (gcv p5 p6)) rfl |>.istore D38_22 sto6 |>.iload D38_24 rfl |>.sipush D38_26 255 |>.icmpNo D38_29 (tlt pr6).2.2.2 |>.iload D38_32 rfl
  exact k.retI D38_34 rfl ⟨_, rfl, K3, rfl, O3⟩
theorem R_37_14 {a1 : Addr} {p2 p3 p4 p5 p6 p7 p8 p9 : Int32} (hw : HW a0 Z) (G : Gl Z w_CS w_SF) (pr1 : Ary Z h0 a1 ATB 8 (bv (lvi [p2, p3, p4, p5, p6, p7, p8, p9]))) (pr2 : ¬ (255 < (gcv p2 p3))) (pr3 : 255 < (gcv p4 p5)) : Mt false [] l Y37 C37 (rmk 4 2 10 61) #[.ref a1, .int 0, .int 2] Z a0 h0 n0 (KpV h0 [] fun v h => ∃ u1 : Addr, v = (.ref u1) ∧ h0.size ≤ u1 ∧ Ary Z h u1 ATB 4 (bv (lvi [p2, p3, p4, p5]))) := by
  refine Mt.go PN37 (Or.inl rfl) ef_RII_6 fun k => ?_
  have nz := k.n0le
  replace k := k |>.iloadN D37_0 rfl
  have z1 := k.sz
  obtain ⟨b1, h1, g1, K1, O1, k⟩ := k.newP (aty := .byte) "[B" (w_23 hw) (by decide) D37_1 2 (by decide) (n := 2) (by decide) (by decide) (by decide) (bi_const (L := [0, 0]) rfl)
  replace k := k |>.astoreN D37_3 rfl sto3 |>.aloadN D37_4 rfl rfl |>.iloadN D37_5 rfl |>.aloadN D37_6 rfl rfl |>.iconst D37_7 0 |>.iloadN D37_8 rfl
  have s_b1 := Nat.le_trans z1 g1
  have n_b1 := Nat.le_trans nz s_b1
  have o3 := pr1.keep K1 nin0
  obtain ⟨_, h2, K2, ⟨rfl, f2_0⟩, k⟩ := (k.callS (w_141 hw) (S38 hw) (R_38_14 hw G o3 pr2 O1 n_b1 (nlt pr1.lt s_b1) pr3) D37_9 0 rfl).kv (allS n_b1 all0)
  replace k := k |>.istore D37_12 sto4 |>.iload D37_14 rfl |>.iloadN D37_16 rfl |>.icmpNo D37_17  |>.aloadN D37_20 rfl rfl |>.iloadN D37_21 rfl |>.iconst D37_22 1 |>.ishl D37_23 (z := 0) |>.iloadN D37_24 rfl |>.iloadN D37_25 rfl |>.iadd D37_26 (z := 2)
  replace k := (k.callS (w_110 hw) (S18 hw) (R_18_1 hw G (by decide) (by decide) (p1 := 2)) D37_27 2 rfl).pv
  replace k := k |>.top (y := 4) (by decide)
  have o6 := o3.keep K2 (ninS (nlt pr1.lt s_b1) nin0)
  have z5 := k.sz
  obtain ⟨_, h5, K5, ⟨u1_5, rfl, f5_0, f5_1⟩, k⟩ := (k.callS (w_153 hw) (S31 hw) (R_31_2 hw G (by decide) o6 (by decide) (by decide) (by decide) (by decide) (by decide) (by decide) (by decide) (by decide) (by decide) (p2 := 0) (p3 := 4) (p4 := 8)) D37_30 0 rfl).kv
  have o7 : Ary Z h5 u1_5 ATB 4 (bv (lvi [p2, p3, p4, p5])) := Ary.norm f5_1 (bi_cpz rfl)
  replace k := k |>.astore D37_33 rfl sto5 |>.aload D37_35 rfl rfl |>.iload D37_37 rfl
  replace k := (k.callS (w_120 hw) (S20 hw) (R_20_1 hw G o7 (by decide) (by decide) (by decide) (by decide) (p2 := 1) (p3 := 4)) D37_39 0 rfl).pv
  replace k := k |>.top (y := (gcv p4 p5)) rfl |>.sipush D37_42 255 |>.icmpYes D37_45 (tlt pr3).2.2.1 |>.aload D37_61 rfl rfl
  have s_u1_5 := Nat.le_trans z5 f5_0
  exact k.retA D37_63 rfl ⟨_, rfl, ((K1.trans K2 (allS (Or.inr s_b1) all0)).trans K5 all0), u1_5, rfl, s_u1_5, o7⟩
theorem R_36_14 {a1 : Addr} {p2 p3 p4 p5 p6 p7 p8 p9 : Int32} (hw : HW a0 Z) (G : Gl Z w_CS w_SF) (pr1 : Ary Z h0 a1 ATB 8 (bv (lvi [p2, p3, p4, p5, p6, p7, p8, p9]))) (pr2 : ¬ (255 < (gcv p2 p3))) (pr3 : 255 < (gcv p4 p5)) : Mt false [] l Y36 C36 (rmk 5 3 14 78) #[.ref a1, .int 0, .int 2] Z a0 h0 n0 (KpV h0 [] fun v h => ∃ u1 u2 : Addr, v = (.ref u1) ∧ h0.size ≤ u1 ∧ h0.size ≤ u2 ∧ u2 ≠ u1 ∧ Obj Z h u1 L_String [.ref u2, .int 1] ∧ Ary Z h u2 ATB 4 (bv (lvi [p2, p3, p4, p5]))) := by
  refine Mt.go PN36 (Or.inl rfl) ef_RII_5 fun k => ?_
  have nz := k.n0le
  replace k := k |>.iloadN D36_0 rfl |>.ifYes D36_1  |>.getS (fl_137 hw) G.S_CS D36_8 |>.ifNo D36_11 ((if0 _ _).trans (feq G.h_CS).1) |>.aloadN D36_14 rfl rfl |>.iloadN D36_15 rfl |>.iloadN D36_16 rfl
  have z1 := k.sz
  obtain ⟨_, h1, K1, ⟨u1_1, rfl, f1_0, f1_1⟩, k⟩ := (k.callS (w_138 hw) (S37 hw) (R_37_14 hw G pr1 pr2 pr3) D36_17 0 rfl).kv
  replace k := k |>.astoreN D36_20 rfl sto3 |>.aloadN D36_21 rfl rfl |>.iloadN D36_22 rfl
  replace k := (k.callS (w_171 hw) (S21 hw) (R_21_1 hw G f1_1 (by decide) (p2 := 2) (p3 := 4)) D36_23 0 rfl).pv
  replace k := k |>.top (y := 1) (by decide) |>.istore D36_26 sto4
  have z3 := k.sz
  obtain ⟨b3, h3, g3, K3, O3, k⟩ := k.new (L := L_String) (w_172 hw) (nw_String hw) D36_28 (by decide) dvL_String
  replace k := k |>.dup D36_31 rfl |>.aloadN D36_32 rfl rfl |>.iload D36_33 rfl
  have s_b3 := Nat.le_trans z3 g3
  have n_b3 := Nat.le_trans nz s_b3
  obtain ⟨h4, K4, f4_0, k⟩ := (k.callI (w_173 hw) (I35 hw) (R_35_2 hw G O3 n_b3) D36_35 1 rfl).k0 (allS n_b3 all0)
  have s_u1_1 := Nat.le_trans z1 f1_0
  have o5 := (f1_1.keep K3 nin0).keep K4 (ninS (nlt f1_1.lt g3) nin0)
  exact k.retA D36_38 rfl ⟨_, rfl, ((K1.trans K3 all0).trans K4 (allS (Or.inr s_b3) all0)), b3, u1_1, rfl, s_b3, s_u1_1, (nlt f1_1.lt g3), f4_0, o5⟩
theorem R_sub4_0_2 {a1 a2 : Addr} {c0 c1 c2 c3 : Int32} (hw : HW a0 Z) (G : Gl Z w_CS w_SF) (S : Str Z h0 a1 a2 [c0, c1, c2, c3]) (x2 : ¬ (255 < c2)) (x3 : ¬ (255 < c3)) : Mt false [] l Y10 C10 (rmk 6 3 14 94) #[.ref a1, .int 0, .int 2] Z a0 h0 n0 (KpV h0 [] fun v h => ∃ u w : Addr, v = .ref u ∧ Str Z h u w [c0, c1]) := by
  refine Mt.go PN10 (Or.inl rfl) ef_RII_5 fun k => ?_
  obtain ⟨⟨⟨g0a, g0b⟩, ⟨g1a, g1b⟩, ⟨g2a, g2b⟩, ⟨g3a, g3b⟩, -⟩, S⟩ := S
  rcases S with ⟨T, O, A, hl⟩ | ⟨O, A, u0 | ⟨l0, u1 | ⟨l1, u2 | ⟨l2, u3 | ⟨-, hx⟩⟩⟩⟩⟩
  · obtain ⟨l0, l1, l2, l3, -⟩ := hl
    have A : Ary Z h0 a2 (T, .byte) 4 (bv (lvi [(c0.toInt8.toInt32), (c1.toInt8.toInt32), (c2.toInt8.toInt32), (c3.toInt8.toInt32)])) := A
    replace k := k |>.aloadN D10_0 rfl rfl
    replace k := (k.callV (w_50 hw) (V_Y8_8_String hw) O.exa (R_8_8 hw G O A) D10_1 0 rfl).pv
    replace k := k |>.istoreN D10_4 sto3 |>.iloadN D10_5 rfl |>.iloadN D10_6 rfl |>.iloadN D10_7 rfl
    replace k := (k.callS (w_51 hw) (S11 hw) (R_11_1 hw G (by decide) (by decide) (by decide) (p1 := 0) (p2 := 2) (p3 := 4)) D10_8 0 rfl).p0
    replace k := k |>.iloadN D10_11 rfl |>.ifNo D10_12  |>.iloadN D10_15 rfl |>.iloadN D10_16 rfl |>.icmpYes D10_17  |>.iloadN D10_22 rfl |>.iloadN D10_23 rfl |>.isub D10_24 (z := 2) |>.istore D10_25 sto4 |>.aloadN D10_27 rfl rfl
    replace k := (k.callV (w_78 hw) (V_Y23_23_String hw) O.exa (R_23_1 hw G O) D10_28 0 rfl).pv
    replace k := k |>.ifNo D10_31  |>.aloadN D10_34 rfl rfl |>.getF (fl_28 hw) O 0 D10_35 rfl rfl |>.iloadN D10_38 rfl |>.iload D10_39 rfl
    obtain ⟨_, h4, K4, ⟨u1_4, u2_4, rfl, f4_0, f4_1, f4_2, f4_3, f4_4⟩, k⟩ := (k.callS (w_96 hw) (S30 hw) (R_30_3 hw G (by decide) (by decide) A (by decide) (by decide) (by decide) (by decide) (by decide) (by decide) (by decide) (by decide) (by decide) (p2 := 0) (p3 := 2) (p4 := 4)) D10_41 0 rfl).kv
    have o5 : Ary Z h4 u2_4 ATB 2 (bv (lvi [(c0.toInt8.toInt32), (c1.toInt8.toInt32)])) := Ary.norm f4_4 (bi_cpz rfl)
    replace k := k |>.goto D10_44
    exact k.retA D10_57 rfl ⟨_, rfl, K4, u1_4, u2_4, rfl, ⟨⟨⟨g0a, g0b⟩, ⟨⟨g1a, g1b⟩, trivial⟩⟩, Or.inl ⟨_, f4_3, o5, ⟨l0, ⟨l1, trivial⟩⟩⟩⟩⟩
  · have A : Ary Z h0 a2 ATB 8 (bv (lvi [(lo8 c0), (hi8 c0), (lo8 c1), (hi8 c1), (lo8 c2), (hi8 c2), (lo8 c3), (hi8 c3)])) := A
    replace k := k |>.aloadN D10_0 rfl rfl
    replace k := (k.callV (w_50 hw) (V_Y8_8_String hw) O.exa (R_8_9 hw G O A) D10_1 0 rfl).pv
    replace k := k |>.istoreN D10_4 sto3 |>.iloadN D10_5 rfl |>.iloadN D10_6 rfl |>.iloadN D10_7 rfl
    replace k := (k.callS (w_51 hw) (S11 hw) (R_11_1 hw G (by decide) (by decide) (by decide) (p1 := 0) (p2 := 2) (p3 := 4)) D10_8 0 rfl).p0
    replace k := k |>.iloadN D10_11 rfl |>.ifNo D10_12  |>.iloadN D10_15 rfl |>.iloadN D10_16 rfl |>.icmpYes D10_17  |>.iloadN D10_22 rfl |>.iloadN D10_23 rfl |>.isub D10_24 (z := 2) |>.istore D10_25 sto4 |>.aloadN D10_27 rfl rfl
    replace k := (k.callV (w_78 hw) (V_Y23_23_String hw) O.exa (R_23_2 hw G O) D10_28 0 rfl).pv
    replace k := k |>.ifYes D10_31  |>.aloadN D10_47 rfl rfl |>.getF (fl_28 hw) O 0 D10_48 rfl rfl |>.iloadN D10_51 rfl |>.iload D10_52 rfl
    obtain ⟨_, h9, K9, ⟨u1_9, u2_9, rfl, f9_0, f9_1, f9_2, f9_3, f9_4⟩, k⟩ := (k.callS (w_134 hw) (S36 hw) (R_36_13 hw G A (own_d6 rfl g0a g0b u0)) D10_54 0 rfl).kv
    exact k.retA D10_57 rfl ⟨_, rfl, K9, u1_9, u2_9, rfl, ⟨⟨⟨g0a, g0b⟩, ⟨⟨g1a, g1b⟩, trivial⟩⟩, Or.inr ⟨f9_3, f9_4, Or.inl u0⟩⟩⟩
  · have A : Ary Z h0 a2 ATB 8 (bv (lvi [(lo8 c0), (hi8 c0), (lo8 c1), (hi8 c1), (lo8 c2), (hi8 c2), (lo8 c3), (hi8 c3)])) := A
    replace k := k |>.aloadN D10_0 rfl rfl
    replace k := (k.callV (w_50 hw) (V_Y8_8_String hw) O.exa (R_8_9 hw G O A) D10_1 0 rfl).pv
    replace k := k |>.istoreN D10_4 sto3 |>.iloadN D10_5 rfl |>.iloadN D10_6 rfl |>.iloadN D10_7 rfl
    replace k := (k.callS (w_51 hw) (S11 hw) (R_11_1 hw G (by decide) (by decide) (by decide) (p1 := 0) (p2 := 2) (p3 := 4)) D10_8 0 rfl).p0
    replace k := k |>.iloadN D10_11 rfl |>.ifNo D10_12  |>.iloadN D10_15 rfl |>.iloadN D10_16 rfl |>.icmpYes D10_17  |>.iloadN D10_22 rfl |>.iloadN D10_23 rfl |>.isub D10_24 (z := 2) |>.istore D10_25 sto4 |>.aloadN D10_27 rfl rfl
    replace k := (k.callV (w_78 hw) (V_Y23_23_String hw) O.exa (R_23_2 hw G O) D10_28 0 rfl).pv
    replace k := k |>.ifYes D10_31  |>.aloadN D10_47 rfl rfl |>.getF (fl_28 hw) O 0 D10_48 rfl rfl |>.iloadN D10_51 rfl |>.iload D10_52 rfl
    obtain ⟨_, h13, K13, ⟨u1_13, u2_13, rfl, f13_0, f13_1, f13_2, f13_3, f13_4⟩, k⟩ := (k.callS (w_134 hw) (S36 hw) (R_36_14 hw G A (own_d47 rfl g0a g0b l0) (own_d20 rfl g1a g1b u1)) D10_54 0 rfl).kv
    exact k.retA D10_57 rfl ⟨_, rfl, K13, u1_13, u2_13, rfl, ⟨⟨⟨g0a, g0b⟩, ⟨⟨g1a, g1b⟩, trivial⟩⟩, Or.inr ⟨f13_3, f13_4, Or.inr ⟨l0, Or.inl u1⟩⟩⟩⟩
  · exact absurd u2 x2
  · exact absurd u3 x3
  · exact hx.elim
theorem R_7_34 {a1 a2 : Addr} {p3 p4 p5 p6 : Int32} (hw : HW a0 Z) (G : Gl Z w_CS w_SF) (pr1 : Str Z h0 a1 a2 [p3, p4, p5, p6]) (pr2 : (bl p3) = 0) (pr3 : ¬ ((bl p6) = 0)) (pr4 : ¬ ((bl p5) = 0)) (pr5 : (bl p4) = 0) (pr6 : ¬ (255 < p5)) (pr7 : ¬ (255 < p6)) : Mt false [] l Y7 C7 (rmk 7 3 14 110) #[.ref a1] Z a0 h0 n0 (KpV h0 [] fun v h => ∃ u1 u2 : Addr, v = (.ref u1) ∧ Str Z h u1 u2 [p3, p4]) := by
  refine Mt.go PN7 (Or.inl rfl) ef_R_3 fun k => ?_
  replace k := k |>.iconst D7_0 0 |>.istoreN D7_1 sto1 |>.aloadN D7_2 rfl rfl
  replace k := (k.callV (w_34 hw) (V_Y8_8_String hw) pr1.exa (R_len4 hw G pr1) D7_3 0 rfl).pv
  replace k := k |>.istoreN D7_6 sto2 |>.iloadN D7_7 rfl |>.iloadN D7_8 rfl |>.icmpNo D7_9  |>.aloadN D7_12 rfl rfl |>.iloadN D7_13 rfl
  replace k := (k.callV (w_73 hw) (V_Y22_22_String hw) pr1.exa (R_chr4_0 hw G pr1) D7_14 0 rfl).pv
  replace k := (k.callS (w_93 hw) (S2 hw) (R_own_isBlank hw G) D7_17 0 rfl).pv
  replace k := k |>.ifYes D7_20 ((if0 _ _).trans (teq pr2).1) |>.iloadN D7_29 rfl |>.iloadN D7_30 rfl |>.icmpNo D7_31  |>.aloadN D7_34 rfl rfl |>.iloadN D7_35 rfl |>.iconst D7_36 1 |>.isub D7_37 (z := 3)
  replace k := (k.callV (w_73 hw) (V_Y22_22_String hw) pr1.exa (R_chr4_3 hw G pr1) D7_38 0 rfl).pv
  replace k := (k.callS (w_93 hw) (S2 hw) (R_own_isBlank hw G) D7_41 0 rfl).pv
  replace k := k |>.ifNo D7_44 ((if0 _ _).trans (feq pr3).1) |>.iinc D7_47 rfl (z := 3) (by decide) sto2 |>.goto D7_50 |>.iloadN D7_29 rfl |>.iloadN D7_30 rfl |>.icmpNo D7_31  |>.aloadN D7_34 rfl rfl |>.iloadN D7_35 rfl |>.iconst D7_36 1 |>.isub D7_37 (z := 2)
  replace k := (k.callV (w_73 hw) (V_Y22_22_String hw) pr1.exa (R_chr4_2 hw G pr1) D7_38 0 rfl).pv
  replace k := (k.callS (w_93 hw) (S2 hw) (R_own_isBlank hw G) D7_41 0 rfl).pv
  replace k := k |>.ifNo D7_44 ((if0 _ _).trans (feq pr4).1) |>.iinc D7_47 rfl (z := 2) (by decide) sto2 |>.goto D7_50 |>.iloadN D7_29 rfl |>.iloadN D7_30 rfl |>.icmpNo D7_31  |>.aloadN D7_34 rfl rfl |>.iloadN D7_35 rfl |>.iconst D7_36 1 |>.isub D7_37 (z := 1)
  replace k := (k.callV (w_73 hw) (V_Y22_22_String hw) pr1.exa (R_chr4_1 hw G pr1) D7_38 0 rfl).pv
  replace k := (k.callS (w_93 hw) (S2 hw) (R_own_isBlank hw G) D7_41 0 rfl).pv
  replace k := k |>.ifYes D7_44 ((if0 _ _).trans (teq pr5).1) |>.aloadN D7_53 rfl rfl |>.iloadN D7_54 rfl |>.iloadN D7_55 rfl
  obtain ⟨_, h1, K1, ⟨u1, w1, rfl, S1⟩, k⟩ := (k.callV (w_45 hw) (V_Y10_10_String hw) pr1.exa (R_sub4_0_2 hw G pr1 pr6 pr7) D7_56 0 rfl).kv
  exact k.retA D7_59 rfl ⟨_, rfl, K1, u1, w1, rfl, S1⟩
theorem R_38_15 {a1 a2 : Addr} {p3 p4 p5 p6 p7 p8 p9 p10 : Int32} (hw : HW a0 Z) (G : Gl Z w_CS w_SF) (pr1 : Ary Z h0 a1 ATB 8 (bv (lvi [p3, p4, p5, p6, p7, p8, p9, p10]))) (pr2 : 255 < (gcv p3 p4)) : Mt false [] l Y38 C38 (rmk 3 0 0 43) #[.ref a1, .int 0, .ref a2, .int 0, .int 1] Z a0 h0 n0 (Pv h0 (.int 0)) := by
  refine Mt.go PN38 (Or.inl rfl) ef_RIRII_7 fun k => ?_
  replace k := k |>.iloadN D38_0 rfl |>.iload D38_1 rfl |>.aloadN D38_3 rfl rfl
  replace k := (k.callS (w_144 hw) (S39 hw) (R_39_1 hw G pr1 (by decide) (by decide) (by decide) (p1 := 0) (p2 := 1) (p4 := 8)) D38_4 0 rfl).p0
  replace k := k |>.iconst D38_7 0 |>.istore D38_8 sto5 |>.iload D38_10 rfl |>.iload D38_12 rfl |>.icmpNo D38_14  |>.aloadN D38_17 rfl rfl |>.iloadN D38_18 rfl
  replace k := (k.callS (w_120 hw) (S20 hw) (R_20_1 hw G pr1 (by decide) (by decide) (by decide) (by decide) (p2 := 0) (p3 := 8)) D38_19 0 rfl).pv
  replace k := k |>.top (y := (gcv p3 p4)) rfl |>.istore D38_22 sto6 |>.iload D38_24 rfl |>.sipush D38_26 255 |>.icmpNo D38_29 (tlt pr2).2.2.2 |>.iload D38_32 rfl
  exact k.retI D38_34 rfl ⟨rfl, rfl⟩
theorem R_37_15 {a1 : Addr} {p2 p3 p4 p5 p6 p7 p8 p9 : Int32} (hw : HW a0 Z) (G : Gl Z w_CS w_SF) (pr1 : Ary Z h0 a1 ATB 8 (bv (lvi [p2, p3, p4, p5, p6, p7, p8, p9]))) (pr2 : 255 < (gcv p2 p3)) : Mt false [] l Y37 C37 (rmk 4 2 9 61) #[.ref a1, .int 0, .int 1] Z a0 h0 n0 (KpV h0 [] fun v h => ∃ u1 : Addr, v = (.ref u1) ∧ h0.size ≤ u1 ∧ Ary Z h u1 ATB 2 (bv (lvi [p2, p3]))) := by
  refine Mt.go PN37 (Or.inl rfl) ef_RII_6 fun k => ?_
  replace k := k |>.iloadN D37_0 rfl
  obtain ⟨b1, h1, g1, K1, O1, k⟩ := k.newP (aty := .byte) "[B" (w_23 hw) (by decide) D37_1 1 (by decide) (n := 1) (by decide) (by decide) (by decide) (bi_const (L := [0]) rfl)
  replace k := k |>.astoreN D37_3 rfl sto3 |>.aloadN D37_4 rfl rfl |>.iloadN D37_5 rfl |>.aloadN D37_6 rfl rfl |>.iconst D37_7 0 |>.iloadN D37_8 rfl
  have o3 := pr1.keep K1 nin0
  replace k := (k.callS (w_141 hw) (S38 hw) (R_38_15 hw G o3 pr2) D37_9 0 rfl).pv
  replace k := k |>.istore D37_12 sto4 |>.iload D37_14 rfl |>.iloadN D37_16 rfl |>.icmpNo D37_17  |>.aloadN D37_20 rfl rfl |>.iloadN D37_21 rfl |>.iconst D37_22 1 |>.ishl D37_23 (z := 0) |>.iloadN D37_24 rfl |>.iloadN D37_25 rfl |>.iadd D37_26 (z := 1)
  replace k := (k.callS (w_110 hw) (S18 hw) (R_18_1 hw G (by decide) (by decide) (p1 := 1)) D37_27 2 rfl).pv
  replace k := k |>.top (y := 2) (by decide)
  have z5 := k.sz
  obtain ⟨_, h5, K5, ⟨u1_5, rfl, f5_0, f5_1⟩, k⟩ := (k.callS (w_153 hw) (S31 hw) (R_31_2 hw G (by decide) o3 (by decide) (by decide) (by decide) (by decide) (by decide) (by decide) (by decide) (by decide) (by decide) (p2 := 0) (p3 := 2) (p4 := 8)) D37_30 0 rfl).kv
  have o6 : Ary Z h5 u1_5 ATB 2 (bv (lvi [p2, p3])) := Ary.norm f5_1 (bi_cpz rfl)
  replace k := k |>.astore D37_33 rfl sto5 |>.aload D37_35 rfl rfl |>.iload D37_37 rfl
  replace k := (k.callS (w_120 hw) (S20 hw) (R_20_1 hw G o6 (by decide) (by decide) (by decide) (by decide) (p2 := 0) (p3 := 2)) D37_39 0 rfl).pv
  replace k := k |>.top (y := (gcv p2 p3)) rfl |>.sipush D37_42 255 |>.icmpYes D37_45 (tlt pr2).2.2.1 |>.aload D37_61 rfl rfl
  have s_u1_5 := Nat.le_trans z5 f5_0
  exact k.retA D37_63 rfl ⟨_, rfl, (K1.trans K5 all0), u1_5, rfl, s_u1_5, o6⟩
theorem R_36_15 {a1 : Addr} {p2 p3 p4 p5 p6 p7 p8 p9 : Int32} (hw : HW a0 Z) (G : Gl Z w_CS w_SF) (pr1 : Ary Z h0 a1 ATB 8 (bv (lvi [p2, p3, p4, p5, p6, p7, p8, p9]))) (pr2 : 255 < (gcv p2 p3)) : Mt false [] l Y36 C36 (rmk 5 3 13 78) #[.ref a1, .int 0, .int 1] Z a0 h0 n0 (KpV h0 [] fun v h => ∃ u1 u2 : Addr, v = (.ref u1) ∧ h0.size ≤ u1 ∧ h0.size ≤ u2 ∧ u2 ≠ u1 ∧ Obj Z h u1 L_String [.ref u2, .int 1] ∧ Ary Z h u2 ATB 2 (bv (lvi [p2, p3]))) := by
  refine Mt.go PN36 (Or.inl rfl) ef_RII_5 fun k => ?_
  have nz := k.n0le
  replace k := k |>.iloadN D36_0 rfl |>.ifYes D36_1  |>.getS (fl_137 hw) G.S_CS D36_8 |>.ifNo D36_11 ((if0 _ _).trans (feq G.h_CS).1) |>.aloadN D36_14 rfl rfl |>.iloadN D36_15 rfl |>.iloadN D36_16 rfl
  have z1 := k.sz
  obtain ⟨_, h1, K1, ⟨u1_1, rfl, f1_0, f1_1⟩, k⟩ := (k.callS (w_138 hw) (S37 hw) (R_37_15 hw G pr1 pr2) D36_17 0 rfl).kv
  replace k := k |>.astoreN D36_20 rfl sto3 |>.aloadN D36_21 rfl rfl |>.iloadN D36_22 rfl
  replace k := (k.callS (w_171 hw) (S21 hw) (R_21_1 hw G f1_1 (by decide) (p2 := 1) (p3 := 2)) D36_23 0 rfl).pv
  replace k := k |>.top (y := 1) (by decide) |>.istore D36_26 sto4
  have z3 := k.sz
  obtain ⟨b3, h3, g3, K3, O3, k⟩ := k.new (L := L_String) (w_172 hw) (nw_String hw) D36_28 (by decide) dvL_String
  replace k := k |>.dup D36_31 rfl |>.aloadN D36_32 rfl rfl |>.iload D36_33 rfl
  have s_b3 := Nat.le_trans z3 g3
  have n_b3 := Nat.le_trans nz s_b3
  obtain ⟨h4, K4, f4_0, k⟩ := (k.callI (w_173 hw) (I35 hw) (R_35_2 hw G O3 n_b3) D36_35 1 rfl).k0 (allS n_b3 all0)
  have s_u1_1 := Nat.le_trans z1 f1_0
  have o5 := (f1_1.keep K3 nin0).keep K4 (ninS (nlt f1_1.lt g3) nin0)
  exact k.retA D36_38 rfl ⟨_, rfl, ((K1.trans K3 all0).trans K4 (allS (Or.inr s_b3) all0)), b3, u1_1, rfl, s_b3, s_u1_1, (nlt f1_1.lt g3), f4_0, o5⟩
theorem R_sub4_0_1 {a1 a2 : Addr} {c0 c1 c2 c3 : Int32} (hw : HW a0 Z) (G : Gl Z w_CS w_SF) (S : Str Z h0 a1 a2 [c0, c1, c2, c3]) (x1 : ¬ (255 < c1)) (x2 : ¬ (255 < c2)) (x3 : ¬ (255 < c3)) : Mt false [] l Y10 C10 (rmk 6 3 13 94) #[.ref a1, .int 0, .int 1] Z a0 h0 n0 (KpV h0 [] fun v h => ∃ u w : Addr, v = .ref u ∧ Str Z h u w [c0]) := by
  refine Mt.go PN10 (Or.inl rfl) ef_RII_5 fun k => ?_
  obtain ⟨⟨⟨g0a, g0b⟩, ⟨g1a, g1b⟩, ⟨g2a, g2b⟩, ⟨g3a, g3b⟩, -⟩, S⟩ := S
  rcases S with ⟨T, O, A, hl⟩ | ⟨O, A, u0 | ⟨l0, u1 | ⟨l1, u2 | ⟨l2, u3 | ⟨-, hx⟩⟩⟩⟩⟩
  · obtain ⟨l0, l1, l2, l3, -⟩ := hl
    have A : Ary Z h0 a2 (T, .byte) 4 (bv (lvi [(c0.toInt8.toInt32), (c1.toInt8.toInt32), (c2.toInt8.toInt32), (c3.toInt8.toInt32)])) := A
    replace k := k |>.aloadN D10_0 rfl rfl
    replace k := (k.callV (w_50 hw) (V_Y8_8_String hw) O.exa (R_8_8 hw G O A) D10_1 0 rfl).pv
    replace k := k |>.istoreN D10_4 sto3 |>.iloadN D10_5 rfl |>.iloadN D10_6 rfl |>.iloadN D10_7 rfl
    replace k := (k.callS (w_51 hw) (S11 hw) (R_11_1 hw G (by decide) (by decide) (by decide) (p1 := 0) (p2 := 1) (p3 := 4)) D10_8 0 rfl).p0
    replace k := k |>.iloadN D10_11 rfl |>.ifNo D10_12  |>.iloadN D10_15 rfl |>.iloadN D10_16 rfl |>.icmpYes D10_17  |>.iloadN D10_22 rfl |>.iloadN D10_23 rfl |>.isub D10_24 (z := 1) |>.istore D10_25 sto4 |>.aloadN D10_27 rfl rfl
    replace k := (k.callV (w_78 hw) (V_Y23_23_String hw) O.exa (R_23_1 hw G O) D10_28 0 rfl).pv
    replace k := k |>.ifNo D10_31  |>.aloadN D10_34 rfl rfl |>.getF (fl_28 hw) O 0 D10_35 rfl rfl |>.iloadN D10_38 rfl |>.iload D10_39 rfl
    obtain ⟨_, h4, K4, ⟨u1_4, u2_4, rfl, f4_0, f4_1, f4_2, f4_3, f4_4⟩, k⟩ := (k.callS (w_96 hw) (S30 hw) (R_30_3 hw G (by decide) (by decide) A (by decide) (by decide) (by decide) (by decide) (by decide) (by decide) (by decide) (by decide) (by decide) (p2 := 0) (p3 := 1) (p4 := 4)) D10_41 0 rfl).kv
    have o5 : Ary Z h4 u2_4 ATB 1 (bv (lvi [(c0.toInt8.toInt32)])) := Ary.norm f4_4 (bi_cpz rfl)
    replace k := k |>.goto D10_44
    exact k.retA D10_57 rfl ⟨_, rfl, K4, u1_4, u2_4, rfl, ⟨⟨⟨g0a, g0b⟩, trivial⟩, Or.inl ⟨_, f4_3, o5, ⟨l0, trivial⟩⟩⟩⟩
  · have A : Ary Z h0 a2 ATB 8 (bv (lvi [(lo8 c0), (hi8 c0), (lo8 c1), (hi8 c1), (lo8 c2), (hi8 c2), (lo8 c3), (hi8 c3)])) := A
    replace k := k |>.aloadN D10_0 rfl rfl
    replace k := (k.callV (w_50 hw) (V_Y8_8_String hw) O.exa (R_8_9 hw G O A) D10_1 0 rfl).pv
    replace k := k |>.istoreN D10_4 sto3 |>.iloadN D10_5 rfl |>.iloadN D10_6 rfl |>.iloadN D10_7 rfl
    replace k := (k.callS (w_51 hw) (S11 hw) (R_11_1 hw G (by decide) (by decide) (by decide) (p1 := 0) (p2 := 1) (p3 := 4)) D10_8 0 rfl).p0
    replace k := k |>.iloadN D10_11 rfl |>.ifNo D10_12  |>.iloadN D10_15 rfl |>.iloadN D10_16 rfl |>.icmpYes D10_17  |>.iloadN D10_22 rfl |>.iloadN D10_23 rfl |>.isub D10_24 (z := 1) |>.istore D10_25 sto4 |>.aloadN D10_27 rfl rfl
    replace k := (k.callV (w_78 hw) (V_Y23_23_String hw) O.exa (R_23_2 hw G O) D10_28 0 rfl).pv
    replace k := k |>.ifYes D10_31  |>.aloadN D10_47 rfl rfl |>.getF (fl_28 hw) O 0 D10_48 rfl rfl |>.iloadN D10_51 rfl |>.iload D10_52 rfl
    obtain ⟨_, h9, K9, ⟨u1_9, u2_9, rfl, f9_0, f9_1, f9_2, f9_3, f9_4⟩, k⟩ := (k.callS (w_134 hw) (S36 hw) (R_36_15 hw G A (own_d6 rfl g0a g0b u0)) D10_54 0 rfl).kv
    exact k.retA D10_57 rfl ⟨_, rfl, K9, u1_9, u2_9, rfl, ⟨⟨⟨g0a, g0b⟩, trivial⟩, Or.inr ⟨f9_3, f9_4, Or.inl u0⟩⟩⟩
  · exact absurd u1 x1
  · exact absurd u2 x2
  · exact absurd u3 x3
  · exact hx.elim
theorem R_7_35 {a1 a2 : Addr} {p3 p4 p5 p6 : Int32} (hw : HW a0 Z) (G : Gl Z w_CS w_SF) (pr1 : Str Z h0 a1 a2 [p3, p4, p5, p6]) (pr2 : (bl p3) = 0) (pr3 : ¬ ((bl p6) = 0)) (pr4 : ¬ ((bl p5) = 0)) (pr5 : ¬ ((bl p4) = 0)) (pr6 : ¬ (255 < p4)) (pr7 : ¬ (255 < p5)) (pr8 : ¬ (255 < p6)) : Mt false [] l Y7 C7 (rmk 7 3 13 110) #[.ref a1] Z a0 h0 n0 (KpV h0 [] fun v h => ∃ u1 u2 : Addr, v = (.ref u1) ∧ Str Z h u1 u2 [p3]) := by
  refine Mt.go PN7 (Or.inl rfl) ef_R_3 fun k => ?_
  replace k := k |>.iconst D7_0 0 |>.istoreN D7_1 sto1 |>.aloadN D7_2 rfl rfl
  replace k := (k.callV (w_34 hw) (V_Y8_8_String hw) pr1.exa (R_len4 hw G pr1) D7_3 0 rfl).pv
  replace k := k |>.istoreN D7_6 sto2 |>.iloadN D7_7 rfl |>.iloadN D7_8 rfl |>.icmpNo D7_9  |>.aloadN D7_12 rfl rfl |>.iloadN D7_13 rfl
  replace k := (k.callV (w_73 hw) (V_Y22_22_String hw) pr1.exa (R_chr4_0 hw G pr1) D7_14 0 rfl).pv
  replace k := (k.callS (w_93 hw) (S2 hw) (R_own_isBlank hw G) D7_17 0 rfl).pv
  replace k := k |>.ifYes D7_20 ((if0 _ _).trans (teq pr2).1) |>.iloadN D7_29 rfl |>.iloadN D7_30 rfl |>.icmpNo D7_31  |>.aloadN D7_34 rfl rfl |>.iloadN D7_35 rfl |>.iconst D7_36 1 |>.isub D7_37 (z := 3)
  replace k := (k.callV (w_73 hw) (V_Y22_22_String hw) pr1.exa (R_chr4_3 hw G pr1) D7_38 0 rfl).pv
  replace k := (k.callS (w_93 hw) (S2 hw) (R_own_isBlank hw G) D7_41 0 rfl).pv
  replace k := k |>.ifNo D7_44 ((if0 _ _).trans (feq pr3).1) |>.iinc D7_47 rfl (z := 3) (by decide) sto2 |>.goto D7_50 |>.iloadN D7_29 rfl |>.iloadN D7_30 rfl |>.icmpNo D7_31  |>.aloadN D7_34 rfl rfl |>.iloadN D7_35 rfl |>.iconst D7_36 1 |>.isub D7_37 (z := 2)
  replace k := (k.callV (w_73 hw) (V_Y22_22_String hw) pr1.exa (R_chr4_2 hw G pr1) D7_38 0 rfl).pv
  replace k := (k.callS (w_93 hw) (S2 hw) (R_own_isBlank hw G) D7_41 0 rfl).pv
  replace k := k |>.ifNo D7_44 ((if0 _ _).trans (feq pr4).1) |>.iinc D7_47 rfl (z := 2) (by decide) sto2 |>.goto D7_50 |>.iloadN D7_29 rfl |>.iloadN D7_30 rfl |>.icmpNo D7_31  |>.aloadN D7_34 rfl rfl |>.iloadN D7_35 rfl |>.iconst D7_36 1 |>.isub D7_37 (z := 1)
  replace k := (k.callV (w_73 hw) (V_Y22_22_String hw) pr1.exa (R_chr4_1 hw G pr1) D7_38 0 rfl).pv
  replace k := (k.callS (w_93 hw) (S2 hw) (R_own_isBlank hw G) D7_41 0 rfl).pv
  replace k := k |>.ifNo D7_44 ((if0 _ _).trans (feq pr5).1) |>.iinc D7_47 rfl (z := 1) (by decide) sto2 |>.goto D7_50 |>.iloadN D7_29 rfl |>.iloadN D7_30 rfl |>.icmpNo D7_31  |>.aloadN D7_34 rfl rfl |>.iloadN D7_35 rfl |>.iconst D7_36 1 |>.isub D7_37 (z := 0)
  replace k := (k.callV (w_73 hw) (V_Y22_22_String hw) pr1.exa (R_chr4_0 hw G pr1) D7_38 0 rfl).pv
  replace k := (k.callS (w_93 hw) (S2 hw) (R_own_isBlank hw G) D7_41 0 rfl).pv
  replace k := k |>.ifYes D7_44 ((if0 _ _).trans (teq pr2).1) |>.aloadN D7_53 rfl rfl |>.iloadN D7_54 rfl |>.iloadN D7_55 rfl
  obtain ⟨_, h1, K1, ⟨u1, w1, rfl, S1⟩, k⟩ := (k.callV (w_45 hw) (V_Y10_10_String hw) pr1.exa (R_sub4_0_1 hw G pr1 pr6 pr7 pr8) D7_56 0 rfl).kv
  exact k.retA D7_59 rfl ⟨_, rfl, K1, u1, w1, rfl, S1⟩
theorem R_38_16 {a1 a2 : Addr} {p3 p4 p5 p6 p7 p8 p9 p10 : Int32} (hw : HW a0 Z) (G : Gl Z w_CS w_SF) (pr1 : Ary Z h0 a1 ATB 8 (bv (lvi [p3, p4, p5, p6, p7, p8, p9, p10]))) (pr2 : 255 < (gcv p5 p6)) : Mt false [] l Y38 C38 (rmk 3 0 0 43) #[.ref a1, .int 1, .ref a2, .int 0, .int 3] Z a0 h0 n0 (Pv h0 (.int 0)) := by
  refine Mt.go PN38 (Or.inl rfl) ef_RIRII_7 fun k => ?_
  replace k := k |>.iloadN D38_0 rfl |>.iload D38_1 rfl |>.aloadN D38_3 rfl rfl
  replace k := (k.callS (w_144 hw) (S39 hw) (R_39_1 hw G pr1 (by decide) (by decide) (by decide) (p1 := 1) (p2 := 3) (p4 := 8)) D38_4 0 rfl).p0
  replace k := k |>.iconst D38_7 0 |>.istore D38_8 sto5 |>.iload D38_10 rfl |>.iload D38_12 rfl |>.icmpNo D38_14  |>.aloadN D38_17 rfl rfl |>.iloadN D38_18 rfl
  replace k := (k.callS (w_120 hw) (S20 hw) (R_20_1 hw G pr1 (by decide) (by decide) (by decide) (by decide) (p2 := 1) (p3 := 8)) D38_19 0 rfl).pv
  replace k := k |>.top (y := (gcv p5 p6)) rfl |>.istore D38_22 sto6 |>.iload D38_24 rfl |>.sipush D38_26 255 |>.icmpNo D38_29 (tlt pr2).2.2.2 |>.iload D38_32 rfl
  exact k.retI D38_34 rfl ⟨rfl, rfl⟩
theorem R_37_16 {a1 : Addr} {p2 p3 p4 p5 p6 p7 p8 p9 : Int32} (hw : HW a0 Z) (G : Gl Z w_CS w_SF) (pr1 : Ary Z h0 a1 ATB 8 (bv (lvi [p2, p3, p4, p5, p6, p7, p8, p9]))) (pr2 : 255 < (gcv p4 p5)) : Mt false [] l Y37 C37 (rmk 4 2 11 61) #[.ref a1, .int 1, .int 3] Z a0 h0 n0 (KpV h0 [] fun v h => ∃ u1 : Addr, v = (.ref u1) ∧ h0.size ≤ u1 ∧ Ary Z h u1 ATB 6 (bv (lvi [p4, p5, p6, p7, p8, p9]))) := by
  refine Mt.go PN37 (Or.inl rfl) ef_RII_6 fun k => ?_
  replace k := k |>.iloadN D37_0 rfl
  obtain ⟨b1, h1, g1, K1, O1, k⟩ := k.newP (aty := .byte) "[B" (w_23 hw) (by decide) D37_1 3 (by decide) (n := 3) (by decide) (by decide) (by decide) (bi_const (L := [0, 0, 0]) rfl)
  replace k := k |>.astoreN D37_3 rfl sto3 |>.aloadN D37_4 rfl rfl |>.iloadN D37_5 rfl |>.aloadN D37_6 rfl rfl |>.iconst D37_7 0 |>.iloadN D37_8 rfl
  have o3 := pr1.keep K1 nin0
  replace k := (k.callS (w_141 hw) (S38 hw) (R_38_16 hw G o3 pr2) D37_9 0 rfl).pv
  replace k := k |>.istore D37_12 sto4 |>.iload D37_14 rfl |>.iloadN D37_16 rfl |>.icmpNo D37_17  |>.aloadN D37_20 rfl rfl |>.iloadN D37_21 rfl |>.iconst D37_22 1 |>.ishl D37_23 (z := 2) |>.iloadN D37_24 rfl |>.iloadN D37_25 rfl |>.iadd D37_26 (z := 4)
  replace k := (k.callS (w_110 hw) (S18 hw) (R_18_1 hw G (by decide) (by decide) (p1 := 4)) D37_27 2 rfl).pv
  replace k := k |>.top (y := 8) (by decide)
  have z5 := k.sz
  obtain ⟨_, h5, K5, ⟨u1_5, rfl, f5_0, f5_1⟩, k⟩ := (k.callS (w_153 hw) (S31 hw) (R_31_4 hw G (by decide) (by decide) (by decide) (by decide) o3 (by decide) (by decide) (by decide) (by decide) (by decide) (by decide) (p2 := 2) (p3 := 8) (p4 := 8)) D37_30 0 rfl).kv
  have o6 : Ary Z h5 u1_5 ATB 6 (bv (lvi [p4, p5, p6, p7, p8, p9])) := Ary.norm f5_1 (bi_cpz rfl)
  replace k := k |>.astore D37_33 rfl sto5 |>.aload D37_35 rfl rfl |>.iload D37_37 rfl
  replace k := (k.callS (w_120 hw) (S20 hw) (R_20_1 hw G o6 (by decide) (by decide) (by decide) (by decide) (p2 := 0) (p3 := 6)) D37_39 0 rfl).pv
  replace k := k |>.top (y := (gcv p4 p5)) rfl |>.sipush D37_42 255 |>.icmpYes D37_45 (tlt pr2).2.2.1 |>.aload D37_61 rfl rfl
  have s_u1_5 := Nat.le_trans z5 f5_0
  exact k.retA D37_63 rfl ⟨_, rfl, (K1.trans K5 all0), u1_5, rfl, s_u1_5, o6⟩
theorem R_36_16 {a1 : Addr} {p2 p3 p4 p5 p6 p7 p8 p9 : Int32} (hw : HW a0 Z) (G : Gl Z w_CS w_SF) (pr1 : Ary Z h0 a1 ATB 8 (bv (lvi [p2, p3, p4, p5, p6, p7, p8, p9]))) (pr2 : 255 < (gcv p4 p5)) : Mt false [] l Y36 C36 (rmk 5 3 15 78) #[.ref a1, .int 1, .int 3] Z a0 h0 n0 (KpV h0 [] fun v h => ∃ u1 u2 : Addr, v = (.ref u1) ∧ h0.size ≤ u1 ∧ h0.size ≤ u2 ∧ u2 ≠ u1 ∧ Obj Z h u1 L_String [.ref u2, .int 1] ∧ Ary Z h u2 ATB 6 (bv (lvi [p4, p5, p6, p7, p8, p9]))) := by
  refine Mt.go PN36 (Or.inl rfl) ef_RII_5 fun k => ?_
  have nz := k.n0le
  replace k := k |>.iloadN D36_0 rfl |>.ifYes D36_1  |>.getS (fl_137 hw) G.S_CS D36_8 |>.ifNo D36_11 ((if0 _ _).trans (feq G.h_CS).1) |>.aloadN D36_14 rfl rfl |>.iloadN D36_15 rfl |>.iloadN D36_16 rfl
  have z1 := k.sz
  obtain ⟨_, h1, K1, ⟨u1_1, rfl, f1_0, f1_1⟩, k⟩ := (k.callS (w_138 hw) (S37 hw) (R_37_16 hw G pr1 pr2) D36_17 0 rfl).kv
  replace k := k |>.astoreN D36_20 rfl sto3 |>.aloadN D36_21 rfl rfl |>.iloadN D36_22 rfl
  replace k := (k.callS (w_171 hw) (S21 hw) (R_21_1 hw G f1_1 (by decide) (p2 := 3) (p3 := 6)) D36_23 0 rfl).pv
  replace k := k |>.top (y := 1) (by decide) |>.istore D36_26 sto4
  have z3 := k.sz
  obtain ⟨b3, h3, g3, K3, O3, k⟩ := k.new (L := L_String) (w_172 hw) (nw_String hw) D36_28 (by decide) dvL_String
  replace k := k |>.dup D36_31 rfl |>.aloadN D36_32 rfl rfl |>.iload D36_33 rfl
  have s_b3 := Nat.le_trans z3 g3
  have n_b3 := Nat.le_trans nz s_b3
  obtain ⟨h4, K4, f4_0, k⟩ := (k.callI (w_173 hw) (I35 hw) (R_35_2 hw G O3 n_b3) D36_35 1 rfl).k0 (allS n_b3 all0)
  have s_u1_1 := Nat.le_trans z1 f1_0
  have o5 := (f1_1.keep K3 nin0).keep K4 (ninS (nlt f1_1.lt g3) nin0)
  exact k.retA D36_38 rfl ⟨_, rfl, ((K1.trans K3 all0).trans K4 (allS (Or.inr s_b3) all0)), b3, u1_1, rfl, s_b3, s_u1_1, (nlt f1_1.lt g3), f4_0, o5⟩
theorem R_38_17 {a1 a2 : Addr} {p3 p4 p5 p6 p7 p8 p9 p10 : Int32} (hw : HW a0 Z) (G : Gl Z w_CS w_SF) (pr1 : Ary Z h0 a1 ATB 8 (bv (lvi [p3, p4, p5, p6, p7, p8, p9, p10]))) (pr2 : ¬ (255 < (gcv p5 p6))) (pr3 : Ary Z h0 a2 ATB 3 (bv (lvi [0, 0, 0]))) (pr4 : n0 ≤ a2) (pr5 : a1 ≠ a2) (pr6 : 255 < (gcv p7 p8)) : Mt false [] l Y38 C38 (rmk 3 0 0 43) #[.ref a1, .int 1, .ref a2, .int 0, .int 3] Z a0 h0 n0 (KpV h0 [a2] fun v h => v = (.int 1) ∧ Ary Z h a2 ATB 3 (bv (lvi [((gcv p5 p6).toInt8.toInt32), 0, 0]))) := by
  refine Mt.go PN38 (Or.inl rfl) ef_RIRII_7 fun k => ?_
  replace k := k |>.iloadN D38_0 rfl |>.iload D38_1 rfl |>.aloadN D38_3 rfl rfl
  replace k := (k.callS (w_144 hw) (S39 hw) (R_39_1 hw G pr1 (by decide) (by decide) (by decide) (p1 := 1) (p2 := 3) (p4 := 8)) D38_4 0 rfl).p0
  replace k := k |>.iconst D38_7 0 |>.istore D38_8 sto5 |>.iload D38_10 rfl |>.iload D38_12 rfl |>.icmpNo D38_14  |>.aloadN D38_17 rfl rfl |>.iloadN D38_18 rfl
  replace k := (k.callS (w_120 hw) (S20 hw) (R_20_1 hw G pr1 (by decide) (by decide) (by decide) (by decide) (p2 := 1) (p3 := 8)) D38_19 0 rfl).pv
  replace k := k |>.top (y := (gcv p5 p6)) rfl |>.istore D38_22 sto6 |>.iload D38_24 rfl |>.sipush D38_26 255 |>.icmpYes D38_29 (flt pr2).2.2.2 |>.aloadN D38_35 rfl rfl |>.iloadN D38_36 rfl |>.iload D38_37 rfl |>.i2b D38_39 rfl
  obtain ⟨h3, K3, O3, k⟩ := k.stB pr3 pr4 (Or.inl rfl) D38_40 (i := 0) (by decide) (v := (.int ((gcv p5 p6).toInt8.toInt32))) (congrArg Value.int (own_nnBi2b _)) (own_fitBi2b _) bis0
  replace k := k |>.iinc D38_41 rfl (z := 2) (by decide) sto1 |>.iinc D38_44 rfl (z := 1) (by decide) sto3 |>.iinc D38_47 rfl (z := 1) (by decide) sto5 |>.goto D38_50 |>.iload D38_10 rfl |>.iload D38_12 rfl |>.icmpNo D38_14  |>.aloadN D38_17 rfl rfl |>.iloadN D38_18 rfl
  have o5 := pr1.keep K3 (ninS pr5 nin0)
  replace k := (k.callS (w_120 hw) (S20 hw) (R_20_1 hw G o5 (by decide) (by decide) (by decide) (by decide) (p2 := 2) (p3 := 8)) D38_19 0 rfl).pv
  replace k := k |>.top (y := (gcv p7 p8)) rfl |>.istore D38_22 sto6 |>.iload D38_24 rfl |>.sipush D38_26 255 |>.icmpNo D38_29 (tlt pr6).2.2.2 |>.iload D38_32 rfl
  exact k.retI D38_34 rfl ⟨_, rfl, K3, rfl, O3⟩
theorem R_37_17 {a1 : Addr} {p2 p3 p4 p5 p6 p7 p8 p9 : Int32} (hw : HW a0 Z) (G : Gl Z w_CS w_SF) (pr1 : Ary Z h0 a1 ATB 8 (bv (lvi [p2, p3, p4, p5, p6, p7, p8, p9]))) (pr2 : ¬ (255 < (gcv p4 p5))) (pr3 : 255 < (gcv p6 p7)) : Mt false [] l Y37 C37 (rmk 4 2 11 61) #[.ref a1, .int 1, .int 3] Z a0 h0 n0 (KpV h0 [] fun v h => ∃ u1 : Addr, v = (.ref u1) ∧ h0.size ≤ u1 ∧ Ary Z h u1 ATB 6 (bv (lvi [p4, p5, p6, p7, p8, p9]))) := by
  refine Mt.go PN37 (Or.inl rfl) ef_RII_6 fun k => ?_
  have nz := k.n0le
  replace k := k |>.iloadN D37_0 rfl
  have z1 := k.sz
  obtain ⟨b1, h1, g1, K1, O1, k⟩ := k.newP (aty := .byte) "[B" (w_23 hw) (by decide) D37_1 3 (by decide) (n := 3) (by decide) (by decide) (by decide) (bi_const (L := [0, 0, 0]) rfl)
  replace k := k |>.astoreN D37_3 rfl sto3 |>.aloadN D37_4 rfl rfl |>.iloadN D37_5 rfl |>.aloadN D37_6 rfl rfl |>.iconst D37_7 0 |>.iloadN D37_8 rfl
  have s_b1 := Nat.le_trans z1 g1
  have n_b1 := Nat.le_trans nz s_b1
  have o3 := pr1.keep K1 nin0
  obtain ⟨_, h2, K2, ⟨rfl, f2_0⟩, k⟩ := (k.callS (w_141 hw) (S38 hw) (R_38_17 hw G o3 pr2 O1 n_b1 (nlt pr1.lt s_b1) pr3) D37_9 0 rfl).kv (allS n_b1 all0)
  replace k := k |>.istore D37_12 sto4 |>.iload D37_14 rfl |>.iloadN D37_16 rfl |>.icmpNo D37_17  |>.aloadN D37_20 rfl rfl |>.iloadN D37_21 rfl |>.iconst D37_22 1 |>.ishl D37_23 (z := 2) |>.iloadN D37_24 rfl |>.iloadN D37_25 rfl |>.iadd D37_26 (z := 4)
  replace k := (k.callS (w_110 hw) (S18 hw) (R_18_1 hw G (by decide) (by decide) (p1 := 4)) D37_27 2 rfl).pv
  replace k := k |>.top (y := 8) (by decide)
  have o6 := o3.keep K2 (ninS (nlt pr1.lt s_b1) nin0)
  have z5 := k.sz
  obtain ⟨_, h5, K5, ⟨u1_5, rfl, f5_0, f5_1⟩, k⟩ := (k.callS (w_153 hw) (S31 hw) (R_31_4 hw G (by decide) (by decide) (by decide) (by decide) o6 (by decide) (by decide) (by decide) (by decide) (by decide) (by decide) (p2 := 2) (p3 := 8) (p4 := 8)) D37_30 0 rfl).kv
  have o7 : Ary Z h5 u1_5 ATB 6 (bv (lvi [p4, p5, p6, p7, p8, p9])) := Ary.norm f5_1 (bi_cpz rfl)
  replace k := k |>.astore D37_33 rfl sto5 |>.aload D37_35 rfl rfl |>.iload D37_37 rfl
  replace k := (k.callS (w_120 hw) (S20 hw) (R_20_1 hw G o7 (by decide) (by decide) (by decide) (by decide) (p2 := 1) (p3 := 6)) D37_39 0 rfl).pv
  replace k := k |>.top (y := (gcv p6 p7)) rfl |>.sipush D37_42 255 |>.icmpYes D37_45 (tlt pr3).2.2.1 |>.aload D37_61 rfl rfl
  have s_u1_5 := Nat.le_trans z5 f5_0
  exact k.retA D37_63 rfl ⟨_, rfl, ((K1.trans K2 (allS (Or.inr s_b1) all0)).trans K5 all0), u1_5, rfl, s_u1_5, o7⟩
theorem R_36_17 {a1 : Addr} {p2 p3 p4 p5 p6 p7 p8 p9 : Int32} (hw : HW a0 Z) (G : Gl Z w_CS w_SF) (pr1 : Ary Z h0 a1 ATB 8 (bv (lvi [p2, p3, p4, p5, p6, p7, p8, p9]))) (pr2 : ¬ (255 < (gcv p4 p5))) (pr3 : 255 < (gcv p6 p7)) : Mt false [] l Y36 C36 (rmk 5 3 15 78) #[.ref a1, .int 1, .int 3] Z a0 h0 n0 (KpV h0 [] fun v h => ∃ u1 u2 : Addr, v = (.ref u1) ∧ h0.size ≤ u1 ∧ h0.size ≤ u2 ∧ u2 ≠ u1 ∧ Obj Z h u1 L_String [.ref u2, .int 1] ∧ Ary Z h u2 ATB 6 (bv (lvi [p4, p5, p6, p7, p8, p9]))) := by
  refine Mt.go PN36 (Or.inl rfl) ef_RII_5 fun k => ?_
  have nz := k.n0le
  replace k := k |>.iloadN D36_0 rfl |>.ifYes D36_1  |>.getS (fl_137 hw) G.S_CS D36_8 |>.ifNo D36_11 ((if0 _ _).trans (feq G.h_CS).1) |>.aloadN D36_14 rfl rfl |>.iloadN D36_15 rfl |>.iloadN D36_16 rfl
  have z1 := k.sz
  obtain ⟨_, h1, K1, ⟨u1_1, rfl, f1_0, f1_1⟩, k⟩ := (k.callS (w_138 hw) (S37 hw) (R_37_17 hw G pr1 pr2 pr3) D36_17 0 rfl).kv
  replace k := k |>.astoreN D36_20 rfl sto3 |>.aloadN D36_21 rfl rfl |>.iloadN D36_22 rfl
  replace k := (k.callS (w_171 hw) (S21 hw) (R_21_1 hw G f1_1 (by decide) (p2 := 3) (p3 := 6)) D36_23 0 rfl).pv
  replace k := k |>.top (y := 1) (by decide) |>.istore D36_26 sto4
  have z3 := k.sz
  obtain ⟨b3, h3, g3, K3, O3, k⟩ := k.new (L := L_String) (w_172 hw) (nw_String hw) D36_28 (by decide) dvL_String
  replace k := k |>.dup D36_31 rfl |>.aloadN D36_32 rfl rfl |>.iload D36_33 rfl
  have s_b3 := Nat.le_trans z3 g3
  have n_b3 := Nat.le_trans nz s_b3
  obtain ⟨h4, K4, f4_0, k⟩ := (k.callI (w_173 hw) (I35 hw) (R_35_2 hw G O3 n_b3) D36_35 1 rfl).k0 (allS n_b3 all0)
  have s_u1_1 := Nat.le_trans z1 f1_0
  have o5 := (f1_1.keep K3 nin0).keep K4 (ninS (nlt f1_1.lt g3) nin0)
  exact k.retA D36_38 rfl ⟨_, rfl, ((K1.trans K3 all0).trans K4 (allS (Or.inr s_b3) all0)), b3, u1_1, rfl, s_b3, s_u1_1, (nlt f1_1.lt g3), f4_0, o5⟩
theorem own_d67 {c2 v0 : Int32} (e0 : v0 = (gcv (lo8 c2) (hi8 c2))) (q0 : ¬ (c2 < 0)) (q1 : c2 < 65536) (q2 : ¬ (255 < c2)) : ¬ (255 < v0) := by
  have := rng32 c2
  have : (0 : Int32).toInt = 0 := by decide
  have := i_nlt q0
  have : (65536 : Int32).toInt = 65536 := by decide
  have := i_lt q1
  have : (255 : Int32).toInt = 255 := by decide
  have := i_nlt q2
  have := e_gc e0 (by omega) (by omega)
  exact o_nlt (by omega)
theorem R_38_18 {a1 a2 : Addr} {p3 p4 p5 p6 p7 p8 p9 p10 : Int32} (hw : HW a0 Z) (G : Gl Z w_CS w_SF) (pr1 : Ary Z h0 a1 ATB 8 (bv (lvi [p3, p4, p5, p6, p7, p8, p9, p10]))) (pr2 : ¬ (255 < (gcv p5 p6))) (pr3 : Ary Z h0 a2 ATB 3 (bv (lvi [0, 0, 0]))) (pr4 : n0 ≤ a2) (pr5 : a1 ≠ a2) (pr6 : ¬ (255 < (gcv p7 p8))) (pr7 : 255 < (gcv p9 p10)) : Mt false [] l Y38 C38 (rmk 3 0 0 43) #[.ref a1, .int 1, .ref a2, .int 0, .int 3] Z a0 h0 n0 (KpV h0 [a2] fun v h => v = (.int 2) ∧ Ary Z h a2 ATB 3 (bv (lvi [((gcv p5 p6).toInt8.toInt32), ((gcv p7 p8).toInt8.toInt32), 0]))) := by
  refine Mt.go PN38 (Or.inl rfl) ef_RIRII_7 fun k => ?_
  replace k := k |>.iloadN D38_0 rfl |>.iload D38_1 rfl |>.aloadN D38_3 rfl rfl
  replace k := (k.callS (w_144 hw) (S39 hw) (R_39_1 hw G pr1 (by decide) (by decide) (by decide) (p1 := 1) (p2 := 3) (p4 := 8)) D38_4 0 rfl).p0
  replace k := k |>.iconst D38_7 0 |>.istore D38_8 sto5 |>.iload D38_10 rfl |>.iload D38_12 rfl |>.icmpNo D38_14  |>.aloadN D38_17 rfl rfl |>.iloadN D38_18 rfl
  replace k := (k.callS (w_120 hw) (S20 hw) (R_20_1 hw G pr1 (by decide) (by decide) (by decide) (by decide) (p2 := 1) (p3 := 8)) D38_19 0 rfl).pv
  replace k := k |>.top (y := (gcv p5 p6)) rfl |>.istore D38_22 sto6 |>.iload D38_24 rfl |>.sipush D38_26 255 |>.icmpYes D38_29 (flt pr2).2.2.2 |>.aloadN D38_35 rfl rfl |>.iloadN D38_36 rfl |>.iload D38_37 rfl |>.i2b D38_39 rfl
  obtain ⟨h3, K3, O3, k⟩ := k.stB pr3 pr4 (Or.inl rfl) D38_40 (i := 0) (by decide) (v := (.int ((gcv p5 p6).toInt8.toInt32))) (congrArg Value.int (own_nnBi2b _)) (own_fitBi2b _) bis0
  replace k := k |>.iinc D38_41 rfl (z := 2) (by decide) sto1 |>.iinc D38_44 rfl (z := 1) (by decide) sto3 |>.iinc D38_47 rfl (z := 1) (by decide) sto5 |>.goto D38_50 |>.iload D38_10 rfl |>.iload D38_12 rfl |>.icmpNo D38_14  |>.aloadN D38_17 rfl rfl |>.iloadN D38_18 rfl
  have o5 := pr1.keep K3 (ninS pr5 nin0)
  replace k := (k.callS (w_120 hw) (S20 hw) (R_20_1 hw G o5 (by decide) (by decide) (by decide) (by decide) (p2 := 2) (p3 := 8)) D38_19 0 rfl).pv
  replace k := k |>.top (y := (gcv p7 p8)) rfl |>.istore D38_22 sto6 |>.iload D38_24 rfl |>.sipush D38_26 255 |>.icmpYes D38_29 (flt pr6).2.2.2 |>.aloadN D38_35 rfl rfl |>.iloadN D38_36 rfl |>.iload D38_37 rfl |>.i2b D38_39 rfl
  obtain ⟨h6, K6, O6, k⟩ := k.stB O3 pr4 (Or.inl rfl) D38_40 (i := 1) (by decide) (v := (.int ((gcv p7 p8).toInt8.toInt32))) (congrArg Value.int (own_nnBi2b _)) (own_fitBi2b _) bis1
  replace k := k |>.iinc D38_41 rfl (z := 3) (by decide) sto1 |>.iinc D38_44 rfl (z := 2) (by decide) sto3 |>.iinc D38_47 rfl (z := 2) (by decide) sto5 |>.goto D38_50 |>.iload D38_10 rfl |>.iload D38_12 rfl |>.icmpNo D38_14  |>.aloadN D38_17 rfl rfl |>.iloadN D38_18 rfl
  have o8 := o5.keep K6 (ninS pr5 nin0)
  replace k := (k.callS (w_120 hw) (S20 hw) (R_20_1 hw G o8 (by decide) (by decide) (by decide) (by decide) (p2 := 3) (p3 := 8)) D38_19 0 rfl).pv
  replace k := k |>.top (y := (gcv p9 p10)) rfl |>.istore D38_22 sto6 |>.iload D38_24 rfl |>.sipush D38_26 255 |>.icmpNo D38_29 (tlt pr7).2.2.2 |>.iload D38_32 rfl
  exact k.retI D38_34 rfl ⟨_, rfl, (K3.trans K6 (allS (Or.inl (List.mem_of_getElem? (i := 0) rfl)) all0)), rfl, O6⟩
theorem R_37_18 {a1 : Addr} {p2 p3 p4 p5 p6 p7 p8 p9 : Int32} (hw : HW a0 Z) (G : Gl Z w_CS w_SF) (pr1 : Ary Z h0 a1 ATB 8 (bv (lvi [p2, p3, p4, p5, p6, p7, p8, p9]))) (pr2 : ¬ (255 < (gcv p4 p5))) (pr3 : ¬ (255 < (gcv p6 p7))) (pr4 : 255 < (gcv p8 p9)) : Mt false [] l Y37 C37 (rmk 4 2 11 61) #[.ref a1, .int 1, .int 3] Z a0 h0 n0 (KpV h0 [] fun v h => ∃ u1 : Addr, v = (.ref u1) ∧ h0.size ≤ u1 ∧ Ary Z h u1 ATB 6 (bv (lvi [p4, p5, p6, p7, p8, p9]))) := by
  refine Mt.go PN37 (Or.inl rfl) ef_RII_6 fun k => ?_
  have nz := k.n0le
  replace k := k |>.iloadN D37_0 rfl
  have z1 := k.sz
  obtain ⟨b1, h1, g1, K1, O1, k⟩ := k.newP (aty := .byte) "[B" (w_23 hw) (by decide) D37_1 3 (by decide) (n := 3) (by decide) (by decide) (by decide) (bi_const (L := [0, 0, 0]) rfl)
  replace k := k |>.astoreN D37_3 rfl sto3 |>.aloadN D37_4 rfl rfl |>.iloadN D37_5 rfl |>.aloadN D37_6 rfl rfl |>.iconst D37_7 0 |>.iloadN D37_8 rfl
  have s_b1 := Nat.le_trans z1 g1
  have n_b1 := Nat.le_trans nz s_b1
  have o3 := pr1.keep K1 nin0
  obtain ⟨_, h2, K2, ⟨rfl, f2_0⟩, k⟩ := (k.callS (w_141 hw) (S38 hw) (R_38_18 hw G o3 pr2 O1 n_b1 (nlt pr1.lt s_b1) pr3 pr4) D37_9 0 rfl).kv (allS n_b1 all0)
  replace k := k |>.istore D37_12 sto4 |>.iload D37_14 rfl |>.iloadN D37_16 rfl |>.icmpNo D37_17  |>.aloadN D37_20 rfl rfl |>.iloadN D37_21 rfl |>.iconst D37_22 1 |>.ishl D37_23 (z := 2) |>.iloadN D37_24 rfl |>.iloadN D37_25 rfl |>.iadd D37_26 (z := 4)
  replace k := (k.callS (w_110 hw) (S18 hw) (R_18_1 hw G (by decide) (by decide) (p1 := 4)) D37_27 2 rfl).pv
  replace k := k |>.top (y := 8) (by decide)
  have o6 := o3.keep K2 (ninS (nlt pr1.lt s_b1) nin0)
  have z5 := k.sz
  obtain ⟨_, h5, K5, ⟨u1_5, rfl, f5_0, f5_1⟩, k⟩ := (k.callS (w_153 hw) (S31 hw) (R_31_4 hw G (by decide) (by decide) (by decide) (by decide) o6 (by decide) (by decide) (by decide) (by decide) (by decide) (by decide) (p2 := 2) (p3 := 8) (p4 := 8)) D37_30 0 rfl).kv
  have o7 : Ary Z h5 u1_5 ATB 6 (bv (lvi [p4, p5, p6, p7, p8, p9])) := Ary.norm f5_1 (bi_cpz rfl)
  replace k := k |>.astore D37_33 rfl sto5 |>.aload D37_35 rfl rfl |>.iload D37_37 rfl
  replace k := (k.callS (w_120 hw) (S20 hw) (R_20_1 hw G o7 (by decide) (by decide) (by decide) (by decide) (p2 := 2) (p3 := 6)) D37_39 0 rfl).pv
  replace k := k |>.top (y := (gcv p8 p9)) rfl |>.sipush D37_42 255 |>.icmpYes D37_45 (tlt pr4).2.2.1 |>.aload D37_61 rfl rfl
  have s_u1_5 := Nat.le_trans z5 f5_0
  exact k.retA D37_63 rfl ⟨_, rfl, ((K1.trans K2 (allS (Or.inr s_b1) all0)).trans K5 all0), u1_5, rfl, s_u1_5, o7⟩
theorem R_36_18 {a1 : Addr} {p2 p3 p4 p5 p6 p7 p8 p9 : Int32} (hw : HW a0 Z) (G : Gl Z w_CS w_SF) (pr1 : Ary Z h0 a1 ATB 8 (bv (lvi [p2, p3, p4, p5, p6, p7, p8, p9]))) (pr2 : ¬ (255 < (gcv p4 p5))) (pr3 : ¬ (255 < (gcv p6 p7))) (pr4 : 255 < (gcv p8 p9)) : Mt false [] l Y36 C36 (rmk 5 3 15 78) #[.ref a1, .int 1, .int 3] Z a0 h0 n0 (KpV h0 [] fun v h => ∃ u1 u2 : Addr, v = (.ref u1) ∧ h0.size ≤ u1 ∧ h0.size ≤ u2 ∧ u2 ≠ u1 ∧ Obj Z h u1 L_String [.ref u2, .int 1] ∧ Ary Z h u2 ATB 6 (bv (lvi [p4, p5, p6, p7, p8, p9]))) := by
  refine Mt.go PN36 (Or.inl rfl) ef_RII_5 fun k => ?_
  have nz := k.n0le
  replace k := k |>.iloadN D36_0 rfl |>.ifYes D36_1  |>.getS (fl_137 hw) G.S_CS D36_8 |>.ifNo D36_11 ((if0 _ _).trans (feq G.h_CS).1) |>.aloadN D36_14 rfl rfl |>.iloadN D36_15 rfl |>.iloadN D36_16 rfl
  have z1 := k.sz
  obtain ⟨_, h1, K1, ⟨u1_1, rfl, f1_0, f1_1⟩, k⟩ := (k.callS (w_138 hw) (S37 hw) (R_37_18 hw G pr1 pr2 pr3 pr4) D36_17 0 rfl).kv
  replace k := k |>.astoreN D36_20 rfl sto3 |>.aloadN D36_21 rfl rfl |>.iloadN D36_22 rfl
  replace k := (k.callS (w_171 hw) (S21 hw) (R_21_1 hw G f1_1 (by decide) (p2 := 3) (p3 := 6)) D36_23 0 rfl).pv
  replace k := k |>.top (y := 1) (by decide) |>.istore D36_26 sto4
  have z3 := k.sz
  obtain ⟨b3, h3, g3, K3, O3, k⟩ := k.new (L := L_String) (w_172 hw) (nw_String hw) D36_28 (by decide) dvL_String
  replace k := k |>.dup D36_31 rfl |>.aloadN D36_32 rfl rfl |>.iload D36_33 rfl
  have s_b3 := Nat.le_trans z3 g3
  have n_b3 := Nat.le_trans nz s_b3
  obtain ⟨h4, K4, f4_0, k⟩ := (k.callI (w_173 hw) (I35 hw) (R_35_2 hw G O3 n_b3) D36_35 1 rfl).k0 (allS n_b3 all0)
  have s_u1_1 := Nat.le_trans z1 f1_0
  have o5 := (f1_1.keep K3 nin0).keep K4 (ninS (nlt f1_1.lt g3) nin0)
  exact k.retA D36_38 rfl ⟨_, rfl, ((K1.trans K3 all0).trans K4 (allS (Or.inr s_b3) all0)), b3, u1_1, rfl, s_b3, s_u1_1, (nlt f1_1.lt g3), f4_0, o5⟩
theorem R_sub4_1_4 {a1 a2 : Addr} {c0 c1 c2 c3 : Int32} (hw : HW a0 Z) (G : Gl Z w_CS w_SF) (S : Str Z h0 a1 a2 [c0, c1, c2, c3]) (x0 : ¬ (255 < c0)) : Mt false [] l Y10 C10 (rmk 6 3 15 94) #[.ref a1, .int 1, .int 4] Z a0 h0 n0 (KpV h0 [] fun v h => ∃ u w : Addr, v = .ref u ∧ Str Z h u w [c1, c2, c3]) := by
  refine Mt.go PN10 (Or.inl rfl) ef_RII_5 fun k => ?_
  obtain ⟨⟨⟨g0a, g0b⟩, ⟨g1a, g1b⟩, ⟨g2a, g2b⟩, ⟨g3a, g3b⟩, -⟩, S⟩ := S
  rcases S with ⟨T, O, A, hl⟩ | ⟨O, A, u0 | ⟨l0, u1 | ⟨l1, u2 | ⟨l2, u3 | ⟨-, hx⟩⟩⟩⟩⟩
  · obtain ⟨l0, l1, l2, l3, -⟩ := hl
    have A : Ary Z h0 a2 (T, .byte) 4 (bv (lvi [(c0.toInt8.toInt32), (c1.toInt8.toInt32), (c2.toInt8.toInt32), (c3.toInt8.toInt32)])) := A
    replace k := k |>.aloadN D10_0 rfl rfl
    replace k := (k.callV (w_50 hw) (V_Y8_8_String hw) O.exa (R_8_8 hw G O A) D10_1 0 rfl).pv
    replace k := k |>.istoreN D10_4 sto3 |>.iloadN D10_5 rfl |>.iloadN D10_6 rfl |>.iloadN D10_7 rfl
    replace k := (k.callS (w_51 hw) (S11 hw) (R_11_1 hw G (by decide) (by decide) (by decide) (p1 := 1) (p2 := 4) (p3 := 4)) D10_8 0 rfl).p0
    replace k := k |>.iloadN D10_11 rfl |>.ifYes D10_12  |>.iloadN D10_22 rfl |>.iloadN D10_23 rfl |>.isub D10_24 (z := 3) |>.istore D10_25 sto4 |>.aloadN D10_27 rfl rfl
    replace k := (k.callV (w_78 hw) (V_Y23_23_String hw) O.exa (R_23_1 hw G O) D10_28 0 rfl).pv
    replace k := k |>.ifNo D10_31  |>.aloadN D10_34 rfl rfl |>.getF (fl_28 hw) O 0 D10_35 rfl rfl |>.iloadN D10_38 rfl |>.iload D10_39 rfl
    obtain ⟨_, h4, K4, ⟨u1_4, u2_4, rfl, f4_0, f4_1, f4_2, f4_3, f4_4⟩, k⟩ := (k.callS (w_96 hw) (S30 hw) (R_30_4 hw G (by decide) (by decide) (by decide) (by decide) (by decide) A (by decide) (by decide) (by decide) (by decide) (by decide) (by decide) (p2 := 1) (p3 := 3) (p4 := 4)) D10_41 0 rfl).kv
    have o5 : Ary Z h4 u2_4 ATB 3 (bv (lvi [(c1.toInt8.toInt32), (c2.toInt8.toInt32), (c3.toInt8.toInt32)])) := Ary.norm f4_4 (bi_cpz rfl)
    replace k := k |>.goto D10_44
    exact k.retA D10_57 rfl ⟨_, rfl, K4, u1_4, u2_4, rfl, ⟨⟨⟨g1a, g1b⟩, ⟨⟨g2a, g2b⟩, ⟨⟨g3a, g3b⟩, trivial⟩⟩⟩, Or.inl ⟨_, f4_3, o5, ⟨l1, ⟨l2, ⟨l3, trivial⟩⟩⟩⟩⟩⟩
  · exact absurd u0 x0
  · have A : Ary Z h0 a2 ATB 8 (bv (lvi [(lo8 c0), (hi8 c0), (lo8 c1), (hi8 c1), (lo8 c2), (hi8 c2), (lo8 c3), (hi8 c3)])) := A
    replace k := k |>.aloadN D10_0 rfl rfl
    replace k := (k.callV (w_50 hw) (V_Y8_8_String hw) O.exa (R_8_9 hw G O A) D10_1 0 rfl).pv
    replace k := k |>.istoreN D10_4 sto3 |>.iloadN D10_5 rfl |>.iloadN D10_6 rfl |>.iloadN D10_7 rfl
    replace k := (k.callS (w_51 hw) (S11 hw) (R_11_1 hw G (by decide) (by decide) (by decide) (p1 := 1) (p2 := 4) (p3 := 4)) D10_8 0 rfl).p0
    replace k := k |>.iloadN D10_11 rfl |>.ifYes D10_12  |>.iloadN D10_22 rfl |>.iloadN D10_23 rfl |>.isub D10_24 (z := 3) |>.istore D10_25 sto4 |>.aloadN D10_27 rfl rfl
    replace k := (k.callV (w_78 hw) (V_Y23_23_String hw) O.exa (R_23_2 hw G O) D10_28 0 rfl).pv
    replace k := k |>.ifYes D10_31  |>.aloadN D10_47 rfl rfl |>.getF (fl_28 hw) O 0 D10_48 rfl rfl |>.iloadN D10_51 rfl |>.iload D10_52 rfl
    obtain ⟨_, h9, K9, ⟨u1_9, u2_9, rfl, f9_0, f9_1, f9_2, f9_3, f9_4⟩, k⟩ := (k.callS (w_134 hw) (S36 hw) (R_36_16 hw G A (own_d20 rfl g1a g1b u1)) D10_54 0 rfl).kv
    exact k.retA D10_57 rfl ⟨_, rfl, K9, u1_9, u2_9, rfl, ⟨⟨⟨g1a, g1b⟩, ⟨⟨g2a, g2b⟩, ⟨⟨g3a, g3b⟩, trivial⟩⟩⟩, Or.inr ⟨f9_3, f9_4, Or.inl u1⟩⟩⟩
  · have A : Ary Z h0 a2 ATB 8 (bv (lvi [(lo8 c0), (hi8 c0), (lo8 c1), (hi8 c1), (lo8 c2), (hi8 c2), (lo8 c3), (hi8 c3)])) := A
    replace k := k |>.aloadN D10_0 rfl rfl
    replace k := (k.callV (w_50 hw) (V_Y8_8_String hw) O.exa (R_8_9 hw G O A) D10_1 0 rfl).pv
    replace k := k |>.istoreN D10_4 sto3 |>.iloadN D10_5 rfl |>.iloadN D10_6 rfl |>.iloadN D10_7 rfl
    replace k := (k.callS (w_51 hw) (S11 hw) (R_11_1 hw G (by decide) (by decide) (by decide) (p1 := 1) (p2 := 4) (p3 := 4)) D10_8 0 rfl).p0
    replace k := k |>.iloadN D10_11 rfl |>.ifYes D10_12  |>.iloadN D10_22 rfl |>.iloadN D10_23 rfl |>.isub D10_24 (z := 3) |>.istore D10_25 sto4 |>.aloadN D10_27 rfl rfl
    replace k := (k.callV (w_78 hw) (V_Y23_23_String hw) O.exa (R_23_2 hw G O) D10_28 0 rfl).pv
    replace k := k |>.ifYes D10_31  |>.aloadN D10_47 rfl rfl |>.getF (fl_28 hw) O 0 D10_48 rfl rfl |>.iloadN D10_51 rfl |>.iload D10_52 rfl
    obtain ⟨_, h13, K13, ⟨u1_13, u2_13, rfl, f13_0, f13_1, f13_2, f13_3, f13_4⟩, k⟩ := (k.callS (w_134 hw) (S36 hw) (R_36_17 hw G A (own_d50 rfl g1a g1b l1) (own_d34 rfl g2a g2b u2)) D10_54 0 rfl).kv
    exact k.retA D10_57 rfl ⟨_, rfl, K13, u1_13, u2_13, rfl, ⟨⟨⟨g1a, g1b⟩, ⟨⟨g2a, g2b⟩, ⟨⟨g3a, g3b⟩, trivial⟩⟩⟩, Or.inr ⟨f13_3, f13_4, Or.inr ⟨l1, Or.inl u2⟩⟩⟩⟩
  · have A : Ary Z h0 a2 ATB 8 (bv (lvi [(lo8 c0), (hi8 c0), (lo8 c1), (hi8 c1), (lo8 c2), (hi8 c2), (lo8 c3), (hi8 c3)])) := A
    replace k := k |>.aloadN D10_0 rfl rfl
    replace k := (k.callV (w_50 hw) (V_Y8_8_String hw) O.exa (R_8_9 hw G O A) D10_1 0 rfl).pv
    replace k := k |>.istoreN D10_4 sto3 |>.iloadN D10_5 rfl |>.iloadN D10_6 rfl |>.iloadN D10_7 rfl
    replace k := (k.callS (w_51 hw) (S11 hw) (R_11_1 hw G (by decide) (by decide) (by decide) (p1 := 1) (p2 := 4) (p3 := 4)) D10_8 0 rfl).p0
    replace k := k |>.iloadN D10_11 rfl |>.ifYes D10_12  |>.iloadN D10_22 rfl |>.iloadN D10_23 rfl |>.isub D10_24 (z := 3) |>.istore D10_25 sto4 |>.aloadN D10_27 rfl rfl
    replace k := (k.callV (w_78 hw) (V_Y23_23_String hw) O.exa (R_23_2 hw G O) D10_28 0 rfl).pv
    replace k := k |>.ifYes D10_31  |>.aloadN D10_47 rfl rfl |>.getF (fl_28 hw) O 0 D10_48 rfl rfl |>.iloadN D10_51 rfl |>.iload D10_52 rfl
    obtain ⟨_, h17, K17, ⟨u1_17, u2_17, rfl, f17_0, f17_1, f17_2, f17_3, f17_4⟩, k⟩ := (k.callS (w_134 hw) (S36 hw) (R_36_18 hw G A (own_d50 rfl g1a g1b l1) (own_d67 rfl g2a g2b l2) (own_d52 rfl g3a g3b u3)) D10_54 0 rfl).kv
    exact k.retA D10_57 rfl ⟨_, rfl, K17, u1_17, u2_17, rfl, ⟨⟨⟨g1a, g1b⟩, ⟨⟨g2a, g2b⟩, ⟨⟨g3a, g3b⟩, trivial⟩⟩⟩, Or.inr ⟨f17_3, f17_4, Or.inr ⟨l1, Or.inr ⟨l2, Or.inl u3⟩⟩⟩⟩⟩
  · exact hx.elim
theorem R_7_38 {a1 a2 : Addr} {p3 p4 p5 p6 : Int32} (hw : HW a0 Z) (G : Gl Z w_CS w_SF) (pr1 : Str Z h0 a1 a2 [p3, p4, p5, p6]) (pr2 : ¬ ((bl p3) = 0)) (pr3 : (bl p4) = 0) (pr4 : (bl p6) = 0) (pr5 : ¬ (255 < p3)) : Mt false [] l Y7 C7 (rmk 7 3 15 110) #[.ref a1] Z a0 h0 n0 (KpV h0 [] fun v h => ∃ u1 u2 : Addr, v = (.ref u1) ∧ Str Z h u1 u2 [p4, p5, p6]) := by
  refine Mt.go PN7 (Or.inl rfl) ef_R_3 fun k => ?_
  replace k := k |>.iconst D7_0 0 |>.istoreN D7_1 sto1 |>.aloadN D7_2 rfl rfl
  replace k := (k.callV (w_34 hw) (V_Y8_8_String hw) pr1.exa (R_len4 hw G pr1) D7_3 0 rfl).pv
  replace k := k |>.istoreN D7_6 sto2 |>.iloadN D7_7 rfl |>.iloadN D7_8 rfl |>.icmpNo D7_9  |>.aloadN D7_12 rfl rfl |>.iloadN D7_13 rfl
  replace k := (k.callV (w_73 hw) (V_Y22_22_String hw) pr1.exa (R_chr4_0 hw G pr1) D7_14 0 rfl).pv
  replace k := (k.callS (w_93 hw) (S2 hw) (R_own_isBlank hw G) D7_17 0 rfl).pv
  replace k := k |>.ifNo D7_20 ((if0 _ _).trans (feq pr2).1) |>.iinc D7_23 rfl (z := 1) (by decide) sto1 |>.goto D7_26 |>.iloadN D7_7 rfl |>.iloadN D7_8 rfl |>.icmpNo D7_9  |>.aloadN D7_12 rfl rfl |>.iloadN D7_13 rfl
  replace k := (k.callV (w_73 hw) (V_Y22_22_String hw) pr1.exa (R_chr4_1 hw G pr1) D7_14 0 rfl).pv
  replace k := (k.callS (w_93 hw) (S2 hw) (R_own_isBlank hw G) D7_17 0 rfl).pv
  replace k := k |>.ifYes D7_20 ((if0 _ _).trans (teq pr3).1) |>.iloadN D7_29 rfl |>.iloadN D7_30 rfl |>.icmpNo D7_31  |>.aloadN D7_34 rfl rfl |>.iloadN D7_35 rfl |>.iconst D7_36 1 |>.isub D7_37 (z := 3)
  replace k := (k.callV (w_73 hw) (V_Y22_22_String hw) pr1.exa (R_chr4_3 hw G pr1) D7_38 0 rfl).pv
  replace k := (k.callS (w_93 hw) (S2 hw) (R_own_isBlank hw G) D7_41 0 rfl).pv
  replace k := k |>.ifYes D7_44 ((if0 _ _).trans (teq pr4).1) |>.aloadN D7_53 rfl rfl |>.iloadN D7_54 rfl |>.iloadN D7_55 rfl
  obtain ⟨_, h1, K1, ⟨u1, w1, rfl, S1⟩, k⟩ := (k.callV (w_45 hw) (V_Y10_10_String hw) pr1.exa (R_sub4_1_4 hw G pr1 pr5) D7_56 0 rfl).kv
  exact k.retA D7_59 rfl ⟨_, rfl, K1, u1, w1, rfl, S1⟩
theorem R_13_33 {a1 a2 a3 : Addr} {p4 p5 p6 p7 p8 p9 p10 : Int32} (hw : HW a0 Z) (G : Gl Z w_CS w_SF) (pr1 : Str Z h0 a1 a3 [p4, p5, p6]) (pr2 : Ary Z h0 a2 ATC 4 (bv (lvi [p7, p8, p9, p10]))) (pr3 : p4 = p8) : Mt false [] l Y13 C13 (rmk 5 0 0 66) #[.ref a1, .int 0, .ref a2, .int 1] Z a0 h0 n0 (Pv h0 (.int 1)) := by
  refine Mt.go PN13 (Or.inl rfl) ef_RIRI_4 fun k => ?_
  replace k := k |>.iloadN D13_0 rfl |>.aloadN D13_1 rfl rfl
  replace k := (k.callV (w_59 hw) (V_Y8_8_String hw) pr1.exa (R_len3 hw G pr1) D13_2 1 rfl).pv
  replace k := k |>.icmpNo D13_5  |>.aloadN D13_8 rfl rfl |>.iloadN D13_9 rfl
  replace k := (k.callV (w_133 hw) (V_Y22_22_String hw) pr1.exa (R_chr3_0 hw G pr1) D13_10 0 rfl).pv
  replace k := k |>.aloadN D13_13 rfl rfl |>.iloadN D13_14 rfl |>.iloadN D13_15 rfl |>.iadd D13_16 (z := 1) |>.cald pr2 D13_17 (i := 1) (by decide) big1 |>.icmpNo D13_18 (teq pr3).2 |>.iconst D13_21 1 |>.goto D13_22
  exact k.retN (t := .boolean) D13_26 rfl (by simp) (z' := 1) (by decide) ⟨rfl, rfl⟩
theorem R_13_34 {a1 a2 a3 : Addr} {p4 p5 p6 p7 p8 p9 p10 : Int32} (hw : HW a0 Z) (G : Gl Z w_CS w_SF) (pr1 : Str Z h0 a1 a3 [p4, p5, p6]) (pr2 : Ary Z h0 a2 ATC 4 (bv (lvi [p7, p8, p9, p10]))) (pr3 : p5 = p9) : Mt false [] l Y13 C13 (rmk 5 0 0 66) #[.ref a1, .int 1, .ref a2, .int 1] Z a0 h0 n0 (Pv h0 (.int 1)) := by
  refine Mt.go PN13 (Or.inl rfl) ef_RIRI_4 fun k => ?_
  replace k := k |>.iloadN D13_0 rfl |>.aloadN D13_1 rfl rfl
  replace k := (k.callV (w_59 hw) (V_Y8_8_String hw) pr1.exa (R_len3 hw G pr1) D13_2 1 rfl).pv
  replace k := k |>.icmpNo D13_5  |>.aloadN D13_8 rfl rfl |>.iloadN D13_9 rfl
  replace k := (k.callV (w_133 hw) (V_Y22_22_String hw) pr1.exa (R_chr3_1 hw G pr1) D13_10 0 rfl).pv
  replace k := k |>.aloadN D13_13 rfl rfl |>.iloadN D13_14 rfl |>.iloadN D13_15 rfl |>.iadd D13_16 (z := 2) |>.cald pr2 D13_17 (i := 2) (by decide) big2 |>.icmpNo D13_18 (teq pr3).2 |>.iconst D13_21 1 |>.goto D13_22
  exact k.retN (t := .boolean) D13_26 rfl (by simp) (z' := 1) (by decide) ⟨rfl, rfl⟩
theorem R_13_35 {a1 a2 a3 : Addr} {p4 p5 p6 p7 p8 p9 p10 : Int32} (hw : HW a0 Z) (G : Gl Z w_CS w_SF) (pr1 : Str Z h0 a1 a3 [p4, p5, p6]) (pr2 : Ary Z h0 a2 ATC 4 (bv (lvi [p7, p8, p9, p10]))) (pr3 : p6 = p10) : Mt false [] l Y13 C13 (rmk 5 0 0 66) #[.ref a1, .int 2, .ref a2, .int 1] Z a0 h0 n0 (Pv h0 (.int 1)) := by
  refine Mt.go PN13 (Or.inl rfl) ef_RIRI_4 fun k => ?_
  replace k := k |>.iloadN D13_0 rfl |>.aloadN D13_1 rfl rfl
  replace k := (k.callV (w_59 hw) (V_Y8_8_String hw) pr1.exa (R_len3 hw G pr1) D13_2 1 rfl).pv
  replace k := k |>.icmpNo D13_5  |>.aloadN D13_8 rfl rfl |>.iloadN D13_9 rfl
  replace k := (k.callV (w_133 hw) (V_Y22_22_String hw) pr1.exa (R_chr3_2 hw G pr1) D13_10 0 rfl).pv
  replace k := k |>.aloadN D13_13 rfl rfl |>.iloadN D13_14 rfl |>.iloadN D13_15 rfl |>.iadd D13_16 (z := 3) |>.cald pr2 D13_17 (i := 3) (by decide) big3 |>.icmpNo D13_18 (teq pr3).2 |>.iconst D13_21 1 |>.goto D13_22
  exact k.retN (t := .boolean) D13_26 rfl (by simp) (z' := 1) (by decide) ⟨rfl, rfl⟩
theorem R_13_36 {a1 a2 a3 : Addr} {p4 p5 p6 : Int32} (hw : HW a0 Z) (G : Gl Z w_CS w_SF) (pr1 : Str Z h0 a1 a3 [p4, p5, p6]) : Mt false [] l Y13 C13 (rmk 2 0 0 26) #[.ref a1, .int 3, .ref a2, .int 1] Z a0 h0 n0 (Pv h0 (.int 1)) := by
  refine Mt.go PN13 (Or.inl rfl) ef_RIRI_4 fun k => ?_
  replace k := k |>.iloadN D13_0 rfl |>.aloadN D13_1 rfl rfl
  replace k := (k.callV (w_59 hw) (V_Y8_8_String hw) pr1.exa (R_len3 hw G pr1) D13_2 1 rfl).pv
  replace k := k |>.icmpYes D13_5  |>.iconst D13_21 1 |>.goto D13_22
  exact k.retN (t := .boolean) D13_26 rfl (by simp) (z' := 1) (by decide) ⟨rfl, rfl⟩
theorem R_38_19 {a1 a2 : Addr} {p3 p4 p5 p6 p7 p8 p9 p10 : Int32} (hw : HW a0 Z) (G : Gl Z w_CS w_SF) (pr1 : Ary Z h0 a1 ATB 8 (bv (lvi [p3, p4, p5, p6, p7, p8, p9, p10]))) (pr2 : 255 < (gcv p5 p6)) : Mt false [] l Y38 C38 (rmk 3 0 0 43) #[.ref a1, .int 1, .ref a2, .int 0, .int 2] Z a0 h0 n0 (Pv h0 (.int 0)) := by
  refine Mt.go PN38 (Or.inl rfl) ef_RIRII_7 fun k => ?_
  replace k := k |>.iloadN D38_0 rfl |>.iload D38_1 rfl |>.aloadN D38_3 rfl rfl
  replace k := (k.callS (w_144 hw) (S39 hw) (R_39_1 hw G pr1 (by decide) (by decide) (by decide) (p1 := 1) (p2 := 2) (p4 := 8)) D38_4 0 rfl).p0
  replace k := k |>.iconst D38_7 0 |>.istore D38_8 sto5 |>.iload D38_10 rfl |>.iload D38_12 rfl |>.icmpNo D38_14  |>.aloadN D38_17 rfl rfl |>.iloadN D38_18 rfl
  replace k := (k.callS (w_120 hw) (S20 hw) (R_20_1 hw G pr1 (by decide) (by decide) (by decide) (by decide) (p2 := 1) (p3 := 8)) D38_19 0 rfl).pv
  replace k := k |>.top (y := (gcv p5 p6)) rfl |>.istore D38_22 sto6 |>.iload D38_24 rfl |>.sipush D38_26 255 |>.icmpNo D38_29 (tlt pr2).2.2.2 |>.iload D38_32 rfl
  exact k.retI D38_34 rfl ⟨rfl, rfl⟩
theorem R_37_19 {a1 : Addr} {p2 p3 p4 p5 p6 p7 p8 p9 : Int32} (hw : HW a0 Z) (G : Gl Z w_CS w_SF) (pr1 : Ary Z h0 a1 ATB 8 (bv (lvi [p2, p3, p4, p5, p6, p7, p8, p9]))) (pr2 : 255 < (gcv p4 p5)) : Mt false [] l Y37 C37 (rmk 4 2 10 61) #[.ref a1, .int 1, .int 2] Z a0 h0 n0 (KpV h0 [] fun v h => ∃ u1 : Addr, v = (.ref u1) ∧ h0.size ≤ u1 ∧ Ary Z h u1 ATB 4 (bv (lvi [p4, p5, p6, p7]))) := by
  refine Mt.go PN37 (Or.inl rfl) ef_RII_6 fun k => ?_
  replace k := k |>.iloadN D37_0 rfl
  obtain ⟨b1, h1, g1, K1, O1, k⟩ := k.newP (aty := .byte) "[B" (w_23 hw) (by decide) D37_1 2 (by decide) (n := 2) (by decide) (by decide) (by decide) (bi_const (L := [0, 0]) rfl)
  replace k := k |>.astoreN D37_3 rfl sto3 |>.aloadN D37_4 rfl rfl |>.iloadN D37_5 rfl |>.aloadN D37_6 rfl rfl |>.iconst D37_7 0 |>.iloadN D37_8 rfl
  have o3 := pr1.keep K1 nin0
  replace k := (k.callS (w_141 hw) (S38 hw) (R_38_19 hw G o3 pr2) D37_9 0 rfl).pv
  replace k := k |>.istore D37_12 sto4 |>.iload D37_14 rfl |>.iloadN D37_16 rfl |>.icmpNo D37_17  |>.aloadN D37_20 rfl rfl |>.iloadN D37_21 rfl |>.iconst D37_22 1 |>.ishl D37_23 (z := 2) |>.iloadN D37_24 rfl |>.iloadN D37_25 rfl |>.iadd D37_26 (z := 3)
  replace k := (k.callS (w_110 hw) (S18 hw) (R_18_1 hw G (by decide) (by decide) (p1 := 3)) D37_27 2 rfl).pv
  replace k := k |>.top (y := 6) (by decide)
  have z5 := k.sz
  obtain ⟨_, h5, K5, ⟨u1_5, rfl, f5_0, f5_1⟩, k⟩ := (k.callS (w_153 hw) (S31 hw) (R_31_6 hw G (by decide) (by decide) (by decide) (by decide) o3 (by decide) (by decide) (by decide) (by decide) (by decide) (p2 := 2) (p3 := 6) (p4 := 8)) D37_30 0 rfl).kv
  have o6 : Ary Z h5 u1_5 ATB 4 (bv (lvi [p4, p5, p6, p7])) := Ary.norm f5_1 (bi_cpz rfl)
  replace k := k |>.astore D37_33 rfl sto5 |>.aload D37_35 rfl rfl |>.iload D37_37 rfl
  replace k := (k.callS (w_120 hw) (S20 hw) (R_20_1 hw G o6 (by decide) (by decide) (by decide) (by decide) (p2 := 0) (p3 := 4)) D37_39 0 rfl).pv
  replace k := k |>.top (y := (gcv p4 p5)) rfl |>.sipush D37_42 255 |>.icmpYes D37_45 (tlt pr2).2.2.1 |>.aload D37_61 rfl rfl
  have s_u1_5 := Nat.le_trans z5 f5_0
  exact k.retA D37_63 rfl ⟨_, rfl, (K1.trans K5 all0), u1_5, rfl, s_u1_5, o6⟩
theorem R_36_19 {a1 : Addr} {p2 p3 p4 p5 p6 p7 p8 p9 : Int32} (hw : HW a0 Z) (G : Gl Z w_CS w_SF) (pr1 : Ary Z h0 a1 ATB 8 (bv (lvi [p2, p3, p4, p5, p6, p7, p8, p9]))) (pr2 : 255 < (gcv p4 p5)) : Mt false [] l Y36 C36 (rmk 5 3 14 78) #[.ref a1, .int 1, .int 2] Z a0 h0 n0 (KpV h0 [] fun v h => ∃ u1 u2 : Addr, v = (.ref u1) ∧ h0.size ≤ u1 ∧ h0.size ≤ u2 ∧ u2 ≠ u1 ∧ Obj Z h u1 L_String [.ref u2, .int 1] ∧ Ary Z h u2 ATB 4 (bv (lvi [p4, p5, p6, p7]))) := by
  refine Mt.go PN36 (Or.inl rfl) ef_RII_5 fun k => ?_
  have nz := k.n0le
  replace k := k |>.iloadN D36_0 rfl |>.ifYes D36_1  |>.getS (fl_137 hw) G.S_CS D36_8 |>.ifNo D36_11 ((if0 _ _).trans (feq G.h_CS).1) |>.aloadN D36_14 rfl rfl |>.iloadN D36_15 rfl |>.iloadN D36_16 rfl
  have z1 := k.sz
  obtain ⟨_, h1, K1, ⟨u1_1, rfl, f1_0, f1_1⟩, k⟩ := (k.callS (w_138 hw) (S37 hw) (R_37_19 hw G pr1 pr2) D36_17 0 rfl).kv
  replace k := k |>.astoreN D36_20 rfl sto3 |>.aloadN D36_21 rfl rfl |>.iloadN D36_22 rfl
  replace k := (k.callS (w_171 hw) (S21 hw) (R_21_1 hw G f1_1 (by decide) (p2 := 2) (p3 := 4)) D36_23 0 rfl).pv
  replace k := k |>.top (y := 1) (by decide) |>.istore D36_26 sto4
  have z3 := k.sz
  obtain ⟨b3, h3, g3, K3, O3, k⟩ := k.new (L := L_String) (w_172 hw) (nw_String hw) D36_28 (by decide) dvL_String
  replace k := k |>.dup D36_31 rfl |>.aloadN D36_32 rfl rfl |>.iload D36_33 rfl
  have s_b3 := Nat.le_trans z3 g3
  have n_b3 := Nat.le_trans nz s_b3
  obtain ⟨h4, K4, f4_0, k⟩ := (k.callI (w_173 hw) (I35 hw) (R_35_2 hw G O3 n_b3) D36_35 1 rfl).k0 (allS n_b3 all0)
  have s_u1_1 := Nat.le_trans z1 f1_0
  have o5 := (f1_1.keep K3 nin0).keep K4 (ninS (nlt f1_1.lt g3) nin0)
  exact k.retA D36_38 rfl ⟨_, rfl, ((K1.trans K3 all0).trans K4 (allS (Or.inr s_b3) all0)), b3, u1_1, rfl, s_b3, s_u1_1, (nlt f1_1.lt g3), f4_0, o5⟩
theorem R_38_20 {a1 a2 : Addr} {p3 p4 p5 p6 p7 p8 p9 p10 : Int32} (hw : HW a0 Z) (G : Gl Z w_CS w_SF) (pr1 : Ary Z h0 a1 ATB 8 (bv (lvi [p3, p4, p5, p6, p7, p8, p9, p10]))) (pr2 : ¬ (255 < (gcv p5 p6))) (pr3 : Ary Z h0 a2 ATB 2 (bv (lvi [0, 0]))) (pr4 : n0 ≤ a2) (pr5 : a1 ≠ a2) (pr6 : 255 < (gcv p7 p8)) : Mt false [] l Y38 C38 (rmk 3 0 0 43) #[.ref a1, .int 1, .ref a2, .int 0, .int 2] Z a0 h0 n0 (KpV h0 [a2] fun v h => v = (.int 1) ∧ Ary Z h a2 ATB 2 (bv (lvi [((gcv p5 p6).toInt8.toInt32), 0]))) := by
  refine Mt.go PN38 (Or.inl rfl) ef_RIRII_7 fun k => ?_
  replace k := k |>.iloadN D38_0 rfl |>.iload D38_1 rfl |>.aloadN D38_3 rfl rfl
  replace k := (k.callS (w_144 hw) (S39 hw) (R_39_1 hw G pr1 (by decide) (by decide) (by decide) (p1 := 1) (p2 := 2) (p4 := 8)) D38_4 0 rfl).p0
  replace k := k |>.iconst D38_7 0 |>.istore D38_8 sto5 |>.iload D38_10 rfl |>.iload D38_12 rfl |>.icmpNo D38_14  |>.aloadN D38_17 rfl rfl |>.iloadN D38_18 rfl
  replace k := (k.callS (w_120 hw) (S20 hw) (R_20_1 hw G pr1 (by decide) (by decide) (by decide) (by decide) (p2 := 1) (p3 := 8)) D38_19 0 rfl).pv
  replace k := k |>.top (y := (gcv p5 p6)) rfl |>.istore D38_22 sto6 |>.iload D38_24 rfl |>.sipush D38_26 255 |>.icmpYes D38_29 (flt pr2).2.2.2 |>.aloadN D38_35 rfl rfl |>.iloadN D38_36 rfl |>.iload D38_37 rfl |>.i2b D38_39 rfl
  obtain ⟨h3, K3, O3, k⟩ := k.stB pr3 pr4 (Or.inl rfl) D38_40 (i := 0) (by decide) (v := (.int ((gcv p5 p6).toInt8.toInt32))) (congrArg Value.int (own_nnBi2b _)) (own_fitBi2b _) bis0
  replace k := k |>.iinc D38_41 rfl (z := 2) (by decide) sto1 |>.iinc D38_44 rfl (z := 1) (by decide) sto3 |>.iinc D38_47 rfl (z := 1) (by decide) sto5 |>.goto D38_50 |>.iload D38_10 rfl |>.iload D38_12 rfl |>.icmpNo D38_14  |>.aloadN D38_17 rfl rfl |>.iloadN D38_18 rfl
  have o5 := pr1.keep K3 (ninS pr5 nin0)
  replace k := (k.callS (w_120 hw) (S20 hw) (R_20_1 hw G o5 (by decide) (by decide) (by decide) (by decide) (p2 := 2) (p3 := 8)) D38_19 0 rfl).pv
  replace k := k |>.top (y := (gcv p7 p8)) rfl |>.istore D38_22 sto6 |>.iload D38_24 rfl |>.sipush D38_26 255 |>.icmpNo D38_29 (tlt pr6).2.2.2 |>.iload D38_32 rfl
  exact k.retI D38_34 rfl ⟨_, rfl, K3, rfl, O3⟩
theorem R_37_20 {a1 : Addr} {p2 p3 p4 p5 p6 p7 p8 p9 : Int32} (hw : HW a0 Z) (G : Gl Z w_CS w_SF) (pr1 : Ary Z h0 a1 ATB 8 (bv (lvi [p2, p3, p4, p5, p6, p7, p8, p9]))) (pr2 : ¬ (255 < (gcv p4 p5))) (pr3 : 255 < (gcv p6 p7)) : Mt false [] l Y37 C37 (rmk 4 2 10 61) #[.ref a1, .int 1, .int 2] Z a0 h0 n0 (KpV h0 [] fun v h => ∃ u1 : Addr, v = (.ref u1) ∧ h0.size ≤ u1 ∧ Ary Z h u1 ATB 4 (bv (lvi [p4, p5, p6, p7]))) := by
  refine Mt.go PN37 (Or.inl rfl) ef_RII_6 fun k => ?_
  have nz := k.n0le
  replace k := k |>.iloadN D37_0 rfl
  have z1 := k.sz
  obtain ⟨b1, h1, g1, K1, O1, k⟩ := k.newP (aty := .byte) "[B" (w_23 hw) (by decide) D37_1 2 (by decide) (n := 2) (by decide) (by decide) (by decide) (bi_const (L := [0, 0]) rfl)
  replace k := k |>.astoreN D37_3 rfl sto3 |>.aloadN D37_4 rfl rfl |>.iloadN D37_5 rfl |>.aloadN D37_6 rfl rfl |>.iconst D37_7 0 |>.iloadN D37_8 rfl
  have s_b1 := Nat.le_trans z1 g1
  have n_b1 := Nat.le_trans nz s_b1
  have o3 := pr1.keep K1 nin0
  obtain ⟨_, h2, K2, ⟨rfl, f2_0⟩, k⟩ := (k.callS (w_141 hw) (S38 hw) (R_38_20 hw G o3 pr2 O1 n_b1 (nlt pr1.lt s_b1) pr3) D37_9 0 rfl).kv (allS n_b1 all0)
  replace k := k |>.istore D37_12 sto4 |>.iload D37_14 rfl |>.iloadN D37_16 rfl |>.icmpNo D37_17  |>.aloadN D37_20 rfl rfl |>.iloadN D37_21 rfl |>.iconst D37_22 1 |>.ishl D37_23 (z := 2) |>.iloadN D37_24 rfl |>.iloadN D37_25 rfl |>.iadd D37_26 (z := 3)
  replace k := (k.callS (w_110 hw) (S18 hw) (R_18_1 hw G (by decide) (by decide) (p1 := 3)) D37_27 2 rfl).pv
  replace k := k |>.top (y := 6) (by decide)
  have o6 := o3.keep K2 (ninS (nlt pr1.lt s_b1) nin0)
  have z5 := k.sz
  obtain ⟨_, h5, K5, ⟨u1_5, rfl, f5_0, f5_1⟩, k⟩ := (k.callS (w_153 hw) (S31 hw) (R_31_6 hw G (by decide) (by decide) (by decide) (by decide) o6 (by decide) (by decide) (by decide) (by decide) (by decide) (p2 := 2) (p3 := 6) (p4 := 8)) D37_30 0 rfl).kv
  have o7 : Ary Z h5 u1_5 ATB 4 (bv (lvi [p4, p5, p6, p7])) := Ary.norm f5_1 (bi_cpz rfl)
  replace k := k |>.astore D37_33 rfl sto5 |>.aload D37_35 rfl rfl |>.iload D37_37 rfl
  replace k := (k.callS (w_120 hw) (S20 hw) (R_20_1 hw G o7 (by decide) (by decide) (by decide) (by decide) (p2 := 1) (p3 := 4)) D37_39 0 rfl).pv
  replace k := k |>.top (y := (gcv p6 p7)) rfl |>.sipush D37_42 255 |>.icmpYes D37_45 (tlt pr3).2.2.1 |>.aload D37_61 rfl rfl
  have s_u1_5 := Nat.le_trans z5 f5_0
  exact k.retA D37_63 rfl ⟨_, rfl, ((K1.trans K2 (allS (Or.inr s_b1) all0)).trans K5 all0), u1_5, rfl, s_u1_5, o7⟩
theorem R_36_20 {a1 : Addr} {p2 p3 p4 p5 p6 p7 p8 p9 : Int32} (hw : HW a0 Z) (G : Gl Z w_CS w_SF) (pr1 : Ary Z h0 a1 ATB 8 (bv (lvi [p2, p3, p4, p5, p6, p7, p8, p9]))) (pr2 : ¬ (255 < (gcv p4 p5))) (pr3 : 255 < (gcv p6 p7)) : Mt false [] l Y36 C36 (rmk 5 3 14 78) #[.ref a1, .int 1, .int 2] Z a0 h0 n0 (KpV h0 [] fun v h => ∃ u1 u2 : Addr, v = (.ref u1) ∧ h0.size ≤ u1 ∧ h0.size ≤ u2 ∧ u2 ≠ u1 ∧ Obj Z h u1 L_String [.ref u2, .int 1] ∧ Ary Z h u2 ATB 4 (bv (lvi [p4, p5, p6, p7]))) := by
  refine Mt.go PN36 (Or.inl rfl) ef_RII_5 fun k => ?_
  have nz := k.n0le
  replace k := k |>.iloadN D36_0 rfl |>.ifYes D36_1  |>.getS (fl_137 hw) G.S_CS D36_8 |>.ifNo D36_11 ((if0 _ _).trans (feq G.h_CS).1) |>.aloadN D36_14 rfl rfl |>.iloadN D36_15 rfl |>.iloadN D36_16 rfl
  have z1 := k.sz
  obtain ⟨_, h1, K1, ⟨u1_1, rfl, f1_0, f1_1⟩, k⟩ := (k.callS (w_138 hw) (S37 hw) (R_37_20 hw G pr1 pr2 pr3) D36_17 0 rfl).kv
  replace k := k |>.astoreN D36_20 rfl sto3 |>.aloadN D36_21 rfl rfl |>.iloadN D36_22 rfl
  replace k := (k.callS (w_171 hw) (S21 hw) (R_21_1 hw G f1_1 (by decide) (p2 := 2) (p3 := 4)) D36_23 0 rfl).pv
  replace k := k |>.top (y := 1) (by decide) |>.istore D36_26 sto4
  have z3 := k.sz
  obtain ⟨b3, h3, g3, K3, O3, k⟩ := k.new (L := L_String) (w_172 hw) (nw_String hw) D36_28 (by decide) dvL_String
  replace k := k |>.dup D36_31 rfl |>.aloadN D36_32 rfl rfl |>.iload D36_33 rfl
  have s_b3 := Nat.le_trans z3 g3
  have n_b3 := Nat.le_trans nz s_b3
  obtain ⟨h4, K4, f4_0, k⟩ := (k.callI (w_173 hw) (I35 hw) (R_35_2 hw G O3 n_b3) D36_35 1 rfl).k0 (allS n_b3 all0)
  have s_u1_1 := Nat.le_trans z1 f1_0
  have o5 := (f1_1.keep K3 nin0).keep K4 (ninS (nlt f1_1.lt g3) nin0)
  exact k.retA D36_38 rfl ⟨_, rfl, ((K1.trans K3 all0).trans K4 (allS (Or.inr s_b3) all0)), b3, u1_1, rfl, s_b3, s_u1_1, (nlt f1_1.lt g3), f4_0, o5⟩
theorem R_sub4_1_3 {a1 a2 : Addr} {c0 c1 c2 c3 : Int32} (hw : HW a0 Z) (G : Gl Z w_CS w_SF) (S : Str Z h0 a1 a2 [c0, c1, c2, c3]) (x0 : ¬ (255 < c0)) (x3 : ¬ (255 < c3)) : Mt false [] l Y10 C10 (rmk 6 3 14 94) #[.ref a1, .int 1, .int 3] Z a0 h0 n0 (KpV h0 [] fun v h => ∃ u w : Addr, v = .ref u ∧ Str Z h u w [c1, c2]) := by
  refine Mt.go PN10 (Or.inl rfl) ef_RII_5 fun k => ?_
  obtain ⟨⟨⟨g0a, g0b⟩, ⟨g1a, g1b⟩, ⟨g2a, g2b⟩, ⟨g3a, g3b⟩, -⟩, S⟩ := S
  rcases S with ⟨T, O, A, hl⟩ | ⟨O, A, u0 | ⟨l0, u1 | ⟨l1, u2 | ⟨l2, u3 | ⟨-, hx⟩⟩⟩⟩⟩
  · obtain ⟨l0, l1, l2, l3, -⟩ := hl
    have A : Ary Z h0 a2 (T, .byte) 4 (bv (lvi [(c0.toInt8.toInt32), (c1.toInt8.toInt32), (c2.toInt8.toInt32), (c3.toInt8.toInt32)])) := A
    replace k := k |>.aloadN D10_0 rfl rfl
    replace k := (k.callV (w_50 hw) (V_Y8_8_String hw) O.exa (R_8_8 hw G O A) D10_1 0 rfl).pv
    replace k := k |>.istoreN D10_4 sto3 |>.iloadN D10_5 rfl |>.iloadN D10_6 rfl |>.iloadN D10_7 rfl
    replace k := (k.callS (w_51 hw) (S11 hw) (R_11_1 hw G (by decide) (by decide) (by decide) (p1 := 1) (p2 := 3) (p3 := 4)) D10_8 0 rfl).p0
    replace k := k |>.iloadN D10_11 rfl |>.ifYes D10_12  |>.iloadN D10_22 rfl |>.iloadN D10_23 rfl |>.isub D10_24 (z := 2) |>.istore D10_25 sto4 |>.aloadN D10_27 rfl rfl
    replace k := (k.callV (w_78 hw) (V_Y23_23_String hw) O.exa (R_23_1 hw G O) D10_28 0 rfl).pv
    replace k := k |>.ifNo D10_31  |>.aloadN D10_34 rfl rfl |>.getF (fl_28 hw) O 0 D10_35 rfl rfl |>.iloadN D10_38 rfl |>.iload D10_39 rfl
    obtain ⟨_, h4, K4, ⟨u1_4, u2_4, rfl, f4_0, f4_1, f4_2, f4_3, f4_4⟩, k⟩ := (k.callS (w_96 hw) (S30 hw) (R_30_5 hw G (by decide) (by decide) (by decide) (by decide) (by decide) A (by decide) (by decide) (by decide) (by decide) (by decide) (p2 := 1) (p3 := 2) (p4 := 4)) D10_41 0 rfl).kv
    have o5 : Ary Z h4 u2_4 ATB 2 (bv (lvi [(c1.toInt8.toInt32), (c2.toInt8.toInt32)])) := Ary.norm f4_4 (bi_cpz rfl)
    replace k := k |>.goto D10_44
    exact k.retA D10_57 rfl ⟨_, rfl, K4, u1_4, u2_4, rfl, ⟨⟨⟨g1a, g1b⟩, ⟨⟨g2a, g2b⟩, trivial⟩⟩, Or.inl ⟨_, f4_3, o5, ⟨l1, ⟨l2, trivial⟩⟩⟩⟩⟩
  · exact absurd u0 x0
  · have A : Ary Z h0 a2 ATB 8 (bv (lvi [(lo8 c0), (hi8 c0), (lo8 c1), (hi8 c1), (lo8 c2), (hi8 c2), (lo8 c3), (hi8 c3)])) := A
    replace k := k |>.aloadN D10_0 rfl rfl
    replace k := (k.callV (w_50 hw) (V_Y8_8_String hw) O.exa (R_8_9 hw G O A) D10_1 0 rfl).pv
    replace k := k |>.istoreN D10_4 sto3 |>.iloadN D10_5 rfl |>.iloadN D10_6 rfl |>.iloadN D10_7 rfl
    replace k := (k.callS (w_51 hw) (S11 hw) (R_11_1 hw G (by decide) (by decide) (by decide) (p1 := 1) (p2 := 3) (p3 := 4)) D10_8 0 rfl).p0
    replace k := k |>.iloadN D10_11 rfl |>.ifYes D10_12  |>.iloadN D10_22 rfl |>.iloadN D10_23 rfl |>.isub D10_24 (z := 2) |>.istore D10_25 sto4 |>.aloadN D10_27 rfl rfl
    replace k := (k.callV (w_78 hw) (V_Y23_23_String hw) O.exa (R_23_2 hw G O) D10_28 0 rfl).pv
    replace k := k |>.ifYes D10_31  |>.aloadN D10_47 rfl rfl |>.getF (fl_28 hw) O 0 D10_48 rfl rfl |>.iloadN D10_51 rfl |>.iload D10_52 rfl
    obtain ⟨_, h9, K9, ⟨u1_9, u2_9, rfl, f9_0, f9_1, f9_2, f9_3, f9_4⟩, k⟩ := (k.callS (w_134 hw) (S36 hw) (R_36_19 hw G A (own_d20 rfl g1a g1b u1)) D10_54 0 rfl).kv
    exact k.retA D10_57 rfl ⟨_, rfl, K9, u1_9, u2_9, rfl, ⟨⟨⟨g1a, g1b⟩, ⟨⟨g2a, g2b⟩, trivial⟩⟩, Or.inr ⟨f9_3, f9_4, Or.inl u1⟩⟩⟩
  · have A : Ary Z h0 a2 ATB 8 (bv (lvi [(lo8 c0), (hi8 c0), (lo8 c1), (hi8 c1), (lo8 c2), (hi8 c2), (lo8 c3), (hi8 c3)])) := A
    replace k := k |>.aloadN D10_0 rfl rfl
    replace k := (k.callV (w_50 hw) (V_Y8_8_String hw) O.exa (R_8_9 hw G O A) D10_1 0 rfl).pv
    replace k := k |>.istoreN D10_4 sto3 |>.iloadN D10_5 rfl |>.iloadN D10_6 rfl |>.iloadN D10_7 rfl
    replace k := (k.callS (w_51 hw) (S11 hw) (R_11_1 hw G (by decide) (by decide) (by decide) (p1 := 1) (p2 := 3) (p3 := 4)) D10_8 0 rfl).p0
    replace k := k |>.iloadN D10_11 rfl |>.ifYes D10_12  |>.iloadN D10_22 rfl |>.iloadN D10_23 rfl |>.isub D10_24 (z := 2) |>.istore D10_25 sto4 |>.aloadN D10_27 rfl rfl
    replace k := (k.callV (w_78 hw) (V_Y23_23_String hw) O.exa (R_23_2 hw G O) D10_28 0 rfl).pv
    replace k := k |>.ifYes D10_31  |>.aloadN D10_47 rfl rfl |>.getF (fl_28 hw) O 0 D10_48 rfl rfl |>.iloadN D10_51 rfl |>.iload D10_52 rfl
    obtain ⟨_, h13, K13, ⟨u1_13, u2_13, rfl, f13_0, f13_1, f13_2, f13_3, f13_4⟩, k⟩ := (k.callS (w_134 hw) (S36 hw) (R_36_20 hw G A (own_d50 rfl g1a g1b l1) (own_d34 rfl g2a g2b u2)) D10_54 0 rfl).kv
    exact k.retA D10_57 rfl ⟨_, rfl, K13, u1_13, u2_13, rfl, ⟨⟨⟨g1a, g1b⟩, ⟨⟨g2a, g2b⟩, trivial⟩⟩, Or.inr ⟨f13_3, f13_4, Or.inr ⟨l1, Or.inl u2⟩⟩⟩⟩
  · exact absurd u3 x3
  · exact hx.elim
theorem R_7_40 {a1 a2 : Addr} {p3 p4 p5 p6 : Int32} (hw : HW a0 Z) (G : Gl Z w_CS w_SF) (pr1 : Str Z h0 a1 a2 [p3, p4, p5, p6]) (pr2 : ¬ ((bl p3) = 0)) (pr3 : (bl p4) = 0) (pr4 : ¬ ((bl p6) = 0)) (pr5 : (bl p5) = 0) (pr6 : ¬ (255 < p3)) (pr7 : ¬ (255 < p6)) : Mt false [] l Y7 C7 (rmk 7 3 14 110) #[.ref a1] Z a0 h0 n0 (KpV h0 [] fun v h => ∃ u1 u2 : Addr, v = (.ref u1) ∧ Str Z h u1 u2 [p4, p5]) := by
  refine Mt.go PN7 (Or.inl rfl) ef_R_3 fun k => ?_
  replace k := k |>.iconst D7_0 0 |>.istoreN D7_1 sto1 |>.aloadN D7_2 rfl rfl
  replace k := (k.callV (w_34 hw) (V_Y8_8_String hw) pr1.exa (R_len4 hw G pr1) D7_3 0 rfl).pv
  replace k := k |>.istoreN D7_6 sto2 |>.iloadN D7_7 rfl |>.iloadN D7_8 rfl |>.icmpNo D7_9  |>.aloadN D7_12 rfl rfl |>.iloadN D7_13 rfl
  replace k := (k.callV (w_73 hw) (V_Y22_22_String hw) pr1.exa (R_chr4_0 hw G pr1) D7_14 0 rfl).pv
  replace k := (k.callS (w_93 hw) (S2 hw) (R_own_isBlank hw G) D7_17 0 rfl).pv
  replace k := k |>.ifNo D7_20 ((if0 _ _).trans (feq pr2).1) |>.iinc D7_23 rfl (z := 1) (by decide) sto1 |>.goto D7_26 |>.iloadN D7_7 rfl |>.iloadN D7_8 rfl |>.icmpNo D7_9  |>.aloadN D7_12 rfl rfl |>.iloadN D7_13 rfl
  replace k := (k.callV (w_73 hw) (V_Y22_22_String hw) pr1.exa (R_chr4_1 hw G pr1) D7_14 0 rfl).pv
  replace k := (k.callS (w_93 hw) (S2 hw) (R_own_isBlank hw G) D7_17 0 rfl).pv
  replace k := k |>.ifYes D7_20 ((if0 _ _).trans (teq pr3).1) |>.iloadN D7_29 rfl |>.iloadN D7_30 rfl |>.icmpNo D7_31  |>.aloadN D7_34 rfl rfl |>.iloadN D7_35 rfl |>.iconst D7_36 1 |>.isub D7_37 (z := 3)
  replace k := (k.callV (w_73 hw) (V_Y22_22_String hw) pr1.exa (R_chr4_3 hw G pr1) D7_38 0 rfl).pv
  replace k := (k.callS (w_93 hw) (S2 hw) (R_own_isBlank hw G) D7_41 0 rfl).pv
  replace k := k |>.ifNo D7_44 ((if0 _ _).trans (feq pr4).1) |>.iinc D7_47 rfl (z := 3) (by decide) sto2 |>.goto D7_50 |>.iloadN D7_29 rfl |>.iloadN D7_30 rfl |>.icmpNo D7_31  |>.aloadN D7_34 rfl rfl |>.iloadN D7_35 rfl |>.iconst D7_36 1 |>.isub D7_37 (z := 2)
  replace k := (k.callV (w_73 hw) (V_Y22_22_String hw) pr1.exa (R_chr4_2 hw G pr1) D7_38 0 rfl).pv
  replace k := (k.callS (w_93 hw) (S2 hw) (R_own_isBlank hw G) D7_41 0 rfl).pv
  replace k := k |>.ifYes D7_44 ((if0 _ _).trans (teq pr5).1) |>.aloadN D7_53 rfl rfl |>.iloadN D7_54 rfl |>.iloadN D7_55 rfl
  obtain ⟨_, h1, K1, ⟨u1, w1, rfl, S1⟩, k⟩ := (k.callV (w_45 hw) (V_Y10_10_String hw) pr1.exa (R_sub4_1_3 hw G pr1 pr6 pr7) D7_56 0 rfl).kv
  exact k.retA D7_59 rfl ⟨_, rfl, K1, u1, w1, rfl, S1⟩
theorem R_38_21 {a1 a2 : Addr} {p3 p4 p5 p6 p7 p8 p9 p10 : Int32} (hw : HW a0 Z) (G : Gl Z w_CS w_SF) (pr1 : Ary Z h0 a1 ATB 8 (bv (lvi [p3, p4, p5, p6, p7, p8, p9, p10]))) (pr2 : 255 < (gcv p5 p6)) : Mt false [] l Y38 C38 (rmk 3 0 0 43) #[.ref a1, .int 1, .ref a2, .int 0, .int 1] Z a0 h0 n0 (Pv h0 (.int 0)) := by
  refine Mt.go PN38 (Or.inl rfl) ef_RIRII_7 fun k => ?_
  replace k := k |>.iloadN D38_0 rfl |>.iload D38_1 rfl |>.aloadN D38_3 rfl rfl
  replace k := (k.callS (w_144 hw) (S39 hw) (R_39_1 hw G pr1 (by decide) (by decide) (by decide) (p1 := 1) (p2 := 1) (p4 := 8)) D38_4 0 rfl).p0
  replace k := k |>.iconst D38_7 0 |>.istore D38_8 sto5 |>.iload D38_10 rfl |>.iload D38_12 rfl |>.icmpNo D38_14  |>.aloadN D38_17 rfl rfl |>.iloadN D38_18 rfl
  replace k := (k.callS (w_120 hw) (S20 hw) (R_20_1 hw G pr1 (by decide) (by decide) (by decide) (by decide) (p2 := 1) (p3 := 8)) D38_19 0 rfl).pv
  replace k := k |>.top (y := (gcv p5 p6)) rfl |>.istore D38_22 sto6 |>.iload D38_24 rfl |>.sipush D38_26 255 |>.icmpNo D38_29 (tlt pr2).2.2.2 |>.iload D38_32 rfl
  exact k.retI D38_34 rfl ⟨rfl, rfl⟩
theorem R_37_21 {a1 : Addr} {p2 p3 p4 p5 p6 p7 p8 p9 : Int32} (hw : HW a0 Z) (G : Gl Z w_CS w_SF) (pr1 : Ary Z h0 a1 ATB 8 (bv (lvi [p2, p3, p4, p5, p6, p7, p8, p9]))) (pr2 : 255 < (gcv p4 p5)) : Mt false [] l Y37 C37 (rmk 4 2 9 61) #[.ref a1, .int 1, .int 1] Z a0 h0 n0 (KpV h0 [] fun v h => ∃ u1 : Addr, v = (.ref u1) ∧ h0.size ≤ u1 ∧ Ary Z h u1 ATB 2 (bv (lvi [p4, p5]))) := by
  refine Mt.go PN37 (Or.inl rfl) ef_RII_6 fun k => ?_
  replace k := k |>.iloadN D37_0 rfl
  obtain ⟨b1, h1, g1, K1, O1, k⟩ := k.newP (aty := .byte) "[B" (w_23 hw) (by decide) D37_1 1 (by decide) (n := 1) (by decide) (by decide) (by decide) (bi_const (L := [0]) rfl)
  replace k := k |>.astoreN D37_3 rfl sto3 |>.aloadN D37_4 rfl rfl |>.iloadN D37_5 rfl |>.aloadN D37_6 rfl rfl |>.iconst D37_7 0 |>.iloadN D37_8 rfl
  have o3 := pr1.keep K1 nin0
  replace k := (k.callS (w_141 hw) (S38 hw) (R_38_21 hw G o3 pr2) D37_9 0 rfl).pv
  replace k := k |>.istore D37_12 sto4 |>.iload D37_14 rfl |>.iloadN D37_16 rfl |>.icmpNo D37_17  |>.aloadN D37_20 rfl rfl |>.iloadN D37_21 rfl |>.iconst D37_22 1 |>.ishl D37_23 (z := 2) |>.iloadN D37_24 rfl |>.iloadN D37_25 rfl |>.iadd D37_26 (z := 2)
  replace k := (k.callS (w_110 hw) (S18 hw) (R_18_1 hw G (by decide) (by decide) (p1 := 2)) D37_27 2 rfl).pv
  replace k := k |>.top (y := 4) (by decide)
  have z5 := k.sz
  obtain ⟨_, h5, K5, ⟨u1_5, rfl, f5_0, f5_1⟩, k⟩ := (k.callS (w_153 hw) (S31 hw) (R_31_6 hw G (by decide) (by decide) (by decide) (by decide) o3 (by decide) (by decide) (by decide) (by decide) (by decide) (p2 := 2) (p3 := 4) (p4 := 8)) D37_30 0 rfl).kv
  have o6 : Ary Z h5 u1_5 ATB 2 (bv (lvi [p4, p5])) := Ary.norm f5_1 (bi_cpz rfl)
  replace k := k |>.astore D37_33 rfl sto5 |>.aload D37_35 rfl rfl |>.iload D37_37 rfl
  replace k := (k.callS (w_120 hw) (S20 hw) (R_20_1 hw G o6 (by decide) (by decide) (by decide) (by decide) (p2 := 0) (p3 := 2)) D37_39 0 rfl).pv
  replace k := k |>.top (y := (gcv p4 p5)) rfl |>.sipush D37_42 255 |>.icmpYes D37_45 (tlt pr2).2.2.1 |>.aload D37_61 rfl rfl
  have s_u1_5 := Nat.le_trans z5 f5_0
  exact k.retA D37_63 rfl ⟨_, rfl, (K1.trans K5 all0), u1_5, rfl, s_u1_5, o6⟩
theorem R_36_21 {a1 : Addr} {p2 p3 p4 p5 p6 p7 p8 p9 : Int32} (hw : HW a0 Z) (G : Gl Z w_CS w_SF) (pr1 : Ary Z h0 a1 ATB 8 (bv (lvi [p2, p3, p4, p5, p6, p7, p8, p9]))) (pr2 : 255 < (gcv p4 p5)) : Mt false [] l Y36 C36 (rmk 5 3 13 78) #[.ref a1, .int 1, .int 1] Z a0 h0 n0 (KpV h0 [] fun v h => ∃ u1 u2 : Addr, v = (.ref u1) ∧ h0.size ≤ u1 ∧ h0.size ≤ u2 ∧ u2 ≠ u1 ∧ Obj Z h u1 L_String [.ref u2, .int 1] ∧ Ary Z h u2 ATB 2 (bv (lvi [p4, p5]))) := by
  refine Mt.go PN36 (Or.inl rfl) ef_RII_5 fun k => ?_
  have nz := k.n0le
  replace k := k |>.iloadN D36_0 rfl |>.ifYes D36_1  |>.getS (fl_137 hw) G.S_CS D36_8 |>.ifNo D36_11 ((if0 _ _).trans (feq G.h_CS).1) |>.aloadN D36_14 rfl rfl |>.iloadN D36_15 rfl |>.iloadN D36_16 rfl
  have z1 := k.sz
  obtain ⟨_, h1, K1, ⟨u1_1, rfl, f1_0, f1_1⟩, k⟩ := (k.callS (w_138 hw) (S37 hw) (R_37_21 hw G pr1 pr2) D36_17 0 rfl).kv
  replace k := k |>.astoreN D36_20 rfl sto3 |>.aloadN D36_21 rfl rfl |>.iloadN D36_22 rfl
  replace k := (k.callS (w_171 hw) (S21 hw) (R_21_1 hw G f1_1 (by decide) (p2 := 1) (p3 := 2)) D36_23 0 rfl).pv
  replace k := k |>.top (y := 1) (by decide) |>.istore D36_26 sto4
  have z3 := k.sz
  obtain ⟨b3, h3, g3, K3, O3, k⟩ := k.new (L := L_String) (w_172 hw) (nw_String hw) D36_28 (by decide) dvL_String
  replace k := k |>.dup D36_31 rfl |>.aloadN D36_32 rfl rfl |>.iload D36_33 rfl
  have s_b3 := Nat.le_trans z3 g3
  have n_b3 := Nat.le_trans nz s_b3
  obtain ⟨h4, K4, f4_0, k⟩ := (k.callI (w_173 hw) (I35 hw) (R_35_2 hw G O3 n_b3) D36_35 1 rfl).k0 (allS n_b3 all0)
  have s_u1_1 := Nat.le_trans z1 f1_0
  have o5 := (f1_1.keep K3 nin0).keep K4 (ninS (nlt f1_1.lt g3) nin0)
  exact k.retA D36_38 rfl ⟨_, rfl, ((K1.trans K3 all0).trans K4 (allS (Or.inr s_b3) all0)), b3, u1_1, rfl, s_b3, s_u1_1, (nlt f1_1.lt g3), f4_0, o5⟩
theorem R_sub4_1_2 {a1 a2 : Addr} {c0 c1 c2 c3 : Int32} (hw : HW a0 Z) (G : Gl Z w_CS w_SF) (S : Str Z h0 a1 a2 [c0, c1, c2, c3]) (x0 : ¬ (255 < c0)) (x2 : ¬ (255 < c2)) (x3 : ¬ (255 < c3)) : Mt false [] l Y10 C10 (rmk 6 3 13 94) #[.ref a1, .int 1, .int 2] Z a0 h0 n0 (KpV h0 [] fun v h => ∃ u w : Addr, v = .ref u ∧ Str Z h u w [c1]) := by
  refine Mt.go PN10 (Or.inl rfl) ef_RII_5 fun k => ?_
  obtain ⟨⟨⟨g0a, g0b⟩, ⟨g1a, g1b⟩, ⟨g2a, g2b⟩, ⟨g3a, g3b⟩, -⟩, S⟩ := S
  rcases S with ⟨T, O, A, hl⟩ | ⟨O, A, u0 | ⟨l0, u1 | ⟨l1, u2 | ⟨l2, u3 | ⟨-, hx⟩⟩⟩⟩⟩
  · obtain ⟨l0, l1, l2, l3, -⟩ := hl
    have A : Ary Z h0 a2 (T, .byte) 4 (bv (lvi [(c0.toInt8.toInt32), (c1.toInt8.toInt32), (c2.toInt8.toInt32), (c3.toInt8.toInt32)])) := A
    replace k := k |>.aloadN D10_0 rfl rfl
    replace k := (k.callV (w_50 hw) (V_Y8_8_String hw) O.exa (R_8_8 hw G O A) D10_1 0 rfl).pv
    replace k := k |>.istoreN D10_4 sto3 |>.iloadN D10_5 rfl |>.iloadN D10_6 rfl |>.iloadN D10_7 rfl
    replace k := (k.callS (w_51 hw) (S11 hw) (R_11_1 hw G (by decide) (by decide) (by decide) (p1 := 1) (p2 := 2) (p3 := 4)) D10_8 0 rfl).p0
    replace k := k |>.iloadN D10_11 rfl |>.ifYes D10_12  |>.iloadN D10_22 rfl |>.iloadN D10_23 rfl |>.isub D10_24 (z := 1) |>.istore D10_25 sto4 |>.aloadN D10_27 rfl rfl
    replace k := (k.callV (w_78 hw) (V_Y23_23_String hw) O.exa (R_23_1 hw G O) D10_28 0 rfl).pv
    replace k := k |>.ifNo D10_31  |>.aloadN D10_34 rfl rfl |>.getF (fl_28 hw) O 0 D10_35 rfl rfl |>.iloadN D10_38 rfl |>.iload D10_39 rfl
    obtain ⟨_, h4, K4, ⟨u1_4, u2_4, rfl, f4_0, f4_1, f4_2, f4_3, f4_4⟩, k⟩ := (k.callS (w_96 hw) (S30 hw) (R_30_5 hw G (by decide) (by decide) (by decide) (by decide) (by decide) A (by decide) (by decide) (by decide) (by decide) (by decide) (p2 := 1) (p3 := 1) (p4 := 4)) D10_41 0 rfl).kv
    have o5 : Ary Z h4 u2_4 ATB 1 (bv (lvi [(c1.toInt8.toInt32)])) := Ary.norm f4_4 (bi_cpz rfl)
    replace k := k |>.goto D10_44
    exact k.retA D10_57 rfl ⟨_, rfl, K4, u1_4, u2_4, rfl, ⟨⟨⟨g1a, g1b⟩, trivial⟩, Or.inl ⟨_, f4_3, o5, ⟨l1, trivial⟩⟩⟩⟩
  · exact absurd u0 x0
  · have A : Ary Z h0 a2 ATB 8 (bv (lvi [(lo8 c0), (hi8 c0), (lo8 c1), (hi8 c1), (lo8 c2), (hi8 c2), (lo8 c3), (hi8 c3)])) := A
    replace k := k |>.aloadN D10_0 rfl rfl
    replace k := (k.callV (w_50 hw) (V_Y8_8_String hw) O.exa (R_8_9 hw G O A) D10_1 0 rfl).pv
    replace k := k |>.istoreN D10_4 sto3 |>.iloadN D10_5 rfl |>.iloadN D10_6 rfl |>.iloadN D10_7 rfl
    replace k := (k.callS (w_51 hw) (S11 hw) (R_11_1 hw G (by decide) (by decide) (by decide) (p1 := 1) (p2 := 2) (p3 := 4)) D10_8 0 rfl).p0
    replace k := k |>.iloadN D10_11 rfl |>.ifYes D10_12  |>.iloadN D10_22 rfl |>.iloadN D10_23 rfl |>.isub D10_24 (z := 1) |>.istore D10_25 sto4 |>.aloadN D10_27 rfl rfl
    replace k := (k.callV (w_78 hw) (V_Y23_23_String hw) O.exa (R_23_2 hw G O) D10_28 0 rfl).pv
    replace k := k |>.ifYes D10_31  |>.aloadN D10_47 rfl rfl |>.getF (fl_28 hw) O 0 D10_48 rfl rfl |>.iloadN D10_51 rfl |>.iload D10_52 rfl
    obtain ⟨_, h9, K9, ⟨u1_9, u2_9, rfl, f9_0, f9_1, f9_2, f9_3, f9_4⟩, k⟩ := (k.callS (w_134 hw) (S36 hw) (R_36_21 hw G A (own_d20 rfl g1a g1b u1)) D10_54 0 rfl).kv
    exact k.retA D10_57 rfl ⟨_, rfl, K9, u1_9, u2_9, rfl, ⟨⟨⟨g1a, g1b⟩, trivial⟩, Or.inr ⟨f9_3, f9_4, Or.inl u1⟩⟩⟩
  · exact absurd u2 x2
  · exact absurd u3 x3
  · exact hx.elim
theorem R_7_41 {a1 a2 : Addr} {p3 p4 p5 p6 : Int32} (hw : HW a0 Z) (G : Gl Z w_CS w_SF) (pr1 : Str Z h0 a1 a2 [p3, p4, p5, p6]) (pr2 : ¬ ((bl p3) = 0)) (pr3 : (bl p4) = 0) (pr4 : ¬ ((bl p6) = 0)) (pr5 : ¬ ((bl p5) = 0)) (pr6 : ¬ (255 < p3)) (pr7 : ¬ (255 < p5)) (pr8 : ¬ (255 < p6)) : Mt false [] l Y7 C7 (rmk 7 3 13 110) #[.ref a1] Z a0 h0 n0 (KpV h0 [] fun v h => ∃ u1 u2 : Addr, v = (.ref u1) ∧ Str Z h u1 u2 [p4]) := by
  refine Mt.go PN7 (Or.inl rfl) ef_R_3 fun k => ?_
  replace k := k |>.iconst D7_0 0 |>.istoreN D7_1 sto1 |>.aloadN D7_2 rfl rfl
  replace k := (k.callV (w_34 hw) (V_Y8_8_String hw) pr1.exa (R_len4 hw G pr1) D7_3 0 rfl).pv
  replace k := k |>.istoreN D7_6 sto2 |>.iloadN D7_7 rfl |>.iloadN D7_8 rfl |>.icmpNo D7_9  |>.aloadN D7_12 rfl rfl |>.iloadN D7_13 rfl
  replace k := (k.callV (w_73 hw) (V_Y22_22_String hw) pr1.exa (R_chr4_0 hw G pr1) D7_14 0 rfl).pv
  replace k := (k.callS (w_93 hw) (S2 hw) (R_own_isBlank hw G) D7_17 0 rfl).pv
  replace k := k |>.ifNo D7_20 ((if0 _ _).trans (feq pr2).1) |>.iinc D7_23 rfl (z := 1) (by decide) sto1 |>.goto D7_26 |>.iloadN D7_7 rfl |>.iloadN D7_8 rfl |>.icmpNo D7_9  |>.aloadN D7_12 rfl rfl |>.iloadN D7_13 rfl
  replace k := (k.callV (w_73 hw) (V_Y22_22_String hw) pr1.exa (R_chr4_1 hw G pr1) D7_14 0 rfl).pv
  replace k := (k.callS (w_93 hw) (S2 hw) (R_own_isBlank hw G) D7_17 0 rfl).pv
  replace k := k |>.ifYes D7_20 ((if0 _ _).trans (teq pr3).1) |>.iloadN D7_29 rfl |>.iloadN D7_30 rfl |>.icmpNo D7_31  |>.aloadN D7_34 rfl rfl |>.iloadN D7_35 rfl |>.iconst D7_36 1 |>.isub D7_37 (z := 3)
  replace k := (k.callV (w_73 hw) (V_Y22_22_String hw) pr1.exa (R_chr4_3 hw G pr1) D7_38 0 rfl).pv
  replace k := (k.callS (w_93 hw) (S2 hw) (R_own_isBlank hw G) D7_41 0 rfl).pv
  replace k := k |>.ifNo D7_44 ((if0 _ _).trans (feq pr4).1) |>.iinc D7_47 rfl (z := 3) (by decide) sto2 |>.goto D7_50 |>.iloadN D7_29 rfl |>.iloadN D7_30 rfl |>.icmpNo D7_31  |>.aloadN D7_34 rfl rfl |>.iloadN D7_35 rfl |>.iconst D7_36 1 |>.isub D7_37 (z := 2)
  replace k := (k.callV (w_73 hw) (V_Y22_22_String hw) pr1.exa (R_chr4_2 hw G pr1) D7_38 0 rfl).pv
  replace k := (k.callS (w_93 hw) (S2 hw) (R_own_isBlank hw G) D7_41 0 rfl).pv
  replace k := k |>.ifNo D7_44 ((if0 _ _).trans (feq pr5).1) |>.iinc D7_47 rfl (z := 2) (by decide) sto2 |>.goto D7_50 |>.iloadN D7_29 rfl |>.iloadN D7_30 rfl |>.icmpNo D7_31  |>.aloadN D7_34 rfl rfl |>.iloadN D7_35 rfl |>.iconst D7_36 1 |>.isub D7_37 (z := 1)
  replace k := (k.callV (w_73 hw) (V_Y22_22_String hw) pr1.exa (R_chr4_1 hw G pr1) D7_38 0 rfl).pv
  replace k := (k.callS (w_93 hw) (S2 hw) (R_own_isBlank hw G) D7_41 0 rfl).pv
  replace k := k |>.ifYes D7_44 ((if0 _ _).trans (teq pr3).1) |>.aloadN D7_53 rfl rfl |>.iloadN D7_54 rfl |>.iloadN D7_55 rfl
  obtain ⟨_, h1, K1, ⟨u1, w1, rfl, S1⟩, k⟩ := (k.callV (w_45 hw) (V_Y10_10_String hw) pr1.exa (R_sub4_1_2 hw G pr1 pr6 pr7 pr8) D7_56 0 rfl).kv
  exact k.retA D7_59 rfl ⟨_, rfl, K1, u1, w1, rfl, S1⟩
theorem R_38_22 {a1 a2 : Addr} {p3 p4 p5 p6 p7 p8 p9 p10 : Int32} (hw : HW a0 Z) (G : Gl Z w_CS w_SF) (pr1 : Ary Z h0 a1 ATB 8 (bv (lvi [p3, p4, p5, p6, p7, p8, p9, p10]))) (pr2 : 255 < (gcv p7 p8)) : Mt false [] l Y38 C38 (rmk 3 0 0 43) #[.ref a1, .int 2, .ref a2, .int 0, .int 2] Z a0 h0 n0 (Pv h0 (.int 0)) := by
  refine Mt.go PN38 (Or.inl rfl) ef_RIRII_7 fun k => ?_
  replace k := k |>.iloadN D38_0 rfl |>.iload D38_1 rfl |>.aloadN D38_3 rfl rfl
  replace k := (k.callS (w_144 hw) (S39 hw) (R_39_1 hw G pr1 (by decide) (by decide) (by decide) (p1 := 2) (p2 := 2) (p4 := 8)) D38_4 0 rfl).p0
  replace k := k |>.iconst D38_7 0 |>.istore D38_8 sto5 |>.iload D38_10 rfl |>.iload D38_12 rfl |>.icmpNo D38_14  |>.aloadN D38_17 rfl rfl |>.iloadN D38_18 rfl
  replace k := (k.callS (w_120 hw) (S20 hw) (R_20_1 hw G pr1 (by decide) (by decide) (by decide) (by decide) (p2 := 2) (p3 := 8)) D38_19 0 rfl).pv
  replace k := k |>.top (y := (gcv p7 p8)) rfl |>.istore D38_22 sto6 |>.iload D38_24 rfl |>.sipush D38_26 255 |>.icmpNo D38_29 (tlt pr2).2.2.2 |>.iload D38_32 rfl
  exact k.retI D38_34 rfl ⟨rfl, rfl⟩
theorem R_37_22 {a1 : Addr} {p2 p3 p4 p5 p6 p7 p8 p9 : Int32} (hw : HW a0 Z) (G : Gl Z w_CS w_SF) (pr1 : Ary Z h0 a1 ATB 8 (bv (lvi [p2, p3, p4, p5, p6, p7, p8, p9]))) (pr2 : 255 < (gcv p6 p7)) : Mt false [] l Y37 C37 (rmk 4 2 10 61) #[.ref a1, .int 2, .int 2] Z a0 h0 n0 (KpV h0 [] fun v h => ∃ u1 : Addr, v = (.ref u1) ∧ h0.size ≤ u1 ∧ Ary Z h u1 ATB 4 (bv (lvi [p6, p7, p8, p9]))) := by
  refine Mt.go PN37 (Or.inl rfl) ef_RII_6 fun k => ?_
  replace k := k |>.iloadN D37_0 rfl
  obtain ⟨b1, h1, g1, K1, O1, k⟩ := k.newP (aty := .byte) "[B" (w_23 hw) (by decide) D37_1 2 (by decide) (n := 2) (by decide) (by decide) (by decide) (bi_const (L := [0, 0]) rfl)
  replace k := k |>.astoreN D37_3 rfl sto3 |>.aloadN D37_4 rfl rfl |>.iloadN D37_5 rfl |>.aloadN D37_6 rfl rfl |>.iconst D37_7 0 |>.iloadN D37_8 rfl
  have o3 := pr1.keep K1 nin0
  replace k := (k.callS (w_141 hw) (S38 hw) (R_38_22 hw G o3 pr2) D37_9 0 rfl).pv
  replace k := k |>.istore D37_12 sto4 |>.iload D37_14 rfl |>.iloadN D37_16 rfl |>.icmpNo D37_17  |>.aloadN D37_20 rfl rfl |>.iloadN D37_21 rfl |>.iconst D37_22 1 |>.ishl D37_23 (z := 4) |>.iloadN D37_24 rfl |>.iloadN D37_25 rfl |>.iadd D37_26 (z := 4)
  replace k := (k.callS (w_110 hw) (S18 hw) (R_18_1 hw G (by decide) (by decide) (p1 := 4)) D37_27 2 rfl).pv
  replace k := k |>.top (y := 8) (by decide)
  have z5 := k.sz
  obtain ⟨_, h5, K5, ⟨u1_5, rfl, f5_0, f5_1⟩, k⟩ := (k.callS (w_153 hw) (S31 hw) (R_31_4 hw G (by decide) (by decide) (by decide) (by decide) o3 (by decide) (by decide) (by decide) (by decide) (by decide) (by decide) (p2 := 4) (p3 := 8) (p4 := 8)) D37_30 0 rfl).kv
  have o6 : Ary Z h5 u1_5 ATB 4 (bv (lvi [p6, p7, p8, p9])) := Ary.norm f5_1 (bi_cpz rfl)
  replace k := k |>.astore D37_33 rfl sto5 |>.aload D37_35 rfl rfl |>.iload D37_37 rfl
  replace k := (k.callS (w_120 hw) (S20 hw) (R_20_1 hw G o6 (by decide) (by decide) (by decide) (by decide) (p2 := 0) (p3 := 4)) D37_39 0 rfl).pv
  replace k := k |>.top (y := (gcv p6 p7)) rfl |>.sipush D37_42 255 |>.icmpYes D37_45 (tlt pr2).2.2.1 |>.aload D37_61 rfl rfl
  have s_u1_5 := Nat.le_trans z5 f5_0
  exact k.retA D37_63 rfl ⟨_, rfl, (K1.trans K5 all0), u1_5, rfl, s_u1_5, o6⟩
theorem R_36_22 {a1 : Addr} {p2 p3 p4 p5 p6 p7 p8 p9 : Int32} (hw : HW a0 Z) (G : Gl Z w_CS w_SF) (pr1 : Ary Z h0 a1 ATB 8 (bv (lvi [p2, p3, p4, p5, p6, p7, p8, p9]))) (pr2 : 255 < (gcv p6 p7)) : Mt false [] l Y36 C36 (rmk 5 3 14 78) #[.ref a1, .int 2, .int 2] Z a0 h0 n0 (KpV h0 [] fun v h => ∃ u1 u2 : Addr, v = (.ref u1) ∧ h0.size ≤ u1 ∧ h0.size ≤ u2 ∧ u2 ≠ u1 ∧ Obj Z h u1 L_String [.ref u2, .int 1] ∧ Ary Z h u2 ATB 4 (bv (lvi [p6, p7, p8, p9]))) := by
  refine Mt.go PN36 (Or.inl rfl) ef_RII_5 fun k => ?_
  have nz := k.n0le
  replace k := k |>.iloadN D36_0 rfl |>.ifYes D36_1  |>.getS (fl_137 hw) G.S_CS D36_8 |>.ifNo D36_11 ((if0 _ _).trans (feq G.h_CS).1) |>.aloadN D36_14 rfl rfl |>.iloadN D36_15 rfl |>.iloadN D36_16 rfl
  have z1 := k.sz
  obtain ⟨_, h1, K1, ⟨u1_1, rfl, f1_0, f1_1⟩, k⟩ := (k.callS (w_138 hw) (S37 hw) (R_37_22 hw G pr1 pr2) D36_17 0 rfl).kv
  replace k := k |>.astoreN D36_20 rfl sto3 |>.aloadN D36_21 rfl rfl |>.iloadN D36_22 rfl
  replace k := (k.callS (w_171 hw) (S21 hw) (R_21_1 hw G f1_1 (by decide) (p2 := 2) (p3 := 4)) D36_23 0 rfl).pv
  replace k := k |>.top (y := 1) (by decide) |>.istore D36_26 sto4
  have z3 := k.sz
  obtain ⟨b3, h3, g3, K3, O3, k⟩ := k.new (L := L_String) (w_172 hw) (nw_String hw) D36_28 (by decide) dvL_String
  replace k := k |>.dup D36_31 rfl |>.aloadN D36_32 rfl rfl |>.iload D36_33 rfl
  have s_b3 := Nat.le_trans z3 g3
  have n_b3 := Nat.le_trans nz s_b3
  obtain ⟨h4, K4, f4_0, k⟩ := (k.callI (w_173 hw) (I35 hw) (R_35_2 hw G O3 n_b3) D36_35 1 rfl).k0 (allS n_b3 all0)
  have s_u1_1 := Nat.le_trans z1 f1_0
  have o5 := (f1_1.keep K3 nin0).keep K4 (ninS (nlt f1_1.lt g3) nin0)
  exact k.retA D36_38 rfl ⟨_, rfl, ((K1.trans K3 all0).trans K4 (allS (Or.inr s_b3) all0)), b3, u1_1, rfl, s_b3, s_u1_1, (nlt f1_1.lt g3), f4_0, o5⟩
theorem R_38_23 {a1 a2 : Addr} {p3 p4 p5 p6 p7 p8 p9 p10 : Int32} (hw : HW a0 Z) (G : Gl Z w_CS w_SF) (pr1 : Ary Z h0 a1 ATB 8 (bv (lvi [p3, p4, p5, p6, p7, p8, p9, p10]))) (pr2 : ¬ (255 < (gcv p7 p8))) (pr3 : Ary Z h0 a2 ATB 2 (bv (lvi [0, 0]))) (pr4 : n0 ≤ a2) (pr5 : a1 ≠ a2) (pr6 : 255 < (gcv p9 p10)) : Mt false [] l Y38 C38 (rmk 3 0 0 43) #[.ref a1, .int 2, .ref a2, .int 0, .int 2] Z a0 h0 n0 (KpV h0 [a2] fun v h => v = (.int 1) ∧ Ary Z h a2 ATB 2 (bv (lvi [((gcv p7 p8).toInt8.toInt32), 0]))) := by
  refine Mt.go PN38 (Or.inl rfl) ef_RIRII_7 fun k => ?_
  replace k := k |>.iloadN D38_0 rfl |>.iload D38_1 rfl |>.aloadN D38_3 rfl rfl
  replace k := (k.callS (w_144 hw) (S39 hw) (R_39_1 hw G pr1 (by decide) (by decide) (by decide) (p1 := 2) (p2 := 2) (p4 := 8)) D38_4 0 rfl).p0
  replace k := k |>.iconst D38_7 0 |>.istore D38_8 sto5 |>.iload D38_10 rfl |>.iload D38_12 rfl |>.icmpNo D38_14  |>.aloadN D38_17 rfl rfl |>.iloadN D38_18 rfl
  replace k := (k.callS (w_120 hw) (S20 hw) (R_20_1 hw G pr1 (by decide) (by decide) (by decide) (by decide) (p2 := 2) (p3 := 8)) D38_19 0 rfl).pv
  replace k := k |>.top (y := (gcv p7 p8)) rfl |>.istore D38_22 sto6 |>.iload D38_24 rfl |>.sipush D38_26 255 |>.icmpYes D38_29 (flt pr2).2.2.2 |>.aloadN D38_35 rfl rfl |>.iloadN D38_36 rfl |>.iload D38_37 rfl |>.i2b D38_39 rfl
  obtain ⟨h3, K3, O3, k⟩ := k.stB pr3 pr4 (Or.inl rfl) D38_40 (i := 0) (by decide) (v := (.int ((gcv p7 p8).toInt8.toInt32))) (congrArg Value.int (own_nnBi2b _)) (own_fitBi2b _) bis0
  replace k := k |>.iinc D38_41 rfl (z := 3) (by decide) sto1 |>.iinc D38_44 rfl (z := 1) (by decide) sto3 |>.iinc D38_47 rfl (z := 1) (by decide) sto5 |>.goto D38_50 |>.iload D38_10 rfl |>.iload D38_12 rfl |>.icmpNo D38_14  |>.aloadN D38_17 rfl rfl |>.iloadN D38_18 rfl
  have o5 := pr1.keep K3 (ninS pr5 nin0)
  replace k := (k.callS (w_120 hw) (S20 hw) (R_20_1 hw G o5 (by decide) (by decide) (by decide) (by decide) (p2 := 3) (p3 := 8)) D38_19 0 rfl).pv
  replace k := k |>.top (y := (gcv p9 p10)) rfl |>.istore D38_22 sto6 |>.iload D38_24 rfl |>.sipush D38_26 255 |>.icmpNo D38_29 (tlt pr6).2.2.2 |>.iload D38_32 rfl
  exact k.retI D38_34 rfl ⟨_, rfl, K3, rfl, O3⟩
theorem R_37_23 {a1 : Addr} {p2 p3 p4 p5 p6 p7 p8 p9 : Int32} (hw : HW a0 Z) (G : Gl Z w_CS w_SF) (pr1 : Ary Z h0 a1 ATB 8 (bv (lvi [p2, p3, p4, p5, p6, p7, p8, p9]))) (pr2 : ¬ (255 < (gcv p6 p7))) (pr3 : 255 < (gcv p8 p9)) : Mt false [] l Y37 C37 (rmk 4 2 10 61) #[.ref a1, .int 2, .int 2] Z a0 h0 n0 (KpV h0 [] fun v h => ∃ u1 : Addr, v = (.ref u1) ∧ h0.size ≤ u1 ∧ Ary Z h u1 ATB 4 (bv (lvi [p6, p7, p8, p9]))) := by
  refine Mt.go PN37 (Or.inl rfl) ef_RII_6 fun k => ?_
  have nz := k.n0le
  replace k := k |>.iloadN D37_0 rfl
  have z1 := k.sz
  obtain ⟨b1, h1, g1, K1, O1, k⟩ := k.newP (aty := .byte) "[B" (w_23 hw) (by decide) D37_1 2 (by decide) (n := 2) (by decide) (by decide) (by decide) (bi_const (L := [0, 0]) rfl)
  replace k := k |>.astoreN D37_3 rfl sto3 |>.aloadN D37_4 rfl rfl |>.iloadN D37_5 rfl |>.aloadN D37_6 rfl rfl |>.iconst D37_7 0 |>.iloadN D37_8 rfl
  have s_b1 := Nat.le_trans z1 g1
  have n_b1 := Nat.le_trans nz s_b1
  have o3 := pr1.keep K1 nin0
  obtain ⟨_, h2, K2, ⟨rfl, f2_0⟩, k⟩ := (k.callS (w_141 hw) (S38 hw) (R_38_23 hw G o3 pr2 O1 n_b1 (nlt pr1.lt s_b1) pr3) D37_9 0 rfl).kv (allS n_b1 all0)
  replace k := k |>.istore D37_12 sto4 |>.iload D37_14 rfl |>.iloadN D37_16 rfl |>.icmpNo D37_17  |>.aloadN D37_20 rfl rfl |>.iloadN D37_21 rfl |>.iconst D37_22 1 |>.ishl D37_23 (z := 4) |>.iloadN D37_24 rfl |>.iloadN D37_25 rfl |>.iadd D37_26 (z := 4)
  replace k := (k.callS (w_110 hw) (S18 hw) (R_18_1 hw G (by decide) (by decide) (p1 := 4)) D37_27 2 rfl).pv
  replace k := k |>.top (y := 8) (by decide)
  have o6 := o3.keep K2 (ninS (nlt pr1.lt s_b1) nin0)
  have z5 := k.sz
  obtain ⟨_, h5, K5, ⟨u1_5, rfl, f5_0, f5_1⟩, k⟩ := (k.callS (w_153 hw) (S31 hw) (R_31_4 hw G (by decide) (by decide) (by decide) (by decide) o6 (by decide) (by decide) (by decide) (by decide) (by decide) (by decide) (p2 := 4) (p3 := 8) (p4 := 8)) D37_30 0 rfl).kv
  have o7 : Ary Z h5 u1_5 ATB 4 (bv (lvi [p6, p7, p8, p9])) := Ary.norm f5_1 (bi_cpz rfl)
  replace k := k |>.astore D37_33 rfl sto5 |>.aload D37_35 rfl rfl |>.iload D37_37 rfl
  replace k := (k.callS (w_120 hw) (S20 hw) (R_20_1 hw G o7 (by decide) (by decide) (by decide) (by decide) (p2 := 1) (p3 := 4)) D37_39 0 rfl).pv
  replace k := k |>.top (y := (gcv p8 p9)) rfl |>.sipush D37_42 255 |>.icmpYes D37_45 (tlt pr3).2.2.1 |>.aload D37_61 rfl rfl
  have s_u1_5 := Nat.le_trans z5 f5_0
  exact k.retA D37_63 rfl ⟨_, rfl, ((K1.trans K2 (allS (Or.inr s_b1) all0)).trans K5 all0), u1_5, rfl, s_u1_5, o7⟩
theorem R_36_23 {a1 : Addr} {p2 p3 p4 p5 p6 p7 p8 p9 : Int32} (hw : HW a0 Z) (G : Gl Z w_CS w_SF) (pr1 : Ary Z h0 a1 ATB 8 (bv (lvi [p2, p3, p4, p5, p6, p7, p8, p9]))) (pr2 : ¬ (255 < (gcv p6 p7))) (pr3 : 255 < (gcv p8 p9)) : Mt false [] l Y36 C36 (rmk 5 3 14 78) #[.ref a1, .int 2, .int 2] Z a0 h0 n0 (KpV h0 [] fun v h => ∃ u1 u2 : Addr, v = (.ref u1) ∧ h0.size ≤ u1 ∧ h0.size ≤ u2 ∧ u2 ≠ u1 ∧ Obj Z h u1 L_String [.ref u2, .int 1] ∧ Ary Z h u2 ATB 4 (bv (lvi [p6, p7, p8, p9]))) := by
  refine Mt.go PN36 (Or.inl rfl) ef_RII_5 fun k => ?_
  have nz := k.n0le
  replace k := k |>.iloadN D36_0 rfl |>.ifYes D36_1  |>.getS (fl_137 hw) G.S_CS D36_8 |>.ifNo D36_11 ((if0 _ _).trans (feq G.h_CS).1) |>.aloadN D36_14 rfl rfl |>.iloadN D36_15 rfl |>.iloadN D36_16 rfl
  have z1 := k.sz
  obtain ⟨_, h1, K1, ⟨u1_1, rfl, f1_0, f1_1⟩, k⟩ := (k.callS (w_138 hw) (S37 hw) (R_37_23 hw G pr1 pr2 pr3) D36_17 0 rfl).kv
  replace k := k |>.astoreN D36_20 rfl sto3 |>.aloadN D36_21 rfl rfl |>.iloadN D36_22 rfl
  replace k := (k.callS (w_171 hw) (S21 hw) (R_21_1 hw G f1_1 (by decide) (p2 := 2) (p3 := 4)) D36_23 0 rfl).pv
  replace k := k |>.top (y := 1) (by decide) |>.istore D36_26 sto4
  have z3 := k.sz
  obtain ⟨b3, h3, g3, K3, O3, k⟩ := k.new (L := L_String) (w_172 hw) (nw_String hw) D36_28 (by decide) dvL_String
  replace k := k |>.dup D36_31 rfl |>.aloadN D36_32 rfl rfl |>.iload D36_33 rfl
  have s_b3 := Nat.le_trans z3 g3
  have n_b3 := Nat.le_trans nz s_b3
  obtain ⟨h4, K4, f4_0, k⟩ := (k.callI (w_173 hw) (I35 hw) (R_35_2 hw G O3 n_b3) D36_35 1 rfl).k0 (allS n_b3 all0)
  have s_u1_1 := Nat.le_trans z1 f1_0
  have o5 := (f1_1.keep K3 nin0).keep K4 (ninS (nlt f1_1.lt g3) nin0)
  exact k.retA D36_38 rfl ⟨_, rfl, ((K1.trans K3 all0).trans K4 (allS (Or.inr s_b3) all0)), b3, u1_1, rfl, s_b3, s_u1_1, (nlt f1_1.lt g3), f4_0, o5⟩
theorem R_sub4_2_4 {a1 a2 : Addr} {c0 c1 c2 c3 : Int32} (hw : HW a0 Z) (G : Gl Z w_CS w_SF) (S : Str Z h0 a1 a2 [c0, c1, c2, c3]) (x0 : ¬ (255 < c0)) (x1 : ¬ (255 < c1)) : Mt false [] l Y10 C10 (rmk 6 3 14 94) #[.ref a1, .int 2, .int 4] Z a0 h0 n0 (KpV h0 [] fun v h => ∃ u w : Addr, v = .ref u ∧ Str Z h u w [c2, c3]) := by
  refine Mt.go PN10 (Or.inl rfl) ef_RII_5 fun k => ?_
  obtain ⟨⟨⟨g0a, g0b⟩, ⟨g1a, g1b⟩, ⟨g2a, g2b⟩, ⟨g3a, g3b⟩, -⟩, S⟩ := S
  rcases S with ⟨T, O, A, hl⟩ | ⟨O, A, u0 | ⟨l0, u1 | ⟨l1, u2 | ⟨l2, u3 | ⟨-, hx⟩⟩⟩⟩⟩
  · obtain ⟨l0, l1, l2, l3, -⟩ := hl
    have A : Ary Z h0 a2 (T, .byte) 4 (bv (lvi [(c0.toInt8.toInt32), (c1.toInt8.toInt32), (c2.toInt8.toInt32), (c3.toInt8.toInt32)])) := A
    replace k := k |>.aloadN D10_0 rfl rfl
    replace k := (k.callV (w_50 hw) (V_Y8_8_String hw) O.exa (R_8_8 hw G O A) D10_1 0 rfl).pv
    replace k := k |>.istoreN D10_4 sto3 |>.iloadN D10_5 rfl |>.iloadN D10_6 rfl |>.iloadN D10_7 rfl
    replace k := (k.callS (w_51 hw) (S11 hw) (R_11_1 hw G (by decide) (by decide) (by decide) (p1 := 2) (p2 := 4) (p3 := 4)) D10_8 0 rfl).p0
    replace k := k |>.iloadN D10_11 rfl |>.ifYes D10_12  |>.iloadN D10_22 rfl |>.iloadN D10_23 rfl |>.isub D10_24 (z := 2) |>.istore D10_25 sto4 |>.aloadN D10_27 rfl rfl
    replace k := (k.callV (w_78 hw) (V_Y23_23_String hw) O.exa (R_23_1 hw G O) D10_28 0 rfl).pv
    replace k := k |>.ifNo D10_31  |>.aloadN D10_34 rfl rfl |>.getF (fl_28 hw) O 0 D10_35 rfl rfl |>.iloadN D10_38 rfl |>.iload D10_39 rfl
    obtain ⟨_, h4, K4, ⟨u1_4, u2_4, rfl, f4_0, f4_1, f4_2, f4_3, f4_4⟩, k⟩ := (k.callS (w_96 hw) (S30 hw) (R_30_4 hw G (by decide) (by decide) (by decide) (by decide) (by decide) A (by decide) (by decide) (by decide) (by decide) (by decide) (by decide) (p2 := 2) (p3 := 2) (p4 := 4)) D10_41 0 rfl).kv
    have o5 : Ary Z h4 u2_4 ATB 2 (bv (lvi [(c2.toInt8.toInt32), (c3.toInt8.toInt32)])) := Ary.norm f4_4 (bi_cpz rfl)
    replace k := k |>.goto D10_44
    exact k.retA D10_57 rfl ⟨_, rfl, K4, u1_4, u2_4, rfl, ⟨⟨⟨g2a, g2b⟩, ⟨⟨g3a, g3b⟩, trivial⟩⟩, Or.inl ⟨_, f4_3, o5, ⟨l2, ⟨l3, trivial⟩⟩⟩⟩⟩
  · exact absurd u0 x0
  · exact absurd u1 x1
  · have A : Ary Z h0 a2 ATB 8 (bv (lvi [(lo8 c0), (hi8 c0), (lo8 c1), (hi8 c1), (lo8 c2), (hi8 c2), (lo8 c3), (hi8 c3)])) := A
    replace k := k |>.aloadN D10_0 rfl rfl
    replace k := (k.callV (w_50 hw) (V_Y8_8_String hw) O.exa (R_8_9 hw G O A) D10_1 0 rfl).pv
    replace k := k |>.istoreN D10_4 sto3 |>.iloadN D10_5 rfl |>.iloadN D10_6 rfl |>.iloadN D10_7 rfl
    replace k := (k.callS (w_51 hw) (S11 hw) (R_11_1 hw G (by decide) (by decide) (by decide) (p1 := 2) (p2 := 4) (p3 := 4)) D10_8 0 rfl).p0
    replace k := k |>.iloadN D10_11 rfl |>.ifYes D10_12  |>.iloadN D10_22 rfl |>.iloadN D10_23 rfl |>.isub D10_24 (z := 2) |>.istore D10_25 sto4 |>.aloadN D10_27 rfl rfl
    replace k := (k.callV (w_78 hw) (V_Y23_23_String hw) O.exa (R_23_2 hw G O) D10_28 0 rfl).pv
    replace k := k |>.ifYes D10_31  |>.aloadN D10_47 rfl rfl |>.getF (fl_28 hw) O 0 D10_48 rfl rfl |>.iloadN D10_51 rfl |>.iload D10_52 rfl
    obtain ⟨_, h9, K9, ⟨u1_9, u2_9, rfl, f9_0, f9_1, f9_2, f9_3, f9_4⟩, k⟩ := (k.callS (w_134 hw) (S36 hw) (R_36_22 hw G A (own_d34 rfl g2a g2b u2)) D10_54 0 rfl).kv
    exact k.retA D10_57 rfl ⟨_, rfl, K9, u1_9, u2_9, rfl, ⟨⟨⟨g2a, g2b⟩, ⟨⟨g3a, g3b⟩, trivial⟩⟩, Or.inr ⟨f9_3, f9_4, Or.inl u2⟩⟩⟩
  · have A : Ary Z h0 a2 ATB 8 (bv (lvi [(lo8 c0), (hi8 c0), (lo8 c1), (hi8 c1), (lo8 c2), (hi8 c2), (lo8 c3), (hi8 c3)])) := A
    replace k := k |>.aloadN D10_0 rfl rfl
    replace k := (k.callV (w_50 hw) (V_Y8_8_String hw) O.exa (R_8_9 hw G O A) D10_1 0 rfl).pv
    replace k := k |>.istoreN D10_4 sto3 |>.iloadN D10_5 rfl |>.iloadN D10_6 rfl |>.iloadN D10_7 rfl
    replace k := (k.callS (w_51 hw) (S11 hw) (R_11_1 hw G (by decide) (by decide) (by decide) (p1 := 2) (p2 := 4) (p3 := 4)) D10_8 0 rfl).p0
    replace k := k |>.iloadN D10_11 rfl |>.ifYes D10_12  |>.iloadN D10_22 rfl |>.iloadN D10_23 rfl |>.isub D10_24 (z := 2) |>.istore D10_25 sto4 |>.aloadN D10_27 rfl rfl
    replace k := (k.callV (w_78 hw) (V_Y23_23_String hw) O.exa (R_23_2 hw G O) D10_28 0 rfl).pv
    replace k := k |>.ifYes D10_31  |>.aloadN D10_47 rfl rfl |>.getF (fl_28 hw) O 0 D10_48 rfl rfl |>.iloadN D10_51 rfl |>.iload D10_52 rfl
    obtain ⟨_, h13, K13, ⟨u1_13, u2_13, rfl, f13_0, f13_1, f13_2, f13_3, f13_4⟩, k⟩ := (k.callS (w_134 hw) (S36 hw) (R_36_23 hw G A (own_d67 rfl g2a g2b l2) (own_d52 rfl g3a g3b u3)) D10_54 0 rfl).kv
    exact k.retA D10_57 rfl ⟨_, rfl, K13, u1_13, u2_13, rfl, ⟨⟨⟨g2a, g2b⟩, ⟨⟨g3a, g3b⟩, trivial⟩⟩, Or.inr ⟨f13_3, f13_4, Or.inr ⟨l2, Or.inl u3⟩⟩⟩⟩
  · exact hx.elim
theorem R_7_44 {a1 a2 : Addr} {p3 p4 p5 p6 : Int32} (hw : HW a0 Z) (G : Gl Z w_CS w_SF) (pr1 : Str Z h0 a1 a2 [p3, p4, p5, p6]) (pr2 : ¬ ((bl p3) = 0)) (pr3 : ¬ ((bl p4) = 0)) (pr4 : (bl p5) = 0) (pr5 : (bl p6) = 0) (pr6 : ¬ (255 < p3)) (pr7 : ¬ (255 < p4)) : Mt false [] l Y7 C7 (rmk 7 3 14 110) #[.ref a1] Z a0 h0 n0 (KpV h0 [] fun v h => ∃ u1 u2 : Addr, v = (.ref u1) ∧ Str Z h u1 u2 [p5, p6]) := by
  refine Mt.go PN7 (Or.inl rfl) ef_R_3 fun k => ?_
  replace k := k |>.iconst D7_0 0 |>.istoreN D7_1 sto1 |>.aloadN D7_2 rfl rfl
  replace k := (k.callV (w_34 hw) (V_Y8_8_String hw) pr1.exa (R_len4 hw G pr1) D7_3 0 rfl).pv
  replace k := k |>.istoreN D7_6 sto2 |>.iloadN D7_7 rfl |>.iloadN D7_8 rfl |>.icmpNo D7_9  |>.aloadN D7_12 rfl rfl |>.iloadN D7_13 rfl
  replace k := (k.callV (w_73 hw) (V_Y22_22_String hw) pr1.exa (R_chr4_0 hw G pr1) D7_14 0 rfl).pv
  replace k := (k.callS (w_93 hw) (S2 hw) (R_own_isBlank hw G) D7_17 0 rfl).pv
  replace k := k |>.ifNo D7_20 ((if0 _ _).trans (feq pr2).1) |>.iinc D7_23 rfl (z := 1) (by decide) sto1 |>.goto D7_26 |>.iloadN D7_7 rfl |>.iloadN D7_8 rfl |>.icmpNo D7_9  |>.aloadN D7_12 rfl rfl |>.iloadN D7_13 rfl
  replace k := (k.callV (w_73 hw) (V_Y22_22_String hw) pr1.exa (R_chr4_1 hw G pr1) D7_14 0 rfl).pv
  replace k := (k.callS (w_93 hw) (S2 hw) (R_own_isBlank hw G) D7_17 0 rfl).pv
  replace k := k |>.ifNo D7_20 ((if0 _ _).trans (feq pr3).1) |>.iinc D7_23 rfl (z := 2) (by decide) sto1 |>.goto D7_26 |>.iloadN D7_7 rfl |>.iloadN D7_8 rfl |>.icmpNo D7_9  |>.aloadN D7_12 rfl rfl |>.iloadN D7_13 rfl
  replace k := (k.callV (w_73 hw) (V_Y22_22_String hw) pr1.exa (R_chr4_2 hw G pr1) D7_14 0 rfl).pv
  replace k := (k.callS (w_93 hw) (S2 hw) (R_own_isBlank hw G) D7_17 0 rfl).pv
  replace k := k |>.ifYes D7_20 ((if0 _ _).trans (teq pr4).1) |>.iloadN D7_29 rfl |>.iloadN D7_30 rfl |>.icmpNo D7_31  |>.aloadN D7_34 rfl rfl |>.iloadN D7_35 rfl |>.iconst D7_36 1 |>.isub D7_37 (z := 3)
  replace k := (k.callV (w_73 hw) (V_Y22_22_String hw) pr1.exa (R_chr4_3 hw G pr1) D7_38 0 rfl).pv
  replace k := (k.callS (w_93 hw) (S2 hw) (R_own_isBlank hw G) D7_41 0 rfl).pv
  replace k := k |>.ifYes D7_44 ((if0 _ _).trans (teq pr5).1) |>.aloadN D7_53 rfl rfl |>.iloadN D7_54 rfl |>.iloadN D7_55 rfl
  obtain ⟨_, h1, K1, ⟨u1, w1, rfl, S1⟩, k⟩ := (k.callV (w_45 hw) (V_Y10_10_String hw) pr1.exa (R_sub4_2_4 hw G pr1 pr6 pr7) D7_56 0 rfl).kv
  exact k.retA D7_59 rfl ⟨_, rfl, K1, u1, w1, rfl, S1⟩
theorem R_13_37 {a1 a2 a3 : Addr} {p4 p5 p6 p7 p8 p9 : Int32} (hw : HW a0 Z) (G : Gl Z w_CS w_SF) (pr1 : Str Z h0 a1 a3 [p4, p5]) (pr2 : Ary Z h0 a2 ATC 4 (bv (lvi [p6, p7, p8, p9]))) (pr3 : p4 = p8) : Mt false [] l Y13 C13 (rmk 5 0 0 66) #[.ref a1, .int 0, .ref a2, .int 2] Z a0 h0 n0 (Pv h0 (.int 1)) := by
  refine Mt.go PN13 (Or.inl rfl) ef_RIRI_4 fun k => ?_
  replace k := k |>.iloadN D13_0 rfl |>.aloadN D13_1 rfl rfl
  replace k := (k.callV (w_59 hw) (V_Y8_8_String hw) pr1.exa (R_len2 hw G pr1) D13_2 1 rfl).pv
  replace k := k |>.icmpNo D13_5  |>.aloadN D13_8 rfl rfl |>.iloadN D13_9 rfl
  replace k := (k.callV (w_133 hw) (V_Y22_22_String hw) pr1.exa (R_chr2_0 hw G pr1) D13_10 0 rfl).pv
  replace k := k |>.aloadN D13_13 rfl rfl |>.iloadN D13_14 rfl |>.iloadN D13_15 rfl |>.iadd D13_16 (z := 2) |>.cald pr2 D13_17 (i := 2) (by decide) big2 |>.icmpNo D13_18 (teq pr3).2 |>.iconst D13_21 1 |>.goto D13_22
  exact k.retN (t := .boolean) D13_26 rfl (by simp) (z' := 1) (by decide) ⟨rfl, rfl⟩
theorem R_13_38 {a1 a2 a3 : Addr} {p4 p5 p6 p7 p8 p9 : Int32} (hw : HW a0 Z) (G : Gl Z w_CS w_SF) (pr1 : Str Z h0 a1 a3 [p4, p5]) (pr2 : Ary Z h0 a2 ATC 4 (bv (lvi [p6, p7, p8, p9]))) (pr3 : p5 = p9) : Mt false [] l Y13 C13 (rmk 5 0 0 66) #[.ref a1, .int 1, .ref a2, .int 2] Z a0 h0 n0 (Pv h0 (.int 1)) := by
  refine Mt.go PN13 (Or.inl rfl) ef_RIRI_4 fun k => ?_
  replace k := k |>.iloadN D13_0 rfl |>.aloadN D13_1 rfl rfl
  replace k := (k.callV (w_59 hw) (V_Y8_8_String hw) pr1.exa (R_len2 hw G pr1) D13_2 1 rfl).pv
  replace k := k |>.icmpNo D13_5  |>.aloadN D13_8 rfl rfl |>.iloadN D13_9 rfl
  replace k := (k.callV (w_133 hw) (V_Y22_22_String hw) pr1.exa (R_chr2_1 hw G pr1) D13_10 0 rfl).pv
  replace k := k |>.aloadN D13_13 rfl rfl |>.iloadN D13_14 rfl |>.iloadN D13_15 rfl |>.iadd D13_16 (z := 3) |>.cald pr2 D13_17 (i := 3) (by decide) big3 |>.icmpNo D13_18 (teq pr3).2 |>.iconst D13_21 1 |>.goto D13_22
  exact k.retN (t := .boolean) D13_26 rfl (by simp) (z' := 1) (by decide) ⟨rfl, rfl⟩
theorem R_13_39 {a1 a2 a3 : Addr} {p4 p5 : Int32} (hw : HW a0 Z) (G : Gl Z w_CS w_SF) (pr1 : Str Z h0 a1 a3 [p4, p5]) : Mt false [] l Y13 C13 (rmk 2 0 0 26) #[.ref a1, .int 2, .ref a2, .int 2] Z a0 h0 n0 (Pv h0 (.int 1)) := by
  refine Mt.go PN13 (Or.inl rfl) ef_RIRI_4 fun k => ?_
  replace k := k |>.iloadN D13_0 rfl |>.aloadN D13_1 rfl rfl
  replace k := (k.callV (w_59 hw) (V_Y8_8_String hw) pr1.exa (R_len2 hw G pr1) D13_2 1 rfl).pv
  replace k := k |>.icmpYes D13_5  |>.iconst D13_21 1 |>.goto D13_22
  exact k.retN (t := .boolean) D13_26 rfl (by simp) (z' := 1) (by decide) ⟨rfl, rfl⟩
theorem R_13_40 {a1 a2 a3 : Addr} {p4 p5 : Int32} (hw : HW a0 Z) (G : Gl Z w_CS w_SF) (pr1 : Str Z h0 a1 a3 [p4, p5]) : Mt false [] l Y13 C13 (rmk 2 0 0 26) #[.ref a1, .int 3, .ref a2, .int 2] Z a0 h0 n0 (Pv h0 (.int 1)) := by
  refine Mt.go PN13 (Or.inl rfl) ef_RIRI_4 fun k => ?_
  replace k := k |>.iloadN D13_0 rfl |>.aloadN D13_1 rfl rfl
  replace k := (k.callV (w_59 hw) (V_Y8_8_String hw) pr1.exa (R_len2 hw G pr1) D13_2 1 rfl).pv
  replace k := k |>.icmpYes D13_5  |>.iconst D13_21 1 |>.goto D13_22
  exact k.retN (t := .boolean) D13_26 rfl (by simp) (z' := 1) (by decide) ⟨rfl, rfl⟩
theorem R_38_24 {a1 a2 : Addr} {p3 p4 p5 p6 p7 p8 p9 p10 : Int32} (hw : HW a0 Z) (G : Gl Z w_CS w_SF) (pr1 : Ary Z h0 a1 ATB 8 (bv (lvi [p3, p4, p5, p6, p7, p8, p9, p10]))) (pr2 : 255 < (gcv p7 p8)) : Mt false [] l Y38 C38 (rmk 3 0 0 43) #[.ref a1, .int 2, .ref a2, .int 0, .int 1] Z a0 h0 n0 (Pv h0 (.int 0)) := by
  refine Mt.go PN38 (Or.inl rfl) ef_RIRII_7 fun k => ?_
  replace k := k |>.iloadN D38_0 rfl |>.iload D38_1 rfl |>.aloadN D38_3 rfl rfl
  replace k := (k.callS (w_144 hw) (S39 hw) (R_39_1 hw G pr1 (by decide) (by decide) (by decide) (p1 := 2) (p2 := 1) (p4 := 8)) D38_4 0 rfl).p0
  replace k := k |>.iconst D38_7 0 |>.istore D38_8 sto5 |>.iload D38_10 rfl |>.iload D38_12 rfl |>.icmpNo D38_14  |>.aloadN D38_17 rfl rfl |>.iloadN D38_18 rfl
  replace k := (k.callS (w_120 hw) (S20 hw) (R_20_1 hw G pr1 (by decide) (by decide) (by decide) (by decide) (p2 := 2) (p3 := 8)) D38_19 0 rfl).pv
  replace k := k |>.top (y := (gcv p7 p8)) rfl |>.istore D38_22 sto6 |>.iload D38_24 rfl |>.sipush D38_26 255 |>.icmpNo D38_29 (tlt pr2).2.2.2 |>.iload D38_32 rfl
  exact k.retI D38_34 rfl ⟨rfl, rfl⟩
theorem R_37_24 {a1 : Addr} {p2 p3 p4 p5 p6 p7 p8 p9 : Int32} (hw : HW a0 Z) (G : Gl Z w_CS w_SF) (pr1 : Ary Z h0 a1 ATB 8 (bv (lvi [p2, p3, p4, p5, p6, p7, p8, p9]))) (pr2 : 255 < (gcv p6 p7)) : Mt false [] l Y37 C37 (rmk 4 2 9 61) #[.ref a1, .int 2, .int 1] Z a0 h0 n0 (KpV h0 [] fun v h => ∃ u1 : Addr, v = (.ref u1) ∧ h0.size ≤ u1 ∧ Ary Z h u1 ATB 2 (bv (lvi [p6, p7]))) := by
  refine Mt.go PN37 (Or.inl rfl) ef_RII_6 fun k => ?_
  replace k := k |>.iloadN D37_0 rfl
  obtain ⟨b1, h1, g1, K1, O1, k⟩ := k.newP (aty := .byte) "[B" (w_23 hw) (by decide) D37_1 1 (by decide) (n := 1) (by decide) (by decide) (by decide) (bi_const (L := [0]) rfl)
  replace k := k |>.astoreN D37_3 rfl sto3 |>.aloadN D37_4 rfl rfl |>.iloadN D37_5 rfl |>.aloadN D37_6 rfl rfl |>.iconst D37_7 0 |>.iloadN D37_8 rfl
  have o3 := pr1.keep K1 nin0
  replace k := (k.callS (w_141 hw) (S38 hw) (R_38_24 hw G o3 pr2) D37_9 0 rfl).pv
  replace k := k |>.istore D37_12 sto4 |>.iload D37_14 rfl |>.iloadN D37_16 rfl |>.icmpNo D37_17  |>.aloadN D37_20 rfl rfl |>.iloadN D37_21 rfl |>.iconst D37_22 1 |>.ishl D37_23 (z := 4) |>.iloadN D37_24 rfl |>.iloadN D37_25 rfl |>.iadd D37_26 (z := 3)
  replace k := (k.callS (w_110 hw) (S18 hw) (R_18_1 hw G (by decide) (by decide) (p1 := 3)) D37_27 2 rfl).pv
  replace k := k |>.top (y := 6) (by decide)
  have z5 := k.sz
  obtain ⟨_, h5, K5, ⟨u1_5, rfl, f5_0, f5_1⟩, k⟩ := (k.callS (w_153 hw) (S31 hw) (R_31_6 hw G (by decide) (by decide) (by decide) (by decide) o3 (by decide) (by decide) (by decide) (by decide) (by decide) (p2 := 4) (p3 := 6) (p4 := 8)) D37_30 0 rfl).kv
  have o6 : Ary Z h5 u1_5 ATB 2 (bv (lvi [p6, p7])) := Ary.norm f5_1 (bi_cpz rfl)
  replace k := k |>.astore D37_33 rfl sto5 |>.aload D37_35 rfl rfl |>.iload D37_37 rfl
  replace k := (k.callS (w_120 hw) (S20 hw) (R_20_1 hw G o6 (by decide) (by decide) (by decide) (by decide) (p2 := 0) (p3 := 2)) D37_39 0 rfl).pv
  replace k := k |>.top (y := (gcv p6 p7)) rfl |>.sipush D37_42 255 |>.icmpYes D37_45 (tlt pr2).2.2.1 |>.aload D37_61 rfl rfl
  have s_u1_5 := Nat.le_trans z5 f5_0
  exact k.retA D37_63 rfl ⟨_, rfl, (K1.trans K5 all0), u1_5, rfl, s_u1_5, o6⟩
theorem R_36_24 {a1 : Addr} {p2 p3 p4 p5 p6 p7 p8 p9 : Int32} (hw : HW a0 Z) (G : Gl Z w_CS w_SF) (pr1 : Ary Z h0 a1 ATB 8 (bv (lvi [p2, p3, p4, p5, p6, p7, p8, p9]))) (pr2 : 255 < (gcv p6 p7)) : Mt false [] l Y36 C36 (rmk 5 3 13 78) #[.ref a1, .int 2, .int 1] Z a0 h0 n0 (KpV h0 [] fun v h => ∃ u1 u2 : Addr, v = (.ref u1) ∧ h0.size ≤ u1 ∧ h0.size ≤ u2 ∧ u2 ≠ u1 ∧ Obj Z h u1 L_String [.ref u2, .int 1] ∧ Ary Z h u2 ATB 2 (bv (lvi [p6, p7]))) := by
  refine Mt.go PN36 (Or.inl rfl) ef_RII_5 fun k => ?_
  have nz := k.n0le
  replace k := k |>.iloadN D36_0 rfl |>.ifYes D36_1  |>.getS (fl_137 hw) G.S_CS D36_8 |>.ifNo D36_11 ((if0 _ _).trans (feq G.h_CS).1) |>.aloadN D36_14 rfl rfl |>.iloadN D36_15 rfl |>.iloadN D36_16 rfl
  have z1 := k.sz
  obtain ⟨_, h1, K1, ⟨u1_1, rfl, f1_0, f1_1⟩, k⟩ := (k.callS (w_138 hw) (S37 hw) (R_37_24 hw G pr1 pr2) D36_17 0 rfl).kv
  replace k := k |>.astoreN D36_20 rfl sto3 |>.aloadN D36_21 rfl rfl |>.iloadN D36_22 rfl
  replace k := (k.callS (w_171 hw) (S21 hw) (R_21_1 hw G f1_1 (by decide) (p2 := 1) (p3 := 2)) D36_23 0 rfl).pv
  replace k := k |>.top (y := 1) (by decide) |>.istore D36_26 sto4
  have z3 := k.sz
  obtain ⟨b3, h3, g3, K3, O3, k⟩ := k.new (L := L_String) (w_172 hw) (nw_String hw) D36_28 (by decide) dvL_String
  replace k := k |>.dup D36_31 rfl |>.aloadN D36_32 rfl rfl |>.iload D36_33 rfl
  have s_b3 := Nat.le_trans z3 g3
  have n_b3 := Nat.le_trans nz s_b3
  obtain ⟨h4, K4, f4_0, k⟩ := (k.callI (w_173 hw) (I35 hw) (R_35_2 hw G O3 n_b3) D36_35 1 rfl).k0 (allS n_b3 all0)
  have s_u1_1 := Nat.le_trans z1 f1_0
  have o5 := (f1_1.keep K3 nin0).keep K4 (ninS (nlt f1_1.lt g3) nin0)
  exact k.retA D36_38 rfl ⟨_, rfl, ((K1.trans K3 all0).trans K4 (allS (Or.inr s_b3) all0)), b3, u1_1, rfl, s_b3, s_u1_1, (nlt f1_1.lt g3), f4_0, o5⟩
theorem R_sub4_2_3 {a1 a2 : Addr} {c0 c1 c2 c3 : Int32} (hw : HW a0 Z) (G : Gl Z w_CS w_SF) (S : Str Z h0 a1 a2 [c0, c1, c2, c3]) (x0 : ¬ (255 < c0)) (x1 : ¬ (255 < c1)) (x3 : ¬ (255 < c3)) : Mt false [] l Y10 C10 (rmk 6 3 13 94) #[.ref a1, .int 2, .int 3] Z a0 h0 n0 (KpV h0 [] fun v h => ∃ u w : Addr, v = .ref u ∧ Str Z h u w [c2]) := by
  refine Mt.go PN10 (Or.inl rfl) ef_RII_5 fun k => ?_
  obtain ⟨⟨⟨g0a, g0b⟩, ⟨g1a, g1b⟩, ⟨g2a, g2b⟩, ⟨g3a, g3b⟩, -⟩, S⟩ := S
  rcases S with ⟨T, O, A, hl⟩ | ⟨O, A, u0 | ⟨l0, u1 | ⟨l1, u2 | ⟨l2, u3 | ⟨-, hx⟩⟩⟩⟩⟩
  · obtain ⟨l0, l1, l2, l3, -⟩ := hl
    have A : Ary Z h0 a2 (T, .byte) 4 (bv (lvi [(c0.toInt8.toInt32), (c1.toInt8.toInt32), (c2.toInt8.toInt32), (c3.toInt8.toInt32)])) := A
    replace k := k |>.aloadN D10_0 rfl rfl
    replace k := (k.callV (w_50 hw) (V_Y8_8_String hw) O.exa (R_8_8 hw G O A) D10_1 0 rfl).pv
    replace k := k |>.istoreN D10_4 sto3 |>.iloadN D10_5 rfl |>.iloadN D10_6 rfl |>.iloadN D10_7 rfl
    replace k := (k.callS (w_51 hw) (S11 hw) (R_11_1 hw G (by decide) (by decide) (by decide) (p1 := 2) (p2 := 3) (p3 := 4)) D10_8 0 rfl).p0
    replace k := k |>.iloadN D10_11 rfl |>.ifYes D10_12  |>.iloadN D10_22 rfl |>.iloadN D10_23 rfl |>.isub D10_24 (z := 1) |>.istore D10_25 sto4 |>.aloadN D10_27 rfl rfl
    replace k := (k.callV (w_78 hw) (V_Y23_23_String hw) O.exa (R_23_1 hw G O) D10_28 0 rfl).pv
    replace k := k |>.ifNo D10_31  |>.aloadN D10_34 rfl rfl |>.getF (fl_28 hw) O 0 D10_35 rfl rfl |>.iloadN D10_38 rfl |>.iload D10_39 rfl
    obtain ⟨_, h4, K4, ⟨u1_4, u2_4, rfl, f4_0, f4_1, f4_2, f4_3, f4_4⟩, k⟩ := (k.callS (w_96 hw) (S30 hw) (R_30_5 hw G (by decide) (by decide) (by decide) (by decide) (by decide) A (by decide) (by decide) (by decide) (by decide) (by decide) (p2 := 2) (p3 := 1) (p4 := 4)) D10_41 0 rfl).kv
    have o5 : Ary Z h4 u2_4 ATB 1 (bv (lvi [(c2.toInt8.toInt32)])) := Ary.norm f4_4 (bi_cpz rfl)
    replace k := k |>.goto D10_44
    exact k.retA D10_57 rfl ⟨_, rfl, K4, u1_4, u2_4, rfl, ⟨⟨⟨g2a, g2b⟩, trivial⟩, Or.inl ⟨_, f4_3, o5, ⟨l2, trivial⟩⟩⟩⟩
  · exact absurd u0 x0
  · exact absurd u1 x1
  · have A : Ary Z h0 a2 ATB 8 (bv (lvi [(lo8 c0), (hi8 c0), (lo8 c1), (hi8 c1), (lo8 c2), (hi8 c2), (lo8 c3), (hi8 c3)])) := A
    replace k := k |>.aloadN D10_0 rfl rfl
    replace k := (k.callV (w_50 hw) (V_Y8_8_String hw) O.exa (R_8_9 hw G O A) D10_1 0 rfl).pv
    replace k := k |>.istoreN D10_4 sto3 |>.iloadN D10_5 rfl |>.iloadN D10_6 rfl |>.iloadN D10_7 rfl
    replace k := (k.callS (w_51 hw) (S11 hw) (R_11_1 hw G (by decide) (by decide) (by decide) (p1 := 2) (p2 := 3) (p3 := 4)) D10_8 0 rfl).p0
    replace k := k |>.iloadN D10_11 rfl |>.ifYes D10_12  |>.iloadN D10_22 rfl |>.iloadN D10_23 rfl |>.isub D10_24 (z := 1) |>.istore D10_25 sto4 |>.aloadN D10_27 rfl rfl
    replace k := (k.callV (w_78 hw) (V_Y23_23_String hw) O.exa (R_23_2 hw G O) D10_28 0 rfl).pv
    replace k := k |>.ifYes D10_31  |>.aloadN D10_47 rfl rfl |>.getF (fl_28 hw) O 0 D10_48 rfl rfl |>.iloadN D10_51 rfl |>.iload D10_52 rfl
    obtain ⟨_, h9, K9, ⟨u1_9, u2_9, rfl, f9_0, f9_1, f9_2, f9_3, f9_4⟩, k⟩ := (k.callS (w_134 hw) (S36 hw) (R_36_24 hw G A (own_d34 rfl g2a g2b u2)) D10_54 0 rfl).kv
    exact k.retA D10_57 rfl ⟨_, rfl, K9, u1_9, u2_9, rfl, ⟨⟨⟨g2a, g2b⟩, trivial⟩, Or.inr ⟨f9_3, f9_4, Or.inl u2⟩⟩⟩
  · exact absurd u3 x3
  · exact hx.elim
theorem R_7_45 {a1 a2 : Addr} {p3 p4 p5 p6 : Int32} (hw : HW a0 Z) (G : Gl Z w_CS w_SF) (pr1 : Str Z h0 a1 a2 [p3, p4, p5, p6]) (pr2 : ¬ ((bl p3) = 0)) (pr3 : ¬ ((bl p4) = 0)) (pr4 : (bl p5) = 0) (pr5 : ¬ ((bl p6) = 0)) (pr6 : ¬ (255 < p3)) (pr7 : ¬ (255 < p4)) (pr8 : ¬ (255 < p6)) : Mt false [] l Y7 C7 (rmk 7 3 13 110) #[.ref a1] Z a0 h0 n0 (KpV h0 [] fun v h => ∃ u1 u2 : Addr, v = (.ref u1) ∧ Str Z h u1 u2 [p5]) := by
  refine Mt.go PN7 (Or.inl rfl) ef_R_3 fun k => ?_
  replace k := k |>.iconst D7_0 0 |>.istoreN D7_1 sto1 |>.aloadN D7_2 rfl rfl
  replace k := (k.callV (w_34 hw) (V_Y8_8_String hw) pr1.exa (R_len4 hw G pr1) D7_3 0 rfl).pv
  replace k := k |>.istoreN D7_6 sto2 |>.iloadN D7_7 rfl |>.iloadN D7_8 rfl |>.icmpNo D7_9  |>.aloadN D7_12 rfl rfl |>.iloadN D7_13 rfl
  replace k := (k.callV (w_73 hw) (V_Y22_22_String hw) pr1.exa (R_chr4_0 hw G pr1) D7_14 0 rfl).pv
  replace k := (k.callS (w_93 hw) (S2 hw) (R_own_isBlank hw G) D7_17 0 rfl).pv
  replace k := k |>.ifNo D7_20 ((if0 _ _).trans (feq pr2).1) |>.iinc D7_23 rfl (z := 1) (by decide) sto1 |>.goto D7_26 |>.iloadN D7_7 rfl |>.iloadN D7_8 rfl |>.icmpNo D7_9  |>.aloadN D7_12 rfl rfl |>.iloadN D7_13 rfl
  replace k := (k.callV (w_73 hw) (V_Y22_22_String hw) pr1.exa (R_chr4_1 hw G pr1) D7_14 0 rfl).pv
  replace k := (k.callS (w_93 hw) (S2 hw) (R_own_isBlank hw G) D7_17 0 rfl).pv
  replace k := k |>.ifNo D7_20 ((if0 _ _).trans (feq pr3).1) |>.iinc D7_23 rfl (z := 2) (by decide) sto1 |>.goto D7_26 |>.iloadN D7_7 rfl |>.iloadN D7_8 rfl |>.icmpNo D7_9  |>.aloadN D7_12 rfl rfl |>.iloadN D7_13 rfl
  replace k := (k.callV (w_73 hw) (V_Y22_22_String hw) pr1.exa (R_chr4_2 hw G pr1) D7_14 0 rfl).pv
  replace k := (k.callS (w_93 hw) (S2 hw) (R_own_isBlank hw G) D7_17 0 rfl).pv
  replace k := k |>.ifYes D7_20 ((if0 _ _).trans (teq pr4).1) |>.iloadN D7_29 rfl |>.iloadN D7_30 rfl |>.icmpNo D7_31  |>.aloadN D7_34 rfl rfl |>.iloadN D7_35 rfl |>.iconst D7_36 1 |>.isub D7_37 (z := 3)
  replace k := (k.callV (w_73 hw) (V_Y22_22_String hw) pr1.exa (R_chr4_3 hw G pr1) D7_38 0 rfl).pv
  replace k := (k.callS (w_93 hw) (S2 hw) (R_own_isBlank hw G) D7_41 0 rfl).pv
  replace k := k |>.ifNo D7_44 ((if0 _ _).trans (feq pr5).1) |>.iinc D7_47 rfl (z := 3) (by decide) sto2 |>.goto D7_50 |>.iloadN D7_29 rfl |>.iloadN D7_30 rfl |>.icmpNo D7_31  |>.aloadN D7_34 rfl rfl |>.iloadN D7_35 rfl |>.iconst D7_36 1 |>.isub D7_37 (z := 2)
  replace k := (k.callV (w_73 hw) (V_Y22_22_String hw) pr1.exa (R_chr4_2 hw G pr1) D7_38 0 rfl).pv
  replace k := (k.callS (w_93 hw) (S2 hw) (R_own_isBlank hw G) D7_41 0 rfl).pv
  replace k := k |>.ifYes D7_44 ((if0 _ _).trans (teq pr4).1) |>.aloadN D7_53 rfl rfl |>.iloadN D7_54 rfl |>.iloadN D7_55 rfl
  obtain ⟨_, h1, K1, ⟨u1, w1, rfl, S1⟩, k⟩ := (k.callV (w_45 hw) (V_Y10_10_String hw) pr1.exa (R_sub4_2_3 hw G pr1 pr6 pr7 pr8) D7_56 0 rfl).kv
  exact k.retA D7_59 rfl ⟨_, rfl, K1, u1, w1, rfl, S1⟩
theorem R_38_25 {a1 a2 : Addr} {p3 p4 p5 p6 p7 p8 p9 p10 : Int32} (hw : HW a0 Z) (G : Gl Z w_CS w_SF) (pr1 : Ary Z h0 a1 ATB 8 (bv (lvi [p3, p4, p5, p6, p7, p8, p9, p10]))) (pr2 : 255 < (gcv p9 p10)) : Mt false [] l Y38 C38 (rmk 3 0 0 43) #[.ref a1, .int 3, .ref a2, .int 0, .int 1] Z a0 h0 n0 (Pv h0 (.int 0)) := by
  refine Mt.go PN38 (Or.inl rfl) ef_RIRII_7 fun k => ?_
  replace k := k |>.iloadN D38_0 rfl |>.iload D38_1 rfl |>.aloadN D38_3 rfl rfl
  replace k := (k.callS (w_144 hw) (S39 hw) (R_39_1 hw G pr1 (by decide) (by decide) (by decide) (p1 := 3) (p2 := 1) (p4 := 8)) D38_4 0 rfl).p0
  replace k := k |>.iconst D38_7 0 |>.istore D38_8 sto5 |>.iload D38_10 rfl |>.iload D38_12 rfl |>.icmpNo D38_14  |>.aloadN D38_17 rfl rfl |>.iloadN D38_18 rfl
  replace k := (k.callS (w_120 hw) (S20 hw) (R_20_1 hw G pr1 (by decide) (by decide) (by decide) (by decide) (p2 := 3) (p3 := 8)) D38_19 0 rfl).pv
  replace k := k |>.top (y := (gcv p9 p10)) rfl |>.istore D38_22 sto6 |>.iload D38_24 rfl |>.sipush D38_26 255 |>.icmpNo D38_29 (tlt pr2).2.2.2 |>.iload D38_32 rfl
  exact k.retI D38_34 rfl ⟨rfl, rfl⟩
theorem R_37_25 {a1 : Addr} {p2 p3 p4 p5 p6 p7 p8 p9 : Int32} (hw : HW a0 Z) (G : Gl Z w_CS w_SF) (pr1 : Ary Z h0 a1 ATB 8 (bv (lvi [p2, p3, p4, p5, p6, p7, p8, p9]))) (pr2 : 255 < (gcv p8 p9)) : Mt false [] l Y37 C37 (rmk 4 2 9 61) #[.ref a1, .int 3, .int 1] Z a0 h0 n0 (KpV h0 [] fun v h => ∃ u1 : Addr, v = (.ref u1) ∧ h0.size ≤ u1 ∧ Ary Z h u1 ATB 2 (bv (lvi [p8, p9]))) := by
  refine Mt.go PN37 (Or.inl rfl) ef_RII_6 fun k => ?_
  replace k := k |>.iloadN D37_0 rfl
  obtain ⟨b1, h1, g1, K1, O1, k⟩ := k.newP (aty := .byte) "[B" (w_23 hw) (by decide) D37_1 1 (by decide) (n := 1) (by decide) (by decide) (by decide) (bi_const (L := [0]) rfl)
  replace k := k |>.astoreN D37_3 rfl sto3 |>.aloadN D37_4 rfl rfl |>.iloadN D37_5 rfl |>.aloadN D37_6 rfl rfl |>.iconst D37_7 0 |>.iloadN D37_8 rfl
  have o3 := pr1.keep K1 nin0
  replace k := (k.callS (w_141 hw) (S38 hw) (R_38_25 hw G o3 pr2) D37_9 0 rfl).pv
  replace k := k |>.istore D37_12 sto4 |>.iload D37_14 rfl |>.iloadN D37_16 rfl |>.icmpNo D37_17  |>.aloadN D37_20 rfl rfl |>.iloadN D37_21 rfl |>.iconst D37_22 1 |>.ishl D37_23 (z := 6) |>.iloadN D37_24 rfl |>.iloadN D37_25 rfl |>.iadd D37_26 (z := 4)
  replace k := (k.callS (w_110 hw) (S18 hw) (R_18_1 hw G (by decide) (by decide) (p1 := 4)) D37_27 2 rfl).pv
  replace k := k |>.top (y := 8) (by decide)
  have z5 := k.sz
  obtain ⟨_, h5, K5, ⟨u1_5, rfl, f5_0, f5_1⟩, k⟩ := (k.callS (w_153 hw) (S31 hw) (R_31_4 hw G (by decide) (by decide) (by decide) (by decide) o3 (by decide) (by decide) (by decide) (by decide) (by decide) (by decide) (p2 := 6) (p3 := 8) (p4 := 8)) D37_30 0 rfl).kv
  have o6 : Ary Z h5 u1_5 ATB 2 (bv (lvi [p8, p9])) := Ary.norm f5_1 (bi_cpz rfl)
  replace k := k |>.astore D37_33 rfl sto5 |>.aload D37_35 rfl rfl |>.iload D37_37 rfl
  replace k := (k.callS (w_120 hw) (S20 hw) (R_20_1 hw G o6 (by decide) (by decide) (by decide) (by decide) (p2 := 0) (p3 := 2)) D37_39 0 rfl).pv
  replace k := k |>.top (y := (gcv p8 p9)) rfl |>.sipush D37_42 255 |>.icmpYes D37_45 (tlt pr2).2.2.1 |>.aload D37_61 rfl rfl
  have s_u1_5 := Nat.le_trans z5 f5_0
  exact k.retA D37_63 rfl ⟨_, rfl, (K1.trans K5 all0), u1_5, rfl, s_u1_5, o6⟩
theorem R_36_25 {a1 : Addr} {p2 p3 p4 p5 p6 p7 p8 p9 : Int32} (hw : HW a0 Z) (G : Gl Z w_CS w_SF) (pr1 : Ary Z h0 a1 ATB 8 (bv (lvi [p2, p3, p4, p5, p6, p7, p8, p9]))) (pr2 : 255 < (gcv p8 p9)) : Mt false [] l Y36 C36 (rmk 5 3 13 78) #[.ref a1, .int 3, .int 1] Z a0 h0 n0 (KpV h0 [] fun v h => ∃ u1 u2 : Addr, v = (.ref u1) ∧ h0.size ≤ u1 ∧ h0.size ≤ u2 ∧ u2 ≠ u1 ∧ Obj Z h u1 L_String [.ref u2, .int 1] ∧ Ary Z h u2 ATB 2 (bv (lvi [p8, p9]))) := by
  refine Mt.go PN36 (Or.inl rfl) ef_RII_5 fun k => ?_
  have nz := k.n0le
  replace k := k |>.iloadN D36_0 rfl |>.ifYes D36_1  |>.getS (fl_137 hw) G.S_CS D36_8 |>.ifNo D36_11 ((if0 _ _).trans (feq G.h_CS).1) |>.aloadN D36_14 rfl rfl |>.iloadN D36_15 rfl |>.iloadN D36_16 rfl
  have z1 := k.sz
  obtain ⟨_, h1, K1, ⟨u1_1, rfl, f1_0, f1_1⟩, k⟩ := (k.callS (w_138 hw) (S37 hw) (R_37_25 hw G pr1 pr2) D36_17 0 rfl).kv
  replace k := k |>.astoreN D36_20 rfl sto3 |>.aloadN D36_21 rfl rfl |>.iloadN D36_22 rfl
  replace k := (k.callS (w_171 hw) (S21 hw) (R_21_1 hw G f1_1 (by decide) (p2 := 1) (p3 := 2)) D36_23 0 rfl).pv
  replace k := k |>.top (y := 1) (by decide) |>.istore D36_26 sto4
  have z3 := k.sz
  obtain ⟨b3, h3, g3, K3, O3, k⟩ := k.new (L := L_String) (w_172 hw) (nw_String hw) D36_28 (by decide) dvL_String
  replace k := k |>.dup D36_31 rfl |>.aloadN D36_32 rfl rfl |>.iload D36_33 rfl
  have s_b3 := Nat.le_trans z3 g3
  have n_b3 := Nat.le_trans nz s_b3
  obtain ⟨h4, K4, f4_0, k⟩ := (k.callI (w_173 hw) (I35 hw) (R_35_2 hw G O3 n_b3) D36_35 1 rfl).k0 (allS n_b3 all0)
  have s_u1_1 := Nat.le_trans z1 f1_0
  have o5 := (f1_1.keep K3 nin0).keep K4 (ninS (nlt f1_1.lt g3) nin0)
  exact k.retA D36_38 rfl ⟨_, rfl, ((K1.trans K3 all0).trans K4 (allS (Or.inr s_b3) all0)), b3, u1_1, rfl, s_b3, s_u1_1, (nlt f1_1.lt g3), f4_0, o5⟩
theorem R_sub4_3_4 {a1 a2 : Addr} {c0 c1 c2 c3 : Int32} (hw : HW a0 Z) (G : Gl Z w_CS w_SF) (S : Str Z h0 a1 a2 [c0, c1, c2, c3]) (x0 : ¬ (255 < c0)) (x1 : ¬ (255 < c1)) (x2 : ¬ (255 < c2)) : Mt false [] l Y10 C10 (rmk 6 3 13 94) #[.ref a1, .int 3, .int 4] Z a0 h0 n0 (KpV h0 [] fun v h => ∃ u w : Addr, v = .ref u ∧ Str Z h u w [c3]) := by
  refine Mt.go PN10 (Or.inl rfl) ef_RII_5 fun k => ?_
  obtain ⟨⟨⟨g0a, g0b⟩, ⟨g1a, g1b⟩, ⟨g2a, g2b⟩, ⟨g3a, g3b⟩, -⟩, S⟩ := S
  rcases S with ⟨T, O, A, hl⟩ | ⟨O, A, u0 | ⟨l0, u1 | ⟨l1, u2 | ⟨l2, u3 | ⟨-, hx⟩⟩⟩⟩⟩
  · obtain ⟨l0, l1, l2, l3, -⟩ := hl
    have A : Ary Z h0 a2 (T, .byte) 4 (bv (lvi [(c0.toInt8.toInt32), (c1.toInt8.toInt32), (c2.toInt8.toInt32), (c3.toInt8.toInt32)])) := A
    replace k := k |>.aloadN D10_0 rfl rfl
    replace k := (k.callV (w_50 hw) (V_Y8_8_String hw) O.exa (R_8_8 hw G O A) D10_1 0 rfl).pv
    replace k := k |>.istoreN D10_4 sto3 |>.iloadN D10_5 rfl |>.iloadN D10_6 rfl |>.iloadN D10_7 rfl
    replace k := (k.callS (w_51 hw) (S11 hw) (R_11_1 hw G (by decide) (by decide) (by decide) (p1 := 3) (p2 := 4) (p3 := 4)) D10_8 0 rfl).p0
    replace k := k |>.iloadN D10_11 rfl |>.ifYes D10_12  |>.iloadN D10_22 rfl |>.iloadN D10_23 rfl |>.isub D10_24 (z := 1) |>.istore D10_25 sto4 |>.aloadN D10_27 rfl rfl
    replace k := (k.callV (w_78 hw) (V_Y23_23_String hw) O.exa (R_23_1 hw G O) D10_28 0 rfl).pv
    replace k := k |>.ifNo D10_31  |>.aloadN D10_34 rfl rfl |>.getF (fl_28 hw) O 0 D10_35 rfl rfl |>.iloadN D10_38 rfl |>.iload D10_39 rfl
    obtain ⟨_, h4, K4, ⟨u1_4, u2_4, rfl, f4_0, f4_1, f4_2, f4_3, f4_4⟩, k⟩ := (k.callS (w_96 hw) (S30 hw) (R_30_4 hw G (by decide) (by decide) (by decide) (by decide) (by decide) A (by decide) (by decide) (by decide) (by decide) (by decide) (by decide) (p2 := 3) (p3 := 1) (p4 := 4)) D10_41 0 rfl).kv
    have o5 : Ary Z h4 u2_4 ATB 1 (bv (lvi [(c3.toInt8.toInt32)])) := Ary.norm f4_4 (bi_cpz rfl)
    replace k := k |>.goto D10_44
    exact k.retA D10_57 rfl ⟨_, rfl, K4, u1_4, u2_4, rfl, ⟨⟨⟨g3a, g3b⟩, trivial⟩, Or.inl ⟨_, f4_3, o5, ⟨l3, trivial⟩⟩⟩⟩
  · exact absurd u0 x0
  · exact absurd u1 x1
  · exact absurd u2 x2
  · have A : Ary Z h0 a2 ATB 8 (bv (lvi [(lo8 c0), (hi8 c0), (lo8 c1), (hi8 c1), (lo8 c2), (hi8 c2), (lo8 c3), (hi8 c3)])) := A
    replace k := k |>.aloadN D10_0 rfl rfl
    replace k := (k.callV (w_50 hw) (V_Y8_8_String hw) O.exa (R_8_9 hw G O A) D10_1 0 rfl).pv
    replace k := k |>.istoreN D10_4 sto3 |>.iloadN D10_5 rfl |>.iloadN D10_6 rfl |>.iloadN D10_7 rfl
    replace k := (k.callS (w_51 hw) (S11 hw) (R_11_1 hw G (by decide) (by decide) (by decide) (p1 := 3) (p2 := 4) (p3 := 4)) D10_8 0 rfl).p0
    replace k := k |>.iloadN D10_11 rfl |>.ifYes D10_12  |>.iloadN D10_22 rfl |>.iloadN D10_23 rfl |>.isub D10_24 (z := 1) |>.istore D10_25 sto4 |>.aloadN D10_27 rfl rfl
    replace k := (k.callV (w_78 hw) (V_Y23_23_String hw) O.exa (R_23_2 hw G O) D10_28 0 rfl).pv
    replace k := k |>.ifYes D10_31  |>.aloadN D10_47 rfl rfl |>.getF (fl_28 hw) O 0 D10_48 rfl rfl |>.iloadN D10_51 rfl |>.iload D10_52 rfl
    obtain ⟨_, h9, K9, ⟨u1_9, u2_9, rfl, f9_0, f9_1, f9_2, f9_3, f9_4⟩, k⟩ := (k.callS (w_134 hw) (S36 hw) (R_36_25 hw G A (own_d52 rfl g3a g3b u3)) D10_54 0 rfl).kv
    exact k.retA D10_57 rfl ⟨_, rfl, K9, u1_9, u2_9, rfl, ⟨⟨⟨g3a, g3b⟩, trivial⟩, Or.inr ⟨f9_3, f9_4, Or.inl u3⟩⟩⟩
  · exact hx.elim
theorem R_7_47 {a1 a2 : Addr} {p3 p4 p5 p6 : Int32} (hw : HW a0 Z) (G : Gl Z w_CS w_SF) (pr1 : Str Z h0 a1 a2 [p3, p4, p5, p6]) (pr2 : ¬ ((bl p3) = 0)) (pr3 : ¬ ((bl p4) = 0)) (pr4 : ¬ ((bl p5) = 0)) (pr5 : (bl p6) = 0) (pr6 : ¬ (255 < p3)) (pr7 : ¬ (255 < p4)) (pr8 : ¬ (255 < p5)) : Mt false [] l Y7 C7 (rmk 7 3 13 110) #[.ref a1] Z a0 h0 n0 (KpV h0 [] fun v h => ∃ u1 u2 : Addr, v = (.ref u1) ∧ Str Z h u1 u2 [p6]) := by
  refine Mt.go PN7 (Or.inl rfl) ef_R_3 fun k => ?_
  replace k := k |>.iconst D7_0 0 |>.istoreN D7_1 sto1 |>.aloadN D7_2 rfl rfl
  replace k := (k.callV (w_34 hw) (V_Y8_8_String hw) pr1.exa (R_len4 hw G pr1) D7_3 0 rfl).pv
  replace k := k |>.istoreN D7_6 sto2 |>.iloadN D7_7 rfl |>.iloadN D7_8 rfl |>.icmpNo D7_9  |>.aloadN D7_12 rfl rfl |>.iloadN D7_13 rfl
  replace k := (k.callV (w_73 hw) (V_Y22_22_String hw) pr1.exa (R_chr4_0 hw G pr1) D7_14 0 rfl).pv
  replace k := (k.callS (w_93 hw) (S2 hw) (R_own_isBlank hw G) D7_17 0 rfl).pv
  replace k := k |>.ifNo D7_20 ((if0 _ _).trans (feq pr2).1) |>.iinc D7_23 rfl (z := 1) (by decide) sto1 |>.goto D7_26 |>.iloadN D7_7 rfl |>.iloadN D7_8 rfl |>.icmpNo D7_9  |>.aloadN D7_12 rfl rfl |>.iloadN D7_13 rfl
  replace k := (k.callV (w_73 hw) (V_Y22_22_String hw) pr1.exa (R_chr4_1 hw G pr1) D7_14 0 rfl).pv
  replace k := (k.callS (w_93 hw) (S2 hw) (R_own_isBlank hw G) D7_17 0 rfl).pv
  replace k := k |>.ifNo D7_20 ((if0 _ _).trans (feq pr3).1) |>.iinc D7_23 rfl (z := 2) (by decide) sto1 |>.goto D7_26 |>.iloadN D7_7 rfl |>.iloadN D7_8 rfl |>.icmpNo D7_9  |>.aloadN D7_12 rfl rfl |>.iloadN D7_13 rfl
  replace k := (k.callV (w_73 hw) (V_Y22_22_String hw) pr1.exa (R_chr4_2 hw G pr1) D7_14 0 rfl).pv
  replace k := (k.callS (w_93 hw) (S2 hw) (R_own_isBlank hw G) D7_17 0 rfl).pv
  replace k := k |>.ifNo D7_20 ((if0 _ _).trans (feq pr4).1) |>.iinc D7_23 rfl (z := 3) (by decide) sto1 |>.goto D7_26 |>.iloadN D7_7 rfl |>.iloadN D7_8 rfl |>.icmpNo D7_9  |>.aloadN D7_12 rfl rfl |>.iloadN D7_13 rfl
  replace k := (k.callV (w_73 hw) (V_Y22_22_String hw) pr1.exa (R_chr4_3 hw G pr1) D7_14 0 rfl).pv
  replace k := (k.callS (w_93 hw) (S2 hw) (R_own_isBlank hw G) D7_17 0 rfl).pv
  replace k := k |>.ifYes D7_20 ((if0 _ _).trans (teq pr5).1) |>.iloadN D7_29 rfl |>.iloadN D7_30 rfl |>.icmpNo D7_31  |>.aloadN D7_34 rfl rfl |>.iloadN D7_35 rfl |>.iconst D7_36 1 |>.isub D7_37 (z := 3)
  replace k := (k.callV (w_73 hw) (V_Y22_22_String hw) pr1.exa (R_chr4_3 hw G pr1) D7_38 0 rfl).pv
  replace k := (k.callS (w_93 hw) (S2 hw) (R_own_isBlank hw G) D7_41 0 rfl).pv
  replace k := k |>.ifYes D7_44 ((if0 _ _).trans (teq pr5).1) |>.aloadN D7_53 rfl rfl |>.iloadN D7_54 rfl |>.iloadN D7_55 rfl
  obtain ⟨_, h1, K1, ⟨u1, w1, rfl, S1⟩, k⟩ := (k.callV (w_45 hw) (V_Y10_10_String hw) pr1.exa (R_sub4_3_4 hw G pr1 pr6 pr7 pr8) D7_56 0 rfl).kv
  exact k.retA D7_59 rfl ⟨_, rfl, K1, u1, w1, rfl, S1⟩
theorem D3_189 : Dc code 189 (.iconst 3) 1 190 := ⟨at_189, rfl⟩
theorem D3_190 : Dj code 190 (.goto 5) 5 193 195 := ⟨at_190, rfl, by decide, by decide⟩
theorem R_13_41 {a1 a2 a3 : Addr} {p4 p5 p6 p7 p8 : Int32} (hw : HW a0 Z) (G : Gl Z w_CS w_SF) (pr1 : Str Z h0 a1 a3 [p4]) (pr2 : Ary Z h0 a2 ATC 4 (bv (lvi [p5, p6, p7, p8]))) (pr3 : p4 = p8) : Mt false [] l Y13 C13 (rmk 5 0 0 66) #[.ref a1, .int 0, .ref a2, .int 3] Z a0 h0 n0 (Pv h0 (.int 1)) := by
  refine Mt.go PN13 (Or.inl rfl) ef_RIRI_4 fun k => ?_
  replace k := k |>.iloadN D13_0 rfl |>.aloadN D13_1 rfl rfl
  replace k := (k.callV (w_59 hw) (V_Y8_8_String hw) pr1.exa (R_len1 hw G pr1) D13_2 1 rfl).pv
  replace k := k |>.icmpNo D13_5  |>.aloadN D13_8 rfl rfl |>.iloadN D13_9 rfl
  replace k := (k.callV (w_133 hw) (V_Y22_22_String hw) pr1.exa (R_chr1_0 hw G pr1) D13_10 0 rfl).pv
  replace k := k |>.aloadN D13_13 rfl rfl |>.iloadN D13_14 rfl |>.iloadN D13_15 rfl |>.iadd D13_16 (z := 3) |>.cald pr2 D13_17 (i := 3) (by decide) big3 |>.icmpNo D13_18 (teq pr3).2 |>.iconst D13_21 1 |>.goto D13_22
  exact k.retN (t := .boolean) D13_26 rfl (by simp) (z' := 1) (by decide) ⟨rfl, rfl⟩
theorem R_13_42 {a1 a2 a3 : Addr} {p4 : Int32} (hw : HW a0 Z) (G : Gl Z w_CS w_SF) (pr1 : Str Z h0 a1 a3 [p4]) : Mt false [] l Y13 C13 (rmk 2 0 0 26) #[.ref a1, .int 1, .ref a2, .int 3] Z a0 h0 n0 (Pv h0 (.int 1)) := by
  refine Mt.go PN13 (Or.inl rfl) ef_RIRI_4 fun k => ?_
  replace k := k |>.iloadN D13_0 rfl |>.aloadN D13_1 rfl rfl
  replace k := (k.callV (w_59 hw) (V_Y8_8_String hw) pr1.exa (R_len1 hw G pr1) D13_2 1 rfl).pv
  replace k := k |>.icmpYes D13_5  |>.iconst D13_21 1 |>.goto D13_22
  exact k.retN (t := .boolean) D13_26 rfl (by simp) (z' := 1) (by decide) ⟨rfl, rfl⟩
theorem R_13_43 {a1 a2 a3 : Addr} {p4 : Int32} (hw : HW a0 Z) (G : Gl Z w_CS w_SF) (pr1 : Str Z h0 a1 a3 [p4]) : Mt false [] l Y13 C13 (rmk 2 0 0 26) #[.ref a1, .int 2, .ref a2, .int 3] Z a0 h0 n0 (Pv h0 (.int 1)) := by
  refine Mt.go PN13 (Or.inl rfl) ef_RIRI_4 fun k => ?_
  replace k := k |>.iloadN D13_0 rfl |>.aloadN D13_1 rfl rfl
  replace k := (k.callV (w_59 hw) (V_Y8_8_String hw) pr1.exa (R_len1 hw G pr1) D13_2 1 rfl).pv
  replace k := k |>.icmpYes D13_5  |>.iconst D13_21 1 |>.goto D13_22
  exact k.retN (t := .boolean) D13_26 rfl (by simp) (z' := 1) (by decide) ⟨rfl, rfl⟩
theorem R_13_44 {a1 a2 a3 : Addr} {p4 : Int32} (hw : HW a0 Z) (G : Gl Z w_CS w_SF) (pr1 : Str Z h0 a1 a3 [p4]) : Mt false [] l Y13 C13 (rmk 2 0 0 26) #[.ref a1, .int 3, .ref a2, .int 3] Z a0 h0 n0 (Pv h0 (.int 1)) := by
  refine Mt.go PN13 (Or.inl rfl) ef_RIRI_4 fun k => ?_
  replace k := k |>.iloadN D13_0 rfl |>.aloadN D13_1 rfl rfl
  replace k := (k.callV (w_59 hw) (V_Y8_8_String hw) pr1.exa (R_len1 hw G pr1) D13_2 1 rfl).pv
  replace k := k |>.icmpYes D13_5  |>.iconst D13_21 1 |>.goto D13_22
  exact k.retN (t := .boolean) D13_26 rfl (by simp) (z' := 1) (by decide) ⟨rfl, rfl⟩
theorem R_sub4_4_4 {a1 a2 : Addr} {c0 c1 c2 c3 : Int32} (hw : HW a0 Z) (G : Gl Z w_CS w_SF) (S : Str Z h0 a1 a2 [c0, c1, c2, c3]) (x0 : ¬ (255 < c0)) (x1 : ¬ (255 < c1)) (x2 : ¬ (255 < c2)) (x3 : ¬ (255 < c3)) : Mt true consts_1 l Y10 C10 (rmk 2 2 4 29) #[.ref a1, .int 4, .int 4] Z a0 h0 n0 (KpV h0 [] fun v h => ∃ u w : Addr, v = .ref u ∧ Str Z h u w []) := by
  refine Mt.go PN10 (Or.inl rfl) ef_RII_5 fun k => ?_
  obtain ⟨⟨⟨g0a, g0b⟩, ⟨g1a, g1b⟩, ⟨g2a, g2b⟩, ⟨g3a, g3b⟩, -⟩, S⟩ := S
  rcases S with ⟨T, O, A, hl⟩ | ⟨O, A, u0 | ⟨l0, u1 | ⟨l1, u2 | ⟨l2, u3 | ⟨-, hx⟩⟩⟩⟩⟩
  · obtain ⟨l0, l1, l2, l3, -⟩ := hl
    have A : Ary Z h0 a2 (T, .byte) 4 (bv (lvi [(c0.toInt8.toInt32), (c1.toInt8.toInt32), (c2.toInt8.toInt32), (c3.toInt8.toInt32)])) := A
    replace k := k |>.aloadN D10_0 rfl rfl
    replace k := (k.callV (w_50 hw) (V_Y8_8_String hw) O.exa (R_8_8 hw G O A) D10_1 0 rfl).pv
    replace k := k |>.istoreN D10_4 sto3 |>.iloadN D10_5 rfl |>.iloadN D10_6 rfl |>.iloadN D10_7 rfl
    replace k := (k.callS (w_51 hw) (S11 hw) (R_11_1 hw G (by decide) (by decide) (by decide) (p1 := 4) (p2 := 4) (p3 := 4)) D10_8 0 rfl).p0
    replace k := k |>.iloadN D10_11 rfl |>.ifYes D10_12  |>.iloadN D10_22 rfl |>.iloadN D10_23 rfl |>.isub D10_24 (z := 0) |>.istore D10_25 sto4 |>.aloadN D10_27 rfl rfl
    replace k := (k.callV (w_78 hw) (V_Y23_23_String hw) O.exa (R_23_1 hw G O) D10_28 0 rfl).pv
    replace k := k |>.ifNo D10_31  |>.aloadN D10_34 rfl rfl |>.getF (fl_28 hw) O 0 D10_35 rfl rfl |>.iloadN D10_38 rfl |>.iload D10_39 rfl
    obtain ⟨_, vm4, h4, K4, R4, ⟨u1_4, u2_4, rfl, f4_0, f4_1⟩, k⟩ := (k.callSW (w_96 hw) (S30 hw) (R_30_2 hw G (by decide) (p2 := 4) (p3 := 0)) D10_41 0 rfl).kv
    have o5 : Ary Z h4 u2_4 ("", .byte) 0 (bv (lvi [])) := f4_1
    replace k := k |>.goto D10_44
    exact k.retA D10_57 rfl ⟨_, rfl, K4, u1_4, u2_4, rfl, ⟨trivial, Or.inl ⟨_, f4_0, o5, trivial⟩⟩⟩
  · exact absurd u0 x0
  · exact absurd u1 x1
  · exact absurd u2 x2
  · exact absurd u3 x3
  · exact hx.elim
theorem R_7_49 {a1 a2 : Addr} {p3 p4 p5 p6 : Int32} (hw : HW a0 Z) (G : Gl Z w_CS w_SF) (pr1 : Str Z h0 a1 a2 [p3, p4, p5, p6]) (pr2 : ¬ ((bl p3) = 0)) (pr3 : ¬ ((bl p4) = 0)) (pr4 : ¬ ((bl p5) = 0)) (pr5 : ¬ ((bl p6) = 0)) (pr6 : ¬ (255 < p3)) (pr7 : ¬ (255 < p4)) (pr8 : ¬ (255 < p5)) (pr9 : ¬ (255 < p6)) : Mt true consts_1 l Y7 C7 (rmk 5 2 4 66) #[.ref a1] Z a0 h0 n0 (KpV h0 [] fun v h => ∃ u1 u2 : Addr, v = (.ref u1) ∧ Str Z h u1 u2 []) := by
  refine Mt.go PN7 (Or.inl rfl) ef_R_3 fun k => ?_
  replace k := k |>.iconst D7_0 0 |>.istoreN D7_1 sto1 |>.aloadN D7_2 rfl rfl
  replace k := (k.callV (w_34 hw) (V_Y8_8_String hw) pr1.exa (R_len4 hw G pr1) D7_3 0 rfl).pv
  replace k := k |>.istoreN D7_6 sto2 |>.iloadN D7_7 rfl |>.iloadN D7_8 rfl |>.icmpNo D7_9  |>.aloadN D7_12 rfl rfl |>.iloadN D7_13 rfl
  replace k := (k.callV (w_73 hw) (V_Y22_22_String hw) pr1.exa (R_chr4_0 hw G pr1) D7_14 0 rfl).pv
  replace k := (k.callS (w_93 hw) (S2 hw) (R_own_isBlank hw G) D7_17 0 rfl).pv
  replace k := k |>.ifNo D7_20 ((if0 _ _).trans (feq pr2).1) |>.iinc D7_23 rfl (z := 1) (by decide) sto1 |>.goto D7_26 |>.iloadN D7_7 rfl |>.iloadN D7_8 rfl |>.icmpNo D7_9  |>.aloadN D7_12 rfl rfl |>.iloadN D7_13 rfl
  replace k := (k.callV (w_73 hw) (V_Y22_22_String hw) pr1.exa (R_chr4_1 hw G pr1) D7_14 0 rfl).pv
  replace k := (k.callS (w_93 hw) (S2 hw) (R_own_isBlank hw G) D7_17 0 rfl).pv
  replace k := k |>.ifNo D7_20 ((if0 _ _).trans (feq pr3).1) |>.iinc D7_23 rfl (z := 2) (by decide) sto1 |>.goto D7_26 |>.iloadN D7_7 rfl |>.iloadN D7_8 rfl |>.icmpNo D7_9  |>.aloadN D7_12 rfl rfl |>.iloadN D7_13 rfl
  replace k := (k.callV (w_73 hw) (V_Y22_22_String hw) pr1.exa (R_chr4_2 hw G pr1) D7_14 0 rfl).pv
  replace k := (k.callS (w_93 hw) (S2 hw) (R_own_isBlank hw G) D7_17 0 rfl).pv
  replace k := k |>.ifNo D7_20 ((if0 _ _).trans (feq pr4).1) |>.iinc D7_23 rfl (z := 3) (by decide) sto1 |>.goto D7_26 |>.iloadN D7_7 rfl |>.iloadN D7_8 rfl |>.icmpNo D7_9  |>.aloadN D7_12 rfl rfl |>.iloadN D7_13 rfl
  replace k := (k.callV (w_73 hw) (V_Y22_22_String hw) pr1.exa (R_chr4_3 hw G pr1) D7_14 0 rfl).pv
  replace k := (k.callS (w_93 hw) (S2 hw) (R_own_isBlank hw G) D7_17 0 rfl).pv
  replace k := k |>.ifNo D7_20 ((if0 _ _).trans (feq pr5).1) |>.iinc D7_23 rfl (z := 4) (by decide) sto1 |>.goto D7_26 |>.iloadN D7_7 rfl |>.iloadN D7_8 rfl |>.icmpYes D7_9  |>.iloadN D7_29 rfl |>.iloadN D7_30 rfl |>.icmpYes D7_31  |>.aloadN D7_53 rfl rfl |>.iloadN D7_54 rfl |>.iloadN D7_55 rfl
  obtain ⟨_, vm1, h1, K1, R1, ⟨u1, w1, rfl, S1⟩, k⟩ := (k.callVW (w_45 hw) (V_Y10_10_String hw) pr1.exa (R_sub4_4_4 hw G pr1 pr6 pr7 pr8 pr9) D7_56 0 rfl).kv
  exact k.retA D7_59 rfl ⟨_, rfl, K1, u1, w1, rfl, S1⟩
theorem own_d68 {p1 v0 v1 v2 : Int32} (e0 : v0 = (p1 &&& 2147483647)) (e1 : v1 = (v0 % 5)) (e2 : v2 = (v1 - v1)) (q0 : ¬ (v1 = 0)) (q1 : ¬ (v1 = 1)) (q2 : ¬ (v1 = 2)) (q3 : ¬ (v1 = 3)) : 0 = v2 := by
  have := rng32 p1
  have : (2147483647 : Int32).toInt = 2147483647 := by decide
  have := e_mask e0 31 2147483648
  have : (5 : Int32).toInt = 5 := by decide
  have := e_iremN e1 5 (by omega)
  have : (0 : Int32).toInt = 0 := by decide
  have := i_neq q0
  have : (1 : Int32).toInt = 1 := by decide
  have := i_neq q1
  have : (2 : Int32).toInt = 2 := by decide
  have := i_neq q2
  have : (3 : Int32).toInt = 3 := by decide
  have := i_neq q3
  have := e_isubN e2 (by omega)
  exact o_eq (by omega)
theorem PN3 : plainFor Y3 = true := plainFor_of_name pn_TextInputStripPinLaw
theorem ef_IIIII_maxLocals {x0 : Int32} {x1 : Int32} {x2 : Int32} {x3 : Int32} {x4 : Int32}  (m : MethodId) : entryFrame m #[(.int x0), (.int x1), (.int x2), (.int x3), (.int x4)] maxLocals = mkF m 0 #[.val (.int x0), .val (.int x1), .val (.int x2), .val (.int x3), .val (.int x4), .unset, .unset, .unset, .unset, .unset, .unset, .unset, .unset, .unset, .unset] [] := by
  first | (simp [entryFrame, mkF, argsToLocals, Value.category, maxLocals]; done) | rfl
theorem R_law {p1 p2 p3 p4 p5 : Int32} (hw : HW a0 Z) (G : Gl Z w_CS w_SF) : Mt true consts_1 l Y3 C3 room_1 #[.int p1, .int p2, .int p3, .int p4, .int p5] Z a0 h0 n0 (fun v _ => v = some (.int 1)) := by
  refine Mt.go PN3 (Or.inl rfl) ef_IIIII_maxLocals fun k => ?_
  have nz := k.n0le
  replace k := k |>.iloadN D3_0 rfl |>.ldcI (w_0 hw) D3_1 |>.iand D3_3 rfl |>.iconst D3_4 5 |>.irem D3_5 (by decide) rfl |>.istore D3_6 sto5 |>.iconst D3_8 4
  have cv2 := k.chv
  have z1 := k.sz
  obtain ⟨b1, h1, g1, K1, O1, k⟩ := k.newP (aty := .char) "[C" (w_1 hw) (by decide) D3_9 4 (by decide) (n := 4) (by decide) (by decide) (by decide) (bi_const (L := [0, 0, 0, 0]) rfl)
  replace k := k |>.dup D3_11 rfl |>.iconst D3_12 0 |>.iloadN D3_13 rfl
  replace k := (k.callS (w_2 hw) (S0 hw) (R_own_draw hw G) D3_14 3 rfl).pv
  have s_b1 := Nat.le_trans z1 g1
  have n_b1 := Nat.le_trans nz s_b1
  have sf3 := (Safe.new g1).keep K1 all0 cv2
  have cv4 := k.chv
  obtain ⟨h5, K5, O5, k⟩ := k.stC O1 n_b1 (Or.inr sf3) D3_17 (i := 0) (by decide) (v := (.int (nar .char (drw p2)))) rfl (fits_nar_char _) bis0
  replace k := k |>.dup D3_18 rfl |>.iconst D3_19 1 |>.iloadN D3_20 rfl
  replace k := (k.callS (w_2 hw) (S0 hw) (R_own_draw hw G) D3_21 3 rfl).pv
  have sf6 := sf3.keep K5 (allS sf3 all0) cv4
  have cv7 := k.chv
  obtain ⟨h8, K8, O8, k⟩ := k.stC O5 n_b1 (Or.inr sf6) D3_24 (i := 1) (by decide) (v := (.int (nar .char (drw p3)))) rfl (fits_nar_char _) bis1
  replace k := k |>.dup D3_25 rfl |>.iconst D3_26 2 |>.iloadN D3_27 rfl
  replace k := (k.callS (w_2 hw) (S0 hw) (R_own_draw hw G) D3_28 3 rfl).pv
  have sf9 := sf6.keep K8 (allS sf6 all0) cv7
  have cv10 := k.chv
  obtain ⟨h11, K11, O11, k⟩ := k.stC O8 n_b1 (Or.inr sf9) D3_31 (i := 2) (by decide) (v := (.int (nar .char (drw p4)))) rfl (fits_nar_char _) bis2
  replace k := k |>.dup D3_32 rfl |>.iconst D3_33 3 |>.iload D3_34 rfl
  replace k := (k.callS (w_2 hw) (S0 hw) (R_own_draw hw G) D3_36 3 rfl).pv
  have sf12 := sf9.keep K11 (allS sf9 all0) cv10
  obtain ⟨h14, K14, O14, k⟩ := k.stC O11 n_b1 (Or.inr sf12) D3_39 (i := 3) (by decide) (v := (.int (nar .char (drw p5)))) rfl (fits_nar_char _) bis3
  replace k := k |>.astore D3_40 rfl sto6
  have cv16 := k.chv
  have z15 := k.sz
  obtain ⟨b15, h15, g15, K15, O15, k⟩ := k.new (L := L_String) (w_6 hw) (nw_String hw) D3_42 (by decide) dvL_String
  replace k := k |>.dup D3_45 rfl |>.aload D3_46 rfl rfl |>.iload D3_48 rfl
  by_cases hs17 : ((p1 &&& 2147483647) % 5) = 0
  · have cv19 := k.chv
    obtain ⟨_, h18, K18, ⟨u1_18, rfl, f18_0, f18_1⟩, k⟩ := (k.callS (w_9 hw) (S4 hw) (R_4_2 hw G hs17) D3_50 2 rfl).kv all0 (Or.inr all0)
    have o20 := O15.keep K18 nin0
    have s_b15 := Nat.le_trans z15 g15
    have n_b15 := Nat.le_trans nz s_b15
    obtain ⟨vm21, h21, K21, R21, ⟨w21, S21⟩, k⟩ := (k.callIW (w_12 hw) (I5 hw) (R_newS0 hw G o20 f18_1 n_b15) D3_53 1 rfl).k0 (allS n_b15 all0)
    replace k := k |>.astore D3_56 rfl sto7 |>.aload D3_58 rfl rfl
    obtain ⟨_, h22, K22, ⟨u1_22, u2_22, rfl, f22_0⟩, k⟩ := (k.callS (w_30 hw) (S7 hw) (R_7_1 hw G S21) D3_60 0 rfl).kv all0 (Or.inr all0)
    replace k := k |>.astore D3_63 rfl sto8 |>.iconst D3_65 0 |>.iload D3_66 rfl |>.icmpYes D3_68 (flt (own_d1 rfl rfl hs17)).2.1 |>.iconst D3_85 0 |>.istore D3_86 sto9 |>.iconst D3_88 1 |>.iload D3_89 rfl |>.icmpYes D3_91 (flt (own_d2 rfl rfl hs17)).2.1 |>.iconst D3_108 0 |>.istore D3_109 sto10 |>.iconst D3_111 2
    replace k := k |>.iload D3_112 rfl |>.icmpYes D3_114 (flt (own_d3 rfl rfl hs17)).2.1 |>.iconst D3_131 0 |>.istore D3_132 sto11 |>.iconst D3_134 3 |>.iload D3_135 rfl |>.icmpYes D3_137 (flt (own_d4 rfl rfl hs17)).2.1 |>.iconst D3_154 0 |>.istore D3_155 sto12 |>.iload D3_157 rfl |>.ifYes D3_159  |>.iload D3_166 rfl
    replace k := k |>.ifYes D3_168  |>.iload D3_175 rfl |>.ifYes D3_177  |>.iload D3_184 rfl |>.ifYes D3_186  |>.iload D3_193 rfl |>.istore D3_195 sto13 |>.iload D3_197 rfl |>.ifYes D3_199  |>.iload D3_206 rfl |>.ifYes D3_208  |>.iload D3_215 rfl
    replace k := k |>.ifYes D3_217  |>.iload D3_224 rfl |>.ifYes D3_226  |>.iload D3_233 rfl |>.istore D3_235 sto14 |>.aload D3_237 rfl rfl
    replace k := (k.callV (w_59 hw) (V_Y8_8_String hw) f22_0.exa (R_len0 hw G f22_0) D3_239 0 rfl).pv
    replace k := k |>.iload D3_242 rfl |>.iload D3_244 rfl |>.isub D3_246 rfl |>.icmpYes D3_247 (teq (own_d5 rfl rfl rfl hs17)).1 |>.aload D3_252 rfl rfl |>.iconst D3_254 0 |>.aload D3_255 rfl rfl |>.iload D3_257 rfl
    replace k := (k.callS (w_60 hw) (S13 hw) (R_13_1 hw G f22_0) D3_259 0 rfl).pv
    replace k := k |>.ifNo D3_262  |>.aload D3_265 rfl rfl |>.iconst D3_267 1 |>.aload D3_268 rfl rfl |>.iload D3_270 rfl
    replace k := (k.callS (w_60 hw) (S13 hw) (R_13_2 hw G f22_0) D3_272 0 rfl).pv
    replace k := k |>.ifNo D3_275  |>.aload D3_278 rfl rfl |>.iconst D3_280 2 |>.aload D3_281 rfl rfl |>.iload D3_283 rfl
    replace k := (k.callS (w_60 hw) (S13 hw) (R_13_3 hw G f22_0) D3_285 0 rfl).pv
    replace k := k |>.ifNo D3_288  |>.aload D3_291 rfl rfl |>.iconst D3_293 3 |>.aload D3_294 rfl rfl |>.iload D3_296 rfl
    replace k := (k.callS (w_60 hw) (S13 hw) (R_13_4 hw G f22_0) D3_298 0 rfl).pv
    replace k := k |>.ifNo D3_301  |>.iconst D3_304 1 |>.goto D3_305
    exact k.retN (t := .boolean) D3_309 rfl (by simp) (z' := 1) (by decide) rfl
  · by_cases hs28 : ((p1 &&& 2147483647) % 5) = 1
    · have o30 := O14.keep K15 nin0
      have cv31 := k.chv
      obtain ⟨_, h29, K29, ⟨u1_29, rfl, f29_0, f29_1⟩, k⟩ := (k.callS (w_9 hw) (S4 hw) (R_4_4 hw G hs17 hs28 o30) D3_50 2 rfl).kv all0 (Or.inr all0)
      have o32 := O15.keep K29 nin0
      have s_b15 := Nat.le_trans z15 g15
      have n_b15 := Nat.le_trans nz s_b15
      have sf33 := ((Safe.new g15).keep K15 all0 cv16).keep K29 all0 cv31
      obtain ⟨h34, K34, ⟨w34, S34⟩, k⟩ := (k.callI (w_12 hw) (I5 hw) (R_newS1 hw G o32 f29_1 n_b15 (own_d7 rfl rfl rfl ) (own_d8 rfl rfl rfl )) D3_53 1 rfl).k0 (allS n_b15 all0) (Or.inr (allS sf33 all0))
      replace k := k |>.astore D3_56 rfl sto7 |>.aload D3_58 rfl rfl
      by_cases hs36 : (bl (nar .char (nar .char (drw p2)))) = 0
      · have cv38 := k.chv
        obtain ⟨_, h37, K37, ⟨u1_37, u2_37, rfl, f37_0⟩, k⟩ := (k.callS (w_30 hw) (S7 hw) (R_7_3 hw G S34 hs36) D3_60 0 rfl).kv all0 (Or.inr all0)
        replace k := k |>.astore D3_63 rfl sto8 |>.iconst D3_65 0 |>.iload D3_66 rfl |>.icmpNo D3_68 (tlt (own_d11 rfl rfl hs17 hs28)).2.1 |>.aload D3_71 rfl rfl |>.iconst D3_73 0
        have o39 := ((o30.keep K29 nin0).keep K34 (ninS (nlt O14.lt g15) nin0)).keep K37 nin0
        replace k := k |>.cald o39 D3_74 (i := 0) (by decide) big0
        replace k := (k.callS (w_100 hw) (S1 hw) (R_own_blank hw G) D3_75 0 rfl).pv
        replace k := k |>.ifNo D3_78 ((if0 _ _).trans (teq (own_d12 rfl rfl rfl rfl rfl hs36)).2) |>.iconst D3_81 1 |>.goto D3_82 |>.istore D3_86 sto9 |>.iconst D3_88 1 |>.iload D3_89 rfl |>.icmpYes D3_91 (flt (own_d13 rfl rfl hs17 hs28)).2.1 |>.iconst D3_108 0 |>.istore D3_109 sto10 |>.iconst D3_111 2 |>.iload D3_112 rfl |>.icmpYes D3_114 (flt (own_d14 rfl rfl hs17 hs28)).2.1
        replace k := k |>.iconst D3_131 0 |>.istore D3_132 sto11 |>.iconst D3_134 3 |>.iload D3_135 rfl |>.icmpYes D3_137 (flt (own_d15 rfl rfl hs17 hs28)).2.1 |>.iconst D3_154 0 |>.istore D3_155 sto12 |>.iload D3_157 rfl |>.ifNo D3_159  |>.iconst D3_162 0 |>.goto D3_163 |>.istore D3_195 sto13
        replace k := k |>.iload D3_197 rfl |>.ifYes D3_199  |>.iload D3_206 rfl |>.ifYes D3_208  |>.iload D3_215 rfl |>.ifYes D3_217  |>.iload D3_224 rfl |>.ifNo D3_226  |>.iconst D3_229 1 |>.goto D3_230 |>.istore D3_235 sto14 |>.aload D3_237 rfl rfl
        replace k := (k.callV (w_59 hw) (V_Y8_8_String hw) f37_0.exa (R_len1 hw G f37_0) D3_239 0 rfl).pv
        replace k := k |>.iload D3_242 rfl |>.iload D3_244 rfl |>.isub D3_246 (z := 1) |>.icmpYes D3_247  |>.aload D3_252 rfl rfl |>.iconst D3_254 0 |>.aload D3_255 rfl rfl |>.iload D3_257 rfl
        replace k := (k.callS (w_60 hw) (S13 hw) (R_13_5 hw G f37_0 o39 (own_d16 rfl rfl rfl rfl hs36)) D3_259 0 rfl).pv
        replace k := k |>.ifNo D3_262  |>.aload D3_265 rfl rfl |>.iconst D3_267 1 |>.aload D3_268 rfl rfl |>.iload D3_270 rfl
        replace k := (k.callS (w_60 hw) (S13 hw) (R_13_6 hw G f37_0) D3_272 0 rfl).pv
        replace k := k |>.ifNo D3_275  |>.aload D3_278 rfl rfl |>.iconst D3_280 2 |>.aload D3_281 rfl rfl |>.iload D3_283 rfl
        replace k := (k.callS (w_60 hw) (S13 hw) (R_13_7 hw G f37_0) D3_285 0 rfl).pv
        replace k := k |>.ifNo D3_288  |>.aload D3_291 rfl rfl |>.iconst D3_293 3 |>.aload D3_294 rfl rfl |>.iload D3_296 rfl
        replace k := (k.callS (w_60 hw) (S13 hw) (R_13_8 hw G f37_0) D3_298 0 rfl).pv
        replace k := k |>.ifNo D3_301  |>.iconst D3_304 1 |>.goto D3_305
        exact k.retN (t := .boolean) D3_309 rfl (by simp) (z' := 1) (by decide) rfl
      · have z44 := k.sz
        obtain ⟨_, vm44, h44, K44, R44, ⟨u1_44, u2_44, rfl, f44_0⟩, k⟩ := (k.callSW (w_30 hw) (S7 hw) (R_7_5 hw G S34 hs36 (own_d17 rfl rfl rfl rfl hs36)) D3_60 0 rfl).kv
        replace k := k |>.astore D3_63 rfl sto8 |>.iconst D3_65 0 |>.iload D3_66 rfl |>.icmpNo D3_68 (tlt (own_d11 rfl rfl hs17 hs28)).2.1 |>.aload D3_71 rfl rfl |>.iconst D3_73 0
        have o45 := ((o30.keep K29 nin0).keep K34 (ninS (nlt O14.lt g15) nin0)).keep K44 nin0
        replace k := k |>.cald o45 D3_74 (i := 0) (by decide) big0
        replace k := (k.callS (w_100 hw) (S1 hw) (R_own_blank hw G) D3_75 0 rfl).pv
        replace k := k |>.ifYes D3_78 ((if0 _ _).trans (feq (own_d18 rfl rfl rfl rfl rfl hs36)).2) |>.iconst D3_85 0 |>.istore D3_86 sto9 |>.iconst D3_88 1 |>.iload D3_89 rfl |>.icmpYes D3_91 (flt (own_d13 rfl rfl hs17 hs28)).2.1 |>.iconst D3_108 0 |>.istore D3_109 sto10 |>.iconst D3_111 2 |>.iload D3_112 rfl |>.icmpYes D3_114 (flt (own_d14 rfl rfl hs17 hs28)).2.1 |>.iconst D3_131 0
        replace k := k |>.istore D3_132 sto11 |>.iconst D3_134 3 |>.iload D3_135 rfl |>.icmpYes D3_137 (flt (own_d15 rfl rfl hs17 hs28)).2.1 |>.iconst D3_154 0 |>.istore D3_155 sto12 |>.iload D3_157 rfl |>.ifYes D3_159  |>.iload D3_166 rfl |>.ifYes D3_168  |>.iload D3_175 rfl |>.ifYes D3_177 
        replace k := k |>.iload D3_184 rfl |>.ifYes D3_186  |>.iload D3_193 rfl |>.istore D3_195 sto13 |>.iload D3_197 rfl |>.ifYes D3_199  |>.iload D3_206 rfl |>.ifYes D3_208  |>.iload D3_215 rfl |>.ifYes D3_217  |>.iload D3_224 rfl |>.ifYes D3_226 
        replace k := k |>.iload D3_233 rfl |>.istore D3_235 sto14 |>.aload D3_237 rfl rfl
        replace k := (k.callV (w_59 hw) (V_Y8_8_String hw) f44_0.exa (R_len0 hw G f44_0) D3_239 0 rfl).pv
        replace k := k |>.iload D3_242 rfl |>.iload D3_244 rfl |>.isub D3_246 rfl |>.icmpYes D3_247 (teq (own_d19 rfl rfl rfl hs17 hs28)).1 |>.aload D3_252 rfl rfl |>.iconst D3_254 0 |>.aload D3_255 rfl rfl |>.iload D3_257 rfl
        replace k := (k.callS (w_60 hw) (S13 hw) (R_13_1 hw G f44_0) D3_259 0 rfl).pv
        replace k := k |>.ifNo D3_262  |>.aload D3_265 rfl rfl |>.iconst D3_267 1 |>.aload D3_268 rfl rfl |>.iload D3_270 rfl
        replace k := (k.callS (w_60 hw) (S13 hw) (R_13_2 hw G f44_0) D3_272 0 rfl).pv
        replace k := k |>.ifNo D3_275  |>.aload D3_278 rfl rfl |>.iconst D3_280 2 |>.aload D3_281 rfl rfl |>.iload D3_283 rfl
        replace k := (k.callS (w_60 hw) (S13 hw) (R_13_3 hw G f44_0) D3_285 0 rfl).pv
        replace k := k |>.ifNo D3_288  |>.aload D3_291 rfl rfl |>.iconst D3_293 3 |>.aload D3_294 rfl rfl |>.iload D3_296 rfl
        replace k := (k.callS (w_60 hw) (S13 hw) (R_13_4 hw G f44_0) D3_298 0 rfl).pv
        replace k := k |>.ifNo D3_301  |>.iconst D3_304 1 |>.goto D3_305
        exact k.retN (t := .boolean) D3_309 rfl (by simp) (z' := 1) (by decide) rfl
    · by_cases hs50 : ((p1 &&& 2147483647) % 5) = 2
      · have o52 := O14.keep K15 nin0
        have cv53 := k.chv
        obtain ⟨_, h51, K51, ⟨u1_51, rfl, f51_0, f51_1⟩, k⟩ := (k.callS (w_9 hw) (S4 hw) (R_4_6 hw G hs17 hs28 hs50 o52) D3_50 2 rfl).kv all0 (Or.inr all0)
        have o54 := O15.keep K51 nin0
        have s_b15 := Nat.le_trans z15 g15
        have n_b15 := Nat.le_trans nz s_b15
        have sf55 := ((Safe.new g15).keep K15 all0 cv16).keep K51 all0 cv53
        obtain ⟨h56, K56, ⟨w56, S56⟩, k⟩ := (k.callI (w_12 hw) (I5 hw) (R_newS2 hw G o54 f51_1 n_b15 (own_d7 rfl rfl rfl ) (own_d8 rfl rfl rfl ) (own_d21 rfl rfl rfl ) (own_d22 rfl rfl rfl )) D3_53 1 rfl).k0 (allS n_b15 all0) (Or.inr (allS sf55 all0))
        replace k := k |>.astore D3_56 rfl sto7 |>.aload D3_58 rfl rfl
        by_cases hs58 : (bl (nar .char (nar .char (drw p2)))) = 0
        · by_cases hs59 : (bl (nar .char (nar .char (drw p3)))) = 0
          · have cv61 := k.chv
            obtain ⟨_, h60, K60, ⟨u1_60, u2_60, rfl, f60_0⟩, k⟩ := (k.callS (w_30 hw) (S7 hw) (R_7_8 hw G S56 hs58 hs59) D3_60 0 rfl).kv all0 (Or.inr all0)
            replace k := k |>.astore D3_63 rfl sto8 |>.iconst D3_65 0 |>.iload D3_66 rfl |>.icmpNo D3_68 (tlt (own_d25 rfl rfl hs17 hs28 hs50)).2.1 |>.aload D3_71 rfl rfl |>.iconst D3_73 0
            have o62 := ((o52.keep K51 nin0).keep K56 (ninS (nlt O14.lt g15) nin0)).keep K60 nin0
            replace k := k |>.cald o62 D3_74 (i := 0) (by decide) big0
            replace k := (k.callS (w_100 hw) (S1 hw) (R_own_blank hw G) D3_75 0 rfl).pv
            replace k := k |>.ifNo D3_78 ((if0 _ _).trans (teq (own_d12 rfl rfl rfl rfl rfl hs58)).2) |>.iconst D3_81 1 |>.goto D3_82 |>.istore D3_86 sto9 |>.iconst D3_88 1 |>.iload D3_89 rfl |>.icmpNo D3_91 (tlt (own_d26 rfl rfl hs17 hs28 hs50)).2.1 |>.aload D3_94 rfl rfl |>.iconst D3_96 1 |>.cald o62 D3_97 (i := 1) (by decide) big1
            replace k := (k.callS (w_100 hw) (S1 hw) (R_own_blank hw G) D3_98 0 rfl).pv
            replace k := k |>.ifNo D3_101 ((if0 _ _).trans (teq (own_d27 rfl rfl rfl rfl rfl hs59)).2) |>.iconst D3_104 1 |>.goto D3_105 |>.istore D3_109 sto10 |>.iconst D3_111 2 |>.iload D3_112 rfl |>.icmpYes D3_114 (flt (own_d28 rfl rfl hs17 hs28 hs50)).2.1 |>.iconst D3_131 0 |>.istore D3_132 sto11 |>.iconst D3_134 3 |>.iload D3_135 rfl |>.icmpYes D3_137 (flt (own_d29 rfl rfl hs17 hs28 hs50)).2.1
            replace k := k |>.iconst D3_154 0 |>.istore D3_155 sto12 |>.iload D3_157 rfl |>.ifNo D3_159  |>.iconst D3_162 0 |>.goto D3_163 |>.istore D3_195 sto13 |>.iload D3_197 rfl |>.ifYes D3_199  |>.iload D3_206 rfl |>.ifYes D3_208  |>.iload D3_215 rfl
            replace k := k |>.ifNo D3_217  |>.iconst D3_220 2 |>.goto D3_221 |>.istore D3_235 sto14 |>.aload D3_237 rfl rfl
            replace k := (k.callV (w_59 hw) (V_Y8_8_String hw) f60_0.exa (R_len2 hw G f60_0) D3_239 0 rfl).pv
            replace k := k |>.iload D3_242 rfl |>.iload D3_244 rfl |>.isub D3_246 (z := 2) |>.icmpYes D3_247  |>.aload D3_252 rfl rfl |>.iconst D3_254 0 |>.aload D3_255 rfl rfl |>.iload D3_257 rfl
            replace k := (k.callS (w_60 hw) (S13 hw) (R_13_9 hw G f60_0 o62 (own_d16 rfl rfl rfl rfl hs58)) D3_259 0 rfl).pv
            replace k := k |>.ifNo D3_262  |>.aload D3_265 rfl rfl |>.iconst D3_267 1 |>.aload D3_268 rfl rfl |>.iload D3_270 rfl
            replace k := (k.callS (w_60 hw) (S13 hw) (R_13_10 hw G f60_0 o62 (own_d30 rfl rfl rfl rfl hs59)) D3_272 0 rfl).pv
            replace k := k |>.ifNo D3_275  |>.aload D3_278 rfl rfl |>.iconst D3_280 2 |>.aload D3_281 rfl rfl |>.iload D3_283 rfl
            replace k := (k.callS (w_60 hw) (S13 hw) (R_13_11 hw G f60_0) D3_285 0 rfl).pv
            replace k := k |>.ifNo D3_288  |>.aload D3_291 rfl rfl |>.iconst D3_293 3 |>.aload D3_294 rfl rfl |>.iload D3_296 rfl
            replace k := (k.callS (w_60 hw) (S13 hw) (R_13_12 hw G f60_0) D3_298 0 rfl).pv
            replace k := k |>.ifNo D3_301  |>.iconst D3_304 1 |>.goto D3_305
            exact k.retN (t := .boolean) D3_309 rfl (by simp) (z' := 1) (by decide) rfl
          · have cv68 := k.chv
            obtain ⟨_, h67, K67, ⟨u1_67, u2_67, rfl, f67_0⟩, k⟩ := (k.callS (w_30 hw) (S7 hw) (R_7_9 hw G S56 hs58 hs59 (own_d31 rfl rfl rfl rfl hs59)) D3_60 0 rfl).kv all0 (Or.inr all0)
            replace k := k |>.astore D3_63 rfl sto8 |>.iconst D3_65 0 |>.iload D3_66 rfl |>.icmpNo D3_68 (tlt (own_d25 rfl rfl hs17 hs28 hs50)).2.1 |>.aload D3_71 rfl rfl |>.iconst D3_73 0
            have o69 := ((o52.keep K51 nin0).keep K56 (ninS (nlt O14.lt g15) nin0)).keep K67 nin0
            replace k := k |>.cald o69 D3_74 (i := 0) (by decide) big0
            replace k := (k.callS (w_100 hw) (S1 hw) (R_own_blank hw G) D3_75 0 rfl).pv
            replace k := k |>.ifNo D3_78 ((if0 _ _).trans (teq (own_d12 rfl rfl rfl rfl rfl hs58)).2) |>.iconst D3_81 1 |>.goto D3_82 |>.istore D3_86 sto9 |>.iconst D3_88 1 |>.iload D3_89 rfl |>.icmpNo D3_91 (tlt (own_d26 rfl rfl hs17 hs28 hs50)).2.1 |>.aload D3_94 rfl rfl |>.iconst D3_96 1 |>.cald o69 D3_97 (i := 1) (by decide) big1
            replace k := (k.callS (w_100 hw) (S1 hw) (R_own_blank hw G) D3_98 0 rfl).pv
            replace k := k |>.ifYes D3_101 ((if0 _ _).trans (feq (own_d32 rfl rfl rfl rfl rfl hs59)).2) |>.iconst D3_108 0 |>.istore D3_109 sto10 |>.iconst D3_111 2 |>.iload D3_112 rfl |>.icmpYes D3_114 (flt (own_d28 rfl rfl hs17 hs28 hs50)).2.1 |>.iconst D3_131 0 |>.istore D3_132 sto11 |>.iconst D3_134 3 |>.iload D3_135 rfl |>.icmpYes D3_137 (flt (own_d29 rfl rfl hs17 hs28 hs50)).2.1 |>.iconst D3_154 0
            replace k := k |>.istore D3_155 sto12 |>.iload D3_157 rfl |>.ifNo D3_159  |>.iconst D3_162 0 |>.goto D3_163 |>.istore D3_195 sto13 |>.iload D3_197 rfl |>.ifYes D3_199  |>.iload D3_206 rfl |>.ifYes D3_208  |>.iload D3_215 rfl |>.ifYes D3_217 
            replace k := k |>.iload D3_224 rfl |>.ifNo D3_226  |>.iconst D3_229 1 |>.goto D3_230 |>.istore D3_235 sto14 |>.aload D3_237 rfl rfl
            replace k := (k.callV (w_59 hw) (V_Y8_8_String hw) f67_0.exa (R_len1 hw G f67_0) D3_239 0 rfl).pv
            replace k := k |>.iload D3_242 rfl |>.iload D3_244 rfl |>.isub D3_246 (z := 1) |>.icmpYes D3_247  |>.aload D3_252 rfl rfl |>.iconst D3_254 0 |>.aload D3_255 rfl rfl |>.iload D3_257 rfl
            replace k := (k.callS (w_60 hw) (S13 hw) (R_13_5 hw G f67_0 o69 (own_d16 rfl rfl rfl rfl hs58)) D3_259 0 rfl).pv
            replace k := k |>.ifNo D3_262  |>.aload D3_265 rfl rfl |>.iconst D3_267 1 |>.aload D3_268 rfl rfl |>.iload D3_270 rfl
            replace k := (k.callS (w_60 hw) (S13 hw) (R_13_6 hw G f67_0) D3_272 0 rfl).pv
            replace k := k |>.ifNo D3_275  |>.aload D3_278 rfl rfl |>.iconst D3_280 2 |>.aload D3_281 rfl rfl |>.iload D3_283 rfl
            replace k := (k.callS (w_60 hw) (S13 hw) (R_13_7 hw G f67_0) D3_285 0 rfl).pv
            replace k := k |>.ifNo D3_288  |>.aload D3_291 rfl rfl |>.iconst D3_293 3 |>.aload D3_294 rfl rfl |>.iload D3_296 rfl
            replace k := (k.callS (w_60 hw) (S13 hw) (R_13_8 hw G f67_0) D3_298 0 rfl).pv
            replace k := k |>.ifNo D3_301  |>.iconst D3_304 1 |>.goto D3_305
            exact k.retN (t := .boolean) D3_309 rfl (by simp) (z' := 1) (by decide) rfl
        · by_cases hs74 : (bl (nar .char (nar .char (drw p3)))) = 0
          · have cv76 := k.chv
            obtain ⟨_, h75, K75, ⟨u1_75, u2_75, rfl, f75_0⟩, k⟩ := (k.callS (w_30 hw) (S7 hw) (R_7_11 hw G S56 hs58 hs74 (own_d17 rfl rfl rfl rfl hs58)) D3_60 0 rfl).kv all0 (Or.inr all0)
            replace k := k |>.astore D3_63 rfl sto8 |>.iconst D3_65 0 |>.iload D3_66 rfl |>.icmpNo D3_68 (tlt (own_d25 rfl rfl hs17 hs28 hs50)).2.1 |>.aload D3_71 rfl rfl |>.iconst D3_73 0
            have o77 := ((o52.keep K51 nin0).keep K56 (ninS (nlt O14.lt g15) nin0)).keep K75 nin0
            replace k := k |>.cald o77 D3_74 (i := 0) (by decide) big0
            replace k := (k.callS (w_100 hw) (S1 hw) (R_own_blank hw G) D3_75 0 rfl).pv
            replace k := k |>.ifYes D3_78 ((if0 _ _).trans (feq (own_d18 rfl rfl rfl rfl rfl hs58)).2) |>.iconst D3_85 0 |>.istore D3_86 sto9 |>.iconst D3_88 1 |>.iload D3_89 rfl |>.icmpNo D3_91 (tlt (own_d26 rfl rfl hs17 hs28 hs50)).2.1 |>.aload D3_94 rfl rfl |>.iconst D3_96 1 |>.cald o77 D3_97 (i := 1) (by decide) big1
            replace k := (k.callS (w_100 hw) (S1 hw) (R_own_blank hw G) D3_98 0 rfl).pv
            replace k := k |>.ifNo D3_101 ((if0 _ _).trans (teq (own_d27 rfl rfl rfl rfl rfl hs74)).2) |>.iconst D3_104 1 |>.goto D3_105 |>.istore D3_109 sto10 |>.iconst D3_111 2 |>.iload D3_112 rfl |>.icmpYes D3_114 (flt (own_d28 rfl rfl hs17 hs28 hs50)).2.1 |>.iconst D3_131 0 |>.istore D3_132 sto11 |>.iconst D3_134 3 |>.iload D3_135 rfl |>.icmpYes D3_137 (flt (own_d29 rfl rfl hs17 hs28 hs50)).2.1
            replace k := k |>.iconst D3_154 0 |>.istore D3_155 sto12 |>.iload D3_157 rfl |>.ifYes D3_159  |>.iload D3_166 rfl |>.ifNo D3_168  |>.iconst D3_171 1 |>.goto D3_172 |>.istore D3_195 sto13 |>.iload D3_197 rfl |>.ifYes D3_199  |>.iload D3_206 rfl
            replace k := k |>.ifYes D3_208  |>.iload D3_215 rfl |>.ifNo D3_217  |>.iconst D3_220 2 |>.goto D3_221 |>.istore D3_235 sto14 |>.aload D3_237 rfl rfl
            replace k := (k.callV (w_59 hw) (V_Y8_8_String hw) f75_0.exa (R_len1 hw G f75_0) D3_239 0 rfl).pv
            replace k := k |>.iload D3_242 rfl |>.iload D3_244 rfl |>.isub D3_246 (z := 1) |>.icmpYes D3_247  |>.aload D3_252 rfl rfl |>.iconst D3_254 0 |>.aload D3_255 rfl rfl |>.iload D3_257 rfl
            replace k := (k.callS (w_60 hw) (S13 hw) (R_13_13 hw G f75_0 o77 (own_d30 rfl rfl rfl rfl hs74)) D3_259 0 rfl).pv
            replace k := k |>.ifNo D3_262  |>.aload D3_265 rfl rfl |>.iconst D3_267 1 |>.aload D3_268 rfl rfl |>.iload D3_270 rfl
            replace k := (k.callS (w_60 hw) (S13 hw) (R_13_14 hw G f75_0) D3_272 0 rfl).pv
            replace k := k |>.ifNo D3_275  |>.aload D3_278 rfl rfl |>.iconst D3_280 2 |>.aload D3_281 rfl rfl |>.iload D3_283 rfl
            replace k := (k.callS (w_60 hw) (S13 hw) (R_13_15 hw G f75_0) D3_285 0 rfl).pv
            replace k := k |>.ifNo D3_288  |>.aload D3_291 rfl rfl |>.iconst D3_293 3 |>.aload D3_294 rfl rfl |>.iload D3_296 rfl
            replace k := (k.callS (w_60 hw) (S13 hw) (R_13_16 hw G f75_0) D3_298 0 rfl).pv
            replace k := k |>.ifNo D3_301  |>.iconst D3_304 1 |>.goto D3_305
            exact k.retN (t := .boolean) D3_309 rfl (by simp) (z' := 1) (by decide) rfl
          · have z82 := k.sz
            obtain ⟨_, vm82, h82, K82, R82, ⟨u1_82, u2_82, rfl, f82_0⟩, k⟩ := (k.callSW (w_30 hw) (S7 hw) (R_7_13 hw G S56 hs58 hs74 (own_d17 rfl rfl rfl rfl hs58) (own_d31 rfl rfl rfl rfl hs74)) D3_60 0 rfl).kv
            replace k := k |>.astore D3_63 rfl sto8 |>.iconst D3_65 0 |>.iload D3_66 rfl |>.icmpNo D3_68 (tlt (own_d25 rfl rfl hs17 hs28 hs50)).2.1 |>.aload D3_71 rfl rfl |>.iconst D3_73 0
            have o83 := ((o52.keep K51 nin0).keep K56 (ninS (nlt O14.lt g15) nin0)).keep K82 nin0
            replace k := k |>.cald o83 D3_74 (i := 0) (by decide) big0
            replace k := (k.callS (w_100 hw) (S1 hw) (R_own_blank hw G) D3_75 0 rfl).pv
            replace k := k |>.ifYes D3_78 ((if0 _ _).trans (feq (own_d18 rfl rfl rfl rfl rfl hs58)).2) |>.iconst D3_85 0 |>.istore D3_86 sto9 |>.iconst D3_88 1 |>.iload D3_89 rfl |>.icmpNo D3_91 (tlt (own_d26 rfl rfl hs17 hs28 hs50)).2.1 |>.aload D3_94 rfl rfl |>.iconst D3_96 1 |>.cald o83 D3_97 (i := 1) (by decide) big1
            replace k := (k.callS (w_100 hw) (S1 hw) (R_own_blank hw G) D3_98 0 rfl).pv
            replace k := k |>.ifYes D3_101 ((if0 _ _).trans (feq (own_d32 rfl rfl rfl rfl rfl hs74)).2) |>.iconst D3_108 0 |>.istore D3_109 sto10 |>.iconst D3_111 2 |>.iload D3_112 rfl |>.icmpYes D3_114 (flt (own_d28 rfl rfl hs17 hs28 hs50)).2.1 |>.iconst D3_131 0 |>.istore D3_132 sto11 |>.iconst D3_134 3 |>.iload D3_135 rfl |>.icmpYes D3_137 (flt (own_d29 rfl rfl hs17 hs28 hs50)).2.1 |>.iconst D3_154 0
            replace k := k |>.istore D3_155 sto12 |>.iload D3_157 rfl |>.ifYes D3_159  |>.iload D3_166 rfl |>.ifYes D3_168  |>.iload D3_175 rfl |>.ifYes D3_177  |>.iload D3_184 rfl |>.ifYes D3_186  |>.iload D3_193 rfl |>.istore D3_195 sto13 |>.iload D3_197 rfl
            replace k := k |>.ifYes D3_199  |>.iload D3_206 rfl |>.ifYes D3_208  |>.iload D3_215 rfl |>.ifYes D3_217  |>.iload D3_224 rfl |>.ifYes D3_226  |>.iload D3_233 rfl |>.istore D3_235 sto14 |>.aload D3_237 rfl rfl
            replace k := (k.callV (w_59 hw) (V_Y8_8_String hw) f82_0.exa (R_len0 hw G f82_0) D3_239 0 rfl).pv
            replace k := k |>.iload D3_242 rfl |>.iload D3_244 rfl |>.isub D3_246 rfl |>.icmpYes D3_247 (teq (own_d33 rfl rfl rfl hs17 hs28 hs50)).1 |>.aload D3_252 rfl rfl |>.iconst D3_254 0 |>.aload D3_255 rfl rfl |>.iload D3_257 rfl
            replace k := (k.callS (w_60 hw) (S13 hw) (R_13_1 hw G f82_0) D3_259 0 rfl).pv
            replace k := k |>.ifNo D3_262  |>.aload D3_265 rfl rfl |>.iconst D3_267 1 |>.aload D3_268 rfl rfl |>.iload D3_270 rfl
            replace k := (k.callS (w_60 hw) (S13 hw) (R_13_2 hw G f82_0) D3_272 0 rfl).pv
            replace k := k |>.ifNo D3_275  |>.aload D3_278 rfl rfl |>.iconst D3_280 2 |>.aload D3_281 rfl rfl |>.iload D3_283 rfl
            replace k := (k.callS (w_60 hw) (S13 hw) (R_13_3 hw G f82_0) D3_285 0 rfl).pv
            replace k := k |>.ifNo D3_288  |>.aload D3_291 rfl rfl |>.iconst D3_293 3 |>.aload D3_294 rfl rfl |>.iload D3_296 rfl
            replace k := (k.callS (w_60 hw) (S13 hw) (R_13_4 hw G f82_0) D3_298 0 rfl).pv
            replace k := k |>.ifNo D3_301  |>.iconst D3_304 1 |>.goto D3_305
            exact k.retN (t := .boolean) D3_309 rfl (by simp) (z' := 1) (by decide) rfl
      · by_cases hs88 : ((p1 &&& 2147483647) % 5) = 3
        · have o90 := O14.keep K15 nin0
          have cv91 := k.chv
          obtain ⟨_, h89, K89, ⟨u1_89, rfl, f89_0, f89_1⟩, k⟩ := (k.callS (w_9 hw) (S4 hw) (R_4_8 hw G hs17 hs28 hs50 hs88 o90) D3_50 2 rfl).kv all0 (Or.inr all0)
          have o92 := O15.keep K89 nin0
          have s_b15 := Nat.le_trans z15 g15
          have n_b15 := Nat.le_trans nz s_b15
          have sf93 := ((Safe.new g15).keep K15 all0 cv16).keep K89 all0 cv91
          obtain ⟨h94, K94, ⟨w94, S94⟩, k⟩ := (k.callI (w_12 hw) (I5 hw) (R_newS3 hw G o92 f89_1 n_b15 (own_d7 rfl rfl rfl ) (own_d8 rfl rfl rfl ) (own_d21 rfl rfl rfl ) (own_d22 rfl rfl rfl ) (own_d35 rfl rfl rfl ) (own_d36 rfl rfl rfl )) D3_53 1 rfl).k0 (allS n_b15 all0) (Or.inr (allS sf93 all0))
          replace k := k |>.astore D3_56 rfl sto7 |>.aload D3_58 rfl rfl
          by_cases hs96 : (bl (nar .char (nar .char (drw p2)))) = 0
          · by_cases hs97 : (bl (nar .char (nar .char (drw p4)))) = 0
            · have cv99 := k.chv
              obtain ⟨_, h98, K98, ⟨u1_98, u2_98, rfl, f98_0⟩, k⟩ := (k.callS (w_30 hw) (S7 hw) (R_7_16 hw G S94 hs96 hs97) D3_60 0 rfl).kv all0 (Or.inr all0)
              replace k := k |>.astore D3_63 rfl sto8 |>.iconst D3_65 0 |>.iload D3_66 rfl |>.icmpNo D3_68 (tlt (own_d39 rfl rfl hs17 hs28 hs50 hs88)).2.1 |>.aload D3_71 rfl rfl |>.iconst D3_73 0
              have o100 := ((o90.keep K89 nin0).keep K94 (ninS (nlt O14.lt g15) nin0)).keep K98 nin0
              replace k := k |>.cald o100 D3_74 (i := 0) (by decide) big0
              replace k := (k.callS (w_100 hw) (S1 hw) (R_own_blank hw G) D3_75 0 rfl).pv
              replace k := k |>.ifNo D3_78 ((if0 _ _).trans (teq (own_d12 rfl rfl rfl rfl rfl hs96)).2) |>.iconst D3_81 1 |>.goto D3_82 |>.istore D3_86 sto9 |>.iconst D3_88 1 |>.iload D3_89 rfl |>.icmpNo D3_91 (tlt (own_d40 rfl rfl hs17 hs28 hs50 hs88)).2.1 |>.aload D3_94 rfl rfl |>.iconst D3_96 1 |>.cald o100 D3_97 (i := 1) (by decide) big1
              replace k := (k.callS (w_100 hw) (S1 hw) (R_own_blank hw G) D3_98 0 rfl).pv
              by_cases hc101_101 : (bl (nar .char (drw p3))) = 0
              · replace k := k |>.ifNo D3_101 ((if0 _ _).trans (teq hc101_101).2) |>.iconst D3_104 1 |>.goto D3_105 |>.istore D3_109 sto10 |>.iconst D3_111 2 |>.iload D3_112 rfl |>.icmpNo D3_114 (tlt (own_d41 rfl rfl hs17 hs28 hs50 hs88)).2.1 |>.aload D3_117 rfl rfl |>.iconst D3_119 2 |>.cald o100 D3_120 (i := 2) (by decide) big2
                replace k := (k.callS (w_100 hw) (S1 hw) (R_own_blank hw G) D3_121 0 rfl).pv
                replace k := k |>.ifNo D3_124 ((if0 _ _).trans (teq (own_d42 rfl rfl rfl rfl rfl hs97)).2) |>.iconst D3_127 1 |>.goto D3_128 |>.istore D3_132 sto11 |>.iconst D3_134 3 |>.iload D3_135 rfl |>.icmpYes D3_137 (flt (own_d43 rfl rfl hs17 hs28 hs50 hs88)).2.1 |>.iconst D3_154 0 |>.istore D3_155 sto12 |>.iload D3_157 rfl |>.ifNo D3_159  |>.iconst D3_162 0
                replace k := k |>.goto D3_163 |>.istore D3_195 sto13 |>.iload D3_197 rfl |>.ifYes D3_199  |>.iload D3_206 rfl |>.ifNo D3_208  |>.iconst D3_211 3 |>.goto D3_212 |>.istore D3_235 sto14 |>.aload D3_237 rfl rfl
                replace k := (k.callV (w_59 hw) (V_Y8_8_String hw) f98_0.exa (R_len3 hw G f98_0) D3_239 0 rfl).pv
                replace k := k |>.iload D3_242 rfl |>.iload D3_244 rfl |>.isub D3_246 (z := 3) |>.icmpYes D3_247  |>.aload D3_252 rfl rfl |>.iconst D3_254 0 |>.aload D3_255 rfl rfl |>.iload D3_257 rfl
                replace k := (k.callS (w_60 hw) (S13 hw) (R_13_17 hw G f98_0 o100 (own_d16 rfl rfl rfl rfl hs96)) D3_259 0 rfl).pv
                replace k := k |>.ifNo D3_262  |>.aload D3_265 rfl rfl |>.iconst D3_267 1 |>.aload D3_268 rfl rfl |>.iload D3_270 rfl
                replace k := (k.callS (w_60 hw) (S13 hw) (R_13_18 hw G f98_0 o100 (own_d44 rfl rfl rfl rfl hc101_101)) D3_272 0 rfl).pv
                replace k := k |>.ifNo D3_275  |>.aload D3_278 rfl rfl |>.iconst D3_280 2 |>.aload D3_281 rfl rfl |>.iload D3_283 rfl
                replace k := (k.callS (w_60 hw) (S13 hw) (R_13_19 hw G f98_0 o100 (own_d45 rfl rfl rfl rfl hs97)) D3_285 0 rfl).pv
                replace k := k |>.ifNo D3_288  |>.aload D3_291 rfl rfl |>.iconst D3_293 3 |>.aload D3_294 rfl rfl |>.iload D3_296 rfl
                replace k := (k.callS (w_60 hw) (S13 hw) (R_13_20 hw G f98_0) D3_298 0 rfl).pv
                replace k := k |>.ifNo D3_301  |>.iconst D3_304 1 |>.goto D3_305
                exact k.retN (t := .boolean) D3_309 rfl (by simp) (z' := 1) (by decide) rfl
              · replace k := k |>.ifYes D3_101 ((if0 _ _).trans (feq hc101_101).2) |>.iconst D3_108 0 |>.istore D3_109 sto10 |>.iconst D3_111 2 |>.iload D3_112 rfl |>.icmpNo D3_114 (tlt (own_d41 rfl rfl hs17 hs28 hs50 hs88)).2.1 |>.aload D3_117 rfl rfl |>.iconst D3_119 2 |>.cald o100 D3_120 (i := 2) (by decide) big2
                replace k := (k.callS (w_100 hw) (S1 hw) (R_own_blank hw G) D3_121 0 rfl).pv
                replace k := k |>.ifNo D3_124 ((if0 _ _).trans (teq (own_d42 rfl rfl rfl rfl rfl hs97)).2) |>.iconst D3_127 1 |>.goto D3_128 |>.istore D3_132 sto11 |>.iconst D3_134 3 |>.iload D3_135 rfl |>.icmpYes D3_137 (flt (own_d43 rfl rfl hs17 hs28 hs50 hs88)).2.1 |>.iconst D3_154 0 |>.istore D3_155 sto12 |>.iload D3_157 rfl |>.ifNo D3_159  |>.iconst D3_162 0
                replace k := k |>.goto D3_163 |>.istore D3_195 sto13 |>.iload D3_197 rfl |>.ifYes D3_199  |>.iload D3_206 rfl |>.ifNo D3_208  |>.iconst D3_211 3 |>.goto D3_212 |>.istore D3_235 sto14 |>.aload D3_237 rfl rfl
                replace k := (k.callV (w_59 hw) (V_Y8_8_String hw) f98_0.exa (R_len3 hw G f98_0) D3_239 0 rfl).pv
                replace k := k |>.iload D3_242 rfl |>.iload D3_244 rfl |>.isub D3_246 (z := 3) |>.icmpYes D3_247  |>.aload D3_252 rfl rfl |>.iconst D3_254 0 |>.aload D3_255 rfl rfl |>.iload D3_257 rfl
                replace k := (k.callS (w_60 hw) (S13 hw) (R_13_17 hw G f98_0 o100 (own_d16 rfl rfl rfl rfl hs96)) D3_259 0 rfl).pv
                replace k := k |>.ifNo D3_262  |>.aload D3_265 rfl rfl |>.iconst D3_267 1 |>.aload D3_268 rfl rfl |>.iload D3_270 rfl
                replace k := (k.callS (w_60 hw) (S13 hw) (R_13_18 hw G f98_0 o100 (own_d46 rfl rfl rfl rfl hc101_101)) D3_272 0 rfl).pv
                replace k := k |>.ifNo D3_275  |>.aload D3_278 rfl rfl |>.iconst D3_280 2 |>.aload D3_281 rfl rfl |>.iload D3_283 rfl
                replace k := (k.callS (w_60 hw) (S13 hw) (R_13_19 hw G f98_0 o100 (own_d45 rfl rfl rfl rfl hs97)) D3_285 0 rfl).pv
                replace k := k |>.ifNo D3_288  |>.aload D3_291 rfl rfl |>.iconst D3_293 3 |>.aload D3_294 rfl rfl |>.iload D3_296 rfl
                replace k := (k.callS (w_60 hw) (S13 hw) (R_13_20 hw G f98_0) D3_298 0 rfl).pv
                replace k := k |>.ifNo D3_301  |>.iconst D3_304 1 |>.goto D3_305
                exact k.retN (t := .boolean) D3_309 rfl (by simp) (z' := 1) (by decide) rfl
            · by_cases hs110 : (bl (nar .char (nar .char (drw p3)))) = 0
              · have cv112 := k.chv
                obtain ⟨_, h111, K111, ⟨u1_111, u2_111, rfl, f111_0⟩, k⟩ := (k.callS (w_30 hw) (S7 hw) (R_7_18 hw G S94 hs96 hs97 hs110 (own_d48 rfl rfl rfl rfl hs97)) D3_60 0 rfl).kv all0 (Or.inr all0)
                replace k := k |>.astore D3_63 rfl sto8 |>.iconst D3_65 0 |>.iload D3_66 rfl |>.icmpNo D3_68 (tlt (own_d39 rfl rfl hs17 hs28 hs50 hs88)).2.1 |>.aload D3_71 rfl rfl |>.iconst D3_73 0
                have o113 := ((o90.keep K89 nin0).keep K94 (ninS (nlt O14.lt g15) nin0)).keep K111 nin0
                replace k := k |>.cald o113 D3_74 (i := 0) (by decide) big0
                replace k := (k.callS (w_100 hw) (S1 hw) (R_own_blank hw G) D3_75 0 rfl).pv
                replace k := k |>.ifNo D3_78 ((if0 _ _).trans (teq (own_d12 rfl rfl rfl rfl rfl hs96)).2) |>.iconst D3_81 1 |>.goto D3_82 |>.istore D3_86 sto9 |>.iconst D3_88 1 |>.iload D3_89 rfl |>.icmpNo D3_91 (tlt (own_d40 rfl rfl hs17 hs28 hs50 hs88)).2.1 |>.aload D3_94 rfl rfl |>.iconst D3_96 1 |>.cald o113 D3_97 (i := 1) (by decide) big1
                replace k := (k.callS (w_100 hw) (S1 hw) (R_own_blank hw G) D3_98 0 rfl).pv
                replace k := k |>.ifNo D3_101 ((if0 _ _).trans (teq (own_d27 rfl rfl rfl rfl rfl hs110)).2) |>.iconst D3_104 1 |>.goto D3_105 |>.istore D3_109 sto10 |>.iconst D3_111 2 |>.iload D3_112 rfl |>.icmpNo D3_114 (tlt (own_d41 rfl rfl hs17 hs28 hs50 hs88)).2.1 |>.aload D3_117 rfl rfl |>.iconst D3_119 2 |>.cald o113 D3_120 (i := 2) (by decide) big2
                replace k := (k.callS (w_100 hw) (S1 hw) (R_own_blank hw G) D3_121 0 rfl).pv
                replace k := k |>.ifYes D3_124 ((if0 _ _).trans (feq (own_d49 rfl rfl rfl rfl rfl hs97)).2) |>.iconst D3_131 0 |>.istore D3_132 sto11 |>.iconst D3_134 3 |>.iload D3_135 rfl |>.icmpYes D3_137 (flt (own_d43 rfl rfl hs17 hs28 hs50 hs88)).2.1 |>.iconst D3_154 0 |>.istore D3_155 sto12 |>.iload D3_157 rfl |>.ifNo D3_159  |>.iconst D3_162 0 |>.goto D3_163
                replace k := k |>.istore D3_195 sto13 |>.iload D3_197 rfl |>.ifYes D3_199  |>.iload D3_206 rfl |>.ifYes D3_208  |>.iload D3_215 rfl |>.ifNo D3_217  |>.iconst D3_220 2 |>.goto D3_221 |>.istore D3_235 sto14 |>.aload D3_237 rfl rfl
                replace k := (k.callV (w_59 hw) (V_Y8_8_String hw) f111_0.exa (R_len2 hw G f111_0) D3_239 0 rfl).pv
                replace k := k |>.iload D3_242 rfl |>.iload D3_244 rfl |>.isub D3_246 (z := 2) |>.icmpYes D3_247  |>.aload D3_252 rfl rfl |>.iconst D3_254 0 |>.aload D3_255 rfl rfl |>.iload D3_257 rfl
                replace k := (k.callS (w_60 hw) (S13 hw) (R_13_9 hw G f111_0 o113 (own_d16 rfl rfl rfl rfl hs96)) D3_259 0 rfl).pv
                replace k := k |>.ifNo D3_262  |>.aload D3_265 rfl rfl |>.iconst D3_267 1 |>.aload D3_268 rfl rfl |>.iload D3_270 rfl
                replace k := (k.callS (w_60 hw) (S13 hw) (R_13_10 hw G f111_0 o113 (own_d30 rfl rfl rfl rfl hs110)) D3_272 0 rfl).pv
                replace k := k |>.ifNo D3_275  |>.aload D3_278 rfl rfl |>.iconst D3_280 2 |>.aload D3_281 rfl rfl |>.iload D3_283 rfl
                replace k := (k.callS (w_60 hw) (S13 hw) (R_13_11 hw G f111_0) D3_285 0 rfl).pv
                replace k := k |>.ifNo D3_288  |>.aload D3_291 rfl rfl |>.iconst D3_293 3 |>.aload D3_294 rfl rfl |>.iload D3_296 rfl
                replace k := (k.callS (w_60 hw) (S13 hw) (R_13_12 hw G f111_0) D3_298 0 rfl).pv
                replace k := k |>.ifNo D3_301  |>.iconst D3_304 1 |>.goto D3_305
                exact k.retN (t := .boolean) D3_309 rfl (by simp) (z' := 1) (by decide) rfl
              · have cv119 := k.chv
                obtain ⟨_, h118, K118, ⟨u1_118, u2_118, rfl, f118_0⟩, k⟩ := (k.callS (w_30 hw) (S7 hw) (R_7_19 hw G S94 hs96 hs97 hs110 (own_d31 rfl rfl rfl rfl hs110) (own_d48 rfl rfl rfl rfl hs97)) D3_60 0 rfl).kv all0 (Or.inr all0)
                replace k := k |>.astore D3_63 rfl sto8 |>.iconst D3_65 0 |>.iload D3_66 rfl |>.icmpNo D3_68 (tlt (own_d39 rfl rfl hs17 hs28 hs50 hs88)).2.1 |>.aload D3_71 rfl rfl |>.iconst D3_73 0
                have o120 := ((o90.keep K89 nin0).keep K94 (ninS (nlt O14.lt g15) nin0)).keep K118 nin0
                replace k := k |>.cald o120 D3_74 (i := 0) (by decide) big0
                replace k := (k.callS (w_100 hw) (S1 hw) (R_own_blank hw G) D3_75 0 rfl).pv
                replace k := k |>.ifNo D3_78 ((if0 _ _).trans (teq (own_d12 rfl rfl rfl rfl rfl hs96)).2) |>.iconst D3_81 1 |>.goto D3_82 |>.istore D3_86 sto9 |>.iconst D3_88 1 |>.iload D3_89 rfl |>.icmpNo D3_91 (tlt (own_d40 rfl rfl hs17 hs28 hs50 hs88)).2.1 |>.aload D3_94 rfl rfl |>.iconst D3_96 1 |>.cald o120 D3_97 (i := 1) (by decide) big1
                replace k := (k.callS (w_100 hw) (S1 hw) (R_own_blank hw G) D3_98 0 rfl).pv
                replace k := k |>.ifYes D3_101 ((if0 _ _).trans (feq (own_d32 rfl rfl rfl rfl rfl hs110)).2) |>.iconst D3_108 0 |>.istore D3_109 sto10 |>.iconst D3_111 2 |>.iload D3_112 rfl |>.icmpNo D3_114 (tlt (own_d41 rfl rfl hs17 hs28 hs50 hs88)).2.1 |>.aload D3_117 rfl rfl |>.iconst D3_119 2 |>.cald o120 D3_120 (i := 2) (by decide) big2
                replace k := (k.callS (w_100 hw) (S1 hw) (R_own_blank hw G) D3_121 0 rfl).pv
                replace k := k |>.ifYes D3_124 ((if0 _ _).trans (feq (own_d49 rfl rfl rfl rfl rfl hs97)).2) |>.iconst D3_131 0 |>.istore D3_132 sto11 |>.iconst D3_134 3 |>.iload D3_135 rfl |>.icmpYes D3_137 (flt (own_d43 rfl rfl hs17 hs28 hs50 hs88)).2.1 |>.iconst D3_154 0 |>.istore D3_155 sto12 |>.iload D3_157 rfl |>.ifNo D3_159  |>.iconst D3_162 0 |>.goto D3_163
                replace k := k |>.istore D3_195 sto13 |>.iload D3_197 rfl |>.ifYes D3_199  |>.iload D3_206 rfl |>.ifYes D3_208  |>.iload D3_215 rfl |>.ifYes D3_217  |>.iload D3_224 rfl |>.ifNo D3_226  |>.iconst D3_229 1 |>.goto D3_230 |>.istore D3_235 sto14
                replace k := k |>.aload D3_237 rfl rfl
                replace k := (k.callV (w_59 hw) (V_Y8_8_String hw) f118_0.exa (R_len1 hw G f118_0) D3_239 0 rfl).pv
                replace k := k |>.iload D3_242 rfl |>.iload D3_244 rfl |>.isub D3_246 (z := 1) |>.icmpYes D3_247  |>.aload D3_252 rfl rfl |>.iconst D3_254 0 |>.aload D3_255 rfl rfl |>.iload D3_257 rfl
                replace k := (k.callS (w_60 hw) (S13 hw) (R_13_5 hw G f118_0 o120 (own_d16 rfl rfl rfl rfl hs96)) D3_259 0 rfl).pv
                replace k := k |>.ifNo D3_262  |>.aload D3_265 rfl rfl |>.iconst D3_267 1 |>.aload D3_268 rfl rfl |>.iload D3_270 rfl
                replace k := (k.callS (w_60 hw) (S13 hw) (R_13_6 hw G f118_0) D3_272 0 rfl).pv
                replace k := k |>.ifNo D3_275  |>.aload D3_278 rfl rfl |>.iconst D3_280 2 |>.aload D3_281 rfl rfl |>.iload D3_283 rfl
                replace k := (k.callS (w_60 hw) (S13 hw) (R_13_7 hw G f118_0) D3_285 0 rfl).pv
                replace k := k |>.ifNo D3_288  |>.aload D3_291 rfl rfl |>.iconst D3_293 3 |>.aload D3_294 rfl rfl |>.iload D3_296 rfl
                replace k := (k.callS (w_60 hw) (S13 hw) (R_13_8 hw G f118_0) D3_298 0 rfl).pv
                replace k := k |>.ifNo D3_301  |>.iconst D3_304 1 |>.goto D3_305
                exact k.retN (t := .boolean) D3_309 rfl (by simp) (z' := 1) (by decide) rfl
          · by_cases hs125 : (bl (nar .char (nar .char (drw p3)))) = 0
            · by_cases hs126 : (bl (nar .char (nar .char (drw p4)))) = 0
              · have cv128 := k.chv
                obtain ⟨_, h127, K127, ⟨u1_127, u2_127, rfl, f127_0⟩, k⟩ := (k.callS (w_30 hw) (S7 hw) (R_7_22 hw G S94 hs96 hs125 hs126 (own_d17 rfl rfl rfl rfl hs96)) D3_60 0 rfl).kv all0 (Or.inr all0)
                replace k := k |>.astore D3_63 rfl sto8 |>.iconst D3_65 0 |>.iload D3_66 rfl |>.icmpNo D3_68 (tlt (own_d39 rfl rfl hs17 hs28 hs50 hs88)).2.1 |>.aload D3_71 rfl rfl |>.iconst D3_73 0
                have o129 := ((o90.keep K89 nin0).keep K94 (ninS (nlt O14.lt g15) nin0)).keep K127 nin0
                replace k := k |>.cald o129 D3_74 (i := 0) (by decide) big0
                replace k := (k.callS (w_100 hw) (S1 hw) (R_own_blank hw G) D3_75 0 rfl).pv
                replace k := k |>.ifYes D3_78 ((if0 _ _).trans (feq (own_d18 rfl rfl rfl rfl rfl hs96)).2) |>.iconst D3_85 0 |>.istore D3_86 sto9 |>.iconst D3_88 1 |>.iload D3_89 rfl |>.icmpNo D3_91 (tlt (own_d40 rfl rfl hs17 hs28 hs50 hs88)).2.1 |>.aload D3_94 rfl rfl |>.iconst D3_96 1 |>.cald o129 D3_97 (i := 1) (by decide) big1
                replace k := (k.callS (w_100 hw) (S1 hw) (R_own_blank hw G) D3_98 0 rfl).pv
                replace k := k |>.ifNo D3_101 ((if0 _ _).trans (teq (own_d27 rfl rfl rfl rfl rfl hs125)).2) |>.iconst D3_104 1 |>.goto D3_105 |>.istore D3_109 sto10 |>.iconst D3_111 2 |>.iload D3_112 rfl |>.icmpNo D3_114 (tlt (own_d41 rfl rfl hs17 hs28 hs50 hs88)).2.1 |>.aload D3_117 rfl rfl |>.iconst D3_119 2 |>.cald o129 D3_120 (i := 2) (by decide) big2
                replace k := (k.callS (w_100 hw) (S1 hw) (R_own_blank hw G) D3_121 0 rfl).pv
                replace k := k |>.ifNo D3_124 ((if0 _ _).trans (teq (own_d42 rfl rfl rfl rfl rfl hs126)).2) |>.iconst D3_127 1 |>.goto D3_128 |>.istore D3_132 sto11 |>.iconst D3_134 3 |>.iload D3_135 rfl |>.icmpYes D3_137 (flt (own_d43 rfl rfl hs17 hs28 hs50 hs88)).2.1 |>.iconst D3_154 0 |>.istore D3_155 sto12 |>.iload D3_157 rfl |>.ifYes D3_159  |>.iload D3_166 rfl
                replace k := k |>.ifNo D3_168  |>.iconst D3_171 1 |>.goto D3_172 |>.istore D3_195 sto13 |>.iload D3_197 rfl |>.ifYes D3_199  |>.iload D3_206 rfl |>.ifNo D3_208  |>.iconst D3_211 3 |>.goto D3_212 |>.istore D3_235 sto14 |>.aload D3_237 rfl rfl
                replace k := (k.callV (w_59 hw) (V_Y8_8_String hw) f127_0.exa (R_len2 hw G f127_0) D3_239 0 rfl).pv
                replace k := k |>.iload D3_242 rfl |>.iload D3_244 rfl |>.isub D3_246 (z := 2) |>.icmpYes D3_247  |>.aload D3_252 rfl rfl |>.iconst D3_254 0 |>.aload D3_255 rfl rfl |>.iload D3_257 rfl
                replace k := (k.callS (w_60 hw) (S13 hw) (R_13_21 hw G f127_0 o129 (own_d30 rfl rfl rfl rfl hs125)) D3_259 0 rfl).pv
                replace k := k |>.ifNo D3_262  |>.aload D3_265 rfl rfl |>.iconst D3_267 1 |>.aload D3_268 rfl rfl |>.iload D3_270 rfl
                replace k := (k.callS (w_60 hw) (S13 hw) (R_13_22 hw G f127_0 o129 (own_d45 rfl rfl rfl rfl hs126)) D3_272 0 rfl).pv
                replace k := k |>.ifNo D3_275  |>.aload D3_278 rfl rfl |>.iconst D3_280 2 |>.aload D3_281 rfl rfl |>.iload D3_283 rfl
                replace k := (k.callS (w_60 hw) (S13 hw) (R_13_23 hw G f127_0) D3_285 0 rfl).pv
                replace k := k |>.ifNo D3_288  |>.aload D3_291 rfl rfl |>.iconst D3_293 3 |>.aload D3_294 rfl rfl |>.iload D3_296 rfl
                replace k := (k.callS (w_60 hw) (S13 hw) (R_13_24 hw G f127_0) D3_298 0 rfl).pv
                replace k := k |>.ifNo D3_301  |>.iconst D3_304 1 |>.goto D3_305
                exact k.retN (t := .boolean) D3_309 rfl (by simp) (z' := 1) (by decide) rfl
              · have cv135 := k.chv
                obtain ⟨_, h134, K134, ⟨u1_134, u2_134, rfl, f134_0⟩, k⟩ := (k.callS (w_30 hw) (S7 hw) (R_7_23 hw G S94 hs96 hs125 hs126 (own_d17 rfl rfl rfl rfl hs96) (own_d48 rfl rfl rfl rfl hs126)) D3_60 0 rfl).kv all0 (Or.inr all0)
                replace k := k |>.astore D3_63 rfl sto8 |>.iconst D3_65 0 |>.iload D3_66 rfl |>.icmpNo D3_68 (tlt (own_d39 rfl rfl hs17 hs28 hs50 hs88)).2.1 |>.aload D3_71 rfl rfl |>.iconst D3_73 0
                have o136 := ((o90.keep K89 nin0).keep K94 (ninS (nlt O14.lt g15) nin0)).keep K134 nin0
                replace k := k |>.cald o136 D3_74 (i := 0) (by decide) big0
                replace k := (k.callS (w_100 hw) (S1 hw) (R_own_blank hw G) D3_75 0 rfl).pv
                replace k := k |>.ifYes D3_78 ((if0 _ _).trans (feq (own_d18 rfl rfl rfl rfl rfl hs96)).2) |>.iconst D3_85 0 |>.istore D3_86 sto9 |>.iconst D3_88 1 |>.iload D3_89 rfl |>.icmpNo D3_91 (tlt (own_d40 rfl rfl hs17 hs28 hs50 hs88)).2.1 |>.aload D3_94 rfl rfl |>.iconst D3_96 1 |>.cald o136 D3_97 (i := 1) (by decide) big1
                replace k := (k.callS (w_100 hw) (S1 hw) (R_own_blank hw G) D3_98 0 rfl).pv
                replace k := k |>.ifNo D3_101 ((if0 _ _).trans (teq (own_d27 rfl rfl rfl rfl rfl hs125)).2) |>.iconst D3_104 1 |>.goto D3_105 |>.istore D3_109 sto10 |>.iconst D3_111 2 |>.iload D3_112 rfl |>.icmpNo D3_114 (tlt (own_d41 rfl rfl hs17 hs28 hs50 hs88)).2.1 |>.aload D3_117 rfl rfl |>.iconst D3_119 2 |>.cald o136 D3_120 (i := 2) (by decide) big2
                replace k := (k.callS (w_100 hw) (S1 hw) (R_own_blank hw G) D3_121 0 rfl).pv
                replace k := k |>.ifYes D3_124 ((if0 _ _).trans (feq (own_d49 rfl rfl rfl rfl rfl hs126)).2) |>.iconst D3_131 0 |>.istore D3_132 sto11 |>.iconst D3_134 3 |>.iload D3_135 rfl |>.icmpYes D3_137 (flt (own_d43 rfl rfl hs17 hs28 hs50 hs88)).2.1 |>.iconst D3_154 0 |>.istore D3_155 sto12 |>.iload D3_157 rfl |>.ifYes D3_159  |>.iload D3_166 rfl |>.ifNo D3_168 
                replace k := k |>.iconst D3_171 1 |>.goto D3_172 |>.istore D3_195 sto13 |>.iload D3_197 rfl |>.ifYes D3_199  |>.iload D3_206 rfl |>.ifYes D3_208  |>.iload D3_215 rfl |>.ifNo D3_217  |>.iconst D3_220 2 |>.goto D3_221 |>.istore D3_235 sto14
                replace k := k |>.aload D3_237 rfl rfl
                replace k := (k.callV (w_59 hw) (V_Y8_8_String hw) f134_0.exa (R_len1 hw G f134_0) D3_239 0 rfl).pv
                replace k := k |>.iload D3_242 rfl |>.iload D3_244 rfl |>.isub D3_246 (z := 1) |>.icmpYes D3_247  |>.aload D3_252 rfl rfl |>.iconst D3_254 0 |>.aload D3_255 rfl rfl |>.iload D3_257 rfl
                replace k := (k.callS (w_60 hw) (S13 hw) (R_13_13 hw G f134_0 o136 (own_d30 rfl rfl rfl rfl hs125)) D3_259 0 rfl).pv
                replace k := k |>.ifNo D3_262  |>.aload D3_265 rfl rfl |>.iconst D3_267 1 |>.aload D3_268 rfl rfl |>.iload D3_270 rfl
                replace k := (k.callS (w_60 hw) (S13 hw) (R_13_14 hw G f134_0) D3_272 0 rfl).pv
                replace k := k |>.ifNo D3_275  |>.aload D3_278 rfl rfl |>.iconst D3_280 2 |>.aload D3_281 rfl rfl |>.iload D3_283 rfl
                replace k := (k.callS (w_60 hw) (S13 hw) (R_13_15 hw G f134_0) D3_285 0 rfl).pv
                replace k := k |>.ifNo D3_288  |>.aload D3_291 rfl rfl |>.iconst D3_293 3 |>.aload D3_294 rfl rfl |>.iload D3_296 rfl
                replace k := (k.callS (w_60 hw) (S13 hw) (R_13_16 hw G f134_0) D3_298 0 rfl).pv
                replace k := k |>.ifNo D3_301  |>.iconst D3_304 1 |>.goto D3_305
                exact k.retN (t := .boolean) D3_309 rfl (by simp) (z' := 1) (by decide) rfl
            · by_cases hs141 : (bl (nar .char (nar .char (drw p4)))) = 0
              · have cv143 := k.chv
                obtain ⟨_, h142, K142, ⟨u1_142, u2_142, rfl, f142_0⟩, k⟩ := (k.callS (w_30 hw) (S7 hw) (R_7_25 hw G S94 hs96 hs125 hs141 (own_d17 rfl rfl rfl rfl hs96) (own_d31 rfl rfl rfl rfl hs125)) D3_60 0 rfl).kv all0 (Or.inr all0)
                replace k := k |>.astore D3_63 rfl sto8 |>.iconst D3_65 0 |>.iload D3_66 rfl |>.icmpNo D3_68 (tlt (own_d39 rfl rfl hs17 hs28 hs50 hs88)).2.1 |>.aload D3_71 rfl rfl |>.iconst D3_73 0
                have o144 := ((o90.keep K89 nin0).keep K94 (ninS (nlt O14.lt g15) nin0)).keep K142 nin0
                replace k := k |>.cald o144 D3_74 (i := 0) (by decide) big0
                replace k := (k.callS (w_100 hw) (S1 hw) (R_own_blank hw G) D3_75 0 rfl).pv
                replace k := k |>.ifYes D3_78 ((if0 _ _).trans (feq (own_d18 rfl rfl rfl rfl rfl hs96)).2) |>.iconst D3_85 0 |>.istore D3_86 sto9 |>.iconst D3_88 1 |>.iload D3_89 rfl |>.icmpNo D3_91 (tlt (own_d40 rfl rfl hs17 hs28 hs50 hs88)).2.1 |>.aload D3_94 rfl rfl |>.iconst D3_96 1 |>.cald o144 D3_97 (i := 1) (by decide) big1
                replace k := (k.callS (w_100 hw) (S1 hw) (R_own_blank hw G) D3_98 0 rfl).pv
                replace k := k |>.ifYes D3_101 ((if0 _ _).trans (feq (own_d32 rfl rfl rfl rfl rfl hs125)).2) |>.iconst D3_108 0 |>.istore D3_109 sto10 |>.iconst D3_111 2 |>.iload D3_112 rfl |>.icmpNo D3_114 (tlt (own_d41 rfl rfl hs17 hs28 hs50 hs88)).2.1 |>.aload D3_117 rfl rfl |>.iconst D3_119 2 |>.cald o144 D3_120 (i := 2) (by decide) big2
                replace k := (k.callS (w_100 hw) (S1 hw) (R_own_blank hw G) D3_121 0 rfl).pv
                replace k := k |>.ifNo D3_124 ((if0 _ _).trans (teq (own_d42 rfl rfl rfl rfl rfl hs141)).2) |>.iconst D3_127 1 |>.goto D3_128 |>.istore D3_132 sto11 |>.iconst D3_134 3 |>.iload D3_135 rfl |>.icmpYes D3_137 (flt (own_d43 rfl rfl hs17 hs28 hs50 hs88)).2.1 |>.iconst D3_154 0 |>.istore D3_155 sto12 |>.iload D3_157 rfl |>.ifYes D3_159  |>.iload D3_166 rfl
                replace k := k |>.ifYes D3_168  |>.iload D3_175 rfl |>.ifNo D3_177  |>.iconst D3_180 2 |>.goto D3_181 |>.istore D3_195 sto13 |>.iload D3_197 rfl |>.ifYes D3_199  |>.iload D3_206 rfl |>.ifNo D3_208  |>.iconst D3_211 3 |>.goto D3_212
                replace k := k |>.istore D3_235 sto14 |>.aload D3_237 rfl rfl
                replace k := (k.callV (w_59 hw) (V_Y8_8_String hw) f142_0.exa (R_len1 hw G f142_0) D3_239 0 rfl).pv
                replace k := k |>.iload D3_242 rfl |>.iload D3_244 rfl |>.isub D3_246 (z := 1) |>.icmpYes D3_247  |>.aload D3_252 rfl rfl |>.iconst D3_254 0 |>.aload D3_255 rfl rfl |>.iload D3_257 rfl
                replace k := (k.callS (w_60 hw) (S13 hw) (R_13_25 hw G f142_0 o144 (own_d45 rfl rfl rfl rfl hs141)) D3_259 0 rfl).pv
                replace k := k |>.ifNo D3_262  |>.aload D3_265 rfl rfl |>.iconst D3_267 1 |>.aload D3_268 rfl rfl |>.iload D3_270 rfl
                replace k := (k.callS (w_60 hw) (S13 hw) (R_13_26 hw G f142_0) D3_272 0 rfl).pv
                replace k := k |>.ifNo D3_275  |>.aload D3_278 rfl rfl |>.iconst D3_280 2 |>.aload D3_281 rfl rfl |>.iload D3_283 rfl
                replace k := (k.callS (w_60 hw) (S13 hw) (R_13_27 hw G f142_0) D3_285 0 rfl).pv
                replace k := k |>.ifNo D3_288  |>.aload D3_291 rfl rfl |>.iconst D3_293 3 |>.aload D3_294 rfl rfl |>.iload D3_296 rfl
                replace k := (k.callS (w_60 hw) (S13 hw) (R_13_28 hw G f142_0) D3_298 0 rfl).pv
                replace k := k |>.ifNo D3_301  |>.iconst D3_304 1 |>.goto D3_305
                exact k.retN (t := .boolean) D3_309 rfl (by simp) (z' := 1) (by decide) rfl
              · have z149 := k.sz
                obtain ⟨_, vm149, h149, K149, R149, ⟨u1_149, u2_149, rfl, f149_0⟩, k⟩ := (k.callSW (w_30 hw) (S7 hw) (R_7_27 hw G S94 hs96 hs125 hs141 (own_d17 rfl rfl rfl rfl hs96) (own_d31 rfl rfl rfl rfl hs125) (own_d48 rfl rfl rfl rfl hs141)) D3_60 0 rfl).kv
                replace k := k |>.astore D3_63 rfl sto8 |>.iconst D3_65 0 |>.iload D3_66 rfl |>.icmpNo D3_68 (tlt (own_d39 rfl rfl hs17 hs28 hs50 hs88)).2.1 |>.aload D3_71 rfl rfl |>.iconst D3_73 0
                have o150 := ((o90.keep K89 nin0).keep K94 (ninS (nlt O14.lt g15) nin0)).keep K149 nin0
                replace k := k |>.cald o150 D3_74 (i := 0) (by decide) big0
                replace k := (k.callS (w_100 hw) (S1 hw) (R_own_blank hw G) D3_75 0 rfl).pv
                replace k := k |>.ifYes D3_78 ((if0 _ _).trans (feq (own_d18 rfl rfl rfl rfl rfl hs96)).2) |>.iconst D3_85 0 |>.istore D3_86 sto9 |>.iconst D3_88 1 |>.iload D3_89 rfl |>.icmpNo D3_91 (tlt (own_d40 rfl rfl hs17 hs28 hs50 hs88)).2.1 |>.aload D3_94 rfl rfl |>.iconst D3_96 1 |>.cald o150 D3_97 (i := 1) (by decide) big1
                replace k := (k.callS (w_100 hw) (S1 hw) (R_own_blank hw G) D3_98 0 rfl).pv
                replace k := k |>.ifYes D3_101 ((if0 _ _).trans (feq (own_d32 rfl rfl rfl rfl rfl hs125)).2) |>.iconst D3_108 0 |>.istore D3_109 sto10 |>.iconst D3_111 2 |>.iload D3_112 rfl |>.icmpNo D3_114 (tlt (own_d41 rfl rfl hs17 hs28 hs50 hs88)).2.1 |>.aload D3_117 rfl rfl |>.iconst D3_119 2 |>.cald o150 D3_120 (i := 2) (by decide) big2
                replace k := (k.callS (w_100 hw) (S1 hw) (R_own_blank hw G) D3_121 0 rfl).pv
                replace k := k |>.ifYes D3_124 ((if0 _ _).trans (feq (own_d49 rfl rfl rfl rfl rfl hs141)).2) |>.iconst D3_131 0 |>.istore D3_132 sto11 |>.iconst D3_134 3 |>.iload D3_135 rfl |>.icmpYes D3_137 (flt (own_d43 rfl rfl hs17 hs28 hs50 hs88)).2.1 |>.iconst D3_154 0 |>.istore D3_155 sto12 |>.iload D3_157 rfl |>.ifYes D3_159  |>.iload D3_166 rfl |>.ifYes D3_168 
                replace k := k |>.iload D3_175 rfl |>.ifYes D3_177  |>.iload D3_184 rfl |>.ifYes D3_186  |>.iload D3_193 rfl |>.istore D3_195 sto13 |>.iload D3_197 rfl |>.ifYes D3_199  |>.iload D3_206 rfl |>.ifYes D3_208  |>.iload D3_215 rfl |>.ifYes D3_217 
                replace k := k |>.iload D3_224 rfl |>.ifYes D3_226  |>.iload D3_233 rfl |>.istore D3_235 sto14 |>.aload D3_237 rfl rfl
                replace k := (k.callV (w_59 hw) (V_Y8_8_String hw) f149_0.exa (R_len0 hw G f149_0) D3_239 0 rfl).pv
                replace k := k |>.iload D3_242 rfl |>.iload D3_244 rfl |>.isub D3_246 rfl |>.icmpYes D3_247 (teq (own_d51 rfl rfl rfl hs17 hs28 hs50 hs88)).1 |>.aload D3_252 rfl rfl |>.iconst D3_254 0 |>.aload D3_255 rfl rfl |>.iload D3_257 rfl
                replace k := (k.callS (w_60 hw) (S13 hw) (R_13_1 hw G f149_0) D3_259 0 rfl).pv
                replace k := k |>.ifNo D3_262  |>.aload D3_265 rfl rfl |>.iconst D3_267 1 |>.aload D3_268 rfl rfl |>.iload D3_270 rfl
                replace k := (k.callS (w_60 hw) (S13 hw) (R_13_2 hw G f149_0) D3_272 0 rfl).pv
                replace k := k |>.ifNo D3_275  |>.aload D3_278 rfl rfl |>.iconst D3_280 2 |>.aload D3_281 rfl rfl |>.iload D3_283 rfl
                replace k := (k.callS (w_60 hw) (S13 hw) (R_13_3 hw G f149_0) D3_285 0 rfl).pv
                replace k := k |>.ifNo D3_288  |>.aload D3_291 rfl rfl |>.iconst D3_293 3 |>.aload D3_294 rfl rfl |>.iload D3_296 rfl
                replace k := (k.callS (w_60 hw) (S13 hw) (R_13_4 hw G f149_0) D3_298 0 rfl).pv
                replace k := k |>.ifNo D3_301  |>.iconst D3_304 1 |>.goto D3_305
                exact k.retN (t := .boolean) D3_309 rfl (by simp) (z' := 1) (by decide) rfl
        · have o156 := O14.keep K15 nin0
          have cv157 := k.chv
          obtain ⟨_, h155, K155, ⟨u1_155, rfl, f155_0, f155_1⟩, k⟩ := (k.callS (w_9 hw) (S4 hw) (R_4_9 hw G hs17 hs28 hs50 hs88 o156) D3_50 2 rfl).kv all0 (Or.inr all0)
          have o158 := O15.keep K155 nin0
          have s_b15 := Nat.le_trans z15 g15
          have n_b15 := Nat.le_trans nz s_b15
          have sf159 := ((Safe.new g15).keep K15 all0 cv16).keep K155 all0 cv157
          obtain ⟨h160, K160, ⟨w160, S160⟩, k⟩ := (k.callI (w_12 hw) (I5 hw) (R_newS4 hw G o158 f155_1 n_b15 (own_d7 rfl rfl rfl ) (own_d8 rfl rfl rfl ) (own_d21 rfl rfl rfl ) (own_d22 rfl rfl rfl ) (own_d35 rfl rfl rfl ) (own_d36 rfl rfl rfl ) (own_d53 rfl rfl rfl ) (own_d54 rfl rfl rfl )) D3_53 1 rfl).k0 (allS n_b15 all0) (Or.inr (allS sf159 all0))
          replace k := k |>.astore D3_56 rfl sto7 |>.aload D3_58 rfl rfl
          by_cases hs162 : (bl (nar .char (nar .char (drw p2)))) = 0
          · by_cases hs163 : (bl (nar .char (nar .char (drw p5)))) = 0
            · have cv165 := k.chv
              obtain ⟨_, h164, K164, ⟨u1_164, u2_164, rfl, f164_0⟩, k⟩ := (k.callS (w_30 hw) (S7 hw) (R_7_30 hw G S160 hs162 hs163) D3_60 0 rfl).kv all0 (Or.inr all0)
              replace k := k |>.astore D3_63 rfl sto8 |>.iconst D3_65 0 |>.iload D3_66 rfl |>.icmpNo D3_68 (tlt (own_d57 rfl rfl hs17 hs28 hs50 hs88)).2.1 |>.aload D3_71 rfl rfl |>.iconst D3_73 0
              have o166 := ((o156.keep K155 nin0).keep K160 (ninS (nlt O14.lt g15) nin0)).keep K164 nin0
              replace k := k |>.cald o166 D3_74 (i := 0) (by decide) big0
              replace k := (k.callS (w_100 hw) (S1 hw) (R_own_blank hw G) D3_75 0 rfl).pv
              replace k := k |>.ifNo D3_78 ((if0 _ _).trans (teq (own_d12 rfl rfl rfl rfl rfl hs162)).2) |>.iconst D3_81 1 |>.goto D3_82 |>.istore D3_86 sto9 |>.iconst D3_88 1 |>.iload D3_89 rfl |>.icmpNo D3_91 (tlt (own_d58 rfl rfl hs17 hs28 hs50 hs88)).2.1 |>.aload D3_94 rfl rfl |>.iconst D3_96 1 |>.cald o166 D3_97 (i := 1) (by decide) big1
              replace k := (k.callS (w_100 hw) (S1 hw) (R_own_blank hw G) D3_98 0 rfl).pv
              by_cases hc101_167 : (bl (nar .char (drw p3))) = 0
              · replace k := k |>.ifNo D3_101 ((if0 _ _).trans (teq hc101_167).2) |>.iconst D3_104 1 |>.goto D3_105 |>.istore D3_109 sto10 |>.iconst D3_111 2 |>.iload D3_112 rfl |>.icmpNo D3_114 (tlt (own_d59 rfl rfl hs17 hs28 hs50 hs88)).2.1 |>.aload D3_117 rfl rfl |>.iconst D3_119 2 |>.cald o166 D3_120 (i := 2) (by decide) big2
                replace k := (k.callS (w_100 hw) (S1 hw) (R_own_blank hw G) D3_121 0 rfl).pv
                by_cases hc124_168 : (bl (nar .char (drw p4))) = 0
                · replace k := k |>.ifNo D3_124 ((if0 _ _).trans (teq hc124_168).2) |>.iconst D3_127 1 |>.goto D3_128 |>.istore D3_132 sto11 |>.iconst D3_134 3 |>.iload D3_135 rfl |>.icmpNo D3_137 (tlt (own_d60 rfl rfl hs17 hs28 hs50 hs88)).2.1 |>.aload D3_140 rfl rfl |>.iconst D3_142 3 |>.cald o166 D3_143 (i := 3) (by decide) big3
                  replace k := (k.callS (w_100 hw) (S1 hw) (R_own_blank hw G) D3_144 0 rfl).pv
                  replace k := k |>.ifNo D3_147 ((if0 _ _).trans (teq (own_d61 rfl rfl rfl rfl rfl hs163)).2) |>.iconst D3_150 1 |>.goto D3_151 |>.istore D3_155 sto12 |>.iload D3_157 rfl |>.ifNo D3_159  |>.iconst D3_162 0 |>.goto D3_163 |>.istore D3_195 sto13 |>.iload D3_197 rfl |>.ifNo D3_199  |>.iconst D3_202 4
                  replace k := k |>.goto D3_203 |>.istore D3_235 sto14 |>.aload D3_237 rfl rfl
                  replace k := (k.callV (w_59 hw) (V_Y8_8_String hw) f164_0.exa (R_len4 hw G f164_0) D3_239 0 rfl).pv
                  replace k := k |>.iload D3_242 rfl |>.iload D3_244 rfl |>.isub D3_246 (z := 4) |>.icmpYes D3_247  |>.aload D3_252 rfl rfl |>.iconst D3_254 0 |>.aload D3_255 rfl rfl |>.iload D3_257 rfl
                  replace k := (k.callS (w_60 hw) (S13 hw) (R_13_29 hw G f164_0 o166 (own_d16 rfl rfl rfl rfl hs162)) D3_259 0 rfl).pv
                  replace k := k |>.ifNo D3_262  |>.aload D3_265 rfl rfl |>.iconst D3_267 1 |>.aload D3_268 rfl rfl |>.iload D3_270 rfl
                  replace k := (k.callS (w_60 hw) (S13 hw) (R_13_30 hw G f164_0 o166 (own_d44 rfl rfl rfl rfl hc101_167)) D3_272 0 rfl).pv
                  replace k := k |>.ifNo D3_275  |>.aload D3_278 rfl rfl |>.iconst D3_280 2 |>.aload D3_281 rfl rfl |>.iload D3_283 rfl
                  replace k := (k.callS (w_60 hw) (S13 hw) (R_13_31 hw G f164_0 o166 (own_d62 rfl rfl rfl rfl hc124_168)) D3_285 0 rfl).pv
                  replace k := k |>.ifNo D3_288  |>.aload D3_291 rfl rfl |>.iconst D3_293 3 |>.aload D3_294 rfl rfl |>.iload D3_296 rfl
                  replace k := (k.callS (w_60 hw) (S13 hw) (R_13_32 hw G f164_0 o166 (own_d63 rfl rfl rfl rfl hs163)) D3_298 0 rfl).pv
                  replace k := k |>.ifNo D3_301  |>.iconst D3_304 1 |>.goto D3_305
                  exact k.retN (t := .boolean) D3_309 rfl (by simp) (z' := 1) (by decide) rfl
                · replace k := k |>.ifYes D3_124 ((if0 _ _).trans (feq hc124_168).2) |>.iconst D3_131 0 |>.istore D3_132 sto11 |>.iconst D3_134 3 |>.iload D3_135 rfl |>.icmpNo D3_137 (tlt (own_d60 rfl rfl hs17 hs28 hs50 hs88)).2.1 |>.aload D3_140 rfl rfl |>.iconst D3_142 3 |>.cald o166 D3_143 (i := 3) (by decide) big3
                  replace k := (k.callS (w_100 hw) (S1 hw) (R_own_blank hw G) D3_144 0 rfl).pv
                  replace k := k |>.ifNo D3_147 ((if0 _ _).trans (teq (own_d61 rfl rfl rfl rfl rfl hs163)).2) |>.iconst D3_150 1 |>.goto D3_151 |>.istore D3_155 sto12 |>.iload D3_157 rfl |>.ifNo D3_159  |>.iconst D3_162 0 |>.goto D3_163 |>.istore D3_195 sto13 |>.iload D3_197 rfl |>.ifNo D3_199  |>.iconst D3_202 4
                  replace k := k |>.goto D3_203 |>.istore D3_235 sto14 |>.aload D3_237 rfl rfl
                  replace k := (k.callV (w_59 hw) (V_Y8_8_String hw) f164_0.exa (R_len4 hw G f164_0) D3_239 0 rfl).pv
                  replace k := k |>.iload D3_242 rfl |>.iload D3_244 rfl |>.isub D3_246 (z := 4) |>.icmpYes D3_247  |>.aload D3_252 rfl rfl |>.iconst D3_254 0 |>.aload D3_255 rfl rfl |>.iload D3_257 rfl
                  replace k := (k.callS (w_60 hw) (S13 hw) (R_13_29 hw G f164_0 o166 (own_d16 rfl rfl rfl rfl hs162)) D3_259 0 rfl).pv
                  replace k := k |>.ifNo D3_262  |>.aload D3_265 rfl rfl |>.iconst D3_267 1 |>.aload D3_268 rfl rfl |>.iload D3_270 rfl
                  replace k := (k.callS (w_60 hw) (S13 hw) (R_13_30 hw G f164_0 o166 (own_d44 rfl rfl rfl rfl hc101_167)) D3_272 0 rfl).pv
                  replace k := k |>.ifNo D3_275  |>.aload D3_278 rfl rfl |>.iconst D3_280 2 |>.aload D3_281 rfl rfl |>.iload D3_283 rfl
                  replace k := (k.callS (w_60 hw) (S13 hw) (R_13_31 hw G f164_0 o166 (own_d64 rfl rfl rfl rfl hc124_168)) D3_285 0 rfl).pv
                  replace k := k |>.ifNo D3_288  |>.aload D3_291 rfl rfl |>.iconst D3_293 3 |>.aload D3_294 rfl rfl |>.iload D3_296 rfl
                  replace k := (k.callS (w_60 hw) (S13 hw) (R_13_32 hw G f164_0 o166 (own_d63 rfl rfl rfl rfl hs163)) D3_298 0 rfl).pv
                  replace k := k |>.ifNo D3_301  |>.iconst D3_304 1 |>.goto D3_305
                  exact k.retN (t := .boolean) D3_309 rfl (by simp) (z' := 1) (by decide) rfl
              · replace k := k |>.ifYes D3_101 ((if0 _ _).trans (feq hc101_167).2) |>.iconst D3_108 0 |>.istore D3_109 sto10 |>.iconst D3_111 2 |>.iload D3_112 rfl |>.icmpNo D3_114 (tlt (own_d59 rfl rfl hs17 hs28 hs50 hs88)).2.1 |>.aload D3_117 rfl rfl |>.iconst D3_119 2 |>.cald o166 D3_120 (i := 2) (by decide) big2
                replace k := (k.callS (w_100 hw) (S1 hw) (R_own_blank hw G) D3_121 0 rfl).pv
                by_cases hc124_177 : (bl (nar .char (drw p4))) = 0
                · replace k := k |>.ifNo D3_124 ((if0 _ _).trans (teq hc124_177).2) |>.iconst D3_127 1 |>.goto D3_128 |>.istore D3_132 sto11 |>.iconst D3_134 3 |>.iload D3_135 rfl |>.icmpNo D3_137 (tlt (own_d60 rfl rfl hs17 hs28 hs50 hs88)).2.1 |>.aload D3_140 rfl rfl |>.iconst D3_142 3 |>.cald o166 D3_143 (i := 3) (by decide) big3
                  replace k := (k.callS (w_100 hw) (S1 hw) (R_own_blank hw G) D3_144 0 rfl).pv
                  replace k := k |>.ifNo D3_147 ((if0 _ _).trans (teq (own_d61 rfl rfl rfl rfl rfl hs163)).2) |>.iconst D3_150 1 |>.goto D3_151 |>.istore D3_155 sto12 |>.iload D3_157 rfl |>.ifNo D3_159  |>.iconst D3_162 0 |>.goto D3_163 |>.istore D3_195 sto13 |>.iload D3_197 rfl |>.ifNo D3_199  |>.iconst D3_202 4
                  replace k := k |>.goto D3_203 |>.istore D3_235 sto14 |>.aload D3_237 rfl rfl
                  replace k := (k.callV (w_59 hw) (V_Y8_8_String hw) f164_0.exa (R_len4 hw G f164_0) D3_239 0 rfl).pv
                  replace k := k |>.iload D3_242 rfl |>.iload D3_244 rfl |>.isub D3_246 (z := 4) |>.icmpYes D3_247  |>.aload D3_252 rfl rfl |>.iconst D3_254 0 |>.aload D3_255 rfl rfl |>.iload D3_257 rfl
                  replace k := (k.callS (w_60 hw) (S13 hw) (R_13_29 hw G f164_0 o166 (own_d16 rfl rfl rfl rfl hs162)) D3_259 0 rfl).pv
                  replace k := k |>.ifNo D3_262  |>.aload D3_265 rfl rfl |>.iconst D3_267 1 |>.aload D3_268 rfl rfl |>.iload D3_270 rfl
                  replace k := (k.callS (w_60 hw) (S13 hw) (R_13_30 hw G f164_0 o166 (own_d46 rfl rfl rfl rfl hc101_167)) D3_272 0 rfl).pv
                  replace k := k |>.ifNo D3_275  |>.aload D3_278 rfl rfl |>.iconst D3_280 2 |>.aload D3_281 rfl rfl |>.iload D3_283 rfl
                  replace k := (k.callS (w_60 hw) (S13 hw) (R_13_31 hw G f164_0 o166 (own_d62 rfl rfl rfl rfl hc124_177)) D3_285 0 rfl).pv
                  replace k := k |>.ifNo D3_288  |>.aload D3_291 rfl rfl |>.iconst D3_293 3 |>.aload D3_294 rfl rfl |>.iload D3_296 rfl
                  replace k := (k.callS (w_60 hw) (S13 hw) (R_13_32 hw G f164_0 o166 (own_d63 rfl rfl rfl rfl hs163)) D3_298 0 rfl).pv
                  replace k := k |>.ifNo D3_301  |>.iconst D3_304 1 |>.goto D3_305
                  exact k.retN (t := .boolean) D3_309 rfl (by simp) (z' := 1) (by decide) rfl
                · replace k := k |>.ifYes D3_124 ((if0 _ _).trans (feq hc124_177).2) |>.iconst D3_131 0 |>.istore D3_132 sto11 |>.iconst D3_134 3 |>.iload D3_135 rfl |>.icmpNo D3_137 (tlt (own_d60 rfl rfl hs17 hs28 hs50 hs88)).2.1 |>.aload D3_140 rfl rfl |>.iconst D3_142 3 |>.cald o166 D3_143 (i := 3) (by decide) big3
                  replace k := (k.callS (w_100 hw) (S1 hw) (R_own_blank hw G) D3_144 0 rfl).pv
                  replace k := k |>.ifNo D3_147 ((if0 _ _).trans (teq (own_d61 rfl rfl rfl rfl rfl hs163)).2) |>.iconst D3_150 1 |>.goto D3_151 |>.istore D3_155 sto12 |>.iload D3_157 rfl |>.ifNo D3_159  |>.iconst D3_162 0 |>.goto D3_163 |>.istore D3_195 sto13 |>.iload D3_197 rfl |>.ifNo D3_199  |>.iconst D3_202 4
                  replace k := k |>.goto D3_203 |>.istore D3_235 sto14 |>.aload D3_237 rfl rfl
                  replace k := (k.callV (w_59 hw) (V_Y8_8_String hw) f164_0.exa (R_len4 hw G f164_0) D3_239 0 rfl).pv
                  replace k := k |>.iload D3_242 rfl |>.iload D3_244 rfl |>.isub D3_246 (z := 4) |>.icmpYes D3_247  |>.aload D3_252 rfl rfl |>.iconst D3_254 0 |>.aload D3_255 rfl rfl |>.iload D3_257 rfl
                  replace k := (k.callS (w_60 hw) (S13 hw) (R_13_29 hw G f164_0 o166 (own_d16 rfl rfl rfl rfl hs162)) D3_259 0 rfl).pv
                  replace k := k |>.ifNo D3_262  |>.aload D3_265 rfl rfl |>.iconst D3_267 1 |>.aload D3_268 rfl rfl |>.iload D3_270 rfl
                  replace k := (k.callS (w_60 hw) (S13 hw) (R_13_30 hw G f164_0 o166 (own_d46 rfl rfl rfl rfl hc101_167)) D3_272 0 rfl).pv
                  replace k := k |>.ifNo D3_275  |>.aload D3_278 rfl rfl |>.iconst D3_280 2 |>.aload D3_281 rfl rfl |>.iload D3_283 rfl
                  replace k := (k.callS (w_60 hw) (S13 hw) (R_13_31 hw G f164_0 o166 (own_d64 rfl rfl rfl rfl hc124_177)) D3_285 0 rfl).pv
                  replace k := k |>.ifNo D3_288  |>.aload D3_291 rfl rfl |>.iconst D3_293 3 |>.aload D3_294 rfl rfl |>.iload D3_296 rfl
                  replace k := (k.callS (w_60 hw) (S13 hw) (R_13_32 hw G f164_0 o166 (own_d63 rfl rfl rfl rfl hs163)) D3_298 0 rfl).pv
                  replace k := k |>.ifNo D3_301  |>.iconst D3_304 1 |>.goto D3_305
                  exact k.retN (t := .boolean) D3_309 rfl (by simp) (z' := 1) (by decide) rfl
            · by_cases hs186 : (bl (nar .char (nar .char (drw p4)))) = 0
              · have cv188 := k.chv
                obtain ⟨_, h187, K187, ⟨u1_187, u2_187, rfl, f187_0⟩, k⟩ := (k.callS (w_30 hw) (S7 hw) (R_7_32 hw G S160 hs162 hs163 hs186 (own_d65 rfl rfl rfl rfl hs163)) D3_60 0 rfl).kv all0 (Or.inr all0)
                replace k := k |>.astore D3_63 rfl sto8 |>.iconst D3_65 0 |>.iload D3_66 rfl |>.icmpNo D3_68 (tlt (own_d57 rfl rfl hs17 hs28 hs50 hs88)).2.1 |>.aload D3_71 rfl rfl |>.iconst D3_73 0
                have o189 := ((o156.keep K155 nin0).keep K160 (ninS (nlt O14.lt g15) nin0)).keep K187 nin0
                replace k := k |>.cald o189 D3_74 (i := 0) (by decide) big0
                replace k := (k.callS (w_100 hw) (S1 hw) (R_own_blank hw G) D3_75 0 rfl).pv
                replace k := k |>.ifNo D3_78 ((if0 _ _).trans (teq (own_d12 rfl rfl rfl rfl rfl hs162)).2) |>.iconst D3_81 1 |>.goto D3_82 |>.istore D3_86 sto9 |>.iconst D3_88 1 |>.iload D3_89 rfl |>.icmpNo D3_91 (tlt (own_d58 rfl rfl hs17 hs28 hs50 hs88)).2.1 |>.aload D3_94 rfl rfl |>.iconst D3_96 1 |>.cald o189 D3_97 (i := 1) (by decide) big1
                replace k := (k.callS (w_100 hw) (S1 hw) (R_own_blank hw G) D3_98 0 rfl).pv
                by_cases hc101_190 : (bl (nar .char (drw p3))) = 0
                · replace k := k |>.ifNo D3_101 ((if0 _ _).trans (teq hc101_190).2) |>.iconst D3_104 1 |>.goto D3_105 |>.istore D3_109 sto10 |>.iconst D3_111 2 |>.iload D3_112 rfl |>.icmpNo D3_114 (tlt (own_d59 rfl rfl hs17 hs28 hs50 hs88)).2.1 |>.aload D3_117 rfl rfl |>.iconst D3_119 2 |>.cald o189 D3_120 (i := 2) (by decide) big2
                  replace k := (k.callS (w_100 hw) (S1 hw) (R_own_blank hw G) D3_121 0 rfl).pv
                  replace k := k |>.ifNo D3_124 ((if0 _ _).trans (teq (own_d42 rfl rfl rfl rfl rfl hs186)).2) |>.iconst D3_127 1 |>.goto D3_128 |>.istore D3_132 sto11 |>.iconst D3_134 3 |>.iload D3_135 rfl |>.icmpNo D3_137 (tlt (own_d60 rfl rfl hs17 hs28 hs50 hs88)).2.1 |>.aload D3_140 rfl rfl |>.iconst D3_142 3 |>.cald o189 D3_143 (i := 3) (by decide) big3
                  replace k := (k.callS (w_100 hw) (S1 hw) (R_own_blank hw G) D3_144 0 rfl).pv
                  replace k := k |>.ifYes D3_147 ((if0 _ _).trans (feq (own_d66 rfl rfl rfl rfl rfl hs163)).2) |>.iconst D3_154 0 |>.istore D3_155 sto12 |>.iload D3_157 rfl |>.ifNo D3_159  |>.iconst D3_162 0 |>.goto D3_163 |>.istore D3_195 sto13 |>.iload D3_197 rfl |>.ifYes D3_199  |>.iload D3_206 rfl |>.ifNo D3_208 
                  replace k := k |>.iconst D3_211 3 |>.goto D3_212 |>.istore D3_235 sto14 |>.aload D3_237 rfl rfl
                  replace k := (k.callV (w_59 hw) (V_Y8_8_String hw) f187_0.exa (R_len3 hw G f187_0) D3_239 0 rfl).pv
                  replace k := k |>.iload D3_242 rfl |>.iload D3_244 rfl |>.isub D3_246 (z := 3) |>.icmpYes D3_247  |>.aload D3_252 rfl rfl |>.iconst D3_254 0 |>.aload D3_255 rfl rfl |>.iload D3_257 rfl
                  replace k := (k.callS (w_60 hw) (S13 hw) (R_13_17 hw G f187_0 o189 (own_d16 rfl rfl rfl rfl hs162)) D3_259 0 rfl).pv
                  replace k := k |>.ifNo D3_262  |>.aload D3_265 rfl rfl |>.iconst D3_267 1 |>.aload D3_268 rfl rfl |>.iload D3_270 rfl
                  replace k := (k.callS (w_60 hw) (S13 hw) (R_13_18 hw G f187_0 o189 (own_d44 rfl rfl rfl rfl hc101_190)) D3_272 0 rfl).pv
                  replace k := k |>.ifNo D3_275  |>.aload D3_278 rfl rfl |>.iconst D3_280 2 |>.aload D3_281 rfl rfl |>.iload D3_283 rfl
                  replace k := (k.callS (w_60 hw) (S13 hw) (R_13_19 hw G f187_0 o189 (own_d45 rfl rfl rfl rfl hs186)) D3_285 0 rfl).pv
                  replace k := k |>.ifNo D3_288  |>.aload D3_291 rfl rfl |>.iconst D3_293 3 |>.aload D3_294 rfl rfl |>.iload D3_296 rfl
                  replace k := (k.callS (w_60 hw) (S13 hw) (R_13_20 hw G f187_0) D3_298 0 rfl).pv
                  replace k := k |>.ifNo D3_301  |>.iconst D3_304 1 |>.goto D3_305
                  exact k.retN (t := .boolean) D3_309 rfl (by simp) (z' := 1) (by decide) rfl
                · replace k := k |>.ifYes D3_101 ((if0 _ _).trans (feq hc101_190).2) |>.iconst D3_108 0 |>.istore D3_109 sto10 |>.iconst D3_111 2 |>.iload D3_112 rfl |>.icmpNo D3_114 (tlt (own_d59 rfl rfl hs17 hs28 hs50 hs88)).2.1 |>.aload D3_117 rfl rfl |>.iconst D3_119 2 |>.cald o189 D3_120 (i := 2) (by decide) big2
                  replace k := (k.callS (w_100 hw) (S1 hw) (R_own_blank hw G) D3_121 0 rfl).pv
                  replace k := k |>.ifNo D3_124 ((if0 _ _).trans (teq (own_d42 rfl rfl rfl rfl rfl hs186)).2) |>.iconst D3_127 1 |>.goto D3_128 |>.istore D3_132 sto11 |>.iconst D3_134 3 |>.iload D3_135 rfl |>.icmpNo D3_137 (tlt (own_d60 rfl rfl hs17 hs28 hs50 hs88)).2.1 |>.aload D3_140 rfl rfl |>.iconst D3_142 3 |>.cald o189 D3_143 (i := 3) (by decide) big3
                  replace k := (k.callS (w_100 hw) (S1 hw) (R_own_blank hw G) D3_144 0 rfl).pv
                  replace k := k |>.ifYes D3_147 ((if0 _ _).trans (feq (own_d66 rfl rfl rfl rfl rfl hs163)).2) |>.iconst D3_154 0 |>.istore D3_155 sto12 |>.iload D3_157 rfl |>.ifNo D3_159  |>.iconst D3_162 0 |>.goto D3_163 |>.istore D3_195 sto13 |>.iload D3_197 rfl |>.ifYes D3_199  |>.iload D3_206 rfl |>.ifNo D3_208 
                  replace k := k |>.iconst D3_211 3 |>.goto D3_212 |>.istore D3_235 sto14 |>.aload D3_237 rfl rfl
                  replace k := (k.callV (w_59 hw) (V_Y8_8_String hw) f187_0.exa (R_len3 hw G f187_0) D3_239 0 rfl).pv
                  replace k := k |>.iload D3_242 rfl |>.iload D3_244 rfl |>.isub D3_246 (z := 3) |>.icmpYes D3_247  |>.aload D3_252 rfl rfl |>.iconst D3_254 0 |>.aload D3_255 rfl rfl |>.iload D3_257 rfl
                  replace k := (k.callS (w_60 hw) (S13 hw) (R_13_17 hw G f187_0 o189 (own_d16 rfl rfl rfl rfl hs162)) D3_259 0 rfl).pv
                  replace k := k |>.ifNo D3_262  |>.aload D3_265 rfl rfl |>.iconst D3_267 1 |>.aload D3_268 rfl rfl |>.iload D3_270 rfl
                  replace k := (k.callS (w_60 hw) (S13 hw) (R_13_18 hw G f187_0 o189 (own_d46 rfl rfl rfl rfl hc101_190)) D3_272 0 rfl).pv
                  replace k := k |>.ifNo D3_275  |>.aload D3_278 rfl rfl |>.iconst D3_280 2 |>.aload D3_281 rfl rfl |>.iload D3_283 rfl
                  replace k := (k.callS (w_60 hw) (S13 hw) (R_13_19 hw G f187_0 o189 (own_d45 rfl rfl rfl rfl hs186)) D3_285 0 rfl).pv
                  replace k := k |>.ifNo D3_288  |>.aload D3_291 rfl rfl |>.iconst D3_293 3 |>.aload D3_294 rfl rfl |>.iload D3_296 rfl
                  replace k := (k.callS (w_60 hw) (S13 hw) (R_13_20 hw G f187_0) D3_298 0 rfl).pv
                  replace k := k |>.ifNo D3_301  |>.iconst D3_304 1 |>.goto D3_305
                  exact k.retN (t := .boolean) D3_309 rfl (by simp) (z' := 1) (by decide) rfl
              · by_cases hs199 : (bl (nar .char (nar .char (drw p3)))) = 0
                · have cv201 := k.chv
                  obtain ⟨_, h200, K200, ⟨u1_200, u2_200, rfl, f200_0⟩, k⟩ := (k.callS (w_30 hw) (S7 hw) (R_7_34 hw G S160 hs162 hs163 hs186 hs199 (own_d48 rfl rfl rfl rfl hs186) (own_d65 rfl rfl rfl rfl hs163)) D3_60 0 rfl).kv all0 (Or.inr all0)
                  replace k := k |>.astore D3_63 rfl sto8 |>.iconst D3_65 0 |>.iload D3_66 rfl |>.icmpNo D3_68 (tlt (own_d57 rfl rfl hs17 hs28 hs50 hs88)).2.1 |>.aload D3_71 rfl rfl |>.iconst D3_73 0
                  have o202 := ((o156.keep K155 nin0).keep K160 (ninS (nlt O14.lt g15) nin0)).keep K200 nin0
                  replace k := k |>.cald o202 D3_74 (i := 0) (by decide) big0
                  replace k := (k.callS (w_100 hw) (S1 hw) (R_own_blank hw G) D3_75 0 rfl).pv
                  replace k := k |>.ifNo D3_78 ((if0 _ _).trans (teq (own_d12 rfl rfl rfl rfl rfl hs162)).2) |>.iconst D3_81 1 |>.goto D3_82 |>.istore D3_86 sto9 |>.iconst D3_88 1 |>.iload D3_89 rfl |>.icmpNo D3_91 (tlt (own_d58 rfl rfl hs17 hs28 hs50 hs88)).2.1 |>.aload D3_94 rfl rfl |>.iconst D3_96 1 |>.cald o202 D3_97 (i := 1) (by decide) big1
                  replace k := (k.callS (w_100 hw) (S1 hw) (R_own_blank hw G) D3_98 0 rfl).pv
                  replace k := k |>.ifNo D3_101 ((if0 _ _).trans (teq (own_d27 rfl rfl rfl rfl rfl hs199)).2) |>.iconst D3_104 1 |>.goto D3_105 |>.istore D3_109 sto10 |>.iconst D3_111 2 |>.iload D3_112 rfl |>.icmpNo D3_114 (tlt (own_d59 rfl rfl hs17 hs28 hs50 hs88)).2.1 |>.aload D3_117 rfl rfl |>.iconst D3_119 2 |>.cald o202 D3_120 (i := 2) (by decide) big2
                  replace k := (k.callS (w_100 hw) (S1 hw) (R_own_blank hw G) D3_121 0 rfl).pv
                  replace k := k |>.ifYes D3_124 ((if0 _ _).trans (feq (own_d49 rfl rfl rfl rfl rfl hs186)).2) |>.iconst D3_131 0 |>.istore D3_132 sto11 |>.iconst D3_134 3 |>.iload D3_135 rfl |>.icmpNo D3_137 (tlt (own_d60 rfl rfl hs17 hs28 hs50 hs88)).2.1 |>.aload D3_140 rfl rfl |>.iconst D3_142 3 |>.cald o202 D3_143 (i := 3) (by decide) big3
                  replace k := (k.callS (w_100 hw) (S1 hw) (R_own_blank hw G) D3_144 0 rfl).pv
                  replace k := k |>.ifYes D3_147 ((if0 _ _).trans (feq (own_d66 rfl rfl rfl rfl rfl hs163)).2) |>.iconst D3_154 0 |>.istore D3_155 sto12 |>.iload D3_157 rfl |>.ifNo D3_159  |>.iconst D3_162 0 |>.goto D3_163 |>.istore D3_195 sto13 |>.iload D3_197 rfl |>.ifYes D3_199  |>.iload D3_206 rfl |>.ifYes D3_208 
                  replace k := k |>.iload D3_215 rfl |>.ifNo D3_217  |>.iconst D3_220 2 |>.goto D3_221 |>.istore D3_235 sto14 |>.aload D3_237 rfl rfl
                  replace k := (k.callV (w_59 hw) (V_Y8_8_String hw) f200_0.exa (R_len2 hw G f200_0) D3_239 0 rfl).pv
                  replace k := k |>.iload D3_242 rfl |>.iload D3_244 rfl |>.isub D3_246 (z := 2) |>.icmpYes D3_247  |>.aload D3_252 rfl rfl |>.iconst D3_254 0 |>.aload D3_255 rfl rfl |>.iload D3_257 rfl
                  replace k := (k.callS (w_60 hw) (S13 hw) (R_13_9 hw G f200_0 o202 (own_d16 rfl rfl rfl rfl hs162)) D3_259 0 rfl).pv
                  replace k := k |>.ifNo D3_262  |>.aload D3_265 rfl rfl |>.iconst D3_267 1 |>.aload D3_268 rfl rfl |>.iload D3_270 rfl
                  replace k := (k.callS (w_60 hw) (S13 hw) (R_13_10 hw G f200_0 o202 (own_d30 rfl rfl rfl rfl hs199)) D3_272 0 rfl).pv
                  replace k := k |>.ifNo D3_275  |>.aload D3_278 rfl rfl |>.iconst D3_280 2 |>.aload D3_281 rfl rfl |>.iload D3_283 rfl
                  replace k := (k.callS (w_60 hw) (S13 hw) (R_13_11 hw G f200_0) D3_285 0 rfl).pv
                  replace k := k |>.ifNo D3_288  |>.aload D3_291 rfl rfl |>.iconst D3_293 3 |>.aload D3_294 rfl rfl |>.iload D3_296 rfl
                  replace k := (k.callS (w_60 hw) (S13 hw) (R_13_12 hw G f200_0) D3_298 0 rfl).pv
                  replace k := k |>.ifNo D3_301  |>.iconst D3_304 1 |>.goto D3_305
                  exact k.retN (t := .boolean) D3_309 rfl (by simp) (z' := 1) (by decide) rfl
                · have cv208 := k.chv
                  obtain ⟨_, h207, K207, ⟨u1_207, u2_207, rfl, f207_0⟩, k⟩ := (k.callS (w_30 hw) (S7 hw) (R_7_35 hw G S160 hs162 hs163 hs186 hs199 (own_d31 rfl rfl rfl rfl hs199) (own_d48 rfl rfl rfl rfl hs186) (own_d65 rfl rfl rfl rfl hs163)) D3_60 0 rfl).kv all0 (Or.inr all0)
                  replace k := k |>.astore D3_63 rfl sto8 |>.iconst D3_65 0 |>.iload D3_66 rfl |>.icmpNo D3_68 (tlt (own_d57 rfl rfl hs17 hs28 hs50 hs88)).2.1 |>.aload D3_71 rfl rfl |>.iconst D3_73 0
                  have o209 := ((o156.keep K155 nin0).keep K160 (ninS (nlt O14.lt g15) nin0)).keep K207 nin0
                  replace k := k |>.cald o209 D3_74 (i := 0) (by decide) big0
                  replace k := (k.callS (w_100 hw) (S1 hw) (R_own_blank hw G) D3_75 0 rfl).pv
                  replace k := k |>.ifNo D3_78 ((if0 _ _).trans (teq (own_d12 rfl rfl rfl rfl rfl hs162)).2) |>.iconst D3_81 1 |>.goto D3_82 |>.istore D3_86 sto9 |>.iconst D3_88 1 |>.iload D3_89 rfl |>.icmpNo D3_91 (tlt (own_d58 rfl rfl hs17 hs28 hs50 hs88)).2.1 |>.aload D3_94 rfl rfl |>.iconst D3_96 1 |>.cald o209 D3_97 (i := 1) (by decide) big1
                  replace k := (k.callS (w_100 hw) (S1 hw) (R_own_blank hw G) D3_98 0 rfl).pv
                  replace k := k |>.ifYes D3_101 ((if0 _ _).trans (feq (own_d32 rfl rfl rfl rfl rfl hs199)).2) |>.iconst D3_108 0 |>.istore D3_109 sto10 |>.iconst D3_111 2 |>.iload D3_112 rfl |>.icmpNo D3_114 (tlt (own_d59 rfl rfl hs17 hs28 hs50 hs88)).2.1 |>.aload D3_117 rfl rfl |>.iconst D3_119 2 |>.cald o209 D3_120 (i := 2) (by decide) big2
                  replace k := (k.callS (w_100 hw) (S1 hw) (R_own_blank hw G) D3_121 0 rfl).pv
                  replace k := k |>.ifYes D3_124 ((if0 _ _).trans (feq (own_d49 rfl rfl rfl rfl rfl hs186)).2) |>.iconst D3_131 0 |>.istore D3_132 sto11 |>.iconst D3_134 3 |>.iload D3_135 rfl |>.icmpNo D3_137 (tlt (own_d60 rfl rfl hs17 hs28 hs50 hs88)).2.1 |>.aload D3_140 rfl rfl |>.iconst D3_142 3 |>.cald o209 D3_143 (i := 3) (by decide) big3
                  replace k := (k.callS (w_100 hw) (S1 hw) (R_own_blank hw G) D3_144 0 rfl).pv
                  replace k := k |>.ifYes D3_147 ((if0 _ _).trans (feq (own_d66 rfl rfl rfl rfl rfl hs163)).2) |>.iconst D3_154 0 |>.istore D3_155 sto12 |>.iload D3_157 rfl |>.ifNo D3_159  |>.iconst D3_162 0 |>.goto D3_163 |>.istore D3_195 sto13 |>.iload D3_197 rfl |>.ifYes D3_199  |>.iload D3_206 rfl |>.ifYes D3_208 
                  replace k := k |>.iload D3_215 rfl |>.ifYes D3_217  |>.iload D3_224 rfl |>.ifNo D3_226  |>.iconst D3_229 1 |>.goto D3_230 |>.istore D3_235 sto14 |>.aload D3_237 rfl rfl
                  replace k := (k.callV (w_59 hw) (V_Y8_8_String hw) f207_0.exa (R_len1 hw G f207_0) D3_239 0 rfl).pv
                  replace k := k |>.iload D3_242 rfl |>.iload D3_244 rfl |>.isub D3_246 (z := 1) |>.icmpYes D3_247  |>.aload D3_252 rfl rfl |>.iconst D3_254 0 |>.aload D3_255 rfl rfl |>.iload D3_257 rfl
                  replace k := (k.callS (w_60 hw) (S13 hw) (R_13_5 hw G f207_0 o209 (own_d16 rfl rfl rfl rfl hs162)) D3_259 0 rfl).pv
                  replace k := k |>.ifNo D3_262  |>.aload D3_265 rfl rfl |>.iconst D3_267 1 |>.aload D3_268 rfl rfl |>.iload D3_270 rfl
                  replace k := (k.callS (w_60 hw) (S13 hw) (R_13_6 hw G f207_0) D3_272 0 rfl).pv
                  replace k := k |>.ifNo D3_275  |>.aload D3_278 rfl rfl |>.iconst D3_280 2 |>.aload D3_281 rfl rfl |>.iload D3_283 rfl
                  replace k := (k.callS (w_60 hw) (S13 hw) (R_13_7 hw G f207_0) D3_285 0 rfl).pv
                  replace k := k |>.ifNo D3_288  |>.aload D3_291 rfl rfl |>.iconst D3_293 3 |>.aload D3_294 rfl rfl |>.iload D3_296 rfl
                  replace k := (k.callS (w_60 hw) (S13 hw) (R_13_8 hw G f207_0) D3_298 0 rfl).pv
                  replace k := k |>.ifNo D3_301  |>.iconst D3_304 1 |>.goto D3_305
                  exact k.retN (t := .boolean) D3_309 rfl (by simp) (z' := 1) (by decide) rfl
          · by_cases hs214 : (bl (nar .char (nar .char (drw p3)))) = 0
            · by_cases hs215 : (bl (nar .char (nar .char (drw p5)))) = 0
              · have cv217 := k.chv
                obtain ⟨_, h216, K216, ⟨u1_216, u2_216, rfl, f216_0⟩, k⟩ := (k.callS (w_30 hw) (S7 hw) (R_7_38 hw G S160 hs162 hs214 hs215 (own_d17 rfl rfl rfl rfl hs162)) D3_60 0 rfl).kv all0 (Or.inr all0)
                replace k := k |>.astore D3_63 rfl sto8 |>.iconst D3_65 0 |>.iload D3_66 rfl |>.icmpNo D3_68 (tlt (own_d57 rfl rfl hs17 hs28 hs50 hs88)).2.1 |>.aload D3_71 rfl rfl |>.iconst D3_73 0
                have o218 := ((o156.keep K155 nin0).keep K160 (ninS (nlt O14.lt g15) nin0)).keep K216 nin0
                replace k := k |>.cald o218 D3_74 (i := 0) (by decide) big0
                replace k := (k.callS (w_100 hw) (S1 hw) (R_own_blank hw G) D3_75 0 rfl).pv
                replace k := k |>.ifYes D3_78 ((if0 _ _).trans (feq (own_d18 rfl rfl rfl rfl rfl hs162)).2) |>.iconst D3_85 0 |>.istore D3_86 sto9 |>.iconst D3_88 1 |>.iload D3_89 rfl |>.icmpNo D3_91 (tlt (own_d58 rfl rfl hs17 hs28 hs50 hs88)).2.1 |>.aload D3_94 rfl rfl |>.iconst D3_96 1 |>.cald o218 D3_97 (i := 1) (by decide) big1
                replace k := (k.callS (w_100 hw) (S1 hw) (R_own_blank hw G) D3_98 0 rfl).pv
                replace k := k |>.ifNo D3_101 ((if0 _ _).trans (teq (own_d27 rfl rfl rfl rfl rfl hs214)).2) |>.iconst D3_104 1 |>.goto D3_105 |>.istore D3_109 sto10 |>.iconst D3_111 2 |>.iload D3_112 rfl |>.icmpNo D3_114 (tlt (own_d59 rfl rfl hs17 hs28 hs50 hs88)).2.1 |>.aload D3_117 rfl rfl |>.iconst D3_119 2 |>.cald o218 D3_120 (i := 2) (by decide) big2
                replace k := (k.callS (w_100 hw) (S1 hw) (R_own_blank hw G) D3_121 0 rfl).pv
                by_cases hc124_219 : (bl (nar .char (drw p4))) = 0
                · replace k := k |>.ifNo D3_124 ((if0 _ _).trans (teq hc124_219).2) |>.iconst D3_127 1 |>.goto D3_128 |>.istore D3_132 sto11 |>.iconst D3_134 3 |>.iload D3_135 rfl |>.icmpNo D3_137 (tlt (own_d60 rfl rfl hs17 hs28 hs50 hs88)).2.1 |>.aload D3_140 rfl rfl |>.iconst D3_142 3 |>.cald o218 D3_143 (i := 3) (by decide) big3
                  replace k := (k.callS (w_100 hw) (S1 hw) (R_own_blank hw G) D3_144 0 rfl).pv
                  replace k := k |>.ifNo D3_147 ((if0 _ _).trans (teq (own_d61 rfl rfl rfl rfl rfl hs215)).2) |>.iconst D3_150 1 |>.goto D3_151 |>.istore D3_155 sto12 |>.iload D3_157 rfl |>.ifYes D3_159  |>.iload D3_166 rfl |>.ifNo D3_168  |>.iconst D3_171 1 |>.goto D3_172 |>.istore D3_195 sto13 |>.iload D3_197 rfl
                  replace k := k |>.ifNo D3_199  |>.iconst D3_202 4 |>.goto D3_203 |>.istore D3_235 sto14 |>.aload D3_237 rfl rfl
                  replace k := (k.callV (w_59 hw) (V_Y8_8_String hw) f216_0.exa (R_len3 hw G f216_0) D3_239 0 rfl).pv
                  replace k := k |>.iload D3_242 rfl |>.iload D3_244 rfl |>.isub D3_246 (z := 3) |>.icmpYes D3_247  |>.aload D3_252 rfl rfl |>.iconst D3_254 0 |>.aload D3_255 rfl rfl |>.iload D3_257 rfl
                  replace k := (k.callS (w_60 hw) (S13 hw) (R_13_33 hw G f216_0 o218 (own_d30 rfl rfl rfl rfl hs214)) D3_259 0 rfl).pv
                  replace k := k |>.ifNo D3_262  |>.aload D3_265 rfl rfl |>.iconst D3_267 1 |>.aload D3_268 rfl rfl |>.iload D3_270 rfl
                  replace k := (k.callS (w_60 hw) (S13 hw) (R_13_34 hw G f216_0 o218 (own_d62 rfl rfl rfl rfl hc124_219)) D3_272 0 rfl).pv
                  replace k := k |>.ifNo D3_275  |>.aload D3_278 rfl rfl |>.iconst D3_280 2 |>.aload D3_281 rfl rfl |>.iload D3_283 rfl
                  replace k := (k.callS (w_60 hw) (S13 hw) (R_13_35 hw G f216_0 o218 (own_d63 rfl rfl rfl rfl hs215)) D3_285 0 rfl).pv
                  replace k := k |>.ifNo D3_288  |>.aload D3_291 rfl rfl |>.iconst D3_293 3 |>.aload D3_294 rfl rfl |>.iload D3_296 rfl
                  replace k := (k.callS (w_60 hw) (S13 hw) (R_13_36 hw G f216_0) D3_298 0 rfl).pv
                  replace k := k |>.ifNo D3_301  |>.iconst D3_304 1 |>.goto D3_305
                  exact k.retN (t := .boolean) D3_309 rfl (by simp) (z' := 1) (by decide) rfl
                · replace k := k |>.ifYes D3_124 ((if0 _ _).trans (feq hc124_219).2) |>.iconst D3_131 0 |>.istore D3_132 sto11 |>.iconst D3_134 3 |>.iload D3_135 rfl |>.icmpNo D3_137 (tlt (own_d60 rfl rfl hs17 hs28 hs50 hs88)).2.1 |>.aload D3_140 rfl rfl |>.iconst D3_142 3 |>.cald o218 D3_143 (i := 3) (by decide) big3
                  replace k := (k.callS (w_100 hw) (S1 hw) (R_own_blank hw G) D3_144 0 rfl).pv
                  replace k := k |>.ifNo D3_147 ((if0 _ _).trans (teq (own_d61 rfl rfl rfl rfl rfl hs215)).2) |>.iconst D3_150 1 |>.goto D3_151 |>.istore D3_155 sto12 |>.iload D3_157 rfl |>.ifYes D3_159  |>.iload D3_166 rfl |>.ifNo D3_168  |>.iconst D3_171 1 |>.goto D3_172 |>.istore D3_195 sto13 |>.iload D3_197 rfl
                  replace k := k |>.ifNo D3_199  |>.iconst D3_202 4 |>.goto D3_203 |>.istore D3_235 sto14 |>.aload D3_237 rfl rfl
                  replace k := (k.callV (w_59 hw) (V_Y8_8_String hw) f216_0.exa (R_len3 hw G f216_0) D3_239 0 rfl).pv
                  replace k := k |>.iload D3_242 rfl |>.iload D3_244 rfl |>.isub D3_246 (z := 3) |>.icmpYes D3_247  |>.aload D3_252 rfl rfl |>.iconst D3_254 0 |>.aload D3_255 rfl rfl |>.iload D3_257 rfl
                  replace k := (k.callS (w_60 hw) (S13 hw) (R_13_33 hw G f216_0 o218 (own_d30 rfl rfl rfl rfl hs214)) D3_259 0 rfl).pv
                  replace k := k |>.ifNo D3_262  |>.aload D3_265 rfl rfl |>.iconst D3_267 1 |>.aload D3_268 rfl rfl |>.iload D3_270 rfl
                  replace k := (k.callS (w_60 hw) (S13 hw) (R_13_34 hw G f216_0 o218 (own_d64 rfl rfl rfl rfl hc124_219)) D3_272 0 rfl).pv
                  replace k := k |>.ifNo D3_275  |>.aload D3_278 rfl rfl |>.iconst D3_280 2 |>.aload D3_281 rfl rfl |>.iload D3_283 rfl
                  replace k := (k.callS (w_60 hw) (S13 hw) (R_13_35 hw G f216_0 o218 (own_d63 rfl rfl rfl rfl hs215)) D3_285 0 rfl).pv
                  replace k := k |>.ifNo D3_288  |>.aload D3_291 rfl rfl |>.iconst D3_293 3 |>.aload D3_294 rfl rfl |>.iload D3_296 rfl
                  replace k := (k.callS (w_60 hw) (S13 hw) (R_13_36 hw G f216_0) D3_298 0 rfl).pv
                  replace k := k |>.ifNo D3_301  |>.iconst D3_304 1 |>.goto D3_305
                  exact k.retN (t := .boolean) D3_309 rfl (by simp) (z' := 1) (by decide) rfl
              · by_cases hs228 : (bl (nar .char (nar .char (drw p4)))) = 0
                · have cv230 := k.chv
                  obtain ⟨_, h229, K229, ⟨u1_229, u2_229, rfl, f229_0⟩, k⟩ := (k.callS (w_30 hw) (S7 hw) (R_7_40 hw G S160 hs162 hs214 hs215 hs228 (own_d17 rfl rfl rfl rfl hs162) (own_d65 rfl rfl rfl rfl hs215)) D3_60 0 rfl).kv all0 (Or.inr all0)
                  replace k := k |>.astore D3_63 rfl sto8 |>.iconst D3_65 0 |>.iload D3_66 rfl |>.icmpNo D3_68 (tlt (own_d57 rfl rfl hs17 hs28 hs50 hs88)).2.1 |>.aload D3_71 rfl rfl |>.iconst D3_73 0
                  have o231 := ((o156.keep K155 nin0).keep K160 (ninS (nlt O14.lt g15) nin0)).keep K229 nin0
                  replace k := k |>.cald o231 D3_74 (i := 0) (by decide) big0
                  replace k := (k.callS (w_100 hw) (S1 hw) (R_own_blank hw G) D3_75 0 rfl).pv
                  replace k := k |>.ifYes D3_78 ((if0 _ _).trans (feq (own_d18 rfl rfl rfl rfl rfl hs162)).2) |>.iconst D3_85 0 |>.istore D3_86 sto9 |>.iconst D3_88 1 |>.iload D3_89 rfl |>.icmpNo D3_91 (tlt (own_d58 rfl rfl hs17 hs28 hs50 hs88)).2.1 |>.aload D3_94 rfl rfl |>.iconst D3_96 1 |>.cald o231 D3_97 (i := 1) (by decide) big1
                  replace k := (k.callS (w_100 hw) (S1 hw) (R_own_blank hw G) D3_98 0 rfl).pv
                  replace k := k |>.ifNo D3_101 ((if0 _ _).trans (teq (own_d27 rfl rfl rfl rfl rfl hs214)).2) |>.iconst D3_104 1 |>.goto D3_105 |>.istore D3_109 sto10 |>.iconst D3_111 2 |>.iload D3_112 rfl |>.icmpNo D3_114 (tlt (own_d59 rfl rfl hs17 hs28 hs50 hs88)).2.1 |>.aload D3_117 rfl rfl |>.iconst D3_119 2 |>.cald o231 D3_120 (i := 2) (by decide) big2
                  replace k := (k.callS (w_100 hw) (S1 hw) (R_own_blank hw G) D3_121 0 rfl).pv
                  replace k := k |>.ifNo D3_124 ((if0 _ _).trans (teq (own_d42 rfl rfl rfl rfl rfl hs228)).2) |>.iconst D3_127 1 |>.goto D3_128 |>.istore D3_132 sto11 |>.iconst D3_134 3 |>.iload D3_135 rfl |>.icmpNo D3_137 (tlt (own_d60 rfl rfl hs17 hs28 hs50 hs88)).2.1 |>.aload D3_140 rfl rfl |>.iconst D3_142 3 |>.cald o231 D3_143 (i := 3) (by decide) big3
                  replace k := (k.callS (w_100 hw) (S1 hw) (R_own_blank hw G) D3_144 0 rfl).pv
                  replace k := k |>.ifYes D3_147 ((if0 _ _).trans (feq (own_d66 rfl rfl rfl rfl rfl hs215)).2) |>.iconst D3_154 0 |>.istore D3_155 sto12 |>.iload D3_157 rfl |>.ifYes D3_159  |>.iload D3_166 rfl |>.ifNo D3_168  |>.iconst D3_171 1 |>.goto D3_172 |>.istore D3_195 sto13 |>.iload D3_197 rfl |>.ifYes D3_199 
                  replace k := k |>.iload D3_206 rfl |>.ifNo D3_208  |>.iconst D3_211 3 |>.goto D3_212 |>.istore D3_235 sto14 |>.aload D3_237 rfl rfl
                  replace k := (k.callV (w_59 hw) (V_Y8_8_String hw) f229_0.exa (R_len2 hw G f229_0) D3_239 0 rfl).pv
                  replace k := k |>.iload D3_242 rfl |>.iload D3_244 rfl |>.isub D3_246 (z := 2) |>.icmpYes D3_247  |>.aload D3_252 rfl rfl |>.iconst D3_254 0 |>.aload D3_255 rfl rfl |>.iload D3_257 rfl
                  replace k := (k.callS (w_60 hw) (S13 hw) (R_13_21 hw G f229_0 o231 (own_d30 rfl rfl rfl rfl hs214)) D3_259 0 rfl).pv
                  replace k := k |>.ifNo D3_262  |>.aload D3_265 rfl rfl |>.iconst D3_267 1 |>.aload D3_268 rfl rfl |>.iload D3_270 rfl
                  replace k := (k.callS (w_60 hw) (S13 hw) (R_13_22 hw G f229_0 o231 (own_d45 rfl rfl rfl rfl hs228)) D3_272 0 rfl).pv
                  replace k := k |>.ifNo D3_275  |>.aload D3_278 rfl rfl |>.iconst D3_280 2 |>.aload D3_281 rfl rfl |>.iload D3_283 rfl
                  replace k := (k.callS (w_60 hw) (S13 hw) (R_13_23 hw G f229_0) D3_285 0 rfl).pv
                  replace k := k |>.ifNo D3_288  |>.aload D3_291 rfl rfl |>.iconst D3_293 3 |>.aload D3_294 rfl rfl |>.iload D3_296 rfl
                  replace k := (k.callS (w_60 hw) (S13 hw) (R_13_24 hw G f229_0) D3_298 0 rfl).pv
                  replace k := k |>.ifNo D3_301  |>.iconst D3_304 1 |>.goto D3_305
                  exact k.retN (t := .boolean) D3_309 rfl (by simp) (z' := 1) (by decide) rfl
                · have cv237 := k.chv
                  obtain ⟨_, h236, K236, ⟨u1_236, u2_236, rfl, f236_0⟩, k⟩ := (k.callS (w_30 hw) (S7 hw) (R_7_41 hw G S160 hs162 hs214 hs215 hs228 (own_d17 rfl rfl rfl rfl hs162) (own_d48 rfl rfl rfl rfl hs228) (own_d65 rfl rfl rfl rfl hs215)) D3_60 0 rfl).kv all0 (Or.inr all0)
                  replace k := k |>.astore D3_63 rfl sto8 |>.iconst D3_65 0 |>.iload D3_66 rfl |>.icmpNo D3_68 (tlt (own_d57 rfl rfl hs17 hs28 hs50 hs88)).2.1 |>.aload D3_71 rfl rfl |>.iconst D3_73 0
                  have o238 := ((o156.keep K155 nin0).keep K160 (ninS (nlt O14.lt g15) nin0)).keep K236 nin0
                  replace k := k |>.cald o238 D3_74 (i := 0) (by decide) big0
                  replace k := (k.callS (w_100 hw) (S1 hw) (R_own_blank hw G) D3_75 0 rfl).pv
                  replace k := k |>.ifYes D3_78 ((if0 _ _).trans (feq (own_d18 rfl rfl rfl rfl rfl hs162)).2) |>.iconst D3_85 0 |>.istore D3_86 sto9 |>.iconst D3_88 1 |>.iload D3_89 rfl |>.icmpNo D3_91 (tlt (own_d58 rfl rfl hs17 hs28 hs50 hs88)).2.1 |>.aload D3_94 rfl rfl |>.iconst D3_96 1 |>.cald o238 D3_97 (i := 1) (by decide) big1
                  replace k := (k.callS (w_100 hw) (S1 hw) (R_own_blank hw G) D3_98 0 rfl).pv
                  replace k := k |>.ifNo D3_101 ((if0 _ _).trans (teq (own_d27 rfl rfl rfl rfl rfl hs214)).2) |>.iconst D3_104 1 |>.goto D3_105 |>.istore D3_109 sto10 |>.iconst D3_111 2 |>.iload D3_112 rfl |>.icmpNo D3_114 (tlt (own_d59 rfl rfl hs17 hs28 hs50 hs88)).2.1 |>.aload D3_117 rfl rfl |>.iconst D3_119 2 |>.cald o238 D3_120 (i := 2) (by decide) big2
                  replace k := (k.callS (w_100 hw) (S1 hw) (R_own_blank hw G) D3_121 0 rfl).pv
                  replace k := k |>.ifYes D3_124 ((if0 _ _).trans (feq (own_d49 rfl rfl rfl rfl rfl hs228)).2) |>.iconst D3_131 0 |>.istore D3_132 sto11 |>.iconst D3_134 3 |>.iload D3_135 rfl |>.icmpNo D3_137 (tlt (own_d60 rfl rfl hs17 hs28 hs50 hs88)).2.1 |>.aload D3_140 rfl rfl |>.iconst D3_142 3 |>.cald o238 D3_143 (i := 3) (by decide) big3
                  replace k := (k.callS (w_100 hw) (S1 hw) (R_own_blank hw G) D3_144 0 rfl).pv
                  replace k := k |>.ifYes D3_147 ((if0 _ _).trans (feq (own_d66 rfl rfl rfl rfl rfl hs215)).2) |>.iconst D3_154 0 |>.istore D3_155 sto12 |>.iload D3_157 rfl |>.ifYes D3_159  |>.iload D3_166 rfl |>.ifNo D3_168  |>.iconst D3_171 1 |>.goto D3_172 |>.istore D3_195 sto13 |>.iload D3_197 rfl |>.ifYes D3_199 
                  replace k := k |>.iload D3_206 rfl |>.ifYes D3_208  |>.iload D3_215 rfl |>.ifNo D3_217  |>.iconst D3_220 2 |>.goto D3_221 |>.istore D3_235 sto14 |>.aload D3_237 rfl rfl
                  replace k := (k.callV (w_59 hw) (V_Y8_8_String hw) f236_0.exa (R_len1 hw G f236_0) D3_239 0 rfl).pv
                  replace k := k |>.iload D3_242 rfl |>.iload D3_244 rfl |>.isub D3_246 (z := 1) |>.icmpYes D3_247  |>.aload D3_252 rfl rfl |>.iconst D3_254 0 |>.aload D3_255 rfl rfl |>.iload D3_257 rfl
                  replace k := (k.callS (w_60 hw) (S13 hw) (R_13_13 hw G f236_0 o238 (own_d30 rfl rfl rfl rfl hs214)) D3_259 0 rfl).pv
                  replace k := k |>.ifNo D3_262  |>.aload D3_265 rfl rfl |>.iconst D3_267 1 |>.aload D3_268 rfl rfl |>.iload D3_270 rfl
                  replace k := (k.callS (w_60 hw) (S13 hw) (R_13_14 hw G f236_0) D3_272 0 rfl).pv
                  replace k := k |>.ifNo D3_275  |>.aload D3_278 rfl rfl |>.iconst D3_280 2 |>.aload D3_281 rfl rfl |>.iload D3_283 rfl
                  replace k := (k.callS (w_60 hw) (S13 hw) (R_13_15 hw G f236_0) D3_285 0 rfl).pv
                  replace k := k |>.ifNo D3_288  |>.aload D3_291 rfl rfl |>.iconst D3_293 3 |>.aload D3_294 rfl rfl |>.iload D3_296 rfl
                  replace k := (k.callS (w_60 hw) (S13 hw) (R_13_16 hw G f236_0) D3_298 0 rfl).pv
                  replace k := k |>.ifNo D3_301  |>.iconst D3_304 1 |>.goto D3_305
                  exact k.retN (t := .boolean) D3_309 rfl (by simp) (z' := 1) (by decide) rfl
            · by_cases hs243 : (bl (nar .char (nar .char (drw p4)))) = 0
              · by_cases hs244 : (bl (nar .char (nar .char (drw p5)))) = 0
                · have cv246 := k.chv
                  obtain ⟨_, h245, K245, ⟨u1_245, u2_245, rfl, f245_0⟩, k⟩ := (k.callS (w_30 hw) (S7 hw) (R_7_44 hw G S160 hs162 hs214 hs243 hs244 (own_d17 rfl rfl rfl rfl hs162) (own_d31 rfl rfl rfl rfl hs214)) D3_60 0 rfl).kv all0 (Or.inr all0)
                  replace k := k |>.astore D3_63 rfl sto8 |>.iconst D3_65 0 |>.iload D3_66 rfl |>.icmpNo D3_68 (tlt (own_d57 rfl rfl hs17 hs28 hs50 hs88)).2.1 |>.aload D3_71 rfl rfl |>.iconst D3_73 0
                  have o247 := ((o156.keep K155 nin0).keep K160 (ninS (nlt O14.lt g15) nin0)).keep K245 nin0
                  replace k := k |>.cald o247 D3_74 (i := 0) (by decide) big0
                  replace k := (k.callS (w_100 hw) (S1 hw) (R_own_blank hw G) D3_75 0 rfl).pv
                  replace k := k |>.ifYes D3_78 ((if0 _ _).trans (feq (own_d18 rfl rfl rfl rfl rfl hs162)).2) |>.iconst D3_85 0 |>.istore D3_86 sto9 |>.iconst D3_88 1 |>.iload D3_89 rfl |>.icmpNo D3_91 (tlt (own_d58 rfl rfl hs17 hs28 hs50 hs88)).2.1 |>.aload D3_94 rfl rfl |>.iconst D3_96 1 |>.cald o247 D3_97 (i := 1) (by decide) big1
                  replace k := (k.callS (w_100 hw) (S1 hw) (R_own_blank hw G) D3_98 0 rfl).pv
                  replace k := k |>.ifYes D3_101 ((if0 _ _).trans (feq (own_d32 rfl rfl rfl rfl rfl hs214)).2) |>.iconst D3_108 0 |>.istore D3_109 sto10 |>.iconst D3_111 2 |>.iload D3_112 rfl |>.icmpNo D3_114 (tlt (own_d59 rfl rfl hs17 hs28 hs50 hs88)).2.1 |>.aload D3_117 rfl rfl |>.iconst D3_119 2 |>.cald o247 D3_120 (i := 2) (by decide) big2
                  replace k := (k.callS (w_100 hw) (S1 hw) (R_own_blank hw G) D3_121 0 rfl).pv
                  replace k := k |>.ifNo D3_124 ((if0 _ _).trans (teq (own_d42 rfl rfl rfl rfl rfl hs243)).2) |>.iconst D3_127 1 |>.goto D3_128 |>.istore D3_132 sto11 |>.iconst D3_134 3 |>.iload D3_135 rfl |>.icmpNo D3_137 (tlt (own_d60 rfl rfl hs17 hs28 hs50 hs88)).2.1 |>.aload D3_140 rfl rfl |>.iconst D3_142 3 |>.cald o247 D3_143 (i := 3) (by decide) big3
                  replace k := (k.callS (w_100 hw) (S1 hw) (R_own_blank hw G) D3_144 0 rfl).pv
                  replace k := k |>.ifNo D3_147 ((if0 _ _).trans (teq (own_d61 rfl rfl rfl rfl rfl hs244)).2) |>.iconst D3_150 1 |>.goto D3_151 |>.istore D3_155 sto12 |>.iload D3_157 rfl |>.ifYes D3_159  |>.iload D3_166 rfl |>.ifYes D3_168  |>.iload D3_175 rfl |>.ifNo D3_177  |>.iconst D3_180 2 |>.goto D3_181
                  replace k := k |>.istore D3_195 sto13 |>.iload D3_197 rfl |>.ifNo D3_199  |>.iconst D3_202 4 |>.goto D3_203 |>.istore D3_235 sto14 |>.aload D3_237 rfl rfl
                  replace k := (k.callV (w_59 hw) (V_Y8_8_String hw) f245_0.exa (R_len2 hw G f245_0) D3_239 0 rfl).pv
                  replace k := k |>.iload D3_242 rfl |>.iload D3_244 rfl |>.isub D3_246 (z := 2) |>.icmpYes D3_247  |>.aload D3_252 rfl rfl |>.iconst D3_254 0 |>.aload D3_255 rfl rfl |>.iload D3_257 rfl
                  replace k := (k.callS (w_60 hw) (S13 hw) (R_13_37 hw G f245_0 o247 (own_d45 rfl rfl rfl rfl hs243)) D3_259 0 rfl).pv
                  replace k := k |>.ifNo D3_262  |>.aload D3_265 rfl rfl |>.iconst D3_267 1 |>.aload D3_268 rfl rfl |>.iload D3_270 rfl
                  replace k := (k.callS (w_60 hw) (S13 hw) (R_13_38 hw G f245_0 o247 (own_d63 rfl rfl rfl rfl hs244)) D3_272 0 rfl).pv
                  replace k := k |>.ifNo D3_275  |>.aload D3_278 rfl rfl |>.iconst D3_280 2 |>.aload D3_281 rfl rfl |>.iload D3_283 rfl
                  replace k := (k.callS (w_60 hw) (S13 hw) (R_13_39 hw G f245_0) D3_285 0 rfl).pv
                  replace k := k |>.ifNo D3_288  |>.aload D3_291 rfl rfl |>.iconst D3_293 3 |>.aload D3_294 rfl rfl |>.iload D3_296 rfl
                  replace k := (k.callS (w_60 hw) (S13 hw) (R_13_40 hw G f245_0) D3_298 0 rfl).pv
                  replace k := k |>.ifNo D3_301  |>.iconst D3_304 1 |>.goto D3_305
                  exact k.retN (t := .boolean) D3_309 rfl (by simp) (z' := 1) (by decide) rfl
                · have cv253 := k.chv
                  obtain ⟨_, h252, K252, ⟨u1_252, u2_252, rfl, f252_0⟩, k⟩ := (k.callS (w_30 hw) (S7 hw) (R_7_45 hw G S160 hs162 hs214 hs243 hs244 (own_d17 rfl rfl rfl rfl hs162) (own_d31 rfl rfl rfl rfl hs214) (own_d65 rfl rfl rfl rfl hs244)) D3_60 0 rfl).kv all0 (Or.inr all0)
                  replace k := k |>.astore D3_63 rfl sto8 |>.iconst D3_65 0 |>.iload D3_66 rfl |>.icmpNo D3_68 (tlt (own_d57 rfl rfl hs17 hs28 hs50 hs88)).2.1 |>.aload D3_71 rfl rfl |>.iconst D3_73 0
                  have o254 := ((o156.keep K155 nin0).keep K160 (ninS (nlt O14.lt g15) nin0)).keep K252 nin0
                  replace k := k |>.cald o254 D3_74 (i := 0) (by decide) big0
                  replace k := (k.callS (w_100 hw) (S1 hw) (R_own_blank hw G) D3_75 0 rfl).pv
                  replace k := k |>.ifYes D3_78 ((if0 _ _).trans (feq (own_d18 rfl rfl rfl rfl rfl hs162)).2) |>.iconst D3_85 0 |>.istore D3_86 sto9 |>.iconst D3_88 1 |>.iload D3_89 rfl |>.icmpNo D3_91 (tlt (own_d58 rfl rfl hs17 hs28 hs50 hs88)).2.1 |>.aload D3_94 rfl rfl |>.iconst D3_96 1 |>.cald o254 D3_97 (i := 1) (by decide) big1
                  replace k := (k.callS (w_100 hw) (S1 hw) (R_own_blank hw G) D3_98 0 rfl).pv
                  replace k := k |>.ifYes D3_101 ((if0 _ _).trans (feq (own_d32 rfl rfl rfl rfl rfl hs214)).2) |>.iconst D3_108 0 |>.istore D3_109 sto10 |>.iconst D3_111 2 |>.iload D3_112 rfl |>.icmpNo D3_114 (tlt (own_d59 rfl rfl hs17 hs28 hs50 hs88)).2.1 |>.aload D3_117 rfl rfl |>.iconst D3_119 2 |>.cald o254 D3_120 (i := 2) (by decide) big2
                  replace k := (k.callS (w_100 hw) (S1 hw) (R_own_blank hw G) D3_121 0 rfl).pv
                  replace k := k |>.ifNo D3_124 ((if0 _ _).trans (teq (own_d42 rfl rfl rfl rfl rfl hs243)).2) |>.iconst D3_127 1 |>.goto D3_128 |>.istore D3_132 sto11 |>.iconst D3_134 3 |>.iload D3_135 rfl |>.icmpNo D3_137 (tlt (own_d60 rfl rfl hs17 hs28 hs50 hs88)).2.1 |>.aload D3_140 rfl rfl |>.iconst D3_142 3 |>.cald o254 D3_143 (i := 3) (by decide) big3
                  replace k := (k.callS (w_100 hw) (S1 hw) (R_own_blank hw G) D3_144 0 rfl).pv
                  replace k := k |>.ifYes D3_147 ((if0 _ _).trans (feq (own_d66 rfl rfl rfl rfl rfl hs244)).2) |>.iconst D3_154 0 |>.istore D3_155 sto12 |>.iload D3_157 rfl |>.ifYes D3_159  |>.iload D3_166 rfl |>.ifYes D3_168  |>.iload D3_175 rfl |>.ifNo D3_177  |>.iconst D3_180 2 |>.goto D3_181 |>.istore D3_195 sto13
                  replace k := k |>.iload D3_197 rfl |>.ifYes D3_199  |>.iload D3_206 rfl |>.ifNo D3_208  |>.iconst D3_211 3 |>.goto D3_212 |>.istore D3_235 sto14 |>.aload D3_237 rfl rfl
                  replace k := (k.callV (w_59 hw) (V_Y8_8_String hw) f252_0.exa (R_len1 hw G f252_0) D3_239 0 rfl).pv
                  replace k := k |>.iload D3_242 rfl |>.iload D3_244 rfl |>.isub D3_246 (z := 1) |>.icmpYes D3_247  |>.aload D3_252 rfl rfl |>.iconst D3_254 0 |>.aload D3_255 rfl rfl |>.iload D3_257 rfl
                  replace k := (k.callS (w_60 hw) (S13 hw) (R_13_25 hw G f252_0 o254 (own_d45 rfl rfl rfl rfl hs243)) D3_259 0 rfl).pv
                  replace k := k |>.ifNo D3_262  |>.aload D3_265 rfl rfl |>.iconst D3_267 1 |>.aload D3_268 rfl rfl |>.iload D3_270 rfl
                  replace k := (k.callS (w_60 hw) (S13 hw) (R_13_26 hw G f252_0) D3_272 0 rfl).pv
                  replace k := k |>.ifNo D3_275  |>.aload D3_278 rfl rfl |>.iconst D3_280 2 |>.aload D3_281 rfl rfl |>.iload D3_283 rfl
                  replace k := (k.callS (w_60 hw) (S13 hw) (R_13_27 hw G f252_0) D3_285 0 rfl).pv
                  replace k := k |>.ifNo D3_288  |>.aload D3_291 rfl rfl |>.iconst D3_293 3 |>.aload D3_294 rfl rfl |>.iload D3_296 rfl
                  replace k := (k.callS (w_60 hw) (S13 hw) (R_13_28 hw G f252_0) D3_298 0 rfl).pv
                  replace k := k |>.ifNo D3_301  |>.iconst D3_304 1 |>.goto D3_305
                  exact k.retN (t := .boolean) D3_309 rfl (by simp) (z' := 1) (by decide) rfl
              · by_cases hs259 : (bl (nar .char (nar .char (drw p5)))) = 0
                · have cv261 := k.chv
                  obtain ⟨_, h260, K260, ⟨u1_260, u2_260, rfl, f260_0⟩, k⟩ := (k.callS (w_30 hw) (S7 hw) (R_7_47 hw G S160 hs162 hs214 hs243 hs259 (own_d17 rfl rfl rfl rfl hs162) (own_d31 rfl rfl rfl rfl hs214) (own_d48 rfl rfl rfl rfl hs243)) D3_60 0 rfl).kv all0 (Or.inr all0)
                  replace k := k |>.astore D3_63 rfl sto8 |>.iconst D3_65 0 |>.iload D3_66 rfl |>.icmpNo D3_68 (tlt (own_d57 rfl rfl hs17 hs28 hs50 hs88)).2.1 |>.aload D3_71 rfl rfl |>.iconst D3_73 0
                  have o262 := ((o156.keep K155 nin0).keep K160 (ninS (nlt O14.lt g15) nin0)).keep K260 nin0
                  replace k := k |>.cald o262 D3_74 (i := 0) (by decide) big0
                  replace k := (k.callS (w_100 hw) (S1 hw) (R_own_blank hw G) D3_75 0 rfl).pv
                  replace k := k |>.ifYes D3_78 ((if0 _ _).trans (feq (own_d18 rfl rfl rfl rfl rfl hs162)).2) |>.iconst D3_85 0 |>.istore D3_86 sto9 |>.iconst D3_88 1 |>.iload D3_89 rfl |>.icmpNo D3_91 (tlt (own_d58 rfl rfl hs17 hs28 hs50 hs88)).2.1 |>.aload D3_94 rfl rfl |>.iconst D3_96 1 |>.cald o262 D3_97 (i := 1) (by decide) big1
                  replace k := (k.callS (w_100 hw) (S1 hw) (R_own_blank hw G) D3_98 0 rfl).pv
                  replace k := k |>.ifYes D3_101 ((if0 _ _).trans (feq (own_d32 rfl rfl rfl rfl rfl hs214)).2) |>.iconst D3_108 0 |>.istore D3_109 sto10 |>.iconst D3_111 2 |>.iload D3_112 rfl |>.icmpNo D3_114 (tlt (own_d59 rfl rfl hs17 hs28 hs50 hs88)).2.1 |>.aload D3_117 rfl rfl |>.iconst D3_119 2 |>.cald o262 D3_120 (i := 2) (by decide) big2
                  replace k := (k.callS (w_100 hw) (S1 hw) (R_own_blank hw G) D3_121 0 rfl).pv
                  replace k := k |>.ifYes D3_124 ((if0 _ _).trans (feq (own_d49 rfl rfl rfl rfl rfl hs243)).2) |>.iconst D3_131 0 |>.istore D3_132 sto11 |>.iconst D3_134 3 |>.iload D3_135 rfl |>.icmpNo D3_137 (tlt (own_d60 rfl rfl hs17 hs28 hs50 hs88)).2.1 |>.aload D3_140 rfl rfl |>.iconst D3_142 3 |>.cald o262 D3_143 (i := 3) (by decide) big3
                  replace k := (k.callS (w_100 hw) (S1 hw) (R_own_blank hw G) D3_144 0 rfl).pv
                  replace k := k |>.ifNo D3_147 ((if0 _ _).trans (teq (own_d61 rfl rfl rfl rfl rfl hs259)).2) |>.iconst D3_150 1 |>.goto D3_151 |>.istore D3_155 sto12 |>.iload D3_157 rfl |>.ifYes D3_159  |>.iload D3_166 rfl |>.ifYes D3_168  |>.iload D3_175 rfl |>.ifYes D3_177  |>.iload D3_184 rfl |>.ifNo D3_186 
                  replace k := k |>.iconst D3_189 3 |>.goto D3_190 |>.istore D3_195 sto13 |>.iload D3_197 rfl |>.ifNo D3_199  |>.iconst D3_202 4 |>.goto D3_203 |>.istore D3_235 sto14 |>.aload D3_237 rfl rfl
                  replace k := (k.callV (w_59 hw) (V_Y8_8_String hw) f260_0.exa (R_len1 hw G f260_0) D3_239 0 rfl).pv
                  replace k := k |>.iload D3_242 rfl |>.iload D3_244 rfl |>.isub D3_246 (z := 1) |>.icmpYes D3_247  |>.aload D3_252 rfl rfl |>.iconst D3_254 0 |>.aload D3_255 rfl rfl |>.iload D3_257 rfl
                  replace k := (k.callS (w_60 hw) (S13 hw) (R_13_41 hw G f260_0 o262 (own_d63 rfl rfl rfl rfl hs259)) D3_259 0 rfl).pv
                  replace k := k |>.ifNo D3_262  |>.aload D3_265 rfl rfl |>.iconst D3_267 1 |>.aload D3_268 rfl rfl |>.iload D3_270 rfl
                  replace k := (k.callS (w_60 hw) (S13 hw) (R_13_42 hw G f260_0) D3_272 0 rfl).pv
                  replace k := k |>.ifNo D3_275  |>.aload D3_278 rfl rfl |>.iconst D3_280 2 |>.aload D3_281 rfl rfl |>.iload D3_283 rfl
                  replace k := (k.callS (w_60 hw) (S13 hw) (R_13_43 hw G f260_0) D3_285 0 rfl).pv
                  replace k := k |>.ifNo D3_288  |>.aload D3_291 rfl rfl |>.iconst D3_293 3 |>.aload D3_294 rfl rfl |>.iload D3_296 rfl
                  replace k := (k.callS (w_60 hw) (S13 hw) (R_13_44 hw G f260_0) D3_298 0 rfl).pv
                  replace k := k |>.ifNo D3_301  |>.iconst D3_304 1 |>.goto D3_305
                  exact k.retN (t := .boolean) D3_309 rfl (by simp) (z' := 1) (by decide) rfl
                · have z267 := k.sz
                  obtain ⟨_, vm267, h267, K267, R267, ⟨u1_267, u2_267, rfl, f267_0⟩, k⟩ := (k.callSW (w_30 hw) (S7 hw) (R_7_49 hw G S160 hs162 hs214 hs243 hs259 (own_d17 rfl rfl rfl rfl hs162) (own_d31 rfl rfl rfl rfl hs214) (own_d48 rfl rfl rfl rfl hs243) (own_d65 rfl rfl rfl rfl hs259)) D3_60 0 rfl).kv
                  replace k := k |>.astore D3_63 rfl sto8 |>.iconst D3_65 0 |>.iload D3_66 rfl |>.icmpNo D3_68 (tlt (own_d57 rfl rfl hs17 hs28 hs50 hs88)).2.1 |>.aload D3_71 rfl rfl |>.iconst D3_73 0
                  have o268 := ((o156.keep K155 nin0).keep K160 (ninS (nlt O14.lt g15) nin0)).keep K267 nin0
                  replace k := k |>.cald o268 D3_74 (i := 0) (by decide) big0
                  replace k := (k.callS (w_100 hw) (S1 hw) (R_own_blank hw G) D3_75 0 rfl).pv
                  replace k := k |>.ifYes D3_78 ((if0 _ _).trans (feq (own_d18 rfl rfl rfl rfl rfl hs162)).2) |>.iconst D3_85 0 |>.istore D3_86 sto9 |>.iconst D3_88 1 |>.iload D3_89 rfl |>.icmpNo D3_91 (tlt (own_d58 rfl rfl hs17 hs28 hs50 hs88)).2.1 |>.aload D3_94 rfl rfl |>.iconst D3_96 1 |>.cald o268 D3_97 (i := 1) (by decide) big1
                  replace k := (k.callS (w_100 hw) (S1 hw) (R_own_blank hw G) D3_98 0 rfl).pv
                  replace k := k |>.ifYes D3_101 ((if0 _ _).trans (feq (own_d32 rfl rfl rfl rfl rfl hs214)).2) |>.iconst D3_108 0 |>.istore D3_109 sto10 |>.iconst D3_111 2 |>.iload D3_112 rfl |>.icmpNo D3_114 (tlt (own_d59 rfl rfl hs17 hs28 hs50 hs88)).2.1 |>.aload D3_117 rfl rfl |>.iconst D3_119 2 |>.cald o268 D3_120 (i := 2) (by decide) big2
                  replace k := (k.callS (w_100 hw) (S1 hw) (R_own_blank hw G) D3_121 0 rfl).pv
                  replace k := k |>.ifYes D3_124 ((if0 _ _).trans (feq (own_d49 rfl rfl rfl rfl rfl hs243)).2) |>.iconst D3_131 0 |>.istore D3_132 sto11 |>.iconst D3_134 3 |>.iload D3_135 rfl |>.icmpNo D3_137 (tlt (own_d60 rfl rfl hs17 hs28 hs50 hs88)).2.1 |>.aload D3_140 rfl rfl |>.iconst D3_142 3 |>.cald o268 D3_143 (i := 3) (by decide) big3
                  replace k := (k.callS (w_100 hw) (S1 hw) (R_own_blank hw G) D3_144 0 rfl).pv
                  replace k := k |>.ifYes D3_147 ((if0 _ _).trans (feq (own_d66 rfl rfl rfl rfl rfl hs259)).2) |>.iconst D3_154 0 |>.istore D3_155 sto12 |>.iload D3_157 rfl |>.ifYes D3_159  |>.iload D3_166 rfl |>.ifYes D3_168  |>.iload D3_175 rfl |>.ifYes D3_177  |>.iload D3_184 rfl |>.ifYes D3_186  |>.iload D3_193 rfl
                  replace k := k |>.istore D3_195 sto13 |>.iload D3_197 rfl |>.ifYes D3_199  |>.iload D3_206 rfl |>.ifYes D3_208  |>.iload D3_215 rfl |>.ifYes D3_217  |>.iload D3_224 rfl |>.ifYes D3_226  |>.iload D3_233 rfl |>.istore D3_235 sto14 |>.aload D3_237 rfl rfl
                  replace k := (k.callV (w_59 hw) (V_Y8_8_String hw) f267_0.exa (R_len0 hw G f267_0) D3_239 0 rfl).pv
                  replace k := k |>.iload D3_242 rfl |>.iload D3_244 rfl |>.isub D3_246 rfl |>.icmpYes D3_247 (teq (own_d68 rfl rfl rfl hs17 hs28 hs50 hs88)).1 |>.aload D3_252 rfl rfl |>.iconst D3_254 0 |>.aload D3_255 rfl rfl |>.iload D3_257 rfl
                  replace k := (k.callS (w_60 hw) (S13 hw) (R_13_1 hw G f267_0) D3_259 0 rfl).pv
                  replace k := k |>.ifNo D3_262  |>.aload D3_265 rfl rfl |>.iconst D3_267 1 |>.aload D3_268 rfl rfl |>.iload D3_270 rfl
                  replace k := (k.callS (w_60 hw) (S13 hw) (R_13_2 hw G f267_0) D3_272 0 rfl).pv
                  replace k := k |>.ifNo D3_275  |>.aload D3_278 rfl rfl |>.iconst D3_280 2 |>.aload D3_281 rfl rfl |>.iload D3_283 rfl
                  replace k := (k.callS (w_60 hw) (S13 hw) (R_13_3 hw G f267_0) D3_285 0 rfl).pv
                  replace k := k |>.ifNo D3_288  |>.aload D3_291 rfl rfl |>.iconst D3_293 3 |>.aload D3_294 rfl rfl |>.iload D3_296 rfl
                  replace k := (k.callS (w_60 hw) (S13 hw) (R_13_4 hw G f267_0) D3_298 0 rfl).pv
                  replace k := k |>.ifNo D3_301  |>.iconst D3_304 1 |>.goto D3_305
                  exact k.retN (t := .boolean) D3_309 rfl (by simp) (z' := 1) (by decide) rfl
theorem comes_1 {Post : Tables → Env → Array Value → State → Outcome → State → Prop} (hpost : ∀ tb e args s v u, (limb_1_1.after args s (.returned v) u = true ∧ limb_1_2.after args s (.returned v) u = true ∧ True) → ReturnedEndW s (.returned v) u (Jvm.fieldLocs frame_1_writes args s ++ Jvm.arrayLocs frame_1_arrays args s ++ Jvm.staticLocs frame_1_statics s) 32 2240 → Post tb e args s (.returned v) u) :
    ArmFor flags0 classFile x code maxLocals ret World_1 tables_1 room_1 Calls_1 rest_1 Pre_1 Post := by
  intro l hfl _ _ p e ha hc hk s m args below hf hA hF happ hP
  obtain ⟨hcalls, hrest, hpre⟩ := hP
  obtain ⟨-, -, -, hnamed, -, -, -, hat⟩ := (Spec.applies_iff hf).mp happ
  obtain ⟨hg, hn⟩ := and_e (Cond.before_iff.mp (show (Jvm.Cond.and given_1 narrow_1).before args s = true from hpre))
  obtain ⟨g0, gr0⟩ := and_e hg
  obtain ⟨ga0, gr1⟩ := and_e gr0
  obtain ⟨ga1, gr2⟩ := and_e gr1
  obtain ⟨ga2, gr3⟩ := and_e gr2
  obtain ⟨ga3, gr4⟩ := and_e gr3
  have ga4 := gr4
  obtain ⟨w0, w1, w2, w3, w4, rfl⟩ : ∃ w0 w1 w2 w3 w4 : Value, args = #[w0, w1, w2, w3, w4] := by
    have hs : args.size = 5 := by simpa [Cond.value, given_1] using g0
    obtain ⟨L⟩ := args
    match L, hs with
    | [w0, w1, w2, w3, w4], _ => exact ⟨w0, w1, w2, w3, w4, rfl⟩
  have hw : HW _ s := fun d (hd : d ∈ tables_1) => atoms_spec (ws := Jvm.Cond.code x code maxLocals ret :: tables_1) hat d (List.mem_cons_of_mem _ hd)
  obtain ⟨hsets, hown0⟩ := atoms_of _ (rest_1_c_eq ▸ (show rest_1_c.before _ s = true from hrest))
  have hr0 := Cond.before_iff.mp hown0
  obtain ⟨i0, ei0⟩ := is_v ga0
  obtain rfl : w0 = (.int i0) := Option.some.inj ei0
  obtain ⟨i1, ei1⟩ := is_v ga1
  obtain rfl : w1 = (.int i1) := Option.some.inj ei1
  obtain ⟨i2, ei2⟩ := is_v ga2
  obtain rfl : w2 = (.int i2) := Option.some.inj ei2
  obtain ⟨i3, ei3⟩ := is_v ga3
  obtain rfl : w3 = (.int i3) := Option.some.inj ei3
  obtain ⟨i4, ei4⟩ := is_v ga4
  obtain rfl : w4 = (.int i4) := Option.some.inj ei4
  have S_AD := Sta.start (eqv_i (Term.int_eval 1) (Cond.before_iff.mp (hsets _ (List.mem_of_getElem? (i := 12) rfl)))) (Or.inl (hsets _ (List.mem_of_getElem? (i := 11) rfl)))
  have S_HI := Sta.start (eqv_i (Term.int_eval 0) (Cond.before_iff.mp (hsets _ (List.mem_of_getElem? (i := 15) rfl)))) (Or.inl (hsets _ (List.mem_of_getElem? (i := 14) rfl)))
  have S_LO := Sta.start (eqv_i (Term.int_eval 8) (Cond.before_iff.mp (hsets _ (List.mem_of_getElem? (i := 18) rfl)))) (Or.inl (hsets _ (List.mem_of_getElem? (i := 17) rfl)))
  obtain ⟨cs, ec⟩ := is_v (Cond.before_iff.mp (hsets _ (List.mem_of_getElem? (i := 1) rfl)))
  have S_CS := Sta.start ec (Or.inl (hsets _ (List.mem_of_getElem? (i := 0) rfl)))
  have w_cs := (hsets _ (List.mem_of_getElem? (i := 2) rfl))
  have h_CS : ¬ (cs = 0) := fun q => by
    have z := Cond.before_iff.mp w_cs
    subst q
    simp [Cond.value, ec, Term.int_eval] at z
  obtain ⟨sf, es, r_SF⟩ := isR_v (Cond.before_iff.mp (hsets _ (List.mem_of_getElem? (i := 8) rfl)))
  have S_SF := Sta.start es (Or.inl (hsets _ (List.mem_of_getElem? (i := 7) rfl)))
  have hchv : CHv s consts_1 s.vm s.heap := CHv.start (a0 := #[.int i0, .int i1, .int i2, .int i3, .int i4]) (ewC hw) hcalls.1 (Cond.before_iff.mpr (Cond.before_iff.mp w_cs)) (w_23 hw) (w_7 hw)
  have G : Gl s cs sf := ⟨S_AD, S_HI, S_LO, S_CS, S_SF, r_SF, h_CS⟩
  obtain ⟨n, o, h1, h2, h3, _, L, rfl, ⟨N, rfl⟩, hq⟩ := (R_law hw G) (Old.start s) (fun _ => ewC hw) tables_1 p e ha hc hk s m _ below hf ((Spec.applies_iff_loose hf).mp happ).1 ⟨rfl, State.Warmed39.refl s, rfl, fun _ => hchv⟩ trivial
  obtain ⟨-, -, hq⟩ := hq.resolve_left (fun q => nomatch q.1)
  refine ⟨n, _, h1, h2, h3, hpost _ _ _ _ _ _ ⟨Cond.after_iff.mpr rfl, Cond.after_iff.mpr (eq_i res_at (Term.int_eval (1)) rfl), trivial⟩ ⟨hq.1, hq.2.1, hq.2.2.1, (hq.2.2.2.sift fun y hy => Or.inr (N y hy)).mono (by decide) (by decide)⟩⟩
theorem main_1_1 : Claimed_1_1 := comes_1 fun _ _ _ _ _ _ h hF => ⟨h.1, hF⟩
theorem main_1_2 : Claimed_1_2 := comes_1 fun _ _ _ _ _ _ h hF => ⟨h.2.1, hF⟩
end Jvm.Pilot.@@N@@
namespace Jvm.Pilot.@@N@@
open Jvm Jvm.ClassFile Sem Op Lib Jvm.Free Jvm.Stand Jvm.Pilot.@@N@@.Jvm.D
/-! MADE BY PROGRAM (witnessworld.py) out of the Statement's table words and the real class files: 24 classes; the members and pool entries that the words name. The judged class is class 1, her method 1. -/
namespace start1
open Jvm.ClassFile
def u (s : String) : CpInfo := .utf8 (stringToUtf16 s)
/-- a pool by its gaps: so many unusable entries, then the entry; so many at the end -/
def gap : Nat → List CpInfo → List CpInfo
  | 0, r => r
  | n + 1, r => .unusable :: gap n r
def poolList (es : List (Nat × CpInfo)) (last : Nat) : List CpInfo := es.foldr (fun e r => gap e.1 (e.2 :: r)) (gap last [])
def pool (es : List (Nat × CpInfo)) (last : Nat) : Array CpInfo := ⟨poolList es last⟩
def fileOf (pool : Array CpInfo) (this : Nat) (attrs : Array Attribute := #[]) (ms : Array MethodInfo := #[]) (fl : Nat := 33) (sup : Nat := 0) (ifs : Array Nat := #[]) (fds : Array FieldInfo := #[]) : ClassFile where
  minorVersion := 0
  majorVersion := 65
  constantPool := pool
  accessFlags := fl
  thisClass := this
  superClass := sup
  interfaces := ifs
  fields := fds
  methods := ms
  attributes := attrs
def plain (name : String) (sup : Option ClassId) : Class where
  name := name
  kind := .ordinary
  loader := none
  accessFlags := 33
  super := sup
  interfaces := #[]
  cf := none
  fields := #[]
  methods := #[]
  instanceTypes := #[]
  staticTypes := #[]
  resolved := #[]
  callSites := []
  init := .initialized
  statics := none
  mirror := none

def pool0 : Array CpInfo := pool [(5, u "<init>"), (0, u "()V"), (1, .class_ 10), (1, u "java/lang/Object")] 113

def k0c0 : Code := { maxStack := 0, maxLocals := 1, code := object_method_1_code, exceptionTable := #[], attributes := #[] }
def k0m0 : Method := { name := "<init>", desc := "()V", sig := { parameters := [], returnType := none }, accessFlags := 1, code := some k0c0 }
/-- java/lang/Object -/
def k0 : Class := { plain "java/lang/Object" none with
  accessFlags := 33
  interfaces := #[]
  cf := some (fileOf pool0 8 #[] #[{ accessFlags := 1, nameIndex := 5, descriptorIndex := 6, attributes := #[] }] 33 0 #[] #[])
  fields := #[]
  methods := #[k0m0]
  instanceTypes := #[]
  staticTypes := #[]
  resolved := Array.replicate 124 none
  statics := none }

def pool1 : Array CpInfo := pool [(2, .class_ 4), (1, u "java/lang/Object"), (0, u "<init>"), (0, u "()V"), (0, .integer 2147483647), (0, .methodref 9 10), (0, .class_ 11), (0, .nameAndType 12 13), (0, u "com/example/haulwright/haulwright/TextInputStripPinLaw"), (0, u "draw"), (0, u "(I)C"), (0, .class_ 15), (0, u "java/lang/String"), (0, .methodref 9 17), (0, .nameAndType 18 19), (0, u "prefix"), (0, u "([CI)[C"), (0, .methodref 14 21), (0, .nameAndType 5 22), (0, u "([C)V"), (0, .methodref 24 25), (0, .class_ 26), (0, .nameAndType 27 28), (0, u "com/example/haulwright/haulwright/TextInput"), (0, u "strip"), (0, u "(Ljava/lang/String;)Ljava/lang/String;"), (0, .methodref 9 30), (0, .nameAndType 31 32), (0, u "blank"), (0, u "(C)Z"), (0, .methodref 14 34), (0, .nameAndType 35 36), (0, u "length"), (0, u "()I"), (0, .methodref 9 38), (0, .nameAndType 39 40), (0, u "at"), (0, u "(Ljava/lang/String;I[CI)Z"), (0, .methodref 14 42), (0, .nameAndType 43 13), (0, u "charAt"), (0, .integer 65535), (2, u "law"), (0, u "(IIIII)Z")] 5

def k1m0 : Method := { name := "<init>", desc := "()V", sig := { parameters := [], returnType := none }, accessFlags := 1, code := none }
def k1c1 : Code := { maxStack := 4, maxLocals := 15, code := code, exceptionTable := #[], attributes := #[] }
def k1m1 : Method := { name := "law", desc := "(IIIII)Z", sig := { parameters := [.int, .int, .int, .int, .int], returnType := some .boolean }, accessFlags := 9, code := some k1c1 }
def k1c2 : Code := { maxStack := 4, maxLocals := 4, code := method_3_code, exceptionTable := #[], attributes := #[] }
def k1m2 : Method := { name := "at", desc := "(Ljava/lang/String;I[CI)Z", sig := { parameters := [(.object "java/lang/String"), .int, (.array .char), .int], returnType := some .boolean }, accessFlags := 10, code := some k1c2 }
def k1c3 : Code := { maxStack := 2, maxLocals := 1, code := method_4_code, exceptionTable := #[], attributes := #[] }
def k1m3 : Method := { name := "blank", desc := "(C)Z", sig := { parameters := [.char], returnType := some .boolean }, accessFlags := 10, code := some k1c3 }
def k1c4 : Code := { maxStack := 2, maxLocals := 2, code := method_5_code, exceptionTable := #[], attributes := #[] }
def k1m4 : Method := { name := "draw", desc := "(I)C", sig := { parameters := [.int], returnType := some .char }, accessFlags := 10, code := some k1c4 }
def k1c5 : Code := { maxStack := 5, maxLocals := 2, code := method_6_code, exceptionTable := #[], attributes := #[] }
def k1m5 : Method := { name := "prefix", desc := "([CI)[C", sig := { parameters := [(.array .char), .int], returnType := some (.array .char) }, accessFlags := 10, code := some k1c5 }
/-- com/example/haulwright/haulwright/TextInputStripPinLaw -/
def k1 : Class := { plain "com/example/haulwright/haulwright/TextInputStripPinLaw" (some 0) with
  accessFlags := 49
  interfaces := #[]
  cf := some (fileOf pool1 9 #[] #[{ accessFlags := 1, nameIndex := 5, descriptorIndex := 6, attributes := #[] }, { accessFlags := 9, nameIndex := 47, descriptorIndex := 48, attributes := #[] }, { accessFlags := 10, nameIndex := 39, descriptorIndex := 40, attributes := #[] }, { accessFlags := 10, nameIndex := 31, descriptorIndex := 32, attributes := #[] }, { accessFlags := 10, nameIndex := 12, descriptorIndex := 13, attributes := #[] }, { accessFlags := 10, nameIndex := 18, descriptorIndex := 19, attributes := #[] }] 49 2 #[] #[])
  fields := #[]
  methods := #[k1m0, k1m1, k1m2, k1m3, k1m4, k1m5]
  instanceTypes := #[]
  staticTypes := #[]
  resolved := Array.replicate 54 none
  statics := none }

def pool2 : Array CpInfo := pool [(1, .class_ 2), (0, u "java/io/Serializable"), (0, .class_ 4), (0, u "java/lang/Object")] 2

/-- java/io/Serializable -/
def k2 : Class := { plain "java/io/Serializable" (some 0) with
  accessFlags := 1537
  interfaces := #[]
  cf := some (fileOf pool2 1 #[] #[] 1537 3 #[] #[])
  fields := #[]
  methods := #[]
  instanceTypes := #[]
  staticTypes := #[]
  resolved := Array.replicate 7 none
  statics := none }

def pool3 : Array CpInfo := pool [(1, .class_ 2), (0, u "java/lang/Comparable"), (0, .class_ 4), (0, u "java/lang/Object")] 7

/-- java/lang/Comparable -/
def k3 : Class := { plain "java/lang/Comparable" (some 0) with
  accessFlags := 1537
  interfaces := #[]
  cf := some (fileOf pool3 1 #[] #[] 1537 3 #[] #[])
  fields := #[]
  methods := #[]
  instanceTypes := #[]
  staticTypes := #[]
  resolved := Array.replicate 12 none
  statics := none }

def pool4 : Array CpInfo := pool [(2, .class_ 4), (1, u "java/lang/CharSequence"), (42, .class_ 48), (0, u "java/lang/CharSequence$1CodePointIterator"), (10, .class_ 60), (0, u "java/lang/CharSequence$1CharIterator"), (5, .class_ 67), (0, u "java/lang/Object")] 63

/-- java/lang/CharSequence -/
def k4 : Class := { plain "java/lang/CharSequence" (some 0) with
  accessFlags := 1537
  interfaces := #[]
  cf := some (fileOf pool4 2 #[.nestMembers #[47, 59]] #[] 1537 66 #[] #[])
  fields := #[]
  methods := #[]
  instanceTypes := #[]
  staticTypes := #[]
  resolved := Array.replicate 131 none
  statics := none }

def pool5 : Array CpInfo := pool [(1, .class_ 2), (0, u "java/lang/constant/Constable"), (0, .class_ 4), (0, u "java/lang/Object")] 6

/-- java/lang/constant/Constable -/
def k5 : Class := { plain "java/lang/constant/Constable" (some 0) with
  accessFlags := 1537
  interfaces := #[]
  cf := some (fileOf pool5 1 #[] #[] 1537 3 #[] #[])
  fields := #[]
  methods := #[]
  instanceTypes := #[]
  staticTypes := #[]
  resolved := Array.replicate 11 none
  statics := none }

def pool6 : Array CpInfo := pool [(1, .class_ 2), (0, u "java/lang/constant/ConstantDesc"), (0, .class_ 4), (0, u "java/lang/Object")] 32

/-- java/lang/constant/ConstantDesc -/
def k6 : Class := { plain "java/lang/constant/ConstantDesc" (some 0) with
  accessFlags := 1537
  interfaces := #[]
  cf := some (fileOf pool6 1 #[] #[] 1537 3 #[] #[])
  fields := #[]
  methods := #[]
  instanceTypes := #[]
  staticTypes := #[]
  resolved := Array.replicate 37 none
  statics := none }

def pool7 : Array CpInfo := pool [(1, .methodref 2 3), (0, .class_ 4), (0, .nameAndType 5 6), (0, u "java/lang/Object"), (0, u "<init>"), (0, u "()V"), (0, .string 8), (0, u ""), (0, .fieldref 10 11), (0, .class_ 12), (0, .nameAndType 13 14), (0, u "java/lang/String"), (0, u "value"), (0, u "[B"), (0, .fieldref 10 16), (0, .nameAndType 17 18), (0, u "coder"), (0, u "B"), (2, u "hash"), (0, u "I"), (2, u "hashIsZero"), (0, u "Z"), (0, .methodref 10 28), (0, .nameAndType 5 29), (0, u "([CIILjava/lang/Void;)V"), (6, u "checkBoundsOffCount"), (0, u "(III)I"), (0, .fieldref 10 39), (0, .nameAndType 40 26), (0, u "COMPACT_STRINGS"), (1, .class_ 44), (1, u "java/lang/StringUTF16"), (0, u "compress"), (1, .methodref 42 48), (0, .nameAndType 49 50), (0, u "coderFromArrayLen"), (0, u "([BI)B"), (56, .class_ 109), (1, u "java/lang/StringLatin1"), (32, u "()Z"), (34, .methodref 42 178), (0, .nameAndType 45 179), (0, u "([CII)[B"), (31, u "([BB)V"), (122, u "()I"), (0, .methodref 10 336), (0, .nameAndType 17 337), (0, u "()B"), (25, u "([BI)C"), (27, u "(II)V"), (35, u "(I)C"), (64, .methodref 10 493), (0, .nameAndType 494 142), (0, u "isLatin1"), (0, .methodref 107 496), (0, .nameAndType 497 363), (0, u "charAt"), (0, .methodref 42 496), (2, u "checkIndex"), (3, .methodref 10 506), (0, .nameAndType 507 334), (0, u "length"), (5, u "checkFromToIndex"), (7, .methodref 10 522), (0, .nameAndType 523 524), (0, u "checkBoundsBeginEnd"), (0, u "(III)V"), (50, .class_ 576), (0, u "java/lang/CharSequence"), (22, u "CASE_INSENSITIVE_ORDER"), (0, u "Ljava/util/Comparator;"), (82, u "substring"), (0, u "(II)Ljava/lang/String;"), (0, .methodref 107 686), (0, .nameAndType 687 688), (0, u "newString"), (0, u "([BII)Ljava/lang/String;"), (0, .methodref 42 686), (320, u "([C)V"), (42, .fieldref 1054 1055), (0, .class_ 1056), (0, .nameAndType 1057 1058), (0, u "jdk/internal/util/Preconditions"), (0, u "SIOOBE_FORMATTER"), (0, u "Ljava/util/function/BiFunction;"), (0, .methodref 1054 1060), (0, .nameAndType 501 1061), (0, u "(IILjava/util/function/BiFunction;)I"), (0, .methodref 1054 1063), (0, .nameAndType 513 1064), (0, u "(IIILjava/util/function/BiFunction;)I"), (0, .methodref 1054 1066), (0, .nameAndType 1067 1064), (0, u "checkFromIndexSize"), (33, u "serialPersistentFields"), (0, u "[Ljava/io/ObjectStreamField;"), (0, .class_ 1104), (0, u "java/lang/String$CaseInsensitiveComparator"), (1, .class_ 1107), (0, u "java/io/Serializable"), (0, .class_ 1109), (0, u "java/lang/Comparable"), (0, .class_ 1111), (0, u "java/lang/constant/Constable"), (0, .class_ 1113), (0, u "java/lang/constant/ConstantDesc"), (2, u "serialVersionUID"), (0, u "J"), (3, u "REPL"), (0, u "C"), (2, u "LATIN1"), (1, u "UTF16")] 323

def k7m0 : Method := { name := "<init>", desc := "()V", sig := { parameters := [], returnType := none }, accessFlags := 1, code := none }
def k7c1 : Code := { maxStack := 5, maxLocals := 2, code := jdk_42_method_3_code, exceptionTable := #[], attributes := #[] }
def k7m1 : Method := { name := "<init>", desc := "([C)V", sig := { parameters := [(.array .char)], returnType := none }, accessFlags := 1, code := some k7c1 }
def k7c2 : Code := { maxStack := 2, maxLocals := 1, code := jdk_42_method_54_code, exceptionTable := #[], attributes := #[] }
def k7m2 : Method := { name := "length", desc := "()I", sig := { parameters := [], returnType := some .int }, accessFlags := 1, code := some k7c2 }
def k7c3 : Code := { maxStack := 2, maxLocals := 2, code := jdk_42_method_56_code, exceptionTable := #[], attributes := #[] }
def k7m3 : Method := { name := "charAt", desc := "(I)C", sig := { parameters := [.int], returnType := some .char }, accessFlags := 1, code := some k7c3 }
def k7c4 : Code := { maxStack := 3, maxLocals := 5, code := jdk_42_method_92_code, exceptionTable := #[], attributes := #[] }
def k7m4 : Method := { name := "substring", desc := "(II)Ljava/lang/String;", sig := { parameters := [.int, .int], returnType := some (.object "java/lang/String") }, accessFlags := 1, code := some k7c4 }
def k7c5 : Code := { maxStack := 4, maxLocals := 6, code := jdk_42_method_149_code, exceptionTable := #[], attributes := #[] }
def k7m5 : Method := { name := "<init>", desc := "([CIILjava/lang/Void;)V", sig := { parameters := [(.array .char), .int, .int, (.object "java/lang/Void")], returnType := none }, accessFlags := 2, code := some k7c5 }
def k7c6 : Code := { maxStack := 2, maxLocals := 3, code := jdk_42_method_151_code, exceptionTable := #[], attributes := #[] }
def k7m6 : Method := { name := "<init>", desc := "([BB)V", sig := { parameters := [(.array .byte), .byte], returnType := none }, accessFlags := 0, code := some k7c6 }
def k7c7 : Code := { maxStack := 1, maxLocals := 1, code := jdk_42_method_152_code, exceptionTable := #[], attributes := #[] }
def k7m7 : Method := { name := "coder", desc := "()B", sig := { parameters := [], returnType := some .byte }, accessFlags := 0, code := some k7c7 }
def k7c8 : Code := { maxStack := 1, maxLocals := 1, code := jdk_42_method_154_code, exceptionTable := #[], attributes := #[] }
def k7m8 : Method := { name := "isLatin1", desc := "()Z", sig := { parameters := [], returnType := some .boolean }, accessFlags := 0, code := some k7c8 }
def k7c9 : Code := { maxStack := 3, maxLocals := 2, code := jdk_42_method_155_code, exceptionTable := #[], attributes := #[] }
def k7m9 : Method := { name := "checkIndex", desc := "(II)V", sig := { parameters := [.int, .int], returnType := none }, accessFlags := 8, code := some k7c9 }
def k7c10 : Code := { maxStack := 4, maxLocals := 3, code := jdk_42_method_157_code, exceptionTable := #[], attributes := #[] }
def k7m10 : Method := { name := "checkBoundsOffCount", desc := "(III)I", sig := { parameters := [.int, .int, .int], returnType := some .int }, accessFlags := 8, code := some k7c10 }
def k7c11 : Code := { maxStack := 4, maxLocals := 3, code := jdk_42_method_158_code, exceptionTable := #[], attributes := #[] }
def k7m11 : Method := { name := "checkBoundsBeginEnd", desc := "(III)V", sig := { parameters := [.int, .int, .int], returnType := none }, accessFlags := 8, code := some k7c11 }
/-- java/lang/String -/
def k7 : Class := { plain "java/lang/String" (some 0) with
  accessFlags := 49
  interfaces := #[2, 3, 4, 5, 6]
  cf := some (fileOf pool7 10 #[.nestMembers #[1103]] #[{ accessFlags := 1, nameIndex := 5, descriptorIndex := 6, attributes := #[] }, { accessFlags := 1, nameIndex := 5, descriptorIndex := 1010, attributes := #[] }, { accessFlags := 1, nameIndex := 507, descriptorIndex := 334, attributes := #[] }, { accessFlags := 1, nameIndex := 497, descriptorIndex := 427, attributes := #[] }, { accessFlags := 1, nameIndex := 683, descriptorIndex := 684, attributes := #[] }, { accessFlags := 2, nameIndex := 5, descriptorIndex := 29, attributes := #[] }, { accessFlags := 0, nameIndex := 5, descriptorIndex := 211, attributes := #[] }, { accessFlags := 0, nameIndex := 17, descriptorIndex := 337, attributes := #[] }, { accessFlags := 0, nameIndex := 494, descriptorIndex := 142, attributes := #[] }, { accessFlags := 8, nameIndex := 501, descriptorIndex := 391, attributes := #[] }, { accessFlags := 8, nameIndex := 36, descriptorIndex := 37, attributes := #[] }, { accessFlags := 8, nameIndex := 523, descriptorIndex := 524, attributes := #[] }] 49 2 #[1106, 1108, 575, 1110, 1112] #[{ accessFlags := 18, nameIndex := 13, descriptorIndex := 14, attributes := #[] }, { accessFlags := 18, nameIndex := 17, descriptorIndex := 18, attributes := #[] }, { accessFlags := 2, nameIndex := 21, descriptorIndex := 22, attributes := #[] }, { accessFlags := 2, nameIndex := 25, descriptorIndex := 26, attributes := #[] }, { accessFlags := 26, nameIndex := 1116, descriptorIndex := 1117, attributes := #[] }, { accessFlags := 24, nameIndex := 40, descriptorIndex := 26, attributes := #[] }, { accessFlags := 26, nameIndex := 1101, descriptorIndex := 1102, attributes := #[] }, { accessFlags := 26, nameIndex := 1121, descriptorIndex := 1122, attributes := #[] }, { accessFlags := 25, nameIndex := 599, descriptorIndex := 600, attributes := #[] }, { accessFlags := 24, nameIndex := 1125, descriptorIndex := 18, attributes := #[] }, { accessFlags := 24, nameIndex := 1127, descriptorIndex := 18, attributes := #[] }])
  fields := #[{ name := "value", type := (.array .byte), accessFlags := 18, slot := 0, constantValue := 0 }, { name := "coder", type := .byte, accessFlags := 18, slot := 1, constantValue := 0 }, { name := "hash", type := .int, accessFlags := 2, slot := 2, constantValue := 0 }, { name := "hashIsZero", type := .boolean, accessFlags := 2, slot := 3, constantValue := 0 }, { name := "serialVersionUID", type := .long, accessFlags := 26, slot := 0, constantValue := 0 }, { name := "COMPACT_STRINGS", type := .boolean, accessFlags := 24, slot := 1, constantValue := 0 }, { name := "serialPersistentFields", type := (.array (.object "java/io/ObjectStreamField")), accessFlags := 26, slot := 2, constantValue := 0 }, { name := "REPL", type := .char, accessFlags := 26, slot := 3, constantValue := 0 }, { name := "CASE_INSENSITIVE_ORDER", type := (.object "java/util/Comparator"), accessFlags := 25, slot := 4, constantValue := 0 }, { name := "LATIN1", type := .byte, accessFlags := 24, slot := 5, constantValue := 0 }, { name := "UTF16", type := .byte, accessFlags := 24, slot := 6, constantValue := 0 }]
  methods := #[k7m0, k7m1, k7m2, k7m3, k7m4, k7m5, k7m6, k7m7, k7m8, k7m9, k7m10, k7m11]
  instanceTypes := #[(.array .byte), .byte, .int, .boolean]
  staticTypes := #[.long, .boolean, (.array (.object "java/io/ObjectStreamField")), .char, (.object "java/util/Comparator"), .byte, .byte]
  resolved := Array.replicate 1451 none
  statics := some 0 }

def pool8 : Array CpInfo := pool [(1, .class_ 2), (0, u "java/lang/AutoCloseable"), (0, .class_ 4), (0, u "java/lang/Object")] 7

/-- java/lang/AutoCloseable -/
def k8 : Class := { plain "java/lang/AutoCloseable" (some 0) with
  accessFlags := 1537
  interfaces := #[]
  cf := some (fileOf pool8 1 #[] #[] 1537 3 #[] #[])
  fields := #[]
  methods := #[]
  instanceTypes := #[]
  staticTypes := #[]
  resolved := Array.replicate 12 none
  statics := none }

def pool9 : Array CpInfo := pool [(2, .class_ 4), (1, u "java/lang/Object"), (3, .class_ 10), (1, u "com/example/haulwright/haulwright/TextInput"), (0, u "path"), (0, u "Ljava/nio/file/Path;"), (2, u "reader"), (0, u "Ljava/io/BufferedReader;"), (41, u "hasPeeked"), (0, u "Z"), (2, u "lineNumber"), (0, u "I"), (5, u "peeked"), (0, u "Ljava/lang/String;"), (4, .class_ 77), (1, u "java/lang/String"), (4, u "substring"), (3, u "strip"), (0, u "(Ljava/lang/String;)Ljava/lang/String;"), (6, u "BLANKS"), (0, u "Ljava/util/regex/Pattern;"), (6, .methodref 75 103), (0, .nameAndType 104 105), (0, u "length"), (0, u "()I"), (0, .methodref 75 107), (0, .nameAndType 108 109), (0, u "charAt"), (0, u "(I)C"), (0, .methodref 8 111), (0, .nameAndType 112 113), (0, u "isBlank"), (0, u "(C)Z"), (0, .methodref 75 115), (0, .nameAndType 82 116), (0, u "(II)Ljava/lang/String;"), (2, u "WHOLE_NUMBER"), (57, u "DECIMAL_NUMBER"), (181, .class_ 360), (0, u "java/lang/AutoCloseable"), (0, u "MAX_DECIMAL_PLACES"), (2, u "OUT_OF_RANGE"), (0, u "QUOTE_LIMIT")] 63

def k9c0 : Code := { maxStack := 3, maxLocals := 3, code := prog_40_method_7_code, exceptionTable := #[], attributes := #[] }
def k9m0 : Method := { name := "strip", desc := "(Ljava/lang/String;)Ljava/lang/String;", sig := { parameters := [(.object "java/lang/String")], returnType := some (.object "java/lang/String") }, accessFlags := 8, code := some k9c0 }
def k9c1 : Code := { maxStack := 2, maxLocals := 1, code := prog_40_method_8_code, exceptionTable := #[], attributes := #[] }
def k9m1 : Method := { name := "isBlank", desc := "(C)Z", sig := { parameters := [.char], returnType := some .boolean }, accessFlags := 10, code := some k9c1 }
/-- com/example/haulwright/haulwright/TextInput -/
def k9 : Class := { plain "com/example/haulwright/haulwright/TextInput" (some 0) with
  accessFlags := 48
  interfaces := #[8]
  cf := some (fileOf pool9 8 #[] #[{ accessFlags := 8, nameIndex := 86, descriptorIndex := 87, attributes := #[] }, { accessFlags := 10, nameIndex := 112, descriptorIndex := 113, attributes := #[] }] 48 2 #[359] #[{ accessFlags := 26, nameIndex := 94, descriptorIndex := 95, attributes := #[] }, { accessFlags := 24, nameIndex := 119, descriptorIndex := 95, attributes := #[] }, { accessFlags := 24, nameIndex := 177, descriptorIndex := 95, attributes := #[] }, { accessFlags := 24, nameIndex := 361, descriptorIndex := 63, attributes := #[] }, { accessFlags := 26, nameIndex := 364, descriptorIndex := 70, attributes := #[] }, { accessFlags := 26, nameIndex := 365, descriptorIndex := 63, attributes := #[] }, { accessFlags := 18, nameIndex := 11, descriptorIndex := 12, attributes := #[] }, { accessFlags := 18, nameIndex := 15, descriptorIndex := 16, attributes := #[] }, { accessFlags := 2, nameIndex := 62, descriptorIndex := 63, attributes := #[] }, { accessFlags := 2, nameIndex := 58, descriptorIndex := 59, attributes := #[] }, { accessFlags := 2, nameIndex := 69, descriptorIndex := 70, attributes := #[] }])
  fields := #[{ name := "BLANKS", type := (.object "java/util/regex/Pattern"), accessFlags := 26, slot := 0, constantValue := 0 }, { name := "WHOLE_NUMBER", type := (.object "java/util/regex/Pattern"), accessFlags := 24, slot := 1, constantValue := 0 }, { name := "DECIMAL_NUMBER", type := (.object "java/util/regex/Pattern"), accessFlags := 24, slot := 2, constantValue := 0 }, { name := "MAX_DECIMAL_PLACES", type := .int, accessFlags := 24, slot := 3, constantValue := 0 }, { name := "OUT_OF_RANGE", type := (.object "java/lang/String"), accessFlags := 26, slot := 4, constantValue := 0 }, { name := "QUOTE_LIMIT", type := .int, accessFlags := 26, slot := 5, constantValue := 0 }, { name := "path", type := (.object "java/nio/file/Path"), accessFlags := 18, slot := 0, constantValue := 0 }, { name := "reader", type := (.object "java/io/BufferedReader"), accessFlags := 18, slot := 1, constantValue := 0 }, { name := "lineNumber", type := .int, accessFlags := 2, slot := 2, constantValue := 0 }, { name := "hasPeeked", type := .boolean, accessFlags := 2, slot := 3, constantValue := 0 }, { name := "peeked", type := (.object "java/lang/String"), accessFlags := 2, slot := 4, constantValue := 0 }]
  methods := #[k9m0, k9m1]
  instanceTypes := #[(.object "java/nio/file/Path"), (.object "java/io/BufferedReader"), .int, .boolean, (.object "java/lang/String")]
  staticTypes := #[(.object "java/util/regex/Pattern"), (.object "java/util/regex/Pattern"), (.object "java/util/regex/Pattern"), .int, (.object "java/lang/String"), .int]
  resolved := Array.replicate 429 none
  statics := none }

def pool10 : Array CpInfo := pool [(2, .class_ 4), (1, u "java/lang/Object"), (0, u "<init>"), (0, u "()V"), (17, .class_ 26), (1, u "jdk/internal/util/Preconditions"), (6, u "checkIndex"), (13, u "checkFromToIndex"), (1, u "checkFromIndexSize"), (5, .class_ 56), (0, u "jdk/internal/util/Preconditions$4"), (57, .class_ 115), (0, u "jdk/internal/util/Preconditions$1"), (7, u "SIOOBE_FORMATTER"), (0, u "Ljava/util/function/BiFunction;"), (0, .class_ 126), (0, u "jdk/internal/util/Preconditions$2"), (3, u "AIOOBE_FORMATTER"), (0, .class_ 132), (0, u "jdk/internal/util/Preconditions$3"), (3, u "IOOBE_FORMATTER"), (41, u "(IILjava/util/function/BiFunction;)I"), (4, u "(IIILjava/util/function/BiFunction;)I")] 10

def k10m0 : Method := { name := "<init>", desc := "()V", sig := { parameters := [], returnType := none }, accessFlags := 1, code := none }
def k10c1 : Code := { maxStack := 3, maxLocals := 3, code := jdk_41_method_11_code, exceptionTable := #[], attributes := #[] }
def k10m1 : Method := { name := "checkIndex", desc := "(IILjava/util/function/BiFunction;)I", sig := { parameters := [.int, .int, (.object "java/util/function/BiFunction")], returnType := some .int }, accessFlags := 9, code := some k10c1 }
def k10c2 : Code := { maxStack := 4, maxLocals := 4, code := jdk_41_method_12_code, exceptionTable := #[], attributes := #[] }
def k10m2 : Method := { name := "checkFromToIndex", desc := "(IIILjava/util/function/BiFunction;)I", sig := { parameters := [.int, .int, .int, (.object "java/util/function/BiFunction")], returnType := some .int }, accessFlags := 9, code := some k10c2 }
def k10c3 : Code := { maxStack := 4, maxLocals := 4, code := jdk_41_method_13_code, exceptionTable := #[], attributes := #[] }
def k10m3 : Method := { name := "checkFromIndexSize", desc := "(IIILjava/util/function/BiFunction;)I", sig := { parameters := [.int, .int, .int, (.object "java/util/function/BiFunction")], returnType := some .int }, accessFlags := 9, code := some k10c3 }
/-- jdk/internal/util/Preconditions -/
def k10 : Class := { plain "jdk/internal/util/Preconditions" (some 0) with
  accessFlags := 33
  interfaces := #[]
  cf := some (fileOf pool10 24 #[.nestMembers #[55, 131, 125, 114]] #[{ accessFlags := 1, nameIndex := 5, descriptorIndex := 6, attributes := #[] }, { accessFlags := 9, nameIndex := 33, descriptorIndex := 178, attributes := #[] }, { accessFlags := 9, nameIndex := 47, descriptorIndex := 183, attributes := #[] }, { accessFlags := 9, nameIndex := 49, descriptorIndex := 183, attributes := #[] }] 33 2 #[] #[{ accessFlags := 25, nameIndex := 123, descriptorIndex := 124, attributes := #[] }, { accessFlags := 25, nameIndex := 130, descriptorIndex := 124, attributes := #[] }, { accessFlags := 25, nameIndex := 136, descriptorIndex := 124, attributes := #[] }])
  fields := #[{ name := "SIOOBE_FORMATTER", type := (.object "java/util/function/BiFunction"), accessFlags := 25, slot := 0, constantValue := 0 }, { name := "AIOOBE_FORMATTER", type := (.object "java/util/function/BiFunction"), accessFlags := 25, slot := 1, constantValue := 0 }, { name := "IOOBE_FORMATTER", type := (.object "java/util/function/BiFunction"), accessFlags := 25, slot := 2, constantValue := 0 }]
  methods := #[k10m0, k10m1, k10m2, k10m3]
  instanceTypes := #[]
  staticTypes := #[(.object "java/util/function/BiFunction"), (.object "java/util/function/BiFunction"), (.object "java/util/function/BiFunction")]
  resolved := Array.replicate 194 none
  statics := some 1 }

def pool11 : Array CpInfo := pool [(3, .class_ 4), (0, u "java/lang/String"), (1, .class_ 8), (1, u "java/lang/Object"), (0, u "<init>"), (0, u "()V"), (0, .methodref 12 13), (0, .class_ 14), (0, .nameAndType 15 16), (0, u "java/lang/StringUTF16"), (0, u "newBytesLength"), (0, u "(I)I"), (3, .integer 1073741823), (23, .fieldref 12 45), (0, .nameAndType 46 47), (0, u "$assertionsDisabled"), (0, u "Z"), (0, .methodref 12 49), (0, .nameAndType 50 51), (0, u "length"), (0, u "([B)I"), (7, .fieldref 12 60), (0, .nameAndType 61 62), (0, u "HI_BYTE_SHIFT"), (0, u "I"), (0, .fieldref 12 64), (0, .nameAndType 65 62), (0, u "LO_BYTE_SHIFT"), (1, .methodref 12 68), (0, .nameAndType 69 70), (0, u "checkIndex"), (0, u "(I[B)V"), (0, .methodref 12 72), (0, .nameAndType 73 74), (0, u "getChar"), (0, u "([BI)C"), (24, u "(II[B)V"), (7, .methodref 12 108), (0, .nameAndType 109 110), (0, u "newBytesFor"), (0, u "(I)[B"), (0, .methodref 12 112), (0, .nameAndType 113 114), (0, u "putChar"), (0, u "([BII)V"), (0, .methodref 12 116), (0, .nameAndType 117 118), (0, u "compress"), (0, u "([CI[BII)I"), (0, .methodref 12 120), (0, .nameAndType 121 122), (0, u "toBytes"), (0, u "([CII)[B"), (0, .methodref 12 124), (0, .nameAndType 117 125), (0, u "([BI[BII)I"), (0, .methodref 127 128), (0, .class_ 129), (0, .nameAndType 130 131), (0, u "java/util/Arrays"), (0, u "copyOfRange"), (0, u "([BII)[B"), (41, .methodref 12 174), (0, .nameAndType 175 99), (0, u "checkBoundsOffCount"), (75, .fieldref 3 252), (0, .nameAndType 253 47), (0, u "COMPACT_STRINGS"), (3, .methodref 12 258), (0, .nameAndType 117 131), (0, .methodref 12 260), (0, .nameAndType 261 262), (0, u "coderFromArrayLen"), (0, u "([BI)B"), (0, .methodref 3 264), (0, .nameAndType 9 265), (0, u "([BB)V"), (15, u "(III)I"), (45, u "newString"), (0, u "([BII)Ljava/lang/String;"), (40, .class_ 371), (1, u "java/lang/StringUTF16$LinesSpliterator"), (20, u "charAt"), (21, .methodref 3 415), (0, .nameAndType 69 416), (0, u "(II)V"), (2, .methodref 3 420), (0, .nameAndType 175 281), (9, u "MAX_LENGTH"), (196, .class_ 628), (0, u "java/lang/StringUTF16$CodePointsSpliterator"), (0, .class_ 630), (0, u "java/lang/StringUTF16$CharsSpliterator")] 4

def k11m0 : Method := { name := "<init>", desc := "()V", sig := { parameters := [], returnType := none }, accessFlags := 0, code := none }
def k11c1 : Code := { maxStack := 1, maxLocals := 1, code := jdk_52_method_2_code, exceptionTable := #[], attributes := #[] }
def k11m1 : Method := { name := "newBytesFor", desc := "(I)[B", sig := { parameters := [.int], returnType := some (.array .byte) }, accessFlags := 9, code := some k11c1 }
def k11c2 : Code := { maxStack := 4, maxLocals := 1, code := jdk_52_method_3_code, exceptionTable := #[], attributes := #[] }
def k11m2 : Method := { name := "newBytesLength", desc := "(I)I", sig := { parameters := [.int], returnType := some .int }, accessFlags := 9, code := some k11c2 }
def k11c3 : Code := { maxStack := 4, maxLocals := 3, code := jdk_52_method_4_code, exceptionTable := #[], attributes := #[] }
def k11m3 : Method := { name := "putChar", desc := "([BII)V", sig := { parameters := [(.array .byte), .int, .int], returnType := none }, accessFlags := 8, code := some k11c3 }
def k11c4 : Code := { maxStack := 3, maxLocals := 2, code := jdk_52_method_5_code, exceptionTable := #[], attributes := #[] }
def k11m4 : Method := { name := "getChar", desc := "([BI)C", sig := { parameters := [(.array .byte), .int], returnType := some .char }, accessFlags := 8, code := some k11c4 }
def k11c5 : Code := { maxStack := 2, maxLocals := 1, code := jdk_52_method_6_code, exceptionTable := #[], attributes := #[] }
def k11m5 : Method := { name := "length", desc := "([B)I", sig := { parameters := [(.array .byte)], returnType := some .int }, accessFlags := 9, code := some k11c5 }
def k11c6 : Code := { maxStack := 4, maxLocals := 5, code := jdk_52_method_14_code, exceptionTable := #[], attributes := #[] }
def k11m6 : Method := { name := "toBytes", desc := "([CII)[B", sig := { parameters := [(.array .char), .int, .int], returnType := some (.array .byte) }, accessFlags := 9, code := some k11c6 }
def k11c7 : Code := { maxStack := 2, maxLocals := 2, code := jdk_52_method_15_code, exceptionTable := #[], attributes := #[] }
def k11m7 : Method := { name := "coderFromArrayLen", desc := "([BI)B", sig := { parameters := [(.array .byte), .int], returnType := some .byte }, accessFlags := 8, code := some k11c7 }
def k11c8 : Code := { maxStack := 5, maxLocals := 6, code := jdk_52_method_16_code, exceptionTable := #[], attributes := #[] }
def k11m8 : Method := { name := "compress", desc := "([CII)[B", sig := { parameters := [(.array .char), .int, .int], returnType := some (.array .byte) }, accessFlags := 9, code := some k11c8 }
def k11c9 : Code := { maxStack := 5, maxLocals := 6, code := jdk_52_method_17_code, exceptionTable := #[], attributes := #[] }
def k11m9 : Method := { name := "compress", desc := "([BII)[B", sig := { parameters := [(.array .byte), .int, .int], returnType := some (.array .byte) }, accessFlags := 9, code := some k11c9 }
def k11c10 : Code := { maxStack := 3, maxLocals := 7, code := jdk_52_method_21_code, exceptionTable := #[], attributes := #[] }
def k11m10 : Method := { name := "compress", desc := "([CI[BII)I", sig := { parameters := [(.array .char), .int, (.array .byte), .int, .int], returnType := some .int }, accessFlags := 9, code := some k11c10 }
def k11c11 : Code := { maxStack := 3, maxLocals := 7, code := jdk_52_method_22_code, exceptionTable := #[], attributes := #[] }
def k11m11 : Method := { name := "compress", desc := "([BI[BII)I", sig := { parameters := [(.array .byte), .int, (.array .byte), .int, .int], returnType := some .int }, accessFlags := 9, code := some k11c11 }
def k11c12 : Code := { maxStack := 6, maxLocals := 5, code := jdk_52_method_69_code, exceptionTable := #[], attributes := #[] }
def k11m12 : Method := { name := "newString", desc := "([BII)Ljava/lang/String;", sig := { parameters := [(.array .byte), .int, .int], returnType := some (.object "java/lang/String") }, accessFlags := 9, code := some k11c12 }
def k11c13 : Code := { maxStack := 2, maxLocals := 2, code := jdk_52_method_83_code, exceptionTable := #[], attributes := #[] }
def k11m13 : Method := { name := "charAt", desc := "([BI)C", sig := { parameters := [(.array .byte), .int], returnType := some .char }, accessFlags := 9, code := some k11c13 }
def k11c14 : Code := { maxStack := 2, maxLocals := 2, code := jdk_52_method_91_code, exceptionTable := #[], attributes := #[] }
def k11m14 : Method := { name := "checkIndex", desc := "(I[B)V", sig := { parameters := [.int, (.array .byte)], returnType := none }, accessFlags := 9, code := some k11c14 }
def k11c15 : Code := { maxStack := 3, maxLocals := 3, code := jdk_52_method_94_code, exceptionTable := #[], attributes := #[] }
def k11m15 : Method := { name := "checkBoundsOffCount", desc := "(II[B)V", sig := { parameters := [.int, .int, (.array .byte)], returnType := none }, accessFlags := 9, code := some k11c15 }
/-- java/lang/StringUTF16 -/
def k11 : Class := { plain "java/lang/StringUTF16" (some 0) with
  accessFlags := 48
  interfaces := #[]
  cf := some (fileOf pool11 12 #[.nestMembers #[627, 629, 369]] #[{ accessFlags := 0, nameIndex := 9, descriptorIndex := 10, attributes := #[] }, { accessFlags := 9, nameIndex := 109, descriptorIndex := 110, attributes := #[] }, { accessFlags := 9, nameIndex := 15, descriptorIndex := 16, attributes := #[] }, { accessFlags := 8, nameIndex := 113, descriptorIndex := 114, attributes := #[] }, { accessFlags := 8, nameIndex := 73, descriptorIndex := 74, attributes := #[] }, { accessFlags := 9, nameIndex := 50, descriptorIndex := 51, attributes := #[] }, { accessFlags := 9, nameIndex := 121, descriptorIndex := 122, attributes := #[] }, { accessFlags := 8, nameIndex := 261, descriptorIndex := 262, attributes := #[] }, { accessFlags := 9, nameIndex := 117, descriptorIndex := 122, attributes := #[] }, { accessFlags := 9, nameIndex := 117, descriptorIndex := 131, attributes := #[] }, { accessFlags := 9, nameIndex := 117, descriptorIndex := 118, attributes := #[] }, { accessFlags := 9, nameIndex := 117, descriptorIndex := 125, attributes := #[] }, { accessFlags := 9, nameIndex := 327, descriptorIndex := 328, attributes := #[] }, { accessFlags := 9, nameIndex := 392, descriptorIndex := 74, attributes := #[] }, { accessFlags := 9, nameIndex := 69, descriptorIndex := 70, attributes := #[] }, { accessFlags := 9, nameIndex := 175, descriptorIndex := 99, attributes := #[] }] 48 6 #[] #[{ accessFlags := 26, nameIndex := 61, descriptorIndex := 62, attributes := #[] }, { accessFlags := 26, nameIndex := 65, descriptorIndex := 62, attributes := #[] }, { accessFlags := 24, nameIndex := 430, descriptorIndex := 62, attributes := #[] }, { accessFlags := 4120, nameIndex := 46, descriptorIndex := 47, attributes := #[] }])
  fields := #[{ name := "HI_BYTE_SHIFT", type := .int, accessFlags := 26, slot := 0, constantValue := 0 }, { name := "LO_BYTE_SHIFT", type := .int, accessFlags := 26, slot := 1, constantValue := 0 }, { name := "MAX_LENGTH", type := .int, accessFlags := 24, slot := 2, constantValue := 0 }, { name := "$assertionsDisabled", type := .boolean, accessFlags := 4120, slot := 3, constantValue := 0 }]
  methods := #[k11m0, k11m1, k11m2, k11m3, k11m4, k11m5, k11m6, k11m7, k11m8, k11m9, k11m10, k11m11, k11m12, k11m13, k11m14, k11m15]
  instanceTypes := #[]
  staticTypes := #[.int, .int, .int, .boolean]
  resolved := Array.replicate 635 none
  statics := some 2 }

def pool12 : Array CpInfo := pool [(1, .class_ 2), (0, u "java/lang/String"), (1, .class_ 6), (1, u "java/lang/Object"), (0, u "<init>"), (0, u "()V"), (0, .methodref 1 10), (0, .nameAndType 11 12), (0, u "checkIndex"), (0, u "(II)V"), (1, .class_ 16), (1, u "java/lang/StringLatin1"), (36, u "([BI)C"), (58, .methodref 1 113), (0, .nameAndType 7 114), (0, u "([BB)V"), (6, u "$assertionsDisabled"), (0, u "Z"), (8, .class_ 133), (1, u "java/util/Arrays"), (17, .string 152), (0, u ""), (43, u "newString"), (0, u "([BII)Ljava/lang/String;"), (23, .class_ 223), (1, u "java/lang/StringLatin1$LinesSpliterator"), (8, .methodref 131 233), (0, .nameAndType 234 235), (0, u "copyOfRange"), (0, u "([BII)[B"), (16, u "charAt"), (137, .class_ 391), (0, u "java/lang/StringLatin1$CharsSpliterator")] 3

def k12m0 : Method := { name := "<init>", desc := "()V", sig := { parameters := [], returnType := none }, accessFlags := 0, code := none }
def k12c1 : Code := { maxStack := 2, maxLocals := 2, code := jdk_43_method_2_code, exceptionTable := #[], attributes := #[] }
def k12m1 : Method := { name := "charAt", desc := "([BI)C", sig := { parameters := [(.array .byte), .int], returnType := some .char }, accessFlags := 9, code := some k12c1 }
def k12c2 : Code := { maxStack := 6, maxLocals := 3, code := jdk_43_method_47_code, exceptionTable := #[], attributes := #[] }
def k12m2 : Method := { name := "newString", desc := "([BII)Ljava/lang/String;", sig := { parameters := [(.array .byte), .int, .int], returnType := some (.object "java/lang/String") }, accessFlags := 9, code := some k12c2 }
/-- java/lang/StringLatin1 -/
def k12 : Class := { plain "java/lang/StringLatin1" (some 0) with
  accessFlags := 48
  interfaces := #[]
  cf := some (fileOf pool12 14 #[.nestMembers #[390, 221]] #[{ accessFlags := 0, nameIndex := 7, descriptorIndex := 8, attributes := #[] }, { accessFlags := 9, nameIndex := 252, descriptorIndex := 53, attributes := #[] }, { accessFlags := 9, nameIndex := 196, descriptorIndex := 197, attributes := #[] }] 48 4 #[] #[{ accessFlags := 4120, nameIndex := 121, descriptorIndex := 122, attributes := #[] }])
  fields := #[{ name := "$assertionsDisabled", type := .boolean, accessFlags := 4120, slot := 0, constantValue := 0 }]
  methods := #[k12m0, k12m1, k12m2]
  instanceTypes := #[]
  staticTypes := #[.boolean]
  resolved := Array.replicate 395 none
  statics := none }

def pool13 : Array CpInfo := pool [(2, .class_ 4), (1, u "java/lang/Object"), (0, u "<init>"), (0, u "()V"), (7, .class_ 16), (1, u "java/util/Arrays"), (57, .class_ 76), (1, u "java/util/Arrays$NaturalOrder"), (36, .class_ 115), (1, u "java/util/Arrays$LegacyMergeSort"), (1, u "Z"), (21, u "copyOfRange"), (10, .methodref 151 152), (0, .class_ 153), (0, .nameAndType 154 155), (0, u "java/lang/System"), (0, u "arraycopy"), (0, u "(Ljava/lang/Object;ILjava/lang/Object;II)V"), (148, .methodref 305 306), (0, .class_ 307), (0, .nameAndType 308 309), (0, u "java/lang/Math"), (0, u "min"), (0, u "(II)I"), (29, .methodref 14 340), (0, .nameAndType 341 342), (0, u "copyOfRangeByte"), (0, u "([BII)[B"), (0, .methodref 14 344), (0, .nameAndType 345 346), (0, u "checkLength"), (0, u "(II)V"), (28, .class_ 376), (0, u "java/util/Arrays$ArrayList"), (68, u "$assertionsDisabled"), (269, u "MIN_ARRAY_SORT_GRAN"), (0, u "I"), (2, u "INSERTIONSORT_THRESHOLD"), (255, .class_ 976), (0, u "java/util/Arrays$ArrayItr")] 52

def k13m0 : Method := { name := "<init>", desc := "()V", sig := { parameters := [], returnType := none }, accessFlags := 2, code := none }
def k13c1 : Code := { maxStack := 4, maxLocals := 2, code := jdk_65_method_131_code, exceptionTable := #[], attributes := #[] }
def k13m1 : Method := { name := "checkLength", desc := "(II)V", sig := { parameters := [.int, .int], returnType := none }, accessFlags := 10, code := some k13c1 }
def k13c2 : Code := { maxStack := 3, maxLocals := 3, code := jdk_65_method_132_code, exceptionTable := #[], attributes := #[] }
def k13m2 : Method := { name := "copyOfRange", desc := "([BII)[B", sig := { parameters := [(.array .byte), .int, .int], returnType := some (.array .byte) }, accessFlags := 9, code := some k13c2 }
def k13c3 : Code := { maxStack := 6, maxLocals := 5, code := jdk_65_method_133_code, exceptionTable := #[], attributes := #[] }
def k13m3 : Method := { name := "copyOfRangeByte", desc := "([BII)[B", sig := { parameters := [(.array .byte), .int, .int], returnType := some (.array .byte) }, accessFlags := 10, code := some k13c3 }
/-- java/util/Arrays -/
def k13 : Class := { plain "java/util/Arrays" (some 0) with
  accessFlags := 49
  interfaces := #[]
  cf := some (fileOf pool13 14 #[.nestMembers #[975, 375, 113, 74]] #[{ accessFlags := 2, nameIndex := 5, descriptorIndex := 6, attributes := #[] }, { accessFlags := 10, nameIndex := 345, descriptorIndex := 346, attributes := #[] }, { accessFlags := 9, nameIndex := 139, descriptorIndex := 342, attributes := #[] }, { accessFlags := 10, nameIndex := 341, descriptorIndex := 342, attributes := #[] }] 49 2 #[] #[{ accessFlags := 26, nameIndex := 715, descriptorIndex := 716, attributes := #[] }, { accessFlags := 26, nameIndex := 719, descriptorIndex := 716, attributes := #[] }, { accessFlags := 4120, nameIndex := 445, descriptorIndex := 117, attributes := #[] }])
  fields := #[{ name := "MIN_ARRAY_SORT_GRAN", type := .int, accessFlags := 26, slot := 0, constantValue := 0 }, { name := "INSERTIONSORT_THRESHOLD", type := .int, accessFlags := 26, slot := 1, constantValue := 0 }, { name := "$assertionsDisabled", type := .boolean, accessFlags := 4120, slot := 2, constantValue := 0 }]
  methods := #[k13m0, k13m1, k13m2, k13m3]
  instanceTypes := #[]
  staticTypes := #[.int, .int, .boolean]
  resolved := Array.replicate 1029 none
  statics := none }

def pool14 : Array CpInfo := pool [(1, .class_ 2), (0, u "java/lang/Math"), (1, .class_ 6), (1, u "java/lang/Object"), (0, u "<init>"), (0, u "()V"), (89, .class_ 100), (1, u "java/lang/Math$RandomNumberGeneratorHolder"), (71, u "negativeZeroFloatBits"), (0, u "J"), (2, u "negativeZeroDoubleBits"), (24, u "min"), (43, u "$assertionsDisabled"), (0, u "Z"), (88, u "(II)I"), (2, u "twoToTheDoubleScaleDown"), (0, u "D"), (4, u "twoToTheDoubleScaleUp"), (9, u "E"), (3, u "PI"), (2, u "TAU"), (2, u "DEGREES_TO_RADIANS"), (0, u "RADIANS_TO_DEGREES")] 94

def k14m0 : Method := { name := "<init>", desc := "()V", sig := { parameters := [], returnType := none }, accessFlags := 2, code := none }
def k14c1 : Code := { maxStack := 2, maxLocals := 2, code := jdk_29_method_69_code, exceptionTable := #[], attributes := #[] }
def k14m1 : Method := { name := "min", desc := "(II)I", sig := { parameters := [.int, .int], returnType := some .int }, accessFlags := 9, code := some k14c1 }
/-- java/lang/Math -/
def k14 : Class := { plain "java/lang/Math" (some 0) with
  accessFlags := 49
  interfaces := #[]
  cf := some (fileOf pool14 1 #[.nestMembers #[98]] #[{ accessFlags := 2, nameIndex := 7, descriptorIndex := 8, attributes := #[] }, { accessFlags := 9, nameIndex := 201, descriptorIndex := 335, attributes := #[] }] 49 4 #[] #[{ accessFlags := 25, nameIndex := 354, descriptorIndex := 339, attributes := #[] }, { accessFlags := 25, nameIndex := 358, descriptorIndex := 339, attributes := #[] }, { accessFlags := 25, nameIndex := 361, descriptorIndex := 339, attributes := #[] }, { accessFlags := 26, nameIndex := 364, descriptorIndex := 339, attributes := #[] }, { accessFlags := 26, nameIndex := 365, descriptorIndex := 339, attributes := #[] }, { accessFlags := 26, nameIndex := 172, descriptorIndex := 173, attributes := #[] }, { accessFlags := 26, nameIndex := 176, descriptorIndex := 173, attributes := #[] }, { accessFlags := 8, nameIndex := 344, descriptorIndex := 339, attributes := #[] }, { accessFlags := 8, nameIndex := 338, descriptorIndex := 339, attributes := #[] }, { accessFlags := 4120, nameIndex := 245, descriptorIndex := 246, attributes := #[] }])
  fields := #[{ name := "E", type := .double, accessFlags := 25, slot := 0, constantValue := 0 }, { name := "PI", type := .double, accessFlags := 25, slot := 1, constantValue := 0 }, { name := "TAU", type := .double, accessFlags := 25, slot := 2, constantValue := 0 }, { name := "DEGREES_TO_RADIANS", type := .double, accessFlags := 26, slot := 3, constantValue := 0 }, { name := "RADIANS_TO_DEGREES", type := .double, accessFlags := 26, slot := 4, constantValue := 0 }, { name := "negativeZeroFloatBits", type := .long, accessFlags := 26, slot := 5, constantValue := 0 }, { name := "negativeZeroDoubleBits", type := .long, accessFlags := 26, slot := 6, constantValue := 0 }, { name := "twoToTheDoubleScaleUp", type := .double, accessFlags := 8, slot := 7, constantValue := 0 }, { name := "twoToTheDoubleScaleDown", type := .double, accessFlags := 8, slot := 8, constantValue := 0 }, { name := "$assertionsDisabled", type := .boolean, accessFlags := 4120, slot := 9, constantValue := 0 }]
  methods := #[k14m0, k14m1]
  instanceTypes := #[]
  staticTypes := #[.double, .double, .double, .double, .double, .long, .long, .double, .double, .boolean]
  resolved := Array.replicate 460 none
  statics := none }

def pool15 : Array CpInfo := pool [(2, .class_ 4), (1, u "java/lang/Object"), (0, u "<init>"), (0, u "()V"), (1, .class_ 10), (1, u "java/lang/System"), (0, u "allowSecurityManager"), (0, u "I"), (16, u "cons"), (0, u "Ljava/io/Console;"), (77, .class_ 110), (1, u "java/lang/System$CallersHolder"), (43, u "initialErrStream"), (0, u "Ljava/io/PrintStream;"), (19, u "security"), (0, u "Ljava/lang/SecurityManager;"), (31, .class_ 209), (0, u "java/lang/System$1"), (7, u "props"), (0, u "Ljava/util/Properties;"), (2, u "lineSeparator"), (0, u "Ljava/lang/String;"), (96, .class_ 321), (1, u "java/lang/System$LoggerFinder"), (5, .class_ 328), (0, u "java/lang/System$Logger"), (67, u "err"), (2, u "out"), (91, u "notSupportedJnuEncoding"), (15, u "in"), (17, u "initialIn"), (0, u "Ljava/io/InputStream;"), (35, u "bootLayer"), (0, u "Ljava/lang/ModuleLayer;"), (99, .class_ 664), (0, u "java/lang/System$2"), (9, u "NEVER"), (2, u "MAYBE"), (49, u "arraycopy"), (0, u "(Ljava/lang/Object;ILjava/lang/Object;II)V"), (72, .class_ 802), (0, u "java/lang/System$Logger$Level")] 31

def k15m0 : Method := { name := "<init>", desc := "()V", sig := { parameters := [], returnType := none }, accessFlags := 2, code := none }
def k15m1 : Method := { name := "arraycopy", desc := "(Ljava/lang/Object;ILjava/lang/Object;II)V", sig := { parameters := [(.object "java/lang/Object"), .int, (.object "java/lang/Object"), .int, .int], returnType := none }, accessFlags := 265, code := none }
/-- java/lang/System -/
def k15 : Class := { plain "java/lang/System" (some 0) with
  accessFlags := 49
  interfaces := #[]
  cf := some (fileOf pool15 8 #[.nestMembers #[319, 327, 801, 108, 663, 208]] #[{ accessFlags := 2, nameIndex := 5, descriptorIndex := 6, attributes := #[] }, { accessFlags := 265, nameIndex := 727, descriptorIndex := 728, attributes := #[] }] 49 2 #[] #[{ accessFlags := 25, nameIndex := 507, descriptorIndex := 526, attributes := #[] }, { accessFlags := 25, nameIndex := 399, descriptorIndex := 155, attributes := #[] }, { accessFlags := 25, nameIndex := 396, descriptorIndex := 155, attributes := #[] }, { accessFlags := 10, nameIndex := 525, descriptorIndex := 526, attributes := #[] }, { accessFlags := 26, nameIndex := 674, descriptorIndex := 12, attributes := #[] }, { accessFlags := 26, nameIndex := 677, descriptorIndex := 12, attributes := #[] }, { accessFlags := 10, nameIndex := 11, descriptorIndex := 12, attributes := #[] }, { accessFlags := 74, nameIndex := 175, descriptorIndex := 176, attributes := #[] }, { accessFlags := 10, nameIndex := 491, descriptorIndex := 222, attributes := #[] }, { accessFlags := 74, nameIndex := 29, descriptorIndex := 30, attributes := #[] }, { accessFlags := 74, nameIndex := 154, descriptorIndex := 155, attributes := #[] }, { accessFlags := 10, nameIndex := 217, descriptorIndex := 218, attributes := #[] }, { accessFlags := 10, nameIndex := 221, descriptorIndex := 222, attributes := #[] }, { accessFlags := 8, nameIndex := 562, descriptorIndex := 563, attributes := #[] }])
  fields := #[{ name := "in", type := (.object "java/io/InputStream"), accessFlags := 25, slot := 0, constantValue := 0 }, { name := "out", type := (.object "java/io/PrintStream"), accessFlags := 25, slot := 1, constantValue := 0 }, { name := "err", type := (.object "java/io/PrintStream"), accessFlags := 25, slot := 2, constantValue := 0 }, { name := "initialIn", type := (.object "java/io/InputStream"), accessFlags := 10, slot := 3, constantValue := 0 }, { name := "NEVER", type := .int, accessFlags := 26, slot := 4, constantValue := 0 }, { name := "MAYBE", type := .int, accessFlags := 26, slot := 5, constantValue := 0 }, { name := "allowSecurityManager", type := .int, accessFlags := 10, slot := 6, constantValue := 0 }, { name := "security", type := (.object "java/lang/SecurityManager"), accessFlags := 74, slot := 7, constantValue := 0 }, { name := "notSupportedJnuEncoding", type := (.object "java/lang/String"), accessFlags := 10, slot := 8, constantValue := 0 }, { name := "cons", type := (.object "java/io/Console"), accessFlags := 74, slot := 9, constantValue := 0 }, { name := "initialErrStream", type := (.object "java/io/PrintStream"), accessFlags := 74, slot := 10, constantValue := 0 }, { name := "props", type := (.object "java/util/Properties"), accessFlags := 10, slot := 11, constantValue := 0 }, { name := "lineSeparator", type := (.object "java/lang/String"), accessFlags := 10, slot := 12, constantValue := 0 }, { name := "bootLayer", type := (.object "java/lang/ModuleLayer"), accessFlags := 8, slot := 13, constantValue := 0 }]
  methods := #[k15m0, k15m1]
  instanceTypes := #[]
  staticTypes := #[(.object "java/io/InputStream"), (.object "java/io/PrintStream"), (.object "java/io/PrintStream"), (.object "java/io/InputStream"), .int, .int, .int, (.object "java/lang/SecurityManager"), (.object "java/lang/String"), (.object "java/io/Console"), (.object "java/io/PrintStream"), (.object "java/util/Properties"), (.object "java/lang/String"), (.object "java/lang/ModuleLayer")]
  resolved := Array.replicate 834 none
  statics := none }

def pool16 : Array CpInfo := pool [(9, u "<init>"), (6, .class_ 18), (1, u "java/lang/Object"), (0, u "()V"), (1, .class_ 23), (1, u "jdk/internal/util/ArraysSupport"), (0, u "LOG2_ARRAY_LONG_INDEX_SCALE"), (0, u "I"), (2, u "U"), (0, u "Ljdk/internal/misc/Unsafe;"), (8, u "BIG_ENDIAN"), (0, u "Z"), (8, u "LOG2_BYTE_BIT_SIZE"), (4, u "LOG2_ARRAY_INT_INDEX_SCALE"), (54, u "JLA"), (0, u "Ljdk/internal/access/JavaLangAccess;"), (11, u "LOG2_ARRAY_BOOLEAN_INDEX_SCALE"), (9, u "LOG2_ARRAY_BYTE_INDEX_SCALE"), (5, u "LOG2_ARRAY_CHAR_INDEX_SCALE"), (5, u "LOG2_ARRAY_SHORT_INDEX_SCALE"), (18, u "LOG2_ARRAY_FLOAT_INDEX_SCALE"), (24, u "LOG2_ARRAY_DOUBLE_INDEX_SCALE"), (89, u "T_BOOLEAN"), (2, u "T_CHAR"), (1, u "T_FLOAT"), (1, u "T_DOUBLE"), (1, u "T_BYTE"), (1, u "T_SHORT"), (1, u "T_INT"), (1, u "T_LONG"), (1, u "SOFT_MAX_ARRAY_LENGTH")] 83

def k16m0 : Method := { name := "<init>", desc := "()V", sig := { parameters := [], returnType := none }, accessFlags := 2, code := none }
/-- jdk/internal/util/ArraysSupport -/
def k16 : Class := { plain "jdk/internal/util/ArraysSupport" (some 0) with
  accessFlags := 33
  interfaces := #[]
  cf := some (fileOf pool16 21 #[] #[{ accessFlags := 2, nameIndex := 9, descriptorIndex := 19, attributes := #[] }] 33 16 #[] #[{ accessFlags := 24, nameIndex := 28, descriptorIndex := 29, attributes := #[] }, { accessFlags := 26, nameIndex := 38, descriptorIndex := 39, attributes := #[] }, { accessFlags := 25, nameIndex := 121, descriptorIndex := 25, attributes := #[] }, { accessFlags := 25, nameIndex := 131, descriptorIndex := 25, attributes := #[] }, { accessFlags := 25, nameIndex := 137, descriptorIndex := 25, attributes := #[] }, { accessFlags := 25, nameIndex := 143, descriptorIndex := 25, attributes := #[] }, { accessFlags := 25, nameIndex := 53, descriptorIndex := 25, attributes := #[] }, { accessFlags := 25, nameIndex := 24, descriptorIndex := 25, attributes := #[] }, { accessFlags := 25, nameIndex := 162, descriptorIndex := 25, attributes := #[] }, { accessFlags := 25, nameIndex := 187, descriptorIndex := 25, attributes := #[] }, { accessFlags := 26, nameIndex := 48, descriptorIndex := 25, attributes := #[] }, { accessFlags := 25, nameIndex := 277, descriptorIndex := 25, attributes := #[] }, { accessFlags := 25, nameIndex := 280, descriptorIndex := 25, attributes := #[] }, { accessFlags := 25, nameIndex := 282, descriptorIndex := 25, attributes := #[] }, { accessFlags := 25, nameIndex := 284, descriptorIndex := 25, attributes := #[] }, { accessFlags := 25, nameIndex := 286, descriptorIndex := 25, attributes := #[] }, { accessFlags := 25, nameIndex := 288, descriptorIndex := 25, attributes := #[] }, { accessFlags := 25, nameIndex := 290, descriptorIndex := 25, attributes := #[] }, { accessFlags := 25, nameIndex := 292, descriptorIndex := 25, attributes := #[] }, { accessFlags := 26, nameIndex := 108, descriptorIndex := 109, attributes := #[] }, { accessFlags := 25, nameIndex := 294, descriptorIndex := 25, attributes := #[] }])
  fields := #[{ name := "U", type := (.object "jdk/internal/misc/Unsafe"), accessFlags := 24, slot := 0, constantValue := 0 }, { name := "BIG_ENDIAN", type := .boolean, accessFlags := 26, slot := 1, constantValue := 0 }, { name := "LOG2_ARRAY_BOOLEAN_INDEX_SCALE", type := .int, accessFlags := 25, slot := 2, constantValue := 0 }, { name := "LOG2_ARRAY_BYTE_INDEX_SCALE", type := .int, accessFlags := 25, slot := 3, constantValue := 0 }, { name := "LOG2_ARRAY_CHAR_INDEX_SCALE", type := .int, accessFlags := 25, slot := 4, constantValue := 0 }, { name := "LOG2_ARRAY_SHORT_INDEX_SCALE", type := .int, accessFlags := 25, slot := 5, constantValue := 0 }, { name := "LOG2_ARRAY_INT_INDEX_SCALE", type := .int, accessFlags := 25, slot := 6, constantValue := 0 }, { name := "LOG2_ARRAY_LONG_INDEX_SCALE", type := .int, accessFlags := 25, slot := 7, constantValue := 0 }, { name := "LOG2_ARRAY_FLOAT_INDEX_SCALE", type := .int, accessFlags := 25, slot := 8, constantValue := 0 }, { name := "LOG2_ARRAY_DOUBLE_INDEX_SCALE", type := .int, accessFlags := 25, slot := 9, constantValue := 0 }, { name := "LOG2_BYTE_BIT_SIZE", type := .int, accessFlags := 26, slot := 10, constantValue := 0 }, { name := "T_BOOLEAN", type := .int, accessFlags := 25, slot := 11, constantValue := 0 }, { name := "T_CHAR", type := .int, accessFlags := 25, slot := 12, constantValue := 0 }, { name := "T_FLOAT", type := .int, accessFlags := 25, slot := 13, constantValue := 0 }, { name := "T_DOUBLE", type := .int, accessFlags := 25, slot := 14, constantValue := 0 }, { name := "T_BYTE", type := .int, accessFlags := 25, slot := 15, constantValue := 0 }, { name := "T_SHORT", type := .int, accessFlags := 25, slot := 16, constantValue := 0 }, { name := "T_INT", type := .int, accessFlags := 25, slot := 17, constantValue := 0 }, { name := "T_LONG", type := .int, accessFlags := 25, slot := 18, constantValue := 0 }, { name := "JLA", type := (.object "jdk/internal/access/JavaLangAccess"), accessFlags := 26, slot := 19, constantValue := 0 }, { name := "SOFT_MAX_ARRAY_LENGTH", type := .int, accessFlags := 25, slot := 20, constantValue := 0 }]
  methods := #[k16m0]
  instanceTypes := #[]
  staticTypes := #[(.object "jdk/internal/misc/Unsafe"), .boolean, .int, .int, .int, .int, .int, .int, .int, .int, .int, .int, .int, .int, .int, .int, .int, .int, .int, (.object "jdk/internal/access/JavaLangAccess"), .int]
  resolved := Array.replicate 378 none
  statics := none }

def pool17 : Array CpInfo := pool [(1, u "java/lang/Cloneable"), (0, .class_ 1), (0, u "java/lang/Object"), (0, .class_ 3)] 3

/-- java/lang/Cloneable -/
def k17 : Class := { plain "java/lang/Cloneable" (some 0) with
  accessFlags := 1537
  interfaces := #[]
  cf := some (fileOf pool17 2 #[] #[] 1537 4 #[] #[])
  fields := #[]
  methods := #[]
  instanceTypes := #[]
  staticTypes := #[]
  resolved := Array.replicate 8 none
  statics := none }

/-- the primitive byte -/
def k18 : Class := { plain "byte" none with kind := .primitive 'B', accessFlags := 0x411 }
/-- [B -/
def k19 : Class := { plain "[B" (some 0) with kind := .array 18 .byte, interfaces := #[17, 2], accessFlags := 1041 }

/-- the primitive char -/
def k20 : Class := { plain "char" none with kind := .primitive 'C', accessFlags := 0x411 }
/-- [C -/
def k21 : Class := { plain "[C" (some 0) with kind := .array 20 .char, interfaces := #[17, 2], accessFlags := 1041 }

/-- the primitive int -/
def k22 : Class := { plain "int" none with kind := .primitive 'I', accessFlags := 0x411 }
/-- [I -/
def k23 : Class := { plain "[I" (some 0) with kind := .array 22 .int, interfaces := #[17, 2], accessFlags := 1041 }

def heap : Heap := #[{ cls := 7, slots := #[.long 0, .int 1, .null, .int 0, .null, .int 0, .int 0], vm := .statics 7 },
  { cls := 10, slots := #[.null, .null, .null], vm := .statics 10 },
  { cls := 11, slots := #[.int 0, .int 8, .int 0, .int 1], vm := .statics 11 }]
def classes : Array Class := #[k0, k1, k2, k3, k4, k5, k6, k7, k8, k9, k10, k11, k12, k13, k14, k15, k16, k17, k18, k19, k20, k21, k22, k23]
def interned : List (Array UInt16 × Addr) := []
def slotsUsed : Nat := 14
def theMethod : MethodId := ⟨1, 1⟩
def args0 : Array Value := #[.int 7, .int 65, .int 131140, .int 3, .int 4]
def aboutOver (below : List Frame) : State where
  vm := { classes := classes, interned := interned.toArray }
  heap := heap
  slotsUsed := slotsUsed
  threads := #[{ frames := .invoking theMethod args0 :: below }]
def below0 : List Frame := [.native { method := ⟨0, 0⟩, args := #[] }]
def about1 : State := aboutOver below0
def p0 : Program := .bare "" "" ""
def e0 : Env := launch0.env 0 0 0
theorem w_frames : about1.frames = Frame.invoking theMethod args0 :: below0 := rfl
set_option maxRecDepth 65536 in
theorem w_args : argsFit about1.vm theMethod args0 = true := by decide +kernel
set_option maxRecDepth 65536 in
theorem w_heap : heapFits about1 = true := by decide +kernel
set_option maxRecDepth 65536 in
theorem w_runnable : about1.curStatus? = some .runnable := by decide +kernel
set_option maxRecDepth 65536 in
theorem w_alone : about1.alone = true := by decide +kernel
set_option maxRecDepth 65536 in
theorem w_named : about1.methodNamed? x = some theMethod := by decide +kernel
set_option maxRecDepth 65536 in
theorem w_hears : about1.hears theMethod below0 = true := by decide +kernel
set_option maxRecDepth 65536 in
theorem w_ripe : about1.ripe theMethod args0 below0 = true := by decide +kernel
theorem w_running : about1.status = .running := rfl
set_option maxRecDepth 65536 in
theorem w_room : about1.hasRoom e0.platform room_1 = true :=
  launch0.hasRoom_least _ room_1 (by decide +kernel) (by decide +kernel) (by decide +kernel) (by decide +kernel) (by decide +kernel) (by decide +kernel)
theorem allAtoms_all (ts : List Jvm.Cond) (a : Array Jvm.Value) (st : Jvm.State) : (allAtoms ts).before a st = ts.all (fun c => c.before a st) := by
  induction ts with
  | nil => rfl
  | cons c t ih =>
    show (Jvm.Cond.and c (allAtoms t)).before a st = _
    rw [Jvm.Cond.before_and, ih, List.all_cons]
def words1 : List Jvm.Cond := Jvm.Cond.code x code maxLocals ret :: tables_1
/-- a 'code' word, met by the world's own term for the bytes: nothing is compared byte by byte -/
theorem code_word {y : MethodName} {bytes : ByteArray} {mx : Nat} {rt : Option FieldType} {a : Array Value} {s : State} {m : MethodId} {meth : Method} {c : Code} (h1 : s.methodNamed? y = some m) (h2 : s.vm.method? m = some meth) (h3 : meth.code = some c) (h4 : c.code = bytes)
    (h5 : (c.maxLocals == mx && c.exceptionTable.isEmpty && decide (c.maxStack ≤ mostOperands) && decide (meth.sig.returnType = rt) && !meth.locks && decide (parseMethodDescriptor y.desc = some meth.sig)) = true) : (Jvm.Cond.code y bytes mx rt).before a s = true := by
  simp only [Bool.and_eq_true, beq_iff_eq, Bool.not_eq_true', decide_eq_true_eq] at h5
  obtain ⟨⟨⟨⟨⟨g1, g2⟩, g3⟩, g4⟩, g5⟩, g6⟩ := h5
  simp [Cond.before, Cond.holds, Cond.value, h1, h2, h3, h4, g1, g2, g3, g4, g5, g6]
def isCode : Jvm.Cond → Bool
  | .code _ _ _ _ => true
  | _ => false
theorem all_split {L : List Jvm.Cond} {P : Jvm.Cond → Bool} (h1 : L.all (fun c => isCode c || P c) = true) (h2 : ∀ c ∈ L.filter isCode, P c = true) : L.all P = true := by
  refine List.all_eq_true.mpr fun c hc => ?_
  have h := List.all_eq_true.mp h1 c hc
  rcases Bool.eq_false_or_eq_true (isCode c) with hi | hi
  · exact h2 c (List.mem_filter.mpr ⟨hc, hi⟩)
  · simpa [hi] using h
set_option maxRecDepth 65536 in
theorem w_c0 : (Jvm.Cond.code x code maxLocals ret).before args0 about1 = true := code_word (m := ⟨1, 1⟩) (meth := k1m1) (c := k1c1) (by decide +kernel) rfl rfl rfl (by decide +kernel)
set_option maxRecDepth 65536 in
theorem w_c1 : (Jvm.Cond.code ({ cls := "com/example/haulwright/haulwright/TextInputStripPinLaw", name := "draw", desc := "(I)C" } : Jvm.MethodName) method_5_code (2 : Nat) (Option.some Jvm.ClassFile.FieldType.char)).before args0 about1 = true := code_word (m := ⟨1, 4⟩) (meth := k1m4) (c := k1c4) (by decide +kernel) rfl rfl rfl (by decide +kernel)
set_option maxRecDepth 65536 in
theorem w_c2 : (Jvm.Cond.code ({ cls := "com/example/haulwright/haulwright/TextInputStripPinLaw", name := "prefix", desc := "([CI)[C" } : Jvm.MethodName) method_6_code (2 : Nat) (Option.some (Jvm.ClassFile.FieldType.array Jvm.ClassFile.FieldType.char))).before args0 about1 = true := code_word (m := ⟨1, 5⟩) (meth := k1m5) (c := k1c5) (by decide +kernel) rfl rfl rfl (by decide +kernel)
set_option maxRecDepth 65536 in
theorem w_c3 : (Jvm.Cond.code ({ cls := "java/lang/String", name := "<init>", desc := "([C)V" } : Jvm.MethodName) jdk_42_method_3_code (2 : Nat) (Option.none : Option Jvm.ClassFile.FieldType)).before args0 about1 = true := code_word (m := ⟨7, 1⟩) (meth := k7m1) (c := k7c1) (by decide +kernel) rfl rfl rfl (by decide +kernel)
set_option maxRecDepth 65536 in
theorem w_c4 : (Jvm.Cond.code ({ cls := "java/lang/String", name := "<init>", desc := "([CIILjava/lang/Void;)V" } : Jvm.MethodName) jdk_42_method_149_code (6 : Nat) (Option.none : Option Jvm.ClassFile.FieldType)).before args0 about1 = true := code_word (m := ⟨7, 5⟩) (meth := k7m5) (c := k7c5) (by decide +kernel) rfl rfl rfl (by decide +kernel)
set_option maxRecDepth 65536 in
theorem w_c5 : (Jvm.Cond.code ({ cls := "java/lang/Object", name := "<init>", desc := "()V" } : Jvm.MethodName) object_method_1_code (1 : Nat) (Option.none : Option Jvm.ClassFile.FieldType)).before args0 about1 = true := code_word (m := ⟨0, 0⟩) (meth := k0m0) (c := k0c0) (by decide +kernel) rfl rfl rfl (by decide +kernel)
set_option maxRecDepth 65536 in
theorem w_c6 : (Jvm.Cond.code ({ cls := "com/example/haulwright/haulwright/TextInput", name := "strip", desc := "(Ljava/lang/String;)Ljava/lang/String;" } : Jvm.MethodName) prog_40_method_7_code (3 : Nat) (Option.some (Jvm.ClassFile.FieldType.object "java/lang/String"))).before args0 about1 = true := code_word (m := ⟨9, 0⟩) (meth := k9m0) (c := k9c0) (by decide +kernel) rfl rfl rfl (by decide +kernel)
set_option maxRecDepth 65536 in
theorem w_c7 : (Jvm.Cond.code ({ cls := "java/lang/String", name := "length", desc := "()I" } : Jvm.MethodName) jdk_42_method_54_code (1 : Nat) (Option.some Jvm.ClassFile.FieldType.int)).before args0 about1 = true := code_word (m := ⟨7, 2⟩) (meth := k7m2) (c := k7c2) (by decide +kernel) rfl rfl rfl (by decide +kernel)
set_option maxRecDepth 65536 in
theorem w_c8 : (Jvm.Cond.code ({ cls := "java/lang/String", name := "coder", desc := "()B" } : Jvm.MethodName) jdk_42_method_152_code (1 : Nat) (Option.some Jvm.ClassFile.FieldType.byte)).before args0 about1 = true := code_word (m := ⟨7, 7⟩) (meth := k7m7) (c := k7c7) (by decide +kernel) rfl rfl rfl (by decide +kernel)
set_option maxRecDepth 65536 in
theorem w_c9 : (Jvm.Cond.code ({ cls := "java/lang/String", name := "substring", desc := "(II)Ljava/lang/String;" } : Jvm.MethodName) jdk_42_method_92_code (5 : Nat) (Option.some (Jvm.ClassFile.FieldType.object "java/lang/String"))).before args0 about1 = true := code_word (m := ⟨7, 4⟩) (meth := k7m4) (c := k7c4) (by decide +kernel) rfl rfl rfl (by decide +kernel)
set_option maxRecDepth 65536 in
theorem w_c10 : (Jvm.Cond.code ({ cls := "java/lang/String", name := "checkBoundsBeginEnd", desc := "(III)V" } : Jvm.MethodName) jdk_42_method_158_code (3 : Nat) (Option.none : Option Jvm.ClassFile.FieldType)).before args0 about1 = true := code_word (m := ⟨7, 11⟩) (meth := k7m11) (c := k7c11) (by decide +kernel) rfl rfl rfl (by decide +kernel)
set_option maxRecDepth 65536 in
theorem w_c11 : (Jvm.Cond.code ({ cls := "jdk/internal/util/Preconditions", name := "checkFromToIndex", desc := "(IIILjava/util/function/BiFunction;)I" } : Jvm.MethodName) jdk_41_method_12_code (4 : Nat) (Option.some Jvm.ClassFile.FieldType.int)).before args0 about1 = true := code_word (m := ⟨10, 2⟩) (meth := k10m2) (c := k10c2) (by decide +kernel) rfl rfl rfl (by decide +kernel)
set_option maxRecDepth 65536 in
theorem w_c12 : (Jvm.Cond.code ({ cls := "com/example/haulwright/haulwright/TextInputStripPinLaw", name := "at", desc := "(Ljava/lang/String;I[CI)Z" } : Jvm.MethodName) method_3_code (4 : Nat) (Option.some Jvm.ClassFile.FieldType.boolean)).before args0 about1 = true := code_word (m := ⟨1, 2⟩) (meth := k1m2) (c := k1c2) (by decide +kernel) rfl rfl rfl (by decide +kernel)
set_option maxRecDepth 65536 in
theorem w_c13 : (Jvm.Cond.code ({ cls := "java/lang/StringUTF16", name := "compress", desc := "([CII)[B" } : Jvm.MethodName) jdk_52_method_16_code (6 : Nat) (Option.some (Jvm.ClassFile.FieldType.array Jvm.ClassFile.FieldType.byte))).before args0 about1 = true := code_word (m := ⟨11, 8⟩) (meth := k11m8) (c := k11c8) (by decide +kernel) rfl rfl rfl (by decide +kernel)
set_option maxRecDepth 65536 in
theorem w_c14 : (Jvm.Cond.code ({ cls := "java/lang/StringUTF16", name := "compress", desc := "([CI[BII)I" } : Jvm.MethodName) jdk_52_method_21_code (7 : Nat) (Option.some Jvm.ClassFile.FieldType.int)).before args0 about1 = true := code_word (m := ⟨11, 10⟩) (meth := k11m10) (c := k11c10) (by decide +kernel) rfl rfl rfl (by decide +kernel)
set_option maxRecDepth 65536 in
theorem w_c15 : (Jvm.Cond.code ({ cls := "java/lang/StringUTF16", name := "coderFromArrayLen", desc := "([BI)B" } : Jvm.MethodName) jdk_52_method_15_code (2 : Nat) (Option.some Jvm.ClassFile.FieldType.byte)).before args0 about1 = true := code_word (m := ⟨11, 7⟩) (meth := k11m7) (c := k11c7) (by decide +kernel) rfl rfl rfl (by decide +kernel)
set_option maxRecDepth 65536 in
theorem w_c16 : (Jvm.Cond.code ({ cls := "java/lang/String", name := "charAt", desc := "(I)C" } : Jvm.MethodName) jdk_42_method_56_code (2 : Nat) (Option.some Jvm.ClassFile.FieldType.char)).before args0 about1 = true := code_word (m := ⟨7, 3⟩) (meth := k7m3) (c := k7c3) (by decide +kernel) rfl rfl rfl (by decide +kernel)
set_option maxRecDepth 65536 in
theorem w_c17 : (Jvm.Cond.code ({ cls := "java/lang/String", name := "isLatin1", desc := "()Z" } : Jvm.MethodName) jdk_42_method_154_code (1 : Nat) (Option.some Jvm.ClassFile.FieldType.boolean)).before args0 about1 = true := code_word (m := ⟨7, 8⟩) (meth := k7m8) (c := k7c8) (by decide +kernel) rfl rfl rfl (by decide +kernel)
set_option maxRecDepth 65536 in
theorem w_c18 : (Jvm.Cond.code ({ cls := "java/lang/StringLatin1", name := "charAt", desc := "([BI)C" } : Jvm.MethodName) jdk_43_method_2_code (2 : Nat) (Option.some Jvm.ClassFile.FieldType.char)).before args0 about1 = true := code_word (m := ⟨12, 1⟩) (meth := k12m1) (c := k12c1) (by decide +kernel) rfl rfl rfl (by decide +kernel)
set_option maxRecDepth 65536 in
theorem w_c19 : (Jvm.Cond.code ({ cls := "java/lang/String", name := "checkIndex", desc := "(II)V" } : Jvm.MethodName) jdk_42_method_155_code (2 : Nat) (Option.none : Option Jvm.ClassFile.FieldType)).before args0 about1 = true := code_word (m := ⟨7, 9⟩) (meth := k7m9) (c := k7c9) (by decide +kernel) rfl rfl rfl (by decide +kernel)
set_option maxRecDepth 65536 in
theorem w_c20 : (Jvm.Cond.code ({ cls := "jdk/internal/util/Preconditions", name := "checkIndex", desc := "(IILjava/util/function/BiFunction;)I" } : Jvm.MethodName) jdk_41_method_11_code (3 : Nat) (Option.some Jvm.ClassFile.FieldType.int)).before args0 about1 = true := code_word (m := ⟨10, 1⟩) (meth := k10m1) (c := k10c1) (by decide +kernel) rfl rfl rfl (by decide +kernel)
set_option maxRecDepth 65536 in
theorem w_c21 : (Jvm.Cond.code ({ cls := "com/example/haulwright/haulwright/TextInput", name := "isBlank", desc := "(C)Z" } : Jvm.MethodName) prog_40_method_8_code (1 : Nat) (Option.some Jvm.ClassFile.FieldType.boolean)).before args0 about1 = true := code_word (m := ⟨9, 1⟩) (meth := k9m1) (c := k9c1) (by decide +kernel) rfl rfl rfl (by decide +kernel)
set_option maxRecDepth 65536 in
theorem w_c22 : (Jvm.Cond.code ({ cls := "java/lang/StringLatin1", name := "newString", desc := "([BII)Ljava/lang/String;" } : Jvm.MethodName) jdk_43_method_47_code (3 : Nat) (Option.some (Jvm.ClassFile.FieldType.object "java/lang/String"))).before args0 about1 = true := code_word (m := ⟨12, 2⟩) (meth := k12m2) (c := k12c2) (by decide +kernel) rfl rfl rfl (by decide +kernel)
set_option maxRecDepth 65536 in
theorem w_c23 : (Jvm.Cond.code ({ cls := "com/example/haulwright/haulwright/TextInputStripPinLaw", name := "blank", desc := "(C)Z" } : Jvm.MethodName) method_4_code (1 : Nat) (Option.some Jvm.ClassFile.FieldType.boolean)).before args0 about1 = true := code_word (m := ⟨1, 3⟩) (meth := k1m3) (c := k1c3) (by decide +kernel) rfl rfl rfl (by decide +kernel)
set_option maxRecDepth 65536 in
theorem w_c24 : (Jvm.Cond.code ({ cls := "java/lang/StringUTF16", name := "toBytes", desc := "([CII)[B" } : Jvm.MethodName) jdk_52_method_14_code (5 : Nat) (Option.some (Jvm.ClassFile.FieldType.array Jvm.ClassFile.FieldType.byte))).before args0 about1 = true := code_word (m := ⟨11, 6⟩) (meth := k11m6) (c := k11c6) (by decide +kernel) rfl rfl rfl (by decide +kernel)
set_option maxRecDepth 65536 in
theorem w_c25 : (Jvm.Cond.code ({ cls := "java/lang/StringUTF16", name := "newBytesFor", desc := "(I)[B" } : Jvm.MethodName) jdk_52_method_2_code (1 : Nat) (Option.some (Jvm.ClassFile.FieldType.array Jvm.ClassFile.FieldType.byte))).before args0 about1 = true := code_word (m := ⟨11, 1⟩) (meth := k11m1) (c := k11c1) (by decide +kernel) rfl rfl rfl (by decide +kernel)
set_option maxRecDepth 65536 in
theorem w_c26 : (Jvm.Cond.code ({ cls := "java/lang/StringUTF16", name := "newBytesLength", desc := "(I)I" } : Jvm.MethodName) jdk_52_method_3_code (1 : Nat) (Option.some Jvm.ClassFile.FieldType.int)).before args0 about1 = true := code_word (m := ⟨11, 2⟩) (meth := k11m2) (c := k11c2) (by decide +kernel) rfl rfl rfl (by decide +kernel)
set_option maxRecDepth 65536 in
theorem w_c27 : (Jvm.Cond.code ({ cls := "java/lang/StringUTF16", name := "putChar", desc := "([BII)V" } : Jvm.MethodName) jdk_52_method_4_code (3 : Nat) (Option.none : Option Jvm.ClassFile.FieldType)).before args0 about1 = true := code_word (m := ⟨11, 3⟩) (meth := k11m3) (c := k11c3) (by decide +kernel) rfl rfl rfl (by decide +kernel)
set_option maxRecDepth 65536 in
theorem w_c28 : (Jvm.Cond.code ({ cls := "java/lang/StringUTF16", name := "getChar", desc := "([BI)C" } : Jvm.MethodName) jdk_52_method_5_code (2 : Nat) (Option.some Jvm.ClassFile.FieldType.char)).before args0 about1 = true := code_word (m := ⟨11, 4⟩) (meth := k11m4) (c := k11c4) (by decide +kernel) rfl rfl rfl (by decide +kernel)
set_option maxRecDepth 65536 in
theorem w_c29 : (Jvm.Cond.code ({ cls := "java/lang/StringUTF16", name := "charAt", desc := "([BI)C" } : Jvm.MethodName) jdk_52_method_83_code (2 : Nat) (Option.some Jvm.ClassFile.FieldType.char)).before args0 about1 = true := code_word (m := ⟨11, 13⟩) (meth := k11m13) (c := k11c13) (by decide +kernel) rfl rfl rfl (by decide +kernel)
set_option maxRecDepth 65536 in
theorem w_c30 : (Jvm.Cond.code ({ cls := "java/lang/StringUTF16", name := "checkIndex", desc := "(I[B)V" } : Jvm.MethodName) jdk_52_method_91_code (2 : Nat) (Option.none : Option Jvm.ClassFile.FieldType)).before args0 about1 = true := code_word (m := ⟨11, 14⟩) (meth := k11m14) (c := k11c14) (by decide +kernel) rfl rfl rfl (by decide +kernel)
set_option maxRecDepth 65536 in
theorem w_c31 : (Jvm.Cond.code ({ cls := "java/lang/StringUTF16", name := "length", desc := "([B)I" } : Jvm.MethodName) jdk_52_method_6_code (1 : Nat) (Option.some Jvm.ClassFile.FieldType.int)).before args0 about1 = true := code_word (m := ⟨11, 5⟩) (meth := k11m5) (c := k11c5) (by decide +kernel) rfl rfl rfl (by decide +kernel)
set_option maxRecDepth 65536 in
theorem w_c32 : (Jvm.Cond.code ({ cls := "java/lang/StringUTF16", name := "newString", desc := "([BII)Ljava/lang/String;" } : Jvm.MethodName) jdk_52_method_69_code (5 : Nat) (Option.some (Jvm.ClassFile.FieldType.object "java/lang/String"))).before args0 about1 = true := code_word (m := ⟨11, 12⟩) (meth := k11m12) (c := k11c12) (by decide +kernel) rfl rfl rfl (by decide +kernel)
set_option maxRecDepth 65536 in
theorem w_c33 : (Jvm.Cond.code ({ cls := "java/lang/StringUTF16", name := "compress", desc := "([BII)[B" } : Jvm.MethodName) jdk_52_method_17_code (6 : Nat) (Option.some (Jvm.ClassFile.FieldType.array Jvm.ClassFile.FieldType.byte))).before args0 about1 = true := code_word (m := ⟨11, 9⟩) (meth := k11m9) (c := k11c9) (by decide +kernel) rfl rfl rfl (by decide +kernel)
set_option maxRecDepth 65536 in
theorem w_c34 : (Jvm.Cond.code ({ cls := "java/lang/StringUTF16", name := "compress", desc := "([BI[BII)I" } : Jvm.MethodName) jdk_52_method_22_code (7 : Nat) (Option.some Jvm.ClassFile.FieldType.int)).before args0 about1 = true := code_word (m := ⟨11, 11⟩) (meth := k11m11) (c := k11c11) (by decide +kernel) rfl rfl rfl (by decide +kernel)
set_option maxRecDepth 65536 in
theorem w_c35 : (Jvm.Cond.code ({ cls := "java/lang/StringUTF16", name := "checkBoundsOffCount", desc := "(II[B)V" } : Jvm.MethodName) jdk_52_method_94_code (3 : Nat) (Option.none : Option Jvm.ClassFile.FieldType)).before args0 about1 = true := code_word (m := ⟨11, 15⟩) (meth := k11m15) (c := k11c15) (by decide +kernel) rfl rfl rfl (by decide +kernel)
set_option maxRecDepth 65536 in
theorem w_c36 : (Jvm.Cond.code ({ cls := "java/lang/String", name := "checkBoundsOffCount", desc := "(III)I" } : Jvm.MethodName) jdk_42_method_157_code (3 : Nat) (Option.some Jvm.ClassFile.FieldType.int)).before args0 about1 = true := code_word (m := ⟨7, 10⟩) (meth := k7m10) (c := k7c10) (by decide +kernel) rfl rfl rfl (by decide +kernel)
set_option maxRecDepth 65536 in
theorem w_c37 : (Jvm.Cond.code ({ cls := "jdk/internal/util/Preconditions", name := "checkFromIndexSize", desc := "(IIILjava/util/function/BiFunction;)I" } : Jvm.MethodName) jdk_41_method_13_code (4 : Nat) (Option.some Jvm.ClassFile.FieldType.int)).before args0 about1 = true := code_word (m := ⟨10, 3⟩) (meth := k10m3) (c := k10c3) (by decide +kernel) rfl rfl rfl (by decide +kernel)
set_option maxRecDepth 65536 in
theorem w_c38 : (Jvm.Cond.code ({ cls := "java/util/Arrays", name := "copyOfRange", desc := "([BII)[B" } : Jvm.MethodName) jdk_65_method_132_code (3 : Nat) (Option.some (Jvm.ClassFile.FieldType.array Jvm.ClassFile.FieldType.byte))).before args0 about1 = true := code_word (m := ⟨13, 2⟩) (meth := k13m2) (c := k13c2) (by decide +kernel) rfl rfl rfl (by decide +kernel)
set_option maxRecDepth 65536 in
theorem w_c39 : (Jvm.Cond.code ({ cls := "java/util/Arrays", name := "copyOfRangeByte", desc := "([BII)[B" } : Jvm.MethodName) jdk_65_method_133_code (5 : Nat) (Option.some (Jvm.ClassFile.FieldType.array Jvm.ClassFile.FieldType.byte))).before args0 about1 = true := code_word (m := ⟨13, 3⟩) (meth := k13m3) (c := k13c3) (by decide +kernel) rfl rfl rfl (by decide +kernel)
set_option maxRecDepth 65536 in
theorem w_c40 : (Jvm.Cond.code ({ cls := "java/util/Arrays", name := "checkLength", desc := "(II)V" } : Jvm.MethodName) jdk_65_method_131_code (2 : Nat) (Option.none : Option Jvm.ClassFile.FieldType)).before args0 about1 = true := code_word (m := ⟨13, 1⟩) (meth := k13m1) (c := k13c1) (by decide +kernel) rfl rfl rfl (by decide +kernel)
set_option maxRecDepth 65536 in
theorem w_c41 : (Jvm.Cond.code ({ cls := "java/lang/Math", name := "min", desc := "(II)I" } : Jvm.MethodName) jdk_29_method_69_code (2 : Nat) (Option.some Jvm.ClassFile.FieldType.int)).before args0 about1 = true := code_word (m := ⟨14, 1⟩) (meth := k14m1) (c := k14c1) (by decide +kernel) rfl rfl rfl (by decide +kernel)
set_option maxRecDepth 65536 in
theorem w_c42 : (Jvm.Cond.code ({ cls := "java/lang/String", name := "<init>", desc := "([BB)V" } : Jvm.MethodName) jdk_42_method_151_code (3 : Nat) (Option.none : Option Jvm.ClassFile.FieldType)).before args0 about1 = true := code_word (m := ⟨7, 6⟩) (meth := k7m6) (c := k7c6) (by decide +kernel) rfl rfl rfl (by decide +kernel)
def codes1 : List Jvm.Cond := [Jvm.Cond.code x code maxLocals ret, Jvm.Cond.code ({ cls := "com/example/haulwright/haulwright/TextInputStripPinLaw", name := "draw", desc := "(I)C" } : Jvm.MethodName) method_5_code (2 : Nat) (Option.some Jvm.ClassFile.FieldType.char), Jvm.Cond.code ({ cls := "com/example/haulwright/haulwright/TextInputStripPinLaw", name := "prefix", desc := "([CI)[C" } : Jvm.MethodName) method_6_code (2 : Nat) (Option.some (Jvm.ClassFile.FieldType.array Jvm.ClassFile.FieldType.char)), Jvm.Cond.code ({ cls := "java/lang/String", name := "<init>", desc := "([C)V" } : Jvm.MethodName) jdk_42_method_3_code (2 : Nat) (Option.none : Option Jvm.ClassFile.FieldType), Jvm.Cond.code ({ cls := "java/lang/String", name := "<init>", desc := "([CIILjava/lang/Void;)V" } : Jvm.MethodName) jdk_42_method_149_code (6 : Nat) (Option.none : Option Jvm.ClassFile.FieldType), Jvm.Cond.code ({ cls := "java/lang/Object", name := "<init>", desc := "()V" } : Jvm.MethodName) object_method_1_code (1 : Nat) (Option.none : Option Jvm.ClassFile.FieldType), Jvm.Cond.code ({ cls := "com/example/haulwright/haulwright/TextInput", name := "strip", desc := "(Ljava/lang/String;)Ljava/lang/String;" } : Jvm.MethodName) prog_40_method_7_code (3 : Nat) (Option.some (Jvm.ClassFile.FieldType.object "java/lang/String")), Jvm.Cond.code ({ cls := "java/lang/String", name := "length", desc := "()I" } : Jvm.MethodName) jdk_42_method_54_code (1 : Nat) (Option.some Jvm.ClassFile.FieldType.int), Jvm.Cond.code ({ cls := "java/lang/String", name := "coder", desc := "()B" } : Jvm.MethodName) jdk_42_method_152_code (1 : Nat) (Option.some Jvm.ClassFile.FieldType.byte), Jvm.Cond.code ({ cls := "java/lang/String", name := "substring", desc := "(II)Ljava/lang/String;" } : Jvm.MethodName) jdk_42_method_92_code (5 : Nat) (Option.some (Jvm.ClassFile.FieldType.object "java/lang/String")), Jvm.Cond.code ({ cls := "java/lang/String", name := "checkBoundsBeginEnd", desc := "(III)V" } : Jvm.MethodName) jdk_42_method_158_code (3 : Nat) (Option.none : Option Jvm.ClassFile.FieldType), Jvm.Cond.code ({ cls := "jdk/internal/util/Preconditions", name := "checkFromToIndex", desc := "(IIILjava/util/function/BiFunction;)I" } : Jvm.MethodName) jdk_41_method_12_code (4 : Nat) (Option.some Jvm.ClassFile.FieldType.int), Jvm.Cond.code ({ cls := "com/example/haulwright/haulwright/TextInputStripPinLaw", name := "at", desc := "(Ljava/lang/String;I[CI)Z" } : Jvm.MethodName) method_3_code (4 : Nat) (Option.some Jvm.ClassFile.FieldType.boolean), Jvm.Cond.code ({ cls := "java/lang/StringUTF16", name := "compress", desc := "([CII)[B" } : Jvm.MethodName) jdk_52_method_16_code (6 : Nat) (Option.some (Jvm.ClassFile.FieldType.array Jvm.ClassFile.FieldType.byte)), Jvm.Cond.code ({ cls := "java/lang/StringUTF16", name := "compress", desc := "([CI[BII)I" } : Jvm.MethodName) jdk_52_method_21_code (7 : Nat) (Option.some Jvm.ClassFile.FieldType.int), Jvm.Cond.code ({ cls := "java/lang/StringUTF16", name := "coderFromArrayLen", desc := "([BI)B" } : Jvm.MethodName) jdk_52_method_15_code (2 : Nat) (Option.some Jvm.ClassFile.FieldType.byte), Jvm.Cond.code ({ cls := "java/lang/String", name := "charAt", desc := "(I)C" } : Jvm.MethodName) jdk_42_method_56_code (2 : Nat) (Option.some Jvm.ClassFile.FieldType.char), Jvm.Cond.code ({ cls := "java/lang/String", name := "isLatin1", desc := "()Z" } : Jvm.MethodName) jdk_42_method_154_code (1 : Nat) (Option.some Jvm.ClassFile.FieldType.boolean), Jvm.Cond.code ({ cls := "java/lang/StringLatin1", name := "charAt", desc := "([BI)C" } : Jvm.MethodName) jdk_43_method_2_code (2 : Nat) (Option.some Jvm.ClassFile.FieldType.char), Jvm.Cond.code ({ cls := "java/lang/String", name := "checkIndex", desc := "(II)V" } : Jvm.MethodName) jdk_42_method_155_code (2 : Nat) (Option.none : Option Jvm.ClassFile.FieldType), Jvm.Cond.code ({ cls := "jdk/internal/util/Preconditions", name := "checkIndex", desc := "(IILjava/util/function/BiFunction;)I" } : Jvm.MethodName) jdk_41_method_11_code (3 : Nat) (Option.some Jvm.ClassFile.FieldType.int), Jvm.Cond.code ({ cls := "com/example/haulwright/haulwright/TextInput", name := "isBlank", desc := "(C)Z" } : Jvm.MethodName) prog_40_method_8_code (1 : Nat) (Option.some Jvm.ClassFile.FieldType.boolean), Jvm.Cond.code ({ cls := "java/lang/StringLatin1", name := "newString", desc := "([BII)Ljava/lang/String;" } : Jvm.MethodName) jdk_43_method_47_code (3 : Nat) (Option.some (Jvm.ClassFile.FieldType.object "java/lang/String")), Jvm.Cond.code ({ cls := "com/example/haulwright/haulwright/TextInputStripPinLaw", name := "blank", desc := "(C)Z" } : Jvm.MethodName) method_4_code (1 : Nat) (Option.some Jvm.ClassFile.FieldType.boolean), Jvm.Cond.code ({ cls := "java/lang/StringUTF16", name := "toBytes", desc := "([CII)[B" } : Jvm.MethodName) jdk_52_method_14_code (5 : Nat) (Option.some (Jvm.ClassFile.FieldType.array Jvm.ClassFile.FieldType.byte)), Jvm.Cond.code ({ cls := "java/lang/StringUTF16", name := "newBytesFor", desc := "(I)[B" } : Jvm.MethodName) jdk_52_method_2_code (1 : Nat) (Option.some (Jvm.ClassFile.FieldType.array Jvm.ClassFile.FieldType.byte)), Jvm.Cond.code ({ cls := "java/lang/StringUTF16", name := "newBytesLength", desc := "(I)I" } : Jvm.MethodName) jdk_52_method_3_code (1 : Nat) (Option.some Jvm.ClassFile.FieldType.int), Jvm.Cond.code ({ cls := "java/lang/StringUTF16", name := "putChar", desc := "([BII)V" } : Jvm.MethodName) jdk_52_method_4_code (3 : Nat) (Option.none : Option Jvm.ClassFile.FieldType), Jvm.Cond.code ({ cls := "java/lang/StringUTF16", name := "getChar", desc := "([BI)C" } : Jvm.MethodName) jdk_52_method_5_code (2 : Nat) (Option.some Jvm.ClassFile.FieldType.char), Jvm.Cond.code ({ cls := "java/lang/StringUTF16", name := "charAt", desc := "([BI)C" } : Jvm.MethodName) jdk_52_method_83_code (2 : Nat) (Option.some Jvm.ClassFile.FieldType.char), Jvm.Cond.code ({ cls := "java/lang/StringUTF16", name := "checkIndex", desc := "(I[B)V" } : Jvm.MethodName) jdk_52_method_91_code (2 : Nat) (Option.none : Option Jvm.ClassFile.FieldType), Jvm.Cond.code ({ cls := "java/lang/StringUTF16", name := "length", desc := "([B)I" } : Jvm.MethodName) jdk_52_method_6_code (1 : Nat) (Option.some Jvm.ClassFile.FieldType.int), Jvm.Cond.code ({ cls := "java/lang/StringUTF16", name := "newString", desc := "([BII)Ljava/lang/String;" } : Jvm.MethodName) jdk_52_method_69_code (5 : Nat) (Option.some (Jvm.ClassFile.FieldType.object "java/lang/String")), Jvm.Cond.code ({ cls := "java/lang/StringUTF16", name := "compress", desc := "([BII)[B" } : Jvm.MethodName) jdk_52_method_17_code (6 : Nat) (Option.some (Jvm.ClassFile.FieldType.array Jvm.ClassFile.FieldType.byte)), Jvm.Cond.code ({ cls := "java/lang/StringUTF16", name := "compress", desc := "([BI[BII)I" } : Jvm.MethodName) jdk_52_method_22_code (7 : Nat) (Option.some Jvm.ClassFile.FieldType.int), Jvm.Cond.code ({ cls := "java/lang/StringUTF16", name := "checkBoundsOffCount", desc := "(II[B)V" } : Jvm.MethodName) jdk_52_method_94_code (3 : Nat) (Option.none : Option Jvm.ClassFile.FieldType), Jvm.Cond.code ({ cls := "java/lang/String", name := "checkBoundsOffCount", desc := "(III)I" } : Jvm.MethodName) jdk_42_method_157_code (3 : Nat) (Option.some Jvm.ClassFile.FieldType.int), Jvm.Cond.code ({ cls := "jdk/internal/util/Preconditions", name := "checkFromIndexSize", desc := "(IIILjava/util/function/BiFunction;)I" } : Jvm.MethodName) jdk_41_method_13_code (4 : Nat) (Option.some Jvm.ClassFile.FieldType.int), Jvm.Cond.code ({ cls := "java/util/Arrays", name := "copyOfRange", desc := "([BII)[B" } : Jvm.MethodName) jdk_65_method_132_code (3 : Nat) (Option.some (Jvm.ClassFile.FieldType.array Jvm.ClassFile.FieldType.byte)), Jvm.Cond.code ({ cls := "java/util/Arrays", name := "copyOfRangeByte", desc := "([BII)[B" } : Jvm.MethodName) jdk_65_method_133_code (5 : Nat) (Option.some (Jvm.ClassFile.FieldType.array Jvm.ClassFile.FieldType.byte)), Jvm.Cond.code ({ cls := "java/util/Arrays", name := "checkLength", desc := "(II)V" } : Jvm.MethodName) jdk_65_method_131_code (2 : Nat) (Option.none : Option Jvm.ClassFile.FieldType), Jvm.Cond.code ({ cls := "java/lang/Math", name := "min", desc := "(II)I" } : Jvm.MethodName) jdk_29_method_69_code (2 : Nat) (Option.some Jvm.ClassFile.FieldType.int), Jvm.Cond.code ({ cls := "java/lang/String", name := "<init>", desc := "([BB)V" } : Jvm.MethodName) jdk_42_method_151_code (3 : Nat) (Option.none : Option Jvm.ClassFile.FieldType)]
set_option maxRecDepth 65536 in
theorem codes_eq : words1.filter isCode = codes1 := rfl
theorem w_codes : ∀ c ∈ words1.filter isCode, c.before args0 about1 = true := by
  rw [codes_eq]
  intro c hc
  simp only [codes1, List.mem_cons, List.not_mem_nil, or_false] at hc
  rcases hc with rfl | rfl | rfl | rfl | rfl | rfl | rfl | rfl | rfl | rfl | rfl | rfl | rfl | rfl | rfl | rfl | rfl | rfl | rfl | rfl | rfl | rfl | rfl | rfl | rfl | rfl | rfl | rfl | rfl | rfl | rfl | rfl | rfl | rfl | rfl | rfl | rfl | rfl | rfl | rfl | rfl | rfl | rfl
  · exact w_c0
  · exact w_c1
  · exact w_c2
  · exact w_c3
  · exact w_c4
  · exact w_c5
  · exact w_c6
  · exact w_c7
  · exact w_c8
  · exact w_c9
  · exact w_c10
  · exact w_c11
  · exact w_c12
  · exact w_c13
  · exact w_c14
  · exact w_c15
  · exact w_c16
  · exact w_c17
  · exact w_c18
  · exact w_c19
  · exact w_c20
  · exact w_c21
  · exact w_c22
  · exact w_c23
  · exact w_c24
  · exact w_c25
  · exact w_c26
  · exact w_c27
  · exact w_c28
  · exact w_c29
  · exact w_c30
  · exact w_c31
  · exact w_c32
  · exact w_c33
  · exact w_c34
  · exact w_c35
  · exact w_c36
  · exact w_c37
  · exact w_c38
  · exact w_c39
  · exact w_c40
  · exact w_c41
  · exact w_c42
set_option maxRecDepth 65536 in
theorem w_t1 : (words1.take 24).all (fun c => isCode c || c.before args0 about1) = true := by decide +kernel
set_option maxRecDepth 65536 in
theorem w_t2 : ((words1.drop 24).take 24).all (fun c => isCode c || c.before args0 about1) = true := by decide +kernel
set_option maxRecDepth 65536 in
theorem w_t3 : (((words1.drop 24).drop 24).take 24).all (fun c => isCode c || c.before args0 about1) = true := by decide +kernel
set_option maxRecDepth 65536 in
theorem w_t4 : ((((words1.drop 24).drop 24).drop 24).take 24).all (fun c => isCode c || c.before args0 about1) = true := by decide +kernel
set_option maxRecDepth 65536 in
theorem w_t5 : (((((words1.drop 24).drop 24).drop 24).drop 24).take 24).all (fun c => isCode c || c.before args0 about1) = true := by decide +kernel
set_option maxRecDepth 65536 in
theorem w_t6 : ((((((words1.drop 24).drop 24).drop 24).drop 24).drop 24).take 24).all (fun c => isCode c || c.before args0 about1) = true := by decide +kernel
set_option maxRecDepth 65536 in
theorem w_t7 : (((((((words1.drop 24).drop 24).drop 24).drop 24).drop 24).drop 24).take 24).all (fun c => isCode c || c.before args0 about1) = true := by decide +kernel
set_option maxRecDepth 65536 in
theorem w_t8 : (((((((words1.drop 24).drop 24).drop 24).drop 24).drop 24).drop 24).drop 24).all (fun c => isCode c || c.before args0 about1) = true := by decide +kernel
theorem w_tables : (allAtoms (Jvm.Cond.code x code maxLocals ret :: tables_1)).before args0 about1 = true := by
  rw [allAtoms_all]
  show words1.all (fun c => c.before args0 about1) = true
  refine all_split ?_ w_codes
  rw [← List.take_append_drop 24 words1, List.all_append, w_t1, ← List.take_append_drop 24 (words1.drop 24), List.all_append, w_t2, ← List.take_append_drop 24 ((words1.drop 24).drop 24), List.all_append, w_t3, ← List.take_append_drop 24 (((words1.drop 24).drop 24).drop 24), List.all_append, w_t4, ← List.take_append_drop 24 ((((words1.drop 24).drop 24).drop 24).drop 24), List.all_append, w_t5, ← List.take_append_drop 24 (((((words1.drop 24).drop 24).drop 24).drop 24).drop 24), List.all_append, w_t6, ← List.take_append_drop 24 ((((((words1.drop 24).drop 24).drop 24).drop 24).drop 24).drop 24), List.all_append, w_t7, w_t8]
  rfl
set_option maxRecDepth 65536 in
theorem w_rest : rest_1_c.before args0 about1 = true := by decide +kernel
set_option maxRecDepth 65536 in
theorem w_case : (Jvm.Cond.and given_1 narrow_1).before args0 about1 = true := by decide +kernel
set_option maxRecDepth 65536 in
theorem w_consts : constsHeld consts_1 about1 := Jvm.Lit.constsHeldB_iff.mp (by decide +kernel)
theorem w_applies : (headSpec (Jvm.Cond.code x code maxLocals ret :: tables_1) room_1).applies x e0.platform about1 = true :=
  (Spec.applies_iff w_frames).mpr ⟨w_running, w_runnable, w_alone, w_named, w_hears, w_ripe, w_room, w_tables⟩
theorem atStart : AtStart classFile x code maxLocals ret World_1 tables_1 room_1 Calls_1 rest_1 Pre_1 launch0 p0 e0 about1 theMethod args0 below0 :=
  ⟨lists_1, trivial, launch0.admits_env _ _ _, launch0.least_env, fairChoices_fair.cas, fairChoices_fair.clock, w_frames, w_args, w_heap, w_applies, ⟨w_consts, trivial⟩, w_rest, w_case⟩
end start1
theorem witness_1 : WitnessClaimed_1 := ⟨start1.p0, start1.e0, start1.about1, start1.theMethod, start1.args0, start1.below0, start1.atStart⟩
end Jvm.Pilot.@@N@@
