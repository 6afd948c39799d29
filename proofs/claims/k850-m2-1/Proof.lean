import JvmDerived
import JvmDerived.Pilot.@@N@@Statement
import JvmDerived.Pilot.@@N@@Code
set_option linter.unusedVariables false
set_option linter.unusedSimpArgs false
namespace Jvm.RoadKit
open Sem ClassFile Op Lib Jvm.Stand Jvm.Free Jvm.LawKit
section New
variable {p : Program} {l : Launch} {e : Env} {R : Room} {s : State} {m : MethodId} {args : Array Value} {below : List Frame} {meth : Method} {c : Code} {T : State} {locs : List Loc} {cells slots : Nat}
theorem retI (X : Stand p l e R s m args below meth c T locs cells slots) (hx : p.tables.exec = Jvm.exec) {pc : Nat} {Ls : Array Slot} {z : Int32} {rest : List Value} (hret : meth.sig.returnType = some .int) (hd : decode c.code pc = .ok (.ireturn, 1)) {fs : List Frame}
    (hl : ∀ (f : JFrame) (acts : List Action), f.method = m → f.locked = none → f.entered = [] → (doReturn e (T.setTop f) acts (some (.int z))).1 = T.setFrames fs) : Steps p.tables e below (T.setTop (mkF m pc Ls (.int z :: rest))) (T.setFrames fs) := by
  have hm' : T.vm.method? m = some meth := X.method'
  have hn : narrow .int (.int z) = .int z := rfl
  show Steps p.tables e below (T.setTop { method := m, pc := pc, locals := Ls, stack := _ :: rest, locked := none }) _
  jvm_step X.here [X.here.top, hx, hd, hm', hret, hn]
  first | (intro acts; rw [hl _ acts rfl rfl rfl]) | rw [hl _ _ rfl rfl rfl]
  exact Steps.refl _
end New
end Jvm.RoadKit
namespace Jvm.Pilot.@@N@@
open Jvm Jvm.ClassFile Sem Op Lib Jvm.Free Jvm.Stand Jvm.LawKit Jvm.RoadKit Bundle Jvm.Pilot.@@N@@.Jvm.D
def f2_0 (q1 : Int64) (p2 : Int32) : Int64 := ((q1 - ((72340172838076673 : Int64) * p2.toInt64)) &&& (q1 ^^^ (-1 : Int64)))
def f2 (q1 : Int64) (p2 : Int32) : Int64 := ((f2_0 q1 p2) &&& (-9187201950435737472 : Int64))
def f1_0 (q1 : Int64) (p2 : Int32) : Int64 := ((72340172838076673 : Int64) * (p2 &&& (255 : Int32)).toInt64)
def f1 (q1 : Int64) (p2 : Int32) : Int64 := (f2 (q1 ^^^ (f1_0 q1 p2)) (1 : Int32))
def f4 (q1 : Int64) (p2 : Int32) : Int32 := ((XT.ushrL q1 ((8 : Int32) * p2)) &&& (255 : Int64)).toInt32
def f3 (q1 : Int64) (p2 : Int32) : Int32 := (if (f4 q1 (0 : Int32)) = p2 then (0 : Int32) else (if (f4 q1 (1 : Int32)) = p2 then (1 : Int32) else (if (f4 q1 (2 : Int32)) = p2 then (2 : Int32) else (if (f4 q1 (3 : Int32)) = p2 then (3 : Int32) else (if (f4 q1 (4 : Int32)) = p2 then (4 : Int32) else (if (f4 q1 (5 : Int32)) = p2 then (5 : Int32) else (if (f4 q1 (6 : Int32)) = p2 then (6 : Int32) else (if (f4 q1 (7 : Int32)) = p2 then (7 : Int32) else (8 : Int32)))))))))
def f5_0 (q1 : Int64) (p2 : Int32) (p3 : Int32) : Int64 := (((255 : Int64) <<< (((8 : Int32) * p2).toInt64 &&& 63)) ^^^ (-1 : Int64))
def f5_1 (q1 : Int64) (p2 : Int32) (p3 : Int32) : Int64 := ((q1 &&& (f5_0 q1 p2 p3)) ||| (p3.toInt64 <<< (((8 : Int32) * p2).toInt64 &&& 63)))
def f5 (q1 : Int64) (p2 : Int32) (p3 : Int32) : Int64 := (f5_1 q1 p2 p3)
def f0_0 (q1 : Int64) (p2 : Int32) (p3 : Int32) (p4 : Int32) : Int64 := (f5 q1 ((XT.ushr p3 (6 : Int32)) &&& (7 : Int32)) ((p2 &&& (255 : Int32)) ^^^ (1 : Int32)))
def f0_1 (q1 : Int64) (p2 : Int32) (p3 : Int32) (p4 : Int32) : Int64 := (if (p4 &&& (4 : Int32)) = (0 : Int32) then q1 else (f0_0 q1 p2 p3 p4))
def f0_2 (q1 : Int64) (p2 : Int32) (p3 : Int32) (p4 : Int32) : Int64 := (f5 (f0_1 q1 p2 p3 p4) (p3 &&& (7 : Int32)) (p2 &&& (255 : Int32)))
def f0_3 (q1 : Int64) (p2 : Int32) (p3 : Int32) (p4 : Int32) : Int64 := (if (p4 &&& (1 : Int32)) = (0 : Int32) then (f0_1 q1 p2 p3 p4) else (f0_2 q1 p2 p3 p4))
def f0_4 (q1 : Int64) (p2 : Int32) (p3 : Int32) (p4 : Int32) : Int64 := (f5 (f0_3 q1 p2 p3 p4) ((XT.ushr p3 (3 : Int32)) &&& (7 : Int32)) (p2 &&& (255 : Int32)))
def f0_5 (q1 : Int64) (p2 : Int32) (p3 : Int32) (p4 : Int32) : Int64 := (if (p4 &&& (2 : Int32)) = (0 : Int32) then (f0_3 q1 p2 p3 p4) else (f0_4 q1 p2 p3 p4))
def f0_6 (q1 : Int64) (p2 : Int32) (p3 : Int32) (p4 : Int32) : Int32 := ((8 : Int32) * (f3 (f0_5 q1 p2 p3 p4) (p2 &&& (255 : Int32))))
def f0_7 (q1 : Int64) (p2 : Int32) (p3 : Int32) (p4 : Int32) : Int64 := ((1 : Int64) <<< (((f0_6 q1 p2 p3 p4) + (7 : Int32)).toInt64 &&& 63))
def f0_8 (q1 : Int64) (p2 : Int32) (p3 : Int32) (p4 : Int32) : Int64 := (if (f3 (f0_5 q1 p2 p3 p4) (p2 &&& (255 : Int32))) = (8 : Int32) then (0 : Int64) else (f0_7 q1 p2 p3 p4))
def f0_9 (q1 : Int64) (p2 : Int32) (p3 : Int32) (p4 : Int32) : Int64 := ((f1 (f0_5 q1 p2 p3 p4) p2.toInt8.toInt32) &&& (-(f1 (f0_5 q1 p2 p3 p4) p2.toInt8.toInt32)))
def f0_10 (q1 : Int64) (p2 : Int32) (p3 : Int32) (p4 : Int32) : Int32 := (if (f0_9 q1 p2 p3 p4) = (f0_8 q1 p2 p3 p4) then (1 : Int32) else (0 : Int32))
def f0 (q1 : Int64) (p2 : Int32) (p3 : Int32) (p4 : Int32) : Int32 := ((f0_10 q1 p2 p3 p4) &&& 1)
theorem own_shr (z : Int64) (y : Int32) (k : Nat) (hk : (y.toInt64.toUInt64 &&& Int64.toUInt64 63).toBitVec.toNat % 64 = k) : (XT.ushrL z y).toBitVec = z.toBitVec >>> k := by
  subst hk
  show (z.toUInt64 >>> (y.toInt64.toUInt64 &&& Int64.toUInt64 63)).toBitVec = _
  rw [UInt64.toBitVec_shiftRight]
  show z.toBitVec >>> ((y.toInt64.toUInt64 &&& Int64.toUInt64 63).toBitVec % 64) = _
  rw [BitVec.ushiftRight_eq', BitVec.toNat_umod]
  rfl
theorem own_lin {l a P lo b : Nat} (h1 : l * a ≤ lo) (h2 : l ≤ b) : l * (a + P) ≤ lo + P * b := by
  rw [Nat.mul_add, Nat.mul_comm l P]
  exact Nat.add_le_add h1 (Nat.mul_le_mul_left P h2)
theorem own_lo0 (W l : Nat) (hb : l ≤ W / 1 % 256) : l * 1 ≤ W % 256 := by
  have e : W % 256 = W % 1 + 1 * (W / 1 % 256) := by rw [show 256 = 1 * 256 from rfl, Nat.mod_mul]
  rw [e]
  rw [Nat.mod_one]; omega
theorem own_hit0 (W D l q : Nat) (hD : D + l * 72340172838076673 = W + 18446744073709551616 * q) (h1 : 1 ≤ l) (h2 : l ≤ 128) (hb : W / 1 % 256 < l) : D / 128 % 2 = 1 ∧ W / 128 % 2 = 0 := by
  have e : W = W % 1 + 1 * (W / 1 % 256) + 256 * (W / 256) := by
    have := Nat.mod_add_div W 256
    rw [show 256 = 1 * 256 from rfl, Nat.mod_mul] at this
    exact this.symm
  have i1 : W % 1 < 1 := Nat.mod_lt _ (by decide)
  generalize W % 1 = lo at *
  generalize W / 1 % 256 = b at *
  generalize W / 256 = hi at *
  constructor
  · obtain ⟨X, hX⟩ : ∃ z : Int, z = (lo : Int) - l * 0 + 1 * ((b : Int) - l + 256) := ⟨_, rfl⟩
    obtain ⟨Y, hY⟩ : ∃ z : Int, z = (hi : Int) - l * 282578800148737 + 72057594037927936 * q - 1 := ⟨_, rfl⟩
    have e2 : (D : Int) = X + 256 * Y := by omega
    have j1 : 128 ≤ X := by omega
    have j2 : X < 256 := by omega
    clear hD e hX hY hb 
    omega
  · obtain ⟨X, hX⟩ : ∃ z, z = lo + 1 * b := ⟨_, rfl⟩
    have j2 : X < 128 := by omega
    rw [← hX] at e
    clear hD hX hb 
    omega
theorem own_miss0 (W D l q : Nat) (hD : D + l * 72340172838076673 = W + 18446744073709551616 * q) (h1 : 1 ≤ l) (h2 : l ≤ 128) (hb : l ≤ W / 1 % 256) (hw : W / 128 % 2 = 0) : D / 128 % 2 = 0 := by
  have e : W = W % 1 + 1 * (W / 1 % 256) + 256 * (W / 256) := by
    have := Nat.mod_add_div W 256
    rw [show 256 = 1 * 256 from rfl, Nat.mod_mul] at this
    exact this.symm
  have i1 : W % 1 < 1 := Nat.mod_lt _ (by decide)
  have i2 : W / 1 % 256 < 128 := by
    have e3 : W / 128 = W / 1 / 128 := by rw [Nat.div_div_eq_div_mul]
    rw [e3] at hw
    generalize W / 1 = z at hw
    omega
  generalize W % 1 = lo at *
  generalize W / 1 % 256 = b at *
  generalize W / 256 = hi at *
  obtain ⟨X, hX⟩ : ∃ z : Int, z = (lo : Int) - l * 0 + 1 * ((b : Int) - l) := ⟨_, rfl⟩
  obtain ⟨Y, hY⟩ : ∃ z : Int, z = (hi : Int) - l * 282578800148737 + 72057594037927936 * q := ⟨_, rfl⟩
  have e2 : (D : Int) = X + 256 * Y := by omega
  have j1 : 0 ≤ X := by omega
  have j2 : X < 128 := by omega
  clear hD e hX hY hb hw 
  omega
theorem own_lo1 (W l : Nat) (hN : l * 1 ≤ W % 256) (hb : l ≤ W / 256 % 256) : l * 257 ≤ W % 65536 := by
  have e : W % 65536 = W % 256 + 256 * (W / 256 % 256) := by rw [show 65536 = 256 * 256 from rfl, Nat.mod_mul]
  rw [e]
  exact own_lin (P := 256) hN hb
theorem own_hit1 (W D l q : Nat) (hD : D + l * 72340172838076673 = W + 18446744073709551616 * q) (h1 : 1 ≤ l) (h2 : l ≤ 128) (hN : l * 1 ≤ W % 256) (hb : W / 256 % 256 < l) : D / 32768 % 2 = 1 ∧ W / 32768 % 2 = 0 := by
  have e : W = W % 256 + 256 * (W / 256 % 256) + 65536 * (W / 65536) := by
    have := Nat.mod_add_div W 65536
    rw [show 65536 = 256 * 256 from rfl, Nat.mod_mul] at this
    exact this.symm
  have i1 : W % 256 < 256 := Nat.mod_lt _ (by decide)
  generalize W % 256 = lo at *
  generalize W / 256 % 256 = b at *
  generalize W / 65536 = hi at *
  constructor
  · obtain ⟨X, hX⟩ : ∃ z : Int, z = (lo : Int) - l * 1 + 256 * ((b : Int) - l + 256) := ⟨_, rfl⟩
    obtain ⟨Y, hY⟩ : ∃ z : Int, z = (hi : Int) - l * 1103823438081 + 281474976710656 * q - 1 := ⟨_, rfl⟩
    have e2 : (D : Int) = X + 65536 * Y := by omega
    have j1 : 32768 ≤ X := by omega
    have j2 : X < 65536 := by omega
    clear hD e hX hY hb hN
    omega
  · obtain ⟨X, hX⟩ : ∃ z, z = lo + 256 * b := ⟨_, rfl⟩
    have j2 : X < 32768 := by omega
    rw [← hX] at e
    clear hD hX hb hN
    omega
theorem own_miss1 (W D l q : Nat) (hD : D + l * 72340172838076673 = W + 18446744073709551616 * q) (h1 : 1 ≤ l) (h2 : l ≤ 128) (hN : l * 1 ≤ W % 256) (hb : l ≤ W / 256 % 256) (hw : W / 32768 % 2 = 0) : D / 32768 % 2 = 0 := by
  have e : W = W % 256 + 256 * (W / 256 % 256) + 65536 * (W / 65536) := by
    have := Nat.mod_add_div W 65536
    rw [show 65536 = 256 * 256 from rfl, Nat.mod_mul] at this
    exact this.symm
  have i1 : W % 256 < 256 := Nat.mod_lt _ (by decide)
  have i2 : W / 256 % 256 < 128 := by
    have e3 : W / 32768 = W / 256 / 128 := by rw [Nat.div_div_eq_div_mul]
    rw [e3] at hw
    generalize W / 256 = z at hw
    omega
  generalize W % 256 = lo at *
  generalize W / 256 % 256 = b at *
  generalize W / 65536 = hi at *
  obtain ⟨X, hX⟩ : ∃ z : Int, z = (lo : Int) - l * 1 + 256 * ((b : Int) - l) := ⟨_, rfl⟩
  obtain ⟨Y, hY⟩ : ∃ z : Int, z = (hi : Int) - l * 1103823438081 + 281474976710656 * q := ⟨_, rfl⟩
  have e2 : (D : Int) = X + 65536 * Y := by omega
  have j1 : 0 ≤ X := by omega
  have j2 : X < 32768 := by omega
  clear hD e hX hY hb hw hN
  omega
theorem own_lo2 (W l : Nat) (hN : l * 257 ≤ W % 65536) (hb : l ≤ W / 65536 % 256) : l * 65793 ≤ W % 16777216 := by
  have e : W % 16777216 = W % 65536 + 65536 * (W / 65536 % 256) := by rw [show 16777216 = 65536 * 256 from rfl, Nat.mod_mul]
  rw [e]
  exact own_lin (P := 65536) hN hb
theorem own_hit2 (W D l q : Nat) (hD : D + l * 72340172838076673 = W + 18446744073709551616 * q) (h1 : 1 ≤ l) (h2 : l ≤ 128) (hN : l * 257 ≤ W % 65536) (hb : W / 65536 % 256 < l) : D / 8388608 % 2 = 1 ∧ W / 8388608 % 2 = 0 := by
  have e : W = W % 65536 + 65536 * (W / 65536 % 256) + 16777216 * (W / 16777216) := by
    have := Nat.mod_add_div W 16777216
    rw [show 16777216 = 65536 * 256 from rfl, Nat.mod_mul] at this
    exact this.symm
  have i1 : W % 65536 < 65536 := Nat.mod_lt _ (by decide)
  generalize W % 65536 = lo at *
  generalize W / 65536 % 256 = b at *
  generalize W / 16777216 = hi at *
  constructor
  · obtain ⟨X, hX⟩ : ∃ z : Int, z = (lo : Int) - l * 257 + 65536 * ((b : Int) - l + 256) := ⟨_, rfl⟩
    obtain ⟨Y, hY⟩ : ∃ z : Int, z = (hi : Int) - l * 4311810305 + 1099511627776 * q - 1 := ⟨_, rfl⟩
    have e2 : (D : Int) = X + 16777216 * Y := by omega
    have j1 : 8388608 ≤ X := by omega
    have j2 : X < 16777216 := by omega
    clear hD e hX hY hb hN
    omega
  · obtain ⟨X, hX⟩ : ∃ z, z = lo + 65536 * b := ⟨_, rfl⟩
    have j2 : X < 8388608 := by omega
    rw [← hX] at e
    clear hD hX hb hN
    omega
theorem own_miss2 (W D l q : Nat) (hD : D + l * 72340172838076673 = W + 18446744073709551616 * q) (h1 : 1 ≤ l) (h2 : l ≤ 128) (hN : l * 257 ≤ W % 65536) (hb : l ≤ W / 65536 % 256) (hw : W / 8388608 % 2 = 0) : D / 8388608 % 2 = 0 := by
  have e : W = W % 65536 + 65536 * (W / 65536 % 256) + 16777216 * (W / 16777216) := by
    have := Nat.mod_add_div W 16777216
    rw [show 16777216 = 65536 * 256 from rfl, Nat.mod_mul] at this
    exact this.symm
  have i1 : W % 65536 < 65536 := Nat.mod_lt _ (by decide)
  have i2 : W / 65536 % 256 < 128 := by
    have e3 : W / 8388608 = W / 65536 / 128 := by rw [Nat.div_div_eq_div_mul]
    rw [e3] at hw
    generalize W / 65536 = z at hw
    omega
  generalize W % 65536 = lo at *
  generalize W / 65536 % 256 = b at *
  generalize W / 16777216 = hi at *
  obtain ⟨X, hX⟩ : ∃ z : Int, z = (lo : Int) - l * 257 + 65536 * ((b : Int) - l) := ⟨_, rfl⟩
  obtain ⟨Y, hY⟩ : ∃ z : Int, z = (hi : Int) - l * 4311810305 + 1099511627776 * q := ⟨_, rfl⟩
  have e2 : (D : Int) = X + 16777216 * Y := by omega
  have j1 : 0 ≤ X := by omega
  have j2 : X < 8388608 := by omega
  clear hD e hX hY hb hw hN
  omega
theorem own_lo3 (W l : Nat) (hN : l * 65793 ≤ W % 16777216) (hb : l ≤ W / 16777216 % 256) : l * 16843009 ≤ W % 4294967296 := by
  have e : W % 4294967296 = W % 16777216 + 16777216 * (W / 16777216 % 256) := by rw [show 4294967296 = 16777216 * 256 from rfl, Nat.mod_mul]
  rw [e]
  exact own_lin (P := 16777216) hN hb
theorem own_hit3 (W D l q : Nat) (hD : D + l * 72340172838076673 = W + 18446744073709551616 * q) (h1 : 1 ≤ l) (h2 : l ≤ 128) (hN : l * 65793 ≤ W % 16777216) (hb : W / 16777216 % 256 < l) : D / 2147483648 % 2 = 1 ∧ W / 2147483648 % 2 = 0 := by
  have e : W = W % 16777216 + 16777216 * (W / 16777216 % 256) + 4294967296 * (W / 4294967296) := by
    have := Nat.mod_add_div W 4294967296
    rw [show 4294967296 = 16777216 * 256 from rfl, Nat.mod_mul] at this
    exact this.symm
  have i1 : W % 16777216 < 16777216 := Nat.mod_lt _ (by decide)
  generalize W % 16777216 = lo at *
  generalize W / 16777216 % 256 = b at *
  generalize W / 4294967296 = hi at *
  constructor
  · obtain ⟨X, hX⟩ : ∃ z : Int, z = (lo : Int) - l * 65793 + 16777216 * ((b : Int) - l + 256) := ⟨_, rfl⟩
    obtain ⟨Y, hY⟩ : ∃ z : Int, z = (hi : Int) - l * 16843009 + 4294967296 * q - 1 := ⟨_, rfl⟩
    have e2 : (D : Int) = X + 4294967296 * Y := by omega
    have j1 : 2147483648 ≤ X := by omega
    have j2 : X < 4294967296 := by omega
    clear hD e hX hY hb hN
    omega
  · obtain ⟨X, hX⟩ : ∃ z, z = lo + 16777216 * b := ⟨_, rfl⟩
    have j2 : X < 2147483648 := by omega
    rw [← hX] at e
    clear hD hX hb hN
    omega
theorem own_miss3 (W D l q : Nat) (hD : D + l * 72340172838076673 = W + 18446744073709551616 * q) (h1 : 1 ≤ l) (h2 : l ≤ 128) (hN : l * 65793 ≤ W % 16777216) (hb : l ≤ W / 16777216 % 256) (hw : W / 2147483648 % 2 = 0) : D / 2147483648 % 2 = 0 := by
  have e : W = W % 16777216 + 16777216 * (W / 16777216 % 256) + 4294967296 * (W / 4294967296) := by
    have := Nat.mod_add_div W 4294967296
    rw [show 4294967296 = 16777216 * 256 from rfl, Nat.mod_mul] at this
    exact this.symm
  have i1 : W % 16777216 < 16777216 := Nat.mod_lt _ (by decide)
  have i2 : W / 16777216 % 256 < 128 := by
    have e3 : W / 2147483648 = W / 16777216 / 128 := by rw [Nat.div_div_eq_div_mul]
    rw [e3] at hw
    generalize W / 16777216 = z at hw
    omega
  generalize W % 16777216 = lo at *
  generalize W / 16777216 % 256 = b at *
  generalize W / 4294967296 = hi at *
  obtain ⟨X, hX⟩ : ∃ z : Int, z = (lo : Int) - l * 65793 + 16777216 * ((b : Int) - l) := ⟨_, rfl⟩
  obtain ⟨Y, hY⟩ : ∃ z : Int, z = (hi : Int) - l * 16843009 + 4294967296 * q := ⟨_, rfl⟩
  have e2 : (D : Int) = X + 4294967296 * Y := by omega
  have j1 : 0 ≤ X := by omega
  have j2 : X < 2147483648 := by omega
  clear hD e hX hY hb hw hN
  omega
theorem own_lo4 (W l : Nat) (hN : l * 16843009 ≤ W % 4294967296) (hb : l ≤ W / 4294967296 % 256) : l * 4311810305 ≤ W % 1099511627776 := by
  have e : W % 1099511627776 = W % 4294967296 + 4294967296 * (W / 4294967296 % 256) := by rw [show 1099511627776 = 4294967296 * 256 from rfl, Nat.mod_mul]
  rw [e]
  exact own_lin (P := 4294967296) hN hb
theorem own_hit4 (W D l q : Nat) (hD : D + l * 72340172838076673 = W + 18446744073709551616 * q) (h1 : 1 ≤ l) (h2 : l ≤ 128) (hN : l * 16843009 ≤ W % 4294967296) (hb : W / 4294967296 % 256 < l) : D / 549755813888 % 2 = 1 ∧ W / 549755813888 % 2 = 0 := by
  have e : W = W % 4294967296 + 4294967296 * (W / 4294967296 % 256) + 1099511627776 * (W / 1099511627776) := by
    have := Nat.mod_add_div W 1099511627776
    rw [show 1099511627776 = 4294967296 * 256 from rfl, Nat.mod_mul] at this
    exact this.symm
  have i1 : W % 4294967296 < 4294967296 := Nat.mod_lt _ (by decide)
  generalize W % 4294967296 = lo at *
  generalize W / 4294967296 % 256 = b at *
  generalize W / 1099511627776 = hi at *
  constructor
  · obtain ⟨X, hX⟩ : ∃ z : Int, z = (lo : Int) - l * 16843009 + 4294967296 * ((b : Int) - l + 256) := ⟨_, rfl⟩
    obtain ⟨Y, hY⟩ : ∃ z : Int, z = (hi : Int) - l * 65793 + 16777216 * q - 1 := ⟨_, rfl⟩
    have e2 : (D : Int) = X + 1099511627776 * Y := by omega
    have j1 : 549755813888 ≤ X := by omega
    have j2 : X < 1099511627776 := by omega
    clear hD e hX hY hb hN
    omega
  · obtain ⟨X, hX⟩ : ∃ z, z = lo + 4294967296 * b := ⟨_, rfl⟩
    have j2 : X < 549755813888 := by omega
    rw [← hX] at e
    clear hD hX hb hN
    omega
theorem own_miss4 (W D l q : Nat) (hD : D + l * 72340172838076673 = W + 18446744073709551616 * q) (h1 : 1 ≤ l) (h2 : l ≤ 128) (hN : l * 16843009 ≤ W % 4294967296) (hb : l ≤ W / 4294967296 % 256) (hw : W / 549755813888 % 2 = 0) : D / 549755813888 % 2 = 0 := by
  have e : W = W % 4294967296 + 4294967296 * (W / 4294967296 % 256) + 1099511627776 * (W / 1099511627776) := by
    have := Nat.mod_add_div W 1099511627776
    rw [show 1099511627776 = 4294967296 * 256 from rfl, Nat.mod_mul] at this
    exact this.symm
  have i1 : W % 4294967296 < 4294967296 := Nat.mod_lt _ (by decide)
  have i2 : W / 4294967296 % 256 < 128 := by
    have e3 : W / 549755813888 = W / 4294967296 / 128 := by rw [Nat.div_div_eq_div_mul]
    rw [e3] at hw
    generalize W / 4294967296 = z at hw
    omega
  generalize W % 4294967296 = lo at *
  generalize W / 4294967296 % 256 = b at *
  generalize W / 1099511627776 = hi at *
  obtain ⟨X, hX⟩ : ∃ z : Int, z = (lo : Int) - l * 16843009 + 4294967296 * ((b : Int) - l) := ⟨_, rfl⟩
  obtain ⟨Y, hY⟩ : ∃ z : Int, z = (hi : Int) - l * 65793 + 16777216 * q := ⟨_, rfl⟩
  have e2 : (D : Int) = X + 1099511627776 * Y := by omega
  have j1 : 0 ≤ X := by omega
  have j2 : X < 549755813888 := by omega
  clear hD e hX hY hb hw hN
  omega
theorem own_lo5 (W l : Nat) (hN : l * 4311810305 ≤ W % 1099511627776) (hb : l ≤ W / 1099511627776 % 256) : l * 1103823438081 ≤ W % 281474976710656 := by
  have e : W % 281474976710656 = W % 1099511627776 + 1099511627776 * (W / 1099511627776 % 256) := by rw [show 281474976710656 = 1099511627776 * 256 from rfl, Nat.mod_mul]
  rw [e]
  exact own_lin (P := 1099511627776) hN hb
theorem own_hit5 (W D l q : Nat) (hD : D + l * 72340172838076673 = W + 18446744073709551616 * q) (h1 : 1 ≤ l) (h2 : l ≤ 128) (hN : l * 4311810305 ≤ W % 1099511627776) (hb : W / 1099511627776 % 256 < l) : D / 140737488355328 % 2 = 1 ∧ W / 140737488355328 % 2 = 0 := by
  have e : W = W % 1099511627776 + 1099511627776 * (W / 1099511627776 % 256) + 281474976710656 * (W / 281474976710656) := by
    have := Nat.mod_add_div W 281474976710656
    rw [show 281474976710656 = 1099511627776 * 256 from rfl, Nat.mod_mul] at this
    exact this.symm
  have i1 : W % 1099511627776 < 1099511627776 := Nat.mod_lt _ (by decide)
  generalize W % 1099511627776 = lo at *
  generalize W / 1099511627776 % 256 = b at *
  generalize W / 281474976710656 = hi at *
  constructor
  · obtain ⟨X, hX⟩ : ∃ z : Int, z = (lo : Int) - l * 4311810305 + 1099511627776 * ((b : Int) - l + 256) := ⟨_, rfl⟩
    obtain ⟨Y, hY⟩ : ∃ z : Int, z = (hi : Int) - l * 257 + 65536 * q - 1 := ⟨_, rfl⟩
    have e2 : (D : Int) = X + 281474976710656 * Y := by omega
    have j1 : 140737488355328 ≤ X := by omega
    have j2 : X < 281474976710656 := by omega
    clear hD e hX hY hb hN
    omega
  · obtain ⟨X, hX⟩ : ∃ z, z = lo + 1099511627776 * b := ⟨_, rfl⟩
    have j2 : X < 140737488355328 := by omega
    rw [← hX] at e
    clear hD hX hb hN
    omega
theorem own_miss5 (W D l q : Nat) (hD : D + l * 72340172838076673 = W + 18446744073709551616 * q) (h1 : 1 ≤ l) (h2 : l ≤ 128) (hN : l * 4311810305 ≤ W % 1099511627776) (hb : l ≤ W / 1099511627776 % 256) (hw : W / 140737488355328 % 2 = 0) : D / 140737488355328 % 2 = 0 := by
  have e : W = W % 1099511627776 + 1099511627776 * (W / 1099511627776 % 256) + 281474976710656 * (W / 281474976710656) := by
    have := Nat.mod_add_div W 281474976710656
    rw [show 281474976710656 = 1099511627776 * 256 from rfl, Nat.mod_mul] at this
    exact this.symm
  have i1 : W % 1099511627776 < 1099511627776 := Nat.mod_lt _ (by decide)
  have i2 : W / 1099511627776 % 256 < 128 := by
    have e3 : W / 140737488355328 = W / 1099511627776 / 128 := by rw [Nat.div_div_eq_div_mul]
    rw [e3] at hw
    generalize W / 1099511627776 = z at hw
    omega
  generalize W % 1099511627776 = lo at *
  generalize W / 1099511627776 % 256 = b at *
  generalize W / 281474976710656 = hi at *
  obtain ⟨X, hX⟩ : ∃ z : Int, z = (lo : Int) - l * 4311810305 + 1099511627776 * ((b : Int) - l) := ⟨_, rfl⟩
  obtain ⟨Y, hY⟩ : ∃ z : Int, z = (hi : Int) - l * 257 + 65536 * q := ⟨_, rfl⟩
  have e2 : (D : Int) = X + 281474976710656 * Y := by omega
  have j1 : 0 ≤ X := by omega
  have j2 : X < 140737488355328 := by omega
  clear hD e hX hY hb hw hN
  omega
theorem own_lo6 (W l : Nat) (hN : l * 1103823438081 ≤ W % 281474976710656) (hb : l ≤ W / 281474976710656 % 256) : l * 282578800148737 ≤ W % 72057594037927936 := by
  have e : W % 72057594037927936 = W % 281474976710656 + 281474976710656 * (W / 281474976710656 % 256) := by rw [show 72057594037927936 = 281474976710656 * 256 from rfl, Nat.mod_mul]
  rw [e]
  exact own_lin (P := 281474976710656) hN hb
theorem own_hit6 (W D l q : Nat) (hD : D + l * 72340172838076673 = W + 18446744073709551616 * q) (h1 : 1 ≤ l) (h2 : l ≤ 128) (hN : l * 1103823438081 ≤ W % 281474976710656) (hb : W / 281474976710656 % 256 < l) : D / 36028797018963968 % 2 = 1 ∧ W / 36028797018963968 % 2 = 0 := by
  have e : W = W % 281474976710656 + 281474976710656 * (W / 281474976710656 % 256) + 72057594037927936 * (W / 72057594037927936) := by
    have := Nat.mod_add_div W 72057594037927936
    rw [show 72057594037927936 = 281474976710656 * 256 from rfl, Nat.mod_mul] at this
    exact this.symm
  have i1 : W % 281474976710656 < 281474976710656 := Nat.mod_lt _ (by decide)
  generalize W % 281474976710656 = lo at *
  generalize W / 281474976710656 % 256 = b at *
  generalize W / 72057594037927936 = hi at *
  constructor
  · obtain ⟨X, hX⟩ : ∃ z : Int, z = (lo : Int) - l * 1103823438081 + 281474976710656 * ((b : Int) - l + 256) := ⟨_, rfl⟩
    obtain ⟨Y, hY⟩ : ∃ z : Int, z = (hi : Int) - l * 1 + 256 * q - 1 := ⟨_, rfl⟩
    have e2 : (D : Int) = X + 72057594037927936 * Y := by omega
    have j1 : 36028797018963968 ≤ X := by omega
    have j2 : X < 72057594037927936 := by omega
    clear hD e hX hY hb hN
    omega
  · obtain ⟨X, hX⟩ : ∃ z, z = lo + 281474976710656 * b := ⟨_, rfl⟩
    have j2 : X < 36028797018963968 := by omega
    rw [← hX] at e
    clear hD hX hb hN
    omega
theorem own_miss6 (W D l q : Nat) (hD : D + l * 72340172838076673 = W + 18446744073709551616 * q) (h1 : 1 ≤ l) (h2 : l ≤ 128) (hN : l * 1103823438081 ≤ W % 281474976710656) (hb : l ≤ W / 281474976710656 % 256) (hw : W / 36028797018963968 % 2 = 0) : D / 36028797018963968 % 2 = 0 := by
  have e : W = W % 281474976710656 + 281474976710656 * (W / 281474976710656 % 256) + 72057594037927936 * (W / 72057594037927936) := by
    have := Nat.mod_add_div W 72057594037927936
    rw [show 72057594037927936 = 281474976710656 * 256 from rfl, Nat.mod_mul] at this
    exact this.symm
  have i1 : W % 281474976710656 < 281474976710656 := Nat.mod_lt _ (by decide)
  have i2 : W / 281474976710656 % 256 < 128 := by
    have e3 : W / 36028797018963968 = W / 281474976710656 / 128 := by rw [Nat.div_div_eq_div_mul]
    rw [e3] at hw
    generalize W / 281474976710656 = z at hw
    omega
  generalize W % 281474976710656 = lo at *
  generalize W / 281474976710656 % 256 = b at *
  generalize W / 72057594037927936 = hi at *
  obtain ⟨X, hX⟩ : ∃ z : Int, z = (lo : Int) - l * 1103823438081 + 281474976710656 * ((b : Int) - l) := ⟨_, rfl⟩
  obtain ⟨Y, hY⟩ : ∃ z : Int, z = (hi : Int) - l * 1 + 256 * q := ⟨_, rfl⟩
  have e2 : (D : Int) = X + 72057594037927936 * Y := by omega
  have j1 : 0 ≤ X := by omega
  have j2 : X < 36028797018963968 := by omega
  clear hD e hX hY hb hw hN
  omega
theorem own_lo7 (W l : Nat) (hN : l * 282578800148737 ≤ W % 72057594037927936) (hb : l ≤ W / 72057594037927936 % 256) : l * 72340172838076673 ≤ W % 18446744073709551616 := by
  have e : W % 18446744073709551616 = W % 72057594037927936 + 72057594037927936 * (W / 72057594037927936 % 256) := by rw [show 18446744073709551616 = 72057594037927936 * 256 from rfl, Nat.mod_mul]
  rw [e]
  exact own_lin (P := 72057594037927936) hN hb
theorem own_hit7 (W D l q : Nat) (hD : D + l * 72340172838076673 = W + 18446744073709551616 * q) (h1 : 1 ≤ l) (h2 : l ≤ 128) (hN : l * 282578800148737 ≤ W % 72057594037927936) (hb : W / 72057594037927936 % 256 < l) : D / 9223372036854775808 % 2 = 1 ∧ W / 9223372036854775808 % 2 = 0 := by
  have e : W = W % 72057594037927936 + 72057594037927936 * (W / 72057594037927936 % 256) + 18446744073709551616 * (W / 18446744073709551616) := by
    have := Nat.mod_add_div W 18446744073709551616
    rw [show 18446744073709551616 = 72057594037927936 * 256 from rfl, Nat.mod_mul] at this
    exact this.symm
  have i1 : W % 72057594037927936 < 72057594037927936 := Nat.mod_lt _ (by decide)
  generalize W % 72057594037927936 = lo at *
  generalize W / 72057594037927936 % 256 = b at *
  generalize W / 18446744073709551616 = hi at *
  constructor
  · obtain ⟨X, hX⟩ : ∃ z : Int, z = (lo : Int) - l * 282578800148737 + 72057594037927936 * ((b : Int) - l + 256) := ⟨_, rfl⟩
    obtain ⟨Y, hY⟩ : ∃ z : Int, z = (hi : Int) - l * 0 + 1 * q - 1 := ⟨_, rfl⟩
    have e2 : (D : Int) = X + 18446744073709551616 * Y := by omega
    have j1 : 9223372036854775808 ≤ X := by omega
    have j2 : X < 18446744073709551616 := by omega
    clear hD e hX hY hb hN
    omega
  · obtain ⟨X, hX⟩ : ∃ z, z = lo + 72057594037927936 * b := ⟨_, rfl⟩
    have j2 : X < 9223372036854775808 := by omega
    rw [← hX] at e
    clear hD hX hb hN
    omega
theorem own_miss7 (W D l q : Nat) (hD : D + l * 72340172838076673 = W + 18446744073709551616 * q) (h1 : 1 ≤ l) (h2 : l ≤ 128) (hN : l * 282578800148737 ≤ W % 72057594037927936) (hb : l ≤ W / 72057594037927936 % 256) (hw : W / 9223372036854775808 % 2 = 0) : D / 9223372036854775808 % 2 = 0 := by
  have e : W = W % 72057594037927936 + 72057594037927936 * (W / 72057594037927936 % 256) + 18446744073709551616 * (W / 18446744073709551616) := by
    have := Nat.mod_add_div W 18446744073709551616
    rw [show 18446744073709551616 = 72057594037927936 * 256 from rfl, Nat.mod_mul] at this
    exact this.symm
  have i1 : W % 72057594037927936 < 72057594037927936 := Nat.mod_lt _ (by decide)
  have i2 : W / 72057594037927936 % 256 < 128 := by
    have e3 : W / 9223372036854775808 = W / 72057594037927936 / 128 := by rw [Nat.div_div_eq_div_mul]
    rw [e3] at hw
    generalize W / 72057594037927936 = z at hw
    omega
  generalize W % 72057594037927936 = lo at *
  generalize W / 72057594037927936 % 256 = b at *
  generalize W / 18446744073709551616 = hi at *
  obtain ⟨X, hX⟩ : ∃ z : Int, z = (lo : Int) - l * 282578800148737 + 72057594037927936 * ((b : Int) - l) := ⟨_, rfl⟩
  obtain ⟨Y, hY⟩ : ∃ z : Int, z = (hi : Int) - l * 0 + 1 * q := ⟨_, rfl⟩
  have e2 : (D : Int) = X + 18446744073709551616 * Y := by omega
  have j1 : 0 ≤ X := by omega
  have j2 : X < 9223372036854775808 := by omega
  clear hD e hX hY hb hw hN
  omega
def own_r (W D : BitVec 64) : BitVec 64 := (D &&& ~~~W) &&& 9259542123273814144#64
theorem own_rbit (W D : BitVec 64) (i : Nat) (hi : i < 64) : (own_r W D).getLsbD i = (D.getLsbD i && !W.getLsbD i && decide (i % 8 = 7)) := by
  rw [own_r, BitVec.getLsbD_and, BitVec.getLsbD_and, BitVec.getLsbD_not]
  have h : (9259542123273814144#64).getLsbD i = decide (i % 8 = 7) := by
    have : ∀ i : Fin 64, (9259542123273814144#64).getLsbD i.val = decide (i.val % 8 = 7) := by decide +kernel
    exact this ⟨i, hi⟩
  rw [h]; simp [hi]
theorem own_bit (D : BitVec 64) (k : Nat) : D.getLsbD k = decide (D.toNat / 2 ^ k % 2 = 1) := by
  rw [BitVec.getLsbD, Nat.testBit_eq_decide_div_mod_eq]
theorem own_zero0 (W D : BitVec 64) (h : W.toNat / 128 % 2 = 0 → D.toNat / 128 % 2 = 0) : (own_r W D).getLsbD 7 = false := by
  rw [own_rbit _ _ _ (by decide), own_bit, own_bit, show 2 ^ 7 = 128 from rfl]
  by_cases w : W.toNat / 128 % 2 = 1
  · simp [w]
  · have := h (by omega)
    simp [this]
theorem own_one0 (W D : BitVec 64) (h : D.toNat / 128 % 2 = 1 ∧ W.toNat / 128 % 2 = 0) : (own_r W D).getLsbD 7 = true := by
  rw [own_rbit _ _ _ (by decide), own_bit, own_bit, show 2 ^ 7 = 128 from rfl, h.1, h.2]; rfl
theorem own_zero1 (W D : BitVec 64) (h : W.toNat / 32768 % 2 = 0 → D.toNat / 32768 % 2 = 0) : (own_r W D).getLsbD 15 = false := by
  rw [own_rbit _ _ _ (by decide), own_bit, own_bit, show 2 ^ 15 = 32768 from rfl]
  by_cases w : W.toNat / 32768 % 2 = 1
  · simp [w]
  · have := h (by omega)
    simp [this]
theorem own_one1 (W D : BitVec 64) (h : D.toNat / 32768 % 2 = 1 ∧ W.toNat / 32768 % 2 = 0) : (own_r W D).getLsbD 15 = true := by
  rw [own_rbit _ _ _ (by decide), own_bit, own_bit, show 2 ^ 15 = 32768 from rfl, h.1, h.2]; rfl
theorem own_zero2 (W D : BitVec 64) (h : W.toNat / 8388608 % 2 = 0 → D.toNat / 8388608 % 2 = 0) : (own_r W D).getLsbD 23 = false := by
  rw [own_rbit _ _ _ (by decide), own_bit, own_bit, show 2 ^ 23 = 8388608 from rfl]
  by_cases w : W.toNat / 8388608 % 2 = 1
  · simp [w]
  · have := h (by omega)
    simp [this]
theorem own_one2 (W D : BitVec 64) (h : D.toNat / 8388608 % 2 = 1 ∧ W.toNat / 8388608 % 2 = 0) : (own_r W D).getLsbD 23 = true := by
  rw [own_rbit _ _ _ (by decide), own_bit, own_bit, show 2 ^ 23 = 8388608 from rfl, h.1, h.2]; rfl
theorem own_zero3 (W D : BitVec 64) (h : W.toNat / 2147483648 % 2 = 0 → D.toNat / 2147483648 % 2 = 0) : (own_r W D).getLsbD 31 = false := by
  rw [own_rbit _ _ _ (by decide), own_bit, own_bit, show 2 ^ 31 = 2147483648 from rfl]
  by_cases w : W.toNat / 2147483648 % 2 = 1
  · simp [w]
  · have := h (by omega)
    simp [this]
theorem own_one3 (W D : BitVec 64) (h : D.toNat / 2147483648 % 2 = 1 ∧ W.toNat / 2147483648 % 2 = 0) : (own_r W D).getLsbD 31 = true := by
  rw [own_rbit _ _ _ (by decide), own_bit, own_bit, show 2 ^ 31 = 2147483648 from rfl, h.1, h.2]; rfl
theorem own_zero4 (W D : BitVec 64) (h : W.toNat / 549755813888 % 2 = 0 → D.toNat / 549755813888 % 2 = 0) : (own_r W D).getLsbD 39 = false := by
  rw [own_rbit _ _ _ (by decide), own_bit, own_bit, show 2 ^ 39 = 549755813888 from rfl]
  by_cases w : W.toNat / 549755813888 % 2 = 1
  · simp [w]
  · have := h (by omega)
    simp [this]
theorem own_one4 (W D : BitVec 64) (h : D.toNat / 549755813888 % 2 = 1 ∧ W.toNat / 549755813888 % 2 = 0) : (own_r W D).getLsbD 39 = true := by
  rw [own_rbit _ _ _ (by decide), own_bit, own_bit, show 2 ^ 39 = 549755813888 from rfl, h.1, h.2]; rfl
theorem own_zero5 (W D : BitVec 64) (h : W.toNat / 140737488355328 % 2 = 0 → D.toNat / 140737488355328 % 2 = 0) : (own_r W D).getLsbD 47 = false := by
  rw [own_rbit _ _ _ (by decide), own_bit, own_bit, show 2 ^ 47 = 140737488355328 from rfl]
  by_cases w : W.toNat / 140737488355328 % 2 = 1
  · simp [w]
  · have := h (by omega)
    simp [this]
theorem own_one5 (W D : BitVec 64) (h : D.toNat / 140737488355328 % 2 = 1 ∧ W.toNat / 140737488355328 % 2 = 0) : (own_r W D).getLsbD 47 = true := by
  rw [own_rbit _ _ _ (by decide), own_bit, own_bit, show 2 ^ 47 = 140737488355328 from rfl, h.1, h.2]; rfl
theorem own_zero6 (W D : BitVec 64) (h : W.toNat / 36028797018963968 % 2 = 0 → D.toNat / 36028797018963968 % 2 = 0) : (own_r W D).getLsbD 55 = false := by
  rw [own_rbit _ _ _ (by decide), own_bit, own_bit, show 2 ^ 55 = 36028797018963968 from rfl]
  by_cases w : W.toNat / 36028797018963968 % 2 = 1
  · simp [w]
  · have := h (by omega)
    simp [this]
theorem own_one6 (W D : BitVec 64) (h : D.toNat / 36028797018963968 % 2 = 1 ∧ W.toNat / 36028797018963968 % 2 = 0) : (own_r W D).getLsbD 55 = true := by
  rw [own_rbit _ _ _ (by decide), own_bit, own_bit, show 2 ^ 55 = 36028797018963968 from rfl, h.1, h.2]; rfl
theorem own_zero7 (W D : BitVec 64) (h : W.toNat / 9223372036854775808 % 2 = 0 → D.toNat / 9223372036854775808 % 2 = 0) : (own_r W D).getLsbD 63 = false := by
  rw [own_rbit _ _ _ (by decide), own_bit, own_bit, show 2 ^ 63 = 9223372036854775808 from rfl]
  by_cases w : W.toNat / 9223372036854775808 % 2 = 1
  · simp [w]
  · have := h (by omega)
    simp [this]
theorem own_one7 (W D : BitVec 64) (h : D.toNat / 9223372036854775808 % 2 = 1 ∧ W.toNat / 9223372036854775808 % 2 = 0) : (own_r W D).getLsbD 63 = true := by
  rw [own_rbit _ _ _ (by decide), own_bit, own_bit, show 2 ^ 63 = 9223372036854775808 from rfl, h.1, h.2]; rfl
theorem own_low (r : BitVec 64) (k : Nat) (hk : k < 64) (h1 : r.getLsbD k = true) (h0 : ∀ j < k, r.getLsbD j = false) : r &&& (-r) = BitVec.twoPow 64 k := by
  apply BitVec.eq_of_getLsbD_eq
  intro i hi
  rw [BitVec.getLsbD_and, BitVec.getLsbD_neg, BitVec.getLsbD_twoPow]
  by_cases e : i = k
  · subst e
    have : ¬ ∃ j < i, r.getLsbD j = true := by
      rintro ⟨j, hj, h⟩; rw [h0 j hj] at h; cases h
    simp [h1, this, hi]
  · by_cases l : i < k
    · simp [h0 i l]; omega
    · have : ∃ j < i, r.getLsbD j = true := ⟨k, by omega, h1⟩
      simp only [this, decide_true, Bool.and_true]
      have e2 : decide (k = i) = false := by simp; omega
      rw [e2]
      cases r.getLsbD i <;> simp [hi]

theorem own_off (W D : BitVec 64) (i : Nat) (h : i % 8 ≠ 7) : (own_r W D).getLsbD i = false := by
  by_cases hi : i < 64
  · rw [own_rbit _ _ _ hi]; simp [h]
  · exact BitVec.getLsbD_of_ge _ _ (by omega)
/-- which byte is the first below l (8: none) -/
def own_first (W l : Nat) : Nat := if W / 1 % 256 < l then 0 else if W / 256 % 256 < l then 1 else if W / 65536 % 256 < l then 2 else if W / 16777216 % 256 < l then 3 else if W / 4294967296 % 256 < l then 4 else if W / 1099511627776 % 256 < l then 5 else if W / 281474976710656 % 256 < l then 6 else if W / 72057594037927936 % 256 < l then 7 else 8
theorem own_j0 {j : Nat} (hj : j < 8 * 0 + 7) (hm : j % 8 = 7) : False := by omega
theorem own_j1 {j : Nat} (hj : j < 8 * 1 + 7) (hm : j % 8 = 7) : j = 7 := by omega
theorem own_j2 {j : Nat} (hj : j < 8 * 2 + 7) (hm : j % 8 = 7) : j = 7 ∨ j = 15 := by omega
theorem own_j3 {j : Nat} (hj : j < 8 * 3 + 7) (hm : j % 8 = 7) : j = 7 ∨ j = 15 ∨ j = 23 := by omega
theorem own_j4 {j : Nat} (hj : j < 8 * 4 + 7) (hm : j % 8 = 7) : j = 7 ∨ j = 15 ∨ j = 23 ∨ j = 31 := by omega
theorem own_j5 {j : Nat} (hj : j < 8 * 5 + 7) (hm : j % 8 = 7) : j = 7 ∨ j = 15 ∨ j = 23 ∨ j = 31 ∨ j = 39 := by omega
theorem own_j6 {j : Nat} (hj : j < 8 * 6 + 7) (hm : j % 8 = 7) : j = 7 ∨ j = 15 ∨ j = 23 ∨ j = 31 ∨ j = 39 ∨ j = 47 := by omega
theorem own_j7 {j : Nat} (hj : j < 8 * 7 + 7) (hm : j % 8 = 7) : j = 7 ∨ j = 15 ∨ j = 23 ∨ j = 31 ∨ j = 39 ∨ j = 47 ∨ j = 55 := by omega
theorem own_j8 {j : Nat} (hj : j < 64) (hm : j % 8 = 7) : j = 7 ∨ j = 15 ∨ j = 23 ∨ j = 31 ∨ j = 39 ∨ j = 47 ∨ j = 55 ∨ j = 63 := by omega
theorem own_below (W D : BitVec 64) (l q : Nat) (hD : D.toNat + l * 72340172838076673 = W.toNat + 18446744073709551616 * q) (h1 : 1 ≤ l) (h2 : l ≤ 128) :
    (own_first W.toNat l = 8 → own_r W D = 0#64) ∧ (own_first W.toNat l ≠ 8 → own_r W D &&& -(own_r W D) = BitVec.twoPow 64 (8 * own_first W.toNat l + 7)) := by
  by_cases b0 : W.toNat / 1 % 256 < l
  · have e : own_first W.toNat l = 0 := by rw [own_first, if_pos b0]
    rw [e]
    refine ⟨fun h => absurd h (by decide), fun _ => own_low _ _ (by decide) (own_one0 W D (own_hit0 _ _ _ _ hD h1 h2 b0)) fun j hj => ?_⟩
    by_cases hm : j % 8 = 7
    · exact absurd (own_j0 hj hm) (fun h => h)
    · exact own_off W D j hm
  have m0 := own_miss0 _ _ _ _ hD h1 h2 (Nat.le_of_not_lt b0)
  have n1 := own_lo0 W.toNat l (Nat.le_of_not_lt b0)
  by_cases b1 : W.toNat / 256 % 256 < l
  · have e : own_first W.toNat l = 1 := by rw [own_first, if_neg b0, if_pos b1]
    rw [e]
    refine ⟨fun h => absurd h (by decide), fun _ => own_low _ _ (by decide) (own_one1 W D (own_hit1 _ _ _ _ hD h1 h2 n1 b1)) fun j hj => ?_⟩
    by_cases hm : j % 8 = 7
    · have hj' : j = 7 := own_j1 hj hm
      rcases hj' with rfl
      · exact own_zero0 W D m0
    · exact own_off W D j hm
  have m1 := own_miss1 _ _ _ _ hD h1 h2 n1 (Nat.le_of_not_lt b1)
  have n2 := own_lo1 W.toNat l n1 (Nat.le_of_not_lt b1)
  by_cases b2 : W.toNat / 65536 % 256 < l
  · have e : own_first W.toNat l = 2 := by rw [own_first, if_neg b0, if_neg b1, if_pos b2]
    rw [e]
    refine ⟨fun h => absurd h (by decide), fun _ => own_low _ _ (by decide) (own_one2 W D (own_hit2 _ _ _ _ hD h1 h2 n2 b2)) fun j hj => ?_⟩
    by_cases hm : j % 8 = 7
    · have hj' : j = 7 ∨ j = 15 := own_j2 hj hm
      rcases hj' with rfl | rfl
      · exact own_zero0 W D m0
      · exact own_zero1 W D m1
    · exact own_off W D j hm
  have m2 := own_miss2 _ _ _ _ hD h1 h2 n2 (Nat.le_of_not_lt b2)
  have n3 := own_lo2 W.toNat l n2 (Nat.le_of_not_lt b2)
  by_cases b3 : W.toNat / 16777216 % 256 < l
  · have e : own_first W.toNat l = 3 := by rw [own_first, if_neg b0, if_neg b1, if_neg b2, if_pos b3]
    rw [e]
    refine ⟨fun h => absurd h (by decide), fun _ => own_low _ _ (by decide) (own_one3 W D (own_hit3 _ _ _ _ hD h1 h2 n3 b3)) fun j hj => ?_⟩
    by_cases hm : j % 8 = 7
    · have hj' : j = 7 ∨ j = 15 ∨ j = 23 := own_j3 hj hm
      rcases hj' with rfl | rfl | rfl
      · exact own_zero0 W D m0
      · exact own_zero1 W D m1
      · exact own_zero2 W D m2
    · exact own_off W D j hm
  have m3 := own_miss3 _ _ _ _ hD h1 h2 n3 (Nat.le_of_not_lt b3)
  have n4 := own_lo3 W.toNat l n3 (Nat.le_of_not_lt b3)
  by_cases b4 : W.toNat / 4294967296 % 256 < l
  · have e : own_first W.toNat l = 4 := by rw [own_first, if_neg b0, if_neg b1, if_neg b2, if_neg b3, if_pos b4]
    rw [e]
    refine ⟨fun h => absurd h (by decide), fun _ => own_low _ _ (by decide) (own_one4 W D (own_hit4 _ _ _ _ hD h1 h2 n4 b4)) fun j hj => ?_⟩
    by_cases hm : j % 8 = 7
    · have hj' : j = 7 ∨ j = 15 ∨ j = 23 ∨ j = 31 := own_j4 hj hm
      rcases hj' with rfl | rfl | rfl | rfl
      · exact own_zero0 W D m0
      · exact own_zero1 W D m1
      · exact own_zero2 W D m2
      · exact own_zero3 W D m3
    · exact own_off W D j hm
  have m4 := own_miss4 _ _ _ _ hD h1 h2 n4 (Nat.le_of_not_lt b4)
  have n5 := own_lo4 W.toNat l n4 (Nat.le_of_not_lt b4)
  by_cases b5 : W.toNat / 1099511627776 % 256 < l
  · have e : own_first W.toNat l = 5 := by rw [own_first, if_neg b0, if_neg b1, if_neg b2, if_neg b3, if_neg b4, if_pos b5]
    rw [e]
    refine ⟨fun h => absurd h (by decide), fun _ => own_low _ _ (by decide) (own_one5 W D (own_hit5 _ _ _ _ hD h1 h2 n5 b5)) fun j hj => ?_⟩
    by_cases hm : j % 8 = 7
    · have hj' : j = 7 ∨ j = 15 ∨ j = 23 ∨ j = 31 ∨ j = 39 := own_j5 hj hm
      rcases hj' with rfl | rfl | rfl | rfl | rfl
      · exact own_zero0 W D m0
      · exact own_zero1 W D m1
      · exact own_zero2 W D m2
      · exact own_zero3 W D m3
      · exact own_zero4 W D m4
    · exact own_off W D j hm
  have m5 := own_miss5 _ _ _ _ hD h1 h2 n5 (Nat.le_of_not_lt b5)
  have n6 := own_lo5 W.toNat l n5 (Nat.le_of_not_lt b5)
  by_cases b6 : W.toNat / 281474976710656 % 256 < l
  · have e : own_first W.toNat l = 6 := by rw [own_first, if_neg b0, if_neg b1, if_neg b2, if_neg b3, if_neg b4, if_neg b5, if_pos b6]
    rw [e]
    refine ⟨fun h => absurd h (by decide), fun _ => own_low _ _ (by decide) (own_one6 W D (own_hit6 _ _ _ _ hD h1 h2 n6 b6)) fun j hj => ?_⟩
    by_cases hm : j % 8 = 7
    · have hj' : j = 7 ∨ j = 15 ∨ j = 23 ∨ j = 31 ∨ j = 39 ∨ j = 47 := own_j6 hj hm
      rcases hj' with rfl | rfl | rfl | rfl | rfl | rfl
      · exact own_zero0 W D m0
      · exact own_zero1 W D m1
      · exact own_zero2 W D m2
      · exact own_zero3 W D m3
      · exact own_zero4 W D m4
      · exact own_zero5 W D m5
    · exact own_off W D j hm
  have m6 := own_miss6 _ _ _ _ hD h1 h2 n6 (Nat.le_of_not_lt b6)
  have n7 := own_lo6 W.toNat l n6 (Nat.le_of_not_lt b6)
  by_cases b7 : W.toNat / 72057594037927936 % 256 < l
  · have e : own_first W.toNat l = 7 := by rw [own_first, if_neg b0, if_neg b1, if_neg b2, if_neg b3, if_neg b4, if_neg b5, if_neg b6, if_pos b7]
    rw [e]
    refine ⟨fun h => absurd h (by decide), fun _ => own_low _ _ (by decide) (own_one7 W D (own_hit7 _ _ _ _ hD h1 h2 n7 b7)) fun j hj => ?_⟩
    by_cases hm : j % 8 = 7
    · have hj' : j = 7 ∨ j = 15 ∨ j = 23 ∨ j = 31 ∨ j = 39 ∨ j = 47 ∨ j = 55 := own_j7 hj hm
      rcases hj' with rfl | rfl | rfl | rfl | rfl | rfl | rfl
      · exact own_zero0 W D m0
      · exact own_zero1 W D m1
      · exact own_zero2 W D m2
      · exact own_zero3 W D m3
      · exact own_zero4 W D m4
      · exact own_zero5 W D m5
      · exact own_zero6 W D m6
    · exact own_off W D j hm
  have m7 := own_miss7 _ _ _ _ hD h1 h2 n7 (Nat.le_of_not_lt b7)
  have e : own_first W.toNat l = 8 := by rw [own_first, if_neg b0, if_neg b1, if_neg b2, if_neg b3, if_neg b4, if_neg b5, if_neg b6, if_neg b7]
  refine ⟨fun _ => ?_, fun h => absurd e h⟩
  apply BitVec.eq_of_getLsbD_eq
  intro j hj
  rw [BitVec.getLsbD_zero]
  by_cases hm : j % 8 = 7
  · have hj' : j = 7 ∨ j = 15 ∨ j = 23 ∨ j = 31 ∨ j = 39 ∨ j = 47 ∨ j = 55 ∨ j = 63 := own_j8 hj hm
    rcases hj' with rfl | rfl | rfl | rfl | rfl | rfl | rfl | rfl
    · exact own_zero0 W D m0
    · exact own_zero1 W D m1
    · exact own_zero2 W D m2
    · exact own_zero3 W D m3
    · exact own_zero4 W D m4
    · exact own_zero5 W D m5
    · exact own_zero6 W D m6
    · exact own_zero7 W D m7
  · exact own_off W D j hm

theorem own_neg1 (W : BitVec 64) : W ^^^ (-1 : Int64).toBitVec = ~~~W := by
  rw [show (-1 : Int64).toBitVec = BitVec.allOnes 64 from by decide, BitVec.xor_allOnes]
theorem own_f2 (q1 : Int64) (p : Int32) : (f2 q1 p).toBitVec = own_r q1.toBitVec (q1.toBitVec - 72340172838076673#64 * p.toInt64.toBitVec) := by
  rw [f2, f2_0, Int64.toBitVec_and, Int64.toBitVec_and, Int64.toBitVec_xor, Int64.toBitVec_sub, Int64.toBitVec_mul, own_neg1]
  rfl
theorem own_pl (p : Int32) (l : Nat) (h : p.toInt = l) : p.toInt64.toBitVec.toNat = l := by
  have h1 : p.toInt64.toInt = l := by rw [Int32.toInt_toInt64]; exact h
  have h2 : p.toInt64.toBitVec.toInt = l := h1
  have h3 := p.toInt64.toBitVec.isLt
  rw [BitVec.toInt_eq_toNat_cond] at h2
  split at h2 <;> omega
theorem own_D (W : BitVec 64) (b : BitVec 64) (l : Nat) (hb : b.toNat = l) (h2 : l ≤ 128) : ∃ q, (W - 72340172838076673#64 * b).toNat + l * 72340172838076673 = W.toNat + 18446744073709551616 * q := by
  have e : (72340172838076673#64 * b).toNat = l * 72340172838076673 := by
    rw [BitVec.toNat_mul, hb, Nat.mul_comm]
    exact Nat.mod_eq_of_lt (Nat.lt_of_le_of_lt (Nat.mul_le_mul_right _ h2) (by decide))
  have hW := W.isLt
  have hB : l * 72340172838076673 ≤ 128 * 72340172838076673 := Nat.mul_le_mul_right _ h2
  rw [BitVec.toNat_sub, e]
  obtain ⟨B, hBB⟩ : ∃ z, z = l * 72340172838076673 := ⟨_, rfl⟩
  rw [← hBB] at hB ⊢
  clear hBB e
  by_cases h : B ≤ W.toNat
  · refine ⟨0, ?_⟩; rw [show 2 ^ 64 - B + W.toNat = (W.toNat - B) + 2 ^ 64 by omega, Nat.add_mod_right, Nat.mod_eq_of_lt (by omega)]; omega
  · refine ⟨1, ?_⟩; rw [Nat.mod_eq_of_lt (by omega)]; omega
theorem own_byte (q1 : Int64) (y : Int32) (k : Nat) (hk : (y.toInt64.toUInt64 &&& Int64.toUInt64 63).toBitVec.toNat % 64 = k) : ((XT.ushrL q1 y) &&& (255 : Int64)).toInt = ((q1.toBitVec.toNat / 2 ^ k % 256 : Nat) : Int) := by
  have h1 : ((XT.ushrL q1 y) &&& (255 : Int64)).toBitVec.toNat = q1.toBitVec.toNat / 2 ^ k % 256 := by
    rw [Int64.toBitVec_and, own_shr q1 y k hk, BitVec.toNat_and, BitVec.toNat_ushiftRight, show (255 : Int64).toBitVec.toNat = 2 ^ 8 - 1 from by decide, Nat.and_two_pow_sub_one_eq_mod, Nat.shiftRight_eq_div_pow]
  show ((XT.ushrL q1 y) &&& (255 : Int64)).toBitVec.toInt = _
  rw [BitVec.toInt_eq_toNat_cond, h1, if_pos (by omega)]

theorem own_v (p2 : Int32) : ∃ V : Nat, V < 256 ∧ (p2 &&& (255 : Int32)).toInt = V ∧ (p2.toInt8.toInt32 &&& (255 : Int32)).toInt = V := by
  have h1 : ∀ z : Int32, (z &&& (255 : Int32)).toBitVec.toNat = z.toBitVec.toNat % 256 := fun z => by
    show (z.toBitVec &&& (255 : Int32).toBitVec).toNat = _
    rw [BitVec.toNat_and, show (255 : Int32).toBitVec.toNat = 2 ^ 8 - 1 from by decide, Nat.and_two_pow_sub_one_eq_mod]
  have h2 : ∀ z : Int32, (z &&& (255 : Int32)).toInt = (z.toBitVec.toNat % 256 : Nat) := fun z => by
    show (z &&& (255 : Int32)).toBitVec.toInt = _
    rw [BitVec.toInt_eq_toNat_cond, h1, if_pos (by omega)]
  refine ⟨p2.toBitVec.toNat % 256, by omega, h2 p2, ?_⟩
  rw [h2]
  have h3 : (p2.toInt8.toInt32).toInt = p2.toInt.bmod 256 := by
    rw [Int8.toInt_toInt32, Int32.toInt_toInt8]
  have h4 : ∀ z : Int32, z.toInt = if 2 * z.toBitVec.toNat < 4294967296 then (z.toBitVec.toNat : Int) else (z.toBitVec.toNat : Int) - 4294967296 := fun z => by
    show z.toBitVec.toInt = _
    rw [BitVec.toInt_eq_toNat_cond]; rfl
  have h5 := h4 p2.toInt8.toInt32
  rw [h3, h4 p2, Int.bmod_def] at h5
  have := p2.toBitVec.isLt
  have := p2.toInt8.toInt32.toBitVec.isLt
  generalize p2.toInt8.toInt32.toBitVec.toNat = a at *
  generalize p2.toBitVec.toNat = b at *
  congr 1
  split at h5 <;> split at h5 <;> split at h5 <;> omega
theorem own_xbyte (a b k : Nat) : (a ^^^ b) / 2 ^ k % 256 = (a / 2 ^ k % 256) ^^^ (b / 2 ^ k % 256) := by
  rw [← Nat.shiftRight_eq_div_pow, ← Nat.shiftRight_eq_div_pow, ← Nat.shiftRight_eq_div_pow, Nat.shiftRight_xor_distrib, show (256 : Nat) = 2 ^ 8 from rfl, Nat.xor_mod_two_pow]
theorem own_xz (a b : Nat) : a ^^^ b < 1 ↔ a = b := by
  constructor
  · intro h
    have e : a ^^^ b = 0 := by omega
    apply Nat.eq_of_testBit_eq
    intro i
    have := congrArg (fun z => z.testBit i) e
    simp only [Nat.testBit_xor, Nat.zero_testBit] at this
    revert this
    cases a.testBit i <;> cases b.testBit i <;> decide
  · rintro rfl; rw [Nat.xor_self]; decide
theorem own_cb0 (V : Nat) (h : V < 256) : V * 72340172838076673 / 2 ^ 0 % 256 = V := by
  rw [show 2 ^ 0 = 1 from rfl, show V * 72340172838076673 = V * 0 + 1 * (V + 256 * (V * 282578800148737)) by omega, Nat.add_mul_div_left _ _ (by decide), Nat.div_eq_of_lt (by omega), Nat.zero_add, Nat.add_mul_mod_self_left, Nat.mod_eq_of_lt h]
theorem own_cb1 (V : Nat) (h : V < 256) : V * 72340172838076673 / 2 ^ 8 % 256 = V := by
  rw [show 2 ^ 8 = 256 from rfl, show V * 72340172838076673 = V * 1 + 256 * (V + 256 * (V * 1103823438081)) by omega, Nat.add_mul_div_left _ _ (by decide), Nat.div_eq_of_lt (by omega), Nat.zero_add, Nat.add_mul_mod_self_left, Nat.mod_eq_of_lt h]
theorem own_cb2 (V : Nat) (h : V < 256) : V * 72340172838076673 / 2 ^ 16 % 256 = V := by
  rw [show 2 ^ 16 = 65536 from rfl, show V * 72340172838076673 = V * 257 + 65536 * (V + 256 * (V * 4311810305)) by omega, Nat.add_mul_div_left _ _ (by decide), Nat.div_eq_of_lt (by omega), Nat.zero_add, Nat.add_mul_mod_self_left, Nat.mod_eq_of_lt h]
theorem own_cb3 (V : Nat) (h : V < 256) : V * 72340172838076673 / 2 ^ 24 % 256 = V := by
  rw [show 2 ^ 24 = 16777216 from rfl, show V * 72340172838076673 = V * 65793 + 16777216 * (V + 256 * (V * 16843009)) by omega, Nat.add_mul_div_left _ _ (by decide), Nat.div_eq_of_lt (by omega), Nat.zero_add, Nat.add_mul_mod_self_left, Nat.mod_eq_of_lt h]
theorem own_cb4 (V : Nat) (h : V < 256) : V * 72340172838076673 / 2 ^ 32 % 256 = V := by
  rw [show 2 ^ 32 = 4294967296 from rfl, show V * 72340172838076673 = V * 16843009 + 4294967296 * (V + 256 * (V * 65793)) by omega, Nat.add_mul_div_left _ _ (by decide), Nat.div_eq_of_lt (by omega), Nat.zero_add, Nat.add_mul_mod_self_left, Nat.mod_eq_of_lt h]
theorem own_cb5 (V : Nat) (h : V < 256) : V * 72340172838076673 / 2 ^ 40 % 256 = V := by
  rw [show 2 ^ 40 = 1099511627776 from rfl, show V * 72340172838076673 = V * 4311810305 + 1099511627776 * (V + 256 * (V * 257)) by omega, Nat.add_mul_div_left _ _ (by decide), Nat.div_eq_of_lt (by omega), Nat.zero_add, Nat.add_mul_mod_self_left, Nat.mod_eq_of_lt h]
theorem own_cb6 (V : Nat) (h : V < 256) : V * 72340172838076673 / 2 ^ 48 % 256 = V := by
  rw [show 2 ^ 48 = 281474976710656 from rfl, show V * 72340172838076673 = V * 1103823438081 + 281474976710656 * (V + 256 * (V * 1)) by omega, Nat.add_mul_div_left _ _ (by decide), Nat.div_eq_of_lt (by omega), Nat.zero_add, Nat.add_mul_mod_self_left, Nat.mod_eq_of_lt h]
theorem own_cb7 (V : Nat) (h : V < 256) : V * 72340172838076673 / 2 ^ 56 % 256 = V := by
  rw [show 2 ^ 56 = 72057594037927936 from rfl, show V * 72340172838076673 = V * 282578800148737 + 72057594037927936 * (V + 256 * (V * 0)) by omega, Nat.add_mul_div_left _ _ (by decide), Nat.div_eq_of_lt (by omega), Nat.zero_add, Nat.add_mul_mod_self_left, Nat.mod_eq_of_lt h]
theorem own_byteAt (q1 : Int64) (i p : Int32) (V k : Nat) (hp : p.toInt = V) (hk : (((8 : Int32) * i).toInt64.toUInt64 &&& Int64.toUInt64 63).toBitVec.toNat % 64 = k) : f4 q1 i = p ↔ q1.toBitVec.toNat / 2 ^ k % 256 = V := by
  rw [f4, ← Int32.toInt_inj, Int64.toInt_toInt32, own_byte q1 _ k hk, hp, Int.bmod_def]
  have : q1.toBitVec.toNat / 2 ^ k % 256 < 256 := Nat.mod_lt _ (by decide)
  generalize q1.toBitVec.toNat / 2 ^ k % 256 = z at *
  constructor
  · intro h; split at h <;> omega
  · intro h; split <;> omega
theorem own_first_eq (w : Int64) (U : BitVec 64) (p : Int32) (V : Nat) (hV : V < 256) (hp : p.toInt = V) (hU : U.toNat = w.toBitVec.toNat ^^^ (V * 72340172838076673)) : f3 w p = Int32.ofNat (own_first U.toNat 1) := by
  have b0 : f4 w 0 = p ↔ U.toNat / 1 % 256 < 1 := by rw [own_byteAt w 0 p V 0 hp (by decide), hU, show 1 = 2 ^ 0 from rfl, own_xbyte, own_cb0 V hV, own_xz]
  have b1 : f4 w 1 = p ↔ U.toNat / 256 % 256 < 1 := by rw [own_byteAt w 1 p V 8 hp (by decide), hU, show 256 = 2 ^ 8 from rfl, own_xbyte, own_cb1 V hV, own_xz]
  have b2 : f4 w 2 = p ↔ U.toNat / 65536 % 256 < 1 := by rw [own_byteAt w 2 p V 16 hp (by decide), hU, show 65536 = 2 ^ 16 from rfl, own_xbyte, own_cb2 V hV, own_xz]
  have b3 : f4 w 3 = p ↔ U.toNat / 16777216 % 256 < 1 := by rw [own_byteAt w 3 p V 24 hp (by decide), hU, show 16777216 = 2 ^ 24 from rfl, own_xbyte, own_cb3 V hV, own_xz]
  have b4 : f4 w 4 = p ↔ U.toNat / 4294967296 % 256 < 1 := by rw [own_byteAt w 4 p V 32 hp (by decide), hU, show 4294967296 = 2 ^ 32 from rfl, own_xbyte, own_cb4 V hV, own_xz]
  have b5 : f4 w 5 = p ↔ U.toNat / 1099511627776 % 256 < 1 := by rw [own_byteAt w 5 p V 40 hp (by decide), hU, show 1099511627776 = 2 ^ 40 from rfl, own_xbyte, own_cb5 V hV, own_xz]
  have b6 : f4 w 6 = p ↔ U.toNat / 281474976710656 % 256 < 1 := by rw [own_byteAt w 6 p V 48 hp (by decide), hU, show 281474976710656 = 2 ^ 48 from rfl, own_xbyte, own_cb6 V hV, own_xz]
  have b7 : f4 w 7 = p ↔ U.toNat / 72057594037927936 % 256 < 1 := by rw [own_byteAt w 7 p V 56 hp (by decide), hU, show 72057594037927936 = 2 ^ 56 from rfl, own_xbyte, own_cb7 V hV, own_xz]
  rw [f3, own_first]
  by_cases c0 : U.toNat / 1 % 256 < 1
  · rw [if_pos (b0.mpr c0), if_pos c0]; rfl
  rw [if_neg (fun z => c0 (b0.mp z)), if_neg c0]
  by_cases c1 : U.toNat / 256 % 256 < 1
  · rw [if_pos (b1.mpr c1), if_pos c1]; rfl
  rw [if_neg (fun z => c1 (b1.mp z)), if_neg c1]
  by_cases c2 : U.toNat / 65536 % 256 < 1
  · rw [if_pos (b2.mpr c2), if_pos c2]; rfl
  rw [if_neg (fun z => c2 (b2.mp z)), if_neg c2]
  by_cases c3 : U.toNat / 16777216 % 256 < 1
  · rw [if_pos (b3.mpr c3), if_pos c3]; rfl
  rw [if_neg (fun z => c3 (b3.mp z)), if_neg c3]
  by_cases c4 : U.toNat / 4294967296 % 256 < 1
  · rw [if_pos (b4.mpr c4), if_pos c4]; rfl
  rw [if_neg (fun z => c4 (b4.mp z)), if_neg c4]
  by_cases c5 : U.toNat / 1099511627776 % 256 < 1
  · rw [if_pos (b5.mpr c5), if_pos c5]; rfl
  rw [if_neg (fun z => c5 (b5.mp z)), if_neg c5]
  by_cases c6 : U.toNat / 281474976710656 % 256 < 1
  · rw [if_pos (b6.mpr c6), if_pos c6]; rfl
  rw [if_neg (fun z => c6 (b6.mp z)), if_neg c6]
  by_cases c7 : U.toNat / 72057594037927936 % 256 < 1
  · rw [if_pos (b7.mpr c7), if_pos c7]; rfl
  rw [if_neg (fun z => c7 (b7.mp z)), if_neg c7]
  rfl
theorem own_first_le (W l : Nat) : own_first W l ≤ 8 := by
  rw [own_first]; repeat' split
  all_goals decide
theorem own_U (w : Int64) (p : Int32) (V : Nat) (hV : V < 256) (hp : (p &&& (255 : Int32)).toInt = V) : (w ^^^ f1_0 w p).toBitVec.toNat = w.toBitVec.toNat ^^^ (V * 72340172838076673) := by
  rw [Int64.toBitVec_xor, BitVec.toNat_xor, f1_0, Int64.toBitVec_mul, BitVec.toNat_mul, own_pl _ V hp, show (72340172838076673 : Int64).toBitVec.toNat = 72340172838076673 from by decide, Nat.mul_comm, Nat.mod_eq_of_lt (by omega)]
theorem own_law (q1 : Int64) (p2 p3 p4 : Int32) : f0 q1 p2 p3 p4 = 1 := by
  obtain ⟨V, hV, v1, v2⟩ := own_v p2
  rw [f0, f0_10, f0_9, f0_8, f0_7, f0_6]
  generalize f0_5 q1 p2 p3 p4 = w
  have hU := own_U w p2.toInt8.toInt32 V hV v2
  have e := own_first_eq w _ _ V hV v1 hU
  have le := own_first_le (w ^^^ f1_0 w p2.toInt8.toInt32).toBitVec.toNat 1
  obtain ⟨q, hD⟩ := own_D (w ^^^ f1_0 w p2.toInt8.toInt32).toBitVec (1 : Int32).toInt64.toBitVec 1 (by decide) (by decide)
  obtain ⟨g1, g2⟩ := own_below _ _ 1 q hD (by decide) (by decide)
  rw [← own_f2] at g1 g2
  rw [e, f1]
  generalize own_first (w ^^^ f1_0 w p2.toInt8.toInt32).toBitVec.toNat 1 = n at *
  generalize f2 (w ^^^ f1_0 w p2.toInt8.toInt32) 1 = r at *
  have key : r &&& -r = (if Int32.ofNat n = 8 then (0 : Int64) else (1 : Int64) <<< (((8 : Int32) * Int32.ofNat n + (7 : Int32)).toInt64 &&& 63)) := by
    by_cases c : n = 8
    · subst c
      have z : r = 0 := Int64.toBitVec_inj.mp (g1 rfl)
      rw [z]; decide
    · have g3 := g2 c
      apply Int64.toBitVec_inj.mp
      rw [Int64.toBitVec_and, Int64.toBitVec_neg, g3]
      have : n = 0 ∨ n = 1 ∨ n = 2 ∨ n = 3 ∨ n = 4 ∨ n = 5 ∨ n = 6 ∨ n = 7 := by omega
      rcases this with rfl | rfl | rfl | rfl | rfl | rfl | rfl | rfl <;> decide +kernel
  rw [if_pos key]; rfl

abbrev own_G (tb : Tables) (e : Env) (below : List Frame) (Q : Outcome → State → Prop) (A : State) : Prop := ∃ s₂ o, Steps tb e below A s₂ ∧ s₂.status = .running ∧ Ended s₂ below o ∧ Q o s₂
theorem own_step {tb : Tables} {e : Env} {below : List Frame} {Q : Outcome → State → Prop} {A B : State} (h : ∀ t, Steps tb e below B t → Steps tb e below A t) (g : own_G tb e below Q B) : own_G tb e below Q A := by
  obtain ⟨s2, o, h1, h2⟩ := g
  exact ⟨s2, o, h _ h1, h2⟩
theorem own_aT {x y : Addr} (h : x = y) : XT.acmp .eq (.ref x) (.ref y) = true ∧ XT.acmp .ne (.ref x) (.ref y) = false := by subst h; exact ⟨by simp [XT.acmp], by simp [XT.acmp]⟩
theorem own_aF {x y : Addr} (h : ¬ x = y) : XT.acmp .eq (.ref x) (.ref y) = false ∧ XT.acmp .ne (.ref x) (.ref y) = true := by simp [XT.acmp, h]
theorem own_cl (x y : Int64) : XT.cmpL x y < 0 ↔ x < y := lw_lt x y
theorem own_cg (x y : Int64) : 0 < XT.cmpL x y ↔ y < x := lw_gt x y
theorem own_ce (x y : Int64) : XT.cmpL x y = 0 ↔ x = y := lw_eq x y
theorem pd_0 : parseMethodDescriptor "(JI)J" = some ⟨[.long, .int], some .long⟩ := by decide +kernel
theorem pd_1 : parseMethodDescriptor "(JI)I" = some ⟨[.long, .int], some .int⟩ := by decide +kernel
theorem pd_2 : parseMethodDescriptor "(JII)J" = some ⟨[.long, .int, .int], some .long⟩ := by decide +kernel
theorem pd_3 : parseMethodDescriptor "(JB)J" = some ⟨[.long, .byte], some .long⟩ := by decide +kernel
theorem d2_0 : decode prog_19_method_4_code 0 = .ok (.lload_n 0, 1) := by decide +kernel
theorem d2_1 : decode prog_19_method_4_code 1 = .ok (.ldc2_w 19, 3) := by decide +kernel
theorem d2_4 : decode prog_19_method_4_code 4 = .ok (.iload_n 2, 1) := by decide +kernel
theorem d2_5 : decode prog_19_method_4_code 5 = .ok (.i2l, 1) := by decide +kernel
theorem d2_6 : decode prog_19_method_4_code 6 = .ok (.lmul, 1) := by decide +kernel
theorem d2_7 : decode prog_19_method_4_code 7 = .ok (.lsub, 1) := by decide +kernel
theorem d2_8 : decode prog_19_method_4_code 8 = .ok (.lload_n 0, 1) := by decide +kernel
theorem d2_9 : decode prog_19_method_4_code 9 = .ok (.ldc2_w 25, 3) := by decide +kernel
theorem d2_12 : decode prog_19_method_4_code 12 = .ok (.lxor, 1) := by decide +kernel
theorem d2_13 : decode prog_19_method_4_code 13 = .ok (.land, 1) := by decide +kernel
theorem d2_14 : decode prog_19_method_4_code 14 = .ok (.ldc2_w 27, 3) := by decide +kernel
theorem d2_17 : decode prog_19_method_4_code 17 = .ok (.land, 1) := by decide +kernel
theorem d2_18 : decode prog_19_method_4_code 18 = .ok (.lreturn, 1) := by decide +kernel
theorem pn_2 : plainName "com/example/apportion/apportion/Words" = true := by first | (simp [plainName, overriddenIn]; done) | decide +kernel
theorem ef_2 (m : MethodId) (q1 : Int64) (p2 : Int32) : entryFrame m #[(.long q1), (.int p2)] 3 = mkF m 0 #[.val (.long q1), .second, .val (.int p2)] [] := by first | (simp [entryFrame, mkF, argsToLocals, Value.category]; done) | rfl
def Q2 (Z : State) (q1 : Int64) (p2 : Int32) (h0 : Heap) (n0 : Nat) (v : Option Value) (h : Heap) (L : List Loc) : Prop := v = some (.long (f2 q1 p2)) ∧ Fr n0 L ∧ h = h0
set_option maxRecDepth 65536 in
set_option maxHeartbeats 40000000 in
theorem rm2 (l : Launch) (Z : State) (a0 : Array Value) (hw : ∀ d ∈ tables_1, d.before a0 Z = true) (ws : List Jvm.Cond) (q1 : Int64) (p2 : Int32) (h0 : Heap) (n0 : Nat) (Z0 : n0 ≤ h0.size) :
    MetFree l (⟨"com/example/apportion/apportion/Words", "below", "(JI)J"⟩ : MethodName) (head1 (Jvm.Cond.code (⟨"com/example/apportion/apportion/Words", "below", "(JI)J"⟩ : MethodName) prog_19_method_4_code 3 (some .long) :: ws) ({ frames := 0, cells := 0, slots := 0, locals := 0 } : Room)) (fun a U => a = #[(.long q1), (.int p2)] ∧ Z.Warmed39 U.vm ∧ U.heap = h0) (fun _ _ _ _ _ => True) (fun _ U o U' => ∃ v L, o = .returned v ∧ Q2 Z q1 p2 h0 n0 v U'.heap L ∧ FrameEnd U o U' L ({ frames := 0, cells := 0, slots := 0, locals := 0 } : Room).cells ({ frames := 0, cells := 0, slots := 0, locals := 0 } : Room).slots) := by
  refine MetFree.of_bodySF (plainFor_of_name pn_2) hisR ?_
  intro p e s m args below meth c s₁ Bd hml0 hP hK
  obtain ⟨rfl, hZ, hh⟩ := hP
  have hx := Bd.exec
  have hby := Bd.bytes
  have hml : c.maxLocals = 3 := hml0
  have hown : s.vm.findClass "com/example/apportion/apportion/Words" = some m.cls := findClass_of_methodNamed Bd.named
  have hnm := (name_of_methodNamed Bd.named Bd.method).1
  have X0 : Stand p l e ({ frames := 0, cells := 0, slots := 0, locals := 0 } : Room) s m #[(.long q1), (.int p2)] below meth c s₁ [] 0 0 := Stand.of_body Bd
  have e0 : s₁.heap = h0 := by rw [← hh, Bd.state]; rfl
  have N0 := Fr.nil n0
  have pre0 : ∀ t, Steps p.tables e below (s₁.setTop (mkF m 0 #[.val (.long q1), .second, .val (.int p2)] [])) t → Steps p.tables e below (s₁.setTop (entryFrame m #[(.long q1), (.int p2)] 3)) t := fun t k => castTop (ef_2 m q1 p2) k
  refine own_step (Q := fun o U' => ∃ v L, o = .returned v ∧ Q2 Z q1 p2 h0 n0 v U'.heap L ∧ FrameEnd s o U' L ({ frames := 0, cells := 0, slots := 0, locals := 0 } : Room).cells ({ frames := 0, cells := 0, slots := 0, locals := 0 } : Room).slots) pre0 ?_
  obtain ⟨fs, hr, hrun, hended, hW, hsame⟩ := X0.leave (v := some (.long ((f2_0 q1 p2) &&& (-9187201950435737472 : Int64)))) (fun h => by rw [Bd.returns] at h; cases h)
  refine ⟨_, _, ?_, hrun, hended, _, _, rfl, ?_, ⟨_, rfl⟩, hW, hsame.mono (by decide) (by decide)⟩
  · show Steps p.tables e below (s₁.setTop (mkF m 0 #[.val (.long q1), .second, .val (.int p2)] [])) _
    refine XT.lloadN X0.here hx rfl (hb hby d2_0) rfl ?_
    show Steps p.tables e below (s₁.setTop (mkF m 1 #[.val (.long q1), .second, .val (.int p2)] [(.long q1)])) _
    refine X0.ldc2Long hx hown (mvT hZ (hw _ (List.mem_of_getElem? (i := 4) rfl))) (g := (mkF m 1 #[.val (.long q1), .second, .val (.int p2)] [(.long q1)])) rfl (hb hby d2_1) _ ?_
    show Steps p.tables e below (s₁.setTop (mkF m 4 #[.val (.long q1), .second, .val (.int p2)] [(.long (72340172838076673 : Int64)), (.long q1)])) _
    refine XS.iloadN X0.here hx rfl (hb hby d2_4) rfl ?_
    show Steps p.tables e below (s₁.setTop (mkF m 5 #[.val (.long q1), .second, .val (.int p2)] [(.int p2), (.long (72340172838076673 : Int64)), (.long q1)])) _
    refine XT.i2l X0.here hx rfl (hb hby d2_5) rfl ?_
    show Steps p.tables e below (s₁.setTop (mkF m 6 #[.val (.long q1), .second, .val (.int p2)] [(.long p2.toInt64), (.long (72340172838076673 : Int64)), (.long q1)])) _
    refine XT.lmul X0.here hx rfl (hb hby d2_6) rfl ?_
    show Steps p.tables e below (s₁.setTop (mkF m 7 #[.val (.long q1), .second, .val (.int p2)] [(.long ((72340172838076673 : Int64) * p2.toInt64)), (.long q1)])) _
    refine XT.lsub X0.here hx rfl (hb hby d2_7) rfl ?_
    show Steps p.tables e below (s₁.setTop (mkF m 8 #[.val (.long q1), .second, .val (.int p2)] [(.long (q1 - ((72340172838076673 : Int64) * p2.toInt64)))])) _
    refine XT.lloadN X0.here hx rfl (hb hby d2_8) rfl ?_
    show Steps p.tables e below (s₁.setTop (mkF m 9 #[.val (.long q1), .second, .val (.int p2)] [(.long q1), (.long (q1 - ((72340172838076673 : Int64) * p2.toInt64)))])) _
    refine X0.ldc2Long hx hown (mvT hZ (hw _ (List.mem_of_getElem? (i := 8) rfl))) (g := (mkF m 9 #[.val (.long q1), .second, .val (.int p2)] [(.long q1), (.long (q1 - ((72340172838076673 : Int64) * p2.toInt64)))])) rfl (hb hby d2_9) _ ?_
    show Steps p.tables e below (s₁.setTop (mkF m 12 #[.val (.long q1), .second, .val (.int p2)] [(.long (-1 : Int64)), (.long q1), (.long (q1 - ((72340172838076673 : Int64) * p2.toInt64)))])) _
    refine XT.lxor X0.here hx rfl (hb hby d2_12) rfl ?_
    show Steps p.tables e below (s₁.setTop (mkF m 13 #[.val (.long q1), .second, .val (.int p2)] [(.long (q1 ^^^ (-1 : Int64))), (.long (q1 - ((72340172838076673 : Int64) * p2.toInt64)))])) _
    refine XT.land X0.here hx rfl (hb hby d2_13) rfl ?_
    show Steps p.tables e below (s₁.setTop (mkF m 14 #[.val (.long q1), .second, .val (.int p2)] [(.long (f2_0 q1 p2))])) _
    refine X0.ldc2Long hx hown (mvT hZ (hw _ (List.mem_of_getElem? (i := 9) rfl))) (g := (mkF m 14 #[.val (.long q1), .second, .val (.int p2)] [(.long (f2_0 q1 p2))])) rfl (hb hby d2_14) _ ?_
    show Steps p.tables e below (s₁.setTop (mkF m 17 #[.val (.long q1), .second, .val (.int p2)] [(.long (-9187201950435737472 : Int64)), (.long (f2_0 q1 p2))])) _
    refine XT.land X0.here hx rfl (hb hby d2_17) rfl ?_
    show Steps p.tables e below (s₁.setTop (mkF m 18 #[.val (.long q1), .second, .val (.int p2)] [(.long ((f2_0 q1 p2) &&& (-9187201950435737472 : Int64)))])) _
    jvm_step X0.here [X0.here.top, hx, (hb hby d2_18), X0.method', Bd.returns, narrow]
    first | (intro acts; rw [hr _ acts rfl rfl rfl]) | rw [hr _ _ rfl rfl rfl]
    exact Steps.refl _
  · show Q2 Z q1 p2 h0 n0 _ s₁.heap _
    rw [e0]
    have hf : f2 q1 p2 = ((f2_0 q1 p2) &&& (-9187201950435737472 : Int64)) := rfl
    exact ⟨by rw [hf], N0, rfl⟩
theorem d1_0 : decode prog_19_method_3_code 0 = .ok (.lload_n 0, 1) := by decide +kernel
theorem d1_1 : decode prog_19_method_3_code 1 = .ok (.ldc2_w 19, 3) := by decide +kernel
theorem d1_4 : decode prog_19_method_3_code 4 = .ok (.iload_n 2, 1) := by decide +kernel
theorem d1_5 : decode prog_19_method_3_code 5 = .ok (.sipush 255, 3) := by decide +kernel
theorem d1_8 : decode prog_19_method_3_code 8 = .ok (.iand, 1) := by decide +kernel
theorem d1_9 : decode prog_19_method_3_code 9 = .ok (.i2l, 1) := by decide +kernel
theorem d1_10 : decode prog_19_method_3_code 10 = .ok (.lmul, 1) := by decide +kernel
theorem d1_11 : decode prog_19_method_3_code 11 = .ok (.lxor, 1) := by decide +kernel
theorem d1_12 : decode prog_19_method_3_code 12 = .ok (.iconst 1, 1) := by decide +kernel
theorem d1_13 : decode prog_19_method_3_code 13 = .ok (.invokestatic 21, 3) := by decide +kernel
theorem d1_16 : decode prog_19_method_3_code 16 = .ok (.lreturn, 1) := by decide +kernel
theorem pn_1 : plainName "com/example/apportion/apportion/Words" = true := by first | (simp [plainName, overriddenIn]; done) | decide +kernel
theorem ef_1 (m : MethodId) (q1 : Int64) (p2 : Int32) : entryFrame m #[(.long q1), (.int p2)] 3 = mkF m 0 #[.val (.long q1), .second, .val (.int p2)] [] := by first | (simp [entryFrame, mkF, argsToLocals, Value.category]; done) | rfl
def Q1 (Z : State) (q1 : Int64) (p2 : Int32) (h0 : Heap) (n0 : Nat) (v : Option Value) (h : Heap) (L : List Loc) : Prop := v = some (.long (f1 q1 p2)) ∧ Fr n0 L ∧ h = h0
set_option maxRecDepth 65536 in
set_option maxHeartbeats 40000000 in
theorem rm1 (l : Launch) (Z : State) (a0 : Array Value) (hw : ∀ d ∈ tables_1, d.before a0 Z = true) (ws : List Jvm.Cond) (q1 : Int64) (p2 : Int32) (h0 : Heap) (n0 : Nat) (Z0 : n0 ≤ h0.size) :
    MetFree l (⟨"com/example/apportion/apportion/Words", "equal", "(JB)J"⟩ : MethodName) (head1 (Jvm.Cond.code (⟨"com/example/apportion/apportion/Words", "equal", "(JB)J"⟩ : MethodName) prog_19_method_3_code 3 (some .long) :: ws) ({ frames := 1, cells := 0, slots := 0, locals := 14 } : Room)) (fun a U => a = #[(.long q1), (.int p2)] ∧ Z.Warmed39 U.vm ∧ U.heap = h0) (fun _ _ _ _ _ => True) (fun _ U o U' => ∃ v L, o = .returned v ∧ Q1 Z q1 p2 h0 n0 v U'.heap L ∧ FrameEnd U o U' L ({ frames := 1, cells := 0, slots := 0, locals := 14 } : Room).cells ({ frames := 1, cells := 0, slots := 0, locals := 14 } : Room).slots) := by
  refine MetFree.of_bodySF (plainFor_of_name pn_1) hisR ?_
  intro p e s m args below meth c s₁ Bd hml0 hP hK
  obtain ⟨rfl, hZ, hh⟩ := hP
  have hx := Bd.exec
  have hby := Bd.bytes
  have hml : c.maxLocals = 3 := hml0
  have hown : s.vm.findClass "com/example/apportion/apportion/Words" = some m.cls := findClass_of_methodNamed Bd.named
  have hnm := (name_of_methodNamed Bd.named Bd.method).1
  have X0 : Stand p l e ({ frames := 1, cells := 0, slots := 0, locals := 14 } : Room) s m #[(.long q1), (.int p2)] below meth c s₁ [] 0 0 := Stand.of_body Bd
  have e0 : s₁.heap = h0 := by rw [← hh, Bd.state]; rfl
  have N0 := Fr.nil n0
  have pre0 : ∀ t, Steps p.tables e below (s₁.setTop (mkF m 0 #[.val (.long q1), .second, .val (.int p2)] [])) t → Steps p.tables e below (s₁.setTop (entryFrame m #[(.long q1), (.int p2)] 3)) t := fun t k => castTop (ef_1 m q1 p2) k
  refine own_step (Q := fun o U' => ∃ v L, o = .returned v ∧ Q1 Z q1 p2 h0 n0 v U'.heap L ∧ FrameEnd s o U' L ({ frames := 1, cells := 0, slots := 0, locals := 14 } : Room).cells ({ frames := 1, cells := 0, slots := 0, locals := 14 } : Room).slots) pre0 ?_
  obtain ⟨_, _, ⟨T1, L1, k1, n1⟩, -, X1, ⟨Lc1, hQ1, l1, y1, z1⟩, st1⟩ := Jvm.LawKit.callS X0 hx (y := (⟨"com/example/apportion/apportion/Words", "below", "(JI)J"⟩ : MethodName)) hown (mvT hZ (hw _ (List.mem_of_getElem? (i := 5) rfl))) (mvT hZ (hw _ (List.mem_of_getElem? (i := 6) rfl))) (mvT hZ (hw _ (List.mem_of_getElem? (i := 2) rfl))) (mvT hZ (hw _ (List.mem_of_getElem? (i := 7) rfl))) (by decide) (backOf (W := 0) (rm2 l Z a0 hw [] (q1 ^^^ (f1_0 q1 p2)) (1 : Int32) h0 n0 Z0) hZ (hw _ (List.mem_of_getElem? (i := 7) rfl)) (hw _ (List.mem_of_getElem? (i := 2) rfl)) (by decide) (by decide)) (g := (mkF m 13 #[.val (.long q1), .second, .val (.int p2)] [(.int (1 : Int32)), (.long (q1 ^^^ (f1_0 q1 p2)))])) rfl (by rw [hml]; rfl) (argsL := [(.long (q1 ^^^ (f1_0 q1 p2))), (.int (1 : Int32))]) (rest := []) (lenOf pd_0 rfl) rfl (by show 2 * 0 + _ ≤ _; exact Nat.le_of_eq rfl) (hb hby d1_13) (fun _ _ => ⟨rfl, e0, (by decide : 0 + 0 ≤ _), (by decide : 0 + 0 ≤ _)⟩)
  dsimp only [Pt.U, Pt.locs, Pt.cells, Pt.slots] at X1 l1 y1 z1 st1 hQ1
  subst l1 y1 z1
  obtain ⟨rfl, N1q, e1⟩ := hQ1
  have N1 := Fr.app N0 N1q
  obtain ⟨fs, hr, hrun, hended, hW, hsame⟩ := X1.leave (v := some (.long (f2 (q1 ^^^ (f1_0 q1 p2)) (1 : Int32)))) (fun h => by rw [Bd.returns] at h; cases h)
  refine ⟨_, _, ?_, hrun, hended, _, _, rfl, ?_, ⟨_, rfl⟩, hW, hsame.mono (by decide) (by decide)⟩
  · show Steps p.tables e below (s₁.setTop (mkF m 0 #[.val (.long q1), .second, .val (.int p2)] [])) _
    refine XT.lloadN X0.here hx rfl (hb hby d1_0) rfl ?_
    show Steps p.tables e below (s₁.setTop (mkF m 1 #[.val (.long q1), .second, .val (.int p2)] [(.long q1)])) _
    refine X0.ldc2Long hx hown (mvT hZ (hw _ (List.mem_of_getElem? (i := 4) rfl))) (g := (mkF m 1 #[.val (.long q1), .second, .val (.int p2)] [(.long q1)])) rfl (hb hby d1_1) _ ?_
    show Steps p.tables e below (s₁.setTop (mkF m 4 #[.val (.long q1), .second, .val (.int p2)] [(.long (72340172838076673 : Int64)), (.long q1)])) _
    refine XS.iloadN X0.here hx rfl (hb hby d1_4) rfl ?_
    show Steps p.tables e below (s₁.setTop (mkF m 5 #[.val (.long q1), .second, .val (.int p2)] [(.int p2), (.long (72340172838076673 : Int64)), (.long q1)])) _
    refine XS.sipush X0.here hx rfl (hb hby d1_5) ?_
    show Steps p.tables e below (s₁.setTop (mkF m 8 #[.val (.long q1), .second, .val (.int p2)] [(.int (255 : Int32)), (.int p2), (.long (72340172838076673 : Int64)), (.long q1)])) _
    refine XS.iand X0.here hx rfl (hb hby d1_8) rfl ?_
    show Steps p.tables e below (s₁.setTop (mkF m 9 #[.val (.long q1), .second, .val (.int p2)] [(.int (p2 &&& (255 : Int32))), (.long (72340172838076673 : Int64)), (.long q1)])) _
    refine XT.i2l X0.here hx rfl (hb hby d1_9) rfl ?_
    show Steps p.tables e below (s₁.setTop (mkF m 10 #[.val (.long q1), .second, .val (.int p2)] [(.long (p2 &&& (255 : Int32)).toInt64), (.long (72340172838076673 : Int64)), (.long q1)])) _
    refine XT.lmul X0.here hx rfl (hb hby d1_10) rfl ?_
    show Steps p.tables e below (s₁.setTop (mkF m 11 #[.val (.long q1), .second, .val (.int p2)] [(.long (f1_0 q1 p2)), (.long q1)])) _
    refine XT.lxor X0.here hx rfl (hb hby d1_11) rfl ?_
    show Steps p.tables e below (s₁.setTop (mkF m 12 #[.val (.long q1), .second, .val (.int p2)] [(.long (q1 ^^^ (f1_0 q1 p2)))])) _
    refine XS.iconst X0.here hx rfl (hb hby d1_12) ?_
    show Steps p.tables e below (s₁.setTop (mkF m 13 #[.val (.long q1), .second, .val (.int p2)] [(.int (1 : Int32)), (.long (q1 ^^^ (f1_0 q1 p2)))])) _
    refine st1 _ ?_
    show Steps p.tables e below (T1.setTop (mkF m 16 #[.val (.long q1), .second, .val (.int p2)] [(.long (f2 (q1 ^^^ (f1_0 q1 p2)) (1 : Int32)))])) _
    jvm_step X1.here [X1.here.top, hx, (hb hby d1_16), X1.method', Bd.returns, narrow]
    first | (intro acts; rw [hr _ acts rfl rfl rfl]) | rw [hr _ _ rfl rfl rfl]
    exact Steps.refl _
  · show Q1 Z q1 p2 h0 n0 _ T1.heap _
    rw [e1]
    have hf : f1 q1 p2 = (f2 (q1 ^^^ (f1_0 q1 p2)) (1 : Int32)) := rfl
    exact ⟨by rw [hf], N1, rfl⟩
theorem d4_0 : decode method_4_code 0 = .ok (.lload_n 0, 1) := by decide +kernel
theorem d4_1 : decode method_4_code 1 = .ok (.bipush 8, 2) := by decide +kernel
theorem d4_3 : decode method_4_code 3 = .ok (.iload_n 2, 1) := by decide +kernel
theorem d4_4 : decode method_4_code 4 = .ok (.imul, 1) := by decide +kernel
theorem d4_5 : decode method_4_code 5 = .ok (.lushr, 1) := by decide +kernel
theorem d4_6 : decode method_4_code 6 = .ok (.ldc2_w 23, 3) := by decide +kernel
theorem d4_9 : decode method_4_code 9 = .ok (.land, 1) := by decide +kernel
theorem d4_10 : decode method_4_code 10 = .ok (.l2i, 1) := by decide +kernel
theorem d4_11 : decode method_4_code 11 = .ok (.ireturn, 1) := by decide +kernel
theorem pn_4 : plainName "com/example/apportion/apportion/WordsEqualPinLaw" = true := by first | (simp [plainName, overriddenIn]; done) | decide +kernel
theorem ef_4 (m : MethodId) (q1 : Int64) (p2 : Int32) : entryFrame m #[(.long q1), (.int p2)] 3 = mkF m 0 #[.val (.long q1), .second, .val (.int p2)] [] := by first | (simp [entryFrame, mkF, argsToLocals, Value.category]; done) | rfl
def Q4 (Z : State) (q1 : Int64) (p2 : Int32) (h0 : Heap) (n0 : Nat) (v : Option Value) (h : Heap) (L : List Loc) : Prop := v = some (.int (f4 q1 p2)) ∧ Fr n0 L ∧ h = h0
set_option maxRecDepth 65536 in
set_option maxHeartbeats 40000000 in
theorem rm4 (l : Launch) (Z : State) (a0 : Array Value) (hw : ∀ d ∈ tables_1, d.before a0 Z = true) (ws : List Jvm.Cond) (q1 : Int64) (p2 : Int32) (h0 : Heap) (n0 : Nat) (Z0 : n0 ≤ h0.size) :
    MetFree l (⟨"com/example/apportion/apportion/WordsEqualPinLaw", "byteAt", "(JI)I"⟩ : MethodName) (head1 (Jvm.Cond.code (⟨"com/example/apportion/apportion/WordsEqualPinLaw", "byteAt", "(JI)I"⟩ : MethodName) method_4_code 3 (some .int) :: ws) ({ frames := 0, cells := 0, slots := 0, locals := 0 } : Room)) (fun a U => a = #[(.long q1), (.int p2)] ∧ Z.Warmed39 U.vm ∧ U.heap = h0) (fun _ _ _ _ _ => True) (fun _ U o U' => ∃ v L, o = .returned v ∧ Q4 Z q1 p2 h0 n0 v U'.heap L ∧ FrameEnd U o U' L ({ frames := 0, cells := 0, slots := 0, locals := 0 } : Room).cells ({ frames := 0, cells := 0, slots := 0, locals := 0 } : Room).slots) := by
  refine MetFree.of_bodySF (plainFor_of_name pn_4) hisR ?_
  intro p e s m args below meth c s₁ Bd hml0 hP hK
  obtain ⟨rfl, hZ, hh⟩ := hP
  have hx := Bd.exec
  have hby := Bd.bytes
  have hml : c.maxLocals = 3 := hml0
  have hown : s.vm.findClass "com/example/apportion/apportion/WordsEqualPinLaw" = some m.cls := findClass_of_methodNamed Bd.named
  have hnm := (name_of_methodNamed Bd.named Bd.method).1
  have X0 : Stand p l e ({ frames := 0, cells := 0, slots := 0, locals := 0 } : Room) s m #[(.long q1), (.int p2)] below meth c s₁ [] 0 0 := Stand.of_body Bd
  have e0 : s₁.heap = h0 := by rw [← hh, Bd.state]; rfl
  have N0 := Fr.nil n0
  have pre0 : ∀ t, Steps p.tables e below (s₁.setTop (mkF m 0 #[.val (.long q1), .second, .val (.int p2)] [])) t → Steps p.tables e below (s₁.setTop (entryFrame m #[(.long q1), (.int p2)] 3)) t := fun t k => castTop (ef_4 m q1 p2) k
  refine own_step (Q := fun o U' => ∃ v L, o = .returned v ∧ Q4 Z q1 p2 h0 n0 v U'.heap L ∧ FrameEnd s o U' L ({ frames := 0, cells := 0, slots := 0, locals := 0 } : Room).cells ({ frames := 0, cells := 0, slots := 0, locals := 0 } : Room).slots) pre0 ?_
  obtain ⟨fs, hr, hrun, hended, hW, hsame⟩ := X0.leave (v := some (.int ((XT.ushrL q1 ((8 : Int32) * p2)) &&& (255 : Int64)).toInt32)) (fun h => by rw [Bd.returns] at h; cases h)
  refine ⟨_, _, ?_, hrun, hended, _, _, rfl, ?_, ⟨_, rfl⟩, hW, hsame.mono (by decide) (by decide)⟩
  · show Steps p.tables e below (s₁.setTop (mkF m 0 #[.val (.long q1), .second, .val (.int p2)] [])) _
    refine XT.lloadN X0.here hx rfl (hb hby d4_0) rfl ?_
    show Steps p.tables e below (s₁.setTop (mkF m 1 #[.val (.long q1), .second, .val (.int p2)] [(.long q1)])) _
    refine XS.bipush X0.here hx rfl (hb hby d4_1) ?_
    show Steps p.tables e below (s₁.setTop (mkF m 3 #[.val (.long q1), .second, .val (.int p2)] [(.int (8 : Int32)), (.long q1)])) _
    refine XS.iloadN X0.here hx rfl (hb hby d4_3) rfl ?_
    show Steps p.tables e below (s₁.setTop (mkF m 4 #[.val (.long q1), .second, .val (.int p2)] [(.int p2), (.int (8 : Int32)), (.long q1)])) _
    refine XS.imul X0.here hx rfl (hb hby d4_4) rfl ?_
    show Steps p.tables e below (s₁.setTop (mkF m 5 #[.val (.long q1), .second, .val (.int p2)] [(.int ((8 : Int32) * p2)), (.long q1)])) _
    refine XT.lushr X0.here hx rfl (hb hby d4_5) rfl ?_
    show Steps p.tables e below (s₁.setTop (mkF m 6 #[.val (.long q1), .second, .val (.int p2)] [(.long (XT.ushrL q1 ((8 : Int32) * p2)))])) _
    refine X0.ldc2Long hx hown (mvT hZ (hw _ (List.mem_of_getElem? (i := 17) rfl))) (g := (mkF m 6 #[.val (.long q1), .second, .val (.int p2)] [(.long (XT.ushrL q1 ((8 : Int32) * p2)))])) rfl (hb hby d4_6) _ ?_
    show Steps p.tables e below (s₁.setTop (mkF m 9 #[.val (.long q1), .second, .val (.int p2)] [(.long (255 : Int64)), (.long (XT.ushrL q1 ((8 : Int32) * p2)))])) _
    refine XT.land X0.here hx rfl (hb hby d4_9) rfl ?_
    show Steps p.tables e below (s₁.setTop (mkF m 10 #[.val (.long q1), .second, .val (.int p2)] [(.long ((XT.ushrL q1 ((8 : Int32) * p2)) &&& (255 : Int64)))])) _
    refine XT.l2i X0.here hx rfl (hb hby d4_10) rfl ?_
    show Steps p.tables e below (s₁.setTop (mkF m 11 #[.val (.long q1), .second, .val (.int p2)] [(.int ((XT.ushrL q1 ((8 : Int32) * p2)) &&& (255 : Int64)).toInt32)])) _
    exact retI X0 hx Bd.returns (hb hby d4_11) hr
  · show Q4 Z q1 p2 h0 n0 _ s₁.heap _
    rw [e0]
    have hf : f4 q1 p2 = ((XT.ushrL q1 ((8 : Int32) * p2)) &&& (255 : Int64)).toInt32 := rfl
    exact ⟨by rw [hf], N0, rfl⟩
theorem d3_0 : decode method_5_code 0 = .ok (.lload_n 0, 1) := by decide +kernel
theorem d3_1 : decode method_5_code 1 = .ok (.iconst 0, 1) := by decide +kernel
theorem d3_2 : decode method_5_code 2 = .ok (.invokestatic 27, 3) := by decide +kernel
theorem d3_5 : decode method_5_code 5 = .ok (.iload_n 2, 1) := by decide +kernel
theorem d3_6 : decode method_5_code 6 = .ok (.if_icmp .ne 5, 3) := by decide +kernel
theorem d3_9 : decode method_5_code 9 = .ok (.iconst 0, 1) := by decide +kernel
theorem d3_10 : decode method_5_code 10 = .ok (.ireturn, 1) := by decide +kernel
theorem d3_11 : decode method_5_code 11 = .ok (.lload_n 0, 1) := by decide +kernel
theorem d3_12 : decode method_5_code 12 = .ok (.iconst 1, 1) := by decide +kernel
theorem d3_13 : decode method_5_code 13 = .ok (.invokestatic 27, 3) := by decide +kernel
theorem d3_16 : decode method_5_code 16 = .ok (.iload_n 2, 1) := by decide +kernel
theorem d3_17 : decode method_5_code 17 = .ok (.if_icmp .ne 5, 3) := by decide +kernel
theorem d3_20 : decode method_5_code 20 = .ok (.iconst 1, 1) := by decide +kernel
theorem d3_21 : decode method_5_code 21 = .ok (.ireturn, 1) := by decide +kernel
theorem d3_22 : decode method_5_code 22 = .ok (.lload_n 0, 1) := by decide +kernel
theorem d3_23 : decode method_5_code 23 = .ok (.iconst 2, 1) := by decide +kernel
theorem d3_24 : decode method_5_code 24 = .ok (.invokestatic 27, 3) := by decide +kernel
theorem d3_27 : decode method_5_code 27 = .ok (.iload_n 2, 1) := by decide +kernel
theorem d3_28 : decode method_5_code 28 = .ok (.if_icmp .ne 5, 3) := by decide +kernel
theorem d3_31 : decode method_5_code 31 = .ok (.iconst 2, 1) := by decide +kernel
theorem d3_32 : decode method_5_code 32 = .ok (.ireturn, 1) := by decide +kernel
theorem d3_33 : decode method_5_code 33 = .ok (.lload_n 0, 1) := by decide +kernel
theorem d3_34 : decode method_5_code 34 = .ok (.iconst 3, 1) := by decide +kernel
theorem d3_35 : decode method_5_code 35 = .ok (.invokestatic 27, 3) := by decide +kernel
theorem d3_38 : decode method_5_code 38 = .ok (.iload_n 2, 1) := by decide +kernel
theorem d3_39 : decode method_5_code 39 = .ok (.if_icmp .ne 5, 3) := by decide +kernel
theorem d3_42 : decode method_5_code 42 = .ok (.iconst 3, 1) := by decide +kernel
theorem d3_43 : decode method_5_code 43 = .ok (.ireturn, 1) := by decide +kernel
theorem d3_44 : decode method_5_code 44 = .ok (.lload_n 0, 1) := by decide +kernel
theorem d3_45 : decode method_5_code 45 = .ok (.iconst 4, 1) := by decide +kernel
theorem d3_46 : decode method_5_code 46 = .ok (.invokestatic 27, 3) := by decide +kernel
theorem d3_49 : decode method_5_code 49 = .ok (.iload_n 2, 1) := by decide +kernel
theorem d3_50 : decode method_5_code 50 = .ok (.if_icmp .ne 5, 3) := by decide +kernel
theorem d3_53 : decode method_5_code 53 = .ok (.iconst 4, 1) := by decide +kernel
theorem d3_54 : decode method_5_code 54 = .ok (.ireturn, 1) := by decide +kernel
theorem d3_55 : decode method_5_code 55 = .ok (.lload_n 0, 1) := by decide +kernel
theorem d3_56 : decode method_5_code 56 = .ok (.iconst 5, 1) := by decide +kernel
theorem d3_57 : decode method_5_code 57 = .ok (.invokestatic 27, 3) := by decide +kernel
theorem d3_60 : decode method_5_code 60 = .ok (.iload_n 2, 1) := by decide +kernel
theorem d3_61 : decode method_5_code 61 = .ok (.if_icmp .ne 5, 3) := by decide +kernel
theorem d3_64 : decode method_5_code 64 = .ok (.iconst 5, 1) := by decide +kernel
theorem d3_65 : decode method_5_code 65 = .ok (.ireturn, 1) := by decide +kernel
theorem d3_66 : decode method_5_code 66 = .ok (.lload_n 0, 1) := by decide +kernel
theorem d3_67 : decode method_5_code 67 = .ok (.bipush 6, 2) := by decide +kernel
theorem d3_69 : decode method_5_code 69 = .ok (.invokestatic 27, 3) := by decide +kernel
theorem d3_72 : decode method_5_code 72 = .ok (.iload_n 2, 1) := by decide +kernel
theorem d3_73 : decode method_5_code 73 = .ok (.if_icmp .ne 6, 3) := by decide +kernel
theorem d3_76 : decode method_5_code 76 = .ok (.bipush 6, 2) := by decide +kernel
theorem d3_78 : decode method_5_code 78 = .ok (.ireturn, 1) := by decide +kernel
theorem d3_79 : decode method_5_code 79 = .ok (.lload_n 0, 1) := by decide +kernel
theorem d3_80 : decode method_5_code 80 = .ok (.bipush 7, 2) := by decide +kernel
theorem d3_82 : decode method_5_code 82 = .ok (.invokestatic 27, 3) := by decide +kernel
theorem d3_85 : decode method_5_code 85 = .ok (.iload_n 2, 1) := by decide +kernel
theorem d3_86 : decode method_5_code 86 = .ok (.if_icmp .ne 6, 3) := by decide +kernel
theorem d3_89 : decode method_5_code 89 = .ok (.bipush 7, 2) := by decide +kernel
theorem d3_91 : decode method_5_code 91 = .ok (.ireturn, 1) := by decide +kernel
theorem d3_92 : decode method_5_code 92 = .ok (.bipush 8, 2) := by decide +kernel
theorem d3_94 : decode method_5_code 94 = .ok (.ireturn, 1) := by decide +kernel
theorem pn_3 : plainName "com/example/apportion/apportion/WordsEqualPinLaw" = true := by first | (simp [plainName, overriddenIn]; done) | decide +kernel
theorem ef_3 (m : MethodId) (q1 : Int64) (p2 : Int32) : entryFrame m #[(.long q1), (.int p2)] 3 = mkF m 0 #[.val (.long q1), .second, .val (.int p2)] [] := by first | (simp [entryFrame, mkF, argsToLocals, Value.category]; done) | rfl
def Q3 (Z : State) (q1 : Int64) (p2 : Int32) (h0 : Heap) (n0 : Nat) (v : Option Value) (h : Heap) (L : List Loc) : Prop := v = some (.int (f3 q1 p2)) ∧ Fr n0 L ∧ h = h0
set_option maxRecDepth 65536 in
set_option maxHeartbeats 40000000 in
theorem rm3 (l : Launch) (Z : State) (a0 : Array Value) (hw : ∀ d ∈ tables_1, d.before a0 Z = true) (ws : List Jvm.Cond) (q1 : Int64) (p2 : Int32) (h0 : Heap) (n0 : Nat) (Z0 : n0 ≤ h0.size) :
    MetFree l (⟨"com/example/apportion/apportion/WordsEqualPinLaw", "firstEq", "(JI)I"⟩ : MethodName) (head1 (Jvm.Cond.code (⟨"com/example/apportion/apportion/WordsEqualPinLaw", "firstEq", "(JI)I"⟩ : MethodName) method_5_code 3 (some .int) :: ws) ({ frames := 1, cells := 0, slots := 0, locals := 14 } : Room)) (fun a U => a = #[(.long q1), (.int p2)] ∧ Z.Warmed39 U.vm ∧ U.heap = h0) (fun _ _ _ _ _ => True) (fun _ U o U' => ∃ v L, o = .returned v ∧ Q3 Z q1 p2 h0 n0 v U'.heap L ∧ FrameEnd U o U' L ({ frames := 1, cells := 0, slots := 0, locals := 14 } : Room).cells ({ frames := 1, cells := 0, slots := 0, locals := 14 } : Room).slots) := by
  refine MetFree.of_bodySF (plainFor_of_name pn_3) hisR ?_
  intro p e s m args below meth c s₁ Bd hml0 hP hK
  obtain ⟨rfl, hZ, hh⟩ := hP
  have hx := Bd.exec
  have hby := Bd.bytes
  have hml : c.maxLocals = 3 := hml0
  have hown : s.vm.findClass "com/example/apportion/apportion/WordsEqualPinLaw" = some m.cls := findClass_of_methodNamed Bd.named
  have hnm := (name_of_methodNamed Bd.named Bd.method).1
  have X0 : Stand p l e ({ frames := 1, cells := 0, slots := 0, locals := 14 } : Room) s m #[(.long q1), (.int p2)] below meth c s₁ [] 0 0 := Stand.of_body Bd
  have e0 : s₁.heap = h0 := by rw [← hh, Bd.state]; rfl
  have N0 := Fr.nil n0
  have pre0 : ∀ t, Steps p.tables e below (s₁.setTop (mkF m 0 #[.val (.long q1), .second, .val (.int p2)] [])) t → Steps p.tables e below (s₁.setTop (entryFrame m #[(.long q1), (.int p2)] 3)) t := fun t k => castTop (ef_3 m q1 p2) k
  refine own_step (Q := fun o U' => ∃ v L, o = .returned v ∧ Q3 Z q1 p2 h0 n0 v U'.heap L ∧ FrameEnd s o U' L ({ frames := 1, cells := 0, slots := 0, locals := 14 } : Room).cells ({ frames := 1, cells := 0, slots := 0, locals := 14 } : Room).slots) pre0 ?_
  obtain ⟨_, _, ⟨T1, L1, k1, n1⟩, -, X1, ⟨Lc1, hQ1, l1, y1, z1⟩, st1⟩ := Jvm.LawKit.callS X0 hx (y := (⟨"com/example/apportion/apportion/WordsEqualPinLaw", "byteAt", "(JI)I"⟩ : MethodName)) hown (mvT hZ (hw _ (List.mem_of_getElem? (i := 14) rfl))) (mvT hZ (hw _ (List.mem_of_getElem? (i := 15) rfl))) (mvT hZ (hw _ (List.mem_of_getElem? (i := 12) rfl))) (mvT hZ (hw _ (List.mem_of_getElem? (i := 16) rfl))) (by decide) (backOf (W := 0) (rm4 l Z a0 hw [] q1 (0 : Int32) h0 n0 Z0) hZ (hw _ (List.mem_of_getElem? (i := 16) rfl)) (hw _ (List.mem_of_getElem? (i := 12) rfl)) (by decide) (by decide)) (g := (mkF m 2 #[.val (.long q1), .second, .val (.int p2)] [(.int (0 : Int32)), (.long q1)])) rfl (by rw [hml]; rfl) (argsL := [(.long q1), (.int (0 : Int32))]) (rest := []) (lenOf pd_1 rfl) rfl (by show 2 * 0 + _ ≤ _; exact Nat.le_of_eq rfl) (hb hby d3_2) (fun _ _ => ⟨rfl, e0, (by decide : 0 + 0 ≤ _), (by decide : 0 + 0 ≤ _)⟩)
  dsimp only [Pt.U, Pt.locs, Pt.cells, Pt.slots] at X1 l1 y1 z1 st1 hQ1
  subst l1 y1 z1
  obtain ⟨rfl, N1q, e1⟩ := hQ1
  have N1 := Fr.app N0 N1q
  refine own_step (B := T1.setTop (mkF m 6 #[.val (.long q1), .second, .val (.int p2)] [(.int p2), (.int (f4 q1 (0 : Int32)))])) (fun t k => ?_) ?_
  · show Steps p.tables e below (s₁.setTop (mkF m 0 #[.val (.long q1), .second, .val (.int p2)] [])) _
    refine XT.lloadN X0.here hx rfl (hb hby d3_0) rfl ?_
    show Steps p.tables e below (s₁.setTop (mkF m 1 #[.val (.long q1), .second, .val (.int p2)] [(.long q1)])) _
    refine XS.iconst X0.here hx rfl (hb hby d3_1) ?_
    show Steps p.tables e below (s₁.setTop (mkF m 2 #[.val (.long q1), .second, .val (.int p2)] [(.int (0 : Int32)), (.long q1)])) _
    refine st1 _ ?_
    show Steps p.tables e below (T1.setTop (mkF m 5 #[.val (.long q1), .second, .val (.int p2)] [(.int (f4 q1 (0 : Int32)))])) _
    refine XS.iloadN X1.here hx rfl (hb hby d3_5) rfl ?_
    exact k
  by_cases h2 : (f4 q1 (0 : Int32)) = p2
  · obtain ⟨fs, hr, hrun, hended, hW, hsame⟩ := X1.leave (v := some (.int (0 : Int32))) (fun h => by rw [Bd.returns] at h; cases h)
    refine ⟨_, _, ?_, hrun, hended, _, _, rfl, ?_, ⟨_, rfl⟩, hW, hsame.mono (by decide) (by decide)⟩
    · show Steps p.tables e below (T1.setTop (mkF m 6 #[.val (.long q1), .second, .val (.int p2)] [(.int p2), (.int (f4 q1 (0 : Int32)))])) _
      refine XS.icmpNo X1.here hx rfl (hb hby d3_6) rfl (teq h2).2 ?_
      show Steps p.tables e below (T1.setTop (mkF m 9 #[.val (.long q1), .second, .val (.int p2)] [])) _
      refine XS.iconst X1.here hx rfl (hb hby d3_9) ?_
      show Steps p.tables e below (T1.setTop (mkF m 10 #[.val (.long q1), .second, .val (.int p2)] [(.int (0 : Int32))])) _
      exact retI X1 hx Bd.returns (hb hby d3_10) hr
    · show Q3 Z q1 p2 h0 n0 _ T1.heap _
      rw [e1]
      have hf : f3 q1 p2 = (0 : Int32) := by simp only [f3, if_pos h2]
      exact ⟨by rw [hf], N1, rfl⟩
  · obtain ⟨_, _, ⟨T3, L3, k3, n3⟩, -, X3, ⟨Lc3, hQ3, l3, y3, z3⟩, st3⟩ := Jvm.LawKit.callS X1 hx (y := (⟨"com/example/apportion/apportion/WordsEqualPinLaw", "byteAt", "(JI)I"⟩ : MethodName)) hown (mvT hZ (hw _ (List.mem_of_getElem? (i := 14) rfl))) (mvT hZ (hw _ (List.mem_of_getElem? (i := 15) rfl))) (mvT hZ (hw _ (List.mem_of_getElem? (i := 12) rfl))) (mvT hZ (hw _ (List.mem_of_getElem? (i := 16) rfl))) (by decide) (backOf (W := 0) (rm4 l Z a0 hw [] q1 (1 : Int32) h0 n0 Z0) hZ (hw _ (List.mem_of_getElem? (i := 16) rfl)) (hw _ (List.mem_of_getElem? (i := 12) rfl)) (by decide) (by decide)) (g := (mkF m 13 #[.val (.long q1), .second, .val (.int p2)] [(.int (1 : Int32)), (.long q1)])) rfl (by rw [hml]; rfl) (argsL := [(.long q1), (.int (1 : Int32))]) (rest := []) (lenOf pd_1 rfl) rfl (by show 2 * 0 + _ ≤ _; exact Nat.le_of_eq rfl) (hb hby d3_13) (fun _ _ => ⟨rfl, e1, (by decide : 0 + 0 ≤ _), (by decide : 0 + 0 ≤ _)⟩)
    dsimp only [Pt.U, Pt.locs, Pt.cells, Pt.slots] at X3 l3 y3 z3 st3 hQ3
    subst l3 y3 z3
    obtain ⟨rfl, N3q, e3⟩ := hQ3
    have N3 := Fr.app N1 N3q
    refine own_step (B := T3.setTop (mkF m 17 #[.val (.long q1), .second, .val (.int p2)] [(.int p2), (.int (f4 q1 (1 : Int32)))])) (fun t k => ?_) ?_
    · show Steps p.tables e below (T1.setTop (mkF m 6 #[.val (.long q1), .second, .val (.int p2)] [(.int p2), (.int (f4 q1 (0 : Int32)))])) _
      refine XS.icmpYes X1.here hx rfl (pc0 := 6) (pc' := 11) rfl (hb hby d3_6) rfl (feq h2).2 (by decide) (by decide) ?_
      show Steps p.tables e below (T1.setTop (mkF m 11 #[.val (.long q1), .second, .val (.int p2)] [])) _
      refine XT.lloadN X1.here hx rfl (hb hby d3_11) rfl ?_
      show Steps p.tables e below (T1.setTop (mkF m 12 #[.val (.long q1), .second, .val (.int p2)] [(.long q1)])) _
      refine XS.iconst X1.here hx rfl (hb hby d3_12) ?_
      show Steps p.tables e below (T1.setTop (mkF m 13 #[.val (.long q1), .second, .val (.int p2)] [(.int (1 : Int32)), (.long q1)])) _
      refine st3 _ ?_
      show Steps p.tables e below (T3.setTop (mkF m 16 #[.val (.long q1), .second, .val (.int p2)] [(.int (f4 q1 (1 : Int32)))])) _
      refine XS.iloadN X3.here hx rfl (hb hby d3_16) rfl ?_
      exact k
    by_cases h4 : (f4 q1 (1 : Int32)) = p2
    · obtain ⟨fs, hr, hrun, hended, hW, hsame⟩ := X3.leave (v := some (.int (1 : Int32))) (fun h => by rw [Bd.returns] at h; cases h)
      refine ⟨_, _, ?_, hrun, hended, _, _, rfl, ?_, ⟨_, rfl⟩, hW, hsame.mono (by decide) (by decide)⟩
      · show Steps p.tables e below (T3.setTop (mkF m 17 #[.val (.long q1), .second, .val (.int p2)] [(.int p2), (.int (f4 q1 (1 : Int32)))])) _
        refine XS.icmpNo X3.here hx rfl (hb hby d3_17) rfl (teq h4).2 ?_
        show Steps p.tables e below (T3.setTop (mkF m 20 #[.val (.long q1), .second, .val (.int p2)] [])) _
        refine XS.iconst X3.here hx rfl (hb hby d3_20) ?_
        show Steps p.tables e below (T3.setTop (mkF m 21 #[.val (.long q1), .second, .val (.int p2)] [(.int (1 : Int32))])) _
        exact retI X3 hx Bd.returns (hb hby d3_21) hr
      · show Q3 Z q1 p2 h0 n0 _ T3.heap _
        rw [e3]
        have hf : f3 q1 p2 = (1 : Int32) := by simp only [f3, if_neg h2, if_pos h4]
        exact ⟨by rw [hf], N3, rfl⟩
    · obtain ⟨_, _, ⟨T5, L5, k5, n5⟩, -, X5, ⟨Lc5, hQ5, l5, y5, z5⟩, st5⟩ := Jvm.LawKit.callS X3 hx (y := (⟨"com/example/apportion/apportion/WordsEqualPinLaw", "byteAt", "(JI)I"⟩ : MethodName)) hown (mvT hZ (hw _ (List.mem_of_getElem? (i := 14) rfl))) (mvT hZ (hw _ (List.mem_of_getElem? (i := 15) rfl))) (mvT hZ (hw _ (List.mem_of_getElem? (i := 12) rfl))) (mvT hZ (hw _ (List.mem_of_getElem? (i := 16) rfl))) (by decide) (backOf (W := 0) (rm4 l Z a0 hw [] q1 (2 : Int32) h0 n0 Z0) hZ (hw _ (List.mem_of_getElem? (i := 16) rfl)) (hw _ (List.mem_of_getElem? (i := 12) rfl)) (by decide) (by decide)) (g := (mkF m 24 #[.val (.long q1), .second, .val (.int p2)] [(.int (2 : Int32)), (.long q1)])) rfl (by rw [hml]; rfl) (argsL := [(.long q1), (.int (2 : Int32))]) (rest := []) (lenOf pd_1 rfl) rfl (by show 2 * 0 + _ ≤ _; exact Nat.le_of_eq rfl) (hb hby d3_24) (fun _ _ => ⟨rfl, e3, (by decide : 0 + 0 ≤ _), (by decide : 0 + 0 ≤ _)⟩)
      dsimp only [Pt.U, Pt.locs, Pt.cells, Pt.slots] at X5 l5 y5 z5 st5 hQ5
      subst l5 y5 z5
      obtain ⟨rfl, N5q, e5⟩ := hQ5
      have N5 := Fr.app N3 N5q
      refine own_step (B := T5.setTop (mkF m 28 #[.val (.long q1), .second, .val (.int p2)] [(.int p2), (.int (f4 q1 (2 : Int32)))])) (fun t k => ?_) ?_
      · show Steps p.tables e below (T3.setTop (mkF m 17 #[.val (.long q1), .second, .val (.int p2)] [(.int p2), (.int (f4 q1 (1 : Int32)))])) _
        refine XS.icmpYes X3.here hx rfl (pc0 := 17) (pc' := 22) rfl (hb hby d3_17) rfl (feq h4).2 (by decide) (by decide) ?_
        show Steps p.tables e below (T3.setTop (mkF m 22 #[.val (.long q1), .second, .val (.int p2)] [])) _
        refine XT.lloadN X3.here hx rfl (hb hby d3_22) rfl ?_
        show Steps p.tables e below (T3.setTop (mkF m 23 #[.val (.long q1), .second, .val (.int p2)] [(.long q1)])) _
        refine XS.iconst X3.here hx rfl (hb hby d3_23) ?_
        show Steps p.tables e below (T3.setTop (mkF m 24 #[.val (.long q1), .second, .val (.int p2)] [(.int (2 : Int32)), (.long q1)])) _
        refine st5 _ ?_
        show Steps p.tables e below (T5.setTop (mkF m 27 #[.val (.long q1), .second, .val (.int p2)] [(.int (f4 q1 (2 : Int32)))])) _
        refine XS.iloadN X5.here hx rfl (hb hby d3_27) rfl ?_
        exact k
      by_cases h6 : (f4 q1 (2 : Int32)) = p2
      · obtain ⟨fs, hr, hrun, hended, hW, hsame⟩ := X5.leave (v := some (.int (2 : Int32))) (fun h => by rw [Bd.returns] at h; cases h)
        refine ⟨_, _, ?_, hrun, hended, _, _, rfl, ?_, ⟨_, rfl⟩, hW, hsame.mono (by decide) (by decide)⟩
        · show Steps p.tables e below (T5.setTop (mkF m 28 #[.val (.long q1), .second, .val (.int p2)] [(.int p2), (.int (f4 q1 (2 : Int32)))])) _
          refine XS.icmpNo X5.here hx rfl (hb hby d3_28) rfl (teq h6).2 ?_
          show Steps p.tables e below (T5.setTop (mkF m 31 #[.val (.long q1), .second, .val (.int p2)] [])) _
          refine XS.iconst X5.here hx rfl (hb hby d3_31) ?_
          show Steps p.tables e below (T5.setTop (mkF m 32 #[.val (.long q1), .second, .val (.int p2)] [(.int (2 : Int32))])) _
          exact retI X5 hx Bd.returns (hb hby d3_32) hr
        · show Q3 Z q1 p2 h0 n0 _ T5.heap _
          rw [e5]
          have hf : f3 q1 p2 = (2 : Int32) := by simp only [f3, if_neg h2, if_neg h4, if_pos h6]
          exact ⟨by rw [hf], N5, rfl⟩
      · obtain ⟨_, _, ⟨T7, L7, k7, n7⟩, -, X7, ⟨Lc7, hQ7, l7, y7, z7⟩, st7⟩ := Jvm.LawKit.callS X5 hx (y := (⟨"com/example/apportion/apportion/WordsEqualPinLaw", "byteAt", "(JI)I"⟩ : MethodName)) hown (mvT hZ (hw _ (List.mem_of_getElem? (i := 14) rfl))) (mvT hZ (hw _ (List.mem_of_getElem? (i := 15) rfl))) (mvT hZ (hw _ (List.mem_of_getElem? (i := 12) rfl))) (mvT hZ (hw _ (List.mem_of_getElem? (i := 16) rfl))) (by decide) (backOf (W := 0) (rm4 l Z a0 hw [] q1 (3 : Int32) h0 n0 Z0) hZ (hw _ (List.mem_of_getElem? (i := 16) rfl)) (hw _ (List.mem_of_getElem? (i := 12) rfl)) (by decide) (by decide)) (g := (mkF m 35 #[.val (.long q1), .second, .val (.int p2)] [(.int (3 : Int32)), (.long q1)])) rfl (by rw [hml]; rfl) (argsL := [(.long q1), (.int (3 : Int32))]) (rest := []) (lenOf pd_1 rfl) rfl (by show 2 * 0 + _ ≤ _; exact Nat.le_of_eq rfl) (hb hby d3_35) (fun _ _ => ⟨rfl, e5, (by decide : 0 + 0 ≤ _), (by decide : 0 + 0 ≤ _)⟩)
        dsimp only [Pt.U, Pt.locs, Pt.cells, Pt.slots] at X7 l7 y7 z7 st7 hQ7
        subst l7 y7 z7
        obtain ⟨rfl, N7q, e7⟩ := hQ7
        have N7 := Fr.app N5 N7q
        refine own_step (B := T7.setTop (mkF m 39 #[.val (.long q1), .second, .val (.int p2)] [(.int p2), (.int (f4 q1 (3 : Int32)))])) (fun t k => ?_) ?_
        · show Steps p.tables e below (T5.setTop (mkF m 28 #[.val (.long q1), .second, .val (.int p2)] [(.int p2), (.int (f4 q1 (2 : Int32)))])) _
          refine XS.icmpYes X5.here hx rfl (pc0 := 28) (pc' := 33) rfl (hb hby d3_28) rfl (feq h6).2 (by decide) (by decide) ?_
          show Steps p.tables e below (T5.setTop (mkF m 33 #[.val (.long q1), .second, .val (.int p2)] [])) _
          refine XT.lloadN X5.here hx rfl (hb hby d3_33) rfl ?_
          show Steps p.tables e below (T5.setTop (mkF m 34 #[.val (.long q1), .second, .val (.int p2)] [(.long q1)])) _
          refine XS.iconst X5.here hx rfl (hb hby d3_34) ?_
          show Steps p.tables e below (T5.setTop (mkF m 35 #[.val (.long q1), .second, .val (.int p2)] [(.int (3 : Int32)), (.long q1)])) _
          refine st7 _ ?_
          show Steps p.tables e below (T7.setTop (mkF m 38 #[.val (.long q1), .second, .val (.int p2)] [(.int (f4 q1 (3 : Int32)))])) _
          refine XS.iloadN X7.here hx rfl (hb hby d3_38) rfl ?_
          exact k
        by_cases h8 : (f4 q1 (3 : Int32)) = p2
        · obtain ⟨fs, hr, hrun, hended, hW, hsame⟩ := X7.leave (v := some (.int (3 : Int32))) (fun h => by rw [Bd.returns] at h; cases h)
          refine ⟨_, _, ?_, hrun, hended, _, _, rfl, ?_, ⟨_, rfl⟩, hW, hsame.mono (by decide) (by decide)⟩
          · show Steps p.tables e below (T7.setTop (mkF m 39 #[.val (.long q1), .second, .val (.int p2)] [(.int p2), (.int (f4 q1 (3 : Int32)))])) _
            refine XS.icmpNo X7.here hx rfl (hb hby d3_39) rfl (teq h8).2 ?_
            show Steps p.tables e below (T7.setTop (mkF m 42 #[.val (.long q1), .second, .val (.int p2)] [])) _
            refine XS.iconst X7.here hx rfl (hb hby d3_42) ?_
            show Steps p.tables e below (T7.setTop (mkF m 43 #[.val (.long q1), .second, .val (.int p2)] [(.int (3 : Int32))])) _
            exact retI X7 hx Bd.returns (hb hby d3_43) hr
          · show Q3 Z q1 p2 h0 n0 _ T7.heap _
            rw [e7]
            have hf : f3 q1 p2 = (3 : Int32) := by simp only [f3, if_neg h2, if_neg h4, if_neg h6, if_pos h8]
            exact ⟨by rw [hf], N7, rfl⟩
        · obtain ⟨_, _, ⟨T9, L9, k9, n9⟩, -, X9, ⟨Lc9, hQ9, l9, y9, z9⟩, st9⟩ := Jvm.LawKit.callS X7 hx (y := (⟨"com/example/apportion/apportion/WordsEqualPinLaw", "byteAt", "(JI)I"⟩ : MethodName)) hown (mvT hZ (hw _ (List.mem_of_getElem? (i := 14) rfl))) (mvT hZ (hw _ (List.mem_of_getElem? (i := 15) rfl))) (mvT hZ (hw _ (List.mem_of_getElem? (i := 12) rfl))) (mvT hZ (hw _ (List.mem_of_getElem? (i := 16) rfl))) (by decide) (backOf (W := 0) (rm4 l Z a0 hw [] q1 (4 : Int32) h0 n0 Z0) hZ (hw _ (List.mem_of_getElem? (i := 16) rfl)) (hw _ (List.mem_of_getElem? (i := 12) rfl)) (by decide) (by decide)) (g := (mkF m 46 #[.val (.long q1), .second, .val (.int p2)] [(.int (4 : Int32)), (.long q1)])) rfl (by rw [hml]; rfl) (argsL := [(.long q1), (.int (4 : Int32))]) (rest := []) (lenOf pd_1 rfl) rfl (by show 2 * 0 + _ ≤ _; exact Nat.le_of_eq rfl) (hb hby d3_46) (fun _ _ => ⟨rfl, e7, (by decide : 0 + 0 ≤ _), (by decide : 0 + 0 ≤ _)⟩)
          dsimp only [Pt.U, Pt.locs, Pt.cells, Pt.slots] at X9 l9 y9 z9 st9 hQ9
          subst l9 y9 z9
          obtain ⟨rfl, N9q, e9⟩ := hQ9
          have N9 := Fr.app N7 N9q
          refine own_step (B := T9.setTop (mkF m 50 #[.val (.long q1), .second, .val (.int p2)] [(.int p2), (.int (f4 q1 (4 : Int32)))])) (fun t k => ?_) ?_
          · show Steps p.tables e below (T7.setTop (mkF m 39 #[.val (.long q1), .second, .val (.int p2)] [(.int p2), (.int (f4 q1 (3 : Int32)))])) _
            refine XS.icmpYes X7.here hx rfl (pc0 := 39) (pc' := 44) rfl (hb hby d3_39) rfl (feq h8).2 (by decide) (by decide) ?_
            show Steps p.tables e below (T7.setTop (mkF m 44 #[.val (.long q1), .second, .val (.int p2)] [])) _
            refine XT.lloadN X7.here hx rfl (hb hby d3_44) rfl ?_
            show Steps p.tables e below (T7.setTop (mkF m 45 #[.val (.long q1), .second, .val (.int p2)] [(.long q1)])) _
            refine XS.iconst X7.here hx rfl (hb hby d3_45) ?_
            show Steps p.tables e below (T7.setTop (mkF m 46 #[.val (.long q1), .second, .val (.int p2)] [(.int (4 : Int32)), (.long q1)])) _
            refine st9 _ ?_
            show Steps p.tables e below (T9.setTop (mkF m 49 #[.val (.long q1), .second, .val (.int p2)] [(.int (f4 q1 (4 : Int32)))])) _
            refine XS.iloadN X9.here hx rfl (hb hby d3_49) rfl ?_
            exact k
          by_cases h10 : (f4 q1 (4 : Int32)) = p2
          · obtain ⟨fs, hr, hrun, hended, hW, hsame⟩ := X9.leave (v := some (.int (4 : Int32))) (fun h => by rw [Bd.returns] at h; cases h)
            refine ⟨_, _, ?_, hrun, hended, _, _, rfl, ?_, ⟨_, rfl⟩, hW, hsame.mono (by decide) (by decide)⟩
            · show Steps p.tables e below (T9.setTop (mkF m 50 #[.val (.long q1), .second, .val (.int p2)] [(.int p2), (.int (f4 q1 (4 : Int32)))])) _
              refine XS.icmpNo X9.here hx rfl (hb hby d3_50) rfl (teq h10).2 ?_
              show Steps p.tables e below (T9.setTop (mkF m 53 #[.val (.long q1), .second, .val (.int p2)] [])) _
              refine XS.iconst X9.here hx rfl (hb hby d3_53) ?_
              show Steps p.tables e below (T9.setTop (mkF m 54 #[.val (.long q1), .second, .val (.int p2)] [(.int (4 : Int32))])) _
              exact retI X9 hx Bd.returns (hb hby d3_54) hr
            · show Q3 Z q1 p2 h0 n0 _ T9.heap _
              rw [e9]
              have hf : f3 q1 p2 = (4 : Int32) := by simp only [f3, if_neg h2, if_neg h4, if_neg h6, if_neg h8, if_pos h10]
              exact ⟨by rw [hf], N9, rfl⟩
          · obtain ⟨_, _, ⟨T11, L11, k11, n11⟩, -, X11, ⟨Lc11, hQ11, l11, y11, z11⟩, st11⟩ := Jvm.LawKit.callS X9 hx (y := (⟨"com/example/apportion/apportion/WordsEqualPinLaw", "byteAt", "(JI)I"⟩ : MethodName)) hown (mvT hZ (hw _ (List.mem_of_getElem? (i := 14) rfl))) (mvT hZ (hw _ (List.mem_of_getElem? (i := 15) rfl))) (mvT hZ (hw _ (List.mem_of_getElem? (i := 12) rfl))) (mvT hZ (hw _ (List.mem_of_getElem? (i := 16) rfl))) (by decide) (backOf (W := 0) (rm4 l Z a0 hw [] q1 (5 : Int32) h0 n0 Z0) hZ (hw _ (List.mem_of_getElem? (i := 16) rfl)) (hw _ (List.mem_of_getElem? (i := 12) rfl)) (by decide) (by decide)) (g := (mkF m 57 #[.val (.long q1), .second, .val (.int p2)] [(.int (5 : Int32)), (.long q1)])) rfl (by rw [hml]; rfl) (argsL := [(.long q1), (.int (5 : Int32))]) (rest := []) (lenOf pd_1 rfl) rfl (by show 2 * 0 + _ ≤ _; exact Nat.le_of_eq rfl) (hb hby d3_57) (fun _ _ => ⟨rfl, e9, (by decide : 0 + 0 ≤ _), (by decide : 0 + 0 ≤ _)⟩)
            dsimp only [Pt.U, Pt.locs, Pt.cells, Pt.slots] at X11 l11 y11 z11 st11 hQ11
            subst l11 y11 z11
            obtain ⟨rfl, N11q, e11⟩ := hQ11
            have N11 := Fr.app N9 N11q
            refine own_step (B := T11.setTop (mkF m 61 #[.val (.long q1), .second, .val (.int p2)] [(.int p2), (.int (f4 q1 (5 : Int32)))])) (fun t k => ?_) ?_
            · show Steps p.tables e below (T9.setTop (mkF m 50 #[.val (.long q1), .second, .val (.int p2)] [(.int p2), (.int (f4 q1 (4 : Int32)))])) _
              refine XS.icmpYes X9.here hx rfl (pc0 := 50) (pc' := 55) rfl (hb hby d3_50) rfl (feq h10).2 (by decide) (by decide) ?_
              show Steps p.tables e below (T9.setTop (mkF m 55 #[.val (.long q1), .second, .val (.int p2)] [])) _
              refine XT.lloadN X9.here hx rfl (hb hby d3_55) rfl ?_
              show Steps p.tables e below (T9.setTop (mkF m 56 #[.val (.long q1), .second, .val (.int p2)] [(.long q1)])) _
              refine XS.iconst X9.here hx rfl (hb hby d3_56) ?_
              show Steps p.tables e below (T9.setTop (mkF m 57 #[.val (.long q1), .second, .val (.int p2)] [(.int (5 : Int32)), (.long q1)])) _
              refine st11 _ ?_
              show Steps p.tables e below (T11.setTop (mkF m 60 #[.val (.long q1), .second, .val (.int p2)] [(.int (f4 q1 (5 : Int32)))])) _
              refine XS.iloadN X11.here hx rfl (hb hby d3_60) rfl ?_
              exact k
            by_cases h12 : (f4 q1 (5 : Int32)) = p2
            · obtain ⟨fs, hr, hrun, hended, hW, hsame⟩ := X11.leave (v := some (.int (5 : Int32))) (fun h => by rw [Bd.returns] at h; cases h)
              refine ⟨_, _, ?_, hrun, hended, _, _, rfl, ?_, ⟨_, rfl⟩, hW, hsame.mono (by decide) (by decide)⟩
              · show Steps p.tables e below (T11.setTop (mkF m 61 #[.val (.long q1), .second, .val (.int p2)] [(.int p2), (.int (f4 q1 (5 : Int32)))])) _
                refine XS.icmpNo X11.here hx rfl (hb hby d3_61) rfl (teq h12).2 ?_
                show Steps p.tables e below (T11.setTop (mkF m 64 #[.val (.long q1), .second, .val (.int p2)] [])) _
                refine XS.iconst X11.here hx rfl (hb hby d3_64) ?_
                show Steps p.tables e below (T11.setTop (mkF m 65 #[.val (.long q1), .second, .val (.int p2)] [(.int (5 : Int32))])) _
                exact retI X11 hx Bd.returns (hb hby d3_65) hr
              · show Q3 Z q1 p2 h0 n0 _ T11.heap _
                rw [e11]
                have hf : f3 q1 p2 = (5 : Int32) := by simp only [f3, if_neg h2, if_neg h4, if_neg h6, if_neg h8, if_neg h10, if_pos h12]
                exact ⟨by rw [hf], N11, rfl⟩
            · obtain ⟨_, _, ⟨T13, L13, k13, n13⟩, -, X13, ⟨Lc13, hQ13, l13, y13, z13⟩, st13⟩ := Jvm.LawKit.callS X11 hx (y := (⟨"com/example/apportion/apportion/WordsEqualPinLaw", "byteAt", "(JI)I"⟩ : MethodName)) hown (mvT hZ (hw _ (List.mem_of_getElem? (i := 14) rfl))) (mvT hZ (hw _ (List.mem_of_getElem? (i := 15) rfl))) (mvT hZ (hw _ (List.mem_of_getElem? (i := 12) rfl))) (mvT hZ (hw _ (List.mem_of_getElem? (i := 16) rfl))) (by decide) (backOf (W := 0) (rm4 l Z a0 hw [] q1 (6 : Int32) h0 n0 Z0) hZ (hw _ (List.mem_of_getElem? (i := 16) rfl)) (hw _ (List.mem_of_getElem? (i := 12) rfl)) (by decide) (by decide)) (g := (mkF m 69 #[.val (.long q1), .second, .val (.int p2)] [(.int (6 : Int32)), (.long q1)])) rfl (by rw [hml]; rfl) (argsL := [(.long q1), (.int (6 : Int32))]) (rest := []) (lenOf pd_1 rfl) rfl (by show 2 * 0 + _ ≤ _; exact Nat.le_of_eq rfl) (hb hby d3_69) (fun _ _ => ⟨rfl, e11, (by decide : 0 + 0 ≤ _), (by decide : 0 + 0 ≤ _)⟩)
              dsimp only [Pt.U, Pt.locs, Pt.cells, Pt.slots] at X13 l13 y13 z13 st13 hQ13
              subst l13 y13 z13
              obtain ⟨rfl, N13q, e13⟩ := hQ13
              have N13 := Fr.app N11 N13q
              refine own_step (B := T13.setTop (mkF m 73 #[.val (.long q1), .second, .val (.int p2)] [(.int p2), (.int (f4 q1 (6 : Int32)))])) (fun t k => ?_) ?_
              · show Steps p.tables e below (T11.setTop (mkF m 61 #[.val (.long q1), .second, .val (.int p2)] [(.int p2), (.int (f4 q1 (5 : Int32)))])) _
                refine XS.icmpYes X11.here hx rfl (pc0 := 61) (pc' := 66) rfl (hb hby d3_61) rfl (feq h12).2 (by decide) (by decide) ?_
                show Steps p.tables e below (T11.setTop (mkF m 66 #[.val (.long q1), .second, .val (.int p2)] [])) _
                refine XT.lloadN X11.here hx rfl (hb hby d3_66) rfl ?_
                show Steps p.tables e below (T11.setTop (mkF m 67 #[.val (.long q1), .second, .val (.int p2)] [(.long q1)])) _
                refine XS.bipush X11.here hx rfl (hb hby d3_67) ?_
                show Steps p.tables e below (T11.setTop (mkF m 69 #[.val (.long q1), .second, .val (.int p2)] [(.int (6 : Int32)), (.long q1)])) _
                refine st13 _ ?_
                show Steps p.tables e below (T13.setTop (mkF m 72 #[.val (.long q1), .second, .val (.int p2)] [(.int (f4 q1 (6 : Int32)))])) _
                refine XS.iloadN X13.here hx rfl (hb hby d3_72) rfl ?_
                exact k
              by_cases h14 : (f4 q1 (6 : Int32)) = p2
              · obtain ⟨fs, hr, hrun, hended, hW, hsame⟩ := X13.leave (v := some (.int (6 : Int32))) (fun h => by rw [Bd.returns] at h; cases h)
                refine ⟨_, _, ?_, hrun, hended, _, _, rfl, ?_, ⟨_, rfl⟩, hW, hsame.mono (by decide) (by decide)⟩
                · show Steps p.tables e below (T13.setTop (mkF m 73 #[.val (.long q1), .second, .val (.int p2)] [(.int p2), (.int (f4 q1 (6 : Int32)))])) _
                  refine XS.icmpNo X13.here hx rfl (hb hby d3_73) rfl (teq h14).2 ?_
                  show Steps p.tables e below (T13.setTop (mkF m 76 #[.val (.long q1), .second, .val (.int p2)] [])) _
                  refine XS.bipush X13.here hx rfl (hb hby d3_76) ?_
                  show Steps p.tables e below (T13.setTop (mkF m 78 #[.val (.long q1), .second, .val (.int p2)] [(.int (6 : Int32))])) _
                  exact retI X13 hx Bd.returns (hb hby d3_78) hr
                · show Q3 Z q1 p2 h0 n0 _ T13.heap _
                  rw [e13]
                  have hf : f3 q1 p2 = (6 : Int32) := by simp only [f3, if_neg h2, if_neg h4, if_neg h6, if_neg h8, if_neg h10, if_neg h12, if_pos h14]
                  exact ⟨by rw [hf], N13, rfl⟩
              · obtain ⟨_, _, ⟨T15, L15, k15, n15⟩, -, X15, ⟨Lc15, hQ15, l15, y15, z15⟩, st15⟩ := Jvm.LawKit.callS X13 hx (y := (⟨"com/example/apportion/apportion/WordsEqualPinLaw", "byteAt", "(JI)I"⟩ : MethodName)) hown (mvT hZ (hw _ (List.mem_of_getElem? (i := 14) rfl))) (mvT hZ (hw _ (List.mem_of_getElem? (i := 15) rfl))) (mvT hZ (hw _ (List.mem_of_getElem? (i := 12) rfl))) (mvT hZ (hw _ (List.mem_of_getElem? (i := 16) rfl))) (by decide) (backOf (W := 0) (rm4 l Z a0 hw [] q1 (7 : Int32) h0 n0 Z0) hZ (hw _ (List.mem_of_getElem? (i := 16) rfl)) (hw _ (List.mem_of_getElem? (i := 12) rfl)) (by decide) (by decide)) (g := (mkF m 82 #[.val (.long q1), .second, .val (.int p2)] [(.int (7 : Int32)), (.long q1)])) rfl (by rw [hml]; rfl) (argsL := [(.long q1), (.int (7 : Int32))]) (rest := []) (lenOf pd_1 rfl) rfl (by show 2 * 0 + _ ≤ _; exact Nat.le_of_eq rfl) (hb hby d3_82) (fun _ _ => ⟨rfl, e13, (by decide : 0 + 0 ≤ _), (by decide : 0 + 0 ≤ _)⟩)
                dsimp only [Pt.U, Pt.locs, Pt.cells, Pt.slots] at X15 l15 y15 z15 st15 hQ15
                subst l15 y15 z15
                obtain ⟨rfl, N15q, e15⟩ := hQ15
                have N15 := Fr.app N13 N15q
                refine own_step (B := T15.setTop (mkF m 86 #[.val (.long q1), .second, .val (.int p2)] [(.int p2), (.int (f4 q1 (7 : Int32)))])) (fun t k => ?_) ?_
                · show Steps p.tables e below (T13.setTop (mkF m 73 #[.val (.long q1), .second, .val (.int p2)] [(.int p2), (.int (f4 q1 (6 : Int32)))])) _
                  refine XS.icmpYes X13.here hx rfl (pc0 := 73) (pc' := 79) rfl (hb hby d3_73) rfl (feq h14).2 (by decide) (by decide) ?_
                  show Steps p.tables e below (T13.setTop (mkF m 79 #[.val (.long q1), .second, .val (.int p2)] [])) _
                  refine XT.lloadN X13.here hx rfl (hb hby d3_79) rfl ?_
                  show Steps p.tables e below (T13.setTop (mkF m 80 #[.val (.long q1), .second, .val (.int p2)] [(.long q1)])) _
                  refine XS.bipush X13.here hx rfl (hb hby d3_80) ?_
                  show Steps p.tables e below (T13.setTop (mkF m 82 #[.val (.long q1), .second, .val (.int p2)] [(.int (7 : Int32)), (.long q1)])) _
                  refine st15 _ ?_
                  show Steps p.tables e below (T15.setTop (mkF m 85 #[.val (.long q1), .second, .val (.int p2)] [(.int (f4 q1 (7 : Int32)))])) _
                  refine XS.iloadN X15.here hx rfl (hb hby d3_85) rfl ?_
                  exact k
                by_cases h16 : (f4 q1 (7 : Int32)) = p2
                · obtain ⟨fs, hr, hrun, hended, hW, hsame⟩ := X15.leave (v := some (.int (7 : Int32))) (fun h => by rw [Bd.returns] at h; cases h)
                  refine ⟨_, _, ?_, hrun, hended, _, _, rfl, ?_, ⟨_, rfl⟩, hW, hsame.mono (by decide) (by decide)⟩
                  · show Steps p.tables e below (T15.setTop (mkF m 86 #[.val (.long q1), .second, .val (.int p2)] [(.int p2), (.int (f4 q1 (7 : Int32)))])) _
                    refine XS.icmpNo X15.here hx rfl (hb hby d3_86) rfl (teq h16).2 ?_
                    show Steps p.tables e below (T15.setTop (mkF m 89 #[.val (.long q1), .second, .val (.int p2)] [])) _
                    refine XS.bipush X15.here hx rfl (hb hby d3_89) ?_
                    show Steps p.tables e below (T15.setTop (mkF m 91 #[.val (.long q1), .second, .val (.int p2)] [(.int (7 : Int32))])) _
                    exact retI X15 hx Bd.returns (hb hby d3_91) hr
                  · show Q3 Z q1 p2 h0 n0 _ T15.heap _
                    rw [e15]
                    have hf : f3 q1 p2 = (7 : Int32) := by simp only [f3, if_neg h2, if_neg h4, if_neg h6, if_neg h8, if_neg h10, if_neg h12, if_neg h14, if_pos h16]
                    exact ⟨by rw [hf], N15, rfl⟩
                · obtain ⟨fs, hr, hrun, hended, hW, hsame⟩ := X15.leave (v := some (.int (8 : Int32))) (fun h => by rw [Bd.returns] at h; cases h)
                  refine ⟨_, _, ?_, hrun, hended, _, _, rfl, ?_, ⟨_, rfl⟩, hW, hsame.mono (by decide) (by decide)⟩
                  · show Steps p.tables e below (T15.setTop (mkF m 86 #[.val (.long q1), .second, .val (.int p2)] [(.int p2), (.int (f4 q1 (7 : Int32)))])) _
                    refine XS.icmpYes X15.here hx rfl (pc0 := 86) (pc' := 92) rfl (hb hby d3_86) rfl (feq h16).2 (by decide) (by decide) ?_
                    show Steps p.tables e below (T15.setTop (mkF m 92 #[.val (.long q1), .second, .val (.int p2)] [])) _
                    refine XS.bipush X15.here hx rfl (hb hby d3_92) ?_
                    show Steps p.tables e below (T15.setTop (mkF m 94 #[.val (.long q1), .second, .val (.int p2)] [(.int (8 : Int32))])) _
                    exact retI X15 hx Bd.returns (hb hby d3_94) hr
                  · show Q3 Z q1 p2 h0 n0 _ T15.heap _
                    rw [e15]
                    have hf : f3 q1 p2 = (8 : Int32) := by simp only [f3, if_neg h2, if_neg h4, if_neg h6, if_neg h8, if_neg h10, if_neg h12, if_neg h14, if_neg h16]
                    exact ⟨by rw [hf], N15, rfl⟩
theorem d5_0 : decode method_3_code 0 = .ok (.bipush 8, 2) := by decide +kernel
theorem d5_2 : decode method_3_code 2 = .ok (.iload_n 2, 1) := by decide +kernel
theorem d5_3 : decode method_3_code 3 = .ok (.imul, 1) := by decide +kernel
theorem d5_4 : decode method_3_code 4 = .ok (.istore 4, 2) := by decide +kernel
theorem d5_6 : decode method_3_code 6 = .ok (.lload_n 0, 1) := by decide +kernel
theorem d5_7 : decode method_3_code 7 = .ok (.ldc2_w 23, 3) := by decide +kernel
theorem d5_10 : decode method_3_code 10 = .ok (.iload 4, 2) := by decide +kernel
theorem d5_12 : decode method_3_code 12 = .ok (.lshl, 1) := by decide +kernel
theorem d5_13 : decode method_3_code 13 = .ok (.ldc2_w 25, 3) := by decide +kernel
theorem d5_16 : decode method_3_code 16 = .ok (.lxor, 1) := by decide +kernel
theorem d5_17 : decode method_3_code 17 = .ok (.land, 1) := by decide +kernel
theorem d5_18 : decode method_3_code 18 = .ok (.iload_n 3, 1) := by decide +kernel
theorem d5_19 : decode method_3_code 19 = .ok (.i2l, 1) := by decide +kernel
theorem d5_20 : decode method_3_code 20 = .ok (.iload 4, 2) := by decide +kernel
theorem d5_22 : decode method_3_code 22 = .ok (.lshl, 1) := by decide +kernel
theorem d5_23 : decode method_3_code 23 = .ok (.lor, 1) := by decide +kernel
theorem d5_24 : decode method_3_code 24 = .ok (.lreturn, 1) := by decide +kernel
theorem pn_5 : plainName "com/example/apportion/apportion/WordsEqualPinLaw" = true := by first | (simp [plainName, overriddenIn]; done) | decide +kernel
theorem ef_5 (m : MethodId) (q1 : Int64) (p2 : Int32) (p3 : Int32) : entryFrame m #[(.long q1), (.int p2), (.int p3)] 5 = mkF m 0 #[.val (.long q1), .second, .val (.int p2), .val (.int p3), .unset] [] := by first | (simp [entryFrame, mkF, argsToLocals, Value.category]; done) | rfl
def Q5 (Z : State) (q1 : Int64) (p2 : Int32) (p3 : Int32) (h0 : Heap) (n0 : Nat) (v : Option Value) (h : Heap) (L : List Loc) : Prop := v = some (.long (f5 q1 p2 p3)) ∧ Fr n0 L ∧ h = h0
set_option maxRecDepth 65536 in
set_option maxHeartbeats 40000000 in
theorem rm5 (l : Launch) (Z : State) (a0 : Array Value) (hw : ∀ d ∈ tables_1, d.before a0 Z = true) (ws : List Jvm.Cond) (q1 : Int64) (p2 : Int32) (p3 : Int32) (h0 : Heap) (n0 : Nat) (Z0 : n0 ≤ h0.size) :
    MetFree l (⟨"com/example/apportion/apportion/WordsEqualPinLaw", "put", "(JII)J"⟩ : MethodName) (head1 (Jvm.Cond.code (⟨"com/example/apportion/apportion/WordsEqualPinLaw", "put", "(JII)J"⟩ : MethodName) method_3_code 5 (some .long) :: ws) ({ frames := 0, cells := 0, slots := 0, locals := 0 } : Room)) (fun a U => a = #[(.long q1), (.int p2), (.int p3)] ∧ Z.Warmed39 U.vm ∧ U.heap = h0) (fun _ _ _ _ _ => True) (fun _ U o U' => ∃ v L, o = .returned v ∧ Q5 Z q1 p2 p3 h0 n0 v U'.heap L ∧ FrameEnd U o U' L ({ frames := 0, cells := 0, slots := 0, locals := 0 } : Room).cells ({ frames := 0, cells := 0, slots := 0, locals := 0 } : Room).slots) := by
  refine MetFree.of_bodySF (plainFor_of_name pn_5) hisR ?_
  intro p e s m args below meth c s₁ Bd hml0 hP hK
  obtain ⟨rfl, hZ, hh⟩ := hP
  have hx := Bd.exec
  have hby := Bd.bytes
  have hml : c.maxLocals = 5 := hml0
  have hown : s.vm.findClass "com/example/apportion/apportion/WordsEqualPinLaw" = some m.cls := findClass_of_methodNamed Bd.named
  have hnm := (name_of_methodNamed Bd.named Bd.method).1
  have X0 : Stand p l e ({ frames := 0, cells := 0, slots := 0, locals := 0 } : Room) s m #[(.long q1), (.int p2), (.int p3)] below meth c s₁ [] 0 0 := Stand.of_body Bd
  have e0 : s₁.heap = h0 := by rw [← hh, Bd.state]; rfl
  have N0 := Fr.nil n0
  have pre0 : ∀ t, Steps p.tables e below (s₁.setTop (mkF m 0 #[.val (.long q1), .second, .val (.int p2), .val (.int p3), .unset] [])) t → Steps p.tables e below (s₁.setTop (entryFrame m #[(.long q1), (.int p2), (.int p3)] 5)) t := fun t k => castTop (ef_5 m q1 p2 p3) k
  refine own_step (Q := fun o U' => ∃ v L, o = .returned v ∧ Q5 Z q1 p2 p3 h0 n0 v U'.heap L ∧ FrameEnd s o U' L ({ frames := 0, cells := 0, slots := 0, locals := 0 } : Room).cells ({ frames := 0, cells := 0, slots := 0, locals := 0 } : Room).slots) pre0 ?_
  obtain ⟨fs, hr, hrun, hended, hW, hsame⟩ := X0.leave (v := some (.long (f5_1 q1 p2 p3))) (fun h => by rw [Bd.returns] at h; cases h)
  refine ⟨_, _, ?_, hrun, hended, _, _, rfl, ?_, ⟨_, rfl⟩, hW, hsame.mono (by decide) (by decide)⟩
  · show Steps p.tables e below (s₁.setTop (mkF m 0 #[.val (.long q1), .second, .val (.int p2), .val (.int p3), .unset] [])) _
    refine XS.bipush X0.here hx rfl (hb hby d5_0) ?_
    show Steps p.tables e below (s₁.setTop (mkF m 2 #[.val (.long q1), .second, .val (.int p2), .val (.int p3), .unset] [(.int (8 : Int32))])) _
    refine XS.iloadN X0.here hx rfl (hb hby d5_2) rfl ?_
    show Steps p.tables e below (s₁.setTop (mkF m 3 #[.val (.long q1), .second, .val (.int p2), .val (.int p3), .unset] [(.int p2), (.int (8 : Int32))])) _
    refine XS.imul X0.here hx rfl (hb hby d5_3) rfl ?_
    show Steps p.tables e below (s₁.setTop (mkF m 4 #[.val (.long q1), .second, .val (.int p2), .val (.int p3), .unset] [(.int ((8 : Int32) * p2))])) _
    refine XS.istore X0.here hx rfl (hb hby d5_4) rfl (l' := #[.val (.long q1), .second, .val (.int p2), .val (.int p3), .val (.int ((8 : Int32) * p2))]) rfl ?_
    show Steps p.tables e below (s₁.setTop (mkF m 6 #[.val (.long q1), .second, .val (.int p2), .val (.int p3), .val (.int ((8 : Int32) * p2))] [])) _
    refine XT.lloadN X0.here hx rfl (hb hby d5_6) rfl ?_
    show Steps p.tables e below (s₁.setTop (mkF m 7 #[.val (.long q1), .second, .val (.int p2), .val (.int p3), .val (.int ((8 : Int32) * p2))] [(.long q1)])) _
    refine X0.ldc2Long hx hown (mvT hZ (hw _ (List.mem_of_getElem? (i := 17) rfl))) (g := (mkF m 7 #[.val (.long q1), .second, .val (.int p2), .val (.int p3), .val (.int ((8 : Int32) * p2))] [(.long q1)])) rfl (hb hby d5_7) _ ?_
    show Steps p.tables e below (s₁.setTop (mkF m 10 #[.val (.long q1), .second, .val (.int p2), .val (.int p3), .val (.int ((8 : Int32) * p2))] [(.long (255 : Int64)), (.long q1)])) _
    refine XS.iload X0.here hx rfl (hb hby d5_10) rfl ?_
    show Steps p.tables e below (s₁.setTop (mkF m 12 #[.val (.long q1), .second, .val (.int p2), .val (.int p3), .val (.int ((8 : Int32) * p2))] [(.int ((8 : Int32) * p2)), (.long (255 : Int64)), (.long q1)])) _
    refine XT.lshl X0.here hx rfl (hb hby d5_12) rfl ?_
    show Steps p.tables e below (s₁.setTop (mkF m 13 #[.val (.long q1), .second, .val (.int p2), .val (.int p3), .val (.int ((8 : Int32) * p2))] [(.long ((255 : Int64) <<< (((8 : Int32) * p2).toInt64 &&& 63))), (.long q1)])) _
    refine X0.ldc2Long hx hown (mvT hZ (hw _ (List.mem_of_getElem? (i := 21) rfl))) (g := (mkF m 13 #[.val (.long q1), .second, .val (.int p2), .val (.int p3), .val (.int ((8 : Int32) * p2))] [(.long ((255 : Int64) <<< (((8 : Int32) * p2).toInt64 &&& 63))), (.long q1)])) rfl (hb hby d5_13) _ ?_
    show Steps p.tables e below (s₁.setTop (mkF m 16 #[.val (.long q1), .second, .val (.int p2), .val (.int p3), .val (.int ((8 : Int32) * p2))] [(.long (-1 : Int64)), (.long ((255 : Int64) <<< (((8 : Int32) * p2).toInt64 &&& 63))), (.long q1)])) _
    refine XT.lxor X0.here hx rfl (hb hby d5_16) rfl ?_
    show Steps p.tables e below (s₁.setTop (mkF m 17 #[.val (.long q1), .second, .val (.int p2), .val (.int p3), .val (.int ((8 : Int32) * p2))] [(.long (f5_0 q1 p2 p3)), (.long q1)])) _
    refine XT.land X0.here hx rfl (hb hby d5_17) rfl ?_
    show Steps p.tables e below (s₁.setTop (mkF m 18 #[.val (.long q1), .second, .val (.int p2), .val (.int p3), .val (.int ((8 : Int32) * p2))] [(.long (q1 &&& (f5_0 q1 p2 p3)))])) _
    refine XS.iloadN X0.here hx rfl (hb hby d5_18) rfl ?_
    show Steps p.tables e below (s₁.setTop (mkF m 19 #[.val (.long q1), .second, .val (.int p2), .val (.int p3), .val (.int ((8 : Int32) * p2))] [(.int p3), (.long (q1 &&& (f5_0 q1 p2 p3)))])) _
    refine XT.i2l X0.here hx rfl (hb hby d5_19) rfl ?_
    show Steps p.tables e below (s₁.setTop (mkF m 20 #[.val (.long q1), .second, .val (.int p2), .val (.int p3), .val (.int ((8 : Int32) * p2))] [(.long p3.toInt64), (.long (q1 &&& (f5_0 q1 p2 p3)))])) _
    refine XS.iload X0.here hx rfl (hb hby d5_20) rfl ?_
    show Steps p.tables e below (s₁.setTop (mkF m 22 #[.val (.long q1), .second, .val (.int p2), .val (.int p3), .val (.int ((8 : Int32) * p2))] [(.int ((8 : Int32) * p2)), (.long p3.toInt64), (.long (q1 &&& (f5_0 q1 p2 p3)))])) _
    refine XT.lshl X0.here hx rfl (hb hby d5_22) rfl ?_
    show Steps p.tables e below (s₁.setTop (mkF m 23 #[.val (.long q1), .second, .val (.int p2), .val (.int p3), .val (.int ((8 : Int32) * p2))] [(.long (p3.toInt64 <<< (((8 : Int32) * p2).toInt64 &&& 63))), (.long (q1 &&& (f5_0 q1 p2 p3)))])) _
    refine XT.lor X0.here hx rfl (hb hby d5_23) rfl ?_
    show Steps p.tables e below (s₁.setTop (mkF m 24 #[.val (.long q1), .second, .val (.int p2), .val (.int p3), .val (.int ((8 : Int32) * p2))] [(.long (f5_1 q1 p2 p3))])) _
    jvm_step X0.here [X0.here.top, hx, (hb hby d5_24), X0.method', Bd.returns, narrow]
    first | (intro acts; rw [hr _ acts rfl rfl rfl]) | rw [hr _ _ rfl rfl rfl]
    exact Steps.refl _
  · show Q5 Z q1 p2 p3 h0 n0 _ s₁.heap _
    rw [e0]
    have hf : f5 q1 p2 p3 = (f5_1 q1 p2 p3) := rfl
    exact ⟨by rw [hf], N0, rfl⟩
theorem pn_0 : plainName "com/example/apportion/apportion/WordsEqualPinLaw" = true := by first | (simp [plainName, overriddenIn]; done) | decide +kernel
theorem ef_0 (m : MethodId) (q1 : Int64) (p2 : Int32) (p3 : Int32) (p4 : Int32) : entryFrame m #[(.long q1), (.int p2), (.int p3), (.int p4)] maxLocals = mkF m 0 #[.val (.long q1), .second, .val (.int p2), .val (.int p3), .val (.int p4), .unset, .unset, .unset, .unset, .unset, .unset, .unset, .unset] [] := by first | (simp [entryFrame, mkF, argsToLocals, Value.category, maxLocals]; done) | rfl
def Q0 (Z : State) (q1 : Int64) (p2 : Int32) (p3 : Int32) (p4 : Int32) (h0 : Heap) (n0 : Nat) (v : Option Value) (h : Heap) (L : List Loc) : Prop := v = some (.int (1 : Int32)) ∧ Fr n0 L
set_option maxRecDepth 65536 in
set_option maxHeartbeats 40000000 in
theorem rm0 (l : Launch) (Z : State) (a0 : Array Value) (hw : ∀ d ∈ tables_1, d.before a0 Z = true) (ws : List Jvm.Cond) (q1 : Int64) (p2 : Int32) (p3 : Int32) (p4 : Int32) (h0 : Heap) (n0 : Nat) (Z0 : n0 ≤ h0.size) :
    MetFree l x (head1 (Jvm.Cond.code x code maxLocals ret :: ws) room_1) (fun a U => a = #[(.long q1), (.int p2), (.int p3), (.int p4)] ∧ Z.Warmed39 U.vm ∧ U.heap = h0) (fun _ _ _ _ _ => True) (fun _ U o U' => ∃ v L, o = .returned v ∧ Q0 Z q1 p2 p3 p4 h0 n0 v U'.heap L ∧ FrameEnd U o U' L room_1.cells room_1.slots) := by
  refine MetFree.of_bodySF (plainFor_of_name pn_0) hisR ?_
  intro p e s m args below meth c s₁ Bd hml0 hP hK
  obtain ⟨rfl, hZ, hh⟩ := hP
  have hx := Bd.exec
  have hby := Bd.bytes
  have hml : c.maxLocals = 13 := hml0
  have hown : s.vm.findClass "com/example/apportion/apportion/WordsEqualPinLaw" = some m.cls := findClass_of_methodNamed Bd.named
  have hnm := (name_of_methodNamed Bd.named Bd.method).1
  have X0 : Stand p l e room_1 s m #[(.long q1), (.int p2), (.int p3), (.int p4)] below meth c s₁ [] 0 0 := Stand.of_body Bd
  have e0 : s₁.heap = h0 := by rw [← hh, Bd.state]; rfl
  have N0 := Fr.nil n0
  have pre0 : ∀ t, Steps p.tables e below (s₁.setTop (mkF m 0 #[.val (.long q1), .second, .val (.int p2), .val (.int p3), .val (.int p4), .unset, .unset, .unset, .unset, .unset, .unset, .unset, .unset] [])) t → Steps p.tables e below (s₁.setTop (entryFrame m #[(.long q1), (.int p2), (.int p3), (.int p4)] maxLocals)) t := fun t k => castTop (ef_0 m q1 p2 p3 p4) k
  refine own_step (Q := fun o U' => ∃ v L, o = .returned v ∧ Q0 Z q1 p2 p3 p4 h0 n0 v U'.heap L ∧ FrameEnd s o U' L room_1.cells room_1.slots) pre0 ?_
  have K0 : Keep h0 h0 [] := Keep.refl h0 []
  obtain ⟨T3, lo3, X3, e3, N3, st3⟩ : ∃ (T' : State) (lo : List Loc) (_ : Stand p l e room_1 s m #[(.long q1), (.int p2), (.int p3), (.int p4)] below meth c T' lo 0 0), T'.heap = h0 ∧ Fr n0 lo ∧ ∀ t, Steps p.tables e below (T'.setTop (mkF m 35 #[.val (.long q1), .second, .val (.int p2), .val (.int p3), .val (.int p4), .val (.int (p2 &&& (255 : Int32))), .val (.long (f0_1 q1 p2 p3 p4)), .second, .unset, .unset, .unset, .unset, .unset] [])) t → Steps p.tables e below (s₁.setTop (mkF m 14 #[.val (.long q1), .second, .val (.int p2), .val (.int p3), .val (.int p4), .val (.int (p2 &&& (255 : Int32))), .val (.long q1), .second, .unset, .unset, .unset, .unset, .unset] [(.int (p4 &&& (4 : Int32)))])) t := by
    by_cases h1 : (p4 &&& (4 : Int32)) = (0 : Int32)
    · refine ⟨s₁, _, X0, e0, N0, fun t k => ?_⟩
      rw [show (f0_1 q1 p2 p3 p4) = q1 from if_pos h1] at k
      show Steps p.tables e below (s₁.setTop (mkF m 14 #[.val (.long q1), .second, .val (.int p2), .val (.int p3), .val (.int p4), .val (.int (p2 &&& (255 : Int32))), .val (.long q1), .second, .unset, .unset, .unset, .unset, .unset] [(.int (p4 &&& (4 : Int32)))])) _
      refine XS.ifYes X0.here hx rfl (pc0 := 14) (pc' := 35) rfl (hb hby at_14) rfl ((if0 _ _).trans (teq h1).1) (by decide) (by decide) ?_
      exact k
    · obtain ⟨_, _, ⟨T2, L2, k2, n2⟩, -, X2, ⟨Lc2, hQ2, l2, y2, z2⟩, st2⟩ := Jvm.LawKit.callS X0 hx (y := (⟨"com/example/apportion/apportion/WordsEqualPinLaw", "put", "(JII)J"⟩ : MethodName)) hown (mvT hZ (hw _ (List.mem_of_getElem? (i := 18) rfl))) (mvT hZ (hw _ (List.mem_of_getElem? (i := 19) rfl))) (mvT hZ (hw _ (List.mem_of_getElem? (i := 12) rfl))) (mvT hZ (hw _ (List.mem_of_getElem? (i := 20) rfl))) (by decide) (backOf (W := 0) (rm5 l Z a0 hw [] q1 ((XT.ushr p3 (6 : Int32)) &&& (7 : Int32)) ((p2 &&& (255 : Int32)) ^^^ (1 : Int32)) h0 n0 Z0) hZ (hw _ (List.mem_of_getElem? (i := 20) rfl)) (hw _ (List.mem_of_getElem? (i := 12) rfl)) (by decide) (by decide)) (g := (mkF m 30 #[.val (.long q1), .second, .val (.int p2), .val (.int p3), .val (.int p4), .val (.int (p2 &&& (255 : Int32))), .val (.long q1), .second, .unset, .unset, .unset, .unset, .unset] [(.int ((p2 &&& (255 : Int32)) ^^^ (1 : Int32))), (.int ((XT.ushr p3 (6 : Int32)) &&& (7 : Int32))), (.long q1)])) rfl (by rw [hml]; rfl) (argsL := [(.long q1), (.int ((XT.ushr p3 (6 : Int32)) &&& (7 : Int32))), (.int ((p2 &&& (255 : Int32)) ^^^ (1 : Int32)))]) (rest := []) (lenOf pd_2 rfl) rfl (by show 2 * 0 + _ ≤ _; exact Nat.le_of_eq rfl) (hb hby at_30) (fun _ _ => ⟨rfl, e0, (by decide : 0 + 0 ≤ _), (by decide : 0 + 0 ≤ _)⟩)
      dsimp only [Pt.U, Pt.locs, Pt.cells, Pt.slots] at X2 l2 y2 z2 st2 hQ2
      subst l2 y2 z2
      obtain ⟨rfl, N2q, e2⟩ := hQ2
      have N2 := Fr.app N0 N2q
      refine ⟨T2, _, X2, e2, N2, fun t k => ?_⟩
      rw [show (f0_1 q1 p2 p3 p4) = (f0_0 q1 p2 p3 p4) from if_neg h1] at k
      show Steps p.tables e below (s₁.setTop (mkF m 14 #[.val (.long q1), .second, .val (.int p2), .val (.int p3), .val (.int p4), .val (.int (p2 &&& (255 : Int32))), .val (.long q1), .second, .unset, .unset, .unset, .unset, .unset] [(.int (p4 &&& (4 : Int32)))])) _
      refine XS.ifNo X0.here hx rfl (hb hby at_14) rfl ((if0 _ _).trans (feq h1).1) ?_
      show Steps p.tables e below (s₁.setTop (mkF m 17 #[.val (.long q1), .second, .val (.int p2), .val (.int p3), .val (.int p4), .val (.int (p2 &&& (255 : Int32))), .val (.long q1), .second, .unset, .unset, .unset, .unset, .unset] [])) _
      refine XT.lload X0.here hx rfl (hb hby at_17) rfl ?_
      show Steps p.tables e below (s₁.setTop (mkF m 19 #[.val (.long q1), .second, .val (.int p2), .val (.int p3), .val (.int p4), .val (.int (p2 &&& (255 : Int32))), .val (.long q1), .second, .unset, .unset, .unset, .unset, .unset] [(.long q1)])) _
      refine XS.iloadN X0.here hx rfl (hb hby at_19) rfl ?_
      show Steps p.tables e below (s₁.setTop (mkF m 20 #[.val (.long q1), .second, .val (.int p2), .val (.int p3), .val (.int p4), .val (.int (p2 &&& (255 : Int32))), .val (.long q1), .second, .unset, .unset, .unset, .unset, .unset] [(.int p3), (.long q1)])) _
      refine XS.bipush X0.here hx rfl (hb hby at_20) ?_
      show Steps p.tables e below (s₁.setTop (mkF m 22 #[.val (.long q1), .second, .val (.int p2), .val (.int p3), .val (.int p4), .val (.int (p2 &&& (255 : Int32))), .val (.long q1), .second, .unset, .unset, .unset, .unset, .unset] [(.int (6 : Int32)), (.int p3), (.long q1)])) _
      refine XT.iushr X0.here hx rfl (hb hby at_22) rfl ?_
      show Steps p.tables e below (s₁.setTop (mkF m 23 #[.val (.long q1), .second, .val (.int p2), .val (.int p3), .val (.int p4), .val (.int (p2 &&& (255 : Int32))), .val (.long q1), .second, .unset, .unset, .unset, .unset, .unset] [(.int (XT.ushr p3 (6 : Int32))), (.long q1)])) _
      refine XS.bipush X0.here hx rfl (hb hby at_23) ?_
      show Steps p.tables e below (s₁.setTop (mkF m 25 #[.val (.long q1), .second, .val (.int p2), .val (.int p3), .val (.int p4), .val (.int (p2 &&& (255 : Int32))), .val (.long q1), .second, .unset, .unset, .unset, .unset, .unset] [(.int (7 : Int32)), (.int (XT.ushr p3 (6 : Int32))), (.long q1)])) _
      refine XS.iand X0.here hx rfl (hb hby at_25) rfl ?_
      show Steps p.tables e below (s₁.setTop (mkF m 26 #[.val (.long q1), .second, .val (.int p2), .val (.int p3), .val (.int p4), .val (.int (p2 &&& (255 : Int32))), .val (.long q1), .second, .unset, .unset, .unset, .unset, .unset] [(.int ((XT.ushr p3 (6 : Int32)) &&& (7 : Int32))), (.long q1)])) _
      refine XS.iload X0.here hx rfl (hb hby at_26) rfl ?_
      show Steps p.tables e below (s₁.setTop (mkF m 28 #[.val (.long q1), .second, .val (.int p2), .val (.int p3), .val (.int p4), .val (.int (p2 &&& (255 : Int32))), .val (.long q1), .second, .unset, .unset, .unset, .unset, .unset] [(.int (p2 &&& (255 : Int32))), (.int ((XT.ushr p3 (6 : Int32)) &&& (7 : Int32))), (.long q1)])) _
      refine XS.iconst X0.here hx rfl (hb hby at_28) ?_
      show Steps p.tables e below (s₁.setTop (mkF m 29 #[.val (.long q1), .second, .val (.int p2), .val (.int p3), .val (.int p4), .val (.int (p2 &&& (255 : Int32))), .val (.long q1), .second, .unset, .unset, .unset, .unset, .unset] [(.int (1 : Int32)), (.int (p2 &&& (255 : Int32))), (.int ((XT.ushr p3 (6 : Int32)) &&& (7 : Int32))), (.long q1)])) _
      refine XT.ixor X0.here hx rfl (hb hby at_29) rfl ?_
      show Steps p.tables e below (s₁.setTop (mkF m 30 #[.val (.long q1), .second, .val (.int p2), .val (.int p3), .val (.int p4), .val (.int (p2 &&& (255 : Int32))), .val (.long q1), .second, .unset, .unset, .unset, .unset, .unset] [(.int ((p2 &&& (255 : Int32)) ^^^ (1 : Int32))), (.int ((XT.ushr p3 (6 : Int32)) &&& (7 : Int32))), (.long q1)])) _
      refine st2 _ ?_
      show Steps p.tables e below (T2.setTop (mkF m 33 #[.val (.long q1), .second, .val (.int p2), .val (.int p3), .val (.int p4), .val (.int (p2 &&& (255 : Int32))), .val (.long q1), .second, .unset, .unset, .unset, .unset, .unset] [(.long (f0_0 q1 p2 p3 p4))])) _
      refine XT.lstore X2.here hx rfl (hb hby at_33) rfl (l' := #[.val (.long q1), .second, .val (.int p2), .val (.int p3), .val (.int p4), .val (.int (p2 &&& (255 : Int32))), .val (.long (f0_0 q1 p2 p3 p4)), .second, .unset, .unset, .unset, .unset, .unset]) rfl ?_
      exact k
  obtain ⟨T6, lo6, X6, e6, N6, st6⟩ : ∃ (T' : State) (lo : List Loc) (_ : Stand p l e room_1 s m #[(.long q1), (.int p2), (.int p3), (.int p4)] below meth c T' lo 0 0), T'.heap = h0 ∧ Fr n0 lo ∧ ∀ t, Steps p.tables e below (T'.setTop (mkF m 55 #[.val (.long q1), .second, .val (.int p2), .val (.int p3), .val (.int p4), .val (.int (p2 &&& (255 : Int32))), .val (.long (f0_3 q1 p2 p3 p4)), .second, .unset, .unset, .unset, .unset, .unset] [])) t → Steps p.tables e below (T3.setTop (mkF m 39 #[.val (.long q1), .second, .val (.int p2), .val (.int p3), .val (.int p4), .val (.int (p2 &&& (255 : Int32))), .val (.long (f0_1 q1 p2 p3 p4)), .second, .unset, .unset, .unset, .unset, .unset] [(.int (p4 &&& (1 : Int32)))])) t := by
    by_cases h4 : (p4 &&& (1 : Int32)) = (0 : Int32)
    · refine ⟨T3, _, X3, e3, N3, fun t k => ?_⟩
      rw [show (f0_3 q1 p2 p3 p4) = (f0_1 q1 p2 p3 p4) from if_pos h4] at k
      show Steps p.tables e below (T3.setTop (mkF m 39 #[.val (.long q1), .second, .val (.int p2), .val (.int p3), .val (.int p4), .val (.int (p2 &&& (255 : Int32))), .val (.long (f0_1 q1 p2 p3 p4)), .second, .unset, .unset, .unset, .unset, .unset] [(.int (p4 &&& (1 : Int32)))])) _
      refine XS.ifYes X3.here hx rfl (pc0 := 39) (pc' := 55) rfl (hb hby at_39) rfl ((if0 _ _).trans (teq h4).1) (by decide) (by decide) ?_
      exact k
    · obtain ⟨_, _, ⟨T5, L5, k5, n5⟩, -, X5, ⟨Lc5, hQ5, l5, y5, z5⟩, st5⟩ := Jvm.LawKit.callS X3 hx (y := (⟨"com/example/apportion/apportion/WordsEqualPinLaw", "put", "(JII)J"⟩ : MethodName)) hown (mvT hZ (hw _ (List.mem_of_getElem? (i := 18) rfl))) (mvT hZ (hw _ (List.mem_of_getElem? (i := 19) rfl))) (mvT hZ (hw _ (List.mem_of_getElem? (i := 12) rfl))) (mvT hZ (hw _ (List.mem_of_getElem? (i := 20) rfl))) (by decide) (backOf (W := 0) (rm5 l Z a0 hw [] (f0_1 q1 p2 p3 p4) (p3 &&& (7 : Int32)) (p2 &&& (255 : Int32)) h0 n0 Z0) hZ (hw _ (List.mem_of_getElem? (i := 20) rfl)) (hw _ (List.mem_of_getElem? (i := 12) rfl)) (by decide) (by decide)) (g := (mkF m 50 #[.val (.long q1), .second, .val (.int p2), .val (.int p3), .val (.int p4), .val (.int (p2 &&& (255 : Int32))), .val (.long (f0_1 q1 p2 p3 p4)), .second, .unset, .unset, .unset, .unset, .unset] [(.int (p2 &&& (255 : Int32))), (.int (p3 &&& (7 : Int32))), (.long (f0_1 q1 p2 p3 p4))])) rfl (by rw [hml]; rfl) (argsL := [(.long (f0_1 q1 p2 p3 p4)), (.int (p3 &&& (7 : Int32))), (.int (p2 &&& (255 : Int32)))]) (rest := []) (lenOf pd_2 rfl) rfl (by show 2 * 0 + _ ≤ _; exact Nat.le_of_eq rfl) (hb hby at_50) (fun _ _ => ⟨rfl, e3, (by decide : 0 + 0 ≤ _), (by decide : 0 + 0 ≤ _)⟩)
      dsimp only [Pt.U, Pt.locs, Pt.cells, Pt.slots] at X5 l5 y5 z5 st5 hQ5
      subst l5 y5 z5
      obtain ⟨rfl, N5q, e5⟩ := hQ5
      have N5 := Fr.app N3 N5q
      refine ⟨T5, _, X5, e5, N5, fun t k => ?_⟩
      rw [show (f0_3 q1 p2 p3 p4) = (f0_2 q1 p2 p3 p4) from if_neg h4] at k
      show Steps p.tables e below (T3.setTop (mkF m 39 #[.val (.long q1), .second, .val (.int p2), .val (.int p3), .val (.int p4), .val (.int (p2 &&& (255 : Int32))), .val (.long (f0_1 q1 p2 p3 p4)), .second, .unset, .unset, .unset, .unset, .unset] [(.int (p4 &&& (1 : Int32)))])) _
      refine XS.ifNo X3.here hx rfl (hb hby at_39) rfl ((if0 _ _).trans (feq h4).1) ?_
      show Steps p.tables e below (T3.setTop (mkF m 42 #[.val (.long q1), .second, .val (.int p2), .val (.int p3), .val (.int p4), .val (.int (p2 &&& (255 : Int32))), .val (.long (f0_1 q1 p2 p3 p4)), .second, .unset, .unset, .unset, .unset, .unset] [])) _
      refine XT.lload X3.here hx rfl (hb hby at_42) rfl ?_
      show Steps p.tables e below (T3.setTop (mkF m 44 #[.val (.long q1), .second, .val (.int p2), .val (.int p3), .val (.int p4), .val (.int (p2 &&& (255 : Int32))), .val (.long (f0_1 q1 p2 p3 p4)), .second, .unset, .unset, .unset, .unset, .unset] [(.long (f0_1 q1 p2 p3 p4))])) _
      refine XS.iloadN X3.here hx rfl (hb hby at_44) rfl ?_
      show Steps p.tables e below (T3.setTop (mkF m 45 #[.val (.long q1), .second, .val (.int p2), .val (.int p3), .val (.int p4), .val (.int (p2 &&& (255 : Int32))), .val (.long (f0_1 q1 p2 p3 p4)), .second, .unset, .unset, .unset, .unset, .unset] [(.int p3), (.long (f0_1 q1 p2 p3 p4))])) _
      refine XS.bipush X3.here hx rfl (hb hby at_45) ?_
      show Steps p.tables e below (T3.setTop (mkF m 47 #[.val (.long q1), .second, .val (.int p2), .val (.int p3), .val (.int p4), .val (.int (p2 &&& (255 : Int32))), .val (.long (f0_1 q1 p2 p3 p4)), .second, .unset, .unset, .unset, .unset, .unset] [(.int (7 : Int32)), (.int p3), (.long (f0_1 q1 p2 p3 p4))])) _
      refine XS.iand X3.here hx rfl (hb hby at_47) rfl ?_
      show Steps p.tables e below (T3.setTop (mkF m 48 #[.val (.long q1), .second, .val (.int p2), .val (.int p3), .val (.int p4), .val (.int (p2 &&& (255 : Int32))), .val (.long (f0_1 q1 p2 p3 p4)), .second, .unset, .unset, .unset, .unset, .unset] [(.int (p3 &&& (7 : Int32))), (.long (f0_1 q1 p2 p3 p4))])) _
      refine XS.iload X3.here hx rfl (hb hby at_48) rfl ?_
      show Steps p.tables e below (T3.setTop (mkF m 50 #[.val (.long q1), .second, .val (.int p2), .val (.int p3), .val (.int p4), .val (.int (p2 &&& (255 : Int32))), .val (.long (f0_1 q1 p2 p3 p4)), .second, .unset, .unset, .unset, .unset, .unset] [(.int (p2 &&& (255 : Int32))), (.int (p3 &&& (7 : Int32))), (.long (f0_1 q1 p2 p3 p4))])) _
      refine st5 _ ?_
      show Steps p.tables e below (T5.setTop (mkF m 53 #[.val (.long q1), .second, .val (.int p2), .val (.int p3), .val (.int p4), .val (.int (p2 &&& (255 : Int32))), .val (.long (f0_1 q1 p2 p3 p4)), .second, .unset, .unset, .unset, .unset, .unset] [(.long (f0_2 q1 p2 p3 p4))])) _
      refine XT.lstore X5.here hx rfl (hb hby at_53) rfl (l' := #[.val (.long q1), .second, .val (.int p2), .val (.int p3), .val (.int p4), .val (.int (p2 &&& (255 : Int32))), .val (.long (f0_2 q1 p2 p3 p4)), .second, .unset, .unset, .unset, .unset, .unset]) rfl ?_
      exact k
  obtain ⟨T9, lo9, X9, e9, N9, st9⟩ : ∃ (T' : State) (lo : List Loc) (_ : Stand p l e room_1 s m #[(.long q1), (.int p2), (.int p3), (.int p4)] below meth c T' lo 0 0), T'.heap = h0 ∧ Fr n0 lo ∧ ∀ t, Steps p.tables e below (T'.setTop (mkF m 77 #[.val (.long q1), .second, .val (.int p2), .val (.int p3), .val (.int p4), .val (.int (p2 &&& (255 : Int32))), .val (.long (f0_5 q1 p2 p3 p4)), .second, .unset, .unset, .unset, .unset, .unset] [])) t → Steps p.tables e below (T6.setTop (mkF m 59 #[.val (.long q1), .second, .val (.int p2), .val (.int p3), .val (.int p4), .val (.int (p2 &&& (255 : Int32))), .val (.long (f0_3 q1 p2 p3 p4)), .second, .unset, .unset, .unset, .unset, .unset] [(.int (p4 &&& (2 : Int32)))])) t := by
    by_cases h7 : (p4 &&& (2 : Int32)) = (0 : Int32)
    · refine ⟨T6, _, X6, e6, N6, fun t k => ?_⟩
      rw [show (f0_5 q1 p2 p3 p4) = (f0_3 q1 p2 p3 p4) from if_pos h7] at k
      show Steps p.tables e below (T6.setTop (mkF m 59 #[.val (.long q1), .second, .val (.int p2), .val (.int p3), .val (.int p4), .val (.int (p2 &&& (255 : Int32))), .val (.long (f0_3 q1 p2 p3 p4)), .second, .unset, .unset, .unset, .unset, .unset] [(.int (p4 &&& (2 : Int32)))])) _
      refine XS.ifYes X6.here hx rfl (pc0 := 59) (pc' := 77) rfl (hb hby at_59) rfl ((if0 _ _).trans (teq h7).1) (by decide) (by decide) ?_
      exact k
    · obtain ⟨_, _, ⟨T8, L8, k8, n8⟩, -, X8, ⟨Lc8, hQ8, l8, y8, z8⟩, st8⟩ := Jvm.LawKit.callS X6 hx (y := (⟨"com/example/apportion/apportion/WordsEqualPinLaw", "put", "(JII)J"⟩ : MethodName)) hown (mvT hZ (hw _ (List.mem_of_getElem? (i := 18) rfl))) (mvT hZ (hw _ (List.mem_of_getElem? (i := 19) rfl))) (mvT hZ (hw _ (List.mem_of_getElem? (i := 12) rfl))) (mvT hZ (hw _ (List.mem_of_getElem? (i := 20) rfl))) (by decide) (backOf (W := 0) (rm5 l Z a0 hw [] (f0_3 q1 p2 p3 p4) ((XT.ushr p3 (3 : Int32)) &&& (7 : Int32)) (p2 &&& (255 : Int32)) h0 n0 Z0) hZ (hw _ (List.mem_of_getElem? (i := 20) rfl)) (hw _ (List.mem_of_getElem? (i := 12) rfl)) (by decide) (by decide)) (g := (mkF m 72 #[.val (.long q1), .second, .val (.int p2), .val (.int p3), .val (.int p4), .val (.int (p2 &&& (255 : Int32))), .val (.long (f0_3 q1 p2 p3 p4)), .second, .unset, .unset, .unset, .unset, .unset] [(.int (p2 &&& (255 : Int32))), (.int ((XT.ushr p3 (3 : Int32)) &&& (7 : Int32))), (.long (f0_3 q1 p2 p3 p4))])) rfl (by rw [hml]; rfl) (argsL := [(.long (f0_3 q1 p2 p3 p4)), (.int ((XT.ushr p3 (3 : Int32)) &&& (7 : Int32))), (.int (p2 &&& (255 : Int32)))]) (rest := []) (lenOf pd_2 rfl) rfl (by show 2 * 0 + _ ≤ _; exact Nat.le_of_eq rfl) (hb hby at_72) (fun _ _ => ⟨rfl, e6, (by decide : 0 + 0 ≤ _), (by decide : 0 + 0 ≤ _)⟩)
      dsimp only [Pt.U, Pt.locs, Pt.cells, Pt.slots] at X8 l8 y8 z8 st8 hQ8
      subst l8 y8 z8
      obtain ⟨rfl, N8q, e8⟩ := hQ8
      have N8 := Fr.app N6 N8q
      refine ⟨T8, _, X8, e8, N8, fun t k => ?_⟩
      rw [show (f0_5 q1 p2 p3 p4) = (f0_4 q1 p2 p3 p4) from if_neg h7] at k
      show Steps p.tables e below (T6.setTop (mkF m 59 #[.val (.long q1), .second, .val (.int p2), .val (.int p3), .val (.int p4), .val (.int (p2 &&& (255 : Int32))), .val (.long (f0_3 q1 p2 p3 p4)), .second, .unset, .unset, .unset, .unset, .unset] [(.int (p4 &&& (2 : Int32)))])) _
      refine XS.ifNo X6.here hx rfl (hb hby at_59) rfl ((if0 _ _).trans (feq h7).1) ?_
      show Steps p.tables e below (T6.setTop (mkF m 62 #[.val (.long q1), .second, .val (.int p2), .val (.int p3), .val (.int p4), .val (.int (p2 &&& (255 : Int32))), .val (.long (f0_3 q1 p2 p3 p4)), .second, .unset, .unset, .unset, .unset, .unset] [])) _
      refine XT.lload X6.here hx rfl (hb hby at_62) rfl ?_
      show Steps p.tables e below (T6.setTop (mkF m 64 #[.val (.long q1), .second, .val (.int p2), .val (.int p3), .val (.int p4), .val (.int (p2 &&& (255 : Int32))), .val (.long (f0_3 q1 p2 p3 p4)), .second, .unset, .unset, .unset, .unset, .unset] [(.long (f0_3 q1 p2 p3 p4))])) _
      refine XS.iloadN X6.here hx rfl (hb hby at_64) rfl ?_
      show Steps p.tables e below (T6.setTop (mkF m 65 #[.val (.long q1), .second, .val (.int p2), .val (.int p3), .val (.int p4), .val (.int (p2 &&& (255 : Int32))), .val (.long (f0_3 q1 p2 p3 p4)), .second, .unset, .unset, .unset, .unset, .unset] [(.int p3), (.long (f0_3 q1 p2 p3 p4))])) _
      refine XS.iconst X6.here hx rfl (hb hby at_65) ?_
      show Steps p.tables e below (T6.setTop (mkF m 66 #[.val (.long q1), .second, .val (.int p2), .val (.int p3), .val (.int p4), .val (.int (p2 &&& (255 : Int32))), .val (.long (f0_3 q1 p2 p3 p4)), .second, .unset, .unset, .unset, .unset, .unset] [(.int (3 : Int32)), (.int p3), (.long (f0_3 q1 p2 p3 p4))])) _
      refine XT.iushr X6.here hx rfl (hb hby at_66) rfl ?_
      show Steps p.tables e below (T6.setTop (mkF m 67 #[.val (.long q1), .second, .val (.int p2), .val (.int p3), .val (.int p4), .val (.int (p2 &&& (255 : Int32))), .val (.long (f0_3 q1 p2 p3 p4)), .second, .unset, .unset, .unset, .unset, .unset] [(.int (XT.ushr p3 (3 : Int32))), (.long (f0_3 q1 p2 p3 p4))])) _
      refine XS.bipush X6.here hx rfl (hb hby at_67) ?_
      show Steps p.tables e below (T6.setTop (mkF m 69 #[.val (.long q1), .second, .val (.int p2), .val (.int p3), .val (.int p4), .val (.int (p2 &&& (255 : Int32))), .val (.long (f0_3 q1 p2 p3 p4)), .second, .unset, .unset, .unset, .unset, .unset] [(.int (7 : Int32)), (.int (XT.ushr p3 (3 : Int32))), (.long (f0_3 q1 p2 p3 p4))])) _
      refine XS.iand X6.here hx rfl (hb hby at_69) rfl ?_
      show Steps p.tables e below (T6.setTop (mkF m 70 #[.val (.long q1), .second, .val (.int p2), .val (.int p3), .val (.int p4), .val (.int (p2 &&& (255 : Int32))), .val (.long (f0_3 q1 p2 p3 p4)), .second, .unset, .unset, .unset, .unset, .unset] [(.int ((XT.ushr p3 (3 : Int32)) &&& (7 : Int32))), (.long (f0_3 q1 p2 p3 p4))])) _
      refine XS.iload X6.here hx rfl (hb hby at_70) rfl ?_
      show Steps p.tables e below (T6.setTop (mkF m 72 #[.val (.long q1), .second, .val (.int p2), .val (.int p3), .val (.int p4), .val (.int (p2 &&& (255 : Int32))), .val (.long (f0_3 q1 p2 p3 p4)), .second, .unset, .unset, .unset, .unset, .unset] [(.int (p2 &&& (255 : Int32))), (.int ((XT.ushr p3 (3 : Int32)) &&& (7 : Int32))), (.long (f0_3 q1 p2 p3 p4))])) _
      refine st8 _ ?_
      show Steps p.tables e below (T8.setTop (mkF m 75 #[.val (.long q1), .second, .val (.int p2), .val (.int p3), .val (.int p4), .val (.int (p2 &&& (255 : Int32))), .val (.long (f0_3 q1 p2 p3 p4)), .second, .unset, .unset, .unset, .unset, .unset] [(.long (f0_4 q1 p2 p3 p4))])) _
      refine XT.lstore X8.here hx rfl (hb hby at_75) rfl (l' := #[.val (.long q1), .second, .val (.int p2), .val (.int p3), .val (.int p4), .val (.int (p2 &&& (255 : Int32))), .val (.long (f0_4 q1 p2 p3 p4)), .second, .unset, .unset, .unset, .unset, .unset]) rfl ?_
      exact k
  obtain ⟨_, _, ⟨T10, L10, k10, n10⟩, -, X10, ⟨Lc10, hQ10, l10, y10, z10⟩, st10⟩ := Jvm.LawKit.callS X9 hx (y := (⟨"com/example/apportion/apportion/Words", "equal", "(JB)J"⟩ : MethodName)) hown (mvT hZ (hw _ (List.mem_of_getElem? (i := 0) rfl))) (mvT hZ (hw _ (List.mem_of_getElem? (i := 1) rfl))) (mvT hZ (hw _ (List.mem_of_getElem? (i := 2) rfl))) (mvT hZ (hw _ (List.mem_of_getElem? (i := 3) rfl))) (by decide) (backOf (W := 0) (rm1 l Z a0 hw [] (f0_5 q1 p2 p3 p4) p2.toInt8.toInt32 h0 n0 Z0) hZ (hw _ (List.mem_of_getElem? (i := 3) rfl)) (hw _ (List.mem_of_getElem? (i := 2) rfl)) (by decide) (by decide)) (g := (mkF m 81 #[.val (.long q1), .second, .val (.int p2), .val (.int p3), .val (.int p4), .val (.int (p2 &&& (255 : Int32))), .val (.long (f0_5 q1 p2 p3 p4)), .second, .unset, .unset, .unset, .unset, .unset] [(.int p2.toInt8.toInt32), (.long (f0_5 q1 p2 p3 p4))])) rfl (by rw [hml]; rfl) (argsL := [(.long (f0_5 q1 p2 p3 p4)), (.int p2.toInt8.toInt32)]) (rest := []) (lenOf pd_3 rfl) rfl (by show 2 * 0 + _ ≤ _; exact Nat.le_of_eq rfl) (hb hby at_81) (fun _ _ => ⟨rfl, e9, (by decide : 0 + 0 ≤ _), (by decide : 0 + 0 ≤ _)⟩)
  dsimp only [Pt.U, Pt.locs, Pt.cells, Pt.slots] at X10 l10 y10 z10 st10 hQ10
  subst l10 y10 z10
  obtain ⟨rfl, N10q, e10⟩ := hQ10
  have N10 := Fr.app N9 N10q
  obtain ⟨_, _, ⟨T11, L11, k11, n11⟩, -, X11, ⟨Lc11, hQ11, l11, y11, z11⟩, st11⟩ := Jvm.LawKit.callS X10 hx (y := (⟨"com/example/apportion/apportion/WordsEqualPinLaw", "firstEq", "(JI)I"⟩ : MethodName)) hown (mvT hZ (hw _ (List.mem_of_getElem? (i := 10) rfl))) (mvT hZ (hw _ (List.mem_of_getElem? (i := 11) rfl))) (mvT hZ (hw _ (List.mem_of_getElem? (i := 12) rfl))) (mvT hZ (hw _ (List.mem_of_getElem? (i := 13) rfl))) (by decide) (backOf (W := 0) (rm3 l Z a0 hw [] (f0_5 q1 p2 p3 p4) (p2 &&& (255 : Int32)) h0 n0 Z0) hZ (hw _ (List.mem_of_getElem? (i := 13) rfl)) (hw _ (List.mem_of_getElem? (i := 12) rfl)) (by decide) (by decide)) (g := (mkF m 90 #[.val (.long q1), .second, .val (.int p2), .val (.int p3), .val (.int p4), .val (.int (p2 &&& (255 : Int32))), .val (.long (f0_5 q1 p2 p3 p4)), .second, .val (.long (f1 (f0_5 q1 p2 p3 p4) p2.toInt8.toInt32)), .second, .unset, .unset, .unset] [(.int (p2 &&& (255 : Int32))), (.long (f0_5 q1 p2 p3 p4))])) rfl (by rw [hml]; rfl) (argsL := [(.long (f0_5 q1 p2 p3 p4)), (.int (p2 &&& (255 : Int32)))]) (rest := []) (lenOf pd_1 rfl) rfl (by show 2 * 0 + _ ≤ _; exact Nat.le_of_eq rfl) (hb hby at_90) (fun _ _ => ⟨rfl, e10, (by decide : 0 + 0 ≤ _), (by decide : 0 + 0 ≤ _)⟩)
  dsimp only [Pt.U, Pt.locs, Pt.cells, Pt.slots] at X11 l11 y11 z11 st11 hQ11
  subst l11 y11 z11
  obtain ⟨rfl, N11q, e11⟩ := hQ11
  have N11 := Fr.app N10 N11q
  have st13 : ∀ t, Steps p.tables e below (T11.setTop (mkF m 116 #[.val (.long q1), .second, .val (.int p2), .val (.int p3), .val (.int p4), .val (.int (p2 &&& (255 : Int32))), .val (.long (f0_5 q1 p2 p3 p4)), .second, .val (.long (f1 (f0_5 q1 p2 p3 p4) p2.toInt8.toInt32)), .second, .val (.int (f3 (f0_5 q1 p2 p3 p4) (p2 &&& (255 : Int32)))), .unset, .unset] [(.long (f0_8 q1 p2 p3 p4))])) t → Steps p.tables e below (T11.setTop (mkF m 99 #[.val (.long q1), .second, .val (.int p2), .val (.int p3), .val (.int p4), .val (.int (p2 &&& (255 : Int32))), .val (.long (f0_5 q1 p2 p3 p4)), .second, .val (.long (f1 (f0_5 q1 p2 p3 p4) p2.toInt8.toInt32)), .second, .val (.int (f3 (f0_5 q1 p2 p3 p4) (p2 &&& (255 : Int32)))), .unset, .unset] [(.int (8 : Int32)), (.int (f3 (f0_5 q1 p2 p3 p4) (p2 &&& (255 : Int32))))])) t := by
    intro t k
    by_cases h12 : (f3 (f0_5 q1 p2 p3 p4) (p2 &&& (255 : Int32))) = (8 : Int32)
    · rw [show (f0_8 q1 p2 p3 p4) = (0 : Int64) from if_pos h12] at k
      show Steps p.tables e below (T11.setTop (mkF m 99 #[.val (.long q1), .second, .val (.int p2), .val (.int p3), .val (.int p4), .val (.int (p2 &&& (255 : Int32))), .val (.long (f0_5 q1 p2 p3 p4)), .second, .val (.long (f1 (f0_5 q1 p2 p3 p4) p2.toInt8.toInt32)), .second, .val (.int (f3 (f0_5 q1 p2 p3 p4) (p2 &&& (255 : Int32)))), .unset, .unset] [(.int (8 : Int32)), (.int (f3 (f0_5 q1 p2 p3 p4) (p2 &&& (255 : Int32))))])) _
      refine XS.icmpNo X11.here hx rfl (hb hby at_99) rfl (teq h12).2 ?_
      show Steps p.tables e below (T11.setTop (mkF m 102 #[.val (.long q1), .second, .val (.int p2), .val (.int p3), .val (.int p4), .val (.int (p2 &&& (255 : Int32))), .val (.long (f0_5 q1 p2 p3 p4)), .second, .val (.long (f1 (f0_5 q1 p2 p3 p4) p2.toInt8.toInt32)), .second, .val (.int (f3 (f0_5 q1 p2 p3 p4) (p2 &&& (255 : Int32)))), .unset, .unset] [])) _
      refine XT.lconst X11.here hx rfl (hb hby at_102) ?_
      show Steps p.tables e below (T11.setTop (mkF m 103 #[.val (.long q1), .second, .val (.int p2), .val (.int p3), .val (.int p4), .val (.int (p2 &&& (255 : Int32))), .val (.long (f0_5 q1 p2 p3 p4)), .second, .val (.long (f1 (f0_5 q1 p2 p3 p4) p2.toInt8.toInt32)), .second, .val (.int (f3 (f0_5 q1 p2 p3 p4) (p2 &&& (255 : Int32)))), .unset, .unset] [(.long (0 : Int64))])) _
      refine XS.goto X11.here hx rfl (pc0 := 103) (pc' := 116) rfl (hb hby at_103) (by decide) (by decide) ?_
      exact k
    · rw [show (f0_8 q1 p2 p3 p4) = (f0_7 q1 p2 p3 p4) from if_neg h12] at k
      show Steps p.tables e below (T11.setTop (mkF m 99 #[.val (.long q1), .second, .val (.int p2), .val (.int p3), .val (.int p4), .val (.int (p2 &&& (255 : Int32))), .val (.long (f0_5 q1 p2 p3 p4)), .second, .val (.long (f1 (f0_5 q1 p2 p3 p4) p2.toInt8.toInt32)), .second, .val (.int (f3 (f0_5 q1 p2 p3 p4) (p2 &&& (255 : Int32)))), .unset, .unset] [(.int (8 : Int32)), (.int (f3 (f0_5 q1 p2 p3 p4) (p2 &&& (255 : Int32))))])) _
      refine XS.icmpYes X11.here hx rfl (pc0 := 99) (pc' := 106) rfl (hb hby at_99) rfl (feq h12).2 (by decide) (by decide) ?_
      show Steps p.tables e below (T11.setTop (mkF m 106 #[.val (.long q1), .second, .val (.int p2), .val (.int p3), .val (.int p4), .val (.int (p2 &&& (255 : Int32))), .val (.long (f0_5 q1 p2 p3 p4)), .second, .val (.long (f1 (f0_5 q1 p2 p3 p4) p2.toInt8.toInt32)), .second, .val (.int (f3 (f0_5 q1 p2 p3 p4) (p2 &&& (255 : Int32)))), .unset, .unset] [])) _
      refine XT.lconst X11.here hx rfl (hb hby at_106) ?_
      show Steps p.tables e below (T11.setTop (mkF m 107 #[.val (.long q1), .second, .val (.int p2), .val (.int p3), .val (.int p4), .val (.int (p2 &&& (255 : Int32))), .val (.long (f0_5 q1 p2 p3 p4)), .second, .val (.long (f1 (f0_5 q1 p2 p3 p4) p2.toInt8.toInt32)), .second, .val (.int (f3 (f0_5 q1 p2 p3 p4) (p2 &&& (255 : Int32)))), .unset, .unset] [(.long (1 : Int64))])) _
      refine XS.bipush X11.here hx rfl (hb hby at_107) ?_
      show Steps p.tables e below (T11.setTop (mkF m 109 #[.val (.long q1), .second, .val (.int p2), .val (.int p3), .val (.int p4), .val (.int (p2 &&& (255 : Int32))), .val (.long (f0_5 q1 p2 p3 p4)), .second, .val (.long (f1 (f0_5 q1 p2 p3 p4) p2.toInt8.toInt32)), .second, .val (.int (f3 (f0_5 q1 p2 p3 p4) (p2 &&& (255 : Int32)))), .unset, .unset] [(.int (8 : Int32)), (.long (1 : Int64))])) _
      refine XS.iload X11.here hx rfl (hb hby at_109) rfl ?_
      show Steps p.tables e below (T11.setTop (mkF m 111 #[.val (.long q1), .second, .val (.int p2), .val (.int p3), .val (.int p4), .val (.int (p2 &&& (255 : Int32))), .val (.long (f0_5 q1 p2 p3 p4)), .second, .val (.long (f1 (f0_5 q1 p2 p3 p4) p2.toInt8.toInt32)), .second, .val (.int (f3 (f0_5 q1 p2 p3 p4) (p2 &&& (255 : Int32)))), .unset, .unset] [(.int (f3 (f0_5 q1 p2 p3 p4) (p2 &&& (255 : Int32)))), (.int (8 : Int32)), (.long (1 : Int64))])) _
      refine XS.imul X11.here hx rfl (hb hby at_111) rfl ?_
      show Steps p.tables e below (T11.setTop (mkF m 112 #[.val (.long q1), .second, .val (.int p2), .val (.int p3), .val (.int p4), .val (.int (p2 &&& (255 : Int32))), .val (.long (f0_5 q1 p2 p3 p4)), .second, .val (.long (f1 (f0_5 q1 p2 p3 p4) p2.toInt8.toInt32)), .second, .val (.int (f3 (f0_5 q1 p2 p3 p4) (p2 &&& (255 : Int32)))), .unset, .unset] [(.int (f0_6 q1 p2 p3 p4)), (.long (1 : Int64))])) _
      refine XS.bipush X11.here hx rfl (hb hby at_112) ?_
      show Steps p.tables e below (T11.setTop (mkF m 114 #[.val (.long q1), .second, .val (.int p2), .val (.int p3), .val (.int p4), .val (.int (p2 &&& (255 : Int32))), .val (.long (f0_5 q1 p2 p3 p4)), .second, .val (.long (f1 (f0_5 q1 p2 p3 p4) p2.toInt8.toInt32)), .second, .val (.int (f3 (f0_5 q1 p2 p3 p4) (p2 &&& (255 : Int32)))), .unset, .unset] [(.int (7 : Int32)), (.int (f0_6 q1 p2 p3 p4)), (.long (1 : Int64))])) _
      refine XS.iadd X11.here hx rfl (hb hby at_114) rfl ?_
      show Steps p.tables e below (T11.setTop (mkF m 115 #[.val (.long q1), .second, .val (.int p2), .val (.int p3), .val (.int p4), .val (.int (p2 &&& (255 : Int32))), .val (.long (f0_5 q1 p2 p3 p4)), .second, .val (.long (f1 (f0_5 q1 p2 p3 p4) p2.toInt8.toInt32)), .second, .val (.int (f3 (f0_5 q1 p2 p3 p4) (p2 &&& (255 : Int32)))), .unset, .unset] [(.int ((f0_6 q1 p2 p3 p4) + (7 : Int32))), (.long (1 : Int64))])) _
      refine XT.lshl X11.here hx rfl (hb hby at_115) rfl ?_
      exact k
  have st15 : ∀ t, Steps p.tables e below (T11.setTop (mkF m 135 #[.val (.long q1), .second, .val (.int p2), .val (.int p3), .val (.int p4), .val (.int (p2 &&& (255 : Int32))), .val (.long (f0_5 q1 p2 p3 p4)), .second, .val (.long (f1 (f0_5 q1 p2 p3 p4) p2.toInt8.toInt32)), .second, .val (.int (f3 (f0_5 q1 p2 p3 p4) (p2 &&& (255 : Int32)))), .val (.long (f0_8 q1 p2 p3 p4)), .second] [(.int (f0_10 q1 p2 p3 p4))])) t → Steps p.tables e below (T11.setTop (mkF m 127 #[.val (.long q1), .second, .val (.int p2), .val (.int p3), .val (.int p4), .val (.int (p2 &&& (255 : Int32))), .val (.long (f0_5 q1 p2 p3 p4)), .second, .val (.long (f1 (f0_5 q1 p2 p3 p4) p2.toInt8.toInt32)), .second, .val (.int (f3 (f0_5 q1 p2 p3 p4) (p2 &&& (255 : Int32)))), .val (.long (f0_8 q1 p2 p3 p4)), .second] [(.int (XT.cmpL (f0_9 q1 p2 p3 p4) (f0_8 q1 p2 p3 p4)))])) t := by
    intro t k
    by_cases h14 : (f0_9 q1 p2 p3 p4) = (f0_8 q1 p2 p3 p4)
    · rw [show (f0_10 q1 p2 p3 p4) = (1 : Int32) from if_pos h14] at k
      show Steps p.tables e below (T11.setTop (mkF m 127 #[.val (.long q1), .second, .val (.int p2), .val (.int p3), .val (.int p4), .val (.int (p2 &&& (255 : Int32))), .val (.long (f0_5 q1 p2 p3 p4)), .second, .val (.long (f1 (f0_5 q1 p2 p3 p4) p2.toInt8.toInt32)), .second, .val (.int (f3 (f0_5 q1 p2 p3 p4) (p2 &&& (255 : Int32)))), .val (.long (f0_8 q1 p2 p3 p4)), .second] [(.int (XT.cmpL (f0_9 q1 p2 p3 p4) (f0_8 q1 p2 p3 p4)))])) _
      refine XS.ifNo X11.here hx rfl (hb hby at_127) rfl ((if0 _ _).trans (teq ((own_ce _ _).mpr h14)).2) ?_
      show Steps p.tables e below (T11.setTop (mkF m 130 #[.val (.long q1), .second, .val (.int p2), .val (.int p3), .val (.int p4), .val (.int (p2 &&& (255 : Int32))), .val (.long (f0_5 q1 p2 p3 p4)), .second, .val (.long (f1 (f0_5 q1 p2 p3 p4) p2.toInt8.toInt32)), .second, .val (.int (f3 (f0_5 q1 p2 p3 p4) (p2 &&& (255 : Int32)))), .val (.long (f0_8 q1 p2 p3 p4)), .second] [])) _
      refine XS.iconst X11.here hx rfl (hb hby at_130) ?_
      show Steps p.tables e below (T11.setTop (mkF m 131 #[.val (.long q1), .second, .val (.int p2), .val (.int p3), .val (.int p4), .val (.int (p2 &&& (255 : Int32))), .val (.long (f0_5 q1 p2 p3 p4)), .second, .val (.long (f1 (f0_5 q1 p2 p3 p4) p2.toInt8.toInt32)), .second, .val (.int (f3 (f0_5 q1 p2 p3 p4) (p2 &&& (255 : Int32)))), .val (.long (f0_8 q1 p2 p3 p4)), .second] [(.int (1 : Int32))])) _
      refine XS.goto X11.here hx rfl (pc0 := 131) (pc' := 135) rfl (hb hby at_131) (by decide) (by decide) ?_
      exact k
    · rw [show (f0_10 q1 p2 p3 p4) = (0 : Int32) from if_neg h14] at k
      show Steps p.tables e below (T11.setTop (mkF m 127 #[.val (.long q1), .second, .val (.int p2), .val (.int p3), .val (.int p4), .val (.int (p2 &&& (255 : Int32))), .val (.long (f0_5 q1 p2 p3 p4)), .second, .val (.long (f1 (f0_5 q1 p2 p3 p4) p2.toInt8.toInt32)), .second, .val (.int (f3 (f0_5 q1 p2 p3 p4) (p2 &&& (255 : Int32)))), .val (.long (f0_8 q1 p2 p3 p4)), .second] [(.int (XT.cmpL (f0_9 q1 p2 p3 p4) (f0_8 q1 p2 p3 p4)))])) _
      refine XS.ifYes X11.here hx rfl (pc0 := 127) (pc' := 134) rfl (hb hby at_127) rfl ((if0 _ _).trans (feq (mt (own_ce _ _).mp h14)).2) (by decide) (by decide) ?_
      show Steps p.tables e below (T11.setTop (mkF m 134 #[.val (.long q1), .second, .val (.int p2), .val (.int p3), .val (.int p4), .val (.int (p2 &&& (255 : Int32))), .val (.long (f0_5 q1 p2 p3 p4)), .second, .val (.long (f1 (f0_5 q1 p2 p3 p4) p2.toInt8.toInt32)), .second, .val (.int (f3 (f0_5 q1 p2 p3 p4) (p2 &&& (255 : Int32)))), .val (.long (f0_8 q1 p2 p3 p4)), .second] [])) _
      refine XS.iconst X11.here hx rfl (hb hby at_134) ?_
      exact k
  obtain ⟨fs, hr, hrun, hended, hW, hsame⟩ := X11.leave (v := some (.int ((f0_10 q1 p2 p3 p4) &&& 1))) (fun h => by rw [Bd.returns] at h; cases h)
  refine ⟨_, _, ?_, hrun, hended, _, _, rfl, ?_, ⟨_, rfl⟩, hW, hsame.mono (by decide) (by decide)⟩
  · show Steps p.tables e below (s₁.setTop (mkF m 0 #[.val (.long q1), .second, .val (.int p2), .val (.int p3), .val (.int p4), .unset, .unset, .unset, .unset, .unset, .unset, .unset, .unset] [])) _
    refine XS.iloadN X0.here hx rfl (hb hby at_0) rfl ?_
    show Steps p.tables e below (s₁.setTop (mkF m 1 #[.val (.long q1), .second, .val (.int p2), .val (.int p3), .val (.int p4), .unset, .unset, .unset, .unset, .unset, .unset, .unset, .unset] [(.int p2)])) _
    refine XS.sipush X0.here hx rfl (hb hby at_1) ?_
    show Steps p.tables e below (s₁.setTop (mkF m 4 #[.val (.long q1), .second, .val (.int p2), .val (.int p3), .val (.int p4), .unset, .unset, .unset, .unset, .unset, .unset, .unset, .unset] [(.int (255 : Int32)), (.int p2)])) _
    refine XS.iand X0.here hx rfl (hb hby at_4) rfl ?_
    show Steps p.tables e below (s₁.setTop (mkF m 5 #[.val (.long q1), .second, .val (.int p2), .val (.int p3), .val (.int p4), .unset, .unset, .unset, .unset, .unset, .unset, .unset, .unset] [(.int (p2 &&& (255 : Int32)))])) _
    refine XS.istore X0.here hx rfl (hb hby at_5) rfl (l' := #[.val (.long q1), .second, .val (.int p2), .val (.int p3), .val (.int p4), .val (.int (p2 &&& (255 : Int32))), .unset, .unset, .unset, .unset, .unset, .unset, .unset]) rfl ?_
    show Steps p.tables e below (s₁.setTop (mkF m 7 #[.val (.long q1), .second, .val (.int p2), .val (.int p3), .val (.int p4), .val (.int (p2 &&& (255 : Int32))), .unset, .unset, .unset, .unset, .unset, .unset, .unset] [])) _
    refine XT.lloadN X0.here hx rfl (hb hby at_7) rfl ?_
    show Steps p.tables e below (s₁.setTop (mkF m 8 #[.val (.long q1), .second, .val (.int p2), .val (.int p3), .val (.int p4), .val (.int (p2 &&& (255 : Int32))), .unset, .unset, .unset, .unset, .unset, .unset, .unset] [(.long q1)])) _
    refine XT.lstore X0.here hx rfl (hb hby at_8) rfl (l' := #[.val (.long q1), .second, .val (.int p2), .val (.int p3), .val (.int p4), .val (.int (p2 &&& (255 : Int32))), .val (.long q1), .second, .unset, .unset, .unset, .unset, .unset]) rfl ?_
    show Steps p.tables e below (s₁.setTop (mkF m 10 #[.val (.long q1), .second, .val (.int p2), .val (.int p3), .val (.int p4), .val (.int (p2 &&& (255 : Int32))), .val (.long q1), .second, .unset, .unset, .unset, .unset, .unset] [])) _
    refine XS.iload X0.here hx rfl (hb hby at_10) rfl ?_
    show Steps p.tables e below (s₁.setTop (mkF m 12 #[.val (.long q1), .second, .val (.int p2), .val (.int p3), .val (.int p4), .val (.int (p2 &&& (255 : Int32))), .val (.long q1), .second, .unset, .unset, .unset, .unset, .unset] [(.int p4)])) _
    refine XS.iconst X0.here hx rfl (hb hby at_12) ?_
    show Steps p.tables e below (s₁.setTop (mkF m 13 #[.val (.long q1), .second, .val (.int p2), .val (.int p3), .val (.int p4), .val (.int (p2 &&& (255 : Int32))), .val (.long q1), .second, .unset, .unset, .unset, .unset, .unset] [(.int (4 : Int32)), (.int p4)])) _
    refine XS.iand X0.here hx rfl (hb hby at_13) rfl ?_
    show Steps p.tables e below (s₁.setTop (mkF m 14 #[.val (.long q1), .second, .val (.int p2), .val (.int p3), .val (.int p4), .val (.int (p2 &&& (255 : Int32))), .val (.long q1), .second, .unset, .unset, .unset, .unset, .unset] [(.int (p4 &&& (4 : Int32)))])) _
    refine st3 _ ?_
    show Steps p.tables e below (T3.setTop (mkF m 35 #[.val (.long q1), .second, .val (.int p2), .val (.int p3), .val (.int p4), .val (.int (p2 &&& (255 : Int32))), .val (.long (f0_1 q1 p2 p3 p4)), .second, .unset, .unset, .unset, .unset, .unset] [])) _
    refine XS.iload X3.here hx rfl (hb hby at_35) rfl ?_
    show Steps p.tables e below (T3.setTop (mkF m 37 #[.val (.long q1), .second, .val (.int p2), .val (.int p3), .val (.int p4), .val (.int (p2 &&& (255 : Int32))), .val (.long (f0_1 q1 p2 p3 p4)), .second, .unset, .unset, .unset, .unset, .unset] [(.int p4)])) _
    refine XS.iconst X3.here hx rfl (hb hby at_37) ?_
    show Steps p.tables e below (T3.setTop (mkF m 38 #[.val (.long q1), .second, .val (.int p2), .val (.int p3), .val (.int p4), .val (.int (p2 &&& (255 : Int32))), .val (.long (f0_1 q1 p2 p3 p4)), .second, .unset, .unset, .unset, .unset, .unset] [(.int (1 : Int32)), (.int p4)])) _
    refine XS.iand X3.here hx rfl (hb hby at_38) rfl ?_
    show Steps p.tables e below (T3.setTop (mkF m 39 #[.val (.long q1), .second, .val (.int p2), .val (.int p3), .val (.int p4), .val (.int (p2 &&& (255 : Int32))), .val (.long (f0_1 q1 p2 p3 p4)), .second, .unset, .unset, .unset, .unset, .unset] [(.int (p4 &&& (1 : Int32)))])) _
    refine st6 _ ?_
    show Steps p.tables e below (T6.setTop (mkF m 55 #[.val (.long q1), .second, .val (.int p2), .val (.int p3), .val (.int p4), .val (.int (p2 &&& (255 : Int32))), .val (.long (f0_3 q1 p2 p3 p4)), .second, .unset, .unset, .unset, .unset, .unset] [])) _
    refine XS.iload X6.here hx rfl (hb hby at_55) rfl ?_
    show Steps p.tables e below (T6.setTop (mkF m 57 #[.val (.long q1), .second, .val (.int p2), .val (.int p3), .val (.int p4), .val (.int (p2 &&& (255 : Int32))), .val (.long (f0_3 q1 p2 p3 p4)), .second, .unset, .unset, .unset, .unset, .unset] [(.int p4)])) _
    refine XS.iconst X6.here hx rfl (hb hby at_57) ?_
    show Steps p.tables e below (T6.setTop (mkF m 58 #[.val (.long q1), .second, .val (.int p2), .val (.int p3), .val (.int p4), .val (.int (p2 &&& (255 : Int32))), .val (.long (f0_3 q1 p2 p3 p4)), .second, .unset, .unset, .unset, .unset, .unset] [(.int (2 : Int32)), (.int p4)])) _
    refine XS.iand X6.here hx rfl (hb hby at_58) rfl ?_
    show Steps p.tables e below (T6.setTop (mkF m 59 #[.val (.long q1), .second, .val (.int p2), .val (.int p3), .val (.int p4), .val (.int (p2 &&& (255 : Int32))), .val (.long (f0_3 q1 p2 p3 p4)), .second, .unset, .unset, .unset, .unset, .unset] [(.int (p4 &&& (2 : Int32)))])) _
    refine st9 _ ?_
    show Steps p.tables e below (T9.setTop (mkF m 77 #[.val (.long q1), .second, .val (.int p2), .val (.int p3), .val (.int p4), .val (.int (p2 &&& (255 : Int32))), .val (.long (f0_5 q1 p2 p3 p4)), .second, .unset, .unset, .unset, .unset, .unset] [])) _
    refine XT.lload X9.here hx rfl (hb hby at_77) rfl ?_
    show Steps p.tables e below (T9.setTop (mkF m 79 #[.val (.long q1), .second, .val (.int p2), .val (.int p3), .val (.int p4), .val (.int (p2 &&& (255 : Int32))), .val (.long (f0_5 q1 p2 p3 p4)), .second, .unset, .unset, .unset, .unset, .unset] [(.long (f0_5 q1 p2 p3 p4))])) _
    refine XS.iloadN X9.here hx rfl (hb hby at_79) rfl ?_
    show Steps p.tables e below (T9.setTop (mkF m 80 #[.val (.long q1), .second, .val (.int p2), .val (.int p3), .val (.int p4), .val (.int (p2 &&& (255 : Int32))), .val (.long (f0_5 q1 p2 p3 p4)), .second, .unset, .unset, .unset, .unset, .unset] [(.int p2), (.long (f0_5 q1 p2 p3 p4))])) _
    refine XT.i2b X9.here hx rfl (hb hby at_80) rfl ?_
    show Steps p.tables e below (T9.setTop (mkF m 81 #[.val (.long q1), .second, .val (.int p2), .val (.int p3), .val (.int p4), .val (.int (p2 &&& (255 : Int32))), .val (.long (f0_5 q1 p2 p3 p4)), .second, .unset, .unset, .unset, .unset, .unset] [(.int p2.toInt8.toInt32), (.long (f0_5 q1 p2 p3 p4))])) _
    refine st10 _ ?_
    show Steps p.tables e below (T10.setTop (mkF m 84 #[.val (.long q1), .second, .val (.int p2), .val (.int p3), .val (.int p4), .val (.int (p2 &&& (255 : Int32))), .val (.long (f0_5 q1 p2 p3 p4)), .second, .unset, .unset, .unset, .unset, .unset] [(.long (f1 (f0_5 q1 p2 p3 p4) p2.toInt8.toInt32))])) _
    refine XT.lstore X10.here hx rfl (hb hby at_84) rfl (l' := #[.val (.long q1), .second, .val (.int p2), .val (.int p3), .val (.int p4), .val (.int (p2 &&& (255 : Int32))), .val (.long (f0_5 q1 p2 p3 p4)), .second, .val (.long (f1 (f0_5 q1 p2 p3 p4) p2.toInt8.toInt32)), .second, .unset, .unset, .unset]) rfl ?_
    show Steps p.tables e below (T10.setTop (mkF m 86 #[.val (.long q1), .second, .val (.int p2), .val (.int p3), .val (.int p4), .val (.int (p2 &&& (255 : Int32))), .val (.long (f0_5 q1 p2 p3 p4)), .second, .val (.long (f1 (f0_5 q1 p2 p3 p4) p2.toInt8.toInt32)), .second, .unset, .unset, .unset] [])) _
    refine XT.lload X10.here hx rfl (hb hby at_86) rfl ?_
    show Steps p.tables e below (T10.setTop (mkF m 88 #[.val (.long q1), .second, .val (.int p2), .val (.int p3), .val (.int p4), .val (.int (p2 &&& (255 : Int32))), .val (.long (f0_5 q1 p2 p3 p4)), .second, .val (.long (f1 (f0_5 q1 p2 p3 p4) p2.toInt8.toInt32)), .second, .unset, .unset, .unset] [(.long (f0_5 q1 p2 p3 p4))])) _
    refine XS.iload X10.here hx rfl (hb hby at_88) rfl ?_
    show Steps p.tables e below (T10.setTop (mkF m 90 #[.val (.long q1), .second, .val (.int p2), .val (.int p3), .val (.int p4), .val (.int (p2 &&& (255 : Int32))), .val (.long (f0_5 q1 p2 p3 p4)), .second, .val (.long (f1 (f0_5 q1 p2 p3 p4) p2.toInt8.toInt32)), .second, .unset, .unset, .unset] [(.int (p2 &&& (255 : Int32))), (.long (f0_5 q1 p2 p3 p4))])) _
    refine st11 _ ?_
    show Steps p.tables e below (T11.setTop (mkF m 93 #[.val (.long q1), .second, .val (.int p2), .val (.int p3), .val (.int p4), .val (.int (p2 &&& (255 : Int32))), .val (.long (f0_5 q1 p2 p3 p4)), .second, .val (.long (f1 (f0_5 q1 p2 p3 p4) p2.toInt8.toInt32)), .second, .unset, .unset, .unset] [(.int (f3 (f0_5 q1 p2 p3 p4) (p2 &&& (255 : Int32))))])) _
    refine XS.istore X11.here hx rfl (hb hby at_93) rfl (l' := #[.val (.long q1), .second, .val (.int p2), .val (.int p3), .val (.int p4), .val (.int (p2 &&& (255 : Int32))), .val (.long (f0_5 q1 p2 p3 p4)), .second, .val (.long (f1 (f0_5 q1 p2 p3 p4) p2.toInt8.toInt32)), .second, .val (.int (f3 (f0_5 q1 p2 p3 p4) (p2 &&& (255 : Int32)))), .unset, .unset]) rfl ?_
    show Steps p.tables e below (T11.setTop (mkF m 95 #[.val (.long q1), .second, .val (.int p2), .val (.int p3), .val (.int p4), .val (.int (p2 &&& (255 : Int32))), .val (.long (f0_5 q1 p2 p3 p4)), .second, .val (.long (f1 (f0_5 q1 p2 p3 p4) p2.toInt8.toInt32)), .second, .val (.int (f3 (f0_5 q1 p2 p3 p4) (p2 &&& (255 : Int32)))), .unset, .unset] [])) _
    refine XS.iload X11.here hx rfl (hb hby at_95) rfl ?_
    show Steps p.tables e below (T11.setTop (mkF m 97 #[.val (.long q1), .second, .val (.int p2), .val (.int p3), .val (.int p4), .val (.int (p2 &&& (255 : Int32))), .val (.long (f0_5 q1 p2 p3 p4)), .second, .val (.long (f1 (f0_5 q1 p2 p3 p4) p2.toInt8.toInt32)), .second, .val (.int (f3 (f0_5 q1 p2 p3 p4) (p2 &&& (255 : Int32)))), .unset, .unset] [(.int (f3 (f0_5 q1 p2 p3 p4) (p2 &&& (255 : Int32))))])) _
    refine XS.bipush X11.here hx rfl (hb hby at_97) ?_
    show Steps p.tables e below (T11.setTop (mkF m 99 #[.val (.long q1), .second, .val (.int p2), .val (.int p3), .val (.int p4), .val (.int (p2 &&& (255 : Int32))), .val (.long (f0_5 q1 p2 p3 p4)), .second, .val (.long (f1 (f0_5 q1 p2 p3 p4) p2.toInt8.toInt32)), .second, .val (.int (f3 (f0_5 q1 p2 p3 p4) (p2 &&& (255 : Int32)))), .unset, .unset] [(.int (8 : Int32)), (.int (f3 (f0_5 q1 p2 p3 p4) (p2 &&& (255 : Int32))))])) _
    refine st13 _ ?_
    show Steps p.tables e below (T11.setTop (mkF m 116 #[.val (.long q1), .second, .val (.int p2), .val (.int p3), .val (.int p4), .val (.int (p2 &&& (255 : Int32))), .val (.long (f0_5 q1 p2 p3 p4)), .second, .val (.long (f1 (f0_5 q1 p2 p3 p4) p2.toInt8.toInt32)), .second, .val (.int (f3 (f0_5 q1 p2 p3 p4) (p2 &&& (255 : Int32)))), .unset, .unset] [(.long (f0_8 q1 p2 p3 p4))])) _
    refine XT.lstore X11.here hx rfl (hb hby at_116) rfl (l' := #[.val (.long q1), .second, .val (.int p2), .val (.int p3), .val (.int p4), .val (.int (p2 &&& (255 : Int32))), .val (.long (f0_5 q1 p2 p3 p4)), .second, .val (.long (f1 (f0_5 q1 p2 p3 p4) p2.toInt8.toInt32)), .second, .val (.int (f3 (f0_5 q1 p2 p3 p4) (p2 &&& (255 : Int32)))), .val (.long (f0_8 q1 p2 p3 p4)), .second]) rfl ?_
    show Steps p.tables e below (T11.setTop (mkF m 118 #[.val (.long q1), .second, .val (.int p2), .val (.int p3), .val (.int p4), .val (.int (p2 &&& (255 : Int32))), .val (.long (f0_5 q1 p2 p3 p4)), .second, .val (.long (f1 (f0_5 q1 p2 p3 p4) p2.toInt8.toInt32)), .second, .val (.int (f3 (f0_5 q1 p2 p3 p4) (p2 &&& (255 : Int32)))), .val (.long (f0_8 q1 p2 p3 p4)), .second] [])) _
    refine XT.lload X11.here hx rfl (hb hby at_118) rfl ?_
    show Steps p.tables e below (T11.setTop (mkF m 120 #[.val (.long q1), .second, .val (.int p2), .val (.int p3), .val (.int p4), .val (.int (p2 &&& (255 : Int32))), .val (.long (f0_5 q1 p2 p3 p4)), .second, .val (.long (f1 (f0_5 q1 p2 p3 p4) p2.toInt8.toInt32)), .second, .val (.int (f3 (f0_5 q1 p2 p3 p4) (p2 &&& (255 : Int32)))), .val (.long (f0_8 q1 p2 p3 p4)), .second] [(.long (f1 (f0_5 q1 p2 p3 p4) p2.toInt8.toInt32))])) _
    refine XT.lload X11.here hx rfl (hb hby at_120) rfl ?_
    show Steps p.tables e below (T11.setTop (mkF m 122 #[.val (.long q1), .second, .val (.int p2), .val (.int p3), .val (.int p4), .val (.int (p2 &&& (255 : Int32))), .val (.long (f0_5 q1 p2 p3 p4)), .second, .val (.long (f1 (f0_5 q1 p2 p3 p4) p2.toInt8.toInt32)), .second, .val (.int (f3 (f0_5 q1 p2 p3 p4) (p2 &&& (255 : Int32)))), .val (.long (f0_8 q1 p2 p3 p4)), .second] [(.long (f1 (f0_5 q1 p2 p3 p4) p2.toInt8.toInt32)), (.long (f1 (f0_5 q1 p2 p3 p4) p2.toInt8.toInt32))])) _
    refine XT.lneg X11.here hx rfl (hb hby at_122) rfl ?_
    show Steps p.tables e below (T11.setTop (mkF m 123 #[.val (.long q1), .second, .val (.int p2), .val (.int p3), .val (.int p4), .val (.int (p2 &&& (255 : Int32))), .val (.long (f0_5 q1 p2 p3 p4)), .second, .val (.long (f1 (f0_5 q1 p2 p3 p4) p2.toInt8.toInt32)), .second, .val (.int (f3 (f0_5 q1 p2 p3 p4) (p2 &&& (255 : Int32)))), .val (.long (f0_8 q1 p2 p3 p4)), .second] [(.long (-(f1 (f0_5 q1 p2 p3 p4) p2.toInt8.toInt32))), (.long (f1 (f0_5 q1 p2 p3 p4) p2.toInt8.toInt32))])) _
    refine XT.land X11.here hx rfl (hb hby at_123) rfl ?_
    show Steps p.tables e below (T11.setTop (mkF m 124 #[.val (.long q1), .second, .val (.int p2), .val (.int p3), .val (.int p4), .val (.int (p2 &&& (255 : Int32))), .val (.long (f0_5 q1 p2 p3 p4)), .second, .val (.long (f1 (f0_5 q1 p2 p3 p4) p2.toInt8.toInt32)), .second, .val (.int (f3 (f0_5 q1 p2 p3 p4) (p2 &&& (255 : Int32)))), .val (.long (f0_8 q1 p2 p3 p4)), .second] [(.long (f0_9 q1 p2 p3 p4))])) _
    refine XT.lload X11.here hx rfl (hb hby at_124) rfl ?_
    show Steps p.tables e below (T11.setTop (mkF m 126 #[.val (.long q1), .second, .val (.int p2), .val (.int p3), .val (.int p4), .val (.int (p2 &&& (255 : Int32))), .val (.long (f0_5 q1 p2 p3 p4)), .second, .val (.long (f1 (f0_5 q1 p2 p3 p4) p2.toInt8.toInt32)), .second, .val (.int (f3 (f0_5 q1 p2 p3 p4) (p2 &&& (255 : Int32)))), .val (.long (f0_8 q1 p2 p3 p4)), .second] [(.long (f0_8 q1 p2 p3 p4)), (.long (f0_9 q1 p2 p3 p4))])) _
    refine XT.lcmp X11.here hx rfl (hb hby at_126) rfl ?_
    show Steps p.tables e below (T11.setTop (mkF m 127 #[.val (.long q1), .second, .val (.int p2), .val (.int p3), .val (.int p4), .val (.int (p2 &&& (255 : Int32))), .val (.long (f0_5 q1 p2 p3 p4)), .second, .val (.long (f1 (f0_5 q1 p2 p3 p4) p2.toInt8.toInt32)), .second, .val (.int (f3 (f0_5 q1 p2 p3 p4) (p2 &&& (255 : Int32)))), .val (.long (f0_8 q1 p2 p3 p4)), .second] [(.int (XT.cmpL (f0_9 q1 p2 p3 p4) (f0_8 q1 p2 p3 p4)))])) _
    refine st15 _ ?_
    show Steps p.tables e below (T11.setTop (mkF m 135 #[.val (.long q1), .second, .val (.int p2), .val (.int p3), .val (.int p4), .val (.int (p2 &&& (255 : Int32))), .val (.long (f0_5 q1 p2 p3 p4)), .second, .val (.long (f1 (f0_5 q1 p2 p3 p4) p2.toInt8.toInt32)), .second, .val (.int (f3 (f0_5 q1 p2 p3 p4) (p2 &&& (255 : Int32)))), .val (.long (f0_8 q1 p2 p3 p4)), .second] [(.int (f0_10 q1 p2 p3 p4))])) _
    exact retN X11 hx (t := .boolean) Bd.returns (by simp) (hb hby at_135) hr
  · show Q0 Z q1 p2 p3 p4 h0 n0 _ T11.heap _
    rw [e11]
    exact ⟨congrArg (fun z => some (Value.int z)) ((show f0 q1 p2 p3 p4 = ((f0_10 q1 p2 p3 p4) &&& 1) from by rfl).symm.trans (own_law q1 p2 p3 p4)), N11⟩
set_option maxRecDepth 65536 in
set_option maxHeartbeats 40000000 in
theorem comes_1 {Post : Tables → Env → Array Value → State → Outcome → State → Prop} (hpost : ∀ tb e args s v u, (limb_1_1.after args s (.returned v) u = true ∧ limb_1_2.after args s (.returned v) u = true ∧ True) → FrameEnd s (.returned v) u (Jvm.fieldLocs frame_1_writes args s ++ Jvm.arrayLocs frame_1_arrays args s ++ Jvm.staticLocs frame_1_statics s) 0 0 → Post tb e args s (.returned v) u) :
    ArmFor flags0 classFile x code maxLocals ret World_1 tables_1 room_1 Calls_1 rest_1 Pre_1 Post := by
  intro l hfl _ _ p e ha hc hk s m args below hf hA hF happ hP
  obtain ⟨hcalls, hrest, hpre⟩ := hP
  obtain ⟨-, -, -, hnamed, -, -, -, hat⟩ := (Spec.applies_iff hf).mp happ
  obtain ⟨hg, hn⟩ := and_e (Cond.before_iff.mp (show (Jvm.Cond.and given_1 narrow_1).before args s = true from hpre))
  obtain ⟨hcnt, hg0⟩ := and_e hg
  obtain ⟨hi0, hg1⟩ := and_e hg0
  obtain ⟨hi1, hg2⟩ := and_e hg1
  obtain ⟨hi2, hg3⟩ := and_e hg2
  obtain ⟨w0, w1, w2, w3, rfl⟩ : ∃ w0 w1 w2 w3 : Value, args = #[w0, w1, w2, w3] := by
    have hs : args.size = 4 := by simpa [Cond.value, given_1] using hcnt
    obtain ⟨L⟩ := args
    match L, hs with
    | [w0, w1, w2, w3], _ => exact ⟨w0, w1, w2, w3, rfl⟩
  have hw := fun d (hd : d ∈ tables_1) => atoms_spec (ws := Jvm.Cond.code x code maxLocals ret :: tables_1) hat d (List.mem_cons_of_mem _ hd)
  have hfit : Fit s := fun {y c} hc i hi => by
    obtain ⟨ha, rfl⟩ := Array.getElem?_eq_some_iff.mp hc
    have q := List.all_eq_true.mp ((Array.all_eq_true_iff_forall_mem.mp hF) _ (Array.getElem_mem ha)) i (List.mem_range.mpr hi)
    simpa [Array.getElem?_eq_getElem hi] using q
  obtain ⟨i0, ei0⟩ := isL_v hi0
  obtain rfl : w0 = (.long i0) := Option.some.inj ei0
  obtain ⟨i1, ei1⟩ := is_v hi1
  obtain rfl : w1 = (.int i1) := Option.some.inj ei1
  obtain ⟨i2, ei2⟩ := is_v hi2
  obtain rfl : w2 = (.int i2) := Option.some.inj ei2
  obtain ⟨i3, ei3⟩ := is_v hg3
  obtain rfl : w3 = (.int i3) := Option.some.inj ei3
  obtain ⟨n, o, h1, h2, h3, _, L, rfl, ⟨rfl, N⟩, hq⟩ := rm0 l s _ hw tables_1 i0 i1 i2 i3 s.heap s.heap.size (Nat.le_refl _) p e ha hc hk s m _ below hf ((Spec.applies_iff_loose hf).mp happ).1 ⟨rfl, State.Warmed39.refl s, rfl⟩ trivial
  refine ⟨n, _, h1, h2, h3, hpost _ _ _ _ _ _ ⟨Cond.after_iff.mpr rfl, Cond.after_iff.mpr (eq_i res_at (Term.int_eval (1)) rfl), trivial⟩ ⟨hq.1, hq.2.1, (hq.2.2.sift fun y hy => Or.inr (N y hy)).mono (by decide) (by decide)⟩⟩
theorem main_1_1 : Claimed_1_1 := comes_1 fun _ _ _ _ _ _ h hF => ⟨h.1, hF⟩
theorem main_1_2 : Claimed_1_2 := comes_1 fun _ _ _ _ _ _ h hF => ⟨h.2.1, hF⟩
end Jvm.Pilot.@@N@@
namespace Jvm.Pilot.@@N@@
open Jvm Jvm.ClassFile Sem Op Lib Jvm.Free Jvm.Stand Jvm.Pilot.@@N@@.Jvm.D
/-! MADE BY PROGRAM (witnessworld.py) out of the Statement's table words and the real class files: 9 classes; the members and pool entries that the words name. The judged class is class 1, her method 1. -/
namespace start1
open Jvm.ClassFile
def u (s : String) : CpInfo := .utf8 (stringToUtf16 s)
/-- a pool by its gaps: so many unusable entries, then the entry; so many at the end -/
def gap : Nat → List CpInfo → List CpInfo
  | 0, r => r
  | n + 1, r => .unusable :: gap n r
def poolList (es : List (Nat × CpInfo)) (last : Nat) : List CpInfo := es.foldr (fun e r => gap e.1 (e.2 :: r)) (gap last [])
def pool (es : List (Nat × CpInfo)) (last : Nat) : Array CpInfo := ⟨poolList es last⟩
def fileOf (pool : Array CpInfo) (this : Nat) (attrs : Array Attribute := #[]) (ms : Array MethodInfo := #[]) (fl : Nat := 33) (sup : Nat := 0) (ifs : Array Nat := #[]) (fds : Array FieldInfo := #[]) : ClassFile where
  minorVersion := 0
  majorVersion := 65
  constantPool := pool
  accessFlags := fl
  thisClass := this
  superClass := sup
  interfaces := ifs
  fields := fds
  methods := ms
  attributes := attrs
def plain (name : String) (sup : Option ClassId) : Class where
  name := name
  kind := .ordinary
  loader := none
  accessFlags := 33
  super := sup
  interfaces := #[]
  cf := none
  fields := #[]
  methods := #[]
  instanceTypes := #[]
  staticTypes := #[]
  resolved := #[]
  callSites := []
  init := .initialized
  statics := none
  mirror := none

def pool0 : Array CpInfo := pool [(5, u "<init>"), (0, u "()V"), (1, .class_ 10), (1, u "java/lang/Object")] 113

def k0m0 : Method := { name := "<init>", desc := "()V", sig := { parameters := [], returnType := none }, accessFlags := 1, code := none }
/-- java/lang/Object -/
def k0 : Class := { plain "java/lang/Object" none with
  accessFlags := 33
  interfaces := #[]
  cf := some (fileOf pool0 8 #[] #[{ accessFlags := 1, nameIndex := 5, descriptorIndex := 6, attributes := #[] }] 33 0 #[] #[])
  fields := #[]
  methods := #[k0m0]
  instanceTypes := #[]
  staticTypes := #[]
  resolved := Array.replicate 124 none
  statics := none }

def pool1 : Array CpInfo := pool [(2, .class_ 4), (1, u "java/lang/Object"), (0, u "<init>"), (0, u "()V"), (0, .methodref 8 9), (0, .class_ 10), (0, .nameAndType 11 12), (0, u "com/example/apportion/apportion/WordsEqualPinLaw"), (0, u "put"), (0, u "(JII)J"), (0, .methodref 14 15), (0, .class_ 16), (0, .nameAndType 17 18), (0, u "com/example/apportion/apportion/Words"), (0, u "equal"), (0, u "(JB)J"), (0, .methodref 8 20), (0, .nameAndType 21 22), (0, u "firstEq"), (0, u "(JI)I"), (0, .long 255), (1, .long 18446744073709551615), (1, .methodref 8 28), (0, .nameAndType 29 22), (0, u "byteAt"), (2, u "law"), (0, u "(JIII)Z")] 3

def k1m0 : Method := { name := "<init>", desc := "()V", sig := { parameters := [], returnType := none }, accessFlags := 2, code := none }
def k1c1 : Code := { maxStack := 5, maxLocals := 13, code := code, exceptionTable := #[], attributes := #[] }
def k1m1 : Method := { name := "law", desc := "(JIII)Z", sig := { parameters := [.long, .int, .int, .int], returnType := some .boolean }, accessFlags := 9, code := some k1c1 }
def k1c2 : Code := { maxStack := 6, maxLocals := 5, code := method_3_code, exceptionTable := #[], attributes := #[] }
def k1m2 : Method := { name := "put", desc := "(JII)J", sig := { parameters := [.long, .int, .int], returnType := some .long }, accessFlags := 10, code := some k1c2 }
def k1c3 : Code := { maxStack := 4, maxLocals := 3, code := method_4_code, exceptionTable := #[], attributes := #[] }
def k1m3 : Method := { name := "byteAt", desc := "(JI)I", sig := { parameters := [.long, .int], returnType := some .int }, accessFlags := 10, code := some k1c3 }
def k1c4 : Code := { maxStack := 3, maxLocals := 3, code := method_5_code, exceptionTable := #[], attributes := #[] }
def k1m4 : Method := { name := "firstEq", desc := "(JI)I", sig := { parameters := [.long, .int], returnType := some .int }, accessFlags := 10, code := some k1c4 }
/-- com/example/apportion/apportion/WordsEqualPinLaw -/
def k1 : Class := { plain "com/example/apportion/apportion/WordsEqualPinLaw" (some 0) with
  accessFlags := 49
  interfaces := #[]
  cf := some (fileOf pool1 8 #[] #[{ accessFlags := 2, nameIndex := 5, descriptorIndex := 6, attributes := #[] }, { accessFlags := 9, nameIndex := 32, descriptorIndex := 33, attributes := #[] }, { accessFlags := 10, nameIndex := 11, descriptorIndex := 12, attributes := #[] }, { accessFlags := 10, nameIndex := 29, descriptorIndex := 22, attributes := #[] }, { accessFlags := 10, nameIndex := 21, descriptorIndex := 22, attributes := #[] }] 49 2 #[] #[])
  fields := #[]
  methods := #[k1m0, k1m1, k1m2, k1m3, k1m4]
  instanceTypes := #[]
  staticTypes := #[]
  resolved := Array.replicate 37 none
  statics := none }

def pool2 : Array CpInfo := pool [(2, .class_ 4), (1, u "java/lang/Object"), (0, u "<init>"), (0, u "()V"), (1, .class_ 10), (1, u "com/example/apportion/apportion/Words"), (0, u "LONGS"), (0, u "Ljava/lang/invoke/VarHandle;"), (6, .long 72340172838076673), (1, .methodref 8 22), (0, .nameAndType 23 24), (0, u "below"), (0, u "(JI)J"), (0, .long 18446744073709551615), (1, .long 9259542123273814144), (23, u "ONES"), (0, u "J"), (1, u "TOPS"), (3, u "equal"), (0, u "(JB)J")] 6

def k2m0 : Method := { name := "<init>", desc := "()V", sig := { parameters := [], returnType := none }, accessFlags := 2, code := none }
def k2c1 : Code := { maxStack := 6, maxLocals := 3, code := prog_19_method_3_code, exceptionTable := #[], attributes := #[] }
def k2m1 : Method := { name := "equal", desc := "(JB)J", sig := { parameters := [.long, .byte], returnType := some .long }, accessFlags := 8, code := some k2c1 }
def k2c2 : Code := { maxStack := 6, maxLocals := 3, code := prog_19_method_4_code, exceptionTable := #[], attributes := #[] }
def k2m2 : Method := { name := "below", desc := "(JI)J", sig := { parameters := [.long, .int], returnType := some .long }, accessFlags := 8, code := some k2c2 }
/-- com/example/apportion/apportion/Words -/
def k2 : Class := { plain "com/example/apportion/apportion/Words" (some 0) with
  accessFlags := 48
  interfaces := #[]
  cf := some (fileOf pool2 8 #[] #[{ accessFlags := 2, nameIndex := 5, descriptorIndex := 6, attributes := #[] }, { accessFlags := 8, nameIndex := 58, descriptorIndex := 59, attributes := #[] }, { accessFlags := 8, nameIndex := 23, descriptorIndex := 24, attributes := #[] }] 48 2 #[] #[{ accessFlags := 26, nameIndex := 11, descriptorIndex := 12, attributes := #[] }, { accessFlags := 26, nameIndex := 51, descriptorIndex := 52, attributes := #[] }, { accessFlags := 26, nameIndex := 54, descriptorIndex := 52, attributes := #[] }])
  fields := #[{ name := "LONGS", type := (.object "java/lang/invoke/VarHandle"), accessFlags := 26, slot := 0, constantValue := 0 }, { name := "ONES", type := .long, accessFlags := 26, slot := 1, constantValue := 0 }, { name := "TOPS", type := .long, accessFlags := 26, slot := 2, constantValue := 0 }]
  methods := #[k2m0, k2m1, k2m2]
  instanceTypes := #[]
  staticTypes := #[(.object "java/lang/invoke/VarHandle"), .long, .long]
  resolved := Array.replicate 66 none
  statics := none }

def pool3 : Array CpInfo := pool [(1, u "java/lang/Cloneable"), (0, .class_ 1), (0, u "java/lang/Object"), (0, .class_ 3)] 3

/-- java/lang/Cloneable -/
def k3 : Class := { plain "java/lang/Cloneable" (some 0) with
  accessFlags := 1537
  interfaces := #[]
  cf := some (fileOf pool3 2 #[] #[] 1537 4 #[] #[])
  fields := #[]
  methods := #[]
  instanceTypes := #[]
  staticTypes := #[]
  resolved := Array.replicate 8 none
  statics := none }

def pool4 : Array CpInfo := pool [(1, u "java/io/Serializable"), (0, .class_ 1), (0, u "java/lang/Object"), (0, .class_ 3)] 3

/-- java/io/Serializable -/
def k4 : Class := { plain "java/io/Serializable" (some 0) with
  accessFlags := 1537
  interfaces := #[]
  cf := some (fileOf pool4 2 #[] #[] 1537 4 #[] #[])
  fields := #[]
  methods := #[]
  instanceTypes := #[]
  staticTypes := #[]
  resolved := Array.replicate 8 none
  statics := none }

/-- the primitive byte -/
def k5 : Class := { plain "byte" none with kind := .primitive 'B', accessFlags := 0x411 }
/-- [B -/
def k6 : Class := { plain "[B" (some 0) with kind := .array 5 .byte, interfaces := #[3, 4], accessFlags := 1041 }

/-- the primitive int -/
def k7 : Class := { plain "int" none with kind := .primitive 'I', accessFlags := 0x411 }
/-- [I -/
def k8 : Class := { plain "[I" (some 0) with kind := .array 7 .int, interfaces := #[3, 4], accessFlags := 1041 }

def heap : Heap := #[]
def classes : Array Class := #[k0, k1, k2, k3, k4, k5, k6, k7, k8]
def interned : List (Array UInt16 × Addr) := []
def slotsUsed : Nat := 0
def theMethod : MethodId := ⟨1, 1⟩
def args0 : Array Value := #[.long 5, .int 7, .int 3, .int 1]
def aboutOver (below : List Frame) : State where
  vm := { classes := classes, interned := interned.toArray }
  heap := heap
  slotsUsed := slotsUsed
  threads := #[{ frames := .invoking theMethod args0 :: below }]
def below0 : List Frame := [.native { method := ⟨0, 0⟩, args := #[] }]
def about1 : State := aboutOver below0
def p0 : Program := .bare "" "" ""
def e0 : Env := launch0.env 0 0 0
theorem w_frames : about1.frames = Frame.invoking theMethod args0 :: below0 := rfl
set_option maxRecDepth 65536 in
theorem w_args : argsFit about1.vm theMethod args0 = true := by decide +kernel
set_option maxRecDepth 65536 in
theorem w_heap : heapFits about1 = true := by decide +kernel
set_option maxRecDepth 65536 in
theorem w_runnable : about1.curStatus? = some .runnable := by decide +kernel
set_option maxRecDepth 65536 in
theorem w_alone : about1.alone = true := by decide +kernel
set_option maxRecDepth 65536 in
theorem w_named : about1.methodNamed? x = some theMethod := by decide +kernel
set_option maxRecDepth 65536 in
theorem w_hears : about1.hears theMethod below0 = true := by decide +kernel
set_option maxRecDepth 65536 in
theorem w_ripe : about1.ripe theMethod args0 below0 = true := by decide +kernel
theorem w_running : about1.status = .running := rfl
set_option maxRecDepth 65536 in
theorem w_room : about1.hasRoom e0.platform room_1 = true :=
  launch0.hasRoom_least _ room_1 (by decide +kernel) (by decide +kernel) (by decide +kernel) (by decide +kernel) (by decide +kernel) (by decide +kernel)
theorem allAtoms_all (ts : List Jvm.Cond) (a : Array Jvm.Value) (st : Jvm.State) : (allAtoms ts).before a st = ts.all (fun c => c.before a st) := by
  induction ts with
  | nil => rfl
  | cons c t ih =>
    show (Jvm.Cond.and c (allAtoms t)).before a st = _
    rw [Jvm.Cond.before_and, ih, List.all_cons]
def words1 : List Jvm.Cond := Jvm.Cond.code x code maxLocals ret :: tables_1
/-- a 'code' word, met by the world's own term for the bytes: nothing is compared byte by byte -/
theorem code_word {y : MethodName} {bytes : ByteArray} {mx : Nat} {rt : Option FieldType} {a : Array Value} {s : State} {m : MethodId} {meth : Method} {c : Code} (h1 : s.methodNamed? y = some m) (h2 : s.vm.method? m = some meth) (h3 : meth.code = some c) (h4 : c.code = bytes)
    (h5 : (c.maxLocals == mx && c.exceptionTable.isEmpty && decide (c.maxStack ≤ mostOperands) && decide (meth.sig.returnType = rt) && !meth.locks && decide (parseMethodDescriptor y.desc = some meth.sig)) = true) : (Jvm.Cond.code y bytes mx rt).before a s = true := by
  simp only [Bool.and_eq_true, beq_iff_eq, Bool.not_eq_true', decide_eq_true_eq] at h5
  obtain ⟨⟨⟨⟨⟨g1, g2⟩, g3⟩, g4⟩, g5⟩, g6⟩ := h5
  simp [Cond.before, Cond.holds, Cond.value, h1, h2, h3, h4, g1, g2, g3, g4, g5, g6]
def isCode : Jvm.Cond → Bool
  | .code _ _ _ _ => true
  | _ => false
theorem all_split {L : List Jvm.Cond} {P : Jvm.Cond → Bool} (h1 : L.all (fun c => isCode c || P c) = true) (h2 : ∀ c ∈ L.filter isCode, P c = true) : L.all P = true := by
  refine List.all_eq_true.mpr fun c hc => ?_
  have h := List.all_eq_true.mp h1 c hc
  rcases Bool.eq_false_or_eq_true (isCode c) with hi | hi
  · exact h2 c (List.mem_filter.mpr ⟨hc, hi⟩)
  · simpa [hi] using h
set_option maxRecDepth 65536 in
theorem w_c0 : (Jvm.Cond.code x code maxLocals ret).before args0 about1 = true := code_word (m := ⟨1, 1⟩) (meth := k1m1) (c := k1c1) (by decide +kernel) rfl rfl rfl (by decide +kernel)
set_option maxRecDepth 65536 in
theorem w_c1 : (Jvm.Cond.code ({ cls := "com/example/apportion/apportion/Words", name := "equal", desc := "(JB)J" } : Jvm.MethodName) prog_19_method_3_code (3 : Nat) (Option.some Jvm.ClassFile.FieldType.long)).before args0 about1 = true := code_word (m := ⟨2, 1⟩) (meth := k2m1) (c := k2c1) (by decide +kernel) rfl rfl rfl (by decide +kernel)
set_option maxRecDepth 65536 in
theorem w_c2 : (Jvm.Cond.code ({ cls := "com/example/apportion/apportion/Words", name := "below", desc := "(JI)J" } : Jvm.MethodName) prog_19_method_4_code (3 : Nat) (Option.some Jvm.ClassFile.FieldType.long)).before args0 about1 = true := code_word (m := ⟨2, 2⟩) (meth := k2m2) (c := k2c2) (by decide +kernel) rfl rfl rfl (by decide +kernel)
set_option maxRecDepth 65536 in
theorem w_c3 : (Jvm.Cond.code ({ cls := "com/example/apportion/apportion/WordsEqualPinLaw", name := "firstEq", desc := "(JI)I" } : Jvm.MethodName) method_5_code (3 : Nat) (Option.some Jvm.ClassFile.FieldType.int)).before args0 about1 = true := code_word (m := ⟨1, 4⟩) (meth := k1m4) (c := k1c4) (by decide +kernel) rfl rfl rfl (by decide +kernel)
set_option maxRecDepth 65536 in
theorem w_c4 : (Jvm.Cond.code ({ cls := "com/example/apportion/apportion/WordsEqualPinLaw", name := "byteAt", desc := "(JI)I" } : Jvm.MethodName) method_4_code (3 : Nat) (Option.some Jvm.ClassFile.FieldType.int)).before args0 about1 = true := code_word (m := ⟨1, 3⟩) (meth := k1m3) (c := k1c3) (by decide +kernel) rfl rfl rfl (by decide +kernel)
set_option maxRecDepth 65536 in
theorem w_c5 : (Jvm.Cond.code ({ cls := "com/example/apportion/apportion/WordsEqualPinLaw", name := "put", desc := "(JII)J" } : Jvm.MethodName) method_3_code (5 : Nat) (Option.some Jvm.ClassFile.FieldType.long)).before args0 about1 = true := code_word (m := ⟨1, 2⟩) (meth := k1m2) (c := k1c2) (by decide +kernel) rfl rfl rfl (by decide +kernel)
def codes1 : List Jvm.Cond := [Jvm.Cond.code x code maxLocals ret, Jvm.Cond.code ({ cls := "com/example/apportion/apportion/Words", name := "equal", desc := "(JB)J" } : Jvm.MethodName) prog_19_method_3_code (3 : Nat) (Option.some Jvm.ClassFile.FieldType.long), Jvm.Cond.code ({ cls := "com/example/apportion/apportion/Words", name := "below", desc := "(JI)J" } : Jvm.MethodName) prog_19_method_4_code (3 : Nat) (Option.some Jvm.ClassFile.FieldType.long), Jvm.Cond.code ({ cls := "com/example/apportion/apportion/WordsEqualPinLaw", name := "firstEq", desc := "(JI)I" } : Jvm.MethodName) method_5_code (3 : Nat) (Option.some Jvm.ClassFile.FieldType.int), Jvm.Cond.code ({ cls := "com/example/apportion/apportion/WordsEqualPinLaw", name := "byteAt", desc := "(JI)I" } : Jvm.MethodName) method_4_code (3 : Nat) (Option.some Jvm.ClassFile.FieldType.int), Jvm.Cond.code ({ cls := "com/example/apportion/apportion/WordsEqualPinLaw", name := "put", desc := "(JII)J" } : Jvm.MethodName) method_3_code (5 : Nat) (Option.some Jvm.ClassFile.FieldType.long)]
set_option maxRecDepth 65536 in
theorem codes_eq : words1.filter isCode = codes1 := rfl
theorem w_codes : ∀ c ∈ words1.filter isCode, c.before args0 about1 = true := by
  rw [codes_eq]
  intro c hc
  simp only [codes1, List.mem_cons, List.not_mem_nil, or_false] at hc
  rcases hc with rfl | rfl | rfl | rfl | rfl | rfl
  · exact w_c0
  · exact w_c1
  · exact w_c2
  · exact w_c3
  · exact w_c4
  · exact w_c5
set_option maxRecDepth 65536 in
theorem w_t1 : words1.all (fun c => isCode c || c.before args0 about1) = true := by decide +kernel
theorem w_tables : (allAtoms (Jvm.Cond.code x code maxLocals ret :: tables_1)).before args0 about1 = true := by
  rw [allAtoms_all]
  show words1.all (fun c => c.before args0 about1) = true
  refine all_split ?_ w_codes
  rw [w_t1]
set_option maxRecDepth 65536 in
theorem w_case : (Jvm.Cond.and given_1 narrow_1).before args0 about1 = true := by decide +kernel
theorem w_applies : (headSpec (Jvm.Cond.code x code maxLocals ret :: tables_1) room_1).applies x e0.platform about1 = true :=
  (Spec.applies_iff w_frames).mpr ⟨w_running, w_runnable, w_alone, w_named, w_hears, w_ripe, w_room, w_tables⟩
theorem atStart : AtStart classFile x code maxLocals ret World_1 tables_1 room_1 Calls_1 rest_1 Pre_1 launch0 p0 e0 about1 theMethod args0 below0 :=
  ⟨lists_1, trivial, launch0.admits_env _ _ _, launch0.least_env, fairChoices_fair.cas, fairChoices_fair.clock, w_frames, w_args, w_heap, w_applies, trivial, trivial, w_case⟩
end start1
theorem witness_1 : WitnessClaimed_1 := ⟨start1.p0, start1.e0, start1.about1, start1.theMethod, start1.args0, start1.below0, start1.atStart⟩
end Jvm.Pilot.@@N@@
