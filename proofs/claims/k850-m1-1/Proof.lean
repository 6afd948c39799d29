import JvmDerived
import JvmDerived.Pilot.@@N@@Statement
import JvmDerived.Pilot.@@N@@Code
set_option linter.unusedVariables false
set_option linter.unusedSimpArgs false
namespace Jvm.RoadKit
open Sem ClassFile Op Lib Jvm.Stand Jvm.Free Jvm.LawKit
section New
variable {p : Program} {l : Launch} {e : Env} {R : Room} {s : State} {m : MethodId} {args : Array Value} {below : List Frame} {meth : Method} {c : Code} {T : State} {locs : List Loc} {cells slots : Nat}
theorem retI (X : Stand p l e R s m args below meth c T locs cells slots) (hx : p.tables.exec = Jvm.exec) {pc : Nat} {Ls : Array Slot} {z : Int32} {rest : List Value} (hret : meth.sig.returnType = some .int) (hd : decode c.code pc = .ok (.ireturn, 1)) {fs : List Frame}
    (hl : ∀ (f : JFrame) (acts : List Action), f.method = m → f.locked = none → f.entered = [] → (doReturn e (T.setTop f) acts (some (.int z))).1 = T.setFrames fs) : Steps p.tables e below (T.setTop (mkF m pc Ls (.int z :: rest))) (T.setFrames fs) := by
  have hm' : T.vm.method? m = some meth := X.method'
  have hn : narrow .int (.int z) = .int z := rfl
  show Steps p.tables e below (T.setTop { method := m, pc := pc, locals := Ls, stack := _ :: rest, locked := none }) _
  jvm_step X.here [X.here.top, hx, hd, hm', hret, hn]
  first | (intro acts; rw [hl _ acts rfl rfl rfl]) | rw [hl _ _ rfl rfl rfl]
  exact Steps.refl _
end New
end Jvm.RoadKit
namespace Jvm.Pilot.@@N@@
open Jvm Jvm.ClassFile Sem Op Lib Jvm.Free Jvm.Stand Jvm.LawKit Jvm.RoadKit Bundle Jvm.Pilot.@@N@@.Jvm.D
def f1_0 (q1 : Int64) (p2 : Int32) : Int64 := ((q1 - ((72340172838076673 : Int64) * p2.toInt64)) &&& (q1 ^^^ (-1 : Int64)))
def f1 (q1 : Int64) (p2 : Int32) : Int64 := ((f1_0 q1 p2) &&& (-9187201950435737472 : Int64))
def f2_0 (q1 : Int64) (p2 : Int32) (p3 : Int32) : Int32 := (if ((XT.ushrL q1 ((8 : Int32) * p2)) &&& (255 : Int64)) < p3.toInt64 then (1 : Int32) else (0 : Int32))
def f2 (q1 : Int64) (p2 : Int32) (p3 : Int32) : Int32 := ((f2_0 q1 p2 p3) &&& 1)
def f0_0 (q1 : Int64) (p2 : Int32) : Int32 := (if (f2 q1 (7 : Int32) ((p2 &&& (127 : Int32)) + (1 : Int32))) = (0 : Int32) then (-1 : Int32) else (7 : Int32))
def f0_1 (q1 : Int64) (p2 : Int32) : Int32 := (if (f2 q1 (6 : Int32) ((p2 &&& (127 : Int32)) + (1 : Int32))) = (0 : Int32) then (f0_0 q1 p2) else (6 : Int32))
def f0_2 (q1 : Int64) (p2 : Int32) : Int32 := (if (f2 q1 (5 : Int32) ((p2 &&& (127 : Int32)) + (1 : Int32))) = (0 : Int32) then (f0_1 q1 p2) else (5 : Int32))
def f0_3 (q1 : Int64) (p2 : Int32) : Int32 := (if (f2 q1 (4 : Int32) ((p2 &&& (127 : Int32)) + (1 : Int32))) = (0 : Int32) then (f0_2 q1 p2) else (4 : Int32))
def f0_4 (q1 : Int64) (p2 : Int32) : Int32 := (if (f2 q1 (3 : Int32) ((p2 &&& (127 : Int32)) + (1 : Int32))) = (0 : Int32) then (f0_3 q1 p2) else (3 : Int32))
def f0_5 (q1 : Int64) (p2 : Int32) : Int32 := (if (f2 q1 (2 : Int32) ((p2 &&& (127 : Int32)) + (1 : Int32))) = (0 : Int32) then (f0_4 q1 p2) else (2 : Int32))
def f0_6 (q1 : Int64) (p2 : Int32) : Int32 := (if (f2 q1 (1 : Int32) ((p2 &&& (127 : Int32)) + (1 : Int32))) = (0 : Int32) then (f0_5 q1 p2) else (1 : Int32))
def f0_7 (q1 : Int64) (p2 : Int32) : Int32 := (if (f2 q1 (0 : Int32) ((p2 &&& (127 : Int32)) + (1 : Int32))) = (0 : Int32) then (f0_6 q1 p2) else (0 : Int32))
def f0_8 (q1 : Int64) (p2 : Int32) : Int32 := (if (f1 q1 ((p2 &&& (127 : Int32)) + (1 : Int32))) = (0 : Int64) then (1 : Int32) else (0 : Int32))
def f0_9 (q1 : Int64) (p2 : Int32) : Int64 := ((f1 q1 ((p2 &&& (127 : Int32)) + (1 : Int32))) &&& (-(f1 q1 ((p2 &&& (127 : Int32)) + (1 : Int32)))))
def f0_10 (q1 : Int64) (p2 : Int32) : Int64 := ((128 : Int64) <<< (((8 : Int32) * (f0_7 q1 p2)).toInt64 &&& 63))
def f0_11 (q1 : Int64) (p2 : Int32) : Int32 := (if (f0_9 q1 p2) = (f0_10 q1 p2) then (1 : Int32) else (0 : Int32))
def f0 (q1 : Int64) (p2 : Int32) : Int32 := (if (f0_7 q1 p2) < (0 : Int32) then ((f0_8 q1 p2) &&& 1) else ((f0_11 q1 p2) &&& 1))
theorem own_shr (z : Int64) (y : Int32) (k : Nat) (hk : (y.toInt64.toUInt64 &&& Int64.toUInt64 63).toBitVec.toNat % 64 = k) : (XT.ushrL z y).toBitVec = z.toBitVec >>> k := by
  subst hk
  show (z.toUInt64 >>> (y.toInt64.toUInt64 &&& Int64.toUInt64 63)).toBitVec = _
  rw [UInt64.toBitVec_shiftRight]
  show z.toBitVec >>> ((y.toInt64.toUInt64 &&& Int64.toUInt64 63).toBitVec % 64) = _
  rw [BitVec.ushiftRight_eq', BitVec.toNat_umod]
  rfl
theorem own_lin {l a P lo b : Nat} (h1 : l * a ≤ lo) (h2 : l ≤ b) : l * (a + P) ≤ lo + P * b := by
  rw [Nat.mul_add, Nat.mul_comm l P]
  exact Nat.add_le_add h1 (Nat.mul_le_mul_left P h2)
theorem own_lo0 (W l : Nat) (hb : l ≤ W / 1 % 256) : l * 1 ≤ W % 256 := by
  have e : W % 256 = W % 1 + 1 * (W / 1 % 256) := by rw [show 256 = 1 * 256 from rfl, Nat.mod_mul]
  rw [e]
  rw [Nat.mod_one]; omega
theorem own_hit0 (W D l q : Nat) (hD : D + l * 72340172838076673 = W + 18446744073709551616 * q) (h1 : 1 ≤ l) (h2 : l ≤ 128) (hb : W / 1 % 256 < l) : D / 128 % 2 = 1 ∧ W / 128 % 2 = 0 := by
  have e : W = W % 1 + 1 * (W / 1 % 256) + 256 * (W / 256) := by
    have := Nat.mod_add_div W 256
    rw [show 256 = 1 * 256 from rfl, Nat.mod_mul] at this
    exact this.symm
  have i1 : W % 1 < 1 := Nat.mod_lt _ (by decide)
  generalize W % 1 = lo at *
  generalize W / 1 % 256 = b at *
  generalize W / 256 = hi at *
  constructor
  · obtain ⟨X, hX⟩ : ∃ z : Int, z = (lo : Int) - l * 0 + 1 * ((b : Int) - l + 256) := ⟨_, rfl⟩
    obtain ⟨Y, hY⟩ : ∃ z : Int, z = (hi : Int) - l * 282578800148737 + 72057594037927936 * q - 1 := ⟨_, rfl⟩
    have e2 : (D : Int) = X + 256 * Y := by omega
    have j1 : 128 ≤ X := by omega
    have j2 : X < 256 := by omega
    clear hD e hX hY hb 
    omega
  · obtain ⟨X, hX⟩ : ∃ z, z = lo + 1 * b := ⟨_, rfl⟩
    have j2 : X < 128 := by omega
    rw [← hX] at e
    clear hD hX hb 
    omega
theorem own_miss0 (W D l q : Nat) (hD : D + l * 72340172838076673 = W + 18446744073709551616 * q) (h1 : 1 ≤ l) (h2 : l ≤ 128) (hb : l ≤ W / 1 % 256) (hw : W / 128 % 2 = 0) : D / 128 % 2 = 0 := by
  have e : W = W % 1 + 1 * (W / 1 % 256) + 256 * (W / 256) := by
    have := Nat.mod_add_div W 256
    rw [show 256 = 1 * 256 from rfl, Nat.mod_mul] at this
    exact this.symm
  have i1 : W % 1 < 1 := Nat.mod_lt _ (by decide)
  have i2 : W / 1 % 256 < 128 := by
    have e3 : W / 128 = W / 1 / 128 := by rw [Nat.div_div_eq_div_mul]
    rw [e3] at hw
    generalize W / 1 = z at hw
    omega
  generalize W % 1 = lo at *
  generalize W / 1 % 256 = b at *
  generalize W / 256 = hi at *
  obtain ⟨X, hX⟩ : ∃ z : Int, z = (lo : Int) - l * 0 + 1 * ((b : Int) - l) := ⟨_, rfl⟩
  obtain ⟨Y, hY⟩ : ∃ z : Int, z = (hi : Int) - l * 282578800148737 + 72057594037927936 * q := ⟨_, rfl⟩
  have e2 : (D : Int) = X + 256 * Y := by omega
  have j1 : 0 ≤ X := by omega
  have j2 : X < 128 := by omega
  clear hD e hX hY hb hw 
  omega
theorem own_lo1 (W l : Nat) (hN : l * 1 ≤ W % 256) (hb : l ≤ W / 256 % 256) : l * 257 ≤ W % 65536 := by
  have e : W % 65536 = W % 256 + 256 * (W / 256 % 256) := by rw [show 65536 = 256 * 256 from rfl, Nat.mod_mul]
  rw [e]
  exact own_lin (P := 256) hN hb
theorem own_hit1 (W D l q : Nat) (hD : D + l * 72340172838076673 = W + 18446744073709551616 * q) (h1 : 1 ≤ l) (h2 : l ≤ 128) (hN : l * 1 ≤ W % 256) (hb : W / 256 % 256 < l) : D / 32768 % 2 = 1 ∧ W / 32768 % 2 = 0 := by
  have e : W = W % 256 + 256 * (W / 256 % 256) + 65536 * (W / 65536) := by
    have := Nat.mod_add_div W 65536
    rw [show 65536 = 256 * 256 from rfl, Nat.mod_mul] at this
    exact this.symm
  have i1 : W % 256 < 256 := Nat.mod_lt _ (by decide)
  generalize W % 256 = lo at *
  generalize W / 256 % 256 = b at *
  generalize W / 65536 = hi at *
  constructor
  · obtain ⟨X, hX⟩ : ∃ z : Int, z = (lo : Int) - l * 1 + 256 * ((b : Int) - l + 256) := ⟨_, rfl⟩
    obtain ⟨Y, hY⟩ : ∃ z : Int, z = (hi : Int) - l * 1103823438081 + 281474976710656 * q - 1 := ⟨_, rfl⟩
    have e2 : (D : Int) = X + 65536 * Y := by omega
    have j1 : 32768 ≤ X := by omega
    have j2 : X < 65536 := by omega
    clear hD e hX hY hb hN
    omega
  · obtain ⟨X, hX⟩ : ∃ z, z = lo + 256 * b := ⟨_, rfl⟩
    have j2 : X < 32768 := by omega
    rw [← hX] at e
    clear hD hX hb hN
    omega
theorem own_miss1 (W D l q : Nat) (hD : D + l * 72340172838076673 = W + 18446744073709551616 * q) (h1 : 1 ≤ l) (h2 : l ≤ 128) (hN : l * 1 ≤ W % 256) (hb : l ≤ W / 256 % 256) (hw : W / 32768 % 2 = 0) : D / 32768 % 2 = 0 := by
  have e : W = W % 256 + 256 * (W / 256 % 256) + 65536 * (W / 65536) := by
    have := Nat.mod_add_div W 65536
    rw [show 65536 = 256 * 256 from rfl, Nat.mod_mul] at this
    exact this.symm
  have i1 : W % 256 < 256 := Nat.mod_lt _ (by decide)
  have i2 : W / 256 % 256 < 128 := by
    have e3 : W / 32768 = W / 256 / 128 := by rw [Nat.div_div_eq_div_mul]
    rw [e3] at hw
    generalize W / 256 = z at hw
    omega
  generalize W % 256 = lo at *
  generalize W / 256 % 256 = b at *
  generalize W / 65536 = hi at *
  obtain ⟨X, hX⟩ : ∃ z : Int, z = (lo : Int) - l * 1 + 256 * ((b : Int) - l) := ⟨_, rfl⟩
  obtain ⟨Y, hY⟩ : ∃ z : Int, z = (hi : Int) - l * 1103823438081 + 281474976710656 * q := ⟨_, rfl⟩
  have e2 : (D : Int) = X + 65536 * Y := by omega
  have j1 : 0 ≤ X := by omega
  have j2 : X < 32768 := by omega
  clear hD e hX hY hb hw hN
  omega
theorem own_lo2 (W l : Nat) (hN : l * 257 ≤ W % 65536) (hb : l ≤ W / 65536 % 256) : l * 65793 ≤ W % 16777216 := by
  have e : W % 16777216 = W % 65536 + 65536 * (W / 65536 % 256) := by rw [show 16777216 = 65536 * 256 from rfl, Nat.mod_mul]
  rw [e]
  exact own_lin (P := 65536) hN hb
theorem own_hit2 (W D l q : Nat) (hD : D + l * 72340172838076673 = W + 18446744073709551616 * q) (h1 : 1 ≤ l) (h2 : l ≤ 128) (hN : l * 257 ≤ W % 65536) (hb : W / 65536 % 256 < l) : D / 8388608 % 2 = 1 ∧ W / 8388608 % 2 = 0 := by
  have e : W = W % 65536 + 65536 * (W / 65536 % 256) + 16777216 * (W / 16777216) := by
    have := Nat.mod_add_div W 16777216
    rw [show 16777216 = 65536 * 256 from rfl, Nat.mod_mul] at this
    exact this.symm
  have i1 : W % 65536 < 65536 := Nat.mod_lt _ (by decide)
  generalize W % 65536 = lo at *
  generalize W / 65536 % 256 = b at *
  generalize W / 16777216 = hi at *
  constructor
  · obtain ⟨X, hX⟩ : ∃ z : Int, z = (lo : Int) - l * 257 + 65536 * ((b : Int) - l + 256) := ⟨_, rfl⟩
    obtain ⟨Y, hY⟩ : ∃ z : Int, z = (hi : Int) - l * 4311810305 + 1099511627776 * q - 1 := ⟨_, rfl⟩
    have e2 : (D : Int) = X + 16777216 * Y := by omega
    have j1 : 8388608 ≤ X := by omega
    have j2 : X < 16777216 := by omega
    clear hD e hX hY hb hN
    omega
  · obtain ⟨X, hX⟩ : ∃ z, z = lo + 65536 * b := ⟨_, rfl⟩
    have j2 : X < 8388608 := by omega
    rw [← hX] at e
    clear hD hX hb hN
    omega
theorem own_miss2 (W D l q : Nat) (hD : D + l * 72340172838076673 = W + 18446744073709551616 * q) (h1 : 1 ≤ l) (h2 : l ≤ 128) (hN : l * 257 ≤ W % 65536) (hb : l ≤ W / 65536 % 256) (hw : W / 8388608 % 2 = 0) : D / 8388608 % 2 = 0 := by
  have e : W = W % 65536 + 65536 * (W / 65536 % 256) + 16777216 * (W / 16777216) := by
    have := Nat.mod_add_div W 16777216
    rw [show 16777216 = 65536 * 256 from rfl, Nat.mod_mul] at this
    exact this.symm
  have i1 : W % 65536 < 65536 := Nat.mod_lt _ (by decide)
  have i2 : W / 65536 % 256 < 128 := by
    have e3 : W / 8388608 = W / 65536 / 128 := by rw [Nat.div_div_eq_div_mul]
    rw [e3] at hw
    generalize W / 65536 = z at hw
    omega
  generalize W % 65536 = lo at *
  generalize W / 65536 % 256 = b at *
  generalize W / 16777216 = hi at *
  obtain ⟨X, hX⟩ : ∃ z : Int, z = (lo : Int) - l * 257 + 65536 * ((b : Int) - l) := ⟨_, rfl⟩
  obtain ⟨Y, hY⟩ : ∃ z : Int, z = (hi : Int) - l * 4311810305 + 1099511627776 * q := ⟨_, rfl⟩
  have e2 : (D : Int) = X + 16777216 * Y := by omega
  have j1 : 0 ≤ X := by omega
  have j2 : X < 8388608 := by omega
  clear hD e hX hY hb hw hN
  omega
theorem own_lo3 (W l : Nat) (hN : l * 65793 ≤ W % 16777216) (hb : l ≤ W / 16777216 % 256) : l * 16843009 ≤ W % 4294967296 := by
  have e : W % 4294967296 = W % 16777216 + 16777216 * (W / 16777216 % 256) := by rw [show 4294967296 = 16777216 * 256 from rfl, Nat.mod_mul]
  rw [e]
  exact own_lin (P := 16777216) hN hb
theorem own_hit3 (W D l q : Nat) (hD : D + l * 72340172838076673 = W + 18446744073709551616 * q) (h1 : 1 ≤ l) (h2 : l ≤ 128) (hN : l * 65793 ≤ W % 16777216) (hb : W / 16777216 % 256 < l) : D / 2147483648 % 2 = 1 ∧ W / 2147483648 % 2 = 0 := by
  have e : W = W % 16777216 + 16777216 * (W / 16777216 % 256) + 4294967296 * (W / 4294967296) := by
    have := Nat.mod_add_div W 4294967296
    rw [show 4294967296 = 16777216 * 256 from rfl, Nat.mod_mul] at this
    exact this.symm
  have i1 : W % 16777216 < 16777216 := Nat.mod_lt _ (by decide)
  generalize W % 16777216 = lo at *
  generalize W / 16777216 % 256 = b at *
  generalize W / 4294967296 = hi at *
  constructor
  · obtain ⟨X, hX⟩ : ∃ z : Int, z = (lo : Int) - l * 65793 + 16777216 * ((b : Int) - l + 256) := ⟨_, rfl⟩
    obtain ⟨Y, hY⟩ : ∃ z : Int, z = (hi : Int) - l * 16843009 + 4294967296 * q - 1 := ⟨_, rfl⟩
    have e2 : (D : Int) = X + 4294967296 * Y := by omega
    have j1 : 2147483648 ≤ X := by omega
    have j2 : X < 4294967296 := by omega
    clear hD e hX hY hb hN
    omega
  · obtain ⟨X, hX⟩ : ∃ z, z = lo + 16777216 * b := ⟨_, rfl⟩
    have j2 : X < 2147483648 := by omega
    rw [← hX] at e
    clear hD hX hb hN
    omega
theorem own_miss3 (W D l q : Nat) (hD : D + l * 72340172838076673 = W + 18446744073709551616 * q) (h1 : 1 ≤ l) (h2 : l ≤ 128) (hN : l * 65793 ≤ W % 16777216) (hb : l ≤ W / 16777216 % 256) (hw : W / 2147483648 % 2 = 0) : D / 2147483648 % 2 = 0 := by
  have e : W = W % 16777216 + 16777216 * (W / 16777216 % 256) + 4294967296 * (W / 4294967296) := by
    have := Nat.mod_add_div W 4294967296
    rw [show 4294967296 = 16777216 * 256 from rfl, Nat.mod_mul] at this
    exact this.symm
  have i1 : W % 16777216 < 16777216 := Nat.mod_lt _ (by decide)
  have i2 : W / 16777216 % 256 < 128 := by
    have e3 : W / 2147483648 = W / 16777216 / 128 := by rw [Nat.div_div_eq_div_mul]
    rw [e3] at hw
    generalize W / 16777216 = z at hw
    omega
  generalize W % 16777216 = lo at *
  generalize W / 16777216 % 256 = b at *
  generalize W / 4294967296 = hi at *
  obtain ⟨X, hX⟩ : ∃ z : Int, z = (lo : Int) - l * 65793 + 16777216 * ((b : Int) - l) := ⟨_, rfl⟩
  obtain ⟨Y, hY⟩ : ∃ z : Int, z = (hi : Int) - l * 16843009 + 4294967296 * q := ⟨_, rfl⟩
  have e2 : (D : Int) = X + 4294967296 * Y := by omega
  have j1 : 0 ≤ X := by omega
  have j2 : X < 2147483648 := by omega
  clear hD e hX hY hb hw hN
  omega
theorem own_lo4 (W l : Nat) (hN : l * 16843009 ≤ W % 4294967296) (hb : l ≤ W / 4294967296 % 256) : l * 4311810305 ≤ W % 1099511627776 := by
  have e : W % 1099511627776 = W % 4294967296 + 4294967296 * (W / 4294967296 % 256) := by rw [show 1099511627776 = 4294967296 * 256 from rfl, Nat.mod_mul]
  rw [e]
  exact own_lin (P := 4294967296) hN hb
theorem own_hit4 (W D l q : Nat) (hD : D + l * 72340172838076673 = W + 18446744073709551616 * q) (h1 : 1 ≤ l) (h2 : l ≤ 128) (hN : l * 16843009 ≤ W % 4294967296) (hb : W / 4294967296 % 256 < l) : D / 549755813888 % 2 = 1 ∧ W / 549755813888 % 2 = 0 := by
  have e : W = W % 4294967296 + 4294967296 * (W / 4294967296 % 256) + 1099511627776 * (W / 1099511627776) := by
    have := Nat.mod_add_div W 1099511627776
    rw [show 1099511627776 = 4294967296 * 256 from rfl, Nat.mod_mul] at this
    exact this.symm
  have i1 : W % 4294967296 < 4294967296 := Nat.mod_lt _ (by decide)
  generalize W % 4294967296 = lo at *
  generalize W / 4294967296 % 256 = b at *
  generalize W / 1099511627776 = hi at *
  constructor
  · obtain ⟨X, hX⟩ : ∃ z : Int, z = (lo : Int) - l * 16843009 + 4294967296 * ((b : Int) - l + 256) := ⟨_, rfl⟩
    obtain ⟨Y, hY⟩ : ∃ z : Int, z = (hi : Int) - l * 65793 + 16777216 * q - 1 := ⟨_, rfl⟩
    have e2 : (D : Int) = X + 1099511627776 * Y := by omega
    have j1 : 549755813888 ≤ X := by omega
    have j2 : X < 1099511627776 := by omega
    clear hD e hX hY hb hN
    omega
  · obtain ⟨X, hX⟩ : ∃ z, z = lo + 4294967296 * b := ⟨_, rfl⟩
    have j2 : X < 549755813888 := by omega
    rw [← hX] at e
    clear hD hX hb hN
    omega
theorem own_miss4 (W D l q : Nat) (hD : D + l * 72340172838076673 = W + 18446744073709551616 * q) (h1 : 1 ≤ l) (h2 : l ≤ 128) (hN : l * 16843009 ≤ W % 4294967296) (hb : l ≤ W / 4294967296 % 256) (hw : W / 549755813888 % 2 = 0) : D / 549755813888 % 2 = 0 := by
  have e : W = W % 4294967296 + 4294967296 * (W / 4294967296 % 256) + 1099511627776 * (W / 1099511627776) := by
    have := Nat.mod_add_div W 1099511627776
    rw [show 1099511627776 = 4294967296 * 256 from rfl, Nat.mod_mul] at this
    exact this.symm
  have i1 : W % 4294967296 < 4294967296 := Nat.mod_lt _ (by decide)
  have i2 : W / 4294967296 % 256 < 128 := by
    have e3 : W / 549755813888 = W / 4294967296 / 128 := by rw [Nat.div_div_eq_div_mul]
    rw [e3] at hw
    generalize W / 4294967296 = z at hw
    omega
  generalize W % 4294967296 = lo at *
  generalize W / 4294967296 % 256 = b at *
  generalize W / 1099511627776 = hi at *
  obtain ⟨X, hX⟩ : ∃ z : Int, z = (lo : Int) - l * 16843009 + 4294967296 * ((b : Int) - l) := ⟨_, rfl⟩
  obtain ⟨Y, hY⟩ : ∃ z : Int, z = (hi : Int) - l * 65793 + 16777216 * q := ⟨_, rfl⟩
  have e2 : (D : Int) = X + 1099511627776 * Y := by omega
  have j1 : 0 ≤ X := by omega
  have j2 : X < 549755813888 := by omega
  clear hD e hX hY hb hw hN
  omega
theorem own_lo5 (W l : Nat) (hN : l * 4311810305 ≤ W % 1099511627776) (hb : l ≤ W / 1099511627776 % 256) : l * 1103823438081 ≤ W % 281474976710656 := by
  have e : W % 281474976710656 = W % 1099511627776 + 1099511627776 * (W / 1099511627776 % 256) := by rw [show 281474976710656 = 1099511627776 * 256 from rfl, Nat.mod_mul]
  rw [e]
  exact own_lin (P := 1099511627776) hN hb
theorem own_hit5 (W D l q : Nat) (hD : D + l * 72340172838076673 = W + 18446744073709551616 * q) (h1 : 1 ≤ l) (h2 : l ≤ 128) (hN : l * 4311810305 ≤ W % 1099511627776) (hb : W / 1099511627776 % 256 < l) : D / 140737488355328 % 2 = 1 ∧ W / 140737488355328 % 2 = 0 := by
  have e : W = W % 1099511627776 + 1099511627776 * (W / 1099511627776 % 256) + 281474976710656 * (W / 281474976710656) := by
    have := Nat.mod_add_div W 281474976710656
    rw [show 281474976710656 = 1099511627776 * 256 from rfl, Nat.mod_mul] at this
    exact this.symm
  have i1 : W % 1099511627776 < 1099511627776 := Nat.mod_lt _ (by decide)
  generalize W % 1099511627776 = lo at *
  generalize W / 1099511627776 % 256 = b at *
  generalize W / 281474976710656 = hi at *
  constructor
  · obtain ⟨X, hX⟩ : ∃ z : Int, z = (lo : Int) - l * 4311810305 + 1099511627776 * ((b : Int) - l + 256) := ⟨_, rfl⟩
    obtain ⟨Y, hY⟩ : ∃ z : Int, z = (hi : Int) - l * 257 + 65536 * q - 1 := ⟨_, rfl⟩
    have e2 : (D : Int) = X + 281474976710656 * Y := by omega
    have j1 : 140737488355328 ≤ X := by omega
    have j2 : X < 281474976710656 := by omega
    clear hD e hX hY hb hN
    omega
  · obtain ⟨X, hX⟩ : ∃ z, z = lo + 1099511627776 * b := ⟨_, rfl⟩
    have j2 : X < 140737488355328 := by omega
    rw [← hX] at e
    clear hD hX hb hN
    omega
theorem own_miss5 (W D l q : Nat) (hD : D + l * 72340172838076673 = W + 18446744073709551616 * q) (h1 : 1 ≤ l) (h2 : l ≤ 128) (hN : l * 4311810305 ≤ W % 1099511627776) (hb : l ≤ W / 1099511627776 % 256) (hw : W / 140737488355328 % 2 = 0) : D / 140737488355328 % 2 = 0 := by
  have e : W = W % 1099511627776 + 1099511627776 * (W / 1099511627776 % 256) + 281474976710656 * (W / 281474976710656) := by
    have := Nat.mod_add_div W 281474976710656
    rw [show 281474976710656 = 1099511627776 * 256 from rfl, Nat.mod_mul] at this
    exact this.symm
  have i1 : W % 1099511627776 < 1099511627776 := Nat.mod_lt _ (by decide)
  have i2 : W / 1099511627776 % 256 < 128 := by
    have e3 : W / 140737488355328 = W / 1099511627776 / 128 := by rw [Nat.div_div_eq_div_mul]
    rw [e3] at hw
    generalize W / 1099511627776 = z at hw
    omega
  generalize W % 1099511627776 = lo at *
  generalize W / 1099511627776 % 256 = b at *
  generalize W / 281474976710656 = hi at *
  obtain ⟨X, hX⟩ : ∃ z : Int, z = (lo : Int) - l * 4311810305 + 1099511627776 * ((b : Int) - l) := ⟨_, rfl⟩
  obtain ⟨Y, hY⟩ : ∃ z : Int, z = (hi : Int) - l * 257 + 65536 * q := ⟨_, rfl⟩
  have e2 : (D : Int) = X + 281474976710656 * Y := by omega
  have j1 : 0 ≤ X := by omega
  have j2 : X < 140737488355328 := by omega
  clear hD e hX hY hb hw hN
  omega
theorem own_lo6 (W l : Nat) (hN : l * 1103823438081 ≤ W % 281474976710656) (hb : l ≤ W / 281474976710656 % 256) : l * 282578800148737 ≤ W % 72057594037927936 := by
  have e : W % 72057594037927936 = W % 281474976710656 + 281474976710656 * (W / 281474976710656 % 256) := by rw [show 72057594037927936 = 281474976710656 * 256 from rfl, Nat.mod_mul]
  rw [e]
  exact own_lin (P := 281474976710656) hN hb
theorem own_hit6 (W D l q : Nat) (hD : D + l * 72340172838076673 = W + 18446744073709551616 * q) (h1 : 1 ≤ l) (h2 : l ≤ 128) (hN : l * 1103823438081 ≤ W % 281474976710656) (hb : W / 281474976710656 % 256 < l) : D / 36028797018963968 % 2 = 1 ∧ W / 36028797018963968 % 2 = 0 := by
  have e : W = W % 281474976710656 + 281474976710656 * (W / 281474976710656 % 256) + 72057594037927936 * (W / 72057594037927936) := by
    have := Nat.mod_add_div W 72057594037927936
    rw [show 72057594037927936 = 281474976710656 * 256 from rfl, Nat.mod_mul] at this
    exact this.symm
  have i1 : W % 281474976710656 < 281474976710656 := Nat.mod_lt _ (by decide)
  generalize W % 281474976710656 = lo at *
  generalize W / 281474976710656 % 256 = b at *
  generalize W / 72057594037927936 = hi at *
  constructor
  · obtain ⟨X, hX⟩ : ∃ z : Int, z = (lo : Int) - l * 1103823438081 + 281474976710656 * ((b : Int) - l + 256) := ⟨_, rfl⟩
    obtain ⟨Y, hY⟩ : ∃ z : Int, z = (hi : Int) - l * 1 + 256 * q - 1 := ⟨_, rfl⟩
    have e2 : (D : Int) = X + 72057594037927936 * Y := by omega
    have j1 : 36028797018963968 ≤ X := by omega
    have j2 : X < 72057594037927936 := by omega
    clear hD e hX hY hb hN
    omega
  · obtain ⟨X, hX⟩ : ∃ z, z = lo + 281474976710656 * b := ⟨_, rfl⟩
    have j2 : X < 36028797018963968 := by omega
    rw [← hX] at e
    clear hD hX hb hN
    omega
theorem own_miss6 (W D l q : Nat) (hD : D + l * 72340172838076673 = W + 18446744073709551616 * q) (h1 : 1 ≤ l) (h2 : l ≤ 128) (hN : l * 1103823438081 ≤ W % 281474976710656) (hb : l ≤ W / 281474976710656 % 256) (hw : W / 36028797018963968 % 2 = 0) : D / 36028797018963968 % 2 = 0 := by
  have e : W = W % 281474976710656 + 281474976710656 * (W / 281474976710656 % 256) + 72057594037927936 * (W / 72057594037927936) := by
    have := Nat.mod_add_div W 72057594037927936
    rw [show 72057594037927936 = 281474976710656 * 256 from rfl, Nat.mod_mul] at this
    exact this.symm
  have i1 : W % 281474976710656 < 281474976710656 := Nat.mod_lt _ (by decide)
  have i2 : W / 281474976710656 % 256 < 128 := by
    have e3 : W / 36028797018963968 = W / 281474976710656 / 128 := by rw [Nat.div_div_eq_div_mul]
    rw [e3] at hw
    generalize W / 281474976710656 = z at hw
    omega
  generalize W % 281474976710656 = lo at *
  generalize W / 281474976710656 % 256 = b at *
  generalize W / 72057594037927936 = hi at *
  obtain ⟨X, hX⟩ : ∃ z : Int, z = (lo : Int) - l * 1103823438081 + 281474976710656 * ((b : Int) - l) := ⟨_, rfl⟩
  obtain ⟨Y, hY⟩ : ∃ z : Int, z = (hi : Int) - l * 1 + 256 * q := ⟨_, rfl⟩
  have e2 : (D : Int) = X + 72057594037927936 * Y := by omega
  have j1 : 0 ≤ X := by omega
  have j2 : X < 36028797018963968 := by omega
  clear hD e hX hY hb hw hN
  omega
theorem own_lo7 (W l : Nat) (hN : l * 282578800148737 ≤ W % 72057594037927936) (hb : l ≤ W / 72057594037927936 % 256) : l * 72340172838076673 ≤ W % 18446744073709551616 := by
  have e : W % 18446744073709551616 = W % 72057594037927936 + 72057594037927936 * (W / 72057594037927936 % 256) := by rw [show 18446744073709551616 = 72057594037927936 * 256 from rfl, Nat.mod_mul]
  rw [e]
  exact own_lin (P := 72057594037927936) hN hb
theorem own_hit7 (W D l q : Nat) (hD : D + l * 72340172838076673 = W + 18446744073709551616 * q) (h1 : 1 ≤ l) (h2 : l ≤ 128) (hN : l * 282578800148737 ≤ W % 72057594037927936) (hb : W / 72057594037927936 % 256 < l) : D / 9223372036854775808 % 2 = 1 ∧ W / 9223372036854775808 % 2 = 0 := by
  have e : W = W % 72057594037927936 + 72057594037927936 * (W / 72057594037927936 % 256) + 18446744073709551616 * (W / 18446744073709551616) := by
    have := Nat.mod_add_div W 18446744073709551616
    rw [show 18446744073709551616 = 72057594037927936 * 256 from rfl, Nat.mod_mul] at this
    exact this.symm
  have i1 : W % 72057594037927936 < 72057594037927936 := Nat.mod_lt _ (by decide)
  generalize W % 72057594037927936 = lo at *
  generalize W / 72057594037927936 % 256 = b at *
  generalize W / 18446744073709551616 = hi at *
  constructor
  · obtain ⟨X, hX⟩ : ∃ z : Int, z = (lo : Int) - l * 282578800148737 + 72057594037927936 * ((b : Int) - l + 256) := ⟨_, rfl⟩
    obtain ⟨Y, hY⟩ : ∃ z : Int, z = (hi : Int) - l * 0 + 1 * q - 1 := ⟨_, rfl⟩
    have e2 : (D : Int) = X + 18446744073709551616 * Y := by omega
    have j1 : 9223372036854775808 ≤ X := by omega
    have j2 : X < 18446744073709551616 := by omega
    clear hD e hX hY hb hN
    omega
  · obtain ⟨X, hX⟩ : ∃ z, z = lo + 72057594037927936 * b := ⟨_, rfl⟩
    have j2 : X < 9223372036854775808 := by omega
    rw [← hX] at e
    clear hD hX hb hN
    omega
theorem own_miss7 (W D l q : Nat) (hD : D + l * 72340172838076673 = W + 18446744073709551616 * q) (h1 : 1 ≤ l) (h2 : l ≤ 128) (hN : l * 282578800148737 ≤ W % 72057594037927936) (hb : l ≤ W / 72057594037927936 % 256) (hw : W / 9223372036854775808 % 2 = 0) : D / 9223372036854775808 % 2 = 0 := by
  have e : W = W % 72057594037927936 + 72057594037927936 * (W / 72057594037927936 % 256) + 18446744073709551616 * (W / 18446744073709551616) := by
    have := Nat.mod_add_div W 18446744073709551616
    rw [show 18446744073709551616 = 72057594037927936 * 256 from rfl, Nat.mod_mul] at this
    exact this.symm
  have i1 : W % 72057594037927936 < 72057594037927936 := Nat.mod_lt _ (by decide)
  have i2 : W / 72057594037927936 % 256 < 128 := by
    have e3 : W / 9223372036854775808 = W / 72057594037927936 / 128 := by rw [Nat.div_div_eq_div_mul]
    rw [e3] at hw
    generalize W / 72057594037927936 = z at hw
    omega
  generalize W % 72057594037927936 = lo at *
  generalize W / 72057594037927936 % 256 = b at *
  generalize W / 18446744073709551616 = hi at *
  obtain ⟨X, hX⟩ : ∃ z : Int, z = (lo : Int) - l * 282578800148737 + 72057594037927936 * ((b : Int) - l) := ⟨_, rfl⟩
  obtain ⟨Y, hY⟩ : ∃ z : Int, z = (hi : Int) - l * 0 + 1 * q := ⟨_, rfl⟩
  have e2 : (D : Int) = X + 18446744073709551616 * Y := by omega
  have j1 : 0 ≤ X := by omega
  have j2 : X < 9223372036854775808 := by omega
  clear hD e hX hY hb hw hN
  omega
def own_r (W D : BitVec 64) : BitVec 64 := (D &&& ~~~W) &&& 9259542123273814144#64
theorem own_rbit (W D : BitVec 64) (i : Nat) (hi : i < 64) : (own_r W D).getLsbD i = (D.getLsbD i && !W.getLsbD i && decide (i % 8 = 7)) := by
  rw [own_r, BitVec.getLsbD_and, BitVec.getLsbD_and, BitVec.getLsbD_not]
  have h : (9259542123273814144#64).getLsbD i = decide (i % 8 = 7) := by
    have : ∀ i : Fin 64, (9259542123273814144#64).getLsbD i.val = decide (i.val % 8 = 7) := by decide +kernel
    exact this ⟨i, hi⟩
  rw [h]; simp [hi]
theorem own_bit (D : BitVec 64) (k : Nat) : D.getLsbD k = decide (D.toNat / 2 ^ k % 2 = 1) := by
  rw [BitVec.getLsbD, Nat.testBit_eq_decide_div_mod_eq]
theorem own_zero0 (W D : BitVec 64) (h : W.toNat / 128 % 2 = 0 → D.toNat / 128 % 2 = 0) : (own_r W D).getLsbD 7 = false := by
  rw [own_rbit _ _ _ (by decide), own_bit, own_bit, show 2 ^ 7 = 128 from rfl]
  by_cases w : W.toNat / 128 % 2 = 1
  · simp [w]
  · have := h (by omega)
    simp [this]
theorem own_one0 (W D : BitVec 64) (h : D.toNat / 128 % 2 = 1 ∧ W.toNat / 128 % 2 = 0) : (own_r W D).getLsbD 7 = true := by
  rw [own_rbit _ _ _ (by decide), own_bit, own_bit, show 2 ^ 7 = 128 from rfl, h.1, h.2]; rfl
theorem own_zero1 (W D : BitVec 64) (h : W.toNat / 32768 % 2 = 0 → D.toNat / 32768 % 2 = 0) : (own_r W D).getLsbD 15 = false := by
  rw [own_rbit _ _ _ (by decide), own_bit, own_bit, show 2 ^ 15 = 32768 from rfl]
  by_cases w : W.toNat / 32768 % 2 = 1
  · simp [w]
  · have := h (by omega)
    simp [this]
theorem own_one1 (W D : BitVec 64) (h : D.toNat / 32768 % 2 = 1 ∧ W.toNat / 32768 % 2 = 0) : (own_r W D).getLsbD 15 = true := by
  rw [own_rbit _ _ _ (by decide), own_bit, own_bit, show 2 ^ 15 = 32768 from rfl, h.1, h.2]; rfl
theorem own_zero2 (W D : BitVec 64) (h : W.toNat / 8388608 % 2 = 0 → D.toNat / 8388608 % 2 = 0) : (own_r W D).getLsbD 23 = false := by
  rw [own_rbit _ _ _ (by decide), own_bit, own_bit, show 2 ^ 23 = 8388608 from rfl]
  by_cases w : W.toNat / 8388608 % 2 = 1
  · simp [w]
  · have := h (by omega)
    simp [this]
theorem own_one2 (W D : BitVec 64) (h : D.toNat / 8388608 % 2 = 1 ∧ W.toNat / 8388608 % 2 = 0) : (own_r W D).getLsbD 23 = true := by
  rw [own_rbit _ _ _ (by decide), own_bit, own_bit, show 2 ^ 23 = 8388608 from rfl, h.1, h.2]; rfl
theorem own_zero3 (W D : BitVec 64) (h : W.toNat / 2147483648 % 2 = 0 → D.toNat / 2147483648 % 2 = 0) : (own_r W D).getLsbD 31 = false := by
  rw [own_rbit _ _ _ (by decide), own_bit, own_bit, show 2 ^ 31 = 2147483648 from rfl]
  by_cases w : W.toNat / 2147483648 % 2 = 1
  · simp [w]
  · have := h (by omega)
    simp [this]
theorem own_one3 (W D : BitVec 64) (h : D.toNat / 2147483648 % 2 = 1 ∧ W.toNat / 2147483648 % 2 = 0) : (own_r W D).getLsbD 31 = true := by
  rw [own_rbit _ _ _ (by decide), own_bit, own_bit, show 2 ^ 31 = 2147483648 from rfl, h.1, h.2]; rfl
theorem own_zero4 (W D : BitVec 64) (h : W.toNat / 549755813888 % 2 = 0 → D.toNat / 549755813888 % 2 = 0) : (own_r W D).getLsbD 39 = false := by
  rw [own_rbit _ _ _ (by decide), own_bit, own_bit, show 2 ^ 39 = 549755813888 from rfl]
  by_cases w : W.toNat / 549755813888 % 2 = 1
  · simp [w]
  · have := h (by omega)
    simp [this]
theorem own_one4 (W D : BitVec 64) (h : D.toNat / 549755813888 % 2 = 1 ∧ W.toNat / 549755813888 % 2 = 0) : (own_r W D).getLsbD 39 = true := by
  rw [own_rbit _ _ _ (by decide), own_bit, own_bit, show 2 ^ 39 = 549755813888 from rfl, h.1, h.2]; rfl
theorem own_zero5 (W D : BitVec 64) (h : W.toNat / 140737488355328 % 2 = 0 → D.toNat / 140737488355328 % 2 = 0) : (own_r W D).getLsbD 47 = false := by
  rw [own_rbit _ _ _ (by decide), own_bit, own_bit, show 2 ^ 47 = 140737488355328 from rfl]
  by_cases w : W.toNat / 140737488355328 % 2 = 1
  · simp [w]
  · have := h (by omega)
    simp [this]
theorem own_one5 (W D : BitVec 64) (h : D.toNat / 140737488355328 % 2 = 1 ∧ W.toNat / 140737488355328 % 2 = 0) : (own_r W D).getLsbD 47 = true := by
  rw [own_rbit _ _ _ (by decide), own_bit, own_bit, show 2 ^ 47 = 140737488355328 from rfl, h.1, h.2]; rfl
theorem own_zero6 (W D : BitVec 64) (h : W.toNat / 36028797018963968 % 2 = 0 → D.toNat / 36028797018963968 % 2 = 0) : (own_r W D).getLsbD 55 = false := by
  rw [own_rbit _ _ _ (by decide), own_bit, own_bit, show 2 ^ 55 = 36028797018963968 from rfl]
  by_cases w : W.toNat / 36028797018963968 % 2 = 1
  · simp [w]
  · have := h (by omega)
    simp [this]
theorem own_one6 (W D : BitVec 64) (h : D.toNat / 36028797018963968 % 2 = 1 ∧ W.toNat / 36028797018963968 % 2 = 0) : (own_r W D).getLsbD 55 = true := by
  rw [own_rbit _ _ _ (by decide), own_bit, own_bit, show 2 ^ 55 = 36028797018963968 from rfl, h.1, h.2]; rfl
theorem own_zero7 (W D : BitVec 64) (h : W.toNat / 9223372036854775808 % 2 = 0 → D.toNat / 9223372036854775808 % 2 = 0) : (own_r W D).getLsbD 63 = false := by
  rw [own_rbit _ _ _ (by decide), own_bit, own_bit, show 2 ^ 63 = 9223372036854775808 from rfl]
  by_cases w : W.toNat / 9223372036854775808 % 2 = 1
  · simp [w]
  · have := h (by omega)
    simp [this]
theorem own_one7 (W D : BitVec 64) (h : D.toNat / 9223372036854775808 % 2 = 1 ∧ W.toNat / 9223372036854775808 % 2 = 0) : (own_r W D).getLsbD 63 = true := by
  rw [own_rbit _ _ _ (by decide), own_bit, own_bit, show 2 ^ 63 = 9223372036854775808 from rfl, h.1, h.2]; rfl
theorem own_low (r : BitVec 64) (k : Nat) (hk : k < 64) (h1 : r.getLsbD k = true) (h0 : ∀ j < k, r.getLsbD j = false) : r &&& (-r) = BitVec.twoPow 64 k := by
  apply BitVec.eq_of_getLsbD_eq
  intro i hi
  rw [BitVec.getLsbD_and, BitVec.getLsbD_neg, BitVec.getLsbD_twoPow]
  by_cases e : i = k
  · subst e
    have : ¬ ∃ j < i, r.getLsbD j = true := by
      rintro ⟨j, hj, h⟩; rw [h0 j hj] at h; cases h
    simp [h1, this, hi]
  · by_cases l : i < k
    · simp [h0 i l]; omega
    · have : ∃ j < i, r.getLsbD j = true := ⟨k, by omega, h1⟩
      simp only [this, decide_true, Bool.and_true]
      have e2 : decide (k = i) = false := by simp; omega
      rw [e2]
      cases r.getLsbD i <;> simp [hi]

theorem own_off (W D : BitVec 64) (i : Nat) (h : i % 8 ≠ 7) : (own_r W D).getLsbD i = false := by
  by_cases hi : i < 64
  · rw [own_rbit _ _ _ hi]; simp [h]
  · exact BitVec.getLsbD_of_ge _ _ (by omega)
/-- which byte is the first below l (8: none) -/
def own_first (W l : Nat) : Nat := if W / 1 % 256 < l then 0 else if W / 256 % 256 < l then 1 else if W / 65536 % 256 < l then 2 else if W / 16777216 % 256 < l then 3 else if W / 4294967296 % 256 < l then 4 else if W / 1099511627776 % 256 < l then 5 else if W / 281474976710656 % 256 < l then 6 else if W / 72057594037927936 % 256 < l then 7 else 8
theorem own_j0 {j : Nat} (hj : j < 8 * 0 + 7) (hm : j % 8 = 7) : False := by omega
theorem own_j1 {j : Nat} (hj : j < 8 * 1 + 7) (hm : j % 8 = 7) : j = 7 := by omega
theorem own_j2 {j : Nat} (hj : j < 8 * 2 + 7) (hm : j % 8 = 7) : j = 7 ∨ j = 15 := by omega
theorem own_j3 {j : Nat} (hj : j < 8 * 3 + 7) (hm : j % 8 = 7) : j = 7 ∨ j = 15 ∨ j = 23 := by omega
theorem own_j4 {j : Nat} (hj : j < 8 * 4 + 7) (hm : j % 8 = 7) : j = 7 ∨ j = 15 ∨ j = 23 ∨ j = 31 := by omega
theorem own_j5 {j : Nat} (hj : j < 8 * 5 + 7) (hm : j % 8 = 7) : j = 7 ∨ j = 15 ∨ j = 23 ∨ j = 31 ∨ j = 39 := by omega
theorem own_j6 {j : Nat} (hj : j < 8 * 6 + 7) (hm : j % 8 = 7) : j = 7 ∨ j = 15 ∨ j = 23 ∨ j = 31 ∨ j = 39 ∨ j = 47 := by omega
theorem own_j7 {j : Nat} (hj : j < 8 * 7 + 7) (hm : j % 8 = 7) : j = 7 ∨ j = 15 ∨ j = 23 ∨ j = 31 ∨ j = 39 ∨ j = 47 ∨ j = 55 := by omega
theorem own_j8 {j : Nat} (hj : j < 64) (hm : j % 8 = 7) : j = 7 ∨ j = 15 ∨ j = 23 ∨ j = 31 ∨ j = 39 ∨ j = 47 ∨ j = 55 ∨ j = 63 := by omega
theorem own_below (W D : BitVec 64) (l q : Nat) (hD : D.toNat + l * 72340172838076673 = W.toNat + 18446744073709551616 * q) (h1 : 1 ≤ l) (h2 : l ≤ 128) :
    (own_first W.toNat l = 8 → own_r W D = 0#64) ∧ (own_first W.toNat l ≠ 8 → own_r W D &&& -(own_r W D) = BitVec.twoPow 64 (8 * own_first W.toNat l + 7)) := by
  by_cases b0 : W.toNat / 1 % 256 < l
  · have e : own_first W.toNat l = 0 := by rw [own_first, if_pos b0]
    rw [e]
    refine ⟨fun h => absurd h (by decide), fun _ => own_low _ _ (by decide) (own_one0 W D (own_hit0 _ _ _ _ hD h1 h2 b0)) fun j hj => ?_⟩
    by_cases hm : j % 8 = 7
    · exact absurd (own_j0 hj hm) (fun h => h)
    · exact own_off W D j hm
  have m0 := own_miss0 _ _ _ _ hD h1 h2 (Nat.le_of_not_lt b0)
  have n1 := own_lo0 W.toNat l (Nat.le_of_not_lt b0)
  by_cases b1 : W.toNat / 256 % 256 < l
  · have e : own_first W.toNat l = 1 := by rw [own_first, if_neg b0, if_pos b1]
    rw [e]
    refine ⟨fun h => absurd h (by decide), fun _ => own_low _ _ (by decide) (own_one1 W D (own_hit1 _ _ _ _ hD h1 h2 n1 b1)) fun j hj => ?_⟩
    by_cases hm : j % 8 = 7
    · have hj' : j = 7 := own_j1 hj hm
      rcases hj' with rfl
      · exact own_zero0 W D m0
    · exact own_off W D j hm
  have m1 := own_miss1 _ _ _ _ hD h1 h2 n1 (Nat.le_of_not_lt b1)
  have n2 := own_lo1 W.toNat l n1 (Nat.le_of_not_lt b1)
  by_cases b2 : W.toNat / 65536 % 256 < l
  · have e : own_first W.toNat l = 2 := by rw [own_first, if_neg b0, if_neg b1, if_pos b2]
    rw [e]
    refine ⟨fun h => absurd h (by decide), fun _ => own_low _ _ (by decide) (own_one2 W D (own_hit2 _ _ _ _ hD h1 h2 n2 b2)) fun j hj => ?_⟩
    by_cases hm : j % 8 = 7
    · have hj' : j = 7 ∨ j = 15 := own_j2 hj hm
      rcases hj' with rfl | rfl
      · exact own_zero0 W D m0
      · exact own_zero1 W D m1
    · exact own_off W D j hm
  have m2 := own_miss2 _ _ _ _ hD h1 h2 n2 (Nat.le_of_not_lt b2)
  have n3 := own_lo2 W.toNat l n2 (Nat.le_of_not_lt b2)
  by_cases b3 : W.toNat / 16777216 % 256 < l
  · have e : own_first W.toNat l = 3 := by rw [own_first, if_neg b0, if_neg b1, if_neg b2, if_pos b3]
    rw [e]
    refine ⟨fun h => absurd h (by decide), fun _ => own_low _ _ (by decide) (own_one3 W D (own_hit3 _ _ _ _ hD h1 h2 n3 b3)) fun j hj => ?_⟩
    by_cases hm : j % 8 = 7
    · have hj' : j = 7 ∨ j = 15 ∨ j = 23 := own_j3 hj hm
      rcases hj' with rfl | rfl | rfl
      · exact own_zero0 W D m0
      · exact own_zero1 W D m1
      · exact own_zero2 W D m2
    · exact own_off W D j hm
  have m3 := own_miss3 _ _ _ _ hD h1 h2 n3 (Nat.le_of_not_lt b3)
  have n4 := own_lo3 W.toNat l n3 (Nat.le_of_not_lt b3)
  by_cases b4 : W.toNat / 4294967296 % 256 < l
  · have e : own_first W.toNat l = 4 := by rw [own_first, if_neg b0, if_neg b1, if_neg b2, if_neg b3, if_pos b4]
    rw [e]
    refine ⟨fun h => absurd h (by decide), fun _ => own_low _ _ (by decide) (own_one4 W D (own_hit4 _ _ _ _ hD h1 h2 n4 b4)) fun j hj => ?_⟩
    by_cases hm : j % 8 = 7
    · have hj' : j = 7 ∨ j = 15 ∨ j = 23 ∨ j = 31 := own_j4 hj hm
      rcases hj' with rfl | rfl | rfl | rfl
      · exact own_zero0 W D m0
      · exact own_zero1 W D m1
      · exact own_zero2 W D m2
      · exact own_zero3 W D m3
    · exact own_off W D j hm
  have m4 := own_miss4 _ _ _ _ hD h1 h2 n4 (Nat.le_of_not_lt b4)
  have n5 := own_lo4 W.toNat l n4 (Nat.le_of_not_lt b4)
  by_cases b5 : W.toNat / 1099511627776 % 256 < l
  · have e : own_first W.toNat l = 5 := by rw [own_first, if_neg b0, if_neg b1, if_neg b2, if_neg b3, if_neg b4, if_pos b5]
    rw [e]
    refine ⟨fun h => absurd h (by decide), fun _ => own_low _ _ (by decide) (own_one5 W D (own_hit5 _ _ _ _ hD h1 h2 n5 b5)) fun j hj => ?_⟩
    by_cases hm : j % 8 = 7
    · have hj' : j = 7 ∨ j = 15 ∨ j = 23 ∨ j = 31 ∨ j = 39 := own_j5 hj hm
      rcases hj' with rfl | rfl | rfl | rfl | rfl
      · exact own_zero0 W D m0
      · exact own_zero1 W D m1
      · exact own_zero2 W D m2
      · exact own_zero3 W D m3
      · exact own_zero4 W D m4
    · exact own_off W D j hm
  have m5 := own_miss5 _ _ _ _ hD h1 h2 n5 (Nat.le_of_not_lt b5)
  have n6 := own_lo5 W.toNat l n5 (Nat.le_of_not_lt b5)
  by_cases b6 : W.toNat / 281474976710656 % 256 < l
  · have e : own_first W.toNat l = 6 := by rw [own_first, if_neg b0, if_neg b1, if_neg b2, if_neg b3, if_neg b4, if_neg b5, if_pos b6]
    rw [e]
    refine ⟨fun h => absurd h (by decide), fun _ => own_low _ _ (by decide) (own_one6 W D (own_hit6 _ _ _ _ hD h1 h2 n6 b6)) fun j hj => ?_⟩
    by_cases hm : j % 8 = 7
    · have hj' : j = 7 ∨ j = 15 ∨ j = 23 ∨ j = 31 ∨ j = 39 ∨ j = 47 := own_j6 hj hm
      rcases hj' with rfl | rfl | rfl | rfl | rfl | rfl
      · exact own_zero0 W D m0
      · exact own_zero1 W D m1
      · exact own_zero2 W D m2
      · exact own_zero3 W D m3
      · exact own_zero4 W D m4
      · exact own_zero5 W D m5
    · exact own_off W D j hm
  have m6 := own_miss6 _ _ _ _ hD h1 h2 n6 (Nat.le_of_not_lt b6)
  have n7 := own_lo6 W.toNat l n6 (Nat.le_of_not_lt b6)
  by_cases b7 : W.toNat / 72057594037927936 % 256 < l
  · have e : own_first W.toNat l = 7 := by rw [own_first, if_neg b0, if_neg b1, if_neg b2, if_neg b3, if_neg b4, if_neg b5, if_neg b6, if_pos b7]
    rw [e]
    refine ⟨fun h => absurd h (by decide), fun _ => own_low _ _ (by decide) (own_one7 W D (own_hit7 _ _ _ _ hD h1 h2 n7 b7)) fun j hj => ?_⟩
    by_cases hm : j % 8 = 7
    · have hj' : j = 7 ∨ j = 15 ∨ j = 23 ∨ j = 31 ∨ j = 39 ∨ j = 47 ∨ j = 55 := own_j7 hj hm
      rcases hj' with rfl | rfl | rfl | rfl | rfl | rfl | rfl
      · exact own_zero0 W D m0
      · exact own_zero1 W D m1
      · exact own_zero2 W D m2
      · exact own_zero3 W D m3
      · exact own_zero4 W D m4
      · exact own_zero5 W D m5
      · exact own_zero6 W D m6
    · exact own_off W D j hm
  have m7 := own_miss7 _ _ _ _ hD h1 h2 n7 (Nat.le_of_not_lt b7)
  have e : own_first W.toNat l = 8 := by rw [own_first, if_neg b0, if_neg b1, if_neg b2, if_neg b3, if_neg b4, if_neg b5, if_neg b6, if_neg b7]
  refine ⟨fun _ => ?_, fun h => absurd e h⟩
  apply BitVec.eq_of_getLsbD_eq
  intro j hj
  rw [BitVec.getLsbD_zero]
  by_cases hm : j % 8 = 7
  · have hj' : j = 7 ∨ j = 15 ∨ j = 23 ∨ j = 31 ∨ j = 39 ∨ j = 47 ∨ j = 55 ∨ j = 63 := own_j8 hj hm
    rcases hj' with rfl | rfl | rfl | rfl | rfl | rfl | rfl | rfl
    · exact own_zero0 W D m0
    · exact own_zero1 W D m1
    · exact own_zero2 W D m2
    · exact own_zero3 W D m3
    · exact own_zero4 W D m4
    · exact own_zero5 W D m5
    · exact own_zero6 W D m6
    · exact own_zero7 W D m7
  · exact own_off W D j hm

theorem own_neg1 (W : BitVec 64) : W ^^^ (-1 : Int64).toBitVec = ~~~W := by
  rw [show (-1 : Int64).toBitVec = BitVec.allOnes 64 from by decide, BitVec.xor_allOnes]
theorem own_f1 (q1 : Int64) (p : Int32) : (f1 q1 p).toBitVec = own_r q1.toBitVec (q1.toBitVec - 72340172838076673#64 * p.toInt64.toBitVec) := by
  rw [f1, f1_0, Int64.toBitVec_and, Int64.toBitVec_and, Int64.toBitVec_xor, Int64.toBitVec_sub, Int64.toBitVec_mul, own_neg1]
  rfl
theorem own_pl (p : Int32) (l : Nat) (h : p.toInt = l) : p.toInt64.toBitVec.toNat = l := by
  have h1 : p.toInt64.toInt = l := by rw [Int32.toInt_toInt64]; exact h
  have h2 : p.toInt64.toBitVec.toInt = l := h1
  have h3 := p.toInt64.toBitVec.isLt
  rw [BitVec.toInt_eq_toNat_cond] at h2
  split at h2 <;> omega
theorem own_D (W : BitVec 64) (b : BitVec 64) (l : Nat) (hb : b.toNat = l) (h2 : l ≤ 128) : ∃ q, (W - 72340172838076673#64 * b).toNat + l * 72340172838076673 = W.toNat + 18446744073709551616 * q := by
  have e : (72340172838076673#64 * b).toNat = l * 72340172838076673 := by
    rw [BitVec.toNat_mul, hb, Nat.mul_comm]
    exact Nat.mod_eq_of_lt (Nat.lt_of_le_of_lt (Nat.mul_le_mul_right _ h2) (by decide))
  have hW := W.isLt
  have hB : l * 72340172838076673 ≤ 128 * 72340172838076673 := Nat.mul_le_mul_right _ h2
  rw [BitVec.toNat_sub, e]
  obtain ⟨B, hBB⟩ : ∃ z, z = l * 72340172838076673 := ⟨_, rfl⟩
  rw [← hBB] at hB ⊢
  clear hBB e
  by_cases h : B ≤ W.toNat
  · refine ⟨0, ?_⟩; rw [show 2 ^ 64 - B + W.toNat = (W.toNat - B) + 2 ^ 64 by omega, Nat.add_mod_right, Nat.mod_eq_of_lt (by omega)]; omega
  · refine ⟨1, ?_⟩; rw [Nat.mod_eq_of_lt (by omega)]; omega
theorem own_byte (q1 : Int64) (y : Int32) (k : Nat) (hk : (y.toInt64.toUInt64 &&& Int64.toUInt64 63).toBitVec.toNat % 64 = k) : ((XT.ushrL q1 y) &&& (255 : Int64)).toInt = ((q1.toBitVec.toNat / 2 ^ k % 256 : Nat) : Int) := by
  have h1 : ((XT.ushrL q1 y) &&& (255 : Int64)).toBitVec.toNat = q1.toBitVec.toNat / 2 ^ k % 256 := by
    rw [Int64.toBitVec_and, own_shr q1 y k hk, BitVec.toNat_and, BitVec.toNat_ushiftRight, show (255 : Int64).toBitVec.toNat = 2 ^ 8 - 1 from by decide, Nat.and_two_pow_sub_one_eq_mod, Nat.shiftRight_eq_div_pow]
  show ((XT.ushrL q1 y) &&& (255 : Int64)).toBitVec.toInt = _
  rw [BitVec.toInt_eq_toNat_cond, h1, if_pos (by omega)]
theorem own_lt (q1 : Int64) (i p : Int32) (l k : Nat) (hl : p.toInt = l) (hk : (((8 : Int32) * i).toInt64.toUInt64 &&& Int64.toUInt64 63).toBitVec.toNat % 64 = k) : f2 q1 i p = 0 ↔ ¬ (q1.toBitVec.toNat / 2 ^ k % 256 < l) := by
  have h : ((XT.ushrL q1 ((8 : Int32) * i)) &&& (255 : Int64)) < p.toInt64 ↔ q1.toBitVec.toNat / 2 ^ k % 256 < l := by
    rw [Int64.lt_iff_toInt_lt, own_byte q1 _ k hk, Int32.toInt_toInt64, hl]; omega
  rw [f2, f2_0]
  by_cases c : q1.toBitVec.toNat / 2 ^ k % 256 < l
  · rw [if_pos (h.mpr c)]; simp [c]
  · rw [if_neg (fun z => c (h.mp z))]; simp [c]
def own_at (n : Nat) : Int32 := if n = 8 then -1 else Int32.ofNat n
theorem own_at_eq (q1 : Int64) (p2 : Int32) (l : Nat) (hl : ((p2 &&& (127 : Int32)) + (1 : Int32)).toInt = l) : f0_7 q1 p2 = own_at (own_first q1.toBitVec.toNat l) := by
  have b0 := own_lt q1 0 _ l 0 hl (by decide)
  rw [show 2 ^ 0 = 1 from rfl] at b0
  have b1 := own_lt q1 1 _ l 8 hl (by decide)
  rw [show 2 ^ 8 = 256 from rfl] at b1
  have b2 := own_lt q1 2 _ l 16 hl (by decide)
  rw [show 2 ^ 16 = 65536 from rfl] at b2
  have b3 := own_lt q1 3 _ l 24 hl (by decide)
  rw [show 2 ^ 24 = 16777216 from rfl] at b3
  have b4 := own_lt q1 4 _ l 32 hl (by decide)
  rw [show 2 ^ 32 = 4294967296 from rfl] at b4
  have b5 := own_lt q1 5 _ l 40 hl (by decide)
  rw [show 2 ^ 40 = 1099511627776 from rfl] at b5
  have b6 := own_lt q1 6 _ l 48 hl (by decide)
  rw [show 2 ^ 48 = 281474976710656 from rfl] at b6
  have b7 := own_lt q1 7 _ l 56 hl (by decide)
  rw [show 2 ^ 56 = 72057594037927936 from rfl] at b7
  rw [f0_7, f0_6, f0_5, f0_4, f0_3, f0_2, f0_1, f0_0, own_first]
  by_cases c0 : q1.toBitVec.toNat / 1 % 256 < l
  · rw [if_neg (fun z => b0.mp z c0), if_pos c0]; rfl
  rw [if_pos (b0.mpr c0), if_neg c0]
  by_cases c1 : q1.toBitVec.toNat / 256 % 256 < l
  · rw [if_neg (fun z => b1.mp z c1), if_pos c1]; rfl
  rw [if_pos (b1.mpr c1), if_neg c1]
  by_cases c2 : q1.toBitVec.toNat / 65536 % 256 < l
  · rw [if_neg (fun z => b2.mp z c2), if_pos c2]; rfl
  rw [if_pos (b2.mpr c2), if_neg c2]
  by_cases c3 : q1.toBitVec.toNat / 16777216 % 256 < l
  · rw [if_neg (fun z => b3.mp z c3), if_pos c3]; rfl
  rw [if_pos (b3.mpr c3), if_neg c3]
  by_cases c4 : q1.toBitVec.toNat / 4294967296 % 256 < l
  · rw [if_neg (fun z => b4.mp z c4), if_pos c4]; rfl
  rw [if_pos (b4.mpr c4), if_neg c4]
  by_cases c5 : q1.toBitVec.toNat / 1099511627776 % 256 < l
  · rw [if_neg (fun z => b5.mp z c5), if_pos c5]; rfl
  rw [if_pos (b5.mpr c5), if_neg c5]
  by_cases c6 : q1.toBitVec.toNat / 281474976710656 % 256 < l
  · rw [if_neg (fun z => b6.mp z c6), if_pos c6]; rfl
  rw [if_pos (b6.mpr c6), if_neg c6]
  by_cases c7 : q1.toBitVec.toNat / 72057594037927936 % 256 < l
  · rw [if_neg (fun z => b7.mp z c7), if_pos c7]; rfl
  rw [if_pos (b7.mpr c7), if_neg c7]
  rfl
theorem own_first_le (W l : Nat) : own_first W l ≤ 8 := by
  rw [own_first]; repeat' split
  all_goals decide
theorem own_least (p2 : Int32) : ∃ l : Nat, ((p2 &&& (127 : Int32)) + (1 : Int32)).toInt = l ∧ 1 ≤ l ∧ l ≤ 128 := by
  have h1 : (p2 &&& (127 : Int32)).toBitVec.toNat < 128 := by
    show (p2.toBitVec &&& (127 : Int32).toBitVec).toNat < 128
    rw [BitVec.toNat_and, show (127 : Int32).toBitVec.toNat = 2 ^ 7 - 1 from by decide, Nat.and_two_pow_sub_one_eq_mod]
    exact Nat.mod_lt _ (by decide)
  have h2 : (p2 &&& (127 : Int32)).toInt = (p2 &&& (127 : Int32)).toBitVec.toNat := by
    show (p2 &&& (127 : Int32)).toBitVec.toInt = _
    rw [BitVec.toInt_eq_toNat_cond, if_pos (by omega)]
  refine ⟨(p2 &&& (127 : Int32)).toBitVec.toNat + 1, ?_, by omega, by omega⟩
  rw [Int32.toInt_add, h2, show (1 : Int32).toInt = 1 from by decide, Int.bmod_def]
  omega
theorem own_law (q1 : Int64) (p2 : Int32) : f0 q1 p2 = 1 := by
  obtain ⟨l, hl, l1, l2⟩ := own_least p2
  obtain ⟨q, hD⟩ := own_D q1.toBitVec ((p2 &&& (127 : Int32)) + (1 : Int32)).toInt64.toBitVec l (own_pl _ l hl) l2
  obtain ⟨g1, g2⟩ := own_below q1.toBitVec _ l q hD l1 l2
  rw [← own_f1] at g1 g2
  have e := own_at_eq q1 p2 l hl
  have le := own_first_le q1.toBitVec.toNat l
  rw [f0, e]
  have r1 : f0_9 q1 p2 = f0_9 q1 p2 := rfl
  generalize own_first q1.toBitVec.toNat l = n at *
  by_cases c : n = 8
  · subst c
    have z : f1 q1 ((p2 &&& (127 : Int32)) + (1 : Int32)) = 0 := Int64.toBitVec_inj.mp (g1 rfl)
    rw [if_pos (by decide), f0_8, if_pos z]; rfl
  · have g3 := g2 c
    have z : (f0_9 q1 p2).toBitVec = BitVec.twoPow 64 (8 * n + 7) := by
      rw [f0_9, Int64.toBitVec_and, Int64.toBitVec_neg]; exact g3
    have w : f0_9 q1 p2 = f0_10 q1 p2 ∧ ¬ own_at n < 0 := by
      refine ⟨Int64.toBitVec_inj.mp ?_, ?_⟩
      · rw [z, f0_10, e]
        have : n = 0 ∨ n = 1 ∨ n = 2 ∨ n = 3 ∨ n = 4 ∨ n = 5 ∨ n = 6 ∨ n = 7 := by omega
        rcases this with rfl | rfl | rfl | rfl | rfl | rfl | rfl | rfl <;> decide +kernel
      · have : n = 0 ∨ n = 1 ∨ n = 2 ∨ n = 3 ∨ n = 4 ∨ n = 5 ∨ n = 6 ∨ n = 7 := by omega
        rcases this with rfl | rfl | rfl | rfl | rfl | rfl | rfl | rfl <;> decide +kernel
    rw [if_neg w.2, f0_11, if_pos w.1]; rfl

abbrev own_G (tb : Tables) (e : Env) (below : List Frame) (Q : Outcome → State → Prop) (A : State) : Prop := ∃ s₂ o, Steps tb e below A s₂ ∧ s₂.status = .running ∧ Ended s₂ below o ∧ Q o s₂
theorem own_step {tb : Tables} {e : Env} {below : List Frame} {Q : Outcome → State → Prop} {A B : State} (h : ∀ t, Steps tb e below B t → Steps tb e below A t) (g : own_G tb e below Q B) : own_G tb e below Q A := by
  obtain ⟨s2, o, h1, h2⟩ := g
  exact ⟨s2, o, h _ h1, h2⟩
theorem own_aT {x y : Addr} (h : x = y) : XT.acmp .eq (.ref x) (.ref y) = true ∧ XT.acmp .ne (.ref x) (.ref y) = false := by subst h; exact ⟨by simp [XT.acmp], by simp [XT.acmp]⟩
theorem own_aF {x y : Addr} (h : ¬ x = y) : XT.acmp .eq (.ref x) (.ref y) = false ∧ XT.acmp .ne (.ref x) (.ref y) = true := by simp [XT.acmp, h]
theorem own_cl (x y : Int64) : XT.cmpL x y < 0 ↔ x < y := lw_lt x y
theorem own_cg (x y : Int64) : 0 < XT.cmpL x y ↔ y < x := lw_gt x y
theorem own_ce (x y : Int64) : XT.cmpL x y = 0 ↔ x = y := lw_eq x y
theorem pd_0 : parseMethodDescriptor "(JI)J" = some ⟨[.long, .int], some .long⟩ := by decide +kernel
theorem pd_1 : parseMethodDescriptor "(JII)Z" = some ⟨[.long, .int, .int], some .boolean⟩ := by decide +kernel
theorem d1_0 : decode prog_19_method_4_code 0 = .ok (.lload_n 0, 1) := by decide +kernel
theorem d1_1 : decode prog_19_method_4_code 1 = .ok (.ldc2_w 19, 3) := by decide +kernel
theorem d1_4 : decode prog_19_method_4_code 4 = .ok (.iload_n 2, 1) := by decide +kernel
theorem d1_5 : decode prog_19_method_4_code 5 = .ok (.i2l, 1) := by decide +kernel
theorem d1_6 : decode prog_19_method_4_code 6 = .ok (.lmul, 1) := by decide +kernel
theorem d1_7 : decode prog_19_method_4_code 7 = .ok (.lsub, 1) := by decide +kernel
theorem d1_8 : decode prog_19_method_4_code 8 = .ok (.lload_n 0, 1) := by decide +kernel
theorem d1_9 : decode prog_19_method_4_code 9 = .ok (.ldc2_w 25, 3) := by decide +kernel
theorem d1_12 : decode prog_19_method_4_code 12 = .ok (.lxor, 1) := by decide +kernel
theorem d1_13 : decode prog_19_method_4_code 13 = .ok (.land, 1) := by decide +kernel
theorem d1_14 : decode prog_19_method_4_code 14 = .ok (.ldc2_w 27, 3) := by decide +kernel
theorem d1_17 : decode prog_19_method_4_code 17 = .ok (.land, 1) := by decide +kernel
theorem d1_18 : decode prog_19_method_4_code 18 = .ok (.lreturn, 1) := by decide +kernel
theorem pn_1 : plainName "com/example/apportion/apportion/Words" = true := by first | (simp [plainName, overriddenIn]; done) | decide +kernel
theorem ef_1 (m : MethodId) (q1 : Int64) (p2 : Int32) : entryFrame m #[(.long q1), (.int p2)] 3 = mkF m 0 #[.val (.long q1), .second, .val (.int p2)] [] := by first | (simp [entryFrame, mkF, argsToLocals, Value.category]; done) | rfl
def Q1 (Z : State) (q1 : Int64) (p2 : Int32) (h0 : Heap) (n0 : Nat) (v : Option Value) (h : Heap) (L : List Loc) : Prop := v = some (.long (f1 q1 p2)) ∧ Fr n0 L ∧ h = h0
set_option maxRecDepth 65536 in
set_option maxHeartbeats 40000000 in
theorem rm1 (l : Launch) (Z : State) (a0 : Array Value) (hw : ∀ d ∈ tables_1, d.before a0 Z = true) (ws : List Jvm.Cond) (q1 : Int64) (p2 : Int32) (h0 : Heap) (n0 : Nat) (Z0 : n0 ≤ h0.size) :
    MetFree l (⟨"com/example/apportion/apportion/Words", "below", "(JI)J"⟩ : MethodName) (head1 (Jvm.Cond.code (⟨"com/example/apportion/apportion/Words", "below", "(JI)J"⟩ : MethodName) prog_19_method_4_code 3 (some .long) :: ws) ({ frames := 0, cells := 0, slots := 0, locals := 0 } : Room)) (fun a U => a = #[(.long q1), (.int p2)] ∧ Z.Warmed39 U.vm ∧ U.heap = h0) (fun _ _ _ _ _ => True) (fun _ U o U' => ∃ v L, o = .returned v ∧ Q1 Z q1 p2 h0 n0 v U'.heap L ∧ FrameEnd U o U' L ({ frames := 0, cells := 0, slots := 0, locals := 0 } : Room).cells ({ frames := 0, cells := 0, slots := 0, locals := 0 } : Room).slots) := by
  refine MetFree.of_bodySF (plainFor_of_name pn_1) hisR ?_
  intro p e s m args below meth c s₁ Bd hml0 hP hK
  obtain ⟨rfl, hZ, hh⟩ := hP
  have hx := Bd.exec
  have hby := Bd.bytes
  have hml : c.maxLocals = 3 := hml0
  have hown : s.vm.findClass "com/example/apportion/apportion/Words" = some m.cls := findClass_of_methodNamed Bd.named
  have hnm := (name_of_methodNamed Bd.named Bd.method).1
  have X0 : Stand p l e ({ frames := 0, cells := 0, slots := 0, locals := 0 } : Room) s m #[(.long q1), (.int p2)] below meth c s₁ [] 0 0 := Stand.of_body Bd
  have e0 : s₁.heap = h0 := by rw [← hh, Bd.state]; rfl
  have N0 := Fr.nil n0
  have pre0 : ∀ t, Steps p.tables e below (s₁.setTop (mkF m 0 #[.val (.long q1), .second, .val (.int p2)] [])) t → Steps p.tables e below (s₁.setTop (entryFrame m #[(.long q1), (.int p2)] 3)) t := fun t k => castTop (ef_1 m q1 p2) k
  refine own_step (Q := fun o U' => ∃ v L, o = .returned v ∧ Q1 Z q1 p2 h0 n0 v U'.heap L ∧ FrameEnd s o U' L ({ frames := 0, cells := 0, slots := 0, locals := 0 } : Room).cells ({ frames := 0, cells := 0, slots := 0, locals := 0 } : Room).slots) pre0 ?_
  obtain ⟨fs, hr, hrun, hended, hW, hsame⟩ := X0.leave (v := some (.long ((f1_0 q1 p2) &&& (-9187201950435737472 : Int64)))) (fun h => by rw [Bd.returns] at h; cases h)
  refine ⟨_, _, ?_, hrun, hended, _, _, rfl, ?_, ⟨_, rfl⟩, hW, hsame.mono (by decide) (by decide)⟩
  · show Steps p.tables e below (s₁.setTop (mkF m 0 #[.val (.long q1), .second, .val (.int p2)] [])) _
    refine XT.lloadN X0.here hx rfl (hb hby d1_0) rfl ?_
    show Steps p.tables e below (s₁.setTop (mkF m 1 #[.val (.long q1), .second, .val (.int p2)] [(.long q1)])) _
    refine X0.ldc2Long hx hown (mvT hZ (hw _ (List.mem_of_getElem? (i := 4) rfl))) (g := (mkF m 1 #[.val (.long q1), .second, .val (.int p2)] [(.long q1)])) rfl (hb hby d1_1) _ ?_
    show Steps p.tables e below (s₁.setTop (mkF m 4 #[.val (.long q1), .second, .val (.int p2)] [(.long (72340172838076673 : Int64)), (.long q1)])) _
    refine XS.iloadN X0.here hx rfl (hb hby d1_4) rfl ?_
    show Steps p.tables e below (s₁.setTop (mkF m 5 #[.val (.long q1), .second, .val (.int p2)] [(.int p2), (.long (72340172838076673 : Int64)), (.long q1)])) _
    refine XT.i2l X0.here hx rfl (hb hby d1_5) rfl ?_
    show Steps p.tables e below (s₁.setTop (mkF m 6 #[.val (.long q1), .second, .val (.int p2)] [(.long p2.toInt64), (.long (72340172838076673 : Int64)), (.long q1)])) _
    refine XT.lmul X0.here hx rfl (hb hby d1_6) rfl ?_
    show Steps p.tables e below (s₁.setTop (mkF m 7 #[.val (.long q1), .second, .val (.int p2)] [(.long ((72340172838076673 : Int64) * p2.toInt64)), (.long q1)])) _
    refine XT.lsub X0.here hx rfl (hb hby d1_7) rfl ?_
    show Steps p.tables e below (s₁.setTop (mkF m 8 #[.val (.long q1), .second, .val (.int p2)] [(.long (q1 - ((72340172838076673 : Int64) * p2.toInt64)))])) _
    refine XT.lloadN X0.here hx rfl (hb hby d1_8) rfl ?_
    show Steps p.tables e below (s₁.setTop (mkF m 9 #[.val (.long q1), .second, .val (.int p2)] [(.long q1), (.long (q1 - ((72340172838076673 : Int64) * p2.toInt64)))])) _
    refine X0.ldc2Long hx hown (mvT hZ (hw _ (List.mem_of_getElem? (i := 5) rfl))) (g := (mkF m 9 #[.val (.long q1), .second, .val (.int p2)] [(.long q1), (.long (q1 - ((72340172838076673 : Int64) * p2.toInt64)))])) rfl (hb hby d1_9) _ ?_
    show Steps p.tables e below (s₁.setTop (mkF m 12 #[.val (.long q1), .second, .val (.int p2)] [(.long (-1 : Int64)), (.long q1), (.long (q1 - ((72340172838076673 : Int64) * p2.toInt64)))])) _
    refine XT.lxor X0.here hx rfl (hb hby d1_12) rfl ?_
    show Steps p.tables e below (s₁.setTop (mkF m 13 #[.val (.long q1), .second, .val (.int p2)] [(.long (q1 ^^^ (-1 : Int64))), (.long (q1 - ((72340172838076673 : Int64) * p2.toInt64)))])) _
    refine XT.land X0.here hx rfl (hb hby d1_13) rfl ?_
    show Steps p.tables e below (s₁.setTop (mkF m 14 #[.val (.long q1), .second, .val (.int p2)] [(.long (f1_0 q1 p2))])) _
    refine X0.ldc2Long hx hown (mvT hZ (hw _ (List.mem_of_getElem? (i := 6) rfl))) (g := (mkF m 14 #[.val (.long q1), .second, .val (.int p2)] [(.long (f1_0 q1 p2))])) rfl (hb hby d1_14) _ ?_
    show Steps p.tables e below (s₁.setTop (mkF m 17 #[.val (.long q1), .second, .val (.int p2)] [(.long (-9187201950435737472 : Int64)), (.long (f1_0 q1 p2))])) _
    refine XT.land X0.here hx rfl (hb hby d1_17) rfl ?_
    show Steps p.tables e below (s₁.setTop (mkF m 18 #[.val (.long q1), .second, .val (.int p2)] [(.long ((f1_0 q1 p2) &&& (-9187201950435737472 : Int64)))])) _
    jvm_step X0.here [X0.here.top, hx, (hb hby d1_18), X0.method', Bd.returns, narrow]
    first | (intro acts; rw [hr _ acts rfl rfl rfl]) | rw [hr _ _ rfl rfl rfl]
    exact Steps.refl _
  · show Q1 Z q1 p2 h0 n0 _ s₁.heap _
    rw [e0]
    have hf : f1 q1 p2 = ((f1_0 q1 p2) &&& (-9187201950435737472 : Int64)) := rfl
    exact ⟨by rw [hf], N0, rfl⟩
theorem d2_0 : decode method_2_code 0 = .ok (.lload_n 0, 1) := by decide +kernel
theorem d2_1 : decode method_2_code 1 = .ok (.bipush 8, 2) := by decide +kernel
theorem d2_3 : decode method_2_code 3 = .ok (.iload_n 2, 1) := by decide +kernel
theorem d2_4 : decode method_2_code 4 = .ok (.imul, 1) := by decide +kernel
theorem d2_5 : decode method_2_code 5 = .ok (.lushr, 1) := by decide +kernel
theorem d2_6 : decode method_2_code 6 = .ok (.ldc2_w 7, 3) := by decide +kernel
theorem d2_9 : decode method_2_code 9 = .ok (.land, 1) := by decide +kernel
theorem d2_10 : decode method_2_code 10 = .ok (.iload_n 3, 1) := by decide +kernel
theorem d2_11 : decode method_2_code 11 = .ok (.i2l, 1) := by decide +kernel
theorem d2_12 : decode method_2_code 12 = .ok (.lcmp, 1) := by decide +kernel
theorem d2_13 : decode method_2_code 13 = .ok (.ifCond .ge 7, 3) := by decide +kernel
theorem d2_16 : decode method_2_code 16 = .ok (.iconst 1, 1) := by decide +kernel
theorem d2_17 : decode method_2_code 17 = .ok (.goto 4, 3) := by decide +kernel
theorem d2_20 : decode method_2_code 20 = .ok (.iconst 0, 1) := by decide +kernel
theorem d2_21 : decode method_2_code 21 = .ok (.ireturn, 1) := by decide +kernel
theorem pn_2 : plainName "com/example/apportion/apportion/WordsBelowPinLaw" = true := by first | (simp [plainName, overriddenIn]; done) | decide +kernel
theorem ef_2 (m : MethodId) (q1 : Int64) (p2 : Int32) (p3 : Int32) : entryFrame m #[(.long q1), (.int p2), (.int p3)] 4 = mkF m 0 #[.val (.long q1), .second, .val (.int p2), .val (.int p3)] [] := by first | (simp [entryFrame, mkF, argsToLocals, Value.category]; done) | rfl
def Q2 (Z : State) (q1 : Int64) (p2 : Int32) (p3 : Int32) (h0 : Heap) (n0 : Nat) (v : Option Value) (h : Heap) (L : List Loc) : Prop := v = some (.int (f2 q1 p2 p3)) ∧ Fr n0 L ∧ h = h0
set_option maxRecDepth 65536 in
set_option maxHeartbeats 40000000 in
theorem rm2 (l : Launch) (Z : State) (a0 : Array Value) (hw : ∀ d ∈ tables_1, d.before a0 Z = true) (ws : List Jvm.Cond) (q1 : Int64) (p2 : Int32) (p3 : Int32) (h0 : Heap) (n0 : Nat) (Z0 : n0 ≤ h0.size) :
    MetFree l (⟨"com/example/apportion/apportion/WordsBelowPinLaw", "lt", "(JII)Z"⟩ : MethodName) (head1 (Jvm.Cond.code (⟨"com/example/apportion/apportion/WordsBelowPinLaw", "lt", "(JII)Z"⟩ : MethodName) method_2_code 4 (some .boolean) :: ws) ({ frames := 0, cells := 0, slots := 0, locals := 0 } : Room)) (fun a U => a = #[(.long q1), (.int p2), (.int p3)] ∧ Z.Warmed39 U.vm ∧ U.heap = h0) (fun _ _ _ _ _ => True) (fun _ U o U' => ∃ v L, o = .returned v ∧ Q2 Z q1 p2 p3 h0 n0 v U'.heap L ∧ FrameEnd U o U' L ({ frames := 0, cells := 0, slots := 0, locals := 0 } : Room).cells ({ frames := 0, cells := 0, slots := 0, locals := 0 } : Room).slots) := by
  refine MetFree.of_bodySF (plainFor_of_name pn_2) hisR ?_
  intro p e s m args below meth c s₁ Bd hml0 hP hK
  obtain ⟨rfl, hZ, hh⟩ := hP
  have hx := Bd.exec
  have hby := Bd.bytes
  have hml : c.maxLocals = 4 := hml0
  have hown : s.vm.findClass "com/example/apportion/apportion/WordsBelowPinLaw" = some m.cls := findClass_of_methodNamed Bd.named
  have hnm := (name_of_methodNamed Bd.named Bd.method).1
  have X0 : Stand p l e ({ frames := 0, cells := 0, slots := 0, locals := 0 } : Room) s m #[(.long q1), (.int p2), (.int p3)] below meth c s₁ [] 0 0 := Stand.of_body Bd
  have e0 : s₁.heap = h0 := by rw [← hh, Bd.state]; rfl
  have N0 := Fr.nil n0
  have pre0 : ∀ t, Steps p.tables e below (s₁.setTop (mkF m 0 #[.val (.long q1), .second, .val (.int p2), .val (.int p3)] [])) t → Steps p.tables e below (s₁.setTop (entryFrame m #[(.long q1), (.int p2), (.int p3)] 4)) t := fun t k => castTop (ef_2 m q1 p2 p3) k
  refine own_step (Q := fun o U' => ∃ v L, o = .returned v ∧ Q2 Z q1 p2 p3 h0 n0 v U'.heap L ∧ FrameEnd s o U' L ({ frames := 0, cells := 0, slots := 0, locals := 0 } : Room).cells ({ frames := 0, cells := 0, slots := 0, locals := 0 } : Room).slots) pre0 ?_
  have st2 : ∀ t, Steps p.tables e below (s₁.setTop (mkF m 21 #[.val (.long q1), .second, .val (.int p2), .val (.int p3)] [(.int (f2_0 q1 p2 p3))])) t → Steps p.tables e below (s₁.setTop (mkF m 13 #[.val (.long q1), .second, .val (.int p2), .val (.int p3)] [(.int (XT.cmpL ((XT.ushrL q1 ((8 : Int32) * p2)) &&& (255 : Int64)) p3.toInt64))])) t := by
    intro t k
    by_cases h1 : ((XT.ushrL q1 ((8 : Int32) * p2)) &&& (255 : Int64)) < p3.toInt64
    · rw [show (f2_0 q1 p2 p3) = (1 : Int32) from if_pos h1] at k
      show Steps p.tables e below (s₁.setTop (mkF m 13 #[.val (.long q1), .second, .val (.int p2), .val (.int p3)] [(.int (XT.cmpL ((XT.ushrL q1 ((8 : Int32) * p2)) &&& (255 : Int64)) p3.toInt64))])) _
      refine XS.ifNo X0.here hx rfl (hb hby d2_13) rfl ((if0 _ _).trans (tlt ((own_cl _ _).mpr h1)).2.1) ?_
      show Steps p.tables e below (s₁.setTop (mkF m 16 #[.val (.long q1), .second, .val (.int p2), .val (.int p3)] [])) _
      refine XS.iconst X0.here hx rfl (hb hby d2_16) ?_
      show Steps p.tables e below (s₁.setTop (mkF m 17 #[.val (.long q1), .second, .val (.int p2), .val (.int p3)] [(.int (1 : Int32))])) _
      refine XS.goto X0.here hx rfl (pc0 := 17) (pc' := 21) rfl (hb hby d2_17) (by decide) (by decide) ?_
      exact k
    · rw [show (f2_0 q1 p2 p3) = (0 : Int32) from if_neg h1] at k
      show Steps p.tables e below (s₁.setTop (mkF m 13 #[.val (.long q1), .second, .val (.int p2), .val (.int p3)] [(.int (XT.cmpL ((XT.ushrL q1 ((8 : Int32) * p2)) &&& (255 : Int64)) p3.toInt64))])) _
      refine XS.ifYes X0.here hx rfl (pc0 := 13) (pc' := 20) rfl (hb hby d2_13) rfl ((if0 _ _).trans (flt (mt (own_cl _ _).mp h1)).2.1) (by decide) (by decide) ?_
      show Steps p.tables e below (s₁.setTop (mkF m 20 #[.val (.long q1), .second, .val (.int p2), .val (.int p3)] [])) _
      refine XS.iconst X0.here hx rfl (hb hby d2_20) ?_
      exact k
  obtain ⟨fs, hr, hrun, hended, hW, hsame⟩ := X0.leave (v := some (.int ((f2_0 q1 p2 p3) &&& 1))) (fun h => by rw [Bd.returns] at h; cases h)
  refine ⟨_, _, ?_, hrun, hended, _, _, rfl, ?_, ⟨_, rfl⟩, hW, hsame.mono (by decide) (by decide)⟩
  · show Steps p.tables e below (s₁.setTop (mkF m 0 #[.val (.long q1), .second, .val (.int p2), .val (.int p3)] [])) _
    refine XT.lloadN X0.here hx rfl (hb hby d2_0) rfl ?_
    show Steps p.tables e below (s₁.setTop (mkF m 1 #[.val (.long q1), .second, .val (.int p2), .val (.int p3)] [(.long q1)])) _
    refine XS.bipush X0.here hx rfl (hb hby d2_1) ?_
    show Steps p.tables e below (s₁.setTop (mkF m 3 #[.val (.long q1), .second, .val (.int p2), .val (.int p3)] [(.int (8 : Int32)), (.long q1)])) _
    refine XS.iloadN X0.here hx rfl (hb hby d2_3) rfl ?_
    show Steps p.tables e below (s₁.setTop (mkF m 4 #[.val (.long q1), .second, .val (.int p2), .val (.int p3)] [(.int p2), (.int (8 : Int32)), (.long q1)])) _
    refine XS.imul X0.here hx rfl (hb hby d2_4) rfl ?_
    show Steps p.tables e below (s₁.setTop (mkF m 5 #[.val (.long q1), .second, .val (.int p2), .val (.int p3)] [(.int ((8 : Int32) * p2)), (.long q1)])) _
    refine XT.lushr X0.here hx rfl (hb hby d2_5) rfl ?_
    show Steps p.tables e below (s₁.setTop (mkF m 6 #[.val (.long q1), .second, .val (.int p2), .val (.int p3)] [(.long (XT.ushrL q1 ((8 : Int32) * p2)))])) _
    refine X0.ldc2Long hx hown (mvT hZ (hw _ (List.mem_of_getElem? (i := 11) rfl))) (g := (mkF m 6 #[.val (.long q1), .second, .val (.int p2), .val (.int p3)] [(.long (XT.ushrL q1 ((8 : Int32) * p2)))])) rfl (hb hby d2_6) _ ?_
    show Steps p.tables e below (s₁.setTop (mkF m 9 #[.val (.long q1), .second, .val (.int p2), .val (.int p3)] [(.long (255 : Int64)), (.long (XT.ushrL q1 ((8 : Int32) * p2)))])) _
    refine XT.land X0.here hx rfl (hb hby d2_9) rfl ?_
    show Steps p.tables e below (s₁.setTop (mkF m 10 #[.val (.long q1), .second, .val (.int p2), .val (.int p3)] [(.long ((XT.ushrL q1 ((8 : Int32) * p2)) &&& (255 : Int64)))])) _
    refine XS.iloadN X0.here hx rfl (hb hby d2_10) rfl ?_
    show Steps p.tables e below (s₁.setTop (mkF m 11 #[.val (.long q1), .second, .val (.int p2), .val (.int p3)] [(.int p3), (.long ((XT.ushrL q1 ((8 : Int32) * p2)) &&& (255 : Int64)))])) _
    refine XT.i2l X0.here hx rfl (hb hby d2_11) rfl ?_
    show Steps p.tables e below (s₁.setTop (mkF m 12 #[.val (.long q1), .second, .val (.int p2), .val (.int p3)] [(.long p3.toInt64), (.long ((XT.ushrL q1 ((8 : Int32) * p2)) &&& (255 : Int64)))])) _
    refine XT.lcmp X0.here hx rfl (hb hby d2_12) rfl ?_
    show Steps p.tables e below (s₁.setTop (mkF m 13 #[.val (.long q1), .second, .val (.int p2), .val (.int p3)] [(.int (XT.cmpL ((XT.ushrL q1 ((8 : Int32) * p2)) &&& (255 : Int64)) p3.toInt64))])) _
    refine st2 _ ?_
    show Steps p.tables e below (s₁.setTop (mkF m 21 #[.val (.long q1), .second, .val (.int p2), .val (.int p3)] [(.int (f2_0 q1 p2 p3))])) _
    exact retN X0 hx (t := .boolean) Bd.returns (by simp) (hb hby d2_21) hr
  · show Q2 Z q1 p2 p3 h0 n0 _ s₁.heap _
    rw [e0]
    have hf : f2 q1 p2 p3 = ((f2_0 q1 p2 p3) &&& 1) := rfl
    exact ⟨by rw [hf], N0, rfl⟩
theorem pn_0 : plainName "com/example/apportion/apportion/WordsBelowPinLaw" = true := by first | (simp [plainName, overriddenIn]; done) | decide +kernel
theorem ef_0 (m : MethodId) (q1 : Int64) (p2 : Int32) : entryFrame m #[(.long q1), (.int p2)] maxLocals = mkF m 0 #[.val (.long q1), .second, .val (.int p2), .unset, .unset, .unset, .unset] [] := by first | (simp [entryFrame, mkF, argsToLocals, Value.category, maxLocals]; done) | rfl
def Q0 (Z : State) (q1 : Int64) (p2 : Int32) (h0 : Heap) (n0 : Nat) (v : Option Value) (h : Heap) (L : List Loc) : Prop := v = some (.int (1 : Int32)) ∧ Fr n0 L
set_option maxRecDepth 65536 in
set_option maxHeartbeats 40000000 in
theorem rm0 (l : Launch) (Z : State) (a0 : Array Value) (hw : ∀ d ∈ tables_1, d.before a0 Z = true) (ws : List Jvm.Cond) (q1 : Int64) (p2 : Int32) (h0 : Heap) (n0 : Nat) (Z0 : n0 ≤ h0.size) :
    MetFree l x (head1 (Jvm.Cond.code x code maxLocals ret :: ws) room_1) (fun a U => a = #[(.long q1), (.int p2)] ∧ Z.Warmed39 U.vm ∧ U.heap = h0) (fun _ _ _ _ _ => True) (fun _ U o U' => ∃ v L, o = .returned v ∧ Q0 Z q1 p2 h0 n0 v U'.heap L ∧ FrameEnd U o U' L room_1.cells room_1.slots) := by
  refine MetFree.of_bodySF (plainFor_of_name pn_0) hisR ?_
  intro p e s m args below meth c s₁ Bd hml0 hP hK
  obtain ⟨rfl, hZ, hh⟩ := hP
  have hx := Bd.exec
  have hby := Bd.bytes
  have hml : c.maxLocals = 7 := hml0
  have hown : s.vm.findClass "com/example/apportion/apportion/WordsBelowPinLaw" = some m.cls := findClass_of_methodNamed Bd.named
  have hnm := (name_of_methodNamed Bd.named Bd.method).1
  have X0 : Stand p l e room_1 s m #[(.long q1), (.int p2)] below meth c s₁ [] 0 0 := Stand.of_body Bd
  have e0 : s₁.heap = h0 := by rw [← hh, Bd.state]; rfl
  have N0 := Fr.nil n0
  have pre0 : ∀ t, Steps p.tables e below (s₁.setTop (mkF m 0 #[.val (.long q1), .second, .val (.int p2), .unset, .unset, .unset, .unset] [])) t → Steps p.tables e below (s₁.setTop (entryFrame m #[(.long q1), (.int p2)] maxLocals)) t := fun t k => castTop (ef_0 m q1 p2) k
  refine own_step (Q := fun o U' => ∃ v L, o = .returned v ∧ Q0 Z q1 p2 h0 n0 v U'.heap L ∧ FrameEnd s o U' L room_1.cells room_1.slots) pre0 ?_
  have K0 : Keep h0 h0 [] := Keep.refl h0 []
  obtain ⟨_, _, ⟨T1, L1, k1, n1⟩, -, X1, ⟨Lc1, hQ1, l1, y1, z1⟩, st1⟩ := Jvm.LawKit.callS X0 hx (y := (⟨"com/example/apportion/apportion/Words", "below", "(JI)J"⟩ : MethodName)) hown (mvT hZ (hw _ (List.mem_of_getElem? (i := 0) rfl))) (mvT hZ (hw _ (List.mem_of_getElem? (i := 1) rfl))) (mvT hZ (hw _ (List.mem_of_getElem? (i := 2) rfl))) (mvT hZ (hw _ (List.mem_of_getElem? (i := 3) rfl))) (by decide) (backOf (W := 0) (rm1 l Z a0 hw [] q1 ((p2 &&& (127 : Int32)) + (1 : Int32)) h0 n0 Z0) hZ (hw _ (List.mem_of_getElem? (i := 3) rfl)) (hw _ (List.mem_of_getElem? (i := 2) rfl)) (by decide) (by decide)) (g := (mkF m 9 #[.val (.long q1), .second, .val (.int p2), .val (.int ((p2 &&& (127 : Int32)) + (1 : Int32))), .unset, .unset, .unset] [(.int ((p2 &&& (127 : Int32)) + (1 : Int32))), (.long q1)])) rfl (by rw [hml]; rfl) (argsL := [(.long q1), (.int ((p2 &&& (127 : Int32)) + (1 : Int32)))]) (rest := []) (lenOf pd_0 rfl) rfl (by show 2 * 0 + _ ≤ _; exact Nat.le_of_eq rfl) (hb hby at_9) (fun _ _ => ⟨rfl, e0, (by decide : 0 + 0 ≤ _), (by decide : 0 + 0 ≤ _)⟩)
  dsimp only [Pt.U, Pt.locs, Pt.cells, Pt.slots] at X1 l1 y1 z1 st1 hQ1
  subst l1 y1 z1
  obtain ⟨rfl, N1q, e1⟩ := hQ1
  have N1 := Fr.app N0 N1q
  obtain ⟨_, _, ⟨T2, L2, k2, n2⟩, -, X2, ⟨Lc2, hQ2, l2, y2, z2⟩, st2⟩ := Jvm.LawKit.callS X1 hx (y := (⟨"com/example/apportion/apportion/WordsBelowPinLaw", "lt", "(JII)Z"⟩ : MethodName)) hown (mvT hZ (hw _ (List.mem_of_getElem? (i := 7) rfl))) (mvT hZ (hw _ (List.mem_of_getElem? (i := 8) rfl))) (mvT hZ (hw _ (List.mem_of_getElem? (i := 9) rfl))) (mvT hZ (hw _ (List.mem_of_getElem? (i := 10) rfl))) (by decide) (backOf (W := 0) (rm2 l Z a0 hw [] q1 (0 : Int32) ((p2 &&& (127 : Int32)) + (1 : Int32)) h0 n0 Z0) hZ (hw _ (List.mem_of_getElem? (i := 10) rfl)) (hw _ (List.mem_of_getElem? (i := 9) rfl)) (by decide) (by decide)) (g := (mkF m 17 #[.val (.long q1), .second, .val (.int p2), .val (.int ((p2 &&& (127 : Int32)) + (1 : Int32))), .val (.long (f1 q1 ((p2 &&& (127 : Int32)) + (1 : Int32)))), .second, .unset] [(.int ((p2 &&& (127 : Int32)) + (1 : Int32))), (.int (0 : Int32)), (.long q1)])) rfl (by rw [hml]; rfl) (argsL := [(.long q1), (.int (0 : Int32)), (.int ((p2 &&& (127 : Int32)) + (1 : Int32)))]) (rest := []) (lenOf pd_1 rfl) rfl (by show 2 * 0 + _ ≤ _; exact Nat.le_of_eq rfl) (hb hby at_17) (fun _ _ => ⟨rfl, e1, (by decide : 0 + 0 ≤ _), (by decide : 0 + 0 ≤ _)⟩)
  dsimp only [Pt.U, Pt.locs, Pt.cells, Pt.slots] at X2 l2 y2 z2 st2 hQ2
  subst l2 y2 z2
  obtain ⟨rfl, N2q, e2⟩ := hQ2
  have N2 := Fr.app N1 N2q
  obtain ⟨T25, lo25, X25, e25, N25, st25⟩ : ∃ (T' : State) (lo : List Loc) (_ : Stand p l e room_1 s m #[(.long q1), (.int p2)] below meth c T' lo 0 0), T'.heap = h0 ∧ Fr n0 lo ∧ ∀ t, Steps p.tables e below (T'.setTop (mkF m 141 #[.val (.long q1), .second, .val (.int p2), .val (.int ((p2 &&& (127 : Int32)) + (1 : Int32))), .val (.long (f1 q1 ((p2 &&& (127 : Int32)) + (1 : Int32)))), .second, .val (.int (f0_7 q1 p2))] [])) t → Steps p.tables e below (T2.setTop (mkF m 20 #[.val (.long q1), .second, .val (.int p2), .val (.int ((p2 &&& (127 : Int32)) + (1 : Int32))), .val (.long (f1 q1 ((p2 &&& (127 : Int32)) + (1 : Int32)))), .second, .unset] [(.int (f2 q1 (0 : Int32) ((p2 &&& (127 : Int32)) + (1 : Int32))))])) t := by
    by_cases h3 : (f2 q1 (0 : Int32) ((p2 &&& (127 : Int32)) + (1 : Int32))) = (0 : Int32)
    · obtain ⟨_, _, ⟨T4, L4, k4, n4⟩, -, X4, ⟨Lc4, hQ4, l4, y4, z4⟩, st4⟩ := Jvm.LawKit.callS X2 hx (y := (⟨"com/example/apportion/apportion/WordsBelowPinLaw", "lt", "(JII)Z"⟩ : MethodName)) hown (mvT hZ (hw _ (List.mem_of_getElem? (i := 7) rfl))) (mvT hZ (hw _ (List.mem_of_getElem? (i := 8) rfl))) (mvT hZ (hw _ (List.mem_of_getElem? (i := 9) rfl))) (mvT hZ (hw _ (List.mem_of_getElem? (i := 10) rfl))) (by decide) (backOf (W := 0) (rm2 l Z a0 hw [] q1 (1 : Int32) ((p2 &&& (127 : Int32)) + (1 : Int32)) h0 n0 Z0) hZ (hw _ (List.mem_of_getElem? (i := 10) rfl)) (hw _ (List.mem_of_getElem? (i := 9) rfl)) (by decide) (by decide)) (g := (mkF m 32 #[.val (.long q1), .second, .val (.int p2), .val (.int ((p2 &&& (127 : Int32)) + (1 : Int32))), .val (.long (f1 q1 ((p2 &&& (127 : Int32)) + (1 : Int32)))), .second, .unset] [(.int ((p2 &&& (127 : Int32)) + (1 : Int32))), (.int (1 : Int32)), (.long q1)])) rfl (by rw [hml]; rfl) (argsL := [(.long q1), (.int (1 : Int32)), (.int ((p2 &&& (127 : Int32)) + (1 : Int32)))]) (rest := []) (lenOf pd_1 rfl) rfl (by show 2 * 0 + _ ≤ _; exact Nat.le_of_eq rfl) (hb hby at_32) (fun _ _ => ⟨rfl, e2, (by decide : 0 + 0 ≤ _), (by decide : 0 + 0 ≤ _)⟩)
      dsimp only [Pt.U, Pt.locs, Pt.cells, Pt.slots] at X4 l4 y4 z4 st4 hQ4
      subst l4 y4 z4
      obtain ⟨rfl, N4q, e4⟩ := hQ4
      have N4 := Fr.app N2 N4q
      obtain ⟨T24, lo24, X24, e24, N24, st24⟩ : ∃ (T' : State) (lo : List Loc) (_ : Stand p l e room_1 s m #[(.long q1), (.int p2)] below meth c T' lo 0 0), T'.heap = h0 ∧ Fr n0 lo ∧ ∀ t, Steps p.tables e below (T'.setTop (mkF m 141 #[.val (.long q1), .second, .val (.int p2), .val (.int ((p2 &&& (127 : Int32)) + (1 : Int32))), .val (.long (f1 q1 ((p2 &&& (127 : Int32)) + (1 : Int32)))), .second, .val (.int (f0_6 q1 p2))] [])) t → Steps p.tables e below (T4.setTop (mkF m 35 #[.val (.long q1), .second, .val (.int p2), .val (.int ((p2 &&& (127 : Int32)) + (1 : Int32))), .val (.long (f1 q1 ((p2 &&& (127 : Int32)) + (1 : Int32)))), .second, .unset] [(.int (f2 q1 (1 : Int32) ((p2 &&& (127 : Int32)) + (1 : Int32))))])) t := by
        by_cases h5 : (f2 q1 (1 : Int32) ((p2 &&& (127 : Int32)) + (1 : Int32))) = (0 : Int32)
        · obtain ⟨_, _, ⟨T6, L6, k6, n6⟩, -, X6, ⟨Lc6, hQ6, l6, y6, z6⟩, st6⟩ := Jvm.LawKit.callS X4 hx (y := (⟨"com/example/apportion/apportion/WordsBelowPinLaw", "lt", "(JII)Z"⟩ : MethodName)) hown (mvT hZ (hw _ (List.mem_of_getElem? (i := 7) rfl))) (mvT hZ (hw _ (List.mem_of_getElem? (i := 8) rfl))) (mvT hZ (hw _ (List.mem_of_getElem? (i := 9) rfl))) (mvT hZ (hw _ (List.mem_of_getElem? (i := 10) rfl))) (by decide) (backOf (W := 0) (rm2 l Z a0 hw [] q1 (2 : Int32) ((p2 &&& (127 : Int32)) + (1 : Int32)) h0 n0 Z0) hZ (hw _ (List.mem_of_getElem? (i := 10) rfl)) (hw _ (List.mem_of_getElem? (i := 9) rfl)) (by decide) (by decide)) (g := (mkF m 47 #[.val (.long q1), .second, .val (.int p2), .val (.int ((p2 &&& (127 : Int32)) + (1 : Int32))), .val (.long (f1 q1 ((p2 &&& (127 : Int32)) + (1 : Int32)))), .second, .unset] [(.int ((p2 &&& (127 : Int32)) + (1 : Int32))), (.int (2 : Int32)), (.long q1)])) rfl (by rw [hml]; rfl) (argsL := [(.long q1), (.int (2 : Int32)), (.int ((p2 &&& (127 : Int32)) + (1 : Int32)))]) (rest := []) (lenOf pd_1 rfl) rfl (by show 2 * 0 + _ ≤ _; exact Nat.le_of_eq rfl) (hb hby at_47) (fun _ _ => ⟨rfl, e4, (by decide : 0 + 0 ≤ _), (by decide : 0 + 0 ≤ _)⟩)
          dsimp only [Pt.U, Pt.locs, Pt.cells, Pt.slots] at X6 l6 y6 z6 st6 hQ6
          subst l6 y6 z6
          obtain ⟨rfl, N6q, e6⟩ := hQ6
          have N6 := Fr.app N4 N6q
          obtain ⟨T23, lo23, X23, e23, N23, st23⟩ : ∃ (T' : State) (lo : List Loc) (_ : Stand p l e room_1 s m #[(.long q1), (.int p2)] below meth c T' lo 0 0), T'.heap = h0 ∧ Fr n0 lo ∧ ∀ t, Steps p.tables e below (T'.setTop (mkF m 141 #[.val (.long q1), .second, .val (.int p2), .val (.int ((p2 &&& (127 : Int32)) + (1 : Int32))), .val (.long (f1 q1 ((p2 &&& (127 : Int32)) + (1 : Int32)))), .second, .val (.int (f0_5 q1 p2))] [])) t → Steps p.tables e below (T6.setTop (mkF m 50 #[.val (.long q1), .second, .val (.int p2), .val (.int ((p2 &&& (127 : Int32)) + (1 : Int32))), .val (.long (f1 q1 ((p2 &&& (127 : Int32)) + (1 : Int32)))), .second, .unset] [(.int (f2 q1 (2 : Int32) ((p2 &&& (127 : Int32)) + (1 : Int32))))])) t := by
            by_cases h7 : (f2 q1 (2 : Int32) ((p2 &&& (127 : Int32)) + (1 : Int32))) = (0 : Int32)
            · obtain ⟨_, _, ⟨T8, L8, k8, n8⟩, -, X8, ⟨Lc8, hQ8, l8, y8, z8⟩, st8⟩ := Jvm.LawKit.callS X6 hx (y := (⟨"com/example/apportion/apportion/WordsBelowPinLaw", "lt", "(JII)Z"⟩ : MethodName)) hown (mvT hZ (hw _ (List.mem_of_getElem? (i := 7) rfl))) (mvT hZ (hw _ (List.mem_of_getElem? (i := 8) rfl))) (mvT hZ (hw _ (List.mem_of_getElem? (i := 9) rfl))) (mvT hZ (hw _ (List.mem_of_getElem? (i := 10) rfl))) (by decide) (backOf (W := 0) (rm2 l Z a0 hw [] q1 (3 : Int32) ((p2 &&& (127 : Int32)) + (1 : Int32)) h0 n0 Z0) hZ (hw _ (List.mem_of_getElem? (i := 10) rfl)) (hw _ (List.mem_of_getElem? (i := 9) rfl)) (by decide) (by decide)) (g := (mkF m 62 #[.val (.long q1), .second, .val (.int p2), .val (.int ((p2 &&& (127 : Int32)) + (1 : Int32))), .val (.long (f1 q1 ((p2 &&& (127 : Int32)) + (1 : Int32)))), .second, .unset] [(.int ((p2 &&& (127 : Int32)) + (1 : Int32))), (.int (3 : Int32)), (.long q1)])) rfl (by rw [hml]; rfl) (argsL := [(.long q1), (.int (3 : Int32)), (.int ((p2 &&& (127 : Int32)) + (1 : Int32)))]) (rest := []) (lenOf pd_1 rfl) rfl (by show 2 * 0 + _ ≤ _; exact Nat.le_of_eq rfl) (hb hby at_62) (fun _ _ => ⟨rfl, e6, (by decide : 0 + 0 ≤ _), (by decide : 0 + 0 ≤ _)⟩)
              dsimp only [Pt.U, Pt.locs, Pt.cells, Pt.slots] at X8 l8 y8 z8 st8 hQ8
              subst l8 y8 z8
              obtain ⟨rfl, N8q, e8⟩ := hQ8
              have N8 := Fr.app N6 N8q
              obtain ⟨T22, lo22, X22, e22, N22, st22⟩ : ∃ (T' : State) (lo : List Loc) (_ : Stand p l e room_1 s m #[(.long q1), (.int p2)] below meth c T' lo 0 0), T'.heap = h0 ∧ Fr n0 lo ∧ ∀ t, Steps p.tables e below (T'.setTop (mkF m 141 #[.val (.long q1), .second, .val (.int p2), .val (.int ((p2 &&& (127 : Int32)) + (1 : Int32))), .val (.long (f1 q1 ((p2 &&& (127 : Int32)) + (1 : Int32)))), .second, .val (.int (f0_4 q1 p2))] [])) t → Steps p.tables e below (T8.setTop (mkF m 65 #[.val (.long q1), .second, .val (.int p2), .val (.int ((p2 &&& (127 : Int32)) + (1 : Int32))), .val (.long (f1 q1 ((p2 &&& (127 : Int32)) + (1 : Int32)))), .second, .unset] [(.int (f2 q1 (3 : Int32) ((p2 &&& (127 : Int32)) + (1 : Int32))))])) t := by
                by_cases h9 : (f2 q1 (3 : Int32) ((p2 &&& (127 : Int32)) + (1 : Int32))) = (0 : Int32)
                · obtain ⟨_, _, ⟨T10, L10, k10, n10⟩, -, X10, ⟨Lc10, hQ10, l10, y10, z10⟩, st10⟩ := Jvm.LawKit.callS X8 hx (y := (⟨"com/example/apportion/apportion/WordsBelowPinLaw", "lt", "(JII)Z"⟩ : MethodName)) hown (mvT hZ (hw _ (List.mem_of_getElem? (i := 7) rfl))) (mvT hZ (hw _ (List.mem_of_getElem? (i := 8) rfl))) (mvT hZ (hw _ (List.mem_of_getElem? (i := 9) rfl))) (mvT hZ (hw _ (List.mem_of_getElem? (i := 10) rfl))) (by decide) (backOf (W := 0) (rm2 l Z a0 hw [] q1 (4 : Int32) ((p2 &&& (127 : Int32)) + (1 : Int32)) h0 n0 Z0) hZ (hw _ (List.mem_of_getElem? (i := 10) rfl)) (hw _ (List.mem_of_getElem? (i := 9) rfl)) (by decide) (by decide)) (g := (mkF m 77 #[.val (.long q1), .second, .val (.int p2), .val (.int ((p2 &&& (127 : Int32)) + (1 : Int32))), .val (.long (f1 q1 ((p2 &&& (127 : Int32)) + (1 : Int32)))), .second, .unset] [(.int ((p2 &&& (127 : Int32)) + (1 : Int32))), (.int (4 : Int32)), (.long q1)])) rfl (by rw [hml]; rfl) (argsL := [(.long q1), (.int (4 : Int32)), (.int ((p2 &&& (127 : Int32)) + (1 : Int32)))]) (rest := []) (lenOf pd_1 rfl) rfl (by show 2 * 0 + _ ≤ _; exact Nat.le_of_eq rfl) (hb hby at_77) (fun _ _ => ⟨rfl, e8, (by decide : 0 + 0 ≤ _), (by decide : 0 + 0 ≤ _)⟩)
                  dsimp only [Pt.U, Pt.locs, Pt.cells, Pt.slots] at X10 l10 y10 z10 st10 hQ10
                  subst l10 y10 z10
                  obtain ⟨rfl, N10q, e10⟩ := hQ10
                  have N10 := Fr.app N8 N10q
                  obtain ⟨T21, lo21, X21, e21, N21, st21⟩ : ∃ (T' : State) (lo : List Loc) (_ : Stand p l e room_1 s m #[(.long q1), (.int p2)] below meth c T' lo 0 0), T'.heap = h0 ∧ Fr n0 lo ∧ ∀ t, Steps p.tables e below (T'.setTop (mkF m 141 #[.val (.long q1), .second, .val (.int p2), .val (.int ((p2 &&& (127 : Int32)) + (1 : Int32))), .val (.long (f1 q1 ((p2 &&& (127 : Int32)) + (1 : Int32)))), .second, .val (.int (f0_3 q1 p2))] [])) t → Steps p.tables e below (T10.setTop (mkF m 80 #[.val (.long q1), .second, .val (.int p2), .val (.int ((p2 &&& (127 : Int32)) + (1 : Int32))), .val (.long (f1 q1 ((p2 &&& (127 : Int32)) + (1 : Int32)))), .second, .unset] [(.int (f2 q1 (4 : Int32) ((p2 &&& (127 : Int32)) + (1 : Int32))))])) t := by
                    by_cases h11 : (f2 q1 (4 : Int32) ((p2 &&& (127 : Int32)) + (1 : Int32))) = (0 : Int32)
                    · obtain ⟨_, _, ⟨T12, L12, k12, n12⟩, -, X12, ⟨Lc12, hQ12, l12, y12, z12⟩, st12⟩ := Jvm.LawKit.callS X10 hx (y := (⟨"com/example/apportion/apportion/WordsBelowPinLaw", "lt", "(JII)Z"⟩ : MethodName)) hown (mvT hZ (hw _ (List.mem_of_getElem? (i := 7) rfl))) (mvT hZ (hw _ (List.mem_of_getElem? (i := 8) rfl))) (mvT hZ (hw _ (List.mem_of_getElem? (i := 9) rfl))) (mvT hZ (hw _ (List.mem_of_getElem? (i := 10) rfl))) (by decide) (backOf (W := 0) (rm2 l Z a0 hw [] q1 (5 : Int32) ((p2 &&& (127 : Int32)) + (1 : Int32)) h0 n0 Z0) hZ (hw _ (List.mem_of_getElem? (i := 10) rfl)) (hw _ (List.mem_of_getElem? (i := 9) rfl)) (by decide) (by decide)) (g := (mkF m 92 #[.val (.long q1), .second, .val (.int p2), .val (.int ((p2 &&& (127 : Int32)) + (1 : Int32))), .val (.long (f1 q1 ((p2 &&& (127 : Int32)) + (1 : Int32)))), .second, .unset] [(.int ((p2 &&& (127 : Int32)) + (1 : Int32))), (.int (5 : Int32)), (.long q1)])) rfl (by rw [hml]; rfl) (argsL := [(.long q1), (.int (5 : Int32)), (.int ((p2 &&& (127 : Int32)) + (1 : Int32)))]) (rest := []) (lenOf pd_1 rfl) rfl (by show 2 * 0 + _ ≤ _; exact Nat.le_of_eq rfl) (hb hby at_92) (fun _ _ => ⟨rfl, e10, (by decide : 0 + 0 ≤ _), (by decide : 0 + 0 ≤ _)⟩)
                      dsimp only [Pt.U, Pt.locs, Pt.cells, Pt.slots] at X12 l12 y12 z12 st12 hQ12
                      subst l12 y12 z12
                      obtain ⟨rfl, N12q, e12⟩ := hQ12
                      have N12 := Fr.app N10 N12q
                      obtain ⟨T20, lo20, X20, e20, N20, st20⟩ : ∃ (T' : State) (lo : List Loc) (_ : Stand p l e room_1 s m #[(.long q1), (.int p2)] below meth c T' lo 0 0), T'.heap = h0 ∧ Fr n0 lo ∧ ∀ t, Steps p.tables e below (T'.setTop (mkF m 141 #[.val (.long q1), .second, .val (.int p2), .val (.int ((p2 &&& (127 : Int32)) + (1 : Int32))), .val (.long (f1 q1 ((p2 &&& (127 : Int32)) + (1 : Int32)))), .second, .val (.int (f0_2 q1 p2))] [])) t → Steps p.tables e below (T12.setTop (mkF m 95 #[.val (.long q1), .second, .val (.int p2), .val (.int ((p2 &&& (127 : Int32)) + (1 : Int32))), .val (.long (f1 q1 ((p2 &&& (127 : Int32)) + (1 : Int32)))), .second, .unset] [(.int (f2 q1 (5 : Int32) ((p2 &&& (127 : Int32)) + (1 : Int32))))])) t := by
                        by_cases h13 : (f2 q1 (5 : Int32) ((p2 &&& (127 : Int32)) + (1 : Int32))) = (0 : Int32)
                        · obtain ⟨_, _, ⟨T14, L14, k14, n14⟩, -, X14, ⟨Lc14, hQ14, l14, y14, z14⟩, st14⟩ := Jvm.LawKit.callS X12 hx (y := (⟨"com/example/apportion/apportion/WordsBelowPinLaw", "lt", "(JII)Z"⟩ : MethodName)) hown (mvT hZ (hw _ (List.mem_of_getElem? (i := 7) rfl))) (mvT hZ (hw _ (List.mem_of_getElem? (i := 8) rfl))) (mvT hZ (hw _ (List.mem_of_getElem? (i := 9) rfl))) (mvT hZ (hw _ (List.mem_of_getElem? (i := 10) rfl))) (by decide) (backOf (W := 0) (rm2 l Z a0 hw [] q1 (6 : Int32) ((p2 &&& (127 : Int32)) + (1 : Int32)) h0 n0 Z0) hZ (hw _ (List.mem_of_getElem? (i := 10) rfl)) (hw _ (List.mem_of_getElem? (i := 9) rfl)) (by decide) (by decide)) (g := (mkF m 108 #[.val (.long q1), .second, .val (.int p2), .val (.int ((p2 &&& (127 : Int32)) + (1 : Int32))), .val (.long (f1 q1 ((p2 &&& (127 : Int32)) + (1 : Int32)))), .second, .unset] [(.int ((p2 &&& (127 : Int32)) + (1 : Int32))), (.int (6 : Int32)), (.long q1)])) rfl (by rw [hml]; rfl) (argsL := [(.long q1), (.int (6 : Int32)), (.int ((p2 &&& (127 : Int32)) + (1 : Int32)))]) (rest := []) (lenOf pd_1 rfl) rfl (by show 2 * 0 + _ ≤ _; exact Nat.le_of_eq rfl) (hb hby at_108) (fun _ _ => ⟨rfl, e12, (by decide : 0 + 0 ≤ _), (by decide : 0 + 0 ≤ _)⟩)
                          dsimp only [Pt.U, Pt.locs, Pt.cells, Pt.slots] at X14 l14 y14 z14 st14 hQ14
                          subst l14 y14 z14
                          obtain ⟨rfl, N14q, e14⟩ := hQ14
                          have N14 := Fr.app N12 N14q
                          obtain ⟨T19, lo19, X19, e19, N19, st19⟩ : ∃ (T' : State) (lo : List Loc) (_ : Stand p l e room_1 s m #[(.long q1), (.int p2)] below meth c T' lo 0 0), T'.heap = h0 ∧ Fr n0 lo ∧ ∀ t, Steps p.tables e below (T'.setTop (mkF m 141 #[.val (.long q1), .second, .val (.int p2), .val (.int ((p2 &&& (127 : Int32)) + (1 : Int32))), .val (.long (f1 q1 ((p2 &&& (127 : Int32)) + (1 : Int32)))), .second, .val (.int (f0_1 q1 p2))] [])) t → Steps p.tables e below (T14.setTop (mkF m 111 #[.val (.long q1), .second, .val (.int p2), .val (.int ((p2 &&& (127 : Int32)) + (1 : Int32))), .val (.long (f1 q1 ((p2 &&& (127 : Int32)) + (1 : Int32)))), .second, .unset] [(.int (f2 q1 (6 : Int32) ((p2 &&& (127 : Int32)) + (1 : Int32))))])) t := by
                            by_cases h15 : (f2 q1 (6 : Int32) ((p2 &&& (127 : Int32)) + (1 : Int32))) = (0 : Int32)
                            · obtain ⟨_, _, ⟨T16, L16, k16, n16⟩, -, X16, ⟨Lc16, hQ16, l16, y16, z16⟩, st16⟩ := Jvm.LawKit.callS X14 hx (y := (⟨"com/example/apportion/apportion/WordsBelowPinLaw", "lt", "(JII)Z"⟩ : MethodName)) hown (mvT hZ (hw _ (List.mem_of_getElem? (i := 7) rfl))) (mvT hZ (hw _ (List.mem_of_getElem? (i := 8) rfl))) (mvT hZ (hw _ (List.mem_of_getElem? (i := 9) rfl))) (mvT hZ (hw _ (List.mem_of_getElem? (i := 10) rfl))) (by decide) (backOf (W := 0) (rm2 l Z a0 hw [] q1 (7 : Int32) ((p2 &&& (127 : Int32)) + (1 : Int32)) h0 n0 Z0) hZ (hw _ (List.mem_of_getElem? (i := 10) rfl)) (hw _ (List.mem_of_getElem? (i := 9) rfl)) (by decide) (by decide)) (g := (mkF m 125 #[.val (.long q1), .second, .val (.int p2), .val (.int ((p2 &&& (127 : Int32)) + (1 : Int32))), .val (.long (f1 q1 ((p2 &&& (127 : Int32)) + (1 : Int32)))), .second, .unset] [(.int ((p2 &&& (127 : Int32)) + (1 : Int32))), (.int (7 : Int32)), (.long q1)])) rfl (by rw [hml]; rfl) (argsL := [(.long q1), (.int (7 : Int32)), (.int ((p2 &&& (127 : Int32)) + (1 : Int32)))]) (rest := []) (lenOf pd_1 rfl) rfl (by show 2 * 0 + _ ≤ _; exact Nat.le_of_eq rfl) (hb hby at_125) (fun _ _ => ⟨rfl, e14, (by decide : 0 + 0 ≤ _), (by decide : 0 + 0 ≤ _)⟩)
                              dsimp only [Pt.U, Pt.locs, Pt.cells, Pt.slots] at X16 l16 y16 z16 st16 hQ16
                              subst l16 y16 z16
                              obtain ⟨rfl, N16q, e16⟩ := hQ16
                              have N16 := Fr.app N14 N16q
                              have st18 : ∀ t, Steps p.tables e below (T16.setTop (mkF m 141 #[.val (.long q1), .second, .val (.int p2), .val (.int ((p2 &&& (127 : Int32)) + (1 : Int32))), .val (.long (f1 q1 ((p2 &&& (127 : Int32)) + (1 : Int32)))), .second, .val (.int (f0_0 q1 p2))] [])) t → Steps p.tables e below (T16.setTop (mkF m 128 #[.val (.long q1), .second, .val (.int p2), .val (.int ((p2 &&& (127 : Int32)) + (1 : Int32))), .val (.long (f1 q1 ((p2 &&& (127 : Int32)) + (1 : Int32)))), .second, .unset] [(.int (f2 q1 (7 : Int32) ((p2 &&& (127 : Int32)) + (1 : Int32))))])) t := by
                                intro t k
                                by_cases h17 : (f2 q1 (7 : Int32) ((p2 &&& (127 : Int32)) + (1 : Int32))) = (0 : Int32)
                                · rw [show (f0_0 q1 p2) = (-1 : Int32) from if_pos h17] at k
                                  show Steps p.tables e below (T16.setTop (mkF m 128 #[.val (.long q1), .second, .val (.int p2), .val (.int ((p2 &&& (127 : Int32)) + (1 : Int32))), .val (.long (f1 q1 ((p2 &&& (127 : Int32)) + (1 : Int32)))), .second, .unset] [(.int (f2 q1 (7 : Int32) ((p2 &&& (127 : Int32)) + (1 : Int32))))])) _
                                  refine XS.ifYes X16.here hx rfl (pc0 := 128) (pc' := 138) rfl (hb hby at_128) rfl ((if0 _ _).trans (teq h17).1) (by decide) (by decide) ?_
                                  show Steps p.tables e below (T16.setTop (mkF m 138 #[.val (.long q1), .second, .val (.int p2), .val (.int ((p2 &&& (127 : Int32)) + (1 : Int32))), .val (.long (f1 q1 ((p2 &&& (127 : Int32)) + (1 : Int32)))), .second, .unset] [])) _
                                  refine XS.iconst X16.here hx rfl (hb hby at_138) ?_
                                  show Steps p.tables e below (T16.setTop (mkF m 139 #[.val (.long q1), .second, .val (.int p2), .val (.int ((p2 &&& (127 : Int32)) + (1 : Int32))), .val (.long (f1 q1 ((p2 &&& (127 : Int32)) + (1 : Int32)))), .second, .unset] [(.int (-1 : Int32))])) _
                                  refine XS.istore X16.here hx rfl (hb hby at_139) rfl (l' := #[.val (.long q1), .second, .val (.int p2), .val (.int ((p2 &&& (127 : Int32)) + (1 : Int32))), .val (.long (f1 q1 ((p2 &&& (127 : Int32)) + (1 : Int32)))), .second, .val (.int (-1 : Int32))]) rfl ?_
                                  exact k
                                · rw [show (f0_0 q1 p2) = (7 : Int32) from if_neg h17] at k
                                  show Steps p.tables e below (T16.setTop (mkF m 128 #[.val (.long q1), .second, .val (.int p2), .val (.int ((p2 &&& (127 : Int32)) + (1 : Int32))), .val (.long (f1 q1 ((p2 &&& (127 : Int32)) + (1 : Int32)))), .second, .unset] [(.int (f2 q1 (7 : Int32) ((p2 &&& (127 : Int32)) + (1 : Int32))))])) _
                                  refine XS.ifNo X16.here hx rfl (hb hby at_128) rfl ((if0 _ _).trans (feq h17).1) ?_
                                  show Steps p.tables e below (T16.setTop (mkF m 131 #[.val (.long q1), .second, .val (.int p2), .val (.int ((p2 &&& (127 : Int32)) + (1 : Int32))), .val (.long (f1 q1 ((p2 &&& (127 : Int32)) + (1 : Int32)))), .second, .unset] [])) _
                                  refine XS.bipush X16.here hx rfl (hb hby at_131) ?_
                                  show Steps p.tables e below (T16.setTop (mkF m 133 #[.val (.long q1), .second, .val (.int p2), .val (.int ((p2 &&& (127 : Int32)) + (1 : Int32))), .val (.long (f1 q1 ((p2 &&& (127 : Int32)) + (1 : Int32)))), .second, .unset] [(.int (7 : Int32))])) _
                                  refine XS.istore X16.here hx rfl (hb hby at_133) rfl (l' := #[.val (.long q1), .second, .val (.int p2), .val (.int ((p2 &&& (127 : Int32)) + (1 : Int32))), .val (.long (f1 q1 ((p2 &&& (127 : Int32)) + (1 : Int32)))), .second, .val (.int (7 : Int32))]) rfl ?_
                                  show Steps p.tables e below (T16.setTop (mkF m 135 #[.val (.long q1), .second, .val (.int p2), .val (.int ((p2 &&& (127 : Int32)) + (1 : Int32))), .val (.long (f1 q1 ((p2 &&& (127 : Int32)) + (1 : Int32)))), .second, .val (.int (7 : Int32))] [])) _
                                  refine XS.goto X16.here hx rfl (pc0 := 135) (pc' := 141) rfl (hb hby at_135) (by decide) (by decide) ?_
                                  exact k
                              refine ⟨T16, _, X16, e16, N16, fun t k => ?_⟩
                              rw [show (f0_1 q1 p2) = (f0_0 q1 p2) from if_pos h15] at k
                              show Steps p.tables e below (T14.setTop (mkF m 111 #[.val (.long q1), .second, .val (.int p2), .val (.int ((p2 &&& (127 : Int32)) + (1 : Int32))), .val (.long (f1 q1 ((p2 &&& (127 : Int32)) + (1 : Int32)))), .second, .unset] [(.int (f2 q1 (6 : Int32) ((p2 &&& (127 : Int32)) + (1 : Int32))))])) _
                              refine XS.ifYes X14.here hx rfl (pc0 := 111) (pc' := 121) rfl (hb hby at_111) rfl ((if0 _ _).trans (teq h15).1) (by decide) (by decide) ?_
                              show Steps p.tables e below (T14.setTop (mkF m 121 #[.val (.long q1), .second, .val (.int p2), .val (.int ((p2 &&& (127 : Int32)) + (1 : Int32))), .val (.long (f1 q1 ((p2 &&& (127 : Int32)) + (1 : Int32)))), .second, .unset] [])) _
                              refine XT.lloadN X14.here hx rfl (hb hby at_121) rfl ?_
                              show Steps p.tables e below (T14.setTop (mkF m 122 #[.val (.long q1), .second, .val (.int p2), .val (.int ((p2 &&& (127 : Int32)) + (1 : Int32))), .val (.long (f1 q1 ((p2 &&& (127 : Int32)) + (1 : Int32)))), .second, .unset] [(.long q1)])) _
                              refine XS.bipush X14.here hx rfl (hb hby at_122) ?_
                              show Steps p.tables e below (T14.setTop (mkF m 124 #[.val (.long q1), .second, .val (.int p2), .val (.int ((p2 &&& (127 : Int32)) + (1 : Int32))), .val (.long (f1 q1 ((p2 &&& (127 : Int32)) + (1 : Int32)))), .second, .unset] [(.int (7 : Int32)), (.long q1)])) _
                              refine XS.iloadN X14.here hx rfl (hb hby at_124) rfl ?_
                              show Steps p.tables e below (T14.setTop (mkF m 125 #[.val (.long q1), .second, .val (.int p2), .val (.int ((p2 &&& (127 : Int32)) + (1 : Int32))), .val (.long (f1 q1 ((p2 &&& (127 : Int32)) + (1 : Int32)))), .second, .unset] [(.int ((p2 &&& (127 : Int32)) + (1 : Int32))), (.int (7 : Int32)), (.long q1)])) _
                              refine st16 _ ?_
                              show Steps p.tables e below (T16.setTop (mkF m 128 #[.val (.long q1), .second, .val (.int p2), .val (.int ((p2 &&& (127 : Int32)) + (1 : Int32))), .val (.long (f1 q1 ((p2 &&& (127 : Int32)) + (1 : Int32)))), .second, .unset] [(.int (f2 q1 (7 : Int32) ((p2 &&& (127 : Int32)) + (1 : Int32))))])) _
                              refine st18 _ ?_
                              exact k
                            · refine ⟨T14, _, X14, e14, N14, fun t k => ?_⟩
                              rw [show (f0_1 q1 p2) = (6 : Int32) from if_neg h15] at k
                              show Steps p.tables e below (T14.setTop (mkF m 111 #[.val (.long q1), .second, .val (.int p2), .val (.int ((p2 &&& (127 : Int32)) + (1 : Int32))), .val (.long (f1 q1 ((p2 &&& (127 : Int32)) + (1 : Int32)))), .second, .unset] [(.int (f2 q1 (6 : Int32) ((p2 &&& (127 : Int32)) + (1 : Int32))))])) _
                              refine XS.ifNo X14.here hx rfl (hb hby at_111) rfl ((if0 _ _).trans (feq h15).1) ?_
                              show Steps p.tables e below (T14.setTop (mkF m 114 #[.val (.long q1), .second, .val (.int p2), .val (.int ((p2 &&& (127 : Int32)) + (1 : Int32))), .val (.long (f1 q1 ((p2 &&& (127 : Int32)) + (1 : Int32)))), .second, .unset] [])) _
                              refine XS.bipush X14.here hx rfl (hb hby at_114) ?_
                              show Steps p.tables e below (T14.setTop (mkF m 116 #[.val (.long q1), .second, .val (.int p2), .val (.int ((p2 &&& (127 : Int32)) + (1 : Int32))), .val (.long (f1 q1 ((p2 &&& (127 : Int32)) + (1 : Int32)))), .second, .unset] [(.int (6 : Int32))])) _
                              refine XS.istore X14.here hx rfl (hb hby at_116) rfl (l' := #[.val (.long q1), .second, .val (.int p2), .val (.int ((p2 &&& (127 : Int32)) + (1 : Int32))), .val (.long (f1 q1 ((p2 &&& (127 : Int32)) + (1 : Int32)))), .second, .val (.int (6 : Int32))]) rfl ?_
                              show Steps p.tables e below (T14.setTop (mkF m 118 #[.val (.long q1), .second, .val (.int p2), .val (.int ((p2 &&& (127 : Int32)) + (1 : Int32))), .val (.long (f1 q1 ((p2 &&& (127 : Int32)) + (1 : Int32)))), .second, .val (.int (6 : Int32))] [])) _
                              refine XS.goto X14.here hx rfl (pc0 := 118) (pc' := 141) rfl (hb hby at_118) (by decide) (by decide) ?_
                              exact k
                          refine ⟨T19, _, X19, e19, N19, fun t k => ?_⟩
                          rw [show (f0_2 q1 p2) = (f0_1 q1 p2) from if_pos h13] at k
                          show Steps p.tables e below (T12.setTop (mkF m 95 #[.val (.long q1), .second, .val (.int p2), .val (.int ((p2 &&& (127 : Int32)) + (1 : Int32))), .val (.long (f1 q1 ((p2 &&& (127 : Int32)) + (1 : Int32)))), .second, .unset] [(.int (f2 q1 (5 : Int32) ((p2 &&& (127 : Int32)) + (1 : Int32))))])) _
                          refine XS.ifYes X12.here hx rfl (pc0 := 95) (pc' := 104) rfl (hb hby at_95) rfl ((if0 _ _).trans (teq h13).1) (by decide) (by decide) ?_
                          show Steps p.tables e below (T12.setTop (mkF m 104 #[.val (.long q1), .second, .val (.int p2), .val (.int ((p2 &&& (127 : Int32)) + (1 : Int32))), .val (.long (f1 q1 ((p2 &&& (127 : Int32)) + (1 : Int32)))), .second, .unset] [])) _
                          refine XT.lloadN X12.here hx rfl (hb hby at_104) rfl ?_
                          show Steps p.tables e below (T12.setTop (mkF m 105 #[.val (.long q1), .second, .val (.int p2), .val (.int ((p2 &&& (127 : Int32)) + (1 : Int32))), .val (.long (f1 q1 ((p2 &&& (127 : Int32)) + (1 : Int32)))), .second, .unset] [(.long q1)])) _
                          refine XS.bipush X12.here hx rfl (hb hby at_105) ?_
                          show Steps p.tables e below (T12.setTop (mkF m 107 #[.val (.long q1), .second, .val (.int p2), .val (.int ((p2 &&& (127 : Int32)) + (1 : Int32))), .val (.long (f1 q1 ((p2 &&& (127 : Int32)) + (1 : Int32)))), .second, .unset] [(.int (6 : Int32)), (.long q1)])) _
                          refine XS.iloadN X12.here hx rfl (hb hby at_107) rfl ?_
                          show Steps p.tables e below (T12.setTop (mkF m 108 #[.val (.long q1), .second, .val (.int p2), .val (.int ((p2 &&& (127 : Int32)) + (1 : Int32))), .val (.long (f1 q1 ((p2 &&& (127 : Int32)) + (1 : Int32)))), .second, .unset] [(.int ((p2 &&& (127 : Int32)) + (1 : Int32))), (.int (6 : Int32)), (.long q1)])) _
                          refine st14 _ ?_
                          show Steps p.tables e below (T14.setTop (mkF m 111 #[.val (.long q1), .second, .val (.int p2), .val (.int ((p2 &&& (127 : Int32)) + (1 : Int32))), .val (.long (f1 q1 ((p2 &&& (127 : Int32)) + (1 : Int32)))), .second, .unset] [(.int (f2 q1 (6 : Int32) ((p2 &&& (127 : Int32)) + (1 : Int32))))])) _
                          refine st19 _ ?_
                          exact k
                        · refine ⟨T12, _, X12, e12, N12, fun t k => ?_⟩
                          rw [show (f0_2 q1 p2) = (5 : Int32) from if_neg h13] at k
                          show Steps p.tables e below (T12.setTop (mkF m 95 #[.val (.long q1), .second, .val (.int p2), .val (.int ((p2 &&& (127 : Int32)) + (1 : Int32))), .val (.long (f1 q1 ((p2 &&& (127 : Int32)) + (1 : Int32)))), .second, .unset] [(.int (f2 q1 (5 : Int32) ((p2 &&& (127 : Int32)) + (1 : Int32))))])) _
                          refine XS.ifNo X12.here hx rfl (hb hby at_95) rfl ((if0 _ _).trans (feq h13).1) ?_
                          show Steps p.tables e below (T12.setTop (mkF m 98 #[.val (.long q1), .second, .val (.int p2), .val (.int ((p2 &&& (127 : Int32)) + (1 : Int32))), .val (.long (f1 q1 ((p2 &&& (127 : Int32)) + (1 : Int32)))), .second, .unset] [])) _
                          refine XS.iconst X12.here hx rfl (hb hby at_98) ?_
                          show Steps p.tables e below (T12.setTop (mkF m 99 #[.val (.long q1), .second, .val (.int p2), .val (.int ((p2 &&& (127 : Int32)) + (1 : Int32))), .val (.long (f1 q1 ((p2 &&& (127 : Int32)) + (1 : Int32)))), .second, .unset] [(.int (5 : Int32))])) _
                          refine XS.istore X12.here hx rfl (hb hby at_99) rfl (l' := #[.val (.long q1), .second, .val (.int p2), .val (.int ((p2 &&& (127 : Int32)) + (1 : Int32))), .val (.long (f1 q1 ((p2 &&& (127 : Int32)) + (1 : Int32)))), .second, .val (.int (5 : Int32))]) rfl ?_
                          show Steps p.tables e below (T12.setTop (mkF m 101 #[.val (.long q1), .second, .val (.int p2), .val (.int ((p2 &&& (127 : Int32)) + (1 : Int32))), .val (.long (f1 q1 ((p2 &&& (127 : Int32)) + (1 : Int32)))), .second, .val (.int (5 : Int32))] [])) _
                          refine XS.goto X12.here hx rfl (pc0 := 101) (pc' := 141) rfl (hb hby at_101) (by decide) (by decide) ?_
                          exact k
                      refine ⟨T20, _, X20, e20, N20, fun t k => ?_⟩
                      rw [show (f0_3 q1 p2) = (f0_2 q1 p2) from if_pos h11] at k
                      show Steps p.tables e below (T10.setTop (mkF m 80 #[.val (.long q1), .second, .val (.int p2), .val (.int ((p2 &&& (127 : Int32)) + (1 : Int32))), .val (.long (f1 q1 ((p2 &&& (127 : Int32)) + (1 : Int32)))), .second, .unset] [(.int (f2 q1 (4 : Int32) ((p2 &&& (127 : Int32)) + (1 : Int32))))])) _
                      refine XS.ifYes X10.here hx rfl (pc0 := 80) (pc' := 89) rfl (hb hby at_80) rfl ((if0 _ _).trans (teq h11).1) (by decide) (by decide) ?_
                      show Steps p.tables e below (T10.setTop (mkF m 89 #[.val (.long q1), .second, .val (.int p2), .val (.int ((p2 &&& (127 : Int32)) + (1 : Int32))), .val (.long (f1 q1 ((p2 &&& (127 : Int32)) + (1 : Int32)))), .second, .unset] [])) _
                      refine XT.lloadN X10.here hx rfl (hb hby at_89) rfl ?_
                      show Steps p.tables e below (T10.setTop (mkF m 90 #[.val (.long q1), .second, .val (.int p2), .val (.int ((p2 &&& (127 : Int32)) + (1 : Int32))), .val (.long (f1 q1 ((p2 &&& (127 : Int32)) + (1 : Int32)))), .second, .unset] [(.long q1)])) _
                      refine XS.iconst X10.here hx rfl (hb hby at_90) ?_
                      show Steps p.tables e below (T10.setTop (mkF m 91 #[.val (.long q1), .second, .val (.int p2), .val (.int ((p2 &&& (127 : Int32)) + (1 : Int32))), .val (.long (f1 q1 ((p2 &&& (127 : Int32)) + (1 : Int32)))), .second, .unset] [(.int (5 : Int32)), (.long q1)])) _
                      refine XS.iloadN X10.here hx rfl (hb hby at_91) rfl ?_
                      show Steps p.tables e below (T10.setTop (mkF m 92 #[.val (.long q1), .second, .val (.int p2), .val (.int ((p2 &&& (127 : Int32)) + (1 : Int32))), .val (.long (f1 q1 ((p2 &&& (127 : Int32)) + (1 : Int32)))), .second, .unset] [(.int ((p2 &&& (127 : Int32)) + (1 : Int32))), (.int (5 : Int32)), (.long q1)])) _
                      refine st12 _ ?_
                      show Steps p.tables e below (T12.setTop (mkF m 95 #[.val (.long q1), .second, .val (.int p2), .val (.int ((p2 &&& (127 : Int32)) + (1 : Int32))), .val (.long (f1 q1 ((p2 &&& (127 : Int32)) + (1 : Int32)))), .second, .unset] [(.int (f2 q1 (5 : Int32) ((p2 &&& (127 : Int32)) + (1 : Int32))))])) _
                      refine st20 _ ?_
                      exact k
                    · refine ⟨T10, _, X10, e10, N10, fun t k => ?_⟩
                      rw [show (f0_3 q1 p2) = (4 : Int32) from if_neg h11] at k
                      show Steps p.tables e below (T10.setTop (mkF m 80 #[.val (.long q1), .second, .val (.int p2), .val (.int ((p2 &&& (127 : Int32)) + (1 : Int32))), .val (.long (f1 q1 ((p2 &&& (127 : Int32)) + (1 : Int32)))), .second, .unset] [(.int (f2 q1 (4 : Int32) ((p2 &&& (127 : Int32)) + (1 : Int32))))])) _
                      refine XS.ifNo X10.here hx rfl (hb hby at_80) rfl ((if0 _ _).trans (feq h11).1) ?_
                      show Steps p.tables e below (T10.setTop (mkF m 83 #[.val (.long q1), .second, .val (.int p2), .val (.int ((p2 &&& (127 : Int32)) + (1 : Int32))), .val (.long (f1 q1 ((p2 &&& (127 : Int32)) + (1 : Int32)))), .second, .unset] [])) _
                      refine XS.iconst X10.here hx rfl (hb hby at_83) ?_
                      show Steps p.tables e below (T10.setTop (mkF m 84 #[.val (.long q1), .second, .val (.int p2), .val (.int ((p2 &&& (127 : Int32)) + (1 : Int32))), .val (.long (f1 q1 ((p2 &&& (127 : Int32)) + (1 : Int32)))), .second, .unset] [(.int (4 : Int32))])) _
                      refine XS.istore X10.here hx rfl (hb hby at_84) rfl (l' := #[.val (.long q1), .second, .val (.int p2), .val (.int ((p2 &&& (127 : Int32)) + (1 : Int32))), .val (.long (f1 q1 ((p2 &&& (127 : Int32)) + (1 : Int32)))), .second, .val (.int (4 : Int32))]) rfl ?_
                      show Steps p.tables e below (T10.setTop (mkF m 86 #[.val (.long q1), .second, .val (.int p2), .val (.int ((p2 &&& (127 : Int32)) + (1 : Int32))), .val (.long (f1 q1 ((p2 &&& (127 : Int32)) + (1 : Int32)))), .second, .val (.int (4 : Int32))] [])) _
                      refine XS.goto X10.here hx rfl (pc0 := 86) (pc' := 141) rfl (hb hby at_86) (by decide) (by decide) ?_
                      exact k
                  refine ⟨T21, _, X21, e21, N21, fun t k => ?_⟩
                  rw [show (f0_4 q1 p2) = (f0_3 q1 p2) from if_pos h9] at k
                  show Steps p.tables e below (T8.setTop (mkF m 65 #[.val (.long q1), .second, .val (.int p2), .val (.int ((p2 &&& (127 : Int32)) + (1 : Int32))), .val (.long (f1 q1 ((p2 &&& (127 : Int32)) + (1 : Int32)))), .second, .unset] [(.int (f2 q1 (3 : Int32) ((p2 &&& (127 : Int32)) + (1 : Int32))))])) _
                  refine XS.ifYes X8.here hx rfl (pc0 := 65) (pc' := 74) rfl (hb hby at_65) rfl ((if0 _ _).trans (teq h9).1) (by decide) (by decide) ?_
                  show Steps p.tables e below (T8.setTop (mkF m 74 #[.val (.long q1), .second, .val (.int p2), .val (.int ((p2 &&& (127 : Int32)) + (1 : Int32))), .val (.long (f1 q1 ((p2 &&& (127 : Int32)) + (1 : Int32)))), .second, .unset] [])) _
                  refine XT.lloadN X8.here hx rfl (hb hby at_74) rfl ?_
                  show Steps p.tables e below (T8.setTop (mkF m 75 #[.val (.long q1), .second, .val (.int p2), .val (.int ((p2 &&& (127 : Int32)) + (1 : Int32))), .val (.long (f1 q1 ((p2 &&& (127 : Int32)) + (1 : Int32)))), .second, .unset] [(.long q1)])) _
                  refine XS.iconst X8.here hx rfl (hb hby at_75) ?_
                  show Steps p.tables e below (T8.setTop (mkF m 76 #[.val (.long q1), .second, .val (.int p2), .val (.int ((p2 &&& (127 : Int32)) + (1 : Int32))), .val (.long (f1 q1 ((p2 &&& (127 : Int32)) + (1 : Int32)))), .second, .unset] [(.int (4 : Int32)), (.long q1)])) _
                  refine XS.iloadN X8.here hx rfl (hb hby at_76) rfl ?_
                  show Steps p.tables e below (T8.setTop (mkF m 77 #[.val (.long q1), .second, .val (.int p2), .val (.int ((p2 &&& (127 : Int32)) + (1 : Int32))), .val (.long (f1 q1 ((p2 &&& (127 : Int32)) + (1 : Int32)))), .second, .unset] [(.int ((p2 &&& (127 : Int32)) + (1 : Int32))), (.int (4 : Int32)), (.long q1)])) _
                  refine st10 _ ?_
                  show Steps p.tables e below (T10.setTop (mkF m 80 #[.val (.long q1), .second, .val (.int p2), .val (.int ((p2 &&& (127 : Int32)) + (1 : Int32))), .val (.long (f1 q1 ((p2 &&& (127 : Int32)) + (1 : Int32)))), .second, .unset] [(.int (f2 q1 (4 : Int32) ((p2 &&& (127 : Int32)) + (1 : Int32))))])) _
                  refine st21 _ ?_
                  exact k
                · refine ⟨T8, _, X8, e8, N8, fun t k => ?_⟩
                  rw [show (f0_4 q1 p2) = (3 : Int32) from if_neg h9] at k
                  show Steps p.tables e below (T8.setTop (mkF m 65 #[.val (.long q1), .second, .val (.int p2), .val (.int ((p2 &&& (127 : Int32)) + (1 : Int32))), .val (.long (f1 q1 ((p2 &&& (127 : Int32)) + (1 : Int32)))), .second, .unset] [(.int (f2 q1 (3 : Int32) ((p2 &&& (127 : Int32)) + (1 : Int32))))])) _
                  refine XS.ifNo X8.here hx rfl (hb hby at_65) rfl ((if0 _ _).trans (feq h9).1) ?_
                  show Steps p.tables e below (T8.setTop (mkF m 68 #[.val (.long q1), .second, .val (.int p2), .val (.int ((p2 &&& (127 : Int32)) + (1 : Int32))), .val (.long (f1 q1 ((p2 &&& (127 : Int32)) + (1 : Int32)))), .second, .unset] [])) _
                  refine XS.iconst X8.here hx rfl (hb hby at_68) ?_
                  show Steps p.tables e below (T8.setTop (mkF m 69 #[.val (.long q1), .second, .val (.int p2), .val (.int ((p2 &&& (127 : Int32)) + (1 : Int32))), .val (.long (f1 q1 ((p2 &&& (127 : Int32)) + (1 : Int32)))), .second, .unset] [(.int (3 : Int32))])) _
                  refine XS.istore X8.here hx rfl (hb hby at_69) rfl (l' := #[.val (.long q1), .second, .val (.int p2), .val (.int ((p2 &&& (127 : Int32)) + (1 : Int32))), .val (.long (f1 q1 ((p2 &&& (127 : Int32)) + (1 : Int32)))), .second, .val (.int (3 : Int32))]) rfl ?_
                  show Steps p.tables e below (T8.setTop (mkF m 71 #[.val (.long q1), .second, .val (.int p2), .val (.int ((p2 &&& (127 : Int32)) + (1 : Int32))), .val (.long (f1 q1 ((p2 &&& (127 : Int32)) + (1 : Int32)))), .second, .val (.int (3 : Int32))] [])) _
                  refine XS.goto X8.here hx rfl (pc0 := 71) (pc' := 141) rfl (hb hby at_71) (by decide) (by decide) ?_
                  exact k
              refine ⟨T22, _, X22, e22, N22, fun t k => ?_⟩
              rw [show (f0_5 q1 p2) = (f0_4 q1 p2) from if_pos h7] at k
              show Steps p.tables e below (T6.setTop (mkF m 50 #[.val (.long q1), .second, .val (.int p2), .val (.int ((p2 &&& (127 : Int32)) + (1 : Int32))), .val (.long (f1 q1 ((p2 &&& (127 : Int32)) + (1 : Int32)))), .second, .unset] [(.int (f2 q1 (2 : Int32) ((p2 &&& (127 : Int32)) + (1 : Int32))))])) _
              refine XS.ifYes X6.here hx rfl (pc0 := 50) (pc' := 59) rfl (hb hby at_50) rfl ((if0 _ _).trans (teq h7).1) (by decide) (by decide) ?_
              show Steps p.tables e below (T6.setTop (mkF m 59 #[.val (.long q1), .second, .val (.int p2), .val (.int ((p2 &&& (127 : Int32)) + (1 : Int32))), .val (.long (f1 q1 ((p2 &&& (127 : Int32)) + (1 : Int32)))), .second, .unset] [])) _
              refine XT.lloadN X6.here hx rfl (hb hby at_59) rfl ?_
              show Steps p.tables e below (T6.setTop (mkF m 60 #[.val (.long q1), .second, .val (.int p2), .val (.int ((p2 &&& (127 : Int32)) + (1 : Int32))), .val (.long (f1 q1 ((p2 &&& (127 : Int32)) + (1 : Int32)))), .second, .unset] [(.long q1)])) _
              refine XS.iconst X6.here hx rfl (hb hby at_60) ?_
              show Steps p.tables e below (T6.setTop (mkF m 61 #[.val (.long q1), .second, .val (.int p2), .val (.int ((p2 &&& (127 : Int32)) + (1 : Int32))), .val (.long (f1 q1 ((p2 &&& (127 : Int32)) + (1 : Int32)))), .second, .unset] [(.int (3 : Int32)), (.long q1)])) _
              refine XS.iloadN X6.here hx rfl (hb hby at_61) rfl ?_
              show Steps p.tables e below (T6.setTop (mkF m 62 #[.val (.long q1), .second, .val (.int p2), .val (.int ((p2 &&& (127 : Int32)) + (1 : Int32))), .val (.long (f1 q1 ((p2 &&& (127 : Int32)) + (1 : Int32)))), .second, .unset] [(.int ((p2 &&& (127 : Int32)) + (1 : Int32))), (.int (3 : Int32)), (.long q1)])) _
              refine st8 _ ?_
              show Steps p.tables e below (T8.setTop (mkF m 65 #[.val (.long q1), .second, .val (.int p2), .val (.int ((p2 &&& (127 : Int32)) + (1 : Int32))), .val (.long (f1 q1 ((p2 &&& (127 : Int32)) + (1 : Int32)))), .second, .unset] [(.int (f2 q1 (3 : Int32) ((p2 &&& (127 : Int32)) + (1 : Int32))))])) _
              refine st22 _ ?_
              exact k
            · refine ⟨T6, _, X6, e6, N6, fun t k => ?_⟩
              rw [show (f0_5 q1 p2) = (2 : Int32) from if_neg h7] at k
              show Steps p.tables e below (T6.setTop (mkF m 50 #[.val (.long q1), .second, .val (.int p2), .val (.int ((p2 &&& (127 : Int32)) + (1 : Int32))), .val (.long (f1 q1 ((p2 &&& (127 : Int32)) + (1 : Int32)))), .second, .unset] [(.int (f2 q1 (2 : Int32) ((p2 &&& (127 : Int32)) + (1 : Int32))))])) _
              refine XS.ifNo X6.here hx rfl (hb hby at_50) rfl ((if0 _ _).trans (feq h7).1) ?_
              show Steps p.tables e below (T6.setTop (mkF m 53 #[.val (.long q1), .second, .val (.int p2), .val (.int ((p2 &&& (127 : Int32)) + (1 : Int32))), .val (.long (f1 q1 ((p2 &&& (127 : Int32)) + (1 : Int32)))), .second, .unset] [])) _
              refine XS.iconst X6.here hx rfl (hb hby at_53) ?_
              show Steps p.tables e below (T6.setTop (mkF m 54 #[.val (.long q1), .second, .val (.int p2), .val (.int ((p2 &&& (127 : Int32)) + (1 : Int32))), .val (.long (f1 q1 ((p2 &&& (127 : Int32)) + (1 : Int32)))), .second, .unset] [(.int (2 : Int32))])) _
              refine XS.istore X6.here hx rfl (hb hby at_54) rfl (l' := #[.val (.long q1), .second, .val (.int p2), .val (.int ((p2 &&& (127 : Int32)) + (1 : Int32))), .val (.long (f1 q1 ((p2 &&& (127 : Int32)) + (1 : Int32)))), .second, .val (.int (2 : Int32))]) rfl ?_
              show Steps p.tables e below (T6.setTop (mkF m 56 #[.val (.long q1), .second, .val (.int p2), .val (.int ((p2 &&& (127 : Int32)) + (1 : Int32))), .val (.long (f1 q1 ((p2 &&& (127 : Int32)) + (1 : Int32)))), .second, .val (.int (2 : Int32))] [])) _
              refine XS.goto X6.here hx rfl (pc0 := 56) (pc' := 141) rfl (hb hby at_56) (by decide) (by decide) ?_
              exact k
          refine ⟨T23, _, X23, e23, N23, fun t k => ?_⟩
          rw [show (f0_6 q1 p2) = (f0_5 q1 p2) from if_pos h5] at k
          show Steps p.tables e below (T4.setTop (mkF m 35 #[.val (.long q1), .second, .val (.int p2), .val (.int ((p2 &&& (127 : Int32)) + (1 : Int32))), .val (.long (f1 q1 ((p2 &&& (127 : Int32)) + (1 : Int32)))), .second, .unset] [(.int (f2 q1 (1 : Int32) ((p2 &&& (127 : Int32)) + (1 : Int32))))])) _
          refine XS.ifYes X4.here hx rfl (pc0 := 35) (pc' := 44) rfl (hb hby at_35) rfl ((if0 _ _).trans (teq h5).1) (by decide) (by decide) ?_
          show Steps p.tables e below (T4.setTop (mkF m 44 #[.val (.long q1), .second, .val (.int p2), .val (.int ((p2 &&& (127 : Int32)) + (1 : Int32))), .val (.long (f1 q1 ((p2 &&& (127 : Int32)) + (1 : Int32)))), .second, .unset] [])) _
          refine XT.lloadN X4.here hx rfl (hb hby at_44) rfl ?_
          show Steps p.tables e below (T4.setTop (mkF m 45 #[.val (.long q1), .second, .val (.int p2), .val (.int ((p2 &&& (127 : Int32)) + (1 : Int32))), .val (.long (f1 q1 ((p2 &&& (127 : Int32)) + (1 : Int32)))), .second, .unset] [(.long q1)])) _
          refine XS.iconst X4.here hx rfl (hb hby at_45) ?_
          show Steps p.tables e below (T4.setTop (mkF m 46 #[.val (.long q1), .second, .val (.int p2), .val (.int ((p2 &&& (127 : Int32)) + (1 : Int32))), .val (.long (f1 q1 ((p2 &&& (127 : Int32)) + (1 : Int32)))), .second, .unset] [(.int (2 : Int32)), (.long q1)])) _
          refine XS.iloadN X4.here hx rfl (hb hby at_46) rfl ?_
          show Steps p.tables e below (T4.setTop (mkF m 47 #[.val (.long q1), .second, .val (.int p2), .val (.int ((p2 &&& (127 : Int32)) + (1 : Int32))), .val (.long (f1 q1 ((p2 &&& (127 : Int32)) + (1 : Int32)))), .second, .unset] [(.int ((p2 &&& (127 : Int32)) + (1 : Int32))), (.int (2 : Int32)), (.long q1)])) _
          refine st6 _ ?_
          show Steps p.tables e below (T6.setTop (mkF m 50 #[.val (.long q1), .second, .val (.int p2), .val (.int ((p2 &&& (127 : Int32)) + (1 : Int32))), .val (.long (f1 q1 ((p2 &&& (127 : Int32)) + (1 : Int32)))), .second, .unset] [(.int (f2 q1 (2 : Int32) ((p2 &&& (127 : Int32)) + (1 : Int32))))])) _
          refine st23 _ ?_
          exact k
        · refine ⟨T4, _, X4, e4, N4, fun t k => ?_⟩
          rw [show (f0_6 q1 p2) = (1 : Int32) from if_neg h5] at k
          show Steps p.tables e below (T4.setTop (mkF m 35 #[.val (.long q1), .second, .val (.int p2), .val (.int ((p2 &&& (127 : Int32)) + (1 : Int32))), .val (.long (f1 q1 ((p2 &&& (127 : Int32)) + (1 : Int32)))), .second, .unset] [(.int (f2 q1 (1 : Int32) ((p2 &&& (127 : Int32)) + (1 : Int32))))])) _
          refine XS.ifNo X4.here hx rfl (hb hby at_35) rfl ((if0 _ _).trans (feq h5).1) ?_
          show Steps p.tables e below (T4.setTop (mkF m 38 #[.val (.long q1), .second, .val (.int p2), .val (.int ((p2 &&& (127 : Int32)) + (1 : Int32))), .val (.long (f1 q1 ((p2 &&& (127 : Int32)) + (1 : Int32)))), .second, .unset] [])) _
          refine XS.iconst X4.here hx rfl (hb hby at_38) ?_
          show Steps p.tables e below (T4.setTop (mkF m 39 #[.val (.long q1), .second, .val (.int p2), .val (.int ((p2 &&& (127 : Int32)) + (1 : Int32))), .val (.long (f1 q1 ((p2 &&& (127 : Int32)) + (1 : Int32)))), .second, .unset] [(.int (1 : Int32))])) _
          refine XS.istore X4.here hx rfl (hb hby at_39) rfl (l' := #[.val (.long q1), .second, .val (.int p2), .val (.int ((p2 &&& (127 : Int32)) + (1 : Int32))), .val (.long (f1 q1 ((p2 &&& (127 : Int32)) + (1 : Int32)))), .second, .val (.int (1 : Int32))]) rfl ?_
          show Steps p.tables e below (T4.setTop (mkF m 41 #[.val (.long q1), .second, .val (.int p2), .val (.int ((p2 &&& (127 : Int32)) + (1 : Int32))), .val (.long (f1 q1 ((p2 &&& (127 : Int32)) + (1 : Int32)))), .second, .val (.int (1 : Int32))] [])) _
          refine XS.goto X4.here hx rfl (pc0 := 41) (pc' := 141) rfl (hb hby at_41) (by decide) (by decide) ?_
          exact k
      refine ⟨T24, _, X24, e24, N24, fun t k => ?_⟩
      rw [show (f0_7 q1 p2) = (f0_6 q1 p2) from if_pos h3] at k
      show Steps p.tables e below (T2.setTop (mkF m 20 #[.val (.long q1), .second, .val (.int p2), .val (.int ((p2 &&& (127 : Int32)) + (1 : Int32))), .val (.long (f1 q1 ((p2 &&& (127 : Int32)) + (1 : Int32)))), .second, .unset] [(.int (f2 q1 (0 : Int32) ((p2 &&& (127 : Int32)) + (1 : Int32))))])) _
      refine XS.ifYes X2.here hx rfl (pc0 := 20) (pc' := 29) rfl (hb hby at_20) rfl ((if0 _ _).trans (teq h3).1) (by decide) (by decide) ?_
      show Steps p.tables e below (T2.setTop (mkF m 29 #[.val (.long q1), .second, .val (.int p2), .val (.int ((p2 &&& (127 : Int32)) + (1 : Int32))), .val (.long (f1 q1 ((p2 &&& (127 : Int32)) + (1 : Int32)))), .second, .unset] [])) _
      refine XT.lloadN X2.here hx rfl (hb hby at_29) rfl ?_
      show Steps p.tables e below (T2.setTop (mkF m 30 #[.val (.long q1), .second, .val (.int p2), .val (.int ((p2 &&& (127 : Int32)) + (1 : Int32))), .val (.long (f1 q1 ((p2 &&& (127 : Int32)) + (1 : Int32)))), .second, .unset] [(.long q1)])) _
      refine XS.iconst X2.here hx rfl (hb hby at_30) ?_
      show Steps p.tables e below (T2.setTop (mkF m 31 #[.val (.long q1), .second, .val (.int p2), .val (.int ((p2 &&& (127 : Int32)) + (1 : Int32))), .val (.long (f1 q1 ((p2 &&& (127 : Int32)) + (1 : Int32)))), .second, .unset] [(.int (1 : Int32)), (.long q1)])) _
      refine XS.iloadN X2.here hx rfl (hb hby at_31) rfl ?_
      show Steps p.tables e below (T2.setTop (mkF m 32 #[.val (.long q1), .second, .val (.int p2), .val (.int ((p2 &&& (127 : Int32)) + (1 : Int32))), .val (.long (f1 q1 ((p2 &&& (127 : Int32)) + (1 : Int32)))), .second, .unset] [(.int ((p2 &&& (127 : Int32)) + (1 : Int32))), (.int (1 : Int32)), (.long q1)])) _
      refine st4 _ ?_
      show Steps p.tables e below (T4.setTop (mkF m 35 #[.val (.long q1), .second, .val (.int p2), .val (.int ((p2 &&& (127 : Int32)) + (1 : Int32))), .val (.long (f1 q1 ((p2 &&& (127 : Int32)) + (1 : Int32)))), .second, .unset] [(.int (f2 q1 (1 : Int32) ((p2 &&& (127 : Int32)) + (1 : Int32))))])) _
      refine st24 _ ?_
      exact k
    · refine ⟨T2, _, X2, e2, N2, fun t k => ?_⟩
      rw [show (f0_7 q1 p2) = (0 : Int32) from if_neg h3] at k
      show Steps p.tables e below (T2.setTop (mkF m 20 #[.val (.long q1), .second, .val (.int p2), .val (.int ((p2 &&& (127 : Int32)) + (1 : Int32))), .val (.long (f1 q1 ((p2 &&& (127 : Int32)) + (1 : Int32)))), .second, .unset] [(.int (f2 q1 (0 : Int32) ((p2 &&& (127 : Int32)) + (1 : Int32))))])) _
      refine XS.ifNo X2.here hx rfl (hb hby at_20) rfl ((if0 _ _).trans (feq h3).1) ?_
      show Steps p.tables e below (T2.setTop (mkF m 23 #[.val (.long q1), .second, .val (.int p2), .val (.int ((p2 &&& (127 : Int32)) + (1 : Int32))), .val (.long (f1 q1 ((p2 &&& (127 : Int32)) + (1 : Int32)))), .second, .unset] [])) _
      refine XS.iconst X2.here hx rfl (hb hby at_23) ?_
      show Steps p.tables e below (T2.setTop (mkF m 24 #[.val (.long q1), .second, .val (.int p2), .val (.int ((p2 &&& (127 : Int32)) + (1 : Int32))), .val (.long (f1 q1 ((p2 &&& (127 : Int32)) + (1 : Int32)))), .second, .unset] [(.int (0 : Int32))])) _
      refine XS.istore X2.here hx rfl (hb hby at_24) rfl (l' := #[.val (.long q1), .second, .val (.int p2), .val (.int ((p2 &&& (127 : Int32)) + (1 : Int32))), .val (.long (f1 q1 ((p2 &&& (127 : Int32)) + (1 : Int32)))), .second, .val (.int (0 : Int32))]) rfl ?_
      show Steps p.tables e below (T2.setTop (mkF m 26 #[.val (.long q1), .second, .val (.int p2), .val (.int ((p2 &&& (127 : Int32)) + (1 : Int32))), .val (.long (f1 q1 ((p2 &&& (127 : Int32)) + (1 : Int32)))), .second, .val (.int (0 : Int32))] [])) _
      refine XS.goto X2.here hx rfl (pc0 := 26) (pc' := 141) rfl (hb hby at_26) (by decide) (by decide) ?_
      exact k
  refine own_step (B := T25.setTop (mkF m 143 #[.val (.long q1), .second, .val (.int p2), .val (.int ((p2 &&& (127 : Int32)) + (1 : Int32))), .val (.long (f1 q1 ((p2 &&& (127 : Int32)) + (1 : Int32)))), .second, .val (.int (f0_7 q1 p2))] [(.int (f0_7 q1 p2))])) (fun t k => ?_) ?_
  · show Steps p.tables e below (s₁.setTop (mkF m 0 #[.val (.long q1), .second, .val (.int p2), .unset, .unset, .unset, .unset] [])) _
    refine XS.iloadN X0.here hx rfl (hb hby at_0) rfl ?_
    show Steps p.tables e below (s₁.setTop (mkF m 1 #[.val (.long q1), .second, .val (.int p2), .unset, .unset, .unset, .unset] [(.int p2)])) _
    refine XS.bipush X0.here hx rfl (hb hby at_1) ?_
    show Steps p.tables e below (s₁.setTop (mkF m 3 #[.val (.long q1), .second, .val (.int p2), .unset, .unset, .unset, .unset] [(.int (127 : Int32)), (.int p2)])) _
    refine XS.iand X0.here hx rfl (hb hby at_3) rfl ?_
    show Steps p.tables e below (s₁.setTop (mkF m 4 #[.val (.long q1), .second, .val (.int p2), .unset, .unset, .unset, .unset] [(.int (p2 &&& (127 : Int32)))])) _
    refine XS.iconst X0.here hx rfl (hb hby at_4) ?_
    show Steps p.tables e below (s₁.setTop (mkF m 5 #[.val (.long q1), .second, .val (.int p2), .unset, .unset, .unset, .unset] [(.int (1 : Int32)), (.int (p2 &&& (127 : Int32)))])) _
    refine XS.iadd X0.here hx rfl (hb hby at_5) rfl ?_
    show Steps p.tables e below (s₁.setTop (mkF m 6 #[.val (.long q1), .second, .val (.int p2), .unset, .unset, .unset, .unset] [(.int ((p2 &&& (127 : Int32)) + (1 : Int32)))])) _
    refine XS.istoreN X0.here hx rfl (hb hby at_6) rfl (l' := #[.val (.long q1), .second, .val (.int p2), .val (.int ((p2 &&& (127 : Int32)) + (1 : Int32))), .unset, .unset, .unset]) rfl ?_
    show Steps p.tables e below (s₁.setTop (mkF m 7 #[.val (.long q1), .second, .val (.int p2), .val (.int ((p2 &&& (127 : Int32)) + (1 : Int32))), .unset, .unset, .unset] [])) _
    refine XT.lloadN X0.here hx rfl (hb hby at_7) rfl ?_
    show Steps p.tables e below (s₁.setTop (mkF m 8 #[.val (.long q1), .second, .val (.int p2), .val (.int ((p2 &&& (127 : Int32)) + (1 : Int32))), .unset, .unset, .unset] [(.long q1)])) _
    refine XS.iloadN X0.here hx rfl (hb hby at_8) rfl ?_
    show Steps p.tables e below (s₁.setTop (mkF m 9 #[.val (.long q1), .second, .val (.int p2), .val (.int ((p2 &&& (127 : Int32)) + (1 : Int32))), .unset, .unset, .unset] [(.int ((p2 &&& (127 : Int32)) + (1 : Int32))), (.long q1)])) _
    refine st1 _ ?_
    show Steps p.tables e below (T1.setTop (mkF m 12 #[.val (.long q1), .second, .val (.int p2), .val (.int ((p2 &&& (127 : Int32)) + (1 : Int32))), .unset, .unset, .unset] [(.long (f1 q1 ((p2 &&& (127 : Int32)) + (1 : Int32))))])) _
    refine XT.lstore X1.here hx rfl (hb hby at_12) rfl (l' := #[.val (.long q1), .second, .val (.int p2), .val (.int ((p2 &&& (127 : Int32)) + (1 : Int32))), .val (.long (f1 q1 ((p2 &&& (127 : Int32)) + (1 : Int32)))), .second, .unset]) rfl ?_
    show Steps p.tables e below (T1.setTop (mkF m 14 #[.val (.long q1), .second, .val (.int p2), .val (.int ((p2 &&& (127 : Int32)) + (1 : Int32))), .val (.long (f1 q1 ((p2 &&& (127 : Int32)) + (1 : Int32)))), .second, .unset] [])) _
    refine XT.lloadN X1.here hx rfl (hb hby at_14) rfl ?_
    show Steps p.tables e below (T1.setTop (mkF m 15 #[.val (.long q1), .second, .val (.int p2), .val (.int ((p2 &&& (127 : Int32)) + (1 : Int32))), .val (.long (f1 q1 ((p2 &&& (127 : Int32)) + (1 : Int32)))), .second, .unset] [(.long q1)])) _
    refine XS.iconst X1.here hx rfl (hb hby at_15) ?_
    show Steps p.tables e below (T1.setTop (mkF m 16 #[.val (.long q1), .second, .val (.int p2), .val (.int ((p2 &&& (127 : Int32)) + (1 : Int32))), .val (.long (f1 q1 ((p2 &&& (127 : Int32)) + (1 : Int32)))), .second, .unset] [(.int (0 : Int32)), (.long q1)])) _
    refine XS.iloadN X1.here hx rfl (hb hby at_16) rfl ?_
    show Steps p.tables e below (T1.setTop (mkF m 17 #[.val (.long q1), .second, .val (.int p2), .val (.int ((p2 &&& (127 : Int32)) + (1 : Int32))), .val (.long (f1 q1 ((p2 &&& (127 : Int32)) + (1 : Int32)))), .second, .unset] [(.int ((p2 &&& (127 : Int32)) + (1 : Int32))), (.int (0 : Int32)), (.long q1)])) _
    refine st2 _ ?_
    show Steps p.tables e below (T2.setTop (mkF m 20 #[.val (.long q1), .second, .val (.int p2), .val (.int ((p2 &&& (127 : Int32)) + (1 : Int32))), .val (.long (f1 q1 ((p2 &&& (127 : Int32)) + (1 : Int32)))), .second, .unset] [(.int (f2 q1 (0 : Int32) ((p2 &&& (127 : Int32)) + (1 : Int32))))])) _
    refine st25 _ ?_
    show Steps p.tables e below (T25.setTop (mkF m 141 #[.val (.long q1), .second, .val (.int p2), .val (.int ((p2 &&& (127 : Int32)) + (1 : Int32))), .val (.long (f1 q1 ((p2 &&& (127 : Int32)) + (1 : Int32)))), .second, .val (.int (f0_7 q1 p2))] [])) _
    refine XS.iload X25.here hx rfl (hb hby at_141) rfl ?_
    exact k
  by_cases h26 : (f0_7 q1 p2) < (0 : Int32)
  · have st28 : ∀ t, Steps p.tables e below (T25.setTop (mkF m 158 #[.val (.long q1), .second, .val (.int p2), .val (.int ((p2 &&& (127 : Int32)) + (1 : Int32))), .val (.long (f1 q1 ((p2 &&& (127 : Int32)) + (1 : Int32)))), .second, .val (.int (f0_7 q1 p2))] [(.int (f0_8 q1 p2))])) t → Steps p.tables e below (T25.setTop (mkF m 150 #[.val (.long q1), .second, .val (.int p2), .val (.int ((p2 &&& (127 : Int32)) + (1 : Int32))), .val (.long (f1 q1 ((p2 &&& (127 : Int32)) + (1 : Int32)))), .second, .val (.int (f0_7 q1 p2))] [(.int (XT.cmpL (f1 q1 ((p2 &&& (127 : Int32)) + (1 : Int32))) (0 : Int64)))])) t := by
      intro t k
      by_cases h27 : (f1 q1 ((p2 &&& (127 : Int32)) + (1 : Int32))) = (0 : Int64)
      · rw [show (f0_8 q1 p2) = (1 : Int32) from if_pos h27] at k
        show Steps p.tables e below (T25.setTop (mkF m 150 #[.val (.long q1), .second, .val (.int p2), .val (.int ((p2 &&& (127 : Int32)) + (1 : Int32))), .val (.long (f1 q1 ((p2 &&& (127 : Int32)) + (1 : Int32)))), .second, .val (.int (f0_7 q1 p2))] [(.int (XT.cmpL (f1 q1 ((p2 &&& (127 : Int32)) + (1 : Int32))) (0 : Int64)))])) _
        refine XS.ifNo X25.here hx rfl (hb hby at_150) rfl ((if0 _ _).trans (teq ((own_ce _ _).mpr h27)).2) ?_
        show Steps p.tables e below (T25.setTop (mkF m 153 #[.val (.long q1), .second, .val (.int p2), .val (.int ((p2 &&& (127 : Int32)) + (1 : Int32))), .val (.long (f1 q1 ((p2 &&& (127 : Int32)) + (1 : Int32)))), .second, .val (.int (f0_7 q1 p2))] [])) _
        refine XS.iconst X25.here hx rfl (hb hby at_153) ?_
        show Steps p.tables e below (T25.setTop (mkF m 154 #[.val (.long q1), .second, .val (.int p2), .val (.int ((p2 &&& (127 : Int32)) + (1 : Int32))), .val (.long (f1 q1 ((p2 &&& (127 : Int32)) + (1 : Int32)))), .second, .val (.int (f0_7 q1 p2))] [(.int (1 : Int32))])) _
        refine XS.goto X25.here hx rfl (pc0 := 154) (pc' := 158) rfl (hb hby at_154) (by decide) (by decide) ?_
        exact k
      · rw [show (f0_8 q1 p2) = (0 : Int32) from if_neg h27] at k
        show Steps p.tables e below (T25.setTop (mkF m 150 #[.val (.long q1), .second, .val (.int p2), .val (.int ((p2 &&& (127 : Int32)) + (1 : Int32))), .val (.long (f1 q1 ((p2 &&& (127 : Int32)) + (1 : Int32)))), .second, .val (.int (f0_7 q1 p2))] [(.int (XT.cmpL (f1 q1 ((p2 &&& (127 : Int32)) + (1 : Int32))) (0 : Int64)))])) _
        refine XS.ifYes X25.here hx rfl (pc0 := 150) (pc' := 157) rfl (hb hby at_150) rfl ((if0 _ _).trans (feq (mt (own_ce _ _).mp h27)).2) (by decide) (by decide) ?_
        show Steps p.tables e below (T25.setTop (mkF m 157 #[.val (.long q1), .second, .val (.int p2), .val (.int ((p2 &&& (127 : Int32)) + (1 : Int32))), .val (.long (f1 q1 ((p2 &&& (127 : Int32)) + (1 : Int32)))), .second, .val (.int (f0_7 q1 p2))] [])) _
        refine XS.iconst X25.here hx rfl (hb hby at_157) ?_
        exact k
    obtain ⟨fs, hr, hrun, hended, hW, hsame⟩ := X25.leave (v := some (.int ((f0_8 q1 p2) &&& 1))) (fun h => by rw [Bd.returns] at h; cases h)
    refine ⟨_, _, ?_, hrun, hended, _, _, rfl, ?_, ⟨_, rfl⟩, hW, hsame.mono (by decide) (by decide)⟩
    · show Steps p.tables e below (T25.setTop (mkF m 143 #[.val (.long q1), .second, .val (.int p2), .val (.int ((p2 &&& (127 : Int32)) + (1 : Int32))), .val (.long (f1 q1 ((p2 &&& (127 : Int32)) + (1 : Int32)))), .second, .val (.int (f0_7 q1 p2))] [(.int (f0_7 q1 p2))])) _
      refine XS.ifNo X25.here hx rfl (hb hby at_143) rfl ((if0 _ _).trans (tlt h26).2.1) ?_
      show Steps p.tables e below (T25.setTop (mkF m 146 #[.val (.long q1), .second, .val (.int p2), .val (.int ((p2 &&& (127 : Int32)) + (1 : Int32))), .val (.long (f1 q1 ((p2 &&& (127 : Int32)) + (1 : Int32)))), .second, .val (.int (f0_7 q1 p2))] [])) _
      refine XT.lload X25.here hx rfl (hb hby at_146) rfl ?_
      show Steps p.tables e below (T25.setTop (mkF m 148 #[.val (.long q1), .second, .val (.int p2), .val (.int ((p2 &&& (127 : Int32)) + (1 : Int32))), .val (.long (f1 q1 ((p2 &&& (127 : Int32)) + (1 : Int32)))), .second, .val (.int (f0_7 q1 p2))] [(.long (f1 q1 ((p2 &&& (127 : Int32)) + (1 : Int32))))])) _
      refine XT.lconst X25.here hx rfl (hb hby at_148) ?_
      show Steps p.tables e below (T25.setTop (mkF m 149 #[.val (.long q1), .second, .val (.int p2), .val (.int ((p2 &&& (127 : Int32)) + (1 : Int32))), .val (.long (f1 q1 ((p2 &&& (127 : Int32)) + (1 : Int32)))), .second, .val (.int (f0_7 q1 p2))] [(.long (0 : Int64)), (.long (f1 q1 ((p2 &&& (127 : Int32)) + (1 : Int32))))])) _
      refine XT.lcmp X25.here hx rfl (hb hby at_149) rfl ?_
      show Steps p.tables e below (T25.setTop (mkF m 150 #[.val (.long q1), .second, .val (.int p2), .val (.int ((p2 &&& (127 : Int32)) + (1 : Int32))), .val (.long (f1 q1 ((p2 &&& (127 : Int32)) + (1 : Int32)))), .second, .val (.int (f0_7 q1 p2))] [(.int (XT.cmpL (f1 q1 ((p2 &&& (127 : Int32)) + (1 : Int32))) (0 : Int64)))])) _
      refine st28 _ ?_
      show Steps p.tables e below (T25.setTop (mkF m 158 #[.val (.long q1), .second, .val (.int p2), .val (.int ((p2 &&& (127 : Int32)) + (1 : Int32))), .val (.long (f1 q1 ((p2 &&& (127 : Int32)) + (1 : Int32)))), .second, .val (.int (f0_7 q1 p2))] [(.int (f0_8 q1 p2))])) _
      exact retN X25 hx (t := .boolean) Bd.returns (by simp) (hb hby at_158) hr
    · show Q0 Z q1 p2 h0 n0 _ T25.heap _
      rw [e25]
      exact ⟨congrArg (fun z => some (Value.int z)) ((show f0 q1 p2 = ((f0_8 q1 p2) &&& 1) from by simp only [f0, if_pos h26]).symm.trans (own_law q1 p2)), N25⟩
  · have st30 : ∀ t, Steps p.tables e below (T25.setTop (mkF m 183 #[.val (.long q1), .second, .val (.int p2), .val (.int ((p2 &&& (127 : Int32)) + (1 : Int32))), .val (.long (f1 q1 ((p2 &&& (127 : Int32)) + (1 : Int32)))), .second, .val (.int (f0_7 q1 p2))] [(.int (f0_11 q1 p2))])) t → Steps p.tables e below (T25.setTop (mkF m 175 #[.val (.long q1), .second, .val (.int p2), .val (.int ((p2 &&& (127 : Int32)) + (1 : Int32))), .val (.long (f1 q1 ((p2 &&& (127 : Int32)) + (1 : Int32)))), .second, .val (.int (f0_7 q1 p2))] [(.int (XT.cmpL (f0_9 q1 p2) (f0_10 q1 p2)))])) t := by
      intro t k
      by_cases h29 : (f0_9 q1 p2) = (f0_10 q1 p2)
      · rw [show (f0_11 q1 p2) = (1 : Int32) from if_pos h29] at k
        show Steps p.tables e below (T25.setTop (mkF m 175 #[.val (.long q1), .second, .val (.int p2), .val (.int ((p2 &&& (127 : Int32)) + (1 : Int32))), .val (.long (f1 q1 ((p2 &&& (127 : Int32)) + (1 : Int32)))), .second, .val (.int (f0_7 q1 p2))] [(.int (XT.cmpL (f0_9 q1 p2) (f0_10 q1 p2)))])) _
        refine XS.ifNo X25.here hx rfl (hb hby at_175) rfl ((if0 _ _).trans (teq ((own_ce _ _).mpr h29)).2) ?_
        show Steps p.tables e below (T25.setTop (mkF m 178 #[.val (.long q1), .second, .val (.int p2), .val (.int ((p2 &&& (127 : Int32)) + (1 : Int32))), .val (.long (f1 q1 ((p2 &&& (127 : Int32)) + (1 : Int32)))), .second, .val (.int (f0_7 q1 p2))] [])) _
        refine XS.iconst X25.here hx rfl (hb hby at_178) ?_
        show Steps p.tables e below (T25.setTop (mkF m 179 #[.val (.long q1), .second, .val (.int p2), .val (.int ((p2 &&& (127 : Int32)) + (1 : Int32))), .val (.long (f1 q1 ((p2 &&& (127 : Int32)) + (1 : Int32)))), .second, .val (.int (f0_7 q1 p2))] [(.int (1 : Int32))])) _
        refine XS.goto X25.here hx rfl (pc0 := 179) (pc' := 183) rfl (hb hby at_179) (by decide) (by decide) ?_
        exact k
      · rw [show (f0_11 q1 p2) = (0 : Int32) from if_neg h29] at k
        show Steps p.tables e below (T25.setTop (mkF m 175 #[.val (.long q1), .second, .val (.int p2), .val (.int ((p2 &&& (127 : Int32)) + (1 : Int32))), .val (.long (f1 q1 ((p2 &&& (127 : Int32)) + (1 : Int32)))), .second, .val (.int (f0_7 q1 p2))] [(.int (XT.cmpL (f0_9 q1 p2) (f0_10 q1 p2)))])) _
        refine XS.ifYes X25.here hx rfl (pc0 := 175) (pc' := 182) rfl (hb hby at_175) rfl ((if0 _ _).trans (feq (mt (own_ce _ _).mp h29)).2) (by decide) (by decide) ?_
        show Steps p.tables e below (T25.setTop (mkF m 182 #[.val (.long q1), .second, .val (.int p2), .val (.int ((p2 &&& (127 : Int32)) + (1 : Int32))), .val (.long (f1 q1 ((p2 &&& (127 : Int32)) + (1 : Int32)))), .second, .val (.int (f0_7 q1 p2))] [])) _
        refine XS.iconst X25.here hx rfl (hb hby at_182) ?_
        exact k
    obtain ⟨fs, hr, hrun, hended, hW, hsame⟩ := X25.leave (v := some (.int ((f0_11 q1 p2) &&& 1))) (fun h => by rw [Bd.returns] at h; cases h)
    refine ⟨_, _, ?_, hrun, hended, _, _, rfl, ?_, ⟨_, rfl⟩, hW, hsame.mono (by decide) (by decide)⟩
    · show Steps p.tables e below (T25.setTop (mkF m 143 #[.val (.long q1), .second, .val (.int p2), .val (.int ((p2 &&& (127 : Int32)) + (1 : Int32))), .val (.long (f1 q1 ((p2 &&& (127 : Int32)) + (1 : Int32)))), .second, .val (.int (f0_7 q1 p2))] [(.int (f0_7 q1 p2))])) _
      refine XS.ifYes X25.here hx rfl (pc0 := 143) (pc' := 159) rfl (hb hby at_143) rfl ((if0 _ _).trans (flt h26).2.1) (by decide) (by decide) ?_
      show Steps p.tables e below (T25.setTop (mkF m 159 #[.val (.long q1), .second, .val (.int p2), .val (.int ((p2 &&& (127 : Int32)) + (1 : Int32))), .val (.long (f1 q1 ((p2 &&& (127 : Int32)) + (1 : Int32)))), .second, .val (.int (f0_7 q1 p2))] [])) _
      refine XT.lload X25.here hx rfl (hb hby at_159) rfl ?_
      show Steps p.tables e below (T25.setTop (mkF m 161 #[.val (.long q1), .second, .val (.int p2), .val (.int ((p2 &&& (127 : Int32)) + (1 : Int32))), .val (.long (f1 q1 ((p2 &&& (127 : Int32)) + (1 : Int32)))), .second, .val (.int (f0_7 q1 p2))] [(.long (f1 q1 ((p2 &&& (127 : Int32)) + (1 : Int32))))])) _
      refine XT.lload X25.here hx rfl (hb hby at_161) rfl ?_
      show Steps p.tables e below (T25.setTop (mkF m 163 #[.val (.long q1), .second, .val (.int p2), .val (.int ((p2 &&& (127 : Int32)) + (1 : Int32))), .val (.long (f1 q1 ((p2 &&& (127 : Int32)) + (1 : Int32)))), .second, .val (.int (f0_7 q1 p2))] [(.long (f1 q1 ((p2 &&& (127 : Int32)) + (1 : Int32)))), (.long (f1 q1 ((p2 &&& (127 : Int32)) + (1 : Int32))))])) _
      refine XT.lneg X25.here hx rfl (hb hby at_163) rfl ?_
      show Steps p.tables e below (T25.setTop (mkF m 164 #[.val (.long q1), .second, .val (.int p2), .val (.int ((p2 &&& (127 : Int32)) + (1 : Int32))), .val (.long (f1 q1 ((p2 &&& (127 : Int32)) + (1 : Int32)))), .second, .val (.int (f0_7 q1 p2))] [(.long (-(f1 q1 ((p2 &&& (127 : Int32)) + (1 : Int32))))), (.long (f1 q1 ((p2 &&& (127 : Int32)) + (1 : Int32))))])) _
      refine XT.land X25.here hx rfl (hb hby at_164) rfl ?_
      show Steps p.tables e below (T25.setTop (mkF m 165 #[.val (.long q1), .second, .val (.int p2), .val (.int ((p2 &&& (127 : Int32)) + (1 : Int32))), .val (.long (f1 q1 ((p2 &&& (127 : Int32)) + (1 : Int32)))), .second, .val (.int (f0_7 q1 p2))] [(.long (f0_9 q1 p2))])) _
      refine X25.ldc2Long hx hown (mvT hZ (hw _ (List.mem_of_getElem? (i := 12) rfl))) (g := (mkF m 165 #[.val (.long q1), .second, .val (.int p2), .val (.int ((p2 &&& (127 : Int32)) + (1 : Int32))), .val (.long (f1 q1 ((p2 &&& (127 : Int32)) + (1 : Int32)))), .second, .val (.int (f0_7 q1 p2))] [(.long (f0_9 q1 p2))])) rfl (hb hby at_165) _ ?_
      show Steps p.tables e below (T25.setTop (mkF m 168 #[.val (.long q1), .second, .val (.int p2), .val (.int ((p2 &&& (127 : Int32)) + (1 : Int32))), .val (.long (f1 q1 ((p2 &&& (127 : Int32)) + (1 : Int32)))), .second, .val (.int (f0_7 q1 p2))] [(.long (128 : Int64)), (.long (f0_9 q1 p2))])) _
      refine XS.bipush X25.here hx rfl (hb hby at_168) ?_
      show Steps p.tables e below (T25.setTop (mkF m 170 #[.val (.long q1), .second, .val (.int p2), .val (.int ((p2 &&& (127 : Int32)) + (1 : Int32))), .val (.long (f1 q1 ((p2 &&& (127 : Int32)) + (1 : Int32)))), .second, .val (.int (f0_7 q1 p2))] [(.int (8 : Int32)), (.long (128 : Int64)), (.long (f0_9 q1 p2))])) _
      refine XS.iload X25.here hx rfl (hb hby at_170) rfl ?_
      show Steps p.tables e below (T25.setTop (mkF m 172 #[.val (.long q1), .second, .val (.int p2), .val (.int ((p2 &&& (127 : Int32)) + (1 : Int32))), .val (.long (f1 q1 ((p2 &&& (127 : Int32)) + (1 : Int32)))), .second, .val (.int (f0_7 q1 p2))] [(.int (f0_7 q1 p2)), (.int (8 : Int32)), (.long (128 : Int64)), (.long (f0_9 q1 p2))])) _
      refine XS.imul X25.here hx rfl (hb hby at_172) rfl ?_
      show Steps p.tables e below (T25.setTop (mkF m 173 #[.val (.long q1), .second, .val (.int p2), .val (.int ((p2 &&& (127 : Int32)) + (1 : Int32))), .val (.long (f1 q1 ((p2 &&& (127 : Int32)) + (1 : Int32)))), .second, .val (.int (f0_7 q1 p2))] [(.int ((8 : Int32) * (f0_7 q1 p2))), (.long (128 : Int64)), (.long (f0_9 q1 p2))])) _
      refine XT.lshl X25.here hx rfl (hb hby at_173) rfl ?_
      show Steps p.tables e below (T25.setTop (mkF m 174 #[.val (.long q1), .second, .val (.int p2), .val (.int ((p2 &&& (127 : Int32)) + (1 : Int32))), .val (.long (f1 q1 ((p2 &&& (127 : Int32)) + (1 : Int32)))), .second, .val (.int (f0_7 q1 p2))] [(.long (f0_10 q1 p2)), (.long (f0_9 q1 p2))])) _
      refine XT.lcmp X25.here hx rfl (hb hby at_174) rfl ?_
      show Steps p.tables e below (T25.setTop (mkF m 175 #[.val (.long q1), .second, .val (.int p2), .val (.int ((p2 &&& (127 : Int32)) + (1 : Int32))), .val (.long (f1 q1 ((p2 &&& (127 : Int32)) + (1 : Int32)))), .second, .val (.int (f0_7 q1 p2))] [(.int (XT.cmpL (f0_9 q1 p2) (f0_10 q1 p2)))])) _
      refine st30 _ ?_
      show Steps p.tables e below (T25.setTop (mkF m 183 #[.val (.long q1), .second, .val (.int p2), .val (.int ((p2 &&& (127 : Int32)) + (1 : Int32))), .val (.long (f1 q1 ((p2 &&& (127 : Int32)) + (1 : Int32)))), .second, .val (.int (f0_7 q1 p2))] [(.int (f0_11 q1 p2))])) _
      exact retN X25 hx (t := .boolean) Bd.returns (by simp) (hb hby at_183) hr
    · show Q0 Z q1 p2 h0 n0 _ T25.heap _
      rw [e25]
      exact ⟨congrArg (fun z => some (Value.int z)) ((show f0 q1 p2 = ((f0_11 q1 p2) &&& 1) from by simp only [f0, if_neg h26]).symm.trans (own_law q1 p2)), N25⟩
set_option maxRecDepth 65536 in
set_option maxHeartbeats 40000000 in
theorem comes_1 {Post : Tables → Env → Array Value → State → Outcome → State → Prop} (hpost : ∀ tb e args s v u, (limb_1_1.after args s (.returned v) u = true ∧ limb_1_2.after args s (.returned v) u = true ∧ True) → FrameEnd s (.returned v) u (Jvm.fieldLocs frame_1_writes args s ++ Jvm.arrayLocs frame_1_arrays args s ++ Jvm.staticLocs frame_1_statics s) 0 0 → Post tb e args s (.returned v) u) :
    ArmFor flags0 classFile x code maxLocals ret World_1 tables_1 room_1 Calls_1 rest_1 Pre_1 Post := by
  intro l hfl _ _ p e ha hc hk s m args below hf hA hF happ hP
  obtain ⟨hcalls, hrest, hpre⟩ := hP
  obtain ⟨-, -, -, hnamed, -, -, -, hat⟩ := (Spec.applies_iff hf).mp happ
  obtain ⟨hg, hn⟩ := and_e (Cond.before_iff.mp (show (Jvm.Cond.and given_1 narrow_1).before args s = true from hpre))
  obtain ⟨hcnt, hg0⟩ := and_e hg
  obtain ⟨hi0, hg1⟩ := and_e hg0
  obtain ⟨w0, w1, rfl⟩ : ∃ w0 w1 : Value, args = #[w0, w1] := by
    have hs : args.size = 2 := by simpa [Cond.value, given_1] using hcnt
    obtain ⟨L⟩ := args
    match L, hs with
    | [w0, w1], _ => exact ⟨w0, w1, rfl⟩
  have hw := fun d (hd : d ∈ tables_1) => atoms_spec (ws := Jvm.Cond.code x code maxLocals ret :: tables_1) hat d (List.mem_cons_of_mem _ hd)
  have hfit : Fit s := fun {y c} hc i hi => by
    obtain ⟨ha, rfl⟩ := Array.getElem?_eq_some_iff.mp hc
    have q := List.all_eq_true.mp ((Array.all_eq_true_iff_forall_mem.mp hF) _ (Array.getElem_mem ha)) i (List.mem_range.mpr hi)
    simpa [Array.getElem?_eq_getElem hi] using q
  obtain ⟨i0, ei0⟩ := isL_v hi0
  obtain rfl : w0 = (.long i0) := Option.some.inj ei0
  obtain ⟨i1, ei1⟩ := is_v hg1
  obtain rfl : w1 = (.int i1) := Option.some.inj ei1
  obtain ⟨n, o, h1, h2, h3, _, L, rfl, ⟨rfl, N⟩, hq⟩ := rm0 l s _ hw tables_1 i0 i1 s.heap s.heap.size (Nat.le_refl _) p e ha hc hk s m _ below hf ((Spec.applies_iff_loose hf).mp happ).1 ⟨rfl, State.Warmed39.refl s, rfl⟩ trivial
  refine ⟨n, _, h1, h2, h3, hpost _ _ _ _ _ _ ⟨Cond.after_iff.mpr rfl, Cond.after_iff.mpr (eq_i res_at (Term.int_eval (1)) rfl), trivial⟩ ⟨hq.1, hq.2.1, (hq.2.2.sift fun y hy => Or.inr (N y hy)).mono (by decide) (by decide)⟩⟩
theorem main_1_1 : Claimed_1_1 := comes_1 fun _ _ _ _ _ _ h hF => ⟨h.1, hF⟩
theorem main_1_2 : Claimed_1_2 := comes_1 fun _ _ _ _ _ _ h hF => ⟨h.2.1, hF⟩
end Jvm.Pilot.@@N@@
namespace Jvm.Pilot.@@N@@
open Jvm Jvm.ClassFile Sem Op Lib Jvm.Free Jvm.Stand Jvm.Pilot.@@N@@.Jvm.D
/-! MADE BY PROGRAM (witnessworld.py) out of the Statement's table words and the real class files: 9 classes; the members and pool entries that the words name. The judged class is class 1, her method 2. -/
namespace start1
open Jvm.ClassFile
def u (s : String) : CpInfo := .utf8 (stringToUtf16 s)
/-- a pool by its gaps: so many unusable entries, then the entry; so many at the end -/
def gap : Nat → List CpInfo → List CpInfo
  | 0, r => r
  | n + 1, r => .unusable :: gap n r
def poolList (es : List (Nat × CpInfo)) (last : Nat) : List CpInfo := es.foldr (fun e r => gap e.1 (e.2 :: r)) (gap last [])
def pool (es : List (Nat × CpInfo)) (last : Nat) : Array CpInfo := ⟨poolList es last⟩
def fileOf (pool : Array CpInfo) (this : Nat) (attrs : Array Attribute := #[]) (ms : Array MethodInfo := #[]) (fl : Nat := 33) (sup : Nat := 0) (ifs : Array Nat := #[]) (fds : Array FieldInfo := #[]) : ClassFile where
  minorVersion := 0
  majorVersion := 65
  constantPool := pool
  accessFlags := fl
  thisClass := this
  superClass := sup
  interfaces := ifs
  fields := fds
  methods := ms
  attributes := attrs
def plain (name : String) (sup : Option ClassId) : Class where
  name := name
  kind := .ordinary
  loader := none
  accessFlags := 33
  super := sup
  interfaces := #[]
  cf := none
  fields := #[]
  methods := #[]
  instanceTypes := #[]
  staticTypes := #[]
  resolved := #[]
  callSites := []
  init := .initialized
  statics := none
  mirror := none

def pool0 : Array CpInfo := pool [(5, u "<init>"), (0, u "()V"), (1, .class_ 10), (1, u "java/lang/Object")] 113

def k0m0 : Method := { name := "<init>", desc := "()V", sig := { parameters := [], returnType := none }, accessFlags := 1, code := none }
/-- java/lang/Object -/
def k0 : Class := { plain "java/lang/Object" none with
  accessFlags := 33
  interfaces := #[]
  cf := some (fileOf pool0 8 #[] #[{ accessFlags := 1, nameIndex := 5, descriptorIndex := 6, attributes := #[] }] 33 0 #[] #[])
  fields := #[]
  methods := #[k0m0]
  instanceTypes := #[]
  staticTypes := #[]
  resolved := Array.replicate 124 none
  statics := none }

def pool1 : Array CpInfo := pool [(2, .class_ 4), (1, u "java/lang/Object"), (0, u "<init>"), (0, u "()V"), (0, .long 255), (1, .methodref 10 11), (0, .class_ 12), (0, .nameAndType 13 14), (0, u "com/example/apportion/apportion/Words"), (0, u "below"), (0, u "(JI)J"), (0, .methodref 16 17), (0, .class_ 18), (0, .nameAndType 19 20), (0, u "com/example/apportion/apportion/WordsBelowPinLaw"), (0, u "lt"), (0, u "(JII)Z"), (0, .long 128), (4, u "law"), (0, u "(JI)Z")] 2

def k1m0 : Method := { name := "<init>", desc := "()V", sig := { parameters := [], returnType := none }, accessFlags := 2, code := none }
def k1c1 : Code := { maxStack := 4, maxLocals := 4, code := method_2_code, exceptionTable := #[], attributes := #[] }
def k1m1 : Method := { name := "lt", desc := "(JII)Z", sig := { parameters := [.long, .int, .int], returnType := some .boolean }, accessFlags := 10, code := some k1c1 }
def k1c2 : Code := { maxStack := 6, maxLocals := 7, code := code, exceptionTable := #[], attributes := #[] }
def k1m2 : Method := { name := "law", desc := "(JI)Z", sig := { parameters := [.long, .int], returnType := some .boolean }, accessFlags := 9, code := some k1c2 }
/-- com/example/apportion/apportion/WordsBelowPinLaw -/
def k1 : Class := { plain "com/example/apportion/apportion/WordsBelowPinLaw" (some 0) with
  accessFlags := 49
  interfaces := #[]
  cf := some (fileOf pool1 16 #[] #[{ accessFlags := 2, nameIndex := 5, descriptorIndex := 6, attributes := #[] }, { accessFlags := 10, nameIndex := 19, descriptorIndex := 20, attributes := #[] }, { accessFlags := 9, nameIndex := 26, descriptorIndex := 27, attributes := #[] }] 49 2 #[] #[])
  fields := #[]
  methods := #[k1m0, k1m1, k1m2]
  instanceTypes := #[]
  staticTypes := #[]
  resolved := Array.replicate 30 none
  statics := none }

def pool2 : Array CpInfo := pool [(2, .class_ 4), (1, u "java/lang/Object"), (0, u "<init>"), (0, u "()V"), (1, .class_ 10), (1, u "com/example/apportion/apportion/Words"), (0, u "LONGS"), (0, u "Ljava/lang/invoke/VarHandle;"), (6, .long 72340172838076673), (3, u "below"), (0, u "(JI)J"), (0, .long 18446744073709551615), (1, .long 9259542123273814144), (23, u "ONES"), (0, u "J"), (1, u "TOPS")] 11

def k2m0 : Method := { name := "<init>", desc := "()V", sig := { parameters := [], returnType := none }, accessFlags := 2, code := none }
def k2c1 : Code := { maxStack := 6, maxLocals := 3, code := prog_19_method_4_code, exceptionTable := #[], attributes := #[] }
def k2m1 : Method := { name := "below", desc := "(JI)J", sig := { parameters := [.long, .int], returnType := some .long }, accessFlags := 8, code := some k2c1 }
/-- com/example/apportion/apportion/Words -/
def k2 : Class := { plain "com/example/apportion/apportion/Words" (some 0) with
  accessFlags := 48
  interfaces := #[]
  cf := some (fileOf pool2 8 #[] #[{ accessFlags := 2, nameIndex := 5, descriptorIndex := 6, attributes := #[] }, { accessFlags := 8, nameIndex := 23, descriptorIndex := 24, attributes := #[] }] 48 2 #[] #[{ accessFlags := 26, nameIndex := 11, descriptorIndex := 12, attributes := #[] }, { accessFlags := 26, nameIndex := 51, descriptorIndex := 52, attributes := #[] }, { accessFlags := 26, nameIndex := 54, descriptorIndex := 52, attributes := #[] }])
  fields := #[{ name := "LONGS", type := (.object "java/lang/invoke/VarHandle"), accessFlags := 26, slot := 0, constantValue := 0 }, { name := "ONES", type := .long, accessFlags := 26, slot := 1, constantValue := 0 }, { name := "TOPS", type := .long, accessFlags := 26, slot := 2, constantValue := 0 }]
  methods := #[k2m0, k2m1]
  instanceTypes := #[]
  staticTypes := #[(.object "java/lang/invoke/VarHandle"), .long, .long]
  resolved := Array.replicate 66 none
  statics := none }

def pool3 : Array CpInfo := pool [(1, u "java/lang/Cloneable"), (0, .class_ 1), (0, u "java/lang/Object"), (0, .class_ 3)] 3

/-- java/lang/Cloneable -/
def k3 : Class := { plain "java/lang/Cloneable" (some 0) with
  accessFlags := 1537
  interfaces := #[]
  cf := some (fileOf pool3 2 #[] #[] 1537 4 #[] #[])
  fields := #[]
  methods := #[]
  instanceTypes := #[]
  staticTypes := #[]
  resolved := Array.replicate 8 none
  statics := none }

def pool4 : Array CpInfo := pool [(1, u "java/io/Serializable"), (0, .class_ 1), (0, u "java/lang/Object"), (0, .class_ 3)] 3

/-- java/io/Serializable -/
def k4 : Class := { plain "java/io/Serializable" (some 0) with
  accessFlags := 1537
  interfaces := #[]
  cf := some (fileOf pool4 2 #[] #[] 1537 4 #[] #[])
  fields := #[]
  methods := #[]
  instanceTypes := #[]
  staticTypes := #[]
  resolved := Array.replicate 8 none
  statics := none }

/-- the primitive byte -/
def k5 : Class := { plain "byte" none with kind := .primitive 'B', accessFlags := 0x411 }
/-- [B -/
def k6 : Class := { plain "[B" (some 0) with kind := .array 5 .byte, interfaces := #[3, 4], accessFlags := 1041 }

/-- the primitive int -/
def k7 : Class := { plain "int" none with kind := .primitive 'I', accessFlags := 0x411 }
/-- [I -/
def k8 : Class := { plain "[I" (some 0) with kind := .array 7 .int, interfaces := #[3, 4], accessFlags := 1041 }

def heap : Heap := #[]
def classes : Array Class := #[k0, k1, k2, k3, k4, k5, k6, k7, k8]
def interned : List (Array UInt16 × Addr) := []
def slotsUsed : Nat := 0
def theMethod : MethodId := ⟨1, 2⟩
def args0 : Array Value := #[.long 5, .int 7]
def aboutOver (below : List Frame) : State where
  vm := { classes := classes, interned := interned.toArray }
  heap := heap
  slotsUsed := slotsUsed
  threads := #[{ frames := .invoking theMethod args0 :: below }]
def below0 : List Frame := [.native { method := ⟨0, 0⟩, args := #[] }]
def about1 : State := aboutOver below0
def p0 : Program := .bare "" "" ""
def e0 : Env := launch0.env 0 0 0
theorem w_frames : about1.frames = Frame.invoking theMethod args0 :: below0 := rfl
set_option maxRecDepth 65536 in
theorem w_args : argsFit about1.vm theMethod args0 = true := by decide +kernel
set_option maxRecDepth 65536 in
theorem w_heap : heapFits about1 = true := by decide +kernel
set_option maxRecDepth 65536 in
theorem w_runnable : about1.curStatus? = some .runnable := by decide +kernel
set_option maxRecDepth 65536 in
theorem w_alone : about1.alone = true := by decide +kernel
set_option maxRecDepth 65536 in
theorem w_named : about1.methodNamed? x = some theMethod := by decide +kernel
set_option maxRecDepth 65536 in
theorem w_hears : about1.hears theMethod below0 = true := by decide +kernel
set_option maxRecDepth 65536 in
theorem w_ripe : about1.ripe theMethod args0 below0 = true := by decide +kernel
theorem w_running : about1.status = .running := rfl
set_option maxRecDepth 65536 in
theorem w_room : about1.hasRoom e0.platform room_1 = true :=
  launch0.hasRoom_least _ room_1 (by decide +kernel) (by decide +kernel) (by decide +kernel) (by decide +kernel) (by decide +kernel) (by decide +kernel)
theorem allAtoms_all (ts : List Jvm.Cond) (a : Array Jvm.Value) (st : Jvm.State) : (allAtoms ts).before a st = ts.all (fun c => c.before a st) := by
  induction ts with
  | nil => rfl
  | cons c t ih =>
    show (Jvm.Cond.and c (allAtoms t)).before a st = _
    rw [Jvm.Cond.before_and, ih, List.all_cons]
def words1 : List Jvm.Cond := Jvm.Cond.code x code maxLocals ret :: tables_1
/-- a 'code' word, met by the world's own term for the bytes: nothing is compared byte by byte -/
theorem code_word {y : MethodName} {bytes : ByteArray} {mx : Nat} {rt : Option FieldType} {a : Array Value} {s : State} {m : MethodId} {meth : Method} {c : Code} (h1 : s.methodNamed? y = some m) (h2 : s.vm.method? m = some meth) (h3 : meth.code = some c) (h4 : c.code = bytes)
    (h5 : (c.maxLocals == mx && c.exceptionTable.isEmpty && decide (c.maxStack ≤ mostOperands) && decide (meth.sig.returnType = rt) && !meth.locks && decide (parseMethodDescriptor y.desc = some meth.sig)) = true) : (Jvm.Cond.code y bytes mx rt).before a s = true := by
  simp only [Bool.and_eq_true, beq_iff_eq, Bool.not_eq_true', decide_eq_true_eq] at h5
  obtain ⟨⟨⟨⟨⟨g1, g2⟩, g3⟩, g4⟩, g5⟩, g6⟩ := h5
  simp [Cond.before, Cond.holds, Cond.value, h1, h2, h3, h4, g1, g2, g3, g4, g5, g6]
def isCode : Jvm.Cond → Bool
  | .code _ _ _ _ => true
  | _ => false
theorem all_split {L : List Jvm.Cond} {P : Jvm.Cond → Bool} (h1 : L.all (fun c => isCode c || P c) = true) (h2 : ∀ c ∈ L.filter isCode, P c = true) : L.all P = true := by
  refine List.all_eq_true.mpr fun c hc => ?_
  have h := List.all_eq_true.mp h1 c hc
  rcases Bool.eq_false_or_eq_true (isCode c) with hi | hi
  · exact h2 c (List.mem_filter.mpr ⟨hc, hi⟩)
  · simpa [hi] using h
set_option maxRecDepth 65536 in
theorem w_c0 : (Jvm.Cond.code x code maxLocals ret).before args0 about1 = true := code_word (m := ⟨1, 2⟩) (meth := k1m2) (c := k1c2) (by decide +kernel) rfl rfl rfl (by decide +kernel)
set_option maxRecDepth 65536 in
theorem w_c1 : (Jvm.Cond.code ({ cls := "com/example/apportion/apportion/Words", name := "below", desc := "(JI)J" } : Jvm.MethodName) prog_19_method_4_code (3 : Nat) (Option.some Jvm.ClassFile.FieldType.long)).before args0 about1 = true := code_word (m := ⟨2, 1⟩) (meth := k2m1) (c := k2c1) (by decide +kernel) rfl rfl rfl (by decide +kernel)
set_option maxRecDepth 65536 in
theorem w_c2 : (Jvm.Cond.code ({ cls := "com/example/apportion/apportion/WordsBelowPinLaw", name := "lt", desc := "(JII)Z" } : Jvm.MethodName) method_2_code (4 : Nat) (Option.some Jvm.ClassFile.FieldType.boolean)).before args0 about1 = true := code_word (m := ⟨1, 1⟩) (meth := k1m1) (c := k1c1) (by decide +kernel) rfl rfl rfl (by decide +kernel)
def codes1 : List Jvm.Cond := [Jvm.Cond.code x code maxLocals ret, Jvm.Cond.code ({ cls := "com/example/apportion/apportion/Words", name := "below", desc := "(JI)J" } : Jvm.MethodName) prog_19_method_4_code (3 : Nat) (Option.some Jvm.ClassFile.FieldType.long), Jvm.Cond.code ({ cls := "com/example/apportion/apportion/WordsBelowPinLaw", name := "lt", desc := "(JII)Z" } : Jvm.MethodName) method_2_code (4 : Nat) (Option.some Jvm.ClassFile.FieldType.boolean)]
set_option maxRecDepth 65536 in
theorem codes_eq : words1.filter isCode = codes1 := rfl
theorem w_codes : ∀ c ∈ words1.filter isCode, c.before args0 about1 = true := by
  rw [codes_eq]
  intro c hc
  simp only [codes1, List.mem_cons, List.not_mem_nil, or_false] at hc
  rcases hc with rfl | rfl | rfl
  · exact w_c0
  · exact w_c1
  · exact w_c2
set_option maxRecDepth 65536 in
theorem w_t1 : words1.all (fun c => isCode c || c.before args0 about1) = true := by decide +kernel
theorem w_tables : (allAtoms (Jvm.Cond.code x code maxLocals ret :: tables_1)).before args0 about1 = true := by
  rw [allAtoms_all]
  show words1.all (fun c => c.before args0 about1) = true
  refine all_split ?_ w_codes
  rw [w_t1]
set_option maxRecDepth 65536 in
theorem w_case : (Jvm.Cond.and given_1 narrow_1).before args0 about1 = true := by decide +kernel
theorem w_applies : (headSpec (Jvm.Cond.code x code maxLocals ret :: tables_1) room_1).applies x e0.platform about1 = true :=
  (Spec.applies_iff w_frames).mpr ⟨w_running, w_runnable, w_alone, w_named, w_hears, w_ripe, w_room, w_tables⟩
theorem atStart : AtStart classFile x code maxLocals ret World_1 tables_1 room_1 Calls_1 rest_1 Pre_1 launch0 p0 e0 about1 theMethod args0 below0 :=
  ⟨lists_1, trivial, launch0.admits_env _ _ _, launch0.least_env, fairChoices_fair.cas, fairChoices_fair.clock, w_frames, w_args, w_heap, w_applies, trivial, trivial, w_case⟩
end start1
theorem witness_1 : WitnessClaimed_1 := ⟨start1.p0, start1.e0, start1.about1, start1.theMethod, start1.args0, start1.below0, start1.atStart⟩
end Jvm.Pilot.@@N@@
