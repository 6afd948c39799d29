import JvmDerived
import JvmDerived.Pilot.@@N@@Statement
import JvmDerived.Pilot.@@N@@Code
set_option linter.unusedVariables false
set_option linter.unusedSimpArgs false
namespace Jvm.RoadKit
open Sem ClassFile Op Lib Jvm.Stand Jvm.Free Jvm.LawKit
section New
variable {p : Program} {l : Launch} {e : Env} {R : Room} {s : State} {m : MethodId} {args : Array Value} {below : List Frame} {meth : Method} {c : Code} {T : State} {locs : List Loc} {cells slots : Nat}
theorem retI (X : Stand p l e R s m args below meth c T locs cells slots) (hx : p.tables.exec = Jvm.exec) {pc : Nat} {Ls : Array Slot} {z : Int32} {rest : List Value} (hret : meth.sig.returnType = some .int) (hd : decode c.code pc = .ok (.ireturn, 1)) {fs : List Frame}
    (hl : ∀ (f : JFrame) (acts : List Action), f.method = m → f.locked = none → f.entered = [] → (doReturn e (T.setTop f) acts (some (.int z))).1 = T.setFrames fs) : Steps p.tables e below (T.setTop (mkF m pc Ls (.int z :: rest))) (T.setFrames fs) := by
  have hm' : T.vm.method? m = some meth := X.method'
  have hn : narrow .int (.int z) = .int z := rfl
  show Steps p.tables e below (T.setTop { method := m, pc := pc, locals := Ls, stack := _ :: rest, locked := none }) _
  jvm_step X.here [X.here.top, hx, hd, hm', hret, hn]
  first | (intro acts; rw [hl _ acts rfl rfl rfl]) | rw [hl _ _ rfl rfl rfl]
  exact Steps.refl _
end New
end Jvm.RoadKit
namespace Jvm.Pilot.@@N@@
open Jvm Jvm.ClassFile Sem Op Lib Jvm.Free Jvm.Stand Jvm.LawKit Jvm.RoadKit Bundle Jvm.Pilot.@@N@@.Jvm.D
def own_len3 (n : Int32) : Prop := n = 0 ∨ n = 1 ∨ n = 2
theorem own_l2 {n : Int32} (h : own_len3 n) : ¬ ((2 : Int32) < n) := by rcases h with rfl | rfl | rfl <;> decide
theorem own_c2 {n : Int32} (h : own_len3 n) : n.toNatClampNeg ≤ 2 := by rcases h with rfl | rfl | rfl <;> decide
def f1 (p1 : Int32) (p2 : Int32) : Int32 := (if p2 < p1 then p2 else p1)
def f2 (q1 : Int64) (q2 : Int64) : Int64 := (if q2 < q1 then q2 else q1)
def f3_x0 (p1 : Int32) (q2 : Int64) (q3 : Int64) : Int32 := (if p1 = (0 : Int32) then (0 : Int32) else (if p1 = (1 : Int32) then (1 : Int32) else (2 : Int32)))
def f3_x1 (p1 : Int32) (q2 : Int64) (q3 : Int64) : Int64 := (if p1 = (0 : Int32) then (0 : Int64) else q2)
def f3_x2 (p1 : Int32) (q2 : Int64) (q3 : Int64) : Int64 := (if p1 = (0 : Int32) then (0 : Int64) else (if p1 = (1 : Int32) then (0 : Int64) else q3))
def f6_0 (n1 : Int32) (n2 : Int32) (d1 : Int64) (l1 : Int64) (d2 : Int64) (l2 : Int64) (x0 : Int64) (x1 : Int64) (y0 : Int64) (y1 : Int64) : Int32 := (if d1 < d2 then (0 : Int32) else (if l1 < l2 then (0 : Int32) else (1 : Int32)))
def f6_1 (n1 : Int32) (n2 : Int32) (d1 : Int64) (l1 : Int64) (d2 : Int64) (l2 : Int64) (x0 : Int64) (x1 : Int64) (y0 : Int64) (y1 : Int64) : Int32 := (if n1 = n2 then (f6_0 n1 n2 d1 l1 d2 l2 x0 x1 y0 y1) else (0 : Int32))
def f6_2 (n1 : Int32) (n2 : Int32) (d1 : Int64) (l1 : Int64) (d2 : Int64) (l2 : Int64) (x0 : Int64) (x1 : Int64) (y0 : Int64) (y1 : Int64) : Int32 := (if (1 : Int32) < n1 then (if x1 < y1 then (0 : Int32) else (1 : Int32)) else (if x0 < y0 then (0 : Int32) else (1 : Int32)))
def f6_3 (n1 : Int32) (n2 : Int32) (d1 : Int64) (l1 : Int64) (d2 : Int64) (l2 : Int64) (x0 : Int64) (x1 : Int64) (y0 : Int64) (y1 : Int64) : Int32 := (if (if x0 < y0 then (0 : Int32) else (1 : Int32)) = (0 : Int32) then (if x0 < y0 then (0 : Int32) else (1 : Int32)) else (f6_2 n1 n2 d1 l1 d2 l2 x0 x1 y0 y1))
def f6_4 (n1 : Int32) (n2 : Int32) (d1 : Int64) (l1 : Int64) (d2 : Int64) (l2 : Int64) (x0 : Int64) (x1 : Int64) (y0 : Int64) (y1 : Int64) : Int32 := (if (if x0 < y0 then (0 : Int32) else (1 : Int32)) = (0 : Int32) then (1 : Int32) else (if (1 : Int32) < n1 then (2 : Int32) else (1 : Int32)))
def f6_5 (n1 : Int32) (n2 : Int32) (d1 : Int64) (l1 : Int64) (d2 : Int64) (l2 : Int64) (x0 : Int64) (x1 : Int64) (y0 : Int64) (y1 : Int64) : Int32 := (if (0 : Int32) < n1 then (f6_3 n1 n2 d1 l1 d2 l2 x0 x1 y0 y1) else (f6_1 n1 n2 d1 l1 d2 l2 x0 x1 y0 y1))
def f6_6 (n1 : Int32) (n2 : Int32) (d1 : Int64) (l1 : Int64) (d2 : Int64) (l2 : Int64) (x0 : Int64) (x1 : Int64) (y0 : Int64) (y1 : Int64) : Int32 := (if (0 : Int32) < n1 then (f6_4 n1 n2 d1 l1 d2 l2 x0 x1 y0 y1) else (0 : Int32))
def f6_7 (n1 : Int32) (n2 : Int32) (d1 : Int64) (l1 : Int64) (d2 : Int64) (l2 : Int64) (x0 : Int64) (x1 : Int64) (y0 : Int64) (y1 : Int64) : Int32 := (if (f6_1 n1 n2 d1 l1 d2 l2 x0 x1 y0 y1) = (0 : Int32) then (f6_1 n1 n2 d1 l1 d2 l2 x0 x1 y0 y1) else (f6_5 n1 n2 d1 l1 d2 l2 x0 x1 y0 y1))
def f6_8 (n1 : Int32) (n2 : Int32) (d1 : Int64) (l1 : Int64) (d2 : Int64) (l2 : Int64) (x0 : Int64) (x1 : Int64) (y0 : Int64) (y1 : Int64) : Int32 := (if (f6_1 n1 n2 d1 l1 d2 l2 x0 x1 y0 y1) = (0 : Int32) then (0 : Int32) else (f6_6 n1 n2 d1 l1 d2 l2 x0 x1 y0 y1))
def f6 (n1 : Int32) (n2 : Int32) (d1 : Int64) (l1 : Int64) (d2 : Int64) (l2 : Int64) (x0 : Int64) (x1 : Int64) (y0 : Int64) (y1 : Int64) : Int32 := ((f6_7 n1 n2 d1 l1 d2 l2 x0 x1 y0 y1) &&& 1)
def f0_0 (q1 : Int64) (q2 : Int64) (q3 : Int64) (q4 : Int64) (q5 : Int64) (p6 : Int32) : Int64 := (f2 (q5 &&& (65535 : Int64)) (q1 &&& (9223372036854775807 : Int64)))
def f0_1 (q1 : Int64) (q2 : Int64) (q3 : Int64) (q4 : Int64) (q5 : Int64) (p6 : Int32) : Int64 := (f2 ((XT.ushrL q5 (16 : Int32)) &&& (65535 : Int64)) (q1 &&& (9223372036854775807 : Int64)))
def f0_2 (q1 : Int64) (q2 : Int64) (q3 : Int64) (q4 : Int64) (q5 : Int64) (p6 : Int32) : Int64 := (f2 ((XT.ushrL q5 (32 : Int32)) &&& (65535 : Int64)) (q2 &&& (9223372036854775807 : Int64)))
def f0_3 (q1 : Int64) (q2 : Int64) (q3 : Int64) (q4 : Int64) (q5 : Int64) (p6 : Int32) : Int64 := (f2 ((XT.ushrL q5 (48 : Int32)) &&& (65535 : Int64)) (q2 &&& (9223372036854775807 : Int64)))
def f0_4 (q1 : Int64) (q2 : Int64) (q3 : Int64) (q4 : Int64) (q5 : Int64) (p6 : Int32) : Int32 := (f3_x0 (f1 (p6 &&& (3 : Int32)) (2 : Int32)) (f0_0 q1 q2 q3 q4 q5 p6) (f0_1 q1 q2 q3 q4 q5 p6))
def f0_5 (q1 : Int64) (q2 : Int64) (q3 : Int64) (q4 : Int64) (q5 : Int64) (p6 : Int32) : Int64 := (f3_x1 (f1 (p6 &&& (3 : Int32)) (2 : Int32)) (f0_0 q1 q2 q3 q4 q5 p6) (f0_1 q1 q2 q3 q4 q5 p6))
def f0_6 (q1 : Int64) (q2 : Int64) (q3 : Int64) (q4 : Int64) (q5 : Int64) (p6 : Int32) : Int64 := (f3_x2 (f1 (p6 &&& (3 : Int32)) (2 : Int32)) (f0_0 q1 q2 q3 q4 q5 p6) (f0_1 q1 q2 q3 q4 q5 p6))
def f0_7 (q1 : Int64) (q2 : Int64) (q3 : Int64) (q4 : Int64) (q5 : Int64) (p6 : Int32) : Int32 := (f3_x0 (f1 ((XT.ushr p6 (2 : Int32)) &&& (3 : Int32)) (2 : Int32)) (f0_2 q1 q2 q3 q4 q5 p6) (f0_3 q1 q2 q3 q4 q5 p6))
def f0_8 (q1 : Int64) (q2 : Int64) (q3 : Int64) (q4 : Int64) (q5 : Int64) (p6 : Int32) : Int64 := (f3_x1 (f1 ((XT.ushr p6 (2 : Int32)) &&& (3 : Int32)) (2 : Int32)) (f0_2 q1 q2 q3 q4 q5 p6) (f0_3 q1 q2 q3 q4 q5 p6))
def f0_9 (q1 : Int64) (q2 : Int64) (q3 : Int64) (q4 : Int64) (q5 : Int64) (p6 : Int32) : Int64 := (f3_x2 (f1 ((XT.ushr p6 (2 : Int32)) &&& (3 : Int32)) (2 : Int32)) (f0_2 q1 q2 q3 q4 q5 p6) (f0_3 q1 q2 q3 q4 q5 p6))
def f0_10 (q1 : Int64) (q2 : Int64) (q3 : Int64) (q4 : Int64) (q5 : Int64) (p6 : Int32) : Int32 := (if (f0_1 q1 q2 q3 q4 q5 p6) < (f0_3 q1 q2 q3 q4 q5 p6) then (0 : Int32) else (1 : Int32))
def f0_11 (q1 : Int64) (q2 : Int64) (q3 : Int64) (q4 : Int64) (q5 : Int64) (p6 : Int32) : Int32 := (if (f1 (p6 &&& (3 : Int32)) (2 : Int32)) < (2 : Int32) then (1 : Int32) else (f0_10 q1 q2 q3 q4 q5 p6))
def f0_12 (q1 : Int64) (q2 : Int64) (q3 : Int64) (q4 : Int64) (q5 : Int64) (p6 : Int32) : Int32 := (if (f0_0 q1 q2 q3 q4 q5 p6) < (f0_2 q1 q2 q3 q4 q5 p6) then (0 : Int32) else (f0_11 q1 q2 q3 q4 q5 p6))
def f0_13 (q1 : Int64) (q2 : Int64) (q3 : Int64) (q4 : Int64) (q5 : Int64) (p6 : Int32) : Int32 := (if (f1 (p6 &&& (3 : Int32)) (2 : Int32)) < (1 : Int32) then (f0_11 q1 q2 q3 q4 q5 p6) else (f0_12 q1 q2 q3 q4 q5 p6))
def f0_14 (q1 : Int64) (q2 : Int64) (q3 : Int64) (q4 : Int64) (q5 : Int64) (p6 : Int32) : Int32 := (if (q3 &&& (9223372036854775807 : Int64)) < (q4 &&& (9223372036854775807 : Int64)) then (0 : Int32) else (f0_13 q1 q2 q3 q4 q5 p6))
def f0_15 (q1 : Int64) (q2 : Int64) (q3 : Int64) (q4 : Int64) (q5 : Int64) (p6 : Int32) : Int32 := (if (q1 &&& (9223372036854775807 : Int64)) < (q2 &&& (9223372036854775807 : Int64)) then (0 : Int32) else (f0_14 q1 q2 q3 q4 q5 p6))
def f0_16 (q1 : Int64) (q2 : Int64) (q3 : Int64) (q4 : Int64) (q5 : Int64) (p6 : Int32) : Int32 := (if (f1 (p6 &&& (3 : Int32)) (2 : Int32)) = (f1 ((XT.ushr p6 (2 : Int32)) &&& (3 : Int32)) (2 : Int32)) then (f0_15 q1 q2 q3 q4 q5 p6) else (0 : Int32))
def f0_17 (q1 : Int64) (q2 : Int64) (q3 : Int64) (q4 : Int64) (q5 : Int64) (p6 : Int32) : Int32 := (f6 (f0_4 q1 q2 q3 q4 q5 p6) (f0_7 q1 q2 q3 q4 q5 p6) (q1 &&& (9223372036854775807 : Int64)) (q3 &&& (9223372036854775807 : Int64)) (q2 &&& (9223372036854775807 : Int64)) (q4 &&& (9223372036854775807 : Int64)) (f0_5 q1 q2 q3 q4 q5 p6) (f0_6 q1 q2 q3 q4 q5 p6) (f0_8 q1 q2 q3 q4 q5 p6) (f0_9 q1 q2 q3 q4 q5 p6))
def f0_18 (q1 : Int64) (q2 : Int64) (q3 : Int64) (q4 : Int64) (q5 : Int64) (p6 : Int32) : Int32 := (if (f0_17 q1 q2 q3 q4 q5 p6) = (f0_16 q1 q2 q3 q4 q5 p6) then (1 : Int32) else (0 : Int32))
def f0 (q1 : Int64) (q2 : Int64) (q3 : Int64) (q4 : Int64) (q5 : Int64) (p6 : Int32) : Int32 := ((f0_18 q1 q2 q3 q4 q5 p6) &&& 1)
theorem own_nml (z m : Int64) (k : Nat) (hk : k ≤ 63) (hm : m.toBitVec.toNat = 2 ^ k - 1) : ¬ (z &&& m) < 0 := by
  have h1 : (z &&& m).toBitVec.toNat = z.toBitVec.toNat % 2 ^ k := by
    show (z.toBitVec &&& m.toBitVec).toNat = _
    rw [BitVec.toNat_and, hm, Nat.and_two_pow_sub_one_eq_mod]
  have h3 : z.toBitVec.toNat % 2 ^ k < 2 ^ k := Nat.mod_lt _ (Nat.two_pow_pos k)
  have h4 : 2 ^ k ≤ 2 ^ 63 := Nat.pow_le_pow_right (by decide) hk
  have h2 : 0 ≤ (z &&& m).toInt := by
    show 0 ≤ (z &&& m).toBitVec.toInt
    rw [BitVec.toInt_eq_toNat_cond, h1, if_pos (by omega)]
    omega
  rw [Int64.lt_iff_toInt_lt, show (0 : Int64).toInt = 0 from by decide]
  omega
theorem own_nm (z : Int64) : ¬ (z &&& (9223372036854775807 : Int64)) < 0 := own_nml z _ 63 (by decide) (by decide)
theorem own_n16 (z : Int64) : ¬ (z &&& (65535 : Int64)) < 0 := own_nml z _ 16 (by decide) (by decide)
theorem own_mn {m d : Int64} (hm : ¬ m < 0) (hd : ¬ d < 0) : ¬ f2 m d < 0 ∧ ¬ d < f2 m d := by
  rw [f2]; split
  · exact ⟨hd, by rw [Int64.lt_iff_toInt_lt]; omega⟩
  · rename_i h; exact ⟨hm, h⟩
theorem own_pk3 (p : Int32) (x y : Int64) : own_len3 (f3_x0 p x y) := by
  rw [f3_x0]; split
  · exact Or.inl rfl
  · split
    · exact Or.inr (Or.inl rfl)
    · exact Or.inr (Or.inr rfl)
theorem own_pm0 {p : Int32} {x y d : Int64} (h : ¬ x < 0 ∧ ¬ d < x) : (0 : Int32) < f3_x0 p x y → ¬ f3_x1 p x y < 0 ∧ ¬ d < f3_x1 p x y := by
  intro q
  rw [f3_x0] at q; rw [f3_x1]
  by_cases c : p = 0
  · rw [if_pos c] at q; exact absurd q (by decide)
  · rw [if_neg c]; exact h
theorem own_pm1 {p : Int32} {x y d : Int64} (h : ¬ y < 0 ∧ ¬ d < y) : (1 : Int32) < f3_x0 p x y → ¬ f3_x2 p x y < 0 ∧ ¬ d < f3_x2 p x y := by
  intro q
  rw [f3_x0] at q; rw [f3_x2]
  by_cases c : p = 0
  · rw [if_pos c] at q; exact absurd q (by decide)
  · rw [if_neg c] at q ⊢
    by_cases c2 : p = 1
    · rw [if_pos c2] at q; exact absurd q (by decide)
    · rw [if_neg c2]; exact h
theorem own_n12 {n1 n2 : Int32} {d1 l1 d2 l2 x0 x1 y0 y1 : Int64} (h : ¬ (f6_1 n1 n2 d1 l1 d2 l2 x0 x1 y0 y1) = (0 : Int32)) : n1 = n2 := by
  rw [f6_1] at h
  by_cases c : n1 = n2
  · exact c
  · rw [if_neg c] at h; exact absurd rfl h
theorem own_m3 (p : Int32) : own_len3 (f1 (p &&& (3 : Int32)) (2 : Int32)) := by
  have h1 : (p &&& (3 : Int32)).toBitVec.toNat = p.toBitVec.toNat % 4 := by
    show (p.toBitVec &&& (3 : Int32).toBitVec).toNat = _
    rw [BitVec.toNat_and, show (3 : Int32).toBitVec.toNat = 2 ^ 2 - 1 from by decide, Nat.and_two_pow_sub_one_eq_mod]
  have h2 : (p &&& (3 : Int32)).toInt = (p.toBitVec.toNat % 4 : Nat) := by
    show (p &&& (3 : Int32)).toBitVec.toInt = _
    rw [BitVec.toInt_eq_toNat_cond, h1, if_pos (by omega)]
  have h3 : p.toBitVec.toNat % 4 < 4 := Nat.mod_lt _ (by decide)
  have h4 : p &&& (3 : Int32) = 0 ∨ p &&& (3 : Int32) = 1 ∨ p &&& (3 : Int32) = 2 ∨ p &&& (3 : Int32) = 3 := by
    simp only [← Int32.toInt_inj, h2, show (0 : Int32).toInt = 0 from by decide, show (1 : Int32).toInt = 1 from by decide, show (2 : Int32).toInt = 2 from by decide, show (3 : Int32).toInt = 3 from by decide]
    omega
  rcases h4 with h | h | h | h <;> rw [h]
  · exact Or.inl rfl
  · exact Or.inr (Or.inl rfl)
  · exact Or.inr (Or.inr rfl)
  · exact Or.inr (Or.inr rfl)
theorem own_law (q1 q2 q3 q4 q5 : Int64) (p6 : Int32) : f0 q1 q2 q3 q4 q5 p6 = 1 := by
  have hn := own_m3 p6
  have hm := own_m3 (XT.ushr p6 (2 : Int32))
  rw [f0, f0_18, f0_17, f0_16, f0_15, f0_14, f0_13, f0_12, f0_11, f0_10, f0_9, f0_8, f0_7, f0_6, f0_5, f0_4]
  generalize f0_0 q1 q2 q3 q4 q5 p6 = x0
  generalize f0_1 q1 q2 q3 q4 q5 p6 = x1
  generalize f0_2 q1 q2 q3 q4 q5 p6 = y0
  generalize f0_3 q1 q2 q3 q4 q5 p6 = y1
  generalize q1 &&& (9223372036854775807 : Int64) = d1
  generalize q2 &&& (9223372036854775807 : Int64) = d2
  generalize q3 &&& (9223372036854775807 : Int64) = l1
  generalize q4 &&& (9223372036854775807 : Int64) = l2
  generalize f1 (p6 &&& (3 : Int32)) (2 : Int32) = n at *
  generalize f1 (XT.ushr p6 (2 : Int32) &&& (3 : Int32)) (2 : Int32) = m at *
  simp only [f6, f6_7, f6_5, f6_3, f6_2, f6_1, f6_0, f3_x0, f3_x1, f3_x2]
  rcases hn with rfl | rfl | rfl <;> rcases hm with rfl | rfl | rfl <;> by_cases c1 : d1 < d2 <;> by_cases c2 : l1 < l2 <;> by_cases c3 : x0 < y0 <;> by_cases c4 : x1 < y1 <;> simp [c1, c2, c3, c4]

abbrev own_G (tb : Tables) (e : Env) (below : List Frame) (Q : Outcome → State → Prop) (A : State) : Prop := ∃ s₂ o, Steps tb e below A s₂ ∧ s₂.status = .running ∧ Ended s₂ below o ∧ Q o s₂
theorem own_step {tb : Tables} {e : Env} {below : List Frame} {Q : Outcome → State → Prop} {A B : State} (h : ∀ t, Steps tb e below B t → Steps tb e below A t) (g : own_G tb e below Q B) : own_G tb e below Q A := by
  obtain ⟨s2, o, h1, h2⟩ := g
  exact ⟨s2, o, h _ h1, h2⟩
theorem own_aT {x y : Addr} (h : x = y) : XT.acmp .eq (.ref x) (.ref y) = true ∧ XT.acmp .ne (.ref x) (.ref y) = false := by subst h; exact ⟨by simp [XT.acmp], by simp [XT.acmp]⟩
theorem own_aF {x y : Addr} (h : ¬ x = y) : XT.acmp .eq (.ref x) (.ref y) = false ∧ XT.acmp .ne (.ref x) (.ref y) = true := by simp [XT.acmp, h]
theorem own_cl (x y : Int64) : XT.cmpL x y < 0 ↔ x < y := lw_lt x y
theorem own_cg (x y : Int64) : 0 < XT.cmpL x y ↔ y < x := lw_gt x y
theorem own_ce (x y : Int64) : XT.cmpL x y = 0 ↔ x = y := lw_eq x y
theorem pd_0 : parseMethodDescriptor "(II)I" = some ⟨[.int, .int], some .int⟩ := by decide +kernel
theorem pd_1 : parseMethodDescriptor "(JJ)J" = some ⟨[.long, .long], some .long⟩ := by decide +kernel
theorem pd_2 : parseMethodDescriptor "(IJJ)[J" = some ⟨[.int, .long, .long], some (.array .long)⟩ := by decide +kernel
theorem pd_3 : parseMethodDescriptor "(JJ[J)V" = some ⟨[.long, .long, (.array .long)], none⟩ := by decide +kernel
theorem pd_4 : parseMethodDescriptor "(Lcom/example/stratum/stratum/search/Statistics;)Z" = some ⟨[(.object "com/example/stratum/stratum/search/Statistics")], some .boolean⟩ := by decide +kernel
theorem d1_0 : decode jdk_29_method_69_code 0 = .ok (.iload_n 0, 1) := by decide +kernel
theorem d1_1 : decode jdk_29_method_69_code 1 = .ok (.iload_n 1, 1) := by decide +kernel
theorem d1_2 : decode jdk_29_method_69_code 2 = .ok (.if_icmp .gt 7, 3) := by decide +kernel
theorem d1_5 : decode jdk_29_method_69_code 5 = .ok (.iload_n 0, 1) := by decide +kernel
theorem d1_6 : decode jdk_29_method_69_code 6 = .ok (.goto 4, 3) := by decide +kernel
theorem d1_9 : decode jdk_29_method_69_code 9 = .ok (.iload_n 1, 1) := by decide +kernel
theorem d1_10 : decode jdk_29_method_69_code 10 = .ok (.ireturn, 1) := by decide +kernel
theorem ef_1 (m : MethodId) (p1 : Int32) (p2 : Int32) : entryFrame m #[(.int p1), (.int p2)] 2 = mkF m 0 #[.val (.int p1), .val (.int p2)] [] := by first | (simp [entryFrame, mkF, argsToLocals, Value.category]; done) | rfl
def Q1 (Z : State) (p1 : Int32) (p2 : Int32) (h0 : Heap) (n0 : Nat) (v : Option Value) (h : Heap) (L : List Loc) : Prop := v = some (.int (f1 p1 p2)) ∧ Fr n0 L ∧ h = h0
set_option maxRecDepth 65536 in
set_option maxHeartbeats 40000000 in
theorem rm1 (l : Launch) (Z : State) (a0 : Array Value) (hw : ∀ d ∈ tables_1, d.before a0 Z = true) (ws : List Jvm.Cond) (p1 : Int32) (p2 : Int32) (h0 : Heap) (n0 : Nat) (Z0 : n0 ≤ h0.size) :
    MetFree l (⟨"java/lang/Math", "min", "(II)I"⟩ : MethodName) (head1 (Jvm.Cond.code (⟨"java/lang/Math", "min", "(II)I"⟩ : MethodName) jdk_29_method_69_code 2 (some .int) :: ws) ({ frames := 0, cells := 0, slots := 0, locals := 0 } : Room)) (fun a U => a = #[(.int p1), (.int p2)] ∧ Z.Warmed39 U.vm ∧ U.heap = h0) (fun _ _ _ _ _ => True) (fun _ U o U' => ∃ v L, o = .returned v ∧ Q1 Z p1 p2 h0 n0 v U'.heap L ∧ FrameEnd U o U' L ({ frames := 0, cells := 0, slots := 0, locals := 0 } : Room).cells ({ frames := 0, cells := 0, slots := 0, locals := 0 } : Room).slots) := by
  refine MetFree.of_bodySF (by decide +kernel) hisR ?_
  intro p e s m args below meth c s₁ Bd hml0 hP hK
  obtain ⟨rfl, hZ, hh⟩ := hP
  have hx := Bd.exec
  have hby := Bd.bytes
  have hml : c.maxLocals = 2 := hml0
  have hown : s.vm.findClass "java/lang/Math" = some m.cls := findClass_of_methodNamed Bd.named
  have hnm := (name_of_methodNamed Bd.named Bd.method).1
  have X0 : Stand p l e ({ frames := 0, cells := 0, slots := 0, locals := 0 } : Room) s m #[(.int p1), (.int p2)] below meth c s₁ [] 0 0 := Stand.of_body Bd
  have e0 : s₁.heap = h0 := by rw [← hh, Bd.state]; rfl
  have N0 := Fr.nil n0
  have pre0 : ∀ t, Steps p.tables e below (s₁.setTop (mkF m 0 #[.val (.int p1), .val (.int p2)] [])) t → Steps p.tables e below (s₁.setTop (entryFrame m #[(.int p1), (.int p2)] 2)) t := fun t k => castTop (ef_1 m p1 p2) k
  refine own_step (Q := fun o U' => ∃ v L, o = .returned v ∧ Q1 Z p1 p2 h0 n0 v U'.heap L ∧ FrameEnd s o U' L ({ frames := 0, cells := 0, slots := 0, locals := 0 } : Room).cells ({ frames := 0, cells := 0, slots := 0, locals := 0 } : Room).slots) pre0 ?_
  have st2 : ∀ t, Steps p.tables e below (s₁.setTop (mkF m 10 #[.val (.int p1), .val (.int p2)] [(.int (if p2 < p1 then p2 else p1))])) t → Steps p.tables e below (s₁.setTop (mkF m 2 #[.val (.int p1), .val (.int p2)] [(.int p2), (.int p1)])) t := by
    intro t k
    by_cases h1 : p2 < p1
    · rw [show (if p2 < p1 then p2 else p1) = p2 from if_pos h1] at k
      show Steps p.tables e below (s₁.setTop (mkF m 2 #[.val (.int p1), .val (.int p2)] [(.int p2), (.int p1)])) _
      refine XS.icmpYes X0.here hx rfl (pc0 := 2) (pc' := 9) rfl (hb hby d1_2) rfl (tlt h1).2.2.1 (by decide) (by decide) ?_
      show Steps p.tables e below (s₁.setTop (mkF m 9 #[.val (.int p1), .val (.int p2)] [])) _
      refine XS.iloadN X0.here hx rfl (hb hby d1_9) rfl ?_
      exact k
    · rw [show (if p2 < p1 then p2 else p1) = p1 from if_neg h1] at k
      show Steps p.tables e below (s₁.setTop (mkF m 2 #[.val (.int p1), .val (.int p2)] [(.int p2), (.int p1)])) _
      refine XS.icmpNo X0.here hx rfl (hb hby d1_2) rfl (flt h1).2.2.1 ?_
      show Steps p.tables e below (s₁.setTop (mkF m 5 #[.val (.int p1), .val (.int p2)] [])) _
      refine XS.iloadN X0.here hx rfl (hb hby d1_5) rfl ?_
      show Steps p.tables e below (s₁.setTop (mkF m 6 #[.val (.int p1), .val (.int p2)] [(.int p1)])) _
      refine XS.goto X0.here hx rfl (pc0 := 6) (pc' := 10) rfl (hb hby d1_6) (by decide) (by decide) ?_
      exact k
  obtain ⟨fs, hr, hrun, hended, hW, hsame⟩ := X0.leave (v := some (.int (if p2 < p1 then p2 else p1))) (fun h => by rw [Bd.returns] at h; cases h)
  refine ⟨_, _, ?_, hrun, hended, _, _, rfl, ?_, ⟨_, rfl⟩, hW, hsame.mono (by decide) (by decide)⟩
  · show Steps p.tables e below (s₁.setTop (mkF m 0 #[.val (.int p1), .val (.int p2)] [])) _
    refine XS.iloadN X0.here hx rfl (hb hby d1_0) rfl ?_
    show Steps p.tables e below (s₁.setTop (mkF m 1 #[.val (.int p1), .val (.int p2)] [(.int p1)])) _
    refine XS.iloadN X0.here hx rfl (hb hby d1_1) rfl ?_
    show Steps p.tables e below (s₁.setTop (mkF m 2 #[.val (.int p1), .val (.int p2)] [(.int p2), (.int p1)])) _
    refine st2 _ ?_
    show Steps p.tables e below (s₁.setTop (mkF m 10 #[.val (.int p1), .val (.int p2)] [(.int (if p2 < p1 then p2 else p1))])) _
    exact retI X0 hx Bd.returns (hb hby d1_10) hr
  · show Q1 Z p1 p2 h0 n0 _ s₁.heap _
    rw [e0]
    have hf : f1 p1 p2 = (if p2 < p1 then p2 else p1) := rfl
    exact ⟨by rw [hf], N0, rfl⟩
theorem d2_0 : decode jdk_29_method_70_code 0 = .ok (.lload_n 0, 1) := by decide +kernel
theorem d2_1 : decode jdk_29_method_70_code 1 = .ok (.lload_n 2, 1) := by decide +kernel
theorem d2_2 : decode jdk_29_method_70_code 2 = .ok (.lcmp, 1) := by decide +kernel
theorem d2_3 : decode jdk_29_method_70_code 3 = .ok (.ifCond .gt 7, 3) := by decide +kernel
theorem d2_6 : decode jdk_29_method_70_code 6 = .ok (.lload_n 0, 1) := by decide +kernel
theorem d2_7 : decode jdk_29_method_70_code 7 = .ok (.goto 4, 3) := by decide +kernel
theorem d2_10 : decode jdk_29_method_70_code 10 = .ok (.lload_n 2, 1) := by decide +kernel
theorem d2_11 : decode jdk_29_method_70_code 11 = .ok (.lreturn, 1) := by decide +kernel
theorem ef_2 (m : MethodId) (q1 : Int64) (q2 : Int64) : entryFrame m #[(.long q1), (.long q2)] 4 = mkF m 0 #[.val (.long q1), .second, .val (.long q2), .second] [] := by first | (simp [entryFrame, mkF, argsToLocals, Value.category]; done) | rfl
def Q2 (Z : State) (q1 : Int64) (q2 : Int64) (h0 : Heap) (n0 : Nat) (v : Option Value) (h : Heap) (L : List Loc) : Prop := v = some (.long (f2 q1 q2)) ∧ Fr n0 L ∧ h = h0
set_option maxRecDepth 65536 in
set_option maxHeartbeats 40000000 in
theorem rm2 (l : Launch) (Z : State) (a0 : Array Value) (hw : ∀ d ∈ tables_1, d.before a0 Z = true) (ws : List Jvm.Cond) (q1 : Int64) (q2 : Int64) (h0 : Heap) (n0 : Nat) (Z0 : n0 ≤ h0.size) :
    MetFree l (⟨"java/lang/Math", "min", "(JJ)J"⟩ : MethodName) (head1 (Jvm.Cond.code (⟨"java/lang/Math", "min", "(JJ)J"⟩ : MethodName) jdk_29_method_70_code 4 (some .long) :: ws) ({ frames := 0, cells := 0, slots := 0, locals := 0 } : Room)) (fun a U => a = #[(.long q1), (.long q2)] ∧ Z.Warmed39 U.vm ∧ U.heap = h0) (fun _ _ _ _ _ => True) (fun _ U o U' => ∃ v L, o = .returned v ∧ Q2 Z q1 q2 h0 n0 v U'.heap L ∧ FrameEnd U o U' L ({ frames := 0, cells := 0, slots := 0, locals := 0 } : Room).cells ({ frames := 0, cells := 0, slots := 0, locals := 0 } : Room).slots) := by
  refine MetFree.of_bodySF (by decide +kernel) hisR ?_
  intro p e s m args below meth c s₁ Bd hml0 hP hK
  obtain ⟨rfl, hZ, hh⟩ := hP
  have hx := Bd.exec
  have hby := Bd.bytes
  have hml : c.maxLocals = 4 := hml0
  have hown : s.vm.findClass "java/lang/Math" = some m.cls := findClass_of_methodNamed Bd.named
  have hnm := (name_of_methodNamed Bd.named Bd.method).1
  have X0 : Stand p l e ({ frames := 0, cells := 0, slots := 0, locals := 0 } : Room) s m #[(.long q1), (.long q2)] below meth c s₁ [] 0 0 := Stand.of_body Bd
  have e0 : s₁.heap = h0 := by rw [← hh, Bd.state]; rfl
  have N0 := Fr.nil n0
  have pre0 : ∀ t, Steps p.tables e below (s₁.setTop (mkF m 0 #[.val (.long q1), .second, .val (.long q2), .second] [])) t → Steps p.tables e below (s₁.setTop (entryFrame m #[(.long q1), (.long q2)] 4)) t := fun t k => castTop (ef_2 m q1 q2) k
  refine own_step (Q := fun o U' => ∃ v L, o = .returned v ∧ Q2 Z q1 q2 h0 n0 v U'.heap L ∧ FrameEnd s o U' L ({ frames := 0, cells := 0, slots := 0, locals := 0 } : Room).cells ({ frames := 0, cells := 0, slots := 0, locals := 0 } : Room).slots) pre0 ?_
  have st2 : ∀ t, Steps p.tables e below (s₁.setTop (mkF m 11 #[.val (.long q1), .second, .val (.long q2), .second] [(.long (if q2 < q1 then q2 else q1))])) t → Steps p.tables e below (s₁.setTop (mkF m 3 #[.val (.long q1), .second, .val (.long q2), .second] [(.int (XT.cmpL q1 q2))])) t := by
    intro t k
    by_cases h1 : q2 < q1
    · rw [show (if q2 < q1 then q2 else q1) = q2 from if_pos h1] at k
      show Steps p.tables e below (s₁.setTop (mkF m 3 #[.val (.long q1), .second, .val (.long q2), .second] [(.int (XT.cmpL q1 q2))])) _
      refine XS.ifYes X0.here hx rfl (pc0 := 3) (pc' := 10) rfl (hb hby d2_3) rfl ((if0 _ _).trans (tlt ((own_cg _ _).mpr h1)).2.2.1) (by decide) (by decide) ?_
      show Steps p.tables e below (s₁.setTop (mkF m 10 #[.val (.long q1), .second, .val (.long q2), .second] [])) _
      refine XT.lloadN X0.here hx rfl (hb hby d2_10) rfl ?_
      exact k
    · rw [show (if q2 < q1 then q2 else q1) = q1 from if_neg h1] at k
      show Steps p.tables e below (s₁.setTop (mkF m 3 #[.val (.long q1), .second, .val (.long q2), .second] [(.int (XT.cmpL q1 q2))])) _
      refine XS.ifNo X0.here hx rfl (hb hby d2_3) rfl ((if0 _ _).trans (flt (mt (own_cg _ _).mp h1)).2.2.1) ?_
      show Steps p.tables e below (s₁.setTop (mkF m 6 #[.val (.long q1), .second, .val (.long q2), .second] [])) _
      refine XT.lloadN X0.here hx rfl (hb hby d2_6) rfl ?_
      show Steps p.tables e below (s₁.setTop (mkF m 7 #[.val (.long q1), .second, .val (.long q2), .second] [(.long q1)])) _
      refine XS.goto X0.here hx rfl (pc0 := 7) (pc' := 11) rfl (hb hby d2_7) (by decide) (by decide) ?_
      exact k
  obtain ⟨fs, hr, hrun, hended, hW, hsame⟩ := X0.leave (v := some (.long (if q2 < q1 then q2 else q1))) (fun h => by rw [Bd.returns] at h; cases h)
  refine ⟨_, _, ?_, hrun, hended, _, _, rfl, ?_, ⟨_, rfl⟩, hW, hsame.mono (by decide) (by decide)⟩
  · show Steps p.tables e below (s₁.setTop (mkF m 0 #[.val (.long q1), .second, .val (.long q2), .second] [])) _
    refine XT.lloadN X0.here hx rfl (hb hby d2_0) rfl ?_
    show Steps p.tables e below (s₁.setTop (mkF m 1 #[.val (.long q1), .second, .val (.long q2), .second] [(.long q1)])) _
    refine XT.lloadN X0.here hx rfl (hb hby d2_1) rfl ?_
    show Steps p.tables e below (s₁.setTop (mkF m 2 #[.val (.long q1), .second, .val (.long q2), .second] [(.long q2), (.long q1)])) _
    refine XT.lcmp X0.here hx rfl (hb hby d2_2) rfl ?_
    show Steps p.tables e below (s₁.setTop (mkF m 3 #[.val (.long q1), .second, .val (.long q2), .second] [(.int (XT.cmpL q1 q2))])) _
    refine st2 _ ?_
    show Steps p.tables e below (s₁.setTop (mkF m 11 #[.val (.long q1), .second, .val (.long q2), .second] [(.long (if q2 < q1 then q2 else q1))])) _
    jvm_step X0.here [X0.here.top, hx, (hb hby d2_11), X0.method', Bd.returns, narrow]
    first | (intro acts; rw [hr _ acts rfl rfl rfl]) | rw [hr _ _ rfl rfl rfl]
    exact Steps.refl _
  · show Q2 Z q1 q2 h0 n0 _ s₁.heap _
    rw [e0]
    have hf : f2 q1 q2 = (if q2 < q1 then q2 else q1) := rfl
    exact ⟨by rw [hf], N0, rfl⟩
theorem d3_0 : decode method_2_code 0 = .ok (.iload_n 0, 1) := by decide +kernel
theorem d3_1 : decode method_2_code 1 = .ok (.ifCond .ne 7, 3) := by decide +kernel
theorem d3_4 : decode method_2_code 4 = .ok (.iconst 0, 1) := by decide +kernel
theorem d3_5 : decode method_2_code 5 = .ok (.newarray .long, 2) := by decide +kernel
theorem d3_7 : decode method_2_code 7 = .ok (.areturn, 1) := by decide +kernel
theorem d3_8 : decode method_2_code 8 = .ok (.iload_n 0, 1) := by decide +kernel
theorem d3_9 : decode method_2_code 9 = .ok (.iconst 1, 1) := by decide +kernel
theorem d3_10 : decode method_2_code 10 = .ok (.if_icmp .ne 11, 3) := by decide +kernel
theorem d3_13 : decode method_2_code 13 = .ok (.iconst 1, 1) := by decide +kernel
theorem d3_14 : decode method_2_code 14 = .ok (.newarray .long, 2) := by decide +kernel
theorem d3_16 : decode method_2_code 16 = .ok (.dup, 1) := by decide +kernel
theorem d3_17 : decode method_2_code 17 = .ok (.iconst 0, 1) := by decide +kernel
theorem d3_18 : decode method_2_code 18 = .ok (.lload_n 1, 1) := by decide +kernel
theorem d3_19 : decode method_2_code 19 = .ok (.lastore, 1) := by decide +kernel
theorem d3_20 : decode method_2_code 20 = .ok (.areturn, 1) := by decide +kernel
theorem d3_21 : decode method_2_code 21 = .ok (.iconst 2, 1) := by decide +kernel
theorem d3_22 : decode method_2_code 22 = .ok (.newarray .long, 2) := by decide +kernel
theorem d3_24 : decode method_2_code 24 = .ok (.dup, 1) := by decide +kernel
theorem d3_25 : decode method_2_code 25 = .ok (.iconst 0, 1) := by decide +kernel
theorem d3_26 : decode method_2_code 26 = .ok (.lload_n 1, 1) := by decide +kernel
theorem d3_27 : decode method_2_code 27 = .ok (.lastore, 1) := by decide +kernel
theorem d3_28 : decode method_2_code 28 = .ok (.dup, 1) := by decide +kernel
theorem d3_29 : decode method_2_code 29 = .ok (.iconst 1, 1) := by decide +kernel
theorem d3_30 : decode method_2_code 30 = .ok (.lload_n 3, 1) := by decide +kernel
theorem d3_31 : decode method_2_code 31 = .ok (.lastore, 1) := by decide +kernel
theorem d3_32 : decode method_2_code 32 = .ok (.areturn, 1) := by decide +kernel
theorem pn_3 : plainName "com/example/stratum/stratum/search/StatisticsCoversPinLaw" = true := by first | (simp [plainName, overriddenIn]; done) | decide +kernel
theorem ef_3 (m : MethodId) (p1 : Int32) (q2 : Int64) (q3 : Int64) : entryFrame m #[(.int p1), (.long q2), (.long q3)] 5 = mkF m 0 #[.val (.int p1), .val (.long q2), .second, .val (.long q3), .second] [] := by first | (simp [entryFrame, mkF, argsToLocals, Value.category]; done) | rfl
def Q3 (Z : State) (p1 : Int32) (q2 : Int64) (q3 : Int64) (h0 : Heap) (n0 : Nat) (v : Option Value) (h : Heap) (L : List Loc) : Prop := ∃ (r : Addr), ∃ (k_r : ClassId), v = some (.ref r) ∧ Fr n0 L ∧ Keep h0 h [] ∧ h0.size ≤ r ∧ (Arv Z h r k_r .long (f3_x0 p1 q2 q3) [(.long (f3_x1 p1 q2 q3)), (.long (f3_x2 p1 q2 q3))] (.long (0 : Int64))) ∧ (Exa Z h r "[J")
set_option maxRecDepth 65536 in
set_option maxHeartbeats 40000000 in
theorem rm3 (l : Launch) (Z : State) (a0 : Array Value) (hw : ∀ d ∈ tables_1, d.before a0 Z = true) (ws : List Jvm.Cond) (p1 : Int32) (q2 : Int64) (q3 : Int64) (h0 : Heap) (n0 : Nat) (Z0 : n0 ≤ h0.size) :
    MetFree l (⟨"com/example/stratum/stratum/search/StatisticsCoversPinLaw", "pick", "(IJJ)[J"⟩ : MethodName) (head1 (Jvm.Cond.code (⟨"com/example/stratum/stratum/search/StatisticsCoversPinLaw", "pick", "(IJJ)[J"⟩ : MethodName) method_2_code 5 (some (.array .long)) :: ws) ({ frames := 0, cells := 1, slots := 2, locals := 0 } : Room)) (fun a U => a = #[(.int p1), (.long q2), (.long q3)] ∧ Z.Warmed39 U.vm ∧ U.heap = h0) (fun _ _ _ _ _ => True) (fun _ U o U' => ∃ v L, o = .returned v ∧ Q3 Z p1 q2 q3 h0 n0 v U'.heap L ∧ FrameEnd U o U' L ({ frames := 0, cells := 1, slots := 2, locals := 0 } : Room).cells ({ frames := 0, cells := 1, slots := 2, locals := 0 } : Room).slots) := by
  refine MetFree.of_bodySF (plainFor_of_name pn_3) hisR ?_
  intro p e s m args below meth c s₁ Bd hml0 hP hK
  obtain ⟨rfl, hZ, hh⟩ := hP
  have hx := Bd.exec
  have hby := Bd.bytes
  have hml : c.maxLocals = 5 := hml0
  have hown : s.vm.findClass "com/example/stratum/stratum/search/StatisticsCoversPinLaw" = some m.cls := findClass_of_methodNamed Bd.named
  have hnm := (name_of_methodNamed Bd.named Bd.method).1
  have X0 : Stand p l e ({ frames := 0, cells := 1, slots := 2, locals := 0 } : Room) s m #[(.int p1), (.long q2), (.long q3)] below meth c s₁ [] 0 0 := Stand.of_body Bd
  have e0 : s₁.heap = h0 := by rw [← hh, Bd.state]; rfl
  have N0 := Fr.nil n0
  have pre0 : ∀ t, Steps p.tables e below (s₁.setTop (mkF m 0 #[.val (.int p1), .val (.long q2), .second, .val (.long q3), .second] [])) t → Steps p.tables e below (s₁.setTop (entryFrame m #[(.int p1), (.long q2), (.long q3)] 5)) t := fun t k => castTop (ef_3 m p1 q2 q3) k
  refine own_step (Q := fun o U' => ∃ v L, o = .returned v ∧ Q3 Z p1 q2 q3 h0 n0 v U'.heap L ∧ FrameEnd s o U' L ({ frames := 0, cells := 1, slots := 2, locals := 0 } : Room).cells ({ frames := 0, cells := 1, slots := 2, locals := 0 } : Room).slots) pre0 ?_
  have K0 : Keep h0 h0 [] := Keep.refl h0 []
  refine own_step (B := s₁.setTop (mkF m 1 #[.val (.int p1), .val (.long q2), .second, .val (.long q3), .second] [(.int p1)])) (fun t k => ?_) ?_
  · show Steps p.tables e below (s₁.setTop (mkF m 0 #[.val (.int p1), .val (.long q2), .second, .val (.long q3), .second] [])) _
    refine XS.iloadN X0.here hx rfl (hb hby d3_0) rfl ?_
    exact k
  by_cases h1 : p1 = (0 : Int32)
  · obtain ⟨T2, h2, kc2, X2, e2, E2, A2, Ex2, st2⟩ := newPE X0 hx hZ (hw _ (List.mem_of_getElem? (i := 16) rfl)) e0 (g := (mkF m 5 #[.val (.int p1), .val (.long q2), .second, .val (.long q3), .second] [(.int (0 : Int32))])) rfl (hb hby d3_5) (n := (0 : Int32)) (rest := []) rfl (by decide) (cap := 0) (by decide) (by decide) (by decide) (by decide) (ad := "[J") (by decide)
    obtain ⟨o2, g2⟩ : ∃ z, z = h0.size := ⟨_, rfl⟩
    rw [← g2] at A2 Ex2 st2
    have ge2 : n0 ≤ o2 := Nat.le_trans Z0 (Nat.le_of_eq g2.symm)
    have Z2 : n0 ≤ h2.size := Nat.le_trans Z0 E2.1
    have sz2 : h0.size ≤ o2 := Nat.le_trans K0.1 (Nat.le_of_eq g2.symm)
    have K2 := K0.ext E2
    have V2 : Arv Z h2 o2 kc2 .long (0 : Int32) [] (.long (0 : Int64)) := Arv.new A2 (by decide)
    obtain ⟨fs, hr, hrun, hended, hW, hsame⟩ := X2.leave (v := some (.ref o2)) (fun h => by rw [Bd.returns] at h; cases h)
    refine ⟨_, _, ?_, hrun, hended, _, _, rfl, ?_, ⟨_, rfl⟩, hW, hsame.mono (by decide) (by decide)⟩
    · show Steps p.tables e below (s₁.setTop (mkF m 1 #[.val (.int p1), .val (.long q2), .second, .val (.long q3), .second] [(.int p1)])) _
      refine XS.ifNo X0.here hx rfl (hb hby d3_1) rfl ((if0 _ _).trans (teq h1).2) ?_
      show Steps p.tables e below (s₁.setTop (mkF m 4 #[.val (.int p1), .val (.long q2), .second, .val (.long q3), .second] [])) _
      refine XS.iconst X0.here hx rfl (hb hby d3_4) ?_
      show Steps p.tables e below (s₁.setTop (mkF m 5 #[.val (.int p1), .val (.long q2), .second, .val (.long q3), .second] [(.int (0 : Int32))])) _
      refine st2 _ ?_
      show Steps p.tables e below (T2.setTop (mkF m 7 #[.val (.int p1), .val (.long q2), .second, .val (.long q3), .second] [(.ref o2)])) _
      jvm_step X2.here [X2.here.top, hx, (hb hby d3_7), X2.method', Bd.returns, Value.isRef, FieldType.isReference]
      first | (intro acts; rw [hr _ acts rfl rfl rfl]) | rw [hr _ _ rfl rfl rfl]
      exact Steps.refl _
    · show Q3 Z p1 q2 q3 h0 n0 _ T2.heap _
      rw [e2]
      have hx1 : f3_x0 p1 q2 q3 = (0 : Int32) := by simp only [f3_x0, if_pos h1]
      have hx2 : f3_x1 p1 q2 q3 = (0 : Int64) := by simp only [f3_x1, if_pos h1]
      have hx3 : f3_x2 p1 q2 q3 = (0 : Int64) := by simp only [f3_x2, if_pos h1]
      exact ⟨o2, kc2, rfl, N0, K2, sz2, (by rw [hx1, hx2, hx3]; exact (Arv.pad V2 (pad_rep [] (.long (0 : Int64)) 2))), Ex2⟩
  · refine own_step (B := s₁.setTop (mkF m 10 #[.val (.int p1), .val (.long q2), .second, .val (.long q3), .second] [(.int (1 : Int32)), (.int p1)])) (fun t k => ?_) ?_
    · show Steps p.tables e below (s₁.setTop (mkF m 1 #[.val (.int p1), .val (.long q2), .second, .val (.long q3), .second] [(.int p1)])) _
      refine XS.ifYes X0.here hx rfl (pc0 := 1) (pc' := 8) rfl (hb hby d3_1) rfl ((if0 _ _).trans (feq h1).2) (by decide) (by decide) ?_
      show Steps p.tables e below (s₁.setTop (mkF m 8 #[.val (.int p1), .val (.long q2), .second, .val (.long q3), .second] [])) _
      refine XS.iloadN X0.here hx rfl (hb hby d3_8) rfl ?_
      show Steps p.tables e below (s₁.setTop (mkF m 9 #[.val (.int p1), .val (.long q2), .second, .val (.long q3), .second] [(.int p1)])) _
      refine XS.iconst X0.here hx rfl (hb hby d3_9) ?_
      exact k
    by_cases h3 : p1 = (1 : Int32)
    · obtain ⟨T4, h4, kc4, X4, e4, E4, A4, Ex4, st4⟩ := newPE X0 hx hZ (hw _ (List.mem_of_getElem? (i := 16) rfl)) e0 (g := (mkF m 14 #[.val (.int p1), .val (.long q2), .second, .val (.long q3), .second] [(.int (1 : Int32))])) rfl (hb hby d3_14) (n := (1 : Int32)) (rest := []) rfl (by decide) (cap := 1) (by decide) (by decide) (by decide) (by decide) (ad := "[J") (by decide)
      obtain ⟨o4, g4⟩ : ∃ z, z = h0.size := ⟨_, rfl⟩
      rw [← g4] at A4 Ex4 st4
      have ge4 : n0 ≤ o4 := Nat.le_trans Z0 (Nat.le_of_eq g4.symm)
      have Z4 : n0 ≤ h4.size := Nat.le_trans Z0 E4.1
      have sz4 : h0.size ≤ o4 := Nat.le_trans K0.1 (Nat.le_of_eq g4.symm)
      have K4 := K0.ext E4
      have V4 : Arv Z h4 o4 kc4 .long (1 : Int32) [(.long (0 : Int64))] (.long (0 : Int64)) := (Arv.new A4 (by decide)).pad (pad_rep [] (.long (0 : Int64)) 1)
      obtain ⟨cl5, Ar5, q5, S5, M5, H5, G5⟩ := id V4
      obtain ⟨T5, h5, X5, e5, W5, st5⟩ := stJ X4 hx hZ e4 Ar5 (j := (0 : Int32)) (inb_of S5 (by decide)) (g := (mkF m 19 #[.val (.int p1), .val (.long q2), .second, .val (.long q3), .second] [(.long q2), (.int (0 : Int32)), (.ref o4), (.ref o4)])) rfl rfl (hb hby d3_19)
      have u5_0 := Ex4.wr W5
      have K5 := K4.wr W5 (Or.inr sz4)
      have Z5 : n0 ≤ h5.size := Nat.le_trans Z4 (Keep.of_wr W5).1
      have N5 := Fr.snoc X5 N0 ge4
      have V5 : Arv Z h5 o4 kc4 .long (1 : Int32) [(.long q2)] (.long (0 : Int64)) := Arv.set Ar5 q5 S5 M5 H5 G5 rfl W5 0 (by decide) (by show 0 < 1; decide)
      obtain ⟨fs, hr, hrun, hended, hW, hsame⟩ := X5.leave (v := some (.ref o4)) (fun h => by rw [Bd.returns] at h; cases h)
      refine ⟨_, _, ?_, hrun, hended, _, _, rfl, ?_, ⟨_, rfl⟩, hW, hsame.mono (by decide) (by decide)⟩
      · show Steps p.tables e below (s₁.setTop (mkF m 10 #[.val (.int p1), .val (.long q2), .second, .val (.long q3), .second] [(.int (1 : Int32)), (.int p1)])) _
        refine XS.icmpNo X0.here hx rfl (hb hby d3_10) rfl (teq h3).2 ?_
        show Steps p.tables e below (s₁.setTop (mkF m 13 #[.val (.int p1), .val (.long q2), .second, .val (.long q3), .second] [])) _
        refine XS.iconst X0.here hx rfl (hb hby d3_13) ?_
        show Steps p.tables e below (s₁.setTop (mkF m 14 #[.val (.int p1), .val (.long q2), .second, .val (.long q3), .second] [(.int (1 : Int32))])) _
        refine st4 _ ?_
        show Steps p.tables e below (T4.setTop (mkF m 16 #[.val (.int p1), .val (.long q2), .second, .val (.long q3), .second] [(.ref o4)])) _
        refine XS.dup X4.here hx rfl (hb hby d3_16) rfl rfl ?_
        show Steps p.tables e below (T4.setTop (mkF m 17 #[.val (.int p1), .val (.long q2), .second, .val (.long q3), .second] [(.ref o4), (.ref o4)])) _
        refine XS.iconst X4.here hx rfl (hb hby d3_17) ?_
        show Steps p.tables e below (T4.setTop (mkF m 18 #[.val (.int p1), .val (.long q2), .second, .val (.long q3), .second] [(.int (0 : Int32)), (.ref o4), (.ref o4)])) _
        refine XT.lloadN X4.here hx rfl (hb hby d3_18) rfl ?_
        show Steps p.tables e below (T4.setTop (mkF m 19 #[.val (.int p1), .val (.long q2), .second, .val (.long q3), .second] [(.long q2), (.int (0 : Int32)), (.ref o4), (.ref o4)])) _
        refine st5 _ ?_
        show Steps p.tables e below (T5.setTop (mkF m 20 #[.val (.int p1), .val (.long q2), .second, .val (.long q3), .second] [(.ref o4)])) _
        jvm_step X5.here [X5.here.top, hx, (hb hby d3_20), X5.method', Bd.returns, Value.isRef, FieldType.isReference]
        first | (intro acts; rw [hr _ acts rfl rfl rfl]) | rw [hr _ _ rfl rfl rfl]
        exact Steps.refl _
      · show Q3 Z p1 q2 q3 h0 n0 _ T5.heap _
        rw [e5]
        have hx1 : f3_x0 p1 q2 q3 = (1 : Int32) := by simp only [f3_x0, if_neg h1, if_pos h3]
        have hx2 : f3_x1 p1 q2 q3 = q2 := by simp only [f3_x1, if_neg h1, if_pos h3]
        have hx3 : f3_x2 p1 q2 q3 = (0 : Int64) := by simp only [f3_x2, if_neg h1, if_pos h3]
        exact ⟨o4, kc4, rfl, N5, K5, sz4, (by rw [hx1, hx2, hx3]; exact (Arv.pad V5 (pad_rep [(.long q2)] (.long (0 : Int64)) 1))), u5_0⟩
    · obtain ⟨T6, h6, kc6, X6, e6, E6, A6, Ex6, st6⟩ := newPE X0 hx hZ (hw _ (List.mem_of_getElem? (i := 16) rfl)) e0 (g := (mkF m 22 #[.val (.int p1), .val (.long q2), .second, .val (.long q3), .second] [(.int (2 : Int32))])) rfl (hb hby d3_22) (n := (2 : Int32)) (rest := []) rfl (by decide) (cap := 2) (by decide) (by decide) (by decide) (by decide) (ad := "[J") (by decide)
      obtain ⟨o6, g6⟩ : ∃ z, z = h0.size := ⟨_, rfl⟩
      rw [← g6] at A6 Ex6 st6
      have ge6 : n0 ≤ o6 := Nat.le_trans Z0 (Nat.le_of_eq g6.symm)
      have Z6 : n0 ≤ h6.size := Nat.le_trans Z0 E6.1
      have sz6 : h0.size ≤ o6 := Nat.le_trans K0.1 (Nat.le_of_eq g6.symm)
      have K6 := K0.ext E6
      have V6 : Arv Z h6 o6 kc6 .long (2 : Int32) [(.long (0 : Int64)), (.long (0 : Int64))] (.long (0 : Int64)) := (Arv.new A6 (by decide)).pad (pad_rep [] (.long (0 : Int64)) 2)
      obtain ⟨cl7, Ar7, q7, S7, M7, H7, G7⟩ := id V6
      obtain ⟨T7, h7, X7, e7, W7, st7⟩ := stJ X6 hx hZ e6 Ar7 (j := (0 : Int32)) (inb_of S7 (by decide)) (g := (mkF m 27 #[.val (.int p1), .val (.long q2), .second, .val (.long q3), .second] [(.long q2), (.int (0 : Int32)), (.ref o6), (.ref o6)])) rfl rfl (hb hby d3_27)
      have u7_0 := Ex6.wr W7
      have K7 := K6.wr W7 (Or.inr sz6)
      have Z7 : n0 ≤ h7.size := Nat.le_trans Z6 (Keep.of_wr W7).1
      have N7 := Fr.snoc X7 N0 ge6
      have V7 : Arv Z h7 o6 kc6 .long (2 : Int32) [(.long q2), (.long (0 : Int64))] (.long (0 : Int64)) := Arv.set Ar7 q7 S7 M7 H7 G7 rfl W7 0 (by decide) (by show 0 < 2; decide)
      obtain ⟨cl8, Ar8, q8, S8, M8, H8, G8⟩ := id V7
      obtain ⟨T8, h8, X8, e8, W8, st8⟩ := stJ X7 hx hZ e7 Ar8 (j := (1 : Int32)) (inb_of S8 (by decide)) (g := (mkF m 31 #[.val (.int p1), .val (.long q2), .second, .val (.long q3), .second] [(.long q3), (.int (1 : Int32)), (.ref o6), (.ref o6)])) rfl rfl (hb hby d3_31)
      have u8_0 := u7_0.wr W8
      have K8 := K7.wr W8 (Or.inr sz6)
      have Z8 : n0 ≤ h8.size := Nat.le_trans Z7 (Keep.of_wr W8).1
      have N8 := Fr.snoc X8 N7 ge6
      have V8 : Arv Z h8 o6 kc6 .long (2 : Int32) [(.long q2), (.long q3)] (.long (0 : Int64)) := Arv.set Ar8 q8 S8 M8 H8 G8 rfl W8 1 (by decide) (by show 1 < 2; decide)
      obtain ⟨fs, hr, hrun, hended, hW, hsame⟩ := X8.leave (v := some (.ref o6)) (fun h => by rw [Bd.returns] at h; cases h)
      refine ⟨_, _, ?_, hrun, hended, _, _, rfl, ?_, ⟨_, rfl⟩, hW, hsame.mono (by decide) (by decide)⟩
      · show Steps p.tables e below (s₁.setTop (mkF m 10 #[.val (.int p1), .val (.long q2), .second, .val (.long q3), .second] [(.int (1 : Int32)), (.int p1)])) _
        refine XS.icmpYes X0.here hx rfl (pc0 := 10) (pc' := 21) rfl (hb hby d3_10) rfl (feq h3).2 (by decide) (by decide) ?_
        show Steps p.tables e below (s₁.setTop (mkF m 21 #[.val (.int p1), .val (.long q2), .second, .val (.long q3), .second] [])) _
        refine XS.iconst X0.here hx rfl (hb hby d3_21) ?_
        show Steps p.tables e below (s₁.setTop (mkF m 22 #[.val (.int p1), .val (.long q2), .second, .val (.long q3), .second] [(.int (2 : Int32))])) _
        refine st6 _ ?_
        show Steps p.tables e below (T6.setTop (mkF m 24 #[.val (.int p1), .val (.long q2), .second, .val (.long q3), .second] [(.ref o6)])) _
        refine XS.dup X6.here hx rfl (hb hby d3_24) rfl rfl ?_
        show Steps p.tables e below (T6.setTop (mkF m 25 #[.val (.int p1), .val (.long q2), .second, .val (.long q3), .second] [(.ref o6), (.ref o6)])) _
        refine XS.iconst X6.here hx rfl (hb hby d3_25) ?_
        show Steps p.tables e below (T6.setTop (mkF m 26 #[.val (.int p1), .val (.long q2), .second, .val (.long q3), .second] [(.int (0 : Int32)), (.ref o6), (.ref o6)])) _
        refine XT.lloadN X6.here hx rfl (hb hby d3_26) rfl ?_
        show Steps p.tables e below (T6.setTop (mkF m 27 #[.val (.int p1), .val (.long q2), .second, .val (.long q3), .second] [(.long q2), (.int (0 : Int32)), (.ref o6), (.ref o6)])) _
        refine st7 _ ?_
        show Steps p.tables e below (T7.setTop (mkF m 28 #[.val (.int p1), .val (.long q2), .second, .val (.long q3), .second] [(.ref o6)])) _
        refine XS.dup X7.here hx rfl (hb hby d3_28) rfl rfl ?_
        show Steps p.tables e below (T7.setTop (mkF m 29 #[.val (.int p1), .val (.long q2), .second, .val (.long q3), .second] [(.ref o6), (.ref o6)])) _
        refine XS.iconst X7.here hx rfl (hb hby d3_29) ?_
        show Steps p.tables e below (T7.setTop (mkF m 30 #[.val (.int p1), .val (.long q2), .second, .val (.long q3), .second] [(.int (1 : Int32)), (.ref o6), (.ref o6)])) _
        refine XT.lloadN X7.here hx rfl (hb hby d3_30) rfl ?_
        show Steps p.tables e below (T7.setTop (mkF m 31 #[.val (.int p1), .val (.long q2), .second, .val (.long q3), .second] [(.long q3), (.int (1 : Int32)), (.ref o6), (.ref o6)])) _
        refine st8 _ ?_
        show Steps p.tables e below (T8.setTop (mkF m 32 #[.val (.int p1), .val (.long q2), .second, .val (.long q3), .second] [(.ref o6)])) _
        jvm_step X8.here [X8.here.top, hx, (hb hby d3_32), X8.method', Bd.returns, Value.isRef, FieldType.isReference]
        first | (intro acts; rw [hr _ acts rfl rfl rfl]) | rw [hr _ _ rfl rfl rfl]
        exact Steps.refl _
      · show Q3 Z p1 q2 q3 h0 n0 _ T8.heap _
        rw [e8]
        have hx1 : f3_x0 p1 q2 q3 = (2 : Int32) := by simp only [f3_x0, if_neg h1, if_neg h3]
        have hx2 : f3_x1 p1 q2 q3 = q2 := by simp only [f3_x1, if_neg h1, if_neg h3]
        have hx3 : f3_x2 p1 q2 q3 = q3 := by simp only [f3_x2, if_neg h1, if_neg h3]
        exact ⟨o6, kc6, rfl, N8, K8, sz6, (by rw [hx1, hx2, hx3]; exact V8), u8_0⟩
theorem d4_0 : decode prog_31_method_1_code 0 = .ok (.aload_n 0, 1) := by decide +kernel
theorem d4_1 : decode prog_31_method_1_code 1 = .ok (.invokespecial 1, 3) := by decide +kernel
theorem d4_4 : decode prog_31_method_1_code 4 = .ok (.lload_n 1, 1) := by decide +kernel
theorem d4_5 : decode prog_31_method_1_code 5 = .ok (.lconst 0, 1) := by decide +kernel
theorem d4_6 : decode prog_31_method_1_code 6 = .ok (.lcmp, 1) := by decide +kernel
theorem d4_7 : decode prog_31_method_1_code 7 = .ok (.ifCond .lt 9, 3) := by decide +kernel
theorem d4_10 : decode prog_31_method_1_code 10 = .ok (.lload_n 3, 1) := by decide +kernel
theorem d4_11 : decode prog_31_method_1_code 11 = .ok (.lconst 0, 1) := by decide +kernel
theorem d4_12 : decode prog_31_method_1_code 12 = .ok (.lcmp, 1) := by decide +kernel
theorem d4_13 : decode prog_31_method_1_code 13 = .ok (.ifCond .ge 13, 3) := by decide +kernel
theorem d4_26 : decode prog_31_method_1_code 26 = .ok (.aload 5, 2) := by decide +kernel
theorem d4_28 : decode prog_31_method_1_code 28 = .ok (.astore 6, 2) := by decide +kernel
theorem d4_30 : decode prog_31_method_1_code 30 = .ok (.aload 6, 2) := by decide +kernel
theorem d4_32 : decode prog_31_method_1_code 32 = .ok (.arraylength, 1) := by decide +kernel
theorem d4_33 : decode prog_31_method_1_code 33 = .ok (.istore 7, 2) := by decide +kernel
theorem d4_35 : decode prog_31_method_1_code 35 = .ok (.iconst 0, 1) := by decide +kernel
theorem d4_36 : decode prog_31_method_1_code 36 = .ok (.istore 8, 2) := by decide +kernel
theorem d4_38 : decode prog_31_method_1_code 38 = .ok (.iload 8, 2) := by decide +kernel
theorem d4_40 : decode prog_31_method_1_code 40 = .ok (.iload 7, 2) := by decide +kernel
theorem d4_42 : decode prog_31_method_1_code 42 = .ok (.if_icmp .ge 46, 3) := by decide +kernel
theorem d4_45 : decode prog_31_method_1_code 45 = .ok (.aload 6, 2) := by decide +kernel
theorem d4_47 : decode prog_31_method_1_code 47 = .ok (.iload 8, 2) := by decide +kernel
theorem d4_49 : decode prog_31_method_1_code 49 = .ok (.laload, 1) := by decide +kernel
theorem d4_50 : decode prog_31_method_1_code 50 = .ok (.lstore 9, 2) := by decide +kernel
theorem d4_52 : decode prog_31_method_1_code 52 = .ok (.lload 9, 2) := by decide +kernel
theorem d4_54 : decode prog_31_method_1_code 54 = .ok (.lconst 0, 1) := by decide +kernel
theorem d4_55 : decode prog_31_method_1_code 55 = .ok (.lcmp, 1) := by decide +kernel
theorem d4_56 : decode prog_31_method_1_code 56 = .ok (.ifCond .lt 10, 3) := by decide +kernel
theorem d4_59 : decode prog_31_method_1_code 59 = .ok (.lload 9, 2) := by decide +kernel
theorem d4_61 : decode prog_31_method_1_code 61 = .ok (.lload_n 1, 1) := by decide +kernel
theorem d4_62 : decode prog_31_method_1_code 62 = .ok (.lcmp, 1) := by decide +kernel
theorem d4_63 : decode prog_31_method_1_code 63 = .ok (.ifCond .le 19, 3) := by decide +kernel
theorem d4_82 : decode prog_31_method_1_code 82 = .ok (.iinc 8 1, 3) := by decide +kernel
theorem d4_85 : decode prog_31_method_1_code 85 = .ok (.goto (-47), 3) := by decide +kernel
theorem d4_88 : decode prog_31_method_1_code 88 = .ok (.aload_n 0, 1) := by decide +kernel
theorem d4_89 : decode prog_31_method_1_code 89 = .ok (.lload_n 1, 1) := by decide +kernel
theorem d4_90 : decode prog_31_method_1_code 90 = .ok (.putfield 18, 3) := by decide +kernel
theorem d4_93 : decode prog_31_method_1_code 93 = .ok (.aload_n 0, 1) := by decide +kernel
theorem d4_94 : decode prog_31_method_1_code 94 = .ok (.lload_n 3, 1) := by decide +kernel
theorem d4_95 : decode prog_31_method_1_code 95 = .ok (.putfield 24, 3) := by decide +kernel
theorem d4_98 : decode prog_31_method_1_code 98 = .ok (.aload_n 0, 1) := by decide +kernel
theorem d4_99 : decode prog_31_method_1_code 99 = .ok (.aload 5, 2) := by decide +kernel
theorem d4_101 : decode prog_31_method_1_code 101 = .ok (.invokevirtual 27, 3) := by decide +kernel
theorem d4_104 : decode prog_31_method_1_code 104 = .ok (.checkcast 28, 3) := by decide +kernel
theorem d4_107 : decode prog_31_method_1_code 107 = .ok (.putfield 33, 3) := by decide +kernel
theorem d4_110 : decode prog_31_method_1_code 110 = .ok (.return_, 1) := by decide +kernel
theorem pn_4 : plainName "com/example/stratum/stratum/search/Statistics" = true := by first | (simp [plainName, overriddenIn]; done) | decide +kernel
theorem ef_4 (m : MethodId) (a1 : Addr) (q2 : Int64) (q3 : Int64) (a4 : Addr) : entryFrame m #[(.ref a1), (.long q2), (.long q3), (.ref a4)] 11 = mkF m 0 #[.val (.ref a1), .val (.long q2), .second, .val (.long q3), .second, .val (.ref a4), .unset, .unset, .unset, .unset, .unset] [] := by first | (simp [entryFrame, mkF, argsToLocals, Value.category]; done) | rfl
def Q4 (Z : State) (a1 : Addr) (q2 : Int64) (q3 : Int64) (a4 : Addr) (k1 : ClassId) (n1 : Int32) (m0 : Int64) (m1 : Int64) (h0 : Heap) (n0 : Nat) (v : Option Value) (h : Heap) (L : List Loc) : Prop := ∃ (t1 : Addr), ∃ (k_t1 : ClassId), v = none ∧ Fr n0 L ∧ Keep h0 h [a1] ∧ h0.size ≤ t1 ∧ (Arv Z h t1 k_t1 .long n1 [(.long m0), (.long m1)] (.long (0 : Int64))) ∧ (Exa Z h a1 "com/example/stratum/stratum/search/Statistics") ∧ (Exa Z h t1 "[J") ∧ (Fld Z h a1 "com/example/stratum/stratum/search/Statistics" "documents" "J" (.long q2)) ∧ (Fld Z h a1 "com/example/stratum/stratum/search/Statistics" "length" "J" (.long q3)) ∧ (Fld Z h a1 "com/example/stratum/stratum/search/Statistics" "matching" "[J" (.ref t1))
set_option maxRecDepth 65536 in
set_option maxHeartbeats 40000000 in
theorem rm4 (l : Launch) (Z : State) (a0 : Array Value) (hw : ∀ d ∈ tables_1, d.before a0 Z = true) (ws : List Jvm.Cond) (a1 : Addr) (q2 : Int64) (q3 : Int64) (a4 : Addr) (k1 : ClassId) (n1 : Int32) (m0 : Int64) (m1 : Int64) (h0 : Heap) (n0 : Nat) (Z0 : n0 ≤ h0.size) (E_a1 : Exa Z h0 a1 "com/example/stratum/stratum/search/Statistics") (G_a1 : n0 ≤ a1) (F_a1_documents : Fld Z h0 a1 "com/example/stratum/stratum/search/Statistics" "documents" "J" (.long (0 : Int64))) (F_a1_length : Fld Z h0 a1 "com/example/stratum/stratum/search/Statistics" "length" "J" (.long (0 : Int64))) (F_a1_matching : Fld Z h0 a1 "com/example/stratum/stratum/search/Statistics" "matching" "[J" .null) (A_a4 : Arv Z h0 a4 k1 .long n1 [(.long m0), (.long m1)] (.long (0 : Int64))) (E_a4 : Exa Z h0 a4 "[J") (hd : ¬ q2 < 0) (hl : ¬ q3 < 0) (hn : own_len3 n1) (hm0 : (0 : Int32) < n1 → ¬ m0 < 0 ∧ ¬ q2 < m0) (hm1 : (1 : Int32) < n1 → ¬ m1 < 0 ∧ ¬ q2 < m1) :
    MetFree l (⟨"com/example/stratum/stratum/search/Statistics", "<init>", "(JJ[J)V"⟩ : MethodName) (head1 (Jvm.Cond.code (⟨"com/example/stratum/stratum/search/Statistics", "<init>", "(JJ[J)V"⟩ : MethodName) prog_31_method_1_code 11 none :: ws) ({ frames := 1, cells := 1, slots := 2, locals := 15 } : Room)) (fun a U => a = #[(.ref a1), (.long q2), (.long q3), (.ref a4)] ∧ Z.Warmed39 U.vm ∧ U.heap = h0) (fun _ _ _ _ _ => True) (fun _ U o U' => ∃ v L, o = .returned v ∧ Q4 Z a1 q2 q3 a4 k1 n1 m0 m1 h0 n0 v U'.heap L ∧ FrameEnd U o U' L ({ frames := 1, cells := 1, slots := 2, locals := 15 } : Room).cells ({ frames := 1, cells := 1, slots := 2, locals := 15 } : Room).slots) := by
  refine MetFree.of_bodySF (plainFor_of_name pn_4) hisR ?_
  intro p e s m args below meth c s₁ Bd hml0 hP hK
  obtain ⟨rfl, hZ, hh⟩ := hP
  have hx := Bd.exec
  have hby := Bd.bytes
  have hml : c.maxLocals = 11 := hml0
  have hown : s.vm.findClass "com/example/stratum/stratum/search/Statistics" = some m.cls := findClass_of_methodNamed Bd.named
  have hnm := (name_of_methodNamed Bd.named Bd.method).1
  have X0 : Stand p l e ({ frames := 1, cells := 1, slots := 2, locals := 15 } : Room) s m #[(.ref a1), (.long q2), (.long q3), (.ref a4)] below meth c s₁ [] 0 0 := Stand.of_body Bd
  have e0 : s₁.heap = h0 := by rw [← hh, Bd.state]; rfl
  have N0 := Fr.nil n0
  have pre0 : ∀ t, Steps p.tables e below (s₁.setTop (mkF m 0 #[.val (.ref a1), .val (.long q2), .second, .val (.long q3), .second, .val (.ref a4), .unset, .unset, .unset, .unset, .unset] [])) t → Steps p.tables e below (s₁.setTop (entryFrame m #[(.ref a1), (.long q2), (.long q3), (.ref a4)] 11)) t := fun t k => castTop (ef_4 m a1 q2 q3 a4) k
  refine own_step (Q := fun o U' => ∃ v L, o = .returned v ∧ Q4 Z a1 q2 q3 a4 k1 n1 m0 m1 h0 n0 v U'.heap L ∧ FrameEnd s o U' L ({ frames := 1, cells := 1, slots := 2, locals := 15 } : Room).cells ({ frames := 1, cells := 1, slots := 2, locals := 15 } : Room).slots) pre0 ?_
  have K0 : Keep h0 h0 [a1] := Keep.refl h0 [a1]
  obtain ⟨T1, X1, e1, st1⟩ := initO X0 hx hZ hown (hw _ (List.mem_of_getElem? (i := 20) rfl)) (hw _ (List.mem_of_getElem? (i := 21) rfl)) (hw _ (List.mem_of_getElem? (i := 22) rfl)) e0 (g := (mkF m 1 #[.val (.ref a1), .val (.long q2), .second, .val (.long q3), .second, .val (.ref a4), .unset, .unset, .unset, .unset, .unset] [(.ref a1)])) rfl (by rw [hml]; rfl) rfl (hb hby d4_1) (by decide) (W := 0) (by show 2 * 0 + _ ≤ _; exact Nat.le_of_eq rfl) (by decide)
  have h2 : ¬ (q2 < (0 : Int64)) := hd
  have h3 : ¬ (q3 < (0 : Int64)) := hl
  obtain ⟨cl4, Ar4, -, S4, M4, -, -⟩ := id A_a4
  refine own_step (B := T1.setTop (mkF m 42 #[.val (.ref a1), .val (.long q2), .second, .val (.long q3), .second, .val (.ref a4), .val (.ref a4), .val (.int n1), .val (.int (0 : Int32)), .unset, .unset] [(.int n1), (.int (0 : Int32))])) (fun t k => ?_) ?_
  · show Steps p.tables e below (s₁.setTop (mkF m 0 #[.val (.ref a1), .val (.long q2), .second, .val (.long q3), .second, .val (.ref a4), .unset, .unset, .unset, .unset, .unset] [])) _
    refine XS.aloadN X0.here hx rfl (hb hby d4_0) rfl rfl ?_
    show Steps p.tables e below (s₁.setTop (mkF m 1 #[.val (.ref a1), .val (.long q2), .second, .val (.long q3), .second, .val (.ref a4), .unset, .unset, .unset, .unset, .unset] [(.ref a1)])) _
    refine st1 _ ?_
    show Steps p.tables e below (T1.setTop (mkF m 4 #[.val (.ref a1), .val (.long q2), .second, .val (.long q3), .second, .val (.ref a4), .unset, .unset, .unset, .unset, .unset] [])) _
    refine XT.lloadN X1.here hx rfl (hb hby d4_4) rfl ?_
    show Steps p.tables e below (T1.setTop (mkF m 5 #[.val (.ref a1), .val (.long q2), .second, .val (.long q3), .second, .val (.ref a4), .unset, .unset, .unset, .unset, .unset] [(.long q2)])) _
    refine XT.lconst X1.here hx rfl (hb hby d4_5) ?_
    show Steps p.tables e below (T1.setTop (mkF m 6 #[.val (.ref a1), .val (.long q2), .second, .val (.long q3), .second, .val (.ref a4), .unset, .unset, .unset, .unset, .unset] [(.long (0 : Int64)), (.long q2)])) _
    refine XT.lcmp X1.here hx rfl (hb hby d4_6) rfl ?_
    show Steps p.tables e below (T1.setTop (mkF m 7 #[.val (.ref a1), .val (.long q2), .second, .val (.long q3), .second, .val (.ref a4), .unset, .unset, .unset, .unset, .unset] [(.int (XT.cmpL q2 (0 : Int64)))])) _
    refine XS.ifNo X1.here hx rfl (hb hby d4_7) rfl ((if0 _ _).trans (flt (mt (own_cl _ _).mp h2)).1) ?_
    show Steps p.tables e below (T1.setTop (mkF m 10 #[.val (.ref a1), .val (.long q2), .second, .val (.long q3), .second, .val (.ref a4), .unset, .unset, .unset, .unset, .unset] [])) _
    refine XT.lloadN X1.here hx rfl (hb hby d4_10) rfl ?_
    show Steps p.tables e below (T1.setTop (mkF m 11 #[.val (.ref a1), .val (.long q2), .second, .val (.long q3), .second, .val (.ref a4), .unset, .unset, .unset, .unset, .unset] [(.long q3)])) _
    refine XT.lconst X1.here hx rfl (hb hby d4_11) ?_
    show Steps p.tables e below (T1.setTop (mkF m 12 #[.val (.ref a1), .val (.long q2), .second, .val (.long q3), .second, .val (.ref a4), .unset, .unset, .unset, .unset, .unset] [(.long (0 : Int64)), (.long q3)])) _
    refine XT.lcmp X1.here hx rfl (hb hby d4_12) rfl ?_
    show Steps p.tables e below (T1.setTop (mkF m 13 #[.val (.ref a1), .val (.long q2), .second, .val (.long q3), .second, .val (.ref a4), .unset, .unset, .unset, .unset, .unset] [(.int (XT.cmpL q3 (0 : Int64)))])) _
    refine XS.ifYes X1.here hx rfl (pc0 := 13) (pc' := 26) rfl (hb hby d4_13) rfl ((if0 _ _).trans (flt (mt (own_cl _ _).mp h3)).2.1) (by decide) (by decide) ?_
    show Steps p.tables e below (T1.setTop (mkF m 26 #[.val (.ref a1), .val (.long q2), .second, .val (.long q3), .second, .val (.ref a4), .unset, .unset, .unset, .unset, .unset] [])) _
    refine XS.aload X1.here hx rfl (hb hby d4_26) rfl rfl ?_
    show Steps p.tables e below (T1.setTop (mkF m 28 #[.val (.ref a1), .val (.long q2), .second, .val (.long q3), .second, .val (.ref a4), .unset, .unset, .unset, .unset, .unset] [(.ref a4)])) _
    refine XS.astore X1.here hx rfl (hb hby d4_28) rfl rfl (l' := #[.val (.ref a1), .val (.long q2), .second, .val (.long q3), .second, .val (.ref a4), .val (.ref a4), .unset, .unset, .unset, .unset]) rfl ?_
    show Steps p.tables e below (T1.setTop (mkF m 30 #[.val (.ref a1), .val (.long q2), .second, .val (.long q3), .second, .val (.ref a4), .val (.ref a4), .unset, .unset, .unset, .unset] [])) _
    refine XS.aload X1.here hx rfl (hb hby d4_30) rfl rfl ?_
    show Steps p.tables e below (T1.setTop (mkF m 32 #[.val (.ref a1), .val (.long q2), .second, .val (.long q3), .second, .val (.ref a4), .val (.ref a4), .unset, .unset, .unset, .unset] [(.ref a4)])) _
    refine X1.arraylength hx (by rw [e1]; exact Ar4.1) (State.isArrayOf_alike hZ.alike Ar4.2.1) (g := (mkF m 32 #[.val (.ref a1), .val (.long q2), .second, .val (.long q3), .second, .val (.ref a4), .val (.ref a4), .unset, .unset, .unset, .unset] [(.ref a4)])) rfl rfl (hb hby d4_32) _ ?_
    rw [len_of S4 M4]
    show Steps p.tables e below (T1.setTop (mkF m 33 #[.val (.ref a1), .val (.long q2), .second, .val (.long q3), .second, .val (.ref a4), .val (.ref a4), .unset, .unset, .unset, .unset] [(.int n1)])) _
    refine XS.istore X1.here hx rfl (hb hby d4_33) rfl (l' := #[.val (.ref a1), .val (.long q2), .second, .val (.long q3), .second, .val (.ref a4), .val (.ref a4), .val (.int n1), .unset, .unset, .unset]) rfl ?_
    show Steps p.tables e below (T1.setTop (mkF m 35 #[.val (.ref a1), .val (.long q2), .second, .val (.long q3), .second, .val (.ref a4), .val (.ref a4), .val (.int n1), .unset, .unset, .unset] [])) _
    refine XS.iconst X1.here hx rfl (hb hby d4_35) ?_
    show Steps p.tables e below (T1.setTop (mkF m 36 #[.val (.ref a1), .val (.long q2), .second, .val (.long q3), .second, .val (.ref a4), .val (.ref a4), .val (.int n1), .unset, .unset, .unset] [(.int (0 : Int32))])) _
    refine XS.istore X1.here hx rfl (hb hby d4_36) rfl (l' := #[.val (.ref a1), .val (.long q2), .second, .val (.long q3), .second, .val (.ref a4), .val (.ref a4), .val (.int n1), .val (.int (0 : Int32)), .unset, .unset]) rfl ?_
    show Steps p.tables e below (T1.setTop (mkF m 38 #[.val (.ref a1), .val (.long q2), .second, .val (.long q3), .second, .val (.ref a4), .val (.ref a4), .val (.int n1), .val (.int (0 : Int32)), .unset, .unset] [])) _
    refine XS.iload X1.here hx rfl (hb hby d4_38) rfl ?_
    show Steps p.tables e below (T1.setTop (mkF m 40 #[.val (.ref a1), .val (.long q2), .second, .val (.long q3), .second, .val (.ref a4), .val (.ref a4), .val (.int n1), .val (.int (0 : Int32)), .unset, .unset] [(.int (0 : Int32))])) _
    refine XS.iload X1.here hx rfl (hb hby d4_40) rfl ?_
    exact k
  by_cases h5 : (0 : Int32) < n1
  · obtain ⟨cl6, Ar6, -, S6, M6, H6, -⟩ := id A_a4
    have hin6 := inb_of (j := (0 : Int32)) S6 ⟨by decide, h5⟩
    have hat6 := H6.at hin6 (v := (.long m0)) (rfl)
    have h7 : ¬ (m0 < (0 : Int64)) := (hm0 h5).1
    have h8 : ¬ (q2 < m0) := (hm0 h5).2
    refine own_step (B := T1.setTop (mkF m 42 #[.val (.ref a1), .val (.long q2), .second, .val (.long q3), .second, .val (.ref a4), .val (.ref a4), .val (.int n1), .val (.int (1 : Int32)), .val (.long m0), .second] [(.int n1), (.int (1 : Int32))])) (fun t k => ?_) ?_
    · show Steps p.tables e below (T1.setTop (mkF m 42 #[.val (.ref a1), .val (.long q2), .second, .val (.long q3), .second, .val (.ref a4), .val (.ref a4), .val (.int n1), .val (.int (0 : Int32)), .unset, .unset] [(.int n1), (.int (0 : Int32))])) _
      refine XS.icmpNo X1.here hx rfl (hb hby d4_42) rfl (tlt h5).2.1 ?_
      show Steps p.tables e below (T1.setTop (mkF m 45 #[.val (.ref a1), .val (.long q2), .second, .val (.long q3), .second, .val (.ref a4), .val (.ref a4), .val (.int n1), .val (.int (0 : Int32)), .unset, .unset] [])) _
      refine XS.aload X1.here hx rfl (hb hby d4_45) rfl rfl ?_
      show Steps p.tables e below (T1.setTop (mkF m 47 #[.val (.ref a1), .val (.long q2), .second, .val (.long q3), .second, .val (.ref a4), .val (.ref a4), .val (.int n1), .val (.int (0 : Int32)), .unset, .unset] [(.ref a4)])) _
      refine XS.iload X1.here hx rfl (hb hby d4_47) rfl ?_
      show Steps p.tables e below (T1.setTop (mkF m 49 #[.val (.ref a1), .val (.long q2), .second, .val (.long q3), .second, .val (.ref a4), .val (.ref a4), .val (.int n1), .val (.int (0 : Int32)), .unset, .unset] [(.int (0 : Int32)), (.ref a4)])) _
      refine X1.laload hx (j := (0 : Int32)) (v := (.long m0)) (by rw [e1]; exact Ar6.1) (State.isArrayOf_alike hZ.alike Ar6.2.1) Ar6.2.2 hin6 hat6 (g := (mkF m 49 #[.val (.ref a1), .val (.long q2), .second, .val (.long q3), .second, .val (.ref a4), .val (.ref a4), .val (.int n1), .val (.int (0 : Int32)), .unset, .unset] [(.int (0 : Int32)), (.ref a4)])) rfl rfl (hb hby d4_49) _ ?_
      show Steps p.tables e below (T1.setTop (mkF m 50 #[.val (.ref a1), .val (.long q2), .second, .val (.long q3), .second, .val (.ref a4), .val (.ref a4), .val (.int n1), .val (.int (0 : Int32)), .unset, .unset] [(.long m0)])) _
      refine XT.lstore X1.here hx rfl (hb hby d4_50) rfl (l' := #[.val (.ref a1), .val (.long q2), .second, .val (.long q3), .second, .val (.ref a4), .val (.ref a4), .val (.int n1), .val (.int (0 : Int32)), .val (.long m0), .second]) rfl ?_
      show Steps p.tables e below (T1.setTop (mkF m 52 #[.val (.ref a1), .val (.long q2), .second, .val (.long q3), .second, .val (.ref a4), .val (.ref a4), .val (.int n1), .val (.int (0 : Int32)), .val (.long m0), .second] [])) _
      refine XT.lload X1.here hx rfl (hb hby d4_52) rfl ?_
      show Steps p.tables e below (T1.setTop (mkF m 54 #[.val (.ref a1), .val (.long q2), .second, .val (.long q3), .second, .val (.ref a4), .val (.ref a4), .val (.int n1), .val (.int (0 : Int32)), .val (.long m0), .second] [(.long m0)])) _
      refine XT.lconst X1.here hx rfl (hb hby d4_54) ?_
      show Steps p.tables e below (T1.setTop (mkF m 55 #[.val (.ref a1), .val (.long q2), .second, .val (.long q3), .second, .val (.ref a4), .val (.ref a4), .val (.int n1), .val (.int (0 : Int32)), .val (.long m0), .second] [(.long (0 : Int64)), (.long m0)])) _
      refine XT.lcmp X1.here hx rfl (hb hby d4_55) rfl ?_
      show Steps p.tables e below (T1.setTop (mkF m 56 #[.val (.ref a1), .val (.long q2), .second, .val (.long q3), .second, .val (.ref a4), .val (.ref a4), .val (.int n1), .val (.int (0 : Int32)), .val (.long m0), .second] [(.int (XT.cmpL m0 (0 : Int64)))])) _
      refine XS.ifNo X1.here hx rfl (hb hby d4_56) rfl ((if0 _ _).trans (flt (mt (own_cl _ _).mp h7)).1) ?_
      show Steps p.tables e below (T1.setTop (mkF m 59 #[.val (.ref a1), .val (.long q2), .second, .val (.long q3), .second, .val (.ref a4), .val (.ref a4), .val (.int n1), .val (.int (0 : Int32)), .val (.long m0), .second] [])) _
      refine XT.lload X1.here hx rfl (hb hby d4_59) rfl ?_
      show Steps p.tables e below (T1.setTop (mkF m 61 #[.val (.ref a1), .val (.long q2), .second, .val (.long q3), .second, .val (.ref a4), .val (.ref a4), .val (.int n1), .val (.int (0 : Int32)), .val (.long m0), .second] [(.long m0)])) _
      refine XT.lloadN X1.here hx rfl (hb hby d4_61) rfl ?_
      show Steps p.tables e below (T1.setTop (mkF m 62 #[.val (.ref a1), .val (.long q2), .second, .val (.long q3), .second, .val (.ref a4), .val (.ref a4), .val (.int n1), .val (.int (0 : Int32)), .val (.long m0), .second] [(.long q2), (.long m0)])) _
      refine XT.lcmp X1.here hx rfl (hb hby d4_62) rfl ?_
      show Steps p.tables e below (T1.setTop (mkF m 63 #[.val (.ref a1), .val (.long q2), .second, .val (.long q3), .second, .val (.ref a4), .val (.ref a4), .val (.int n1), .val (.int (0 : Int32)), .val (.long m0), .second] [(.int (XT.cmpL m0 q2))])) _
      refine XS.ifYes X1.here hx rfl (pc0 := 63) (pc' := 82) rfl (hb hby d4_63) rfl ((if0 _ _).trans (flt (mt (own_cg _ _).mp h8)).2.2.2) (by decide) (by decide) ?_
      show Steps p.tables e below (T1.setTop (mkF m 82 #[.val (.ref a1), .val (.long q2), .second, .val (.long q3), .second, .val (.ref a4), .val (.ref a4), .val (.int n1), .val (.int (0 : Int32)), .val (.long m0), .second] [])) _
      refine XS.iinc X1.here hx rfl (hb hby d4_82) rfl (l' := #[.val (.ref a1), .val (.long q2), .second, .val (.long q3), .second, .val (.ref a4), .val (.ref a4), .val (.int n1), .val (.int (1 : Int32)), .val (.long m0), .second]) rfl ?_
      show Steps p.tables e below (T1.setTop (mkF m 85 #[.val (.ref a1), .val (.long q2), .second, .val (.long q3), .second, .val (.ref a4), .val (.ref a4), .val (.int n1), .val (.int (1 : Int32)), .val (.long m0), .second] [])) _
      refine XS.goto X1.here hx rfl (pc0 := 85) (pc' := 38) rfl (hb hby d4_85) (by decide) (by decide) ?_
      show Steps p.tables e below (T1.setTop (mkF m 38 #[.val (.ref a1), .val (.long q2), .second, .val (.long q3), .second, .val (.ref a4), .val (.ref a4), .val (.int n1), .val (.int (1 : Int32)), .val (.long m0), .second] [])) _
      refine XS.iload X1.here hx rfl (hb hby d4_38) rfl ?_
      show Steps p.tables e below (T1.setTop (mkF m 40 #[.val (.ref a1), .val (.long q2), .second, .val (.long q3), .second, .val (.ref a4), .val (.ref a4), .val (.int n1), .val (.int (1 : Int32)), .val (.long m0), .second] [(.int (1 : Int32))])) _
      refine XS.iload X1.here hx rfl (hb hby d4_40) rfl ?_
      exact k
    by_cases h9 : (1 : Int32) < n1
    · obtain ⟨cl10, Ar10, -, S10, M10, H10, -⟩ := id A_a4
      have hin10 := inb_of (j := (1 : Int32)) S10 ⟨by decide, h9⟩
      have hat10 := H10.at hin10 (v := (.long m1)) (rfl)
      have h11 : ¬ (m1 < (0 : Int64)) := (hm1 h9).1
      have h12 : ¬ (q2 < m1) := (hm1 h9).2
      have h13 : ¬ ((2 : Int32) < n1) := own_l2 hn
      obtain ⟨T14, h14, X14, e14, W14, st14⟩ := putF X1 hx hZ hown (host := "") (Or.inl (hw _ (List.mem_of_getElem? (i := 23) rfl))) Via.refl e1 F_a1_documents E_a1 (Or.inr ⟨(hw _ (List.mem_of_getElem? (i := 24) rfl)), rfl, hnm⟩) (hw _ (List.mem_of_getElem? (i := 10) rfl)) (ty := .long) (by decide) rfl rfl (g := (mkF m 90 #[.val (.ref a1), .val (.long q2), .second, .val (.long q3), .second, .val (.ref a4), .val (.ref a4), .val (.int n1), .val (.int (2 : Int32)), .val (.long m1), .second] [(.long q2), (.ref a1)])) rfl rfl (hb hby d4_90)
      have u14_0 := E_a1.wr W14
      have u14_1 := F_a1_documents.same W14
      have u14_2 := F_a1_length.other W14 (Or.inr (slot_ne (Or.inr (hw _ (List.mem_of_getElem? (i := 26) rfl))) (Or.inr (hw _ (List.mem_of_getElem? (i := 24) rfl))) (by decide) (t := .long) (t' := .long) (by decide) (by decide)))
      have u14_3 := F_a1_matching.other W14 (Or.inr (slot_ne (Or.inr (hw _ (List.mem_of_getElem? (i := 37) rfl))) (Or.inr (hw _ (List.mem_of_getElem? (i := 24) rfl))) (by decide) (t := (.array .long)) (t' := .long) (by decide) (by decide)))
      have u14_4 := A_a4.other W14 (ne_exa E_a4 E_a1 (by decide))
      have u14_5 := E_a4.wr W14
      have K14 := K0.wr W14 (Or.inl (List.mem_of_getElem? (i := 0) rfl))
      have Z14 : n0 ≤ h14.size := Nat.le_trans Z0 (Keep.of_wr W14).1
      have N14 := Fr.snoc X14 N0 G_a1
      obtain ⟨T15, h15, X15, e15, W15, st15⟩ := putF X14 hx hZ hown (host := "") (Or.inl (hw _ (List.mem_of_getElem? (i := 25) rfl))) Via.refl e14 u14_2 u14_0 (Or.inr ⟨(hw _ (List.mem_of_getElem? (i := 26) rfl)), rfl, hnm⟩) (hw _ (List.mem_of_getElem? (i := 10) rfl)) (ty := .long) (by decide) rfl rfl (g := (mkF m 95 #[.val (.ref a1), .val (.long q2), .second, .val (.long q3), .second, .val (.ref a4), .val (.ref a4), .val (.int n1), .val (.int (2 : Int32)), .val (.long m1), .second] [(.long q3), (.ref a1)])) rfl rfl (hb hby d4_95)
      have u15_0 := u14_0.wr W15
      have u15_1 := u14_1.other W15 (Or.inr (slot_ne (Or.inr (hw _ (List.mem_of_getElem? (i := 24) rfl))) (Or.inr (hw _ (List.mem_of_getElem? (i := 26) rfl))) (by decide) (t := .long) (t' := .long) (by decide) (by decide)))
      have u15_2 := u14_2.same W15
      have u15_3 := u14_3.other W15 (Or.inr (slot_ne (Or.inr (hw _ (List.mem_of_getElem? (i := 37) rfl))) (Or.inr (hw _ (List.mem_of_getElem? (i := 26) rfl))) (by decide) (t := (.array .long)) (t' := .long) (by decide) (by decide)))
      have u15_4 := u14_4.other W15 (ne_exa u14_5 u14_0 (by decide))
      have u15_5 := u14_5.wr W15
      have K15 := K14.wr W15 (Or.inl (List.mem_of_getElem? (i := 0) rfl))
      have Z15 : n0 ≤ h15.size := Nat.le_trans Z14 (Keep.of_wr W15).1
      have N15 := Fr.snoc X15 N14 G_a1
      obtain ⟨T16, h16, X16, e16, E16, A16, Ex16, st16⟩ := cloneH X15 hx hZ hown (hw _ (List.mem_of_getElem? (i := 27) rfl)) (hw _ (List.mem_of_getElem? (i := 28) rfl)) (hw _ (List.mem_of_getElem? (i := 32) rfl)) (hw _ (List.mem_of_getElem? (i := 30) rfl)) (hw _ (List.mem_of_getElem? (i := 31) rfl)) (hw _ (List.mem_of_getElem? (i := 33) rfl)) e15 (Arv.arh u15_4) u15_5 (g := (mkF m 101 #[.val (.ref a1), .val (.long q2), .second, .val (.long q3), .second, .val (.ref a4), .val (.ref a4), .val (.int n1), .val (.int (2 : Int32)), .val (.long m1), .second] [(.ref a4), (.ref a1)])) rfl (by rw [hml]; rfl) rfl (hb hby d4_101) (by decide) (W := 1) (cap := 2) (by show 2 * 0 + _ ≤ _; exact Nat.le_of_eq rfl) (by decide) (own_c2 hn) (by decide) (by decide)
      obtain ⟨o16, g16⟩ : ∃ z, z = h15.size := ⟨_, rfl⟩
      rw [← g16] at A16 Ex16 st16
      have ne16_1 : a1 ≠ o16 := Nat.ne_of_lt (Nat.lt_of_lt_of_le u15_0.lt (Nat.le_of_eq g16.symm))
      have ne16_2 : a4 ≠ o16 := Nat.ne_of_lt (Nat.lt_of_lt_of_le u15_4.lt (Nat.le_of_eq g16.symm))
      have u16_0 := u15_0.ext E16
      have u16_1 := u15_1.ext E16
      have u16_2 := u15_2.ext E16
      have u16_3 := u15_3.ext E16
      have u16_4 := u15_4.ext E16
      have u16_5 := u15_5.ext E16
      have ge16 : n0 ≤ o16 := Nat.le_trans Z15 (Nat.le_of_eq g16.symm)
      have Z16 : n0 ≤ h16.size := Nat.le_trans Z15 E16.1
      have sz16 : h0.size ≤ o16 := Nat.le_trans K15.1 (Nat.le_of_eq g16.symm)
      have K16 := K15.ext E16
      have V16 : Arv Z h16 o16 k1 .long n1 [(.long m0), (.long m1)] (.long (0 : Int64)) := A16
      obtain ⟨T17, X17, e17, st17⟩ := castY X16 hx hZ hown (hw _ (List.mem_of_getElem? (i := 34) rfl)) e16 (Ins.self Ex16) (g := (mkF m 104 #[.val (.ref a1), .val (.long q2), .second, .val (.long q3), .second, .val (.ref a4), .val (.ref a4), .val (.int n1), .val (.int (2 : Int32)), .val (.long m1), .second] [(.ref o16), (.ref a1)])) rfl rfl (hb hby d4_104)
      obtain ⟨T18, h18, X18, e18, W18, st18⟩ := putF X17 hx hZ hown (host := "") (Or.inl (hw _ (List.mem_of_getElem? (i := 36) rfl))) Via.refl e17 u16_3 u16_0 (Or.inr ⟨(hw _ (List.mem_of_getElem? (i := 37) rfl)), rfl, hnm⟩) (hw _ (List.mem_of_getElem? (i := 10) rfl)) (ty := (.array .long)) (by decide) rfl rfl (g := (mkF m 107 #[.val (.ref a1), .val (.long q2), .second, .val (.long q3), .second, .val (.ref a4), .val (.ref a4), .val (.int n1), .val (.int (2 : Int32)), .val (.long m1), .second] [(.ref o16), (.ref a1)])) rfl rfl (hb hby d4_107)
      have u18_0 := u16_0.wr W18
      have u18_1 := u16_1.other W18 (Or.inr (slot_ne (Or.inr (hw _ (List.mem_of_getElem? (i := 24) rfl))) (Or.inr (hw _ (List.mem_of_getElem? (i := 37) rfl))) (by decide) (t := .long) (t' := (.array .long)) (by decide) (by decide)))
      have u18_2 := u16_2.other W18 (Or.inr (slot_ne (Or.inr (hw _ (List.mem_of_getElem? (i := 26) rfl))) (Or.inr (hw _ (List.mem_of_getElem? (i := 37) rfl))) (by decide) (t := .long) (t' := (.array .long)) (by decide) (by decide)))
      have u18_3 := u16_3.same W18
      have u18_4 := u16_4.other W18 (ne_exa u16_5 u16_0 (by decide))
      have u18_5 := u16_5.wr W18
      have u18_6 := V16.other W18 (Ne.symm ne16_1)
      have u18_7 := Ex16.wr W18
      have K18 := K16.wr W18 (Or.inl (List.mem_of_getElem? (i := 0) rfl))
      have Z18 : n0 ≤ h18.size := Nat.le_trans Z16 (Keep.of_wr W18).1
      have N18 := Fr.snoc X18 N15 G_a1
      obtain ⟨fs, hr, hrun, hended, hW, hsame⟩ := X18.leave (v := none) (fun _ => rfl)
      refine ⟨_, _, ?_, hrun, hended, _, _, rfl, ?_, ⟨_, rfl⟩, hW, hsame.mono (by decide) (by decide)⟩
      · show Steps p.tables e below (T1.setTop (mkF m 42 #[.val (.ref a1), .val (.long q2), .second, .val (.long q3), .second, .val (.ref a4), .val (.ref a4), .val (.int n1), .val (.int (1 : Int32)), .val (.long m0), .second] [(.int n1), (.int (1 : Int32))])) _
        refine XS.icmpNo X1.here hx rfl (hb hby d4_42) rfl (tlt h9).2.1 ?_
        show Steps p.tables e below (T1.setTop (mkF m 45 #[.val (.ref a1), .val (.long q2), .second, .val (.long q3), .second, .val (.ref a4), .val (.ref a4), .val (.int n1), .val (.int (1 : Int32)), .val (.long m0), .second] [])) _
        refine XS.aload X1.here hx rfl (hb hby d4_45) rfl rfl ?_
        show Steps p.tables e below (T1.setTop (mkF m 47 #[.val (.ref a1), .val (.long q2), .second, .val (.long q3), .second, .val (.ref a4), .val (.ref a4), .val (.int n1), .val (.int (1 : Int32)), .val (.long m0), .second] [(.ref a4)])) _
        refine XS.iload X1.here hx rfl (hb hby d4_47) rfl ?_
        show Steps p.tables e below (T1.setTop (mkF m 49 #[.val (.ref a1), .val (.long q2), .second, .val (.long q3), .second, .val (.ref a4), .val (.ref a4), .val (.int n1), .val (.int (1 : Int32)), .val (.long m0), .second] [(.int (1 : Int32)), (.ref a4)])) _
        refine X1.laload hx (j := (1 : Int32)) (v := (.long m1)) (by rw [e1]; exact Ar10.1) (State.isArrayOf_alike hZ.alike Ar10.2.1) Ar10.2.2 hin10 hat10 (g := (mkF m 49 #[.val (.ref a1), .val (.long q2), .second, .val (.long q3), .second, .val (.ref a4), .val (.ref a4), .val (.int n1), .val (.int (1 : Int32)), .val (.long m0), .second] [(.int (1 : Int32)), (.ref a4)])) rfl rfl (hb hby d4_49) _ ?_
        show Steps p.tables e below (T1.setTop (mkF m 50 #[.val (.ref a1), .val (.long q2), .second, .val (.long q3), .second, .val (.ref a4), .val (.ref a4), .val (.int n1), .val (.int (1 : Int32)), .val (.long m0), .second] [(.long m1)])) _
        refine XT.lstore X1.here hx rfl (hb hby d4_50) rfl (l' := #[.val (.ref a1), .val (.long q2), .second, .val (.long q3), .second, .val (.ref a4), .val (.ref a4), .val (.int n1), .val (.int (1 : Int32)), .val (.long m1), .second]) rfl ?_
        show Steps p.tables e below (T1.setTop (mkF m 52 #[.val (.ref a1), .val (.long q2), .second, .val (.long q3), .second, .val (.ref a4), .val (.ref a4), .val (.int n1), .val (.int (1 : Int32)), .val (.long m1), .second] [])) _
        refine XT.lload X1.here hx rfl (hb hby d4_52) rfl ?_
        show Steps p.tables e below (T1.setTop (mkF m 54 #[.val (.ref a1), .val (.long q2), .second, .val (.long q3), .second, .val (.ref a4), .val (.ref a4), .val (.int n1), .val (.int (1 : Int32)), .val (.long m1), .second] [(.long m1)])) _
        refine XT.lconst X1.here hx rfl (hb hby d4_54) ?_
        show Steps p.tables e below (T1.setTop (mkF m 55 #[.val (.ref a1), .val (.long q2), .second, .val (.long q3), .second, .val (.ref a4), .val (.ref a4), .val (.int n1), .val (.int (1 : Int32)), .val (.long m1), .second] [(.long (0 : Int64)), (.long m1)])) _
        refine XT.lcmp X1.here hx rfl (hb hby d4_55) rfl ?_
        show Steps p.tables e below (T1.setTop (mkF m 56 #[.val (.ref a1), .val (.long q2), .second, .val (.long q3), .second, .val (.ref a4), .val (.ref a4), .val (.int n1), .val (.int (1 : Int32)), .val (.long m1), .second] [(.int (XT.cmpL m1 (0 : Int64)))])) _
        refine XS.ifNo X1.here hx rfl (hb hby d4_56) rfl ((if0 _ _).trans (flt (mt (own_cl _ _).mp h11)).1) ?_
        show Steps p.tables e below (T1.setTop (mkF m 59 #[.val (.ref a1), .val (.long q2), .second, .val (.long q3), .second, .val (.ref a4), .val (.ref a4), .val (.int n1), .val (.int (1 : Int32)), .val (.long m1), .second] [])) _
        refine XT.lload X1.here hx rfl (hb hby d4_59) rfl ?_
        show Steps p.tables e below (T1.setTop (mkF m 61 #[.val (.ref a1), .val (.long q2), .second, .val (.long q3), .second, .val (.ref a4), .val (.ref a4), .val (.int n1), .val (.int (1 : Int32)), .val (.long m1), .second] [(.long m1)])) _
        refine XT.lloadN X1.here hx rfl (hb hby d4_61) rfl ?_
        show Steps p.tables e below (T1.setTop (mkF m 62 #[.val (.ref a1), .val (.long q2), .second, .val (.long q3), .second, .val (.ref a4), .val (.ref a4), .val (.int n1), .val (.int (1 : Int32)), .val (.long m1), .second] [(.long q2), (.long m1)])) _
        refine XT.lcmp X1.here hx rfl (hb hby d4_62) rfl ?_
        show Steps p.tables e below (T1.setTop (mkF m 63 #[.val (.ref a1), .val (.long q2), .second, .val (.long q3), .second, .val (.ref a4), .val (.ref a4), .val (.int n1), .val (.int (1 : Int32)), .val (.long m1), .second] [(.int (XT.cmpL m1 q2))])) _
        refine XS.ifYes X1.here hx rfl (pc0 := 63) (pc' := 82) rfl (hb hby d4_63) rfl ((if0 _ _).trans (flt (mt (own_cg _ _).mp h12)).2.2.2) (by decide) (by decide) ?_
        show Steps p.tables e below (T1.setTop (mkF m 82 #[.val (.ref a1), .val (.long q2), .second, .val (.long q3), .second, .val (.ref a4), .val (.ref a4), .val (.int n1), .val (.int (1 : Int32)), .val (.long m1), .second] [])) _
        refine XS.iinc X1.here hx rfl (hb hby d4_82) rfl (l' := #[.val (.ref a1), .val (.long q2), .second, .val (.long q3), .second, .val (.ref a4), .val (.ref a4), .val (.int n1), .val (.int (2 : Int32)), .val (.long m1), .second]) rfl ?_
        show Steps p.tables e below (T1.setTop (mkF m 85 #[.val (.ref a1), .val (.long q2), .second, .val (.long q3), .second, .val (.ref a4), .val (.ref a4), .val (.int n1), .val (.int (2 : Int32)), .val (.long m1), .second] [])) _
        refine XS.goto X1.here hx rfl (pc0 := 85) (pc' := 38) rfl (hb hby d4_85) (by decide) (by decide) ?_
        show Steps p.tables e below (T1.setTop (mkF m 38 #[.val (.ref a1), .val (.long q2), .second, .val (.long q3), .second, .val (.ref a4), .val (.ref a4), .val (.int n1), .val (.int (2 : Int32)), .val (.long m1), .second] [])) _
        refine XS.iload X1.here hx rfl (hb hby d4_38) rfl ?_
        show Steps p.tables e below (T1.setTop (mkF m 40 #[.val (.ref a1), .val (.long q2), .second, .val (.long q3), .second, .val (.ref a4), .val (.ref a4), .val (.int n1), .val (.int (2 : Int32)), .val (.long m1), .second] [(.int (2 : Int32))])) _
        refine XS.iload X1.here hx rfl (hb hby d4_40) rfl ?_
        show Steps p.tables e below (T1.setTop (mkF m 42 #[.val (.ref a1), .val (.long q2), .second, .val (.long q3), .second, .val (.ref a4), .val (.ref a4), .val (.int n1), .val (.int (2 : Int32)), .val (.long m1), .second] [(.int n1), (.int (2 : Int32))])) _
        refine XS.icmpYes X1.here hx rfl (pc0 := 42) (pc' := 88) rfl (hb hby d4_42) rfl (flt h13).2.1 (by decide) (by decide) ?_
        show Steps p.tables e below (T1.setTop (mkF m 88 #[.val (.ref a1), .val (.long q2), .second, .val (.long q3), .second, .val (.ref a4), .val (.ref a4), .val (.int n1), .val (.int (2 : Int32)), .val (.long m1), .second] [])) _
        refine XS.aloadN X1.here hx rfl (hb hby d4_88) rfl rfl ?_
        show Steps p.tables e below (T1.setTop (mkF m 89 #[.val (.ref a1), .val (.long q2), .second, .val (.long q3), .second, .val (.ref a4), .val (.ref a4), .val (.int n1), .val (.int (2 : Int32)), .val (.long m1), .second] [(.ref a1)])) _
        refine XT.lloadN X1.here hx rfl (hb hby d4_89) rfl ?_
        show Steps p.tables e below (T1.setTop (mkF m 90 #[.val (.ref a1), .val (.long q2), .second, .val (.long q3), .second, .val (.ref a4), .val (.ref a4), .val (.int n1), .val (.int (2 : Int32)), .val (.long m1), .second] [(.long q2), (.ref a1)])) _
        refine st14 _ ?_
        show Steps p.tables e below (T14.setTop (mkF m 93 #[.val (.ref a1), .val (.long q2), .second, .val (.long q3), .second, .val (.ref a4), .val (.ref a4), .val (.int n1), .val (.int (2 : Int32)), .val (.long m1), .second] [])) _
        refine XS.aloadN X14.here hx rfl (hb hby d4_93) rfl rfl ?_
        show Steps p.tables e below (T14.setTop (mkF m 94 #[.val (.ref a1), .val (.long q2), .second, .val (.long q3), .second, .val (.ref a4), .val (.ref a4), .val (.int n1), .val (.int (2 : Int32)), .val (.long m1), .second] [(.ref a1)])) _
        refine XT.lloadN X14.here hx rfl (hb hby d4_94) rfl ?_
        show Steps p.tables e below (T14.setTop (mkF m 95 #[.val (.ref a1), .val (.long q2), .second, .val (.long q3), .second, .val (.ref a4), .val (.ref a4), .val (.int n1), .val (.int (2 : Int32)), .val (.long m1), .second] [(.long q3), (.ref a1)])) _
        refine st15 _ ?_
        show Steps p.tables e below (T15.setTop (mkF m 98 #[.val (.ref a1), .val (.long q2), .second, .val (.long q3), .second, .val (.ref a4), .val (.ref a4), .val (.int n1), .val (.int (2 : Int32)), .val (.long m1), .second] [])) _
        refine XS.aloadN X15.here hx rfl (hb hby d4_98) rfl rfl ?_
        show Steps p.tables e below (T15.setTop (mkF m 99 #[.val (.ref a1), .val (.long q2), .second, .val (.long q3), .second, .val (.ref a4), .val (.ref a4), .val (.int n1), .val (.int (2 : Int32)), .val (.long m1), .second] [(.ref a1)])) _
        refine XS.aload X15.here hx rfl (hb hby d4_99) rfl rfl ?_
        show Steps p.tables e below (T15.setTop (mkF m 101 #[.val (.ref a1), .val (.long q2), .second, .val (.long q3), .second, .val (.ref a4), .val (.ref a4), .val (.int n1), .val (.int (2 : Int32)), .val (.long m1), .second] [(.ref a4), (.ref a1)])) _
        refine st16 _ ?_
        show Steps p.tables e below (T16.setTop (mkF m 104 #[.val (.ref a1), .val (.long q2), .second, .val (.long q3), .second, .val (.ref a4), .val (.ref a4), .val (.int n1), .val (.int (2 : Int32)), .val (.long m1), .second] [(.ref o16), (.ref a1)])) _
        refine st17 _ ?_
        show Steps p.tables e below (T17.setTop (mkF m 107 #[.val (.ref a1), .val (.long q2), .second, .val (.long q3), .second, .val (.ref a4), .val (.ref a4), .val (.int n1), .val (.int (2 : Int32)), .val (.long m1), .second] [(.ref o16), (.ref a1)])) _
        refine st18 _ ?_
        show Steps p.tables e below (T18.setTop (mkF m 110 #[.val (.ref a1), .val (.long q2), .second, .val (.long q3), .second, .val (.ref a4), .val (.ref a4), .val (.int n1), .val (.int (2 : Int32)), .val (.long m1), .second] [])) _
        exact X18.returnOut hx Bd.returns (hb hby d4_110) hr
      · show Q4 Z a1 q2 q3 a4 k1 n1 m0 m1 h0 n0 _ T18.heap _
        rw [e18]
        exact ⟨o16, k1, rfl, N18, K18, sz16, u18_6, u18_0, u18_7, u18_1, u18_2, u18_3⟩
    · obtain ⟨T19, h19, X19, e19, W19, st19⟩ := putF X1 hx hZ hown (host := "") (Or.inl (hw _ (List.mem_of_getElem? (i := 23) rfl))) Via.refl e1 F_a1_documents E_a1 (Or.inr ⟨(hw _ (List.mem_of_getElem? (i := 24) rfl)), rfl, hnm⟩) (hw _ (List.mem_of_getElem? (i := 10) rfl)) (ty := .long) (by decide) rfl rfl (g := (mkF m 90 #[.val (.ref a1), .val (.long q2), .second, .val (.long q3), .second, .val (.ref a4), .val (.ref a4), .val (.int n1), .val (.int (1 : Int32)), .val (.long m0), .second] [(.long q2), (.ref a1)])) rfl rfl (hb hby d4_90)
      have u19_0 := E_a1.wr W19
      have u19_1 := F_a1_documents.same W19
      have u19_2 := F_a1_length.other W19 (Or.inr (slot_ne (Or.inr (hw _ (List.mem_of_getElem? (i := 26) rfl))) (Or.inr (hw _ (List.mem_of_getElem? (i := 24) rfl))) (by decide) (t := .long) (t' := .long) (by decide) (by decide)))
      have u19_3 := F_a1_matching.other W19 (Or.inr (slot_ne (Or.inr (hw _ (List.mem_of_getElem? (i := 37) rfl))) (Or.inr (hw _ (List.mem_of_getElem? (i := 24) rfl))) (by decide) (t := (.array .long)) (t' := .long) (by decide) (by decide)))
      have u19_4 := A_a4.other W19 (ne_exa E_a4 E_a1 (by decide))
      have u19_5 := E_a4.wr W19
      have K19 := K0.wr W19 (Or.inl (List.mem_of_getElem? (i := 0) rfl))
      have Z19 : n0 ≤ h19.size := Nat.le_trans Z0 (Keep.of_wr W19).1
      have N19 := Fr.snoc X19 N0 G_a1
      obtain ⟨T20, h20, X20, e20, W20, st20⟩ := putF X19 hx hZ hown (host := "") (Or.inl (hw _ (List.mem_of_getElem? (i := 25) rfl))) Via.refl e19 u19_2 u19_0 (Or.inr ⟨(hw _ (List.mem_of_getElem? (i := 26) rfl)), rfl, hnm⟩) (hw _ (List.mem_of_getElem? (i := 10) rfl)) (ty := .long) (by decide) rfl rfl (g := (mkF m 95 #[.val (.ref a1), .val (.long q2), .second, .val (.long q3), .second, .val (.ref a4), .val (.ref a4), .val (.int n1), .val (.int (1 : Int32)), .val (.long m0), .second] [(.long q3), (.ref a1)])) rfl rfl (hb hby d4_95)
      have u20_0 := u19_0.wr W20
      have u20_1 := u19_1.other W20 (Or.inr (slot_ne (Or.inr (hw _ (List.mem_of_getElem? (i := 24) rfl))) (Or.inr (hw _ (List.mem_of_getElem? (i := 26) rfl))) (by decide) (t := .long) (t' := .long) (by decide) (by decide)))
      have u20_2 := u19_2.same W20
      have u20_3 := u19_3.other W20 (Or.inr (slot_ne (Or.inr (hw _ (List.mem_of_getElem? (i := 37) rfl))) (Or.inr (hw _ (List.mem_of_getElem? (i := 26) rfl))) (by decide) (t := (.array .long)) (t' := .long) (by decide) (by decide)))
      have u20_4 := u19_4.other W20 (ne_exa u19_5 u19_0 (by decide))
      have u20_5 := u19_5.wr W20
      have K20 := K19.wr W20 (Or.inl (List.mem_of_getElem? (i := 0) rfl))
      have Z20 : n0 ≤ h20.size := Nat.le_trans Z19 (Keep.of_wr W20).1
      have N20 := Fr.snoc X20 N19 G_a1
      obtain ⟨T21, h21, X21, e21, E21, A21, Ex21, st21⟩ := cloneH X20 hx hZ hown (hw _ (List.mem_of_getElem? (i := 27) rfl)) (hw _ (List.mem_of_getElem? (i := 28) rfl)) (hw _ (List.mem_of_getElem? (i := 32) rfl)) (hw _ (List.mem_of_getElem? (i := 30) rfl)) (hw _ (List.mem_of_getElem? (i := 31) rfl)) (hw _ (List.mem_of_getElem? (i := 33) rfl)) e20 (Arv.arh u20_4) u20_5 (g := (mkF m 101 #[.val (.ref a1), .val (.long q2), .second, .val (.long q3), .second, .val (.ref a4), .val (.ref a4), .val (.int n1), .val (.int (1 : Int32)), .val (.long m0), .second] [(.ref a4), (.ref a1)])) rfl (by rw [hml]; rfl) rfl (hb hby d4_101) (by decide) (W := 1) (cap := 2) (by show 2 * 0 + _ ≤ _; exact Nat.le_of_eq rfl) (by decide) (own_c2 hn) (by decide) (by decide)
      obtain ⟨o21, g21⟩ : ∃ z, z = h20.size := ⟨_, rfl⟩
      rw [← g21] at A21 Ex21 st21
      have ne21_1 : a1 ≠ o21 := Nat.ne_of_lt (Nat.lt_of_lt_of_le u20_0.lt (Nat.le_of_eq g21.symm))
      have ne21_2 : a4 ≠ o21 := Nat.ne_of_lt (Nat.lt_of_lt_of_le u20_4.lt (Nat.le_of_eq g21.symm))
      have u21_0 := u20_0.ext E21
      have u21_1 := u20_1.ext E21
      have u21_2 := u20_2.ext E21
      have u21_3 := u20_3.ext E21
      have u21_4 := u20_4.ext E21
      have u21_5 := u20_5.ext E21
      have ge21 : n0 ≤ o21 := Nat.le_trans Z20 (Nat.le_of_eq g21.symm)
      have Z21 : n0 ≤ h21.size := Nat.le_trans Z20 E21.1
      have sz21 : h0.size ≤ o21 := Nat.le_trans K20.1 (Nat.le_of_eq g21.symm)
      have K21 := K20.ext E21
      have V21 : Arv Z h21 o21 k1 .long n1 [(.long m0), (.long m1)] (.long (0 : Int64)) := A21
      obtain ⟨T22, X22, e22, st22⟩ := castY X21 hx hZ hown (hw _ (List.mem_of_getElem? (i := 34) rfl)) e21 (Ins.self Ex21) (g := (mkF m 104 #[.val (.ref a1), .val (.long q2), .second, .val (.long q3), .second, .val (.ref a4), .val (.ref a4), .val (.int n1), .val (.int (1 : Int32)), .val (.long m0), .second] [(.ref o21), (.ref a1)])) rfl rfl (hb hby d4_104)
      obtain ⟨T23, h23, X23, e23, W23, st23⟩ := putF X22 hx hZ hown (host := "") (Or.inl (hw _ (List.mem_of_getElem? (i := 36) rfl))) Via.refl e22 u21_3 u21_0 (Or.inr ⟨(hw _ (List.mem_of_getElem? (i := 37) rfl)), rfl, hnm⟩) (hw _ (List.mem_of_getElem? (i := 10) rfl)) (ty := (.array .long)) (by decide) rfl rfl (g := (mkF m 107 #[.val (.ref a1), .val (.long q2), .second, .val (.long q3), .second, .val (.ref a4), .val (.ref a4), .val (.int n1), .val (.int (1 : Int32)), .val (.long m0), .second] [(.ref o21), (.ref a1)])) rfl rfl (hb hby d4_107)
      have u23_0 := u21_0.wr W23
      have u23_1 := u21_1.other W23 (Or.inr (slot_ne (Or.inr (hw _ (List.mem_of_getElem? (i := 24) rfl))) (Or.inr (hw _ (List.mem_of_getElem? (i := 37) rfl))) (by decide) (t := .long) (t' := (.array .long)) (by decide) (by decide)))
      have u23_2 := u21_2.other W23 (Or.inr (slot_ne (Or.inr (hw _ (List.mem_of_getElem? (i := 26) rfl))) (Or.inr (hw _ (List.mem_of_getElem? (i := 37) rfl))) (by decide) (t := .long) (t' := (.array .long)) (by decide) (by decide)))
      have u23_3 := u21_3.same W23
      have u23_4 := u21_4.other W23 (ne_exa u21_5 u21_0 (by decide))
      have u23_5 := u21_5.wr W23
      have u23_6 := V21.other W23 (Ne.symm ne21_1)
      have u23_7 := Ex21.wr W23
      have K23 := K21.wr W23 (Or.inl (List.mem_of_getElem? (i := 0) rfl))
      have Z23 : n0 ≤ h23.size := Nat.le_trans Z21 (Keep.of_wr W23).1
      have N23 := Fr.snoc X23 N20 G_a1
      obtain ⟨fs, hr, hrun, hended, hW, hsame⟩ := X23.leave (v := none) (fun _ => rfl)
      refine ⟨_, _, ?_, hrun, hended, _, _, rfl, ?_, ⟨_, rfl⟩, hW, hsame.mono (by decide) (by decide)⟩
      · show Steps p.tables e below (T1.setTop (mkF m 42 #[.val (.ref a1), .val (.long q2), .second, .val (.long q3), .second, .val (.ref a4), .val (.ref a4), .val (.int n1), .val (.int (1 : Int32)), .val (.long m0), .second] [(.int n1), (.int (1 : Int32))])) _
        refine XS.icmpYes X1.here hx rfl (pc0 := 42) (pc' := 88) rfl (hb hby d4_42) rfl (flt h9).2.1 (by decide) (by decide) ?_
        show Steps p.tables e below (T1.setTop (mkF m 88 #[.val (.ref a1), .val (.long q2), .second, .val (.long q3), .second, .val (.ref a4), .val (.ref a4), .val (.int n1), .val (.int (1 : Int32)), .val (.long m0), .second] [])) _
        refine XS.aloadN X1.here hx rfl (hb hby d4_88) rfl rfl ?_
        show Steps p.tables e below (T1.setTop (mkF m 89 #[.val (.ref a1), .val (.long q2), .second, .val (.long q3), .second, .val (.ref a4), .val (.ref a4), .val (.int n1), .val (.int (1 : Int32)), .val (.long m0), .second] [(.ref a1)])) _
        refine XT.lloadN X1.here hx rfl (hb hby d4_89) rfl ?_
        show Steps p.tables e below (T1.setTop (mkF m 90 #[.val (.ref a1), .val (.long q2), .second, .val (.long q3), .second, .val (.ref a4), .val (.ref a4), .val (.int n1), .val (.int (1 : Int32)), .val (.long m0), .second] [(.long q2), (.ref a1)])) _
        refine st19 _ ?_
        show Steps p.tables e below (T19.setTop (mkF m 93 #[.val (.ref a1), .val (.long q2), .second, .val (.long q3), .second, .val (.ref a4), .val (.ref a4), .val (.int n1), .val (.int (1 : Int32)), .val (.long m0), .second] [])) _
        refine XS.aloadN X19.here hx rfl (hb hby d4_93) rfl rfl ?_
        show Steps p.tables e below (T19.setTop (mkF m 94 #[.val (.ref a1), .val (.long q2), .second, .val (.long q3), .second, .val (.ref a4), .val (.ref a4), .val (.int n1), .val (.int (1 : Int32)), .val (.long m0), .second] [(.ref a1)])) _
        refine XT.lloadN X19.here hx rfl (hb hby d4_94) rfl ?_
        show Steps p.tables e below (T19.setTop (mkF m 95 #[.val (.ref a1), .val (.long q2), .second, .val (.long q3), .second, .val (.ref a4), .val (.ref a4), .val (.int n1), .val (.int (1 : Int32)), .val (.long m0), .second] [(.long q3), (.ref a1)])) _
        refine st20 _ ?_
        show Steps p.tables e below (T20.setTop (mkF m 98 #[.val (.ref a1), .val (.long q2), .second, .val (.long q3), .second, .val (.ref a4), .val (.ref a4), .val (.int n1), .val (.int (1 : Int32)), .val (.long m0), .second] [])) _
        refine XS.aloadN X20.here hx rfl (hb hby d4_98) rfl rfl ?_
        show Steps p.tables e below (T20.setTop (mkF m 99 #[.val (.ref a1), .val (.long q2), .second, .val (.long q3), .second, .val (.ref a4), .val (.ref a4), .val (.int n1), .val (.int (1 : Int32)), .val (.long m0), .second] [(.ref a1)])) _
        refine XS.aload X20.here hx rfl (hb hby d4_99) rfl rfl ?_
        show Steps p.tables e below (T20.setTop (mkF m 101 #[.val (.ref a1), .val (.long q2), .second, .val (.long q3), .second, .val (.ref a4), .val (.ref a4), .val (.int n1), .val (.int (1 : Int32)), .val (.long m0), .second] [(.ref a4), (.ref a1)])) _
        refine st21 _ ?_
        show Steps p.tables e below (T21.setTop (mkF m 104 #[.val (.ref a1), .val (.long q2), .second, .val (.long q3), .second, .val (.ref a4), .val (.ref a4), .val (.int n1), .val (.int (1 : Int32)), .val (.long m0), .second] [(.ref o21), (.ref a1)])) _
        refine st22 _ ?_
        show Steps p.tables e below (T22.setTop (mkF m 107 #[.val (.ref a1), .val (.long q2), .second, .val (.long q3), .second, .val (.ref a4), .val (.ref a4), .val (.int n1), .val (.int (1 : Int32)), .val (.long m0), .second] [(.ref o21), (.ref a1)])) _
        refine st23 _ ?_
        show Steps p.tables e below (T23.setTop (mkF m 110 #[.val (.ref a1), .val (.long q2), .second, .val (.long q3), .second, .val (.ref a4), .val (.ref a4), .val (.int n1), .val (.int (1 : Int32)), .val (.long m0), .second] [])) _
        exact X23.returnOut hx Bd.returns (hb hby d4_110) hr
      · show Q4 Z a1 q2 q3 a4 k1 n1 m0 m1 h0 n0 _ T23.heap _
        rw [e23]
        exact ⟨o21, k1, rfl, N23, K23, sz21, u23_6, u23_0, u23_7, u23_1, u23_2, u23_3⟩
  · obtain ⟨T24, h24, X24, e24, W24, st24⟩ := putF X1 hx hZ hown (host := "") (Or.inl (hw _ (List.mem_of_getElem? (i := 23) rfl))) Via.refl e1 F_a1_documents E_a1 (Or.inr ⟨(hw _ (List.mem_of_getElem? (i := 24) rfl)), rfl, hnm⟩) (hw _ (List.mem_of_getElem? (i := 10) rfl)) (ty := .long) (by decide) rfl rfl (g := (mkF m 90 #[.val (.ref a1), .val (.long q2), .second, .val (.long q3), .second, .val (.ref a4), .val (.ref a4), .val (.int n1), .val (.int (0 : Int32)), .unset, .unset] [(.long q2), (.ref a1)])) rfl rfl (hb hby d4_90)
    have u24_0 := E_a1.wr W24
    have u24_1 := F_a1_documents.same W24
    have u24_2 := F_a1_length.other W24 (Or.inr (slot_ne (Or.inr (hw _ (List.mem_of_getElem? (i := 26) rfl))) (Or.inr (hw _ (List.mem_of_getElem? (i := 24) rfl))) (by decide) (t := .long) (t' := .long) (by decide) (by decide)))
    have u24_3 := F_a1_matching.other W24 (Or.inr (slot_ne (Or.inr (hw _ (List.mem_of_getElem? (i := 37) rfl))) (Or.inr (hw _ (List.mem_of_getElem? (i := 24) rfl))) (by decide) (t := (.array .long)) (t' := .long) (by decide) (by decide)))
    have u24_4 := A_a4.other W24 (ne_exa E_a4 E_a1 (by decide))
    have u24_5 := E_a4.wr W24
    have K24 := K0.wr W24 (Or.inl (List.mem_of_getElem? (i := 0) rfl))
    have Z24 : n0 ≤ h24.size := Nat.le_trans Z0 (Keep.of_wr W24).1
    have N24 := Fr.snoc X24 N0 G_a1
    obtain ⟨T25, h25, X25, e25, W25, st25⟩ := putF X24 hx hZ hown (host := "") (Or.inl (hw _ (List.mem_of_getElem? (i := 25) rfl))) Via.refl e24 u24_2 u24_0 (Or.inr ⟨(hw _ (List.mem_of_getElem? (i := 26) rfl)), rfl, hnm⟩) (hw _ (List.mem_of_getElem? (i := 10) rfl)) (ty := .long) (by decide) rfl rfl (g := (mkF m 95 #[.val (.ref a1), .val (.long q2), .second, .val (.long q3), .second, .val (.ref a4), .val (.ref a4), .val (.int n1), .val (.int (0 : Int32)), .unset, .unset] [(.long q3), (.ref a1)])) rfl rfl (hb hby d4_95)
    have u25_0 := u24_0.wr W25
    have u25_1 := u24_1.other W25 (Or.inr (slot_ne (Or.inr (hw _ (List.mem_of_getElem? (i := 24) rfl))) (Or.inr (hw _ (List.mem_of_getElem? (i := 26) rfl))) (by decide) (t := .long) (t' := .long) (by decide) (by decide)))
    have u25_2 := u24_2.same W25
    have u25_3 := u24_3.other W25 (Or.inr (slot_ne (Or.inr (hw _ (List.mem_of_getElem? (i := 37) rfl))) (Or.inr (hw _ (List.mem_of_getElem? (i := 26) rfl))) (by decide) (t := (.array .long)) (t' := .long) (by decide) (by decide)))
    have u25_4 := u24_4.other W25 (ne_exa u24_5 u24_0 (by decide))
    have u25_5 := u24_5.wr W25
    have K25 := K24.wr W25 (Or.inl (List.mem_of_getElem? (i := 0) rfl))
    have Z25 : n0 ≤ h25.size := Nat.le_trans Z24 (Keep.of_wr W25).1
    have N25 := Fr.snoc X25 N24 G_a1
    obtain ⟨T26, h26, X26, e26, E26, A26, Ex26, st26⟩ := cloneH X25 hx hZ hown (hw _ (List.mem_of_getElem? (i := 27) rfl)) (hw _ (List.mem_of_getElem? (i := 28) rfl)) (hw _ (List.mem_of_getElem? (i := 32) rfl)) (hw _ (List.mem_of_getElem? (i := 30) rfl)) (hw _ (List.mem_of_getElem? (i := 31) rfl)) (hw _ (List.mem_of_getElem? (i := 33) rfl)) e25 (Arv.arh u25_4) u25_5 (g := (mkF m 101 #[.val (.ref a1), .val (.long q2), .second, .val (.long q3), .second, .val (.ref a4), .val (.ref a4), .val (.int n1), .val (.int (0 : Int32)), .unset, .unset] [(.ref a4), (.ref a1)])) rfl (by rw [hml]; rfl) rfl (hb hby d4_101) (by decide) (W := 1) (cap := 2) (by show 2 * 0 + _ ≤ _; exact Nat.le_of_eq rfl) (by decide) (own_c2 hn) (by decide) (by decide)
    obtain ⟨o26, g26⟩ : ∃ z, z = h25.size := ⟨_, rfl⟩
    rw [← g26] at A26 Ex26 st26
    have ne26_1 : a1 ≠ o26 := Nat.ne_of_lt (Nat.lt_of_lt_of_le u25_0.lt (Nat.le_of_eq g26.symm))
    have ne26_2 : a4 ≠ o26 := Nat.ne_of_lt (Nat.lt_of_lt_of_le u25_4.lt (Nat.le_of_eq g26.symm))
    have u26_0 := u25_0.ext E26
    have u26_1 := u25_1.ext E26
    have u26_2 := u25_2.ext E26
    have u26_3 := u25_3.ext E26
    have u26_4 := u25_4.ext E26
    have u26_5 := u25_5.ext E26
    have ge26 : n0 ≤ o26 := Nat.le_trans Z25 (Nat.le_of_eq g26.symm)
    have Z26 : n0 ≤ h26.size := Nat.le_trans Z25 E26.1
    have sz26 : h0.size ≤ o26 := Nat.le_trans K25.1 (Nat.le_of_eq g26.symm)
    have K26 := K25.ext E26
    have V26 : Arv Z h26 o26 k1 .long n1 [(.long m0), (.long m1)] (.long (0 : Int64)) := A26
    obtain ⟨T27, X27, e27, st27⟩ := castY X26 hx hZ hown (hw _ (List.mem_of_getElem? (i := 34) rfl)) e26 (Ins.self Ex26) (g := (mkF m 104 #[.val (.ref a1), .val (.long q2), .second, .val (.long q3), .second, .val (.ref a4), .val (.ref a4), .val (.int n1), .val (.int (0 : Int32)), .unset, .unset] [(.ref o26), (.ref a1)])) rfl rfl (hb hby d4_104)
    obtain ⟨T28, h28, X28, e28, W28, st28⟩ := putF X27 hx hZ hown (host := "") (Or.inl (hw _ (List.mem_of_getElem? (i := 36) rfl))) Via.refl e27 u26_3 u26_0 (Or.inr ⟨(hw _ (List.mem_of_getElem? (i := 37) rfl)), rfl, hnm⟩) (hw _ (List.mem_of_getElem? (i := 10) rfl)) (ty := (.array .long)) (by decide) rfl rfl (g := (mkF m 107 #[.val (.ref a1), .val (.long q2), .second, .val (.long q3), .second, .val (.ref a4), .val (.ref a4), .val (.int n1), .val (.int (0 : Int32)), .unset, .unset] [(.ref o26), (.ref a1)])) rfl rfl (hb hby d4_107)
    have u28_0 := u26_0.wr W28
    have u28_1 := u26_1.other W28 (Or.inr (slot_ne (Or.inr (hw _ (List.mem_of_getElem? (i := 24) rfl))) (Or.inr (hw _ (List.mem_of_getElem? (i := 37) rfl))) (by decide) (t := .long) (t' := (.array .long)) (by decide) (by decide)))
    have u28_2 := u26_2.other W28 (Or.inr (slot_ne (Or.inr (hw _ (List.mem_of_getElem? (i := 26) rfl))) (Or.inr (hw _ (List.mem_of_getElem? (i := 37) rfl))) (by decide) (t := .long) (t' := (.array .long)) (by decide) (by decide)))
    have u28_3 := u26_3.same W28
    have u28_4 := u26_4.other W28 (ne_exa u26_5 u26_0 (by decide))
    have u28_5 := u26_5.wr W28
    have u28_6 := V26.other W28 (Ne.symm ne26_1)
    have u28_7 := Ex26.wr W28
    have K28 := K26.wr W28 (Or.inl (List.mem_of_getElem? (i := 0) rfl))
    have Z28 : n0 ≤ h28.size := Nat.le_trans Z26 (Keep.of_wr W28).1
    have N28 := Fr.snoc X28 N25 G_a1
    obtain ⟨fs, hr, hrun, hended, hW, hsame⟩ := X28.leave (v := none) (fun _ => rfl)
    refine ⟨_, _, ?_, hrun, hended, _, _, rfl, ?_, ⟨_, rfl⟩, hW, hsame.mono (by decide) (by decide)⟩
    · show Steps p.tables e below (T1.setTop (mkF m 42 #[.val (.ref a1), .val (.long q2), .second, .val (.long q3), .second, .val (.ref a4), .val (.ref a4), .val (.int n1), .val (.int (0 : Int32)), .unset, .unset] [(.int n1), (.int (0 : Int32))])) _
      refine XS.icmpYes X1.here hx rfl (pc0 := 42) (pc' := 88) rfl (hb hby d4_42) rfl (flt h5).2.1 (by decide) (by decide) ?_
      show Steps p.tables e below (T1.setTop (mkF m 88 #[.val (.ref a1), .val (.long q2), .second, .val (.long q3), .second, .val (.ref a4), .val (.ref a4), .val (.int n1), .val (.int (0 : Int32)), .unset, .unset] [])) _
      refine XS.aloadN X1.here hx rfl (hb hby d4_88) rfl rfl ?_
      show Steps p.tables e below (T1.setTop (mkF m 89 #[.val (.ref a1), .val (.long q2), .second, .val (.long q3), .second, .val (.ref a4), .val (.ref a4), .val (.int n1), .val (.int (0 : Int32)), .unset, .unset] [(.ref a1)])) _
      refine XT.lloadN X1.here hx rfl (hb hby d4_89) rfl ?_
      show Steps p.tables e below (T1.setTop (mkF m 90 #[.val (.ref a1), .val (.long q2), .second, .val (.long q3), .second, .val (.ref a4), .val (.ref a4), .val (.int n1), .val (.int (0 : Int32)), .unset, .unset] [(.long q2), (.ref a1)])) _
      refine st24 _ ?_
      show Steps p.tables e below (T24.setTop (mkF m 93 #[.val (.ref a1), .val (.long q2), .second, .val (.long q3), .second, .val (.ref a4), .val (.ref a4), .val (.int n1), .val (.int (0 : Int32)), .unset, .unset] [])) _
      refine XS.aloadN X24.here hx rfl (hb hby d4_93) rfl rfl ?_
      show Steps p.tables e below (T24.setTop (mkF m 94 #[.val (.ref a1), .val (.long q2), .second, .val (.long q3), .second, .val (.ref a4), .val (.ref a4), .val (.int n1), .val (.int (0 : Int32)), .unset, .unset] [(.ref a1)])) _
      refine XT.lloadN X24.here hx rfl (hb hby d4_94) rfl ?_
      show Steps p.tables e below (T24.setTop (mkF m 95 #[.val (.ref a1), .val (.long q2), .second, .val (.long q3), .second, .val (.ref a4), .val (.ref a4), .val (.int n1), .val (.int (0 : Int32)), .unset, .unset] [(.long q3), (.ref a1)])) _
      refine st25 _ ?_
      show Steps p.tables e below (T25.setTop (mkF m 98 #[.val (.ref a1), .val (.long q2), .second, .val (.long q3), .second, .val (.ref a4), .val (.ref a4), .val (.int n1), .val (.int (0 : Int32)), .unset, .unset] [])) _
      refine XS.aloadN X25.here hx rfl (hb hby d4_98) rfl rfl ?_
      show Steps p.tables e below (T25.setTop (mkF m 99 #[.val (.ref a1), .val (.long q2), .second, .val (.long q3), .second, .val (.ref a4), .val (.ref a4), .val (.int n1), .val (.int (0 : Int32)), .unset, .unset] [(.ref a1)])) _
      refine XS.aload X25.here hx rfl (hb hby d4_99) rfl rfl ?_
      show Steps p.tables e below (T25.setTop (mkF m 101 #[.val (.ref a1), .val (.long q2), .second, .val (.long q3), .second, .val (.ref a4), .val (.ref a4), .val (.int n1), .val (.int (0 : Int32)), .unset, .unset] [(.ref a4), (.ref a1)])) _
      refine st26 _ ?_
      show Steps p.tables e below (T26.setTop (mkF m 104 #[.val (.ref a1), .val (.long q2), .second, .val (.long q3), .second, .val (.ref a4), .val (.ref a4), .val (.int n1), .val (.int (0 : Int32)), .unset, .unset] [(.ref o26), (.ref a1)])) _
      refine st27 _ ?_
      show Steps p.tables e below (T27.setTop (mkF m 107 #[.val (.ref a1), .val (.long q2), .second, .val (.long q3), .second, .val (.ref a4), .val (.ref a4), .val (.int n1), .val (.int (0 : Int32)), .unset, .unset] [(.ref o26), (.ref a1)])) _
      refine st28 _ ?_
      show Steps p.tables e below (T28.setTop (mkF m 110 #[.val (.ref a1), .val (.long q2), .second, .val (.long q3), .second, .val (.ref a4), .val (.ref a4), .val (.int n1), .val (.int (0 : Int32)), .unset, .unset] [])) _
      exact X28.returnOut hx Bd.returns (hb hby d4_110) hr
    · show Q4 Z a1 q2 q3 a4 k1 n1 m0 m1 h0 n0 _ T28.heap _
      rw [e28]
      exact ⟨o26, k1, rfl, N28, K28, sz26, u28_6, u28_0, u28_7, u28_1, u28_2, u28_3⟩
theorem d6_0 : decode prog_31_method_9_code 0 = .ok (.aload_n 0, 1) := by decide +kernel
theorem d6_1 : decode prog_31_method_9_code 1 = .ok (.getfield 33, 3) := by decide +kernel
theorem d6_4 : decode prog_31_method_9_code 4 = .ok (.arraylength, 1) := by decide +kernel
theorem d6_5 : decode prog_31_method_9_code 5 = .ok (.aload_n 1, 1) := by decide +kernel
theorem d6_6 : decode prog_31_method_9_code 6 = .ok (.getfield 33, 3) := by decide +kernel
theorem d6_9 : decode prog_31_method_9_code 9 = .ok (.arraylength, 1) := by decide +kernel
theorem d6_10 : decode prog_31_method_9_code 10 = .ok (.if_icmp .ne 31, 3) := by decide +kernel
theorem d6_13 : decode prog_31_method_9_code 13 = .ok (.aload_n 0, 1) := by decide +kernel
theorem d6_14 : decode prog_31_method_9_code 14 = .ok (.getfield 18, 3) := by decide +kernel
theorem d6_17 : decode prog_31_method_9_code 17 = .ok (.aload_n 1, 1) := by decide +kernel
theorem d6_18 : decode prog_31_method_9_code 18 = .ok (.getfield 18, 3) := by decide +kernel
theorem d6_21 : decode prog_31_method_9_code 21 = .ok (.lcmp, 1) := by decide +kernel
theorem d6_22 : decode prog_31_method_9_code 22 = .ok (.ifCond .lt 19, 3) := by decide +kernel
theorem d6_25 : decode prog_31_method_9_code 25 = .ok (.aload_n 0, 1) := by decide +kernel
theorem d6_26 : decode prog_31_method_9_code 26 = .ok (.getfield 24, 3) := by decide +kernel
theorem d6_29 : decode prog_31_method_9_code 29 = .ok (.aload_n 1, 1) := by decide +kernel
theorem d6_30 : decode prog_31_method_9_code 30 = .ok (.getfield 24, 3) := by decide +kernel
theorem d6_33 : decode prog_31_method_9_code 33 = .ok (.lcmp, 1) := by decide +kernel
theorem d6_34 : decode prog_31_method_9_code 34 = .ok (.ifCond .lt 7, 3) := by decide +kernel
theorem d6_37 : decode prog_31_method_9_code 37 = .ok (.iconst 1, 1) := by decide +kernel
theorem d6_38 : decode prog_31_method_9_code 38 = .ok (.goto 4, 3) := by decide +kernel
theorem d6_41 : decode prog_31_method_9_code 41 = .ok (.iconst 0, 1) := by decide +kernel
theorem d6_42 : decode prog_31_method_9_code 42 = .ok (.istore_n 2, 1) := by decide +kernel
theorem d6_43 : decode prog_31_method_9_code 43 = .ok (.iconst 0, 1) := by decide +kernel
theorem d6_44 : decode prog_31_method_9_code 44 = .ok (.istore_n 3, 1) := by decide +kernel
theorem d6_45 : decode prog_31_method_9_code 45 = .ok (.iload_n 2, 1) := by decide +kernel
theorem d6_46 : decode prog_31_method_9_code 46 = .ok (.ifCond .eq 40, 3) := by decide +kernel
theorem d6_49 : decode prog_31_method_9_code 49 = .ok (.iload_n 3, 1) := by decide +kernel
theorem d6_50 : decode prog_31_method_9_code 50 = .ok (.aload_n 0, 1) := by decide +kernel
theorem d6_51 : decode prog_31_method_9_code 51 = .ok (.getfield 33, 3) := by decide +kernel
theorem d6_54 : decode prog_31_method_9_code 54 = .ok (.arraylength, 1) := by decide +kernel
theorem d6_55 : decode prog_31_method_9_code 55 = .ok (.if_icmp .ge 31, 3) := by decide +kernel
theorem d6_58 : decode prog_31_method_9_code 58 = .ok (.aload_n 0, 1) := by decide +kernel
theorem d6_59 : decode prog_31_method_9_code 59 = .ok (.getfield 33, 3) := by decide +kernel
theorem d6_62 : decode prog_31_method_9_code 62 = .ok (.iload_n 3, 1) := by decide +kernel
theorem d6_63 : decode prog_31_method_9_code 63 = .ok (.laload, 1) := by decide +kernel
theorem d6_64 : decode prog_31_method_9_code 64 = .ok (.aload_n 1, 1) := by decide +kernel
theorem d6_65 : decode prog_31_method_9_code 65 = .ok (.getfield 33, 3) := by decide +kernel
theorem d6_68 : decode prog_31_method_9_code 68 = .ok (.iload_n 3, 1) := by decide +kernel
theorem d6_69 : decode prog_31_method_9_code 69 = .ok (.laload, 1) := by decide +kernel
theorem d6_70 : decode prog_31_method_9_code 70 = .ok (.lcmp, 1) := by decide +kernel
theorem d6_71 : decode prog_31_method_9_code 71 = .ok (.ifCond .lt 7, 3) := by decide +kernel
theorem d6_74 : decode prog_31_method_9_code 74 = .ok (.iconst 1, 1) := by decide +kernel
theorem d6_75 : decode prog_31_method_9_code 75 = .ok (.goto 4, 3) := by decide +kernel
theorem d6_78 : decode prog_31_method_9_code 78 = .ok (.iconst 0, 1) := by decide +kernel
theorem d6_79 : decode prog_31_method_9_code 79 = .ok (.istore_n 2, 1) := by decide +kernel
theorem d6_80 : decode prog_31_method_9_code 80 = .ok (.iinc 3 1, 3) := by decide +kernel
theorem d6_83 : decode prog_31_method_9_code 83 = .ok (.goto (-38), 3) := by decide +kernel
theorem d6_86 : decode prog_31_method_9_code 86 = .ok (.iload_n 2, 1) := by decide +kernel
theorem d6_87 : decode prog_31_method_9_code 87 = .ok (.ireturn, 1) := by decide +kernel
theorem pn_6 : plainName "com/example/stratum/stratum/search/Statistics" = true := by first | (simp [plainName, overriddenIn]; done) | decide +kernel
theorem ef_6 (m : MethodId) (a1 : Addr) (a2 : Addr) : entryFrame m #[(.ref a1), (.ref a2)] 4 = mkF m 0 #[.val (.ref a1), .val (.ref a2), .unset, .unset] [] := by first | (simp [entryFrame, mkF, argsToLocals, Value.category]; done) | rfl
def Q6 (Z : State) (a1 : Addr) (a2 : Addr) (t1 : Addr) (t2 : Addr) (k1 : ClassId) (k2 : ClassId) (n1 : Int32) (n2 : Int32) (d1 : Int64) (l1 : Int64) (d2 : Int64) (l2 : Int64) (x0 : Int64) (x1 : Int64) (y0 : Int64) (y1 : Int64) (h0 : Heap) (n0 : Nat) (v : Option Value) (h : Heap) (L : List Loc) : Prop := v = some (.int (f6 n1 n2 d1 l1 d2 l2 x0 x1 y0 y1)) ∧ Fr n0 L ∧ h = h0
set_option maxRecDepth 65536 in
set_option maxHeartbeats 40000000 in
theorem rm6 (l : Launch) (Z : State) (a0 : Array Value) (hw : ∀ d ∈ tables_1, d.before a0 Z = true) (ws : List Jvm.Cond) (a1 : Addr) (a2 : Addr) (t1 : Addr) (t2 : Addr) (k1 : ClassId) (k2 : ClassId) (n1 : Int32) (n2 : Int32) (d1 : Int64) (l1 : Int64) (d2 : Int64) (l2 : Int64) (x0 : Int64) (x1 : Int64) (y0 : Int64) (y1 : Int64) (h0 : Heap) (n0 : Nat) (Z0 : n0 ≤ h0.size) (F_a1_documents : Fld Z h0 a1 "com/example/stratum/stratum/search/Statistics" "documents" "J" (.long d1)) (F_a1_length : Fld Z h0 a1 "com/example/stratum/stratum/search/Statistics" "length" "J" (.long l1)) (F_a1_matching : Fld Z h0 a1 "com/example/stratum/stratum/search/Statistics" "matching" "[J" (.ref t1)) (F_a2_documents : Fld Z h0 a2 "com/example/stratum/stratum/search/Statistics" "documents" "J" (.long d2)) (F_a2_length : Fld Z h0 a2 "com/example/stratum/stratum/search/Statistics" "length" "J" (.long l2)) (F_a2_matching : Fld Z h0 a2 "com/example/stratum/stratum/search/Statistics" "matching" "[J" (.ref t2)) (A_t1 : Arv Z h0 t1 k1 .long n1 [(.long x0), (.long x1)] (.long (0 : Int64))) (A_t2 : Arv Z h0 t2 k2 .long n2 [(.long y0), (.long y1)] (.long (0 : Int64))) (hn : own_len3 n1) :
    MetFree l (⟨"com/example/stratum/stratum/search/Statistics", "covers", "(Lcom/example/stratum/stratum/search/Statistics;)Z"⟩ : MethodName) (head1 (Jvm.Cond.code (⟨"com/example/stratum/stratum/search/Statistics", "covers", "(Lcom/example/stratum/stratum/search/Statistics;)Z"⟩ : MethodName) prog_31_method_9_code 4 (some .boolean) :: ws) ({ frames := 0, cells := 0, slots := 0, locals := 0 } : Room)) (fun a U => a = #[(.ref a1), (.ref a2)] ∧ Z.Warmed39 U.vm ∧ U.heap = h0) (fun _ _ _ _ _ => True) (fun _ U o U' => ∃ v L, o = .returned v ∧ Q6 Z a1 a2 t1 t2 k1 k2 n1 n2 d1 l1 d2 l2 x0 x1 y0 y1 h0 n0 v U'.heap L ∧ FrameEnd U o U' L ({ frames := 0, cells := 0, slots := 0, locals := 0 } : Room).cells ({ frames := 0, cells := 0, slots := 0, locals := 0 } : Room).slots) := by
  refine MetFree.of_bodySF (plainFor_of_name pn_6) hisR ?_
  intro p e s m args below meth c s₁ Bd hml0 hP hK
  obtain ⟨rfl, hZ, hh⟩ := hP
  have hx := Bd.exec
  have hby := Bd.bytes
  have hml : c.maxLocals = 4 := hml0
  have hown : s.vm.findClass "com/example/stratum/stratum/search/Statistics" = some m.cls := findClass_of_methodNamed Bd.named
  have hnm := (name_of_methodNamed Bd.named Bd.method).1
  have X0 : Stand p l e ({ frames := 0, cells := 0, slots := 0, locals := 0 } : Room) s m #[(.ref a1), (.ref a2)] below meth c s₁ [] 0 0 := Stand.of_body Bd
  have e0 : s₁.heap = h0 := by rw [← hh, Bd.state]; rfl
  have N0 := Fr.nil n0
  have pre0 : ∀ t, Steps p.tables e below (s₁.setTop (mkF m 0 #[.val (.ref a1), .val (.ref a2), .unset, .unset] [])) t → Steps p.tables e below (s₁.setTop (entryFrame m #[(.ref a1), (.ref a2)] 4)) t := fun t k => castTop (ef_6 m a1 a2) k
  refine own_step (Q := fun o U' => ∃ v L, o = .returned v ∧ Q6 Z a1 a2 t1 t2 k1 k2 n1 n2 d1 l1 d2 l2 x0 x1 y0 y1 h0 n0 v U'.heap L ∧ FrameEnd s o U' L ({ frames := 0, cells := 0, slots := 0, locals := 0 } : Room).cells ({ frames := 0, cells := 0, slots := 0, locals := 0 } : Room).slots) pre0 ?_
  obtain ⟨T1, X1, e1, st1⟩ := getF X0 hx hZ hown (host := "") (Or.inl (hw _ (List.mem_of_getElem? (i := 36) rfl))) Via.refl e0 F_a1_matching (g := (mkF m 1 #[.val (.ref a1), .val (.ref a2), .unset, .unset] [(.ref a1)])) rfl rfl (hb hby d6_1)
  obtain ⟨cl2, Ar2, -, S2, M2, -, -⟩ := id A_t1
  obtain ⟨T3, X3, e3, st3⟩ := getF X1 hx hZ hown (host := "") (Or.inl (hw _ (List.mem_of_getElem? (i := 36) rfl))) Via.refl e1 F_a2_matching (g := (mkF m 6 #[.val (.ref a1), .val (.ref a2), .unset, .unset] [(.ref a2), (.int n1)])) rfl rfl (hb hby d6_6)
  obtain ⟨cl4, Ar4, -, S4, M4, -, -⟩ := id A_t2
  obtain ⟨T14, lo14, X14, e14, N14, st14⟩ : ∃ (T' : State) (lo : List Loc) (_ : Stand p l e ({ frames := 0, cells := 0, slots := 0, locals := 0 } : Room) s m #[(.ref a1), (.ref a2)] below meth c T' lo 0 0), T'.heap = h0 ∧ Fr n0 lo ∧ ∀ t, Steps p.tables e below (T'.setTop (mkF m 42 #[.val (.ref a1), .val (.ref a2), .unset, .unset] [(.int (f6_1 n1 n2 d1 l1 d2 l2 x0 x1 y0 y1))])) t → Steps p.tables e below (T3.setTop (mkF m 10 #[.val (.ref a1), .val (.ref a2), .unset, .unset] [(.int n2), (.int n1)])) t := by
    by_cases h5 : n1 = n2
    · obtain ⟨T6, X6, e6, st6⟩ := getF X3 hx hZ hown (host := "") (Or.inl (hw _ (List.mem_of_getElem? (i := 23) rfl))) Via.refl e3 F_a1_documents (g := (mkF m 14 #[.val (.ref a1), .val (.ref a2), .unset, .unset] [(.ref a1)])) rfl rfl (hb hby d6_14)
      obtain ⟨T7, X7, e7, st7⟩ := getF X6 hx hZ hown (host := "") (Or.inl (hw _ (List.mem_of_getElem? (i := 23) rfl))) Via.refl e6 F_a2_documents (g := (mkF m 18 #[.val (.ref a1), .val (.ref a2), .unset, .unset] [(.ref a2), (.long d1)])) rfl rfl (hb hby d6_18)
      obtain ⟨T13, lo13, X13, e13, N13, st13⟩ : ∃ (T' : State) (lo : List Loc) (_ : Stand p l e ({ frames := 0, cells := 0, slots := 0, locals := 0 } : Room) s m #[(.ref a1), (.ref a2)] below meth c T' lo 0 0), T'.heap = h0 ∧ Fr n0 lo ∧ ∀ t, Steps p.tables e below (T'.setTop (mkF m 42 #[.val (.ref a1), .val (.ref a2), .unset, .unset] [(.int (f6_0 n1 n2 d1 l1 d2 l2 x0 x1 y0 y1))])) t → Steps p.tables e below (T7.setTop (mkF m 22 #[.val (.ref a1), .val (.ref a2), .unset, .unset] [(.int (XT.cmpL d1 d2))])) t := by
        by_cases h8 : d1 < d2
        · refine ⟨T7, _, X7, e7, N0, fun t k => ?_⟩
          rw [show (f6_0 n1 n2 d1 l1 d2 l2 x0 x1 y0 y1) = (0 : Int32) from if_pos h8] at k
          show Steps p.tables e below (T7.setTop (mkF m 22 #[.val (.ref a1), .val (.ref a2), .unset, .unset] [(.int (XT.cmpL d1 d2))])) _
          refine XS.ifYes X7.here hx rfl (pc0 := 22) (pc' := 41) rfl (hb hby d6_22) rfl ((if0 _ _).trans (tlt ((own_cl _ _).mpr h8)).1) (by decide) (by decide) ?_
          show Steps p.tables e below (T7.setTop (mkF m 41 #[.val (.ref a1), .val (.ref a2), .unset, .unset] [])) _
          refine XS.iconst X7.here hx rfl (hb hby d6_41) ?_
          exact k
        · obtain ⟨T9, X9, e9, st9⟩ := getF X7 hx hZ hown (host := "") (Or.inl (hw _ (List.mem_of_getElem? (i := 25) rfl))) Via.refl e7 F_a1_length (g := (mkF m 26 #[.val (.ref a1), .val (.ref a2), .unset, .unset] [(.ref a1)])) rfl rfl (hb hby d6_26)
          obtain ⟨T10, X10, e10, st10⟩ := getF X9 hx hZ hown (host := "") (Or.inl (hw _ (List.mem_of_getElem? (i := 25) rfl))) Via.refl e9 F_a2_length (g := (mkF m 30 #[.val (.ref a1), .val (.ref a2), .unset, .unset] [(.ref a2), (.long l1)])) rfl rfl (hb hby d6_30)
          have st12 : ∀ t, Steps p.tables e below (T10.setTop (mkF m 42 #[.val (.ref a1), .val (.ref a2), .unset, .unset] [(.int (if l1 < l2 then (0 : Int32) else (1 : Int32)))])) t → Steps p.tables e below (T10.setTop (mkF m 34 #[.val (.ref a1), .val (.ref a2), .unset, .unset] [(.int (XT.cmpL l1 l2))])) t := by
            intro t k
            by_cases h11 : l1 < l2
            · rw [show (if l1 < l2 then (0 : Int32) else (1 : Int32)) = (0 : Int32) from if_pos h11] at k
              show Steps p.tables e below (T10.setTop (mkF m 34 #[.val (.ref a1), .val (.ref a2), .unset, .unset] [(.int (XT.cmpL l1 l2))])) _
              refine XS.ifYes X10.here hx rfl (pc0 := 34) (pc' := 41) rfl (hb hby d6_34) rfl ((if0 _ _).trans (tlt ((own_cl _ _).mpr h11)).1) (by decide) (by decide) ?_
              show Steps p.tables e below (T10.setTop (mkF m 41 #[.val (.ref a1), .val (.ref a2), .unset, .unset] [])) _
              refine XS.iconst X10.here hx rfl (hb hby d6_41) ?_
              exact k
            · rw [show (if l1 < l2 then (0 : Int32) else (1 : Int32)) = (1 : Int32) from if_neg h11] at k
              show Steps p.tables e below (T10.setTop (mkF m 34 #[.val (.ref a1), .val (.ref a2), .unset, .unset] [(.int (XT.cmpL l1 l2))])) _
              refine XS.ifNo X10.here hx rfl (hb hby d6_34) rfl ((if0 _ _).trans (flt (mt (own_cl _ _).mp h11)).1) ?_
              show Steps p.tables e below (T10.setTop (mkF m 37 #[.val (.ref a1), .val (.ref a2), .unset, .unset] [])) _
              refine XS.iconst X10.here hx rfl (hb hby d6_37) ?_
              show Steps p.tables e below (T10.setTop (mkF m 38 #[.val (.ref a1), .val (.ref a2), .unset, .unset] [(.int (1 : Int32))])) _
              refine XS.goto X10.here hx rfl (pc0 := 38) (pc' := 42) rfl (hb hby d6_38) (by decide) (by decide) ?_
              exact k
          refine ⟨T10, _, X10, e10, N0, fun t k => ?_⟩
          rw [show (f6_0 n1 n2 d1 l1 d2 l2 x0 x1 y0 y1) = (if l1 < l2 then (0 : Int32) else (1 : Int32)) from if_neg h8] at k
          show Steps p.tables e below (T7.setTop (mkF m 22 #[.val (.ref a1), .val (.ref a2), .unset, .unset] [(.int (XT.cmpL d1 d2))])) _
          refine XS.ifNo X7.here hx rfl (hb hby d6_22) rfl ((if0 _ _).trans (flt (mt (own_cl _ _).mp h8)).1) ?_
          show Steps p.tables e below (T7.setTop (mkF m 25 #[.val (.ref a1), .val (.ref a2), .unset, .unset] [])) _
          refine XS.aloadN X7.here hx rfl (hb hby d6_25) rfl rfl ?_
          show Steps p.tables e below (T7.setTop (mkF m 26 #[.val (.ref a1), .val (.ref a2), .unset, .unset] [(.ref a1)])) _
          refine st9 _ ?_
          show Steps p.tables e below (T9.setTop (mkF m 29 #[.val (.ref a1), .val (.ref a2), .unset, .unset] [(.long l1)])) _
          refine XS.aloadN X9.here hx rfl (hb hby d6_29) rfl rfl ?_
          show Steps p.tables e below (T9.setTop (mkF m 30 #[.val (.ref a1), .val (.ref a2), .unset, .unset] [(.ref a2), (.long l1)])) _
          refine st10 _ ?_
          show Steps p.tables e below (T10.setTop (mkF m 33 #[.val (.ref a1), .val (.ref a2), .unset, .unset] [(.long l2), (.long l1)])) _
          refine XT.lcmp X10.here hx rfl (hb hby d6_33) rfl ?_
          show Steps p.tables e below (T10.setTop (mkF m 34 #[.val (.ref a1), .val (.ref a2), .unset, .unset] [(.int (XT.cmpL l1 l2))])) _
          refine st12 _ ?_
          exact k
      refine ⟨T13, _, X13, e13, N13, fun t k => ?_⟩
      rw [show (f6_1 n1 n2 d1 l1 d2 l2 x0 x1 y0 y1) = (f6_0 n1 n2 d1 l1 d2 l2 x0 x1 y0 y1) from if_pos h5] at k
      show Steps p.tables e below (T3.setTop (mkF m 10 #[.val (.ref a1), .val (.ref a2), .unset, .unset] [(.int n2), (.int n1)])) _
      refine XS.icmpNo X3.here hx rfl (hb hby d6_10) rfl (teq h5).2 ?_
      show Steps p.tables e below (T3.setTop (mkF m 13 #[.val (.ref a1), .val (.ref a2), .unset, .unset] [])) _
      refine XS.aloadN X3.here hx rfl (hb hby d6_13) rfl rfl ?_
      show Steps p.tables e below (T3.setTop (mkF m 14 #[.val (.ref a1), .val (.ref a2), .unset, .unset] [(.ref a1)])) _
      refine st6 _ ?_
      show Steps p.tables e below (T6.setTop (mkF m 17 #[.val (.ref a1), .val (.ref a2), .unset, .unset] [(.long d1)])) _
      refine XS.aloadN X6.here hx rfl (hb hby d6_17) rfl rfl ?_
      show Steps p.tables e below (T6.setTop (mkF m 18 #[.val (.ref a1), .val (.ref a2), .unset, .unset] [(.ref a2), (.long d1)])) _
      refine st7 _ ?_
      show Steps p.tables e below (T7.setTop (mkF m 21 #[.val (.ref a1), .val (.ref a2), .unset, .unset] [(.long d2), (.long d1)])) _
      refine XT.lcmp X7.here hx rfl (hb hby d6_21) rfl ?_
      show Steps p.tables e below (T7.setTop (mkF m 22 #[.val (.ref a1), .val (.ref a2), .unset, .unset] [(.int (XT.cmpL d1 d2))])) _
      refine st13 _ ?_
      exact k
    · refine ⟨T3, _, X3, e3, N0, fun t k => ?_⟩
      rw [show (f6_1 n1 n2 d1 l1 d2 l2 x0 x1 y0 y1) = (0 : Int32) from if_neg h5] at k
      show Steps p.tables e below (T3.setTop (mkF m 10 #[.val (.ref a1), .val (.ref a2), .unset, .unset] [(.int n2), (.int n1)])) _
      refine XS.icmpYes X3.here hx rfl (pc0 := 10) (pc' := 41) rfl (hb hby d6_10) rfl (feq h5).2 (by decide) (by decide) ?_
      show Steps p.tables e below (T3.setTop (mkF m 41 #[.val (.ref a1), .val (.ref a2), .unset, .unset] [])) _
      refine XS.iconst X3.here hx rfl (hb hby d6_41) ?_
      exact k
  obtain ⟨T43, lo43, X43, e43, N43, st43⟩ : ∃ (T' : State) (lo : List Loc) (_ : Stand p l e ({ frames := 0, cells := 0, slots := 0, locals := 0 } : Room) s m #[(.ref a1), (.ref a2)] below meth c T' lo 0 0), T'.heap = h0 ∧ Fr n0 lo ∧ ∀ t, Steps p.tables e below (T'.setTop (mkF m 86 #[.val (.ref a1), .val (.ref a2), .val (.int (f6_7 n1 n2 d1 l1 d2 l2 x0 x1 y0 y1)), .val (.int (f6_8 n1 n2 d1 l1 d2 l2 x0 x1 y0 y1))] [])) t → Steps p.tables e below (T14.setTop (mkF m 46 #[.val (.ref a1), .val (.ref a2), .val (.int (f6_1 n1 n2 d1 l1 d2 l2 x0 x1 y0 y1)), .val (.int (0 : Int32))] [(.int (f6_1 n1 n2 d1 l1 d2 l2 x0 x1 y0 y1))])) t := by
    by_cases h15 : (f6_1 n1 n2 d1 l1 d2 l2 x0 x1 y0 y1) = (0 : Int32)
    · refine ⟨T14, _, X14, e14, N14, fun t k => ?_⟩
      rw [show (f6_7 n1 n2 d1 l1 d2 l2 x0 x1 y0 y1) = (f6_1 n1 n2 d1 l1 d2 l2 x0 x1 y0 y1) from if_pos h15] at k
      rw [show (f6_8 n1 n2 d1 l1 d2 l2 x0 x1 y0 y1) = (0 : Int32) from if_pos h15] at k
      show Steps p.tables e below (T14.setTop (mkF m 46 #[.val (.ref a1), .val (.ref a2), .val (.int (f6_1 n1 n2 d1 l1 d2 l2 x0 x1 y0 y1)), .val (.int (0 : Int32))] [(.int (f6_1 n1 n2 d1 l1 d2 l2 x0 x1 y0 y1))])) _
      refine XS.ifYes X14.here hx rfl (pc0 := 46) (pc' := 86) rfl (hb hby d6_46) rfl ((if0 _ _).trans (teq h15).1) (by decide) (by decide) ?_
      exact k
    · obtain ⟨T16, X16, e16, st16⟩ := getF X14 hx hZ hown (host := "") (Or.inl (hw _ (List.mem_of_getElem? (i := 36) rfl))) Via.refl e14 F_a1_matching (g := (mkF m 51 #[.val (.ref a1), .val (.ref a2), .val (.int (f6_1 n1 n2 d1 l1 d2 l2 x0 x1 y0 y1)), .val (.int (0 : Int32))] [(.ref a1), (.int (0 : Int32))])) rfl rfl (hb hby d6_51)
      obtain ⟨cl17, Ar17, -, S17, M17, -, -⟩ := id A_t1
      obtain ⟨T42, lo42, X42, e42, N42, st42⟩ : ∃ (T' : State) (lo : List Loc) (_ : Stand p l e ({ frames := 0, cells := 0, slots := 0, locals := 0 } : Room) s m #[(.ref a1), (.ref a2)] below meth c T' lo 0 0), T'.heap = h0 ∧ Fr n0 lo ∧ ∀ t, Steps p.tables e below (T'.setTop (mkF m 86 #[.val (.ref a1), .val (.ref a2), .val (.int (f6_5 n1 n2 d1 l1 d2 l2 x0 x1 y0 y1)), .val (.int (f6_6 n1 n2 d1 l1 d2 l2 x0 x1 y0 y1))] [])) t → Steps p.tables e below (T16.setTop (mkF m 55 #[.val (.ref a1), .val (.ref a2), .val (.int (f6_1 n1 n2 d1 l1 d2 l2 x0 x1 y0 y1)), .val (.int (0 : Int32))] [(.int n1), (.int (0 : Int32))])) t := by
        by_cases h18 : (0 : Int32) < n1
        · obtain ⟨T19, X19, e19, st19⟩ := getF X16 hx hZ hown (host := "") (Or.inl (hw _ (List.mem_of_getElem? (i := 36) rfl))) Via.refl e16 F_a1_matching (g := (mkF m 59 #[.val (.ref a1), .val (.ref a2), .val (.int (f6_1 n1 n2 d1 l1 d2 l2 x0 x1 y0 y1)), .val (.int (0 : Int32))] [(.ref a1)])) rfl rfl (hb hby d6_59)
          obtain ⟨cl20, Ar20, -, S20, M20, H20, -⟩ := id A_t1
          have hin20 := inb_of (j := (0 : Int32)) S20 ⟨by decide, h18⟩
          have hat20 := H20.at hin20 (v := (.long x0)) (rfl)
          obtain ⟨T21, X21, e21, st21⟩ := getF X19 hx hZ hown (host := "") (Or.inl (hw _ (List.mem_of_getElem? (i := 36) rfl))) Via.refl e19 F_a2_matching (g := (mkF m 65 #[.val (.ref a1), .val (.ref a2), .val (.int (f6_1 n1 n2 d1 l1 d2 l2 x0 x1 y0 y1)), .val (.int (0 : Int32))] [(.ref a2), (.long x0)])) rfl rfl (hb hby d6_65)
          obtain ⟨cl22, Ar22, -, S22, M22, H22, -⟩ := id A_t2
          have hin22 := inb_of (j := (0 : Int32)) S22 ⟨by decide, own_n12 h15 ▸ h18⟩
          have hat22 := H22.at hin22 (v := (.long y0)) (rfl)
          have st24 : ∀ t, Steps p.tables e below (T21.setTop (mkF m 79 #[.val (.ref a1), .val (.ref a2), .val (.int (f6_1 n1 n2 d1 l1 d2 l2 x0 x1 y0 y1)), .val (.int (0 : Int32))] [(.int (if x0 < y0 then (0 : Int32) else (1 : Int32)))])) t → Steps p.tables e below (T21.setTop (mkF m 71 #[.val (.ref a1), .val (.ref a2), .val (.int (f6_1 n1 n2 d1 l1 d2 l2 x0 x1 y0 y1)), .val (.int (0 : Int32))] [(.int (XT.cmpL x0 y0))])) t := by
            intro t k
            by_cases h23 : x0 < y0
            · rw [show (if x0 < y0 then (0 : Int32) else (1 : Int32)) = (0 : Int32) from if_pos h23] at k
              show Steps p.tables e below (T21.setTop (mkF m 71 #[.val (.ref a1), .val (.ref a2), .val (.int (f6_1 n1 n2 d1 l1 d2 l2 x0 x1 y0 y1)), .val (.int (0 : Int32))] [(.int (XT.cmpL x0 y0))])) _
              refine XS.ifYes X21.here hx rfl (pc0 := 71) (pc' := 78) rfl (hb hby d6_71) rfl ((if0 _ _).trans (tlt ((own_cl _ _).mpr h23)).1) (by decide) (by decide) ?_
              show Steps p.tables e below (T21.setTop (mkF m 78 #[.val (.ref a1), .val (.ref a2), .val (.int (f6_1 n1 n2 d1 l1 d2 l2 x0 x1 y0 y1)), .val (.int (0 : Int32))] [])) _
              refine XS.iconst X21.here hx rfl (hb hby d6_78) ?_
              exact k
            · rw [show (if x0 < y0 then (0 : Int32) else (1 : Int32)) = (1 : Int32) from if_neg h23] at k
              show Steps p.tables e below (T21.setTop (mkF m 71 #[.val (.ref a1), .val (.ref a2), .val (.int (f6_1 n1 n2 d1 l1 d2 l2 x0 x1 y0 y1)), .val (.int (0 : Int32))] [(.int (XT.cmpL x0 y0))])) _
              refine XS.ifNo X21.here hx rfl (hb hby d6_71) rfl ((if0 _ _).trans (flt (mt (own_cl _ _).mp h23)).1) ?_
              show Steps p.tables e below (T21.setTop (mkF m 74 #[.val (.ref a1), .val (.ref a2), .val (.int (f6_1 n1 n2 d1 l1 d2 l2 x0 x1 y0 y1)), .val (.int (0 : Int32))] [])) _
              refine XS.iconst X21.here hx rfl (hb hby d6_74) ?_
              show Steps p.tables e below (T21.setTop (mkF m 75 #[.val (.ref a1), .val (.ref a2), .val (.int (f6_1 n1 n2 d1 l1 d2 l2 x0 x1 y0 y1)), .val (.int (0 : Int32))] [(.int (1 : Int32))])) _
              refine XS.goto X21.here hx rfl (pc0 := 75) (pc' := 79) rfl (hb hby d6_75) (by decide) (by decide) ?_
              exact k
          obtain ⟨T41, lo41, X41, e41, N41, st41⟩ : ∃ (T' : State) (lo : List Loc) (_ : Stand p l e ({ frames := 0, cells := 0, slots := 0, locals := 0 } : Room) s m #[(.ref a1), (.ref a2)] below meth c T' lo 0 0), T'.heap = h0 ∧ Fr n0 lo ∧ ∀ t, Steps p.tables e below (T'.setTop (mkF m 86 #[.val (.ref a1), .val (.ref a2), .val (.int (f6_3 n1 n2 d1 l1 d2 l2 x0 x1 y0 y1)), .val (.int (f6_4 n1 n2 d1 l1 d2 l2 x0 x1 y0 y1))] [])) t → Steps p.tables e below (T21.setTop (mkF m 46 #[.val (.ref a1), .val (.ref a2), .val (.int (if x0 < y0 then (0 : Int32) else (1 : Int32))), .val (.int (1 : Int32))] [(.int (if x0 < y0 then (0 : Int32) else (1 : Int32)))])) t := by
            by_cases h25 : (if x0 < y0 then (0 : Int32) else (1 : Int32)) = (0 : Int32)
            · refine ⟨T21, _, X21, e21, N14, fun t k => ?_⟩
              rw [show (f6_3 n1 n2 d1 l1 d2 l2 x0 x1 y0 y1) = (if x0 < y0 then (0 : Int32) else (1 : Int32)) from if_pos h25] at k
              rw [show (f6_4 n1 n2 d1 l1 d2 l2 x0 x1 y0 y1) = (1 : Int32) from if_pos h25] at k
              show Steps p.tables e below (T21.setTop (mkF m 46 #[.val (.ref a1), .val (.ref a2), .val (.int (if x0 < y0 then (0 : Int32) else (1 : Int32))), .val (.int (1 : Int32))] [(.int (if x0 < y0 then (0 : Int32) else (1 : Int32)))])) _
              refine XS.ifYes X21.here hx rfl (pc0 := 46) (pc' := 86) rfl (hb hby d6_46) rfl ((if0 _ _).trans (teq h25).1) (by decide) (by decide) ?_
              exact k
            · obtain ⟨T26, X26, e26, st26⟩ := getF X21 hx hZ hown (host := "") (Or.inl (hw _ (List.mem_of_getElem? (i := 36) rfl))) Via.refl e21 F_a1_matching (g := (mkF m 51 #[.val (.ref a1), .val (.ref a2), .val (.int (if x0 < y0 then (0 : Int32) else (1 : Int32))), .val (.int (1 : Int32))] [(.ref a1), (.int (1 : Int32))])) rfl rfl (hb hby d6_51)
              obtain ⟨cl27, Ar27, -, S27, M27, -, -⟩ := id A_t1
              obtain ⟨T40, lo40, X40, e40, N40, st40⟩ : ∃ (T' : State) (lo : List Loc) (_ : Stand p l e ({ frames := 0, cells := 0, slots := 0, locals := 0 } : Room) s m #[(.ref a1), (.ref a2)] below meth c T' lo 0 0), T'.heap = h0 ∧ Fr n0 lo ∧ ∀ t, Steps p.tables e below (T'.setTop (mkF m 86 #[.val (.ref a1), .val (.ref a2), .val (.int (f6_2 n1 n2 d1 l1 d2 l2 x0 x1 y0 y1)), .val (.int (if (1 : Int32) < n1 then (2 : Int32) else (1 : Int32)))] [])) t → Steps p.tables e below (T26.setTop (mkF m 55 #[.val (.ref a1), .val (.ref a2), .val (.int (if x0 < y0 then (0 : Int32) else (1 : Int32))), .val (.int (1 : Int32))] [(.int n1), (.int (1 : Int32))])) t := by
                by_cases h28 : (1 : Int32) < n1
                · obtain ⟨T29, X29, e29, st29⟩ := getF X26 hx hZ hown (host := "") (Or.inl (hw _ (List.mem_of_getElem? (i := 36) rfl))) Via.refl e26 F_a1_matching (g := (mkF m 59 #[.val (.ref a1), .val (.ref a2), .val (.int (if x0 < y0 then (0 : Int32) else (1 : Int32))), .val (.int (1 : Int32))] [(.ref a1)])) rfl rfl (hb hby d6_59)
                  obtain ⟨cl30, Ar30, -, S30, M30, H30, -⟩ := id A_t1
                  have hin30 := inb_of (j := (1 : Int32)) S30 ⟨by decide, h28⟩
                  have hat30 := H30.at hin30 (v := (.long x1)) (rfl)
                  obtain ⟨T31, X31, e31, st31⟩ := getF X29 hx hZ hown (host := "") (Or.inl (hw _ (List.mem_of_getElem? (i := 36) rfl))) Via.refl e29 F_a2_matching (g := (mkF m 65 #[.val (.ref a1), .val (.ref a2), .val (.int (if x0 < y0 then (0 : Int32) else (1 : Int32))), .val (.int (1 : Int32))] [(.ref a2), (.long x1)])) rfl rfl (hb hby d6_65)
                  obtain ⟨cl32, Ar32, -, S32, M32, H32, -⟩ := id A_t2
                  have hin32 := inb_of (j := (1 : Int32)) S32 ⟨by decide, own_n12 h15 ▸ h28⟩
                  have hat32 := H32.at hin32 (v := (.long y1)) (rfl)
                  have st34 : ∀ t, Steps p.tables e below (T31.setTop (mkF m 79 #[.val (.ref a1), .val (.ref a2), .val (.int (if x0 < y0 then (0 : Int32) else (1 : Int32))), .val (.int (1 : Int32))] [(.int (if x1 < y1 then (0 : Int32) else (1 : Int32)))])) t → Steps p.tables e below (T31.setTop (mkF m 71 #[.val (.ref a1), .val (.ref a2), .val (.int (if x0 < y0 then (0 : Int32) else (1 : Int32))), .val (.int (1 : Int32))] [(.int (XT.cmpL x1 y1))])) t := by
                    intro t k
                    by_cases h33 : x1 < y1
                    · rw [show (if x1 < y1 then (0 : Int32) else (1 : Int32)) = (0 : Int32) from if_pos h33] at k
                      show Steps p.tables e below (T31.setTop (mkF m 71 #[.val (.ref a1), .val (.ref a2), .val (.int (if x0 < y0 then (0 : Int32) else (1 : Int32))), .val (.int (1 : Int32))] [(.int (XT.cmpL x1 y1))])) _
                      refine XS.ifYes X31.here hx rfl (pc0 := 71) (pc' := 78) rfl (hb hby d6_71) rfl ((if0 _ _).trans (tlt ((own_cl _ _).mpr h33)).1) (by decide) (by decide) ?_
                      show Steps p.tables e below (T31.setTop (mkF m 78 #[.val (.ref a1), .val (.ref a2), .val (.int (if x0 < y0 then (0 : Int32) else (1 : Int32))), .val (.int (1 : Int32))] [])) _
                      refine XS.iconst X31.here hx rfl (hb hby d6_78) ?_
                      exact k
                    · rw [show (if x1 < y1 then (0 : Int32) else (1 : Int32)) = (1 : Int32) from if_neg h33] at k
                      show Steps p.tables e below (T31.setTop (mkF m 71 #[.val (.ref a1), .val (.ref a2), .val (.int (if x0 < y0 then (0 : Int32) else (1 : Int32))), .val (.int (1 : Int32))] [(.int (XT.cmpL x1 y1))])) _
                      refine XS.ifNo X31.here hx rfl (hb hby d6_71) rfl ((if0 _ _).trans (flt (mt (own_cl _ _).mp h33)).1) ?_
                      show Steps p.tables e below (T31.setTop (mkF m 74 #[.val (.ref a1), .val (.ref a2), .val (.int (if x0 < y0 then (0 : Int32) else (1 : Int32))), .val (.int (1 : Int32))] [])) _
                      refine XS.iconst X31.here hx rfl (hb hby d6_74) ?_
                      show Steps p.tables e below (T31.setTop (mkF m 75 #[.val (.ref a1), .val (.ref a2), .val (.int (if x0 < y0 then (0 : Int32) else (1 : Int32))), .val (.int (1 : Int32))] [(.int (1 : Int32))])) _
                      refine XS.goto X31.here hx rfl (pc0 := 75) (pc' := 79) rfl (hb hby d6_75) (by decide) (by decide) ?_
                      exact k
                  obtain ⟨T39, lo39, X39, e39, N39, st39⟩ : ∃ (T' : State) (lo : List Loc) (_ : Stand p l e ({ frames := 0, cells := 0, slots := 0, locals := 0 } : Room) s m #[(.ref a1), (.ref a2)] below meth c T' lo 0 0), T'.heap = h0 ∧ Fr n0 lo ∧ ∀ t, Steps p.tables e below (T'.setTop (mkF m 86 #[.val (.ref a1), .val (.ref a2), .val (.int (if x1 < y1 then (0 : Int32) else (1 : Int32))), .val (.int (2 : Int32))] [])) t → Steps p.tables e below (T31.setTop (mkF m 46 #[.val (.ref a1), .val (.ref a2), .val (.int (if x1 < y1 then (0 : Int32) else (1 : Int32))), .val (.int (2 : Int32))] [(.int (if x1 < y1 then (0 : Int32) else (1 : Int32)))])) t := by
                    by_cases h35 : (if x1 < y1 then (0 : Int32) else (1 : Int32)) = (0 : Int32)
                    · refine ⟨T31, _, X31, e31, N14, fun t k => ?_⟩
                      show Steps p.tables e below (T31.setTop (mkF m 46 #[.val (.ref a1), .val (.ref a2), .val (.int (if x1 < y1 then (0 : Int32) else (1 : Int32))), .val (.int (2 : Int32))] [(.int (if x1 < y1 then (0 : Int32) else (1 : Int32)))])) _
                      refine XS.ifYes X31.here hx rfl (pc0 := 46) (pc' := 86) rfl (hb hby d6_46) rfl ((if0 _ _).trans (teq h35).1) (by decide) (by decide) ?_
                      exact k
                    · obtain ⟨T36, X36, e36, st36⟩ := getF X31 hx hZ hown (host := "") (Or.inl (hw _ (List.mem_of_getElem? (i := 36) rfl))) Via.refl e31 F_a1_matching (g := (mkF m 51 #[.val (.ref a1), .val (.ref a2), .val (.int (if x1 < y1 then (0 : Int32) else (1 : Int32))), .val (.int (2 : Int32))] [(.ref a1), (.int (2 : Int32))])) rfl rfl (hb hby d6_51)
                      obtain ⟨cl37, Ar37, -, S37, M37, -, -⟩ := id A_t1
                      have h38 : ¬ ((2 : Int32) < n1) := own_l2 hn
                      refine ⟨T36, _, X36, e36, N14, fun t k => ?_⟩
                      show Steps p.tables e below (T31.setTop (mkF m 46 #[.val (.ref a1), .val (.ref a2), .val (.int (if x1 < y1 then (0 : Int32) else (1 : Int32))), .val (.int (2 : Int32))] [(.int (if x1 < y1 then (0 : Int32) else (1 : Int32)))])) _
                      refine XS.ifNo X31.here hx rfl (hb hby d6_46) rfl ((if0 _ _).trans (feq h35).1) ?_
                      show Steps p.tables e below (T31.setTop (mkF m 49 #[.val (.ref a1), .val (.ref a2), .val (.int (if x1 < y1 then (0 : Int32) else (1 : Int32))), .val (.int (2 : Int32))] [])) _
                      refine XS.iloadN X31.here hx rfl (hb hby d6_49) rfl ?_
                      show Steps p.tables e below (T31.setTop (mkF m 50 #[.val (.ref a1), .val (.ref a2), .val (.int (if x1 < y1 then (0 : Int32) else (1 : Int32))), .val (.int (2 : Int32))] [(.int (2 : Int32))])) _
                      refine XS.aloadN X31.here hx rfl (hb hby d6_50) rfl rfl ?_
                      show Steps p.tables e below (T31.setTop (mkF m 51 #[.val (.ref a1), .val (.ref a2), .val (.int (if x1 < y1 then (0 : Int32) else (1 : Int32))), .val (.int (2 : Int32))] [(.ref a1), (.int (2 : Int32))])) _
                      refine st36 _ ?_
                      show Steps p.tables e below (T36.setTop (mkF m 54 #[.val (.ref a1), .val (.ref a2), .val (.int (if x1 < y1 then (0 : Int32) else (1 : Int32))), .val (.int (2 : Int32))] [(.ref t1), (.int (2 : Int32))])) _
                      refine X36.arraylength hx (by rw [e36]; exact Ar37.1) (State.isArrayOf_alike hZ.alike Ar37.2.1) (g := (mkF m 54 #[.val (.ref a1), .val (.ref a2), .val (.int (if x1 < y1 then (0 : Int32) else (1 : Int32))), .val (.int (2 : Int32))] [(.ref t1), (.int (2 : Int32))])) rfl rfl (hb hby d6_54) _ ?_
                      rw [len_of S37 M37]
                      show Steps p.tables e below (T36.setTop (mkF m 55 #[.val (.ref a1), .val (.ref a2), .val (.int (if x1 < y1 then (0 : Int32) else (1 : Int32))), .val (.int (2 : Int32))] [(.int n1), (.int (2 : Int32))])) _
                      refine XS.icmpYes X36.here hx rfl (pc0 := 55) (pc' := 86) rfl (hb hby d6_55) rfl (flt h38).2.1 (by decide) (by decide) ?_
                      exact k
                  refine ⟨T39, _, X39, e39, N39, fun t k => ?_⟩
                  rw [show (f6_2 n1 n2 d1 l1 d2 l2 x0 x1 y0 y1) = (if x1 < y1 then (0 : Int32) else (1 : Int32)) from if_pos h28] at k
                  rw [show (if (1 : Int32) < n1 then (2 : Int32) else (1 : Int32)) = (2 : Int32) from if_pos h28] at k
                  show Steps p.tables e below (T26.setTop (mkF m 55 #[.val (.ref a1), .val (.ref a2), .val (.int (if x0 < y0 then (0 : Int32) else (1 : Int32))), .val (.int (1 : Int32))] [(.int n1), (.int (1 : Int32))])) _
                  refine XS.icmpNo X26.here hx rfl (hb hby d6_55) rfl (tlt h28).2.1 ?_
                  show Steps p.tables e below (T26.setTop (mkF m 58 #[.val (.ref a1), .val (.ref a2), .val (.int (if x0 < y0 then (0 : Int32) else (1 : Int32))), .val (.int (1 : Int32))] [])) _
                  refine XS.aloadN X26.here hx rfl (hb hby d6_58) rfl rfl ?_
                  show Steps p.tables e below (T26.setTop (mkF m 59 #[.val (.ref a1), .val (.ref a2), .val (.int (if x0 < y0 then (0 : Int32) else (1 : Int32))), .val (.int (1 : Int32))] [(.ref a1)])) _
                  refine st29 _ ?_
                  show Steps p.tables e below (T29.setTop (mkF m 62 #[.val (.ref a1), .val (.ref a2), .val (.int (if x0 < y0 then (0 : Int32) else (1 : Int32))), .val (.int (1 : Int32))] [(.ref t1)])) _
                  refine XS.iloadN X29.here hx rfl (hb hby d6_62) rfl ?_
                  show Steps p.tables e below (T29.setTop (mkF m 63 #[.val (.ref a1), .val (.ref a2), .val (.int (if x0 < y0 then (0 : Int32) else (1 : Int32))), .val (.int (1 : Int32))] [(.int (1 : Int32)), (.ref t1)])) _
                  refine X29.laload hx (j := (1 : Int32)) (v := (.long x1)) (by rw [e29]; exact Ar30.1) (State.isArrayOf_alike hZ.alike Ar30.2.1) Ar30.2.2 hin30 hat30 (g := (mkF m 63 #[.val (.ref a1), .val (.ref a2), .val (.int (if x0 < y0 then (0 : Int32) else (1 : Int32))), .val (.int (1 : Int32))] [(.int (1 : Int32)), (.ref t1)])) rfl rfl (hb hby d6_63) _ ?_
                  show Steps p.tables e below (T29.setTop (mkF m 64 #[.val (.ref a1), .val (.ref a2), .val (.int (if x0 < y0 then (0 : Int32) else (1 : Int32))), .val (.int (1 : Int32))] [(.long x1)])) _
                  refine XS.aloadN X29.here hx rfl (hb hby d6_64) rfl rfl ?_
                  show Steps p.tables e below (T29.setTop (mkF m 65 #[.val (.ref a1), .val (.ref a2), .val (.int (if x0 < y0 then (0 : Int32) else (1 : Int32))), .val (.int (1 : Int32))] [(.ref a2), (.long x1)])) _
                  refine st31 _ ?_
                  show Steps p.tables e below (T31.setTop (mkF m 68 #[.val (.ref a1), .val (.ref a2), .val (.int (if x0 < y0 then (0 : Int32) else (1 : Int32))), .val (.int (1 : Int32))] [(.ref t2), (.long x1)])) _
                  refine XS.iloadN X31.here hx rfl (hb hby d6_68) rfl ?_
                  show Steps p.tables e below (T31.setTop (mkF m 69 #[.val (.ref a1), .val (.ref a2), .val (.int (if x0 < y0 then (0 : Int32) else (1 : Int32))), .val (.int (1 : Int32))] [(.int (1 : Int32)), (.ref t2), (.long x1)])) _
                  refine X31.laload hx (j := (1 : Int32)) (v := (.long y1)) (by rw [e31]; exact Ar32.1) (State.isArrayOf_alike hZ.alike Ar32.2.1) Ar32.2.2 hin32 hat32 (g := (mkF m 69 #[.val (.ref a1), .val (.ref a2), .val (.int (if x0 < y0 then (0 : Int32) else (1 : Int32))), .val (.int (1 : Int32))] [(.int (1 : Int32)), (.ref t2), (.long x1)])) rfl rfl (hb hby d6_69) _ ?_
                  show Steps p.tables e below (T31.setTop (mkF m 70 #[.val (.ref a1), .val (.ref a2), .val (.int (if x0 < y0 then (0 : Int32) else (1 : Int32))), .val (.int (1 : Int32))] [(.long y1), (.long x1)])) _
                  refine XT.lcmp X31.here hx rfl (hb hby d6_70) rfl ?_
                  show Steps p.tables e below (T31.setTop (mkF m 71 #[.val (.ref a1), .val (.ref a2), .val (.int (if x0 < y0 then (0 : Int32) else (1 : Int32))), .val (.int (1 : Int32))] [(.int (XT.cmpL x1 y1))])) _
                  refine st34 _ ?_
                  show Steps p.tables e below (T31.setTop (mkF m 79 #[.val (.ref a1), .val (.ref a2), .val (.int (if x0 < y0 then (0 : Int32) else (1 : Int32))), .val (.int (1 : Int32))] [(.int (if x1 < y1 then (0 : Int32) else (1 : Int32)))])) _
                  refine XS.istoreN X31.here hx rfl (hb hby d6_79) rfl (l' := #[.val (.ref a1), .val (.ref a2), .val (.int (if x1 < y1 then (0 : Int32) else (1 : Int32))), .val (.int (1 : Int32))]) rfl ?_
                  show Steps p.tables e below (T31.setTop (mkF m 80 #[.val (.ref a1), .val (.ref a2), .val (.int (if x1 < y1 then (0 : Int32) else (1 : Int32))), .val (.int (1 : Int32))] [])) _
                  refine XS.iinc X31.here hx rfl (hb hby d6_80) rfl (l' := #[.val (.ref a1), .val (.ref a2), .val (.int (if x1 < y1 then (0 : Int32) else (1 : Int32))), .val (.int (2 : Int32))]) rfl ?_
                  show Steps p.tables e below (T31.setTop (mkF m 83 #[.val (.ref a1), .val (.ref a2), .val (.int (if x1 < y1 then (0 : Int32) else (1 : Int32))), .val (.int (2 : Int32))] [])) _
                  refine XS.goto X31.here hx rfl (pc0 := 83) (pc' := 45) rfl (hb hby d6_83) (by decide) (by decide) ?_
                  show Steps p.tables e below (T31.setTop (mkF m 45 #[.val (.ref a1), .val (.ref a2), .val (.int (if x1 < y1 then (0 : Int32) else (1 : Int32))), .val (.int (2 : Int32))] [])) _
                  refine XS.iloadN X31.here hx rfl (hb hby d6_45) rfl ?_
                  show Steps p.tables e below (T31.setTop (mkF m 46 #[.val (.ref a1), .val (.ref a2), .val (.int (if x1 < y1 then (0 : Int32) else (1 : Int32))), .val (.int (2 : Int32))] [(.int (if x1 < y1 then (0 : Int32) else (1 : Int32)))])) _
                  refine st39 _ ?_
                  exact k
                · refine ⟨T26, _, X26, e26, N14, fun t k => ?_⟩
                  rw [show (f6_2 n1 n2 d1 l1 d2 l2 x0 x1 y0 y1) = (if x0 < y0 then (0 : Int32) else (1 : Int32)) from if_neg h28] at k
                  rw [show (if (1 : Int32) < n1 then (2 : Int32) else (1 : Int32)) = (1 : Int32) from if_neg h28] at k
                  show Steps p.tables e below (T26.setTop (mkF m 55 #[.val (.ref a1), .val (.ref a2), .val (.int (if x0 < y0 then (0 : Int32) else (1 : Int32))), .val (.int (1 : Int32))] [(.int n1), (.int (1 : Int32))])) _
                  refine XS.icmpYes X26.here hx rfl (pc0 := 55) (pc' := 86) rfl (hb hby d6_55) rfl (flt h28).2.1 (by decide) (by decide) ?_
                  exact k
              refine ⟨T40, _, X40, e40, N40, fun t k => ?_⟩
              rw [show (f6_3 n1 n2 d1 l1 d2 l2 x0 x1 y0 y1) = (f6_2 n1 n2 d1 l1 d2 l2 x0 x1 y0 y1) from if_neg h25] at k
              rw [show (f6_4 n1 n2 d1 l1 d2 l2 x0 x1 y0 y1) = (if (1 : Int32) < n1 then (2 : Int32) else (1 : Int32)) from if_neg h25] at k
              show Steps p.tables e below (T21.setTop (mkF m 46 #[.val (.ref a1), .val (.ref a2), .val (.int (if x0 < y0 then (0 : Int32) else (1 : Int32))), .val (.int (1 : Int32))] [(.int (if x0 < y0 then (0 : Int32) else (1 : Int32)))])) _
              refine XS.ifNo X21.here hx rfl (hb hby d6_46) rfl ((if0 _ _).trans (feq h25).1) ?_
              show Steps p.tables e below (T21.setTop (mkF m 49 #[.val (.ref a1), .val (.ref a2), .val (.int (if x0 < y0 then (0 : Int32) else (1 : Int32))), .val (.int (1 : Int32))] [])) _
              refine XS.iloadN X21.here hx rfl (hb hby d6_49) rfl ?_
              show Steps p.tables e below (T21.setTop (mkF m 50 #[.val (.ref a1), .val (.ref a2), .val (.int (if x0 < y0 then (0 : Int32) else (1 : Int32))), .val (.int (1 : Int32))] [(.int (1 : Int32))])) _
              refine XS.aloadN X21.here hx rfl (hb hby d6_50) rfl rfl ?_
              show Steps p.tables e below (T21.setTop (mkF m 51 #[.val (.ref a1), .val (.ref a2), .val (.int (if x0 < y0 then (0 : Int32) else (1 : Int32))), .val (.int (1 : Int32))] [(.ref a1), (.int (1 : Int32))])) _
              refine st26 _ ?_
              show Steps p.tables e below (T26.setTop (mkF m 54 #[.val (.ref a1), .val (.ref a2), .val (.int (if x0 < y0 then (0 : Int32) else (1 : Int32))), .val (.int (1 : Int32))] [(.ref t1), (.int (1 : Int32))])) _
              refine X26.arraylength hx (by rw [e26]; exact Ar27.1) (State.isArrayOf_alike hZ.alike Ar27.2.1) (g := (mkF m 54 #[.val (.ref a1), .val (.ref a2), .val (.int (if x0 < y0 then (0 : Int32) else (1 : Int32))), .val (.int (1 : Int32))] [(.ref t1), (.int (1 : Int32))])) rfl rfl (hb hby d6_54) _ ?_
              rw [len_of S27 M27]
              show Steps p.tables e below (T26.setTop (mkF m 55 #[.val (.ref a1), .val (.ref a2), .val (.int (if x0 < y0 then (0 : Int32) else (1 : Int32))), .val (.int (1 : Int32))] [(.int n1), (.int (1 : Int32))])) _
              refine st40 _ ?_
              exact k
          refine ⟨T41, _, X41, e41, N41, fun t k => ?_⟩
          rw [show (f6_5 n1 n2 d1 l1 d2 l2 x0 x1 y0 y1) = (f6_3 n1 n2 d1 l1 d2 l2 x0 x1 y0 y1) from if_pos h18] at k
          rw [show (f6_6 n1 n2 d1 l1 d2 l2 x0 x1 y0 y1) = (f6_4 n1 n2 d1 l1 d2 l2 x0 x1 y0 y1) from if_pos h18] at k
          show Steps p.tables e below (T16.setTop (mkF m 55 #[.val (.ref a1), .val (.ref a2), .val (.int (f6_1 n1 n2 d1 l1 d2 l2 x0 x1 y0 y1)), .val (.int (0 : Int32))] [(.int n1), (.int (0 : Int32))])) _
          refine XS.icmpNo X16.here hx rfl (hb hby d6_55) rfl (tlt h18).2.1 ?_
          show Steps p.tables e below (T16.setTop (mkF m 58 #[.val (.ref a1), .val (.ref a2), .val (.int (f6_1 n1 n2 d1 l1 d2 l2 x0 x1 y0 y1)), .val (.int (0 : Int32))] [])) _
          refine XS.aloadN X16.here hx rfl (hb hby d6_58) rfl rfl ?_
          show Steps p.tables e below (T16.setTop (mkF m 59 #[.val (.ref a1), .val (.ref a2), .val (.int (f6_1 n1 n2 d1 l1 d2 l2 x0 x1 y0 y1)), .val (.int (0 : Int32))] [(.ref a1)])) _
          refine st19 _ ?_
          show Steps p.tables e below (T19.setTop (mkF m 62 #[.val (.ref a1), .val (.ref a2), .val (.int (f6_1 n1 n2 d1 l1 d2 l2 x0 x1 y0 y1)), .val (.int (0 : Int32))] [(.ref t1)])) _
          refine XS.iloadN X19.here hx rfl (hb hby d6_62) rfl ?_
          show Steps p.tables e below (T19.setTop (mkF m 63 #[.val (.ref a1), .val (.ref a2), .val (.int (f6_1 n1 n2 d1 l1 d2 l2 x0 x1 y0 y1)), .val (.int (0 : Int32))] [(.int (0 : Int32)), (.ref t1)])) _
          refine X19.laload hx (j := (0 : Int32)) (v := (.long x0)) (by rw [e19]; exact Ar20.1) (State.isArrayOf_alike hZ.alike Ar20.2.1) Ar20.2.2 hin20 hat20 (g := (mkF m 63 #[.val (.ref a1), .val (.ref a2), .val (.int (f6_1 n1 n2 d1 l1 d2 l2 x0 x1 y0 y1)), .val (.int (0 : Int32))] [(.int (0 : Int32)), (.ref t1)])) rfl rfl (hb hby d6_63) _ ?_
          show Steps p.tables e below (T19.setTop (mkF m 64 #[.val (.ref a1), .val (.ref a2), .val (.int (f6_1 n1 n2 d1 l1 d2 l2 x0 x1 y0 y1)), .val (.int (0 : Int32))] [(.long x0)])) _
          refine XS.aloadN X19.here hx rfl (hb hby d6_64) rfl rfl ?_
          show Steps p.tables e below (T19.setTop (mkF m 65 #[.val (.ref a1), .val (.ref a2), .val (.int (f6_1 n1 n2 d1 l1 d2 l2 x0 x1 y0 y1)), .val (.int (0 : Int32))] [(.ref a2), (.long x0)])) _
          refine st21 _ ?_
          show Steps p.tables e below (T21.setTop (mkF m 68 #[.val (.ref a1), .val (.ref a2), .val (.int (f6_1 n1 n2 d1 l1 d2 l2 x0 x1 y0 y1)), .val (.int (0 : Int32))] [(.ref t2), (.long x0)])) _
          refine XS.iloadN X21.here hx rfl (hb hby d6_68) rfl ?_
          show Steps p.tables e below (T21.setTop (mkF m 69 #[.val (.ref a1), .val (.ref a2), .val (.int (f6_1 n1 n2 d1 l1 d2 l2 x0 x1 y0 y1)), .val (.int (0 : Int32))] [(.int (0 : Int32)), (.ref t2), (.long x0)])) _
          refine X21.laload hx (j := (0 : Int32)) (v := (.long y0)) (by rw [e21]; exact Ar22.1) (State.isArrayOf_alike hZ.alike Ar22.2.1) Ar22.2.2 hin22 hat22 (g := (mkF m 69 #[.val (.ref a1), .val (.ref a2), .val (.int (f6_1 n1 n2 d1 l1 d2 l2 x0 x1 y0 y1)), .val (.int (0 : Int32))] [(.int (0 : Int32)), (.ref t2), (.long x0)])) rfl rfl (hb hby d6_69) _ ?_
          show Steps p.tables e below (T21.setTop (mkF m 70 #[.val (.ref a1), .val (.ref a2), .val (.int (f6_1 n1 n2 d1 l1 d2 l2 x0 x1 y0 y1)), .val (.int (0 : Int32))] [(.long y0), (.long x0)])) _
          refine XT.lcmp X21.here hx rfl (hb hby d6_70) rfl ?_
          show Steps p.tables e below (T21.setTop (mkF m 71 #[.val (.ref a1), .val (.ref a2), .val (.int (f6_1 n1 n2 d1 l1 d2 l2 x0 x1 y0 y1)), .val (.int (0 : Int32))] [(.int (XT.cmpL x0 y0))])) _
          refine st24 _ ?_
          show Steps p.tables e below (T21.setTop (mkF m 79 #[.val (.ref a1), .val (.ref a2), .val (.int (f6_1 n1 n2 d1 l1 d2 l2 x0 x1 y0 y1)), .val (.int (0 : Int32))] [(.int (if x0 < y0 then (0 : Int32) else (1 : Int32)))])) _
          refine XS.istoreN X21.here hx rfl (hb hby d6_79) rfl (l' := #[.val (.ref a1), .val (.ref a2), .val (.int (if x0 < y0 then (0 : Int32) else (1 : Int32))), .val (.int (0 : Int32))]) rfl ?_
          show Steps p.tables e below (T21.setTop (mkF m 80 #[.val (.ref a1), .val (.ref a2), .val (.int (if x0 < y0 then (0 : Int32) else (1 : Int32))), .val (.int (0 : Int32))] [])) _
          refine XS.iinc X21.here hx rfl (hb hby d6_80) rfl (l' := #[.val (.ref a1), .val (.ref a2), .val (.int (if x0 < y0 then (0 : Int32) else (1 : Int32))), .val (.int (1 : Int32))]) rfl ?_
          show Steps p.tables e below (T21.setTop (mkF m 83 #[.val (.ref a1), .val (.ref a2), .val (.int (if x0 < y0 then (0 : Int32) else (1 : Int32))), .val (.int (1 : Int32))] [])) _
          refine XS.goto X21.here hx rfl (pc0 := 83) (pc' := 45) rfl (hb hby d6_83) (by decide) (by decide) ?_
          show Steps p.tables e below (T21.setTop (mkF m 45 #[.val (.ref a1), .val (.ref a2), .val (.int (if x0 < y0 then (0 : Int32) else (1 : Int32))), .val (.int (1 : Int32))] [])) _
          refine XS.iloadN X21.here hx rfl (hb hby d6_45) rfl ?_
          show Steps p.tables e below (T21.setTop (mkF m 46 #[.val (.ref a1), .val (.ref a2), .val (.int (if x0 < y0 then (0 : Int32) else (1 : Int32))), .val (.int (1 : Int32))] [(.int (if x0 < y0 then (0 : Int32) else (1 : Int32)))])) _
          refine st41 _ ?_
          exact k
        · refine ⟨T16, _, X16, e16, N14, fun t k => ?_⟩
          rw [show (f6_5 n1 n2 d1 l1 d2 l2 x0 x1 y0 y1) = (f6_1 n1 n2 d1 l1 d2 l2 x0 x1 y0 y1) from if_neg h18] at k
          rw [show (f6_6 n1 n2 d1 l1 d2 l2 x0 x1 y0 y1) = (0 : Int32) from if_neg h18] at k
          show Steps p.tables e below (T16.setTop (mkF m 55 #[.val (.ref a1), .val (.ref a2), .val (.int (f6_1 n1 n2 d1 l1 d2 l2 x0 x1 y0 y1)), .val (.int (0 : Int32))] [(.int n1), (.int (0 : Int32))])) _
          refine XS.icmpYes X16.here hx rfl (pc0 := 55) (pc' := 86) rfl (hb hby d6_55) rfl (flt h18).2.1 (by decide) (by decide) ?_
          exact k
      refine ⟨T42, _, X42, e42, N42, fun t k => ?_⟩
      rw [show (f6_7 n1 n2 d1 l1 d2 l2 x0 x1 y0 y1) = (f6_5 n1 n2 d1 l1 d2 l2 x0 x1 y0 y1) from if_neg h15] at k
      rw [show (f6_8 n1 n2 d1 l1 d2 l2 x0 x1 y0 y1) = (f6_6 n1 n2 d1 l1 d2 l2 x0 x1 y0 y1) from if_neg h15] at k
      show Steps p.tables e below (T14.setTop (mkF m 46 #[.val (.ref a1), .val (.ref a2), .val (.int (f6_1 n1 n2 d1 l1 d2 l2 x0 x1 y0 y1)), .val (.int (0 : Int32))] [(.int (f6_1 n1 n2 d1 l1 d2 l2 x0 x1 y0 y1))])) _
      refine XS.ifNo X14.here hx rfl (hb hby d6_46) rfl ((if0 _ _).trans (feq h15).1) ?_
      show Steps p.tables e below (T14.setTop (mkF m 49 #[.val (.ref a1), .val (.ref a2), .val (.int (f6_1 n1 n2 d1 l1 d2 l2 x0 x1 y0 y1)), .val (.int (0 : Int32))] [])) _
      refine XS.iloadN X14.here hx rfl (hb hby d6_49) rfl ?_
      show Steps p.tables e below (T14.setTop (mkF m 50 #[.val (.ref a1), .val (.ref a2), .val (.int (f6_1 n1 n2 d1 l1 d2 l2 x0 x1 y0 y1)), .val (.int (0 : Int32))] [(.int (0 : Int32))])) _
      refine XS.aloadN X14.here hx rfl (hb hby d6_50) rfl rfl ?_
      show Steps p.tables e below (T14.setTop (mkF m 51 #[.val (.ref a1), .val (.ref a2), .val (.int (f6_1 n1 n2 d1 l1 d2 l2 x0 x1 y0 y1)), .val (.int (0 : Int32))] [(.ref a1), (.int (0 : Int32))])) _
      refine st16 _ ?_
      show Steps p.tables e below (T16.setTop (mkF m 54 #[.val (.ref a1), .val (.ref a2), .val (.int (f6_1 n1 n2 d1 l1 d2 l2 x0 x1 y0 y1)), .val (.int (0 : Int32))] [(.ref t1), (.int (0 : Int32))])) _
      refine X16.arraylength hx (by rw [e16]; exact Ar17.1) (State.isArrayOf_alike hZ.alike Ar17.2.1) (g := (mkF m 54 #[.val (.ref a1), .val (.ref a2), .val (.int (f6_1 n1 n2 d1 l1 d2 l2 x0 x1 y0 y1)), .val (.int (0 : Int32))] [(.ref t1), (.int (0 : Int32))])) rfl rfl (hb hby d6_54) _ ?_
      rw [len_of S17 M17]
      show Steps p.tables e below (T16.setTop (mkF m 55 #[.val (.ref a1), .val (.ref a2), .val (.int (f6_1 n1 n2 d1 l1 d2 l2 x0 x1 y0 y1)), .val (.int (0 : Int32))] [(.int n1), (.int (0 : Int32))])) _
      refine st42 _ ?_
      exact k
  obtain ⟨fs, hr, hrun, hended, hW, hsame⟩ := X43.leave (v := some (.int ((f6_7 n1 n2 d1 l1 d2 l2 x0 x1 y0 y1) &&& 1))) (fun h => by rw [Bd.returns] at h; cases h)
  refine ⟨_, _, ?_, hrun, hended, _, _, rfl, ?_, ⟨_, rfl⟩, hW, hsame.mono (by decide) (by decide)⟩
  · show Steps p.tables e below (s₁.setTop (mkF m 0 #[.val (.ref a1), .val (.ref a2), .unset, .unset] [])) _
    refine XS.aloadN X0.here hx rfl (hb hby d6_0) rfl rfl ?_
    show Steps p.tables e below (s₁.setTop (mkF m 1 #[.val (.ref a1), .val (.ref a2), .unset, .unset] [(.ref a1)])) _
    refine st1 _ ?_
    show Steps p.tables e below (T1.setTop (mkF m 4 #[.val (.ref a1), .val (.ref a2), .unset, .unset] [(.ref t1)])) _
    refine X1.arraylength hx (by rw [e1]; exact Ar2.1) (State.isArrayOf_alike hZ.alike Ar2.2.1) (g := (mkF m 4 #[.val (.ref a1), .val (.ref a2), .unset, .unset] [(.ref t1)])) rfl rfl (hb hby d6_4) _ ?_
    rw [len_of S2 M2]
    show Steps p.tables e below (T1.setTop (mkF m 5 #[.val (.ref a1), .val (.ref a2), .unset, .unset] [(.int n1)])) _
    refine XS.aloadN X1.here hx rfl (hb hby d6_5) rfl rfl ?_
    show Steps p.tables e below (T1.setTop (mkF m 6 #[.val (.ref a1), .val (.ref a2), .unset, .unset] [(.ref a2), (.int n1)])) _
    refine st3 _ ?_
    show Steps p.tables e below (T3.setTop (mkF m 9 #[.val (.ref a1), .val (.ref a2), .unset, .unset] [(.ref t2), (.int n1)])) _
    refine X3.arraylength hx (by rw [e3]; exact Ar4.1) (State.isArrayOf_alike hZ.alike Ar4.2.1) (g := (mkF m 9 #[.val (.ref a1), .val (.ref a2), .unset, .unset] [(.ref t2), (.int n1)])) rfl rfl (hb hby d6_9) _ ?_
    rw [len_of S4 M4]
    show Steps p.tables e below (T3.setTop (mkF m 10 #[.val (.ref a1), .val (.ref a2), .unset, .unset] [(.int n2), (.int n1)])) _
    refine st14 _ ?_
    show Steps p.tables e below (T14.setTop (mkF m 42 #[.val (.ref a1), .val (.ref a2), .unset, .unset] [(.int (f6_1 n1 n2 d1 l1 d2 l2 x0 x1 y0 y1))])) _
    refine XS.istoreN X14.here hx rfl (hb hby d6_42) rfl (l' := #[.val (.ref a1), .val (.ref a2), .val (.int (f6_1 n1 n2 d1 l1 d2 l2 x0 x1 y0 y1)), .unset]) rfl ?_
    show Steps p.tables e below (T14.setTop (mkF m 43 #[.val (.ref a1), .val (.ref a2), .val (.int (f6_1 n1 n2 d1 l1 d2 l2 x0 x1 y0 y1)), .unset] [])) _
    refine XS.iconst X14.here hx rfl (hb hby d6_43) ?_
    show Steps p.tables e below (T14.setTop (mkF m 44 #[.val (.ref a1), .val (.ref a2), .val (.int (f6_1 n1 n2 d1 l1 d2 l2 x0 x1 y0 y1)), .unset] [(.int (0 : Int32))])) _
    refine XS.istoreN X14.here hx rfl (hb hby d6_44) rfl (l' := #[.val (.ref a1), .val (.ref a2), .val (.int (f6_1 n1 n2 d1 l1 d2 l2 x0 x1 y0 y1)), .val (.int (0 : Int32))]) rfl ?_
    show Steps p.tables e below (T14.setTop (mkF m 45 #[.val (.ref a1), .val (.ref a2), .val (.int (f6_1 n1 n2 d1 l1 d2 l2 x0 x1 y0 y1)), .val (.int (0 : Int32))] [])) _
    refine XS.iloadN X14.here hx rfl (hb hby d6_45) rfl ?_
    show Steps p.tables e below (T14.setTop (mkF m 46 #[.val (.ref a1), .val (.ref a2), .val (.int (f6_1 n1 n2 d1 l1 d2 l2 x0 x1 y0 y1)), .val (.int (0 : Int32))] [(.int (f6_1 n1 n2 d1 l1 d2 l2 x0 x1 y0 y1))])) _
    refine st43 _ ?_
    show Steps p.tables e below (T43.setTop (mkF m 86 #[.val (.ref a1), .val (.ref a2), .val (.int (f6_7 n1 n2 d1 l1 d2 l2 x0 x1 y0 y1)), .val (.int (f6_8 n1 n2 d1 l1 d2 l2 x0 x1 y0 y1))] [])) _
    refine XS.iloadN X43.here hx rfl (hb hby d6_86) rfl ?_
    show Steps p.tables e below (T43.setTop (mkF m 87 #[.val (.ref a1), .val (.ref a2), .val (.int (f6_7 n1 n2 d1 l1 d2 l2 x0 x1 y0 y1)), .val (.int (f6_8 n1 n2 d1 l1 d2 l2 x0 x1 y0 y1))] [(.int (f6_7 n1 n2 d1 l1 d2 l2 x0 x1 y0 y1))])) _
    exact retN X43 hx (t := .boolean) Bd.returns (by simp) (hb hby d6_87) hr
  · show Q6 Z a1 a2 t1 t2 k1 k2 n1 n2 d1 l1 d2 l2 x0 x1 y0 y1 h0 n0 _ T43.heap _
    rw [e43]
    have hf : f6 n1 n2 d1 l1 d2 l2 x0 x1 y0 y1 = ((f6_7 n1 n2 d1 l1 d2 l2 x0 x1 y0 y1) &&& 1) := rfl
    exact ⟨by rw [hf], N43, rfl⟩
theorem pn_0 : plainName "com/example/stratum/stratum/search/StatisticsCoversPinLaw" = true := by first | (simp [plainName, overriddenIn]; done) | decide +kernel
theorem ef_0 (m : MethodId) (q1 : Int64) (q2 : Int64) (q3 : Int64) (q4 : Int64) (q5 : Int64) (p6 : Int32) : entryFrame m #[(.long q1), (.long q2), (.long q3), (.long q4), (.long q5), (.int p6)] maxLocals = mkF m 0 #[.val (.long q1), .second, .val (.long q2), .second, .val (.long q3), .second, .val (.long q4), .second, .val (.long q5), .second, .val (.int p6), .unset, .unset, .unset, .unset, .unset, .unset, .unset, .unset, .unset, .unset, .unset, .unset, .unset, .unset, .unset, .unset, .unset, .unset, .unset, .unset, .unset] [] := by first | (simp [entryFrame, mkF, argsToLocals, Value.category, maxLocals]; done) | rfl
def Q0 (Z : State) (q1 : Int64) (q2 : Int64) (q3 : Int64) (q4 : Int64) (q5 : Int64) (p6 : Int32) (h0 : Heap) (n0 : Nat) (v : Option Value) (h : Heap) (L : List Loc) : Prop := v = some (.int (1 : Int32)) ∧ Fr n0 L
set_option maxRecDepth 65536 in
set_option maxHeartbeats 40000000 in
theorem rm0 (l : Launch) (Z : State) (a0 : Array Value) (hw : ∀ d ∈ tables_1, d.before a0 Z = true) (ws : List Jvm.Cond) (q1 : Int64) (q2 : Int64) (q3 : Int64) (q4 : Int64) (q5 : Int64) (p6 : Int32) (h0 : Heap) (n0 : Nat) (Z0 : n0 ≤ h0.size) :
    MetFree l x (head1 (Jvm.Cond.code x code maxLocals ret :: ws) room_1) (fun a U => a = #[(.long q1), (.long q2), (.long q3), (.long q4), (.long q5), (.int p6)] ∧ Z.Warmed39 U.vm ∧ U.heap = h0) (fun _ _ _ _ _ => True) (fun _ U o U' => ∃ v L, o = .returned v ∧ Q0 Z q1 q2 q3 q4 q5 p6 h0 n0 v U'.heap L ∧ FrameEnd U o U' L room_1.cells room_1.slots) := by
  refine MetFree.of_bodySF (plainFor_of_name pn_0) hisR ?_
  intro p e s m args below meth c s₁ Bd hml0 hP hK
  obtain ⟨rfl, hZ, hh⟩ := hP
  have hx := Bd.exec
  have hby := Bd.bytes
  have hml : c.maxLocals = 32 := hml0
  have hown : s.vm.findClass "com/example/stratum/stratum/search/StatisticsCoversPinLaw" = some m.cls := findClass_of_methodNamed Bd.named
  have hnm := (name_of_methodNamed Bd.named Bd.method).1
  have X0 : Stand p l e room_1 s m #[(.long q1), (.long q2), (.long q3), (.long q4), (.long q5), (.int p6)] below meth c s₁ [] 0 0 := Stand.of_body Bd
  have e0 : s₁.heap = h0 := by rw [← hh, Bd.state]; rfl
  have N0 := Fr.nil n0
  have pre0 : ∀ t, Steps p.tables e below (s₁.setTop (mkF m 0 #[.val (.long q1), .second, .val (.long q2), .second, .val (.long q3), .second, .val (.long q4), .second, .val (.long q5), .second, .val (.int p6), .unset, .unset, .unset, .unset, .unset, .unset, .unset, .unset, .unset, .unset, .unset, .unset, .unset, .unset, .unset, .unset, .unset, .unset, .unset, .unset, .unset] [])) t → Steps p.tables e below (s₁.setTop (entryFrame m #[(.long q1), (.long q2), (.long q3), (.long q4), (.long q5), (.int p6)] maxLocals)) t := fun t k => castTop (ef_0 m q1 q2 q3 q4 q5 p6) k
  refine own_step (Q := fun o U' => ∃ v L, o = .returned v ∧ Q0 Z q1 q2 q3 q4 q5 p6 h0 n0 v U'.heap L ∧ FrameEnd s o U' L room_1.cells room_1.slots) pre0 ?_
  have K0 : Keep h0 h0 [] := Keep.refl h0 []
  obtain ⟨_, _, ⟨T1, L1, k1, n1⟩, -, X1, ⟨Lc1, hQ1, l1, y1, z1⟩, st1⟩ := Jvm.LawKit.callS X0 hx (y := (⟨"java/lang/Math", "min", "(II)I"⟩ : MethodName)) hown (mvT hZ (hw _ (List.mem_of_getElem? (i := 1) rfl))) (mvT hZ (hw _ (List.mem_of_getElem? (i := 2) rfl))) (mvT hZ (hw _ (List.mem_of_getElem? (i := 3) rfl))) (mvT hZ (hw _ (List.mem_of_getElem? (i := 4) rfl))) (by decide) (backOf (W := 0) (rm1 l Z a0 hw [] (p6 &&& (3 : Int32)) (2 : Int32) h0 n0 Z0) hZ (hw _ (List.mem_of_getElem? (i := 4) rfl)) (hw _ (List.mem_of_getElem? (i := 3) rfl)) (by decide) (by decide)) (g := (mkF m 35 #[.val (.long q1), .second, .val (.long q2), .second, .val (.long q3), .second, .val (.long q4), .second, .val (.long q5), .second, .val (.int p6), .val (.long (q1 &&& (9223372036854775807 : Int64))), .second, .val (.long (q2 &&& (9223372036854775807 : Int64))), .second, .val (.long (q3 &&& (9223372036854775807 : Int64))), .second, .val (.long (q4 &&& (9223372036854775807 : Int64))), .second, .unset, .unset, .unset, .unset, .unset, .unset, .unset, .unset, .unset, .unset, .unset, .unset, .unset] [(.int (2 : Int32)), (.int (p6 &&& (3 : Int32)))])) rfl (by rw [hml]; rfl) (argsL := [(.int (p6 &&& (3 : Int32))), (.int (2 : Int32))]) (rest := []) (lenOf pd_0 rfl) rfl (by show 2 * 0 + _ ≤ _; exact Nat.le_of_eq rfl) (hb hby at_35) (fun _ _ => ⟨rfl, e0, (by decide : 0 + 0 ≤ _), (by decide : 0 + 0 ≤ _)⟩)
  dsimp only [Pt.U, Pt.locs, Pt.cells, Pt.slots] at X1 l1 y1 z1 st1 hQ1
  subst l1 y1 z1
  obtain ⟨rfl, N1q, e1⟩ := hQ1
  have N1 := Fr.app N0 N1q
  obtain ⟨_, _, ⟨T2, L2, k2, n2⟩, -, X2, ⟨Lc2, hQ2, l2, y2, z2⟩, st2⟩ := Jvm.LawKit.callS X1 hx (y := (⟨"java/lang/Math", "min", "(II)I"⟩ : MethodName)) hown (mvT hZ (hw _ (List.mem_of_getElem? (i := 1) rfl))) (mvT hZ (hw _ (List.mem_of_getElem? (i := 2) rfl))) (mvT hZ (hw _ (List.mem_of_getElem? (i := 3) rfl))) (mvT hZ (hw _ (List.mem_of_getElem? (i := 4) rfl))) (by decide) (backOf (W := 0) (rm1 l Z a0 hw [] ((XT.ushr p6 (2 : Int32)) &&& (3 : Int32)) (2 : Int32) h0 n0 Z0) hZ (hw _ (List.mem_of_getElem? (i := 4) rfl)) (hw _ (List.mem_of_getElem? (i := 3) rfl)) (by decide) (by decide)) (g := (mkF m 47 #[.val (.long q1), .second, .val (.long q2), .second, .val (.long q3), .second, .val (.long q4), .second, .val (.long q5), .second, .val (.int p6), .val (.long (q1 &&& (9223372036854775807 : Int64))), .second, .val (.long (q2 &&& (9223372036854775807 : Int64))), .second, .val (.long (q3 &&& (9223372036854775807 : Int64))), .second, .val (.long (q4 &&& (9223372036854775807 : Int64))), .second, .val (.int (f1 (p6 &&& (3 : Int32)) (2 : Int32))), .unset, .unset, .unset, .unset, .unset, .unset, .unset, .unset, .unset, .unset, .unset, .unset] [(.int (2 : Int32)), (.int ((XT.ushr p6 (2 : Int32)) &&& (3 : Int32)))])) rfl (by rw [hml]; rfl) (argsL := [(.int ((XT.ushr p6 (2 : Int32)) &&& (3 : Int32))), (.int (2 : Int32))]) (rest := []) (lenOf pd_0 rfl) rfl (by show 2 * 0 + _ ≤ _; exact Nat.le_of_eq rfl) (hb hby at_47) (fun _ _ => ⟨rfl, e1, (by decide : 0 + 0 ≤ _), (by decide : 0 + 0 ≤ _)⟩)
  dsimp only [Pt.U, Pt.locs, Pt.cells, Pt.slots] at X2 l2 y2 z2 st2 hQ2
  subst l2 y2 z2
  obtain ⟨rfl, N2q, e2⟩ := hQ2
  have N2 := Fr.app N1 N2q
  obtain ⟨_, _, ⟨T3, L3, k3, n3⟩, -, X3, ⟨Lc3, hQ3, l3, y3, z3⟩, st3⟩ := Jvm.LawKit.callS X2 hx (y := (⟨"java/lang/Math", "min", "(JJ)J"⟩ : MethodName)) hown (mvT hZ (hw _ (List.mem_of_getElem? (i := 6) rfl))) (mvT hZ (hw _ (List.mem_of_getElem? (i := 7) rfl))) (mvT hZ (hw _ (List.mem_of_getElem? (i := 3) rfl))) (mvT hZ (hw _ (List.mem_of_getElem? (i := 8) rfl))) (by decide) (backOf (W := 0) (rm2 l Z a0 hw [] (q5 &&& (65535 : Int64)) (q1 &&& (9223372036854775807 : Int64)) h0 n0 Z0) hZ (hw _ (List.mem_of_getElem? (i := 8) rfl)) (hw _ (List.mem_of_getElem? (i := 3) rfl)) (by decide) (by decide)) (g := (mkF m 60 #[.val (.long q1), .second, .val (.long q2), .second, .val (.long q3), .second, .val (.long q4), .second, .val (.long q5), .second, .val (.int p6), .val (.long (q1 &&& (9223372036854775807 : Int64))), .second, .val (.long (q2 &&& (9223372036854775807 : Int64))), .second, .val (.long (q3 &&& (9223372036854775807 : Int64))), .second, .val (.long (q4 &&& (9223372036854775807 : Int64))), .second, .val (.int (f1 (p6 &&& (3 : Int32)) (2 : Int32))), .val (.int (f1 ((XT.ushr p6 (2 : Int32)) &&& (3 : Int32)) (2 : Int32))), .unset, .unset, .unset, .unset, .unset, .unset, .unset, .unset, .unset, .unset, .unset] [(.long (q1 &&& (9223372036854775807 : Int64))), (.long (q5 &&& (65535 : Int64)))])) rfl (by rw [hml]; rfl) (argsL := [(.long (q5 &&& (65535 : Int64))), (.long (q1 &&& (9223372036854775807 : Int64)))]) (rest := []) (lenOf pd_1 rfl) rfl (by show 2 * 0 + _ ≤ _; exact Nat.le_of_eq rfl) (hb hby at_60) (fun _ _ => ⟨rfl, e2, (by decide : 0 + 0 ≤ _), (by decide : 0 + 0 ≤ _)⟩)
  dsimp only [Pt.U, Pt.locs, Pt.cells, Pt.slots] at X3 l3 y3 z3 st3 hQ3
  subst l3 y3 z3
  obtain ⟨rfl, N3q, e3⟩ := hQ3
  have N3 := Fr.app N2 N3q
  obtain ⟨_, _, ⟨T4, L4, k4, n4⟩, -, X4, ⟨Lc4, hQ4, l4, y4, z4⟩, st4⟩ := Jvm.LawKit.callS X3 hx (y := (⟨"java/lang/Math", "min", "(JJ)J"⟩ : MethodName)) hown (mvT hZ (hw _ (List.mem_of_getElem? (i := 6) rfl))) (mvT hZ (hw _ (List.mem_of_getElem? (i := 7) rfl))) (mvT hZ (hw _ (List.mem_of_getElem? (i := 3) rfl))) (mvT hZ (hw _ (List.mem_of_getElem? (i := 8) rfl))) (by decide) (backOf (W := 0) (rm2 l Z a0 hw [] ((XT.ushrL q5 (16 : Int32)) &&& (65535 : Int64)) (q1 &&& (9223372036854775807 : Int64)) h0 n0 Z0) hZ (hw _ (List.mem_of_getElem? (i := 8) rfl)) (hw _ (List.mem_of_getElem? (i := 3) rfl)) (by decide) (by decide)) (g := (mkF m 76 #[.val (.long q1), .second, .val (.long q2), .second, .val (.long q3), .second, .val (.long q4), .second, .val (.long q5), .second, .val (.int p6), .val (.long (q1 &&& (9223372036854775807 : Int64))), .second, .val (.long (q2 &&& (9223372036854775807 : Int64))), .second, .val (.long (q3 &&& (9223372036854775807 : Int64))), .second, .val (.long (q4 &&& (9223372036854775807 : Int64))), .second, .val (.int (f1 (p6 &&& (3 : Int32)) (2 : Int32))), .val (.int (f1 ((XT.ushr p6 (2 : Int32)) &&& (3 : Int32)) (2 : Int32))), .val (.long (f0_0 q1 q2 q3 q4 q5 p6)), .second, .unset, .unset, .unset, .unset, .unset, .unset, .unset, .unset, .unset] [(.long (q1 &&& (9223372036854775807 : Int64))), (.long ((XT.ushrL q5 (16 : Int32)) &&& (65535 : Int64)))])) rfl (by rw [hml]; rfl) (argsL := [(.long ((XT.ushrL q5 (16 : Int32)) &&& (65535 : Int64))), (.long (q1 &&& (9223372036854775807 : Int64)))]) (rest := []) (lenOf pd_1 rfl) rfl (by show 2 * 0 + _ ≤ _; exact Nat.le_of_eq rfl) (hb hby at_76) (fun _ _ => ⟨rfl, e3, (by decide : 0 + 0 ≤ _), (by decide : 0 + 0 ≤ _)⟩)
  dsimp only [Pt.U, Pt.locs, Pt.cells, Pt.slots] at X4 l4 y4 z4 st4 hQ4
  subst l4 y4 z4
  obtain ⟨rfl, N4q, e4⟩ := hQ4
  have N4 := Fr.app N3 N4q
  obtain ⟨_, _, ⟨T5, L5, k5, n5⟩, -, X5, ⟨Lc5, hQ5, l5, y5, z5⟩, st5⟩ := Jvm.LawKit.callS X4 hx (y := (⟨"java/lang/Math", "min", "(JJ)J"⟩ : MethodName)) hown (mvT hZ (hw _ (List.mem_of_getElem? (i := 6) rfl))) (mvT hZ (hw _ (List.mem_of_getElem? (i := 7) rfl))) (mvT hZ (hw _ (List.mem_of_getElem? (i := 3) rfl))) (mvT hZ (hw _ (List.mem_of_getElem? (i := 8) rfl))) (by decide) (backOf (W := 0) (rm2 l Z a0 hw [] ((XT.ushrL q5 (32 : Int32)) &&& (65535 : Int64)) (q2 &&& (9223372036854775807 : Int64)) h0 n0 Z0) hZ (hw _ (List.mem_of_getElem? (i := 8) rfl)) (hw _ (List.mem_of_getElem? (i := 3) rfl)) (by decide) (by decide)) (g := (mkF m 92 #[.val (.long q1), .second, .val (.long q2), .second, .val (.long q3), .second, .val (.long q4), .second, .val (.long q5), .second, .val (.int p6), .val (.long (q1 &&& (9223372036854775807 : Int64))), .second, .val (.long (q2 &&& (9223372036854775807 : Int64))), .second, .val (.long (q3 &&& (9223372036854775807 : Int64))), .second, .val (.long (q4 &&& (9223372036854775807 : Int64))), .second, .val (.int (f1 (p6 &&& (3 : Int32)) (2 : Int32))), .val (.int (f1 ((XT.ushr p6 (2 : Int32)) &&& (3 : Int32)) (2 : Int32))), .val (.long (f0_0 q1 q2 q3 q4 q5 p6)), .second, .val (.long (f0_1 q1 q2 q3 q4 q5 p6)), .second, .unset, .unset, .unset, .unset, .unset, .unset, .unset] [(.long (q2 &&& (9223372036854775807 : Int64))), (.long ((XT.ushrL q5 (32 : Int32)) &&& (65535 : Int64)))])) rfl (by rw [hml]; rfl) (argsL := [(.long ((XT.ushrL q5 (32 : Int32)) &&& (65535 : Int64))), (.long (q2 &&& (9223372036854775807 : Int64)))]) (rest := []) (lenOf pd_1 rfl) rfl (by show 2 * 0 + _ ≤ _; exact Nat.le_of_eq rfl) (hb hby at_92) (fun _ _ => ⟨rfl, e4, (by decide : 0 + 0 ≤ _), (by decide : 0 + 0 ≤ _)⟩)
  dsimp only [Pt.U, Pt.locs, Pt.cells, Pt.slots] at X5 l5 y5 z5 st5 hQ5
  subst l5 y5 z5
  obtain ⟨rfl, N5q, e5⟩ := hQ5
  have N5 := Fr.app N4 N5q
  obtain ⟨_, _, ⟨T6, L6, k6, n6⟩, -, X6, ⟨Lc6, hQ6, l6, y6, z6⟩, st6⟩ := Jvm.LawKit.callS X5 hx (y := (⟨"java/lang/Math", "min", "(JJ)J"⟩ : MethodName)) hown (mvT hZ (hw _ (List.mem_of_getElem? (i := 6) rfl))) (mvT hZ (hw _ (List.mem_of_getElem? (i := 7) rfl))) (mvT hZ (hw _ (List.mem_of_getElem? (i := 3) rfl))) (mvT hZ (hw _ (List.mem_of_getElem? (i := 8) rfl))) (by decide) (backOf (W := 0) (rm2 l Z a0 hw [] ((XT.ushrL q5 (48 : Int32)) &&& (65535 : Int64)) (q2 &&& (9223372036854775807 : Int64)) h0 n0 Z0) hZ (hw _ (List.mem_of_getElem? (i := 8) rfl)) (hw _ (List.mem_of_getElem? (i := 3) rfl)) (by decide) (by decide)) (g := (mkF m 108 #[.val (.long q1), .second, .val (.long q2), .second, .val (.long q3), .second, .val (.long q4), .second, .val (.long q5), .second, .val (.int p6), .val (.long (q1 &&& (9223372036854775807 : Int64))), .second, .val (.long (q2 &&& (9223372036854775807 : Int64))), .second, .val (.long (q3 &&& (9223372036854775807 : Int64))), .second, .val (.long (q4 &&& (9223372036854775807 : Int64))), .second, .val (.int (f1 (p6 &&& (3 : Int32)) (2 : Int32))), .val (.int (f1 ((XT.ushr p6 (2 : Int32)) &&& (3 : Int32)) (2 : Int32))), .val (.long (f0_0 q1 q2 q3 q4 q5 p6)), .second, .val (.long (f0_1 q1 q2 q3 q4 q5 p6)), .second, .val (.long (f0_2 q1 q2 q3 q4 q5 p6)), .second, .unset, .unset, .unset, .unset, .unset] [(.long (q2 &&& (9223372036854775807 : Int64))), (.long ((XT.ushrL q5 (48 : Int32)) &&& (65535 : Int64)))])) rfl (by rw [hml]; rfl) (argsL := [(.long ((XT.ushrL q5 (48 : Int32)) &&& (65535 : Int64))), (.long (q2 &&& (9223372036854775807 : Int64)))]) (rest := []) (lenOf pd_1 rfl) rfl (by show 2 * 0 + _ ≤ _; exact Nat.le_of_eq rfl) (hb hby at_108) (fun _ _ => ⟨rfl, e5, (by decide : 0 + 0 ≤ _), (by decide : 0 + 0 ≤ _)⟩)
  dsimp only [Pt.U, Pt.locs, Pt.cells, Pt.slots] at X6 l6 y6 z6 st6 hQ6
  subst l6 y6 z6
  obtain ⟨rfl, N6q, e6⟩ := hQ6
  have N6 := Fr.app N5 N6q
  obtain ⟨T7, h7, X7, e7, E7, A7, D7, -, st7⟩ := newO X6 hx hZ hown (hw _ (List.mem_of_getElem? (i := 9) rfl)) (hw _ (List.mem_of_getElem? (i := 10) rfl)) (hw _ (List.mem_of_getElem? (i := 11) rfl)) e6 (g := (mkF m 113 #[.val (.long q1), .second, .val (.long q2), .second, .val (.long q3), .second, .val (.long q4), .second, .val (.long q5), .second, .val (.int p6), .val (.long (q1 &&& (9223372036854775807 : Int64))), .second, .val (.long (q2 &&& (9223372036854775807 : Int64))), .second, .val (.long (q3 &&& (9223372036854775807 : Int64))), .second, .val (.long (q4 &&& (9223372036854775807 : Int64))), .second, .val (.int (f1 (p6 &&& (3 : Int32)) (2 : Int32))), .val (.int (f1 ((XT.ushr p6 (2 : Int32)) &&& (3 : Int32)) (2 : Int32))), .val (.long (f0_0 q1 q2 q3 q4 q5 p6)), .second, .val (.long (f0_1 q1 q2 q3 q4 q5 p6)), .second, .val (.long (f0_2 q1 q2 q3 q4 q5 p6)), .second, .val (.long (f0_3 q1 q2 q3 q4 q5 p6)), .second, .unset, .unset, .unset] [])) rfl (hb hby at_113) (by decide) (by decide)
  obtain ⟨o7, g7⟩ : ∃ z, z = h0.size := ⟨_, rfl⟩
  rw [← g7] at A7 D7 st7
  have ge7 : n0 ≤ o7 := Nat.le_trans Z0 (Nat.le_of_eq g7.symm)
  have Z7 : n0 ≤ h7.size := Nat.le_trans Z0 E7.1
  have sz7 : h0.size ≤ o7 := Nat.le_trans K0.1 (Nat.le_of_eq g7.symm)
  have K7 := K0.ext E7
  have D7_24 : Fld Z h7 o7 "com/example/stratum/stratum/search/Statistics" "documents" "J" (.long (0 : Int64)) := D7 (Or.inr (hw _ (List.mem_of_getElem? (i := 24) rfl))) (ty := .long) (by decide)
  have D7_26 : Fld Z h7 o7 "com/example/stratum/stratum/search/Statistics" "length" "J" (.long (0 : Int64)) := D7 (Or.inr (hw _ (List.mem_of_getElem? (i := 26) rfl))) (ty := .long) (by decide)
  have D7_37 : Fld Z h7 o7 "com/example/stratum/stratum/search/Statistics" "matching" "[J" .null := D7 (Or.inr (hw _ (List.mem_of_getElem? (i := 37) rfl))) (ty := (.array .long)) (by decide)
  obtain ⟨_, _, ⟨T8, L8, k8, n8⟩, -, X8, ⟨Lc8, hQ8, l8, y8, z8⟩, st8⟩ := Jvm.LawKit.callS X7 hx (y := (⟨"com/example/stratum/stratum/search/StatisticsCoversPinLaw", "pick", "(IJJ)[J"⟩ : MethodName)) hown (mvT hZ (hw _ (List.mem_of_getElem? (i := 12) rfl))) (mvT hZ (hw _ (List.mem_of_getElem? (i := 13) rfl))) (mvT hZ (hw _ (List.mem_of_getElem? (i := 14) rfl))) (mvT hZ (hw _ (List.mem_of_getElem? (i := 15) rfl))) (by decide) (backOf (W := 6) (rm3 l Z a0 hw [] (f1 (p6 &&& (3 : Int32)) (2 : Int32)) (f0_0 q1 q2 q3 q4 q5 p6) (f0_1 q1 q2 q3 q4 q5 p6) h7 n0 Z7) hZ (hw _ (List.mem_of_getElem? (i := 15) rfl)) (hw _ (List.mem_of_getElem? (i := 14) rfl)) (by decide) (by decide)) (g := (mkF m 127 #[.val (.long q1), .second, .val (.long q2), .second, .val (.long q3), .second, .val (.long q4), .second, .val (.long q5), .second, .val (.int p6), .val (.long (q1 &&& (9223372036854775807 : Int64))), .second, .val (.long (q2 &&& (9223372036854775807 : Int64))), .second, .val (.long (q3 &&& (9223372036854775807 : Int64))), .second, .val (.long (q4 &&& (9223372036854775807 : Int64))), .second, .val (.int (f1 (p6 &&& (3 : Int32)) (2 : Int32))), .val (.int (f1 ((XT.ushr p6 (2 : Int32)) &&& (3 : Int32)) (2 : Int32))), .val (.long (f0_0 q1 q2 q3 q4 q5 p6)), .second, .val (.long (f0_1 q1 q2 q3 q4 q5 p6)), .second, .val (.long (f0_2 q1 q2 q3 q4 q5 p6)), .second, .val (.long (f0_3 q1 q2 q3 q4 q5 p6)), .second, .unset, .unset, .unset] [(.long (f0_1 q1 q2 q3 q4 q5 p6)), (.long (f0_0 q1 q2 q3 q4 q5 p6)), (.int (f1 (p6 &&& (3 : Int32)) (2 : Int32))), (.long (q3 &&& (9223372036854775807 : Int64))), (.long (q1 &&& (9223372036854775807 : Int64))), (.ref o7), (.ref o7)])) rfl (by rw [hml]; rfl) (argsL := [(.int (f1 (p6 &&& (3 : Int32)) (2 : Int32))), (.long (f0_0 q1 q2 q3 q4 q5 p6)), (.long (f0_1 q1 q2 q3 q4 q5 p6))]) (rest := [(.long (q3 &&& (9223372036854775807 : Int64))), (.long (q1 &&& (9223372036854775807 : Int64))), (.ref o7), (.ref o7)]) (lenOf pd_2 rfl) rfl (by show 2 * 0 + _ ≤ _; exact Nat.le_of_eq rfl) (hb hby at_127) (fun _ _ => ⟨rfl, e7, (by decide : 1 + 1 ≤ _), (by decide : 3 + 2 ≤ _)⟩)
  dsimp only [Pt.U, Pt.locs, Pt.cells, Pt.slots] at X8 l8 y8 z8 st8 hQ8
  subst l8 y8 z8
  obtain ⟨r8, k_r8, rfl, N8q, Kc8, fr8_r, c8_0, c8_1⟩ := hQ8
  have N8 := Fr.app N6 N8q
  have ne8_r_1 : o7 ≠ r8 := Nat.ne_of_lt (Nat.lt_of_lt_of_le A7.lt fr8_r)
  have ge8_r : n0 ≤ r8 := Nat.le_trans Z7 fr8_r
  have sz8_r : h0.size ≤ r8 := Nat.le_trans K7.1 fr8_r
  have u8_0 := A7.keep Kc8
  have u8_1 := D7_24.keep Kc8 (List.not_mem_nil)
  have u8_2 := D7_26.keep Kc8 (List.not_mem_nil)
  have u8_3 := D7_37.keep Kc8 (List.not_mem_nil)
  have K8 := K7.trans Kc8 (fun x hx => absurd hx List.not_mem_nil)
  have Z8 : n0 ≤ T8.heap.size := Nat.le_trans Z7 Kc8.1
  have c8_0' : Arv Z T8.heap r8 k_r8 .long (f0_4 q1 q2 q3 q4 q5 p6) [(.long (f0_5 q1 q2 q3 q4 q5 p6)), (.long (f0_6 q1 q2 q3 q4 q5 p6))] (.long (0 : Int64)) := c8_0
  obtain ⟨_, _, ⟨T9, L9, k9, n9⟩, -, X9, ⟨Lc9, hQ9, l9, y9, z9⟩, st9⟩ := X8.specialBack hx (y := (⟨"com/example/stratum/stratum/search/Statistics", "<init>", "(JJ[J)V"⟩ : MethodName)) rfl hown (mvT hZ (hw _ (List.mem_of_getElem? (i := 17) rfl))) (mvT hZ (hw _ (List.mem_of_getElem? (i := 18) rfl))) (mvT hZ (hw _ (List.mem_of_getElem? (i := 19) rfl))) (by decide) (backOf (W := 1) (rm4 l Z a0 hw [] o7 (q1 &&& (9223372036854775807 : Int64)) (q3 &&& (9223372036854775807 : Int64)) r8 k_r8 (f0_4 q1 q2 q3 q4 q5 p6) (f0_5 q1 q2 q3 q4 q5 p6) (f0_6 q1 q2 q3 q4 q5 p6) T8.heap n0 Z8 u8_0 ge7 u8_1 u8_2 u8_3 c8_0' c8_1 (own_nm _) (own_nm _) (own_pk3 _ _ _) (own_pm0 (own_mn (own_n16 _) (own_nm _))) (own_pm1 (own_mn (own_n16 _) (own_nm _)))) hZ (hw _ (List.mem_of_getElem? (i := 19) rfl)) (hw _ (List.mem_of_getElem? (i := 11) rfl)) (by decide) (by decide)) (g := (mkF m 130 #[.val (.long q1), .second, .val (.long q2), .second, .val (.long q3), .second, .val (.long q4), .second, .val (.long q5), .second, .val (.int p6), .val (.long (q1 &&& (9223372036854775807 : Int64))), .second, .val (.long (q2 &&& (9223372036854775807 : Int64))), .second, .val (.long (q3 &&& (9223372036854775807 : Int64))), .second, .val (.long (q4 &&& (9223372036854775807 : Int64))), .second, .val (.int (f1 (p6 &&& (3 : Int32)) (2 : Int32))), .val (.int (f1 ((XT.ushr p6 (2 : Int32)) &&& (3 : Int32)) (2 : Int32))), .val (.long (f0_0 q1 q2 q3 q4 q5 p6)), .second, .val (.long (f0_1 q1 q2 q3 q4 q5 p6)), .second, .val (.long (f0_2 q1 q2 q3 q4 q5 p6)), .second, .val (.long (f0_3 q1 q2 q3 q4 q5 p6)), .second, .unset, .unset, .unset] [(.ref r8), (.long (q3 &&& (9223372036854775807 : Int64))), (.long (q1 &&& (9223372036854775807 : Int64))), (.ref o7), (.ref o7)])) rfl (by rw [hml]; rfl) (Steps.refl _) (a := o7) (argsL := [(.long (q1 &&& (9223372036854775807 : Int64))), (.long (q3 &&& (9223372036854775807 : Int64))), (.ref r8)]) (rest := [(.ref o7)]) (lenOf pd_3 rfl) rfl (by show 2 * 0 + _ ≤ _; exact Nat.le_of_eq rfl) (hb hby at_130) (fun _ _ => ⟨rfl, rfl, (by decide : 2 + 1 ≤ _), (by decide : 5 + 2 ≤ _)⟩)
  dsimp only [Pt.U, Pt.locs, Pt.cells, Pt.slots] at X9 l9 y9 z9 st9 hQ9
  subst l9 y9 z9
  obtain ⟨t19, k_t19, rfl, N9q, Kc9, fr9_t1, c9_0, c9_1, c9_2, c9_3, c9_4, c9_5⟩ := hQ9
  have N9 := Fr.app N8 N9q
  have ne9_t1_1 : o7 ≠ t19 := Nat.ne_of_lt (Nat.lt_of_lt_of_le u8_0.lt fr9_t1)
  have ne9_t1_2 : r8 ≠ t19 := Nat.ne_of_lt (Nat.lt_of_lt_of_le c8_0'.lt fr9_t1)
  have ge9_t1 : n0 ≤ t19 := Nat.le_trans Z8 fr9_t1
  have sz9_t1 : h0.size ≤ t19 := Nat.le_trans K8.1 fr9_t1
  have u9_0 := u8_0.keep Kc9
  have u9_4 := c8_0'.keep Kc9 (by simp only [List.mem_cons, List.not_mem_nil, or_false, not_or]; exact (Ne.symm ne8_r_1))
  have u9_5 := c8_1.keep Kc9
  have K9 := K8.trans Kc9 (fun x hx => by cases List.mem_singleton.mp hx; exact Or.inr sz7)
  have Z9 : n0 ≤ T9.heap.size := Nat.le_trans Z8 Kc9.1
  obtain ⟨T10, h10, X10, e10, E10, A10, D10, -, st10⟩ := newO X9 hx hZ hown (hw _ (List.mem_of_getElem? (i := 9) rfl)) (hw _ (List.mem_of_getElem? (i := 10) rfl)) (hw _ (List.mem_of_getElem? (i := 11) rfl)) rfl (g := (mkF m 135 #[.val (.long q1), .second, .val (.long q2), .second, .val (.long q3), .second, .val (.long q4), .second, .val (.long q5), .second, .val (.int p6), .val (.long (q1 &&& (9223372036854775807 : Int64))), .second, .val (.long (q2 &&& (9223372036854775807 : Int64))), .second, .val (.long (q3 &&& (9223372036854775807 : Int64))), .second, .val (.long (q4 &&& (9223372036854775807 : Int64))), .second, .val (.int (f1 (p6 &&& (3 : Int32)) (2 : Int32))), .val (.int (f1 ((XT.ushr p6 (2 : Int32)) &&& (3 : Int32)) (2 : Int32))), .val (.long (f0_0 q1 q2 q3 q4 q5 p6)), .second, .val (.long (f0_1 q1 q2 q3 q4 q5 p6)), .second, .val (.long (f0_2 q1 q2 q3 q4 q5 p6)), .second, .val (.long (f0_3 q1 q2 q3 q4 q5 p6)), .second, .val (.ref o7), .unset, .unset] [])) rfl (hb hby at_135) (by decide) (by decide)
  obtain ⟨o10, g10⟩ : ∃ z, z = T9.heap.size := ⟨_, rfl⟩
  rw [← g10] at A10 D10 st10
  have ne10_1 : o7 ≠ o10 := Nat.ne_of_lt (Nat.lt_of_lt_of_le c9_1.lt (Nat.le_of_eq g10.symm))
  have ne10_2 : r8 ≠ o10 := Nat.ne_of_lt (Nat.lt_of_lt_of_le u9_4.lt (Nat.le_of_eq g10.symm))
  have ne10_3 : t19 ≠ o10 := Nat.ne_of_lt (Nat.lt_of_lt_of_le c9_0.lt (Nat.le_of_eq g10.symm))
  have u10_0 := c9_1.ext E10
  have u10_1 := u9_4.ext E10
  have u10_2 := u9_5.ext E10
  have u10_3 := c9_0.ext E10
  have u10_4 := c9_2.ext E10
  have u10_5 := c9_3.ext E10
  have u10_6 := c9_4.ext E10
  have u10_7 := c9_5.ext E10
  have ge10 : n0 ≤ o10 := Nat.le_trans Z9 (Nat.le_of_eq g10.symm)
  have Z10 : n0 ≤ h10.size := Nat.le_trans Z9 E10.1
  have sz10 : h0.size ≤ o10 := Nat.le_trans K9.1 (Nat.le_of_eq g10.symm)
  have K10 := K9.ext E10
  have D10_24 : Fld Z h10 o10 "com/example/stratum/stratum/search/Statistics" "documents" "J" (.long (0 : Int64)) := D10 (Or.inr (hw _ (List.mem_of_getElem? (i := 24) rfl))) (ty := .long) (by decide)
  have D10_26 : Fld Z h10 o10 "com/example/stratum/stratum/search/Statistics" "length" "J" (.long (0 : Int64)) := D10 (Or.inr (hw _ (List.mem_of_getElem? (i := 26) rfl))) (ty := .long) (by decide)
  have D10_37 : Fld Z h10 o10 "com/example/stratum/stratum/search/Statistics" "matching" "[J" .null := D10 (Or.inr (hw _ (List.mem_of_getElem? (i := 37) rfl))) (ty := (.array .long)) (by decide)
  obtain ⟨_, _, ⟨T11, L11, k11, n11⟩, -, X11, ⟨Lc11, hQ11, l11, y11, z11⟩, st11⟩ := Jvm.LawKit.callS X10 hx (y := (⟨"com/example/stratum/stratum/search/StatisticsCoversPinLaw", "pick", "(IJJ)[J"⟩ : MethodName)) hown (mvT hZ (hw _ (List.mem_of_getElem? (i := 12) rfl))) (mvT hZ (hw _ (List.mem_of_getElem? (i := 13) rfl))) (mvT hZ (hw _ (List.mem_of_getElem? (i := 14) rfl))) (mvT hZ (hw _ (List.mem_of_getElem? (i := 15) rfl))) (by decide) (backOf (W := 6) (rm3 l Z a0 hw [] (f1 ((XT.ushr p6 (2 : Int32)) &&& (3 : Int32)) (2 : Int32)) (f0_2 q1 q2 q3 q4 q5 p6) (f0_3 q1 q2 q3 q4 q5 p6) h10 n0 Z10) hZ (hw _ (List.mem_of_getElem? (i := 15) rfl)) (hw _ (List.mem_of_getElem? (i := 14) rfl)) (by decide) (by decide)) (g := (mkF m 149 #[.val (.long q1), .second, .val (.long q2), .second, .val (.long q3), .second, .val (.long q4), .second, .val (.long q5), .second, .val (.int p6), .val (.long (q1 &&& (9223372036854775807 : Int64))), .second, .val (.long (q2 &&& (9223372036854775807 : Int64))), .second, .val (.long (q3 &&& (9223372036854775807 : Int64))), .second, .val (.long (q4 &&& (9223372036854775807 : Int64))), .second, .val (.int (f1 (p6 &&& (3 : Int32)) (2 : Int32))), .val (.int (f1 ((XT.ushr p6 (2 : Int32)) &&& (3 : Int32)) (2 : Int32))), .val (.long (f0_0 q1 q2 q3 q4 q5 p6)), .second, .val (.long (f0_1 q1 q2 q3 q4 q5 p6)), .second, .val (.long (f0_2 q1 q2 q3 q4 q5 p6)), .second, .val (.long (f0_3 q1 q2 q3 q4 q5 p6)), .second, .val (.ref o7), .unset, .unset] [(.long (f0_3 q1 q2 q3 q4 q5 p6)), (.long (f0_2 q1 q2 q3 q4 q5 p6)), (.int (f1 ((XT.ushr p6 (2 : Int32)) &&& (3 : Int32)) (2 : Int32))), (.long (q4 &&& (9223372036854775807 : Int64))), (.long (q2 &&& (9223372036854775807 : Int64))), (.ref o10), (.ref o10)])) rfl (by rw [hml]; rfl) (argsL := [(.int (f1 ((XT.ushr p6 (2 : Int32)) &&& (3 : Int32)) (2 : Int32))), (.long (f0_2 q1 q2 q3 q4 q5 p6)), (.long (f0_3 q1 q2 q3 q4 q5 p6))]) (rest := [(.long (q4 &&& (9223372036854775807 : Int64))), (.long (q2 &&& (9223372036854775807 : Int64))), (.ref o10), (.ref o10)]) (lenOf pd_2 rfl) rfl (by show 2 * 0 + _ ≤ _; exact Nat.le_of_eq rfl) (hb hby at_149) (fun _ _ => ⟨rfl, e10, (by decide : 4 + 1 ≤ _), (by decide : 10 + 2 ≤ _)⟩)
  dsimp only [Pt.U, Pt.locs, Pt.cells, Pt.slots] at X11 l11 y11 z11 st11 hQ11
  subst l11 y11 z11
  obtain ⟨r11, k_r11, rfl, N11q, Kc11, fr11_r, c11_0, c11_1⟩ := hQ11
  have N11 := Fr.app N9 N11q
  have ne11_r_1 : o7 ≠ r11 := Nat.ne_of_lt (Nat.lt_of_lt_of_le u10_0.lt fr11_r)
  have ne11_r_2 : r8 ≠ r11 := Nat.ne_of_lt (Nat.lt_of_lt_of_le u10_1.lt fr11_r)
  have ne11_r_3 : t19 ≠ r11 := Nat.ne_of_lt (Nat.lt_of_lt_of_le u10_3.lt fr11_r)
  have ne11_r_4 : o10 ≠ r11 := Nat.ne_of_lt (Nat.lt_of_lt_of_le A10.lt fr11_r)
  have ge11_r : n0 ≤ r11 := Nat.le_trans Z10 fr11_r
  have sz11_r : h0.size ≤ r11 := Nat.le_trans K10.1 fr11_r
  have u11_0 := u10_0.keep Kc11
  have u11_1 := u10_1.keep Kc11 (List.not_mem_nil)
  have u11_2 := u10_2.keep Kc11
  have u11_3 := u10_3.keep Kc11 (List.not_mem_nil)
  have u11_4 := u10_4.keep Kc11
  have u11_5 := u10_5.keep Kc11 (List.not_mem_nil)
  have u11_6 := u10_6.keep Kc11 (List.not_mem_nil)
  have u11_7 := u10_7.keep Kc11 (List.not_mem_nil)
  have u11_8 := A10.keep Kc11
  have u11_9 := D10_24.keep Kc11 (List.not_mem_nil)
  have u11_10 := D10_26.keep Kc11 (List.not_mem_nil)
  have u11_11 := D10_37.keep Kc11 (List.not_mem_nil)
  have K11 := K10.trans Kc11 (fun x hx => absurd hx List.not_mem_nil)
  have Z11 : n0 ≤ T11.heap.size := Nat.le_trans Z10 Kc11.1
  have c11_0' : Arv Z T11.heap r11 k_r11 .long (f0_7 q1 q2 q3 q4 q5 p6) [(.long (f0_8 q1 q2 q3 q4 q5 p6)), (.long (f0_9 q1 q2 q3 q4 q5 p6))] (.long (0 : Int64)) := c11_0
  obtain ⟨_, _, ⟨T12, L12, k12, n12⟩, -, X12, ⟨Lc12, hQ12, l12, y12, z12⟩, st12⟩ := X11.specialBack hx (y := (⟨"com/example/stratum/stratum/search/Statistics", "<init>", "(JJ[J)V"⟩ : MethodName)) rfl hown (mvT hZ (hw _ (List.mem_of_getElem? (i := 17) rfl))) (mvT hZ (hw _ (List.mem_of_getElem? (i := 18) rfl))) (mvT hZ (hw _ (List.mem_of_getElem? (i := 19) rfl))) (by decide) (backOf (W := 1) (rm4 l Z a0 hw [] o10 (q2 &&& (9223372036854775807 : Int64)) (q4 &&& (9223372036854775807 : Int64)) r11 k_r11 (f0_7 q1 q2 q3 q4 q5 p6) (f0_8 q1 q2 q3 q4 q5 p6) (f0_9 q1 q2 q3 q4 q5 p6) T11.heap n0 Z11 u11_8 ge10 u11_9 u11_10 u11_11 c11_0' c11_1 (own_nm _) (own_nm _) (own_pk3 _ _ _) (own_pm0 (own_mn (own_n16 _) (own_nm _))) (own_pm1 (own_mn (own_n16 _) (own_nm _)))) hZ (hw _ (List.mem_of_getElem? (i := 19) rfl)) (hw _ (List.mem_of_getElem? (i := 11) rfl)) (by decide) (by decide)) (g := (mkF m 152 #[.val (.long q1), .second, .val (.long q2), .second, .val (.long q3), .second, .val (.long q4), .second, .val (.long q5), .second, .val (.int p6), .val (.long (q1 &&& (9223372036854775807 : Int64))), .second, .val (.long (q2 &&& (9223372036854775807 : Int64))), .second, .val (.long (q3 &&& (9223372036854775807 : Int64))), .second, .val (.long (q4 &&& (9223372036854775807 : Int64))), .second, .val (.int (f1 (p6 &&& (3 : Int32)) (2 : Int32))), .val (.int (f1 ((XT.ushr p6 (2 : Int32)) &&& (3 : Int32)) (2 : Int32))), .val (.long (f0_0 q1 q2 q3 q4 q5 p6)), .second, .val (.long (f0_1 q1 q2 q3 q4 q5 p6)), .second, .val (.long (f0_2 q1 q2 q3 q4 q5 p6)), .second, .val (.long (f0_3 q1 q2 q3 q4 q5 p6)), .second, .val (.ref o7), .unset, .unset] [(.ref r11), (.long (q4 &&& (9223372036854775807 : Int64))), (.long (q2 &&& (9223372036854775807 : Int64))), (.ref o10), (.ref o10)])) rfl (by rw [hml]; rfl) (Steps.refl _) (a := o10) (argsL := [(.long (q2 &&& (9223372036854775807 : Int64))), (.long (q4 &&& (9223372036854775807 : Int64))), (.ref r11)]) (rest := [(.ref o10)]) (lenOf pd_3 rfl) rfl (by show 2 * 0 + _ ≤ _; exact Nat.le_of_eq rfl) (hb hby at_152) (fun _ _ => ⟨rfl, rfl, (by decide : 5 + 1 ≤ _), (by decide : 12 + 2 ≤ _)⟩)
  dsimp only [Pt.U, Pt.locs, Pt.cells, Pt.slots] at X12 l12 y12 z12 st12 hQ12
  subst l12 y12 z12
  obtain ⟨t112, k_t112, rfl, N12q, Kc12, fr12_t1, c12_0, c12_1, c12_2, c12_3, c12_4, c12_5⟩ := hQ12
  have N12 := Fr.app N11 N12q
  have ne12_t1_1 : o7 ≠ t112 := Nat.ne_of_lt (Nat.lt_of_lt_of_le u11_0.lt fr12_t1)
  have ne12_t1_2 : r8 ≠ t112 := Nat.ne_of_lt (Nat.lt_of_lt_of_le u11_1.lt fr12_t1)
  have ne12_t1_3 : t19 ≠ t112 := Nat.ne_of_lt (Nat.lt_of_lt_of_le u11_3.lt fr12_t1)
  have ne12_t1_4 : o10 ≠ t112 := Nat.ne_of_lt (Nat.lt_of_lt_of_le u11_8.lt fr12_t1)
  have ne12_t1_5 : r11 ≠ t112 := Nat.ne_of_lt (Nat.lt_of_lt_of_le c11_0'.lt fr12_t1)
  have ge12_t1 : n0 ≤ t112 := Nat.le_trans Z11 fr12_t1
  have sz12_t1 : h0.size ≤ t112 := Nat.le_trans K11.1 fr12_t1
  have u12_0 := u11_0.keep Kc12
  have u12_1 := u11_1.keep Kc12 (by simp only [List.mem_cons, List.not_mem_nil, or_false, not_or]; exact ne10_2)
  have u12_2 := u11_2.keep Kc12
  have u12_3 := u11_3.keep Kc12 (by simp only [List.mem_cons, List.not_mem_nil, or_false, not_or]; exact ne10_3)
  have u12_4 := u11_4.keep Kc12
  have u12_5 := u11_5.keep Kc12 (by simp only [List.mem_cons, List.not_mem_nil, or_false, not_or]; exact ne10_1)
  have u12_6 := u11_6.keep Kc12 (by simp only [List.mem_cons, List.not_mem_nil, or_false, not_or]; exact ne10_1)
  have u12_7 := u11_7.keep Kc12 (by simp only [List.mem_cons, List.not_mem_nil, or_false, not_or]; exact ne10_1)
  have u12_8 := u11_8.keep Kc12
  have u12_12 := c11_0'.keep Kc12 (by simp only [List.mem_cons, List.not_mem_nil, or_false, not_or]; exact (Ne.symm ne11_r_4))
  have u12_13 := c11_1.keep Kc12
  have K12 := K11.trans Kc12 (fun x hx => by cases List.mem_singleton.mp hx; exact Or.inr sz10)
  have Z12 : n0 ≤ T12.heap.size := Nat.le_trans Z11 Kc12.1
  have st30 : ∀ t, Steps p.tables e below (T12.setTop (mkF m 213 #[.val (.long q1), .second, .val (.long q2), .second, .val (.long q3), .second, .val (.long q4), .second, .val (.long q5), .second, .val (.int p6), .val (.long (q1 &&& (9223372036854775807 : Int64))), .second, .val (.long (q2 &&& (9223372036854775807 : Int64))), .second, .val (.long (q3 &&& (9223372036854775807 : Int64))), .second, .val (.long (q4 &&& (9223372036854775807 : Int64))), .second, .val (.int (f1 (p6 &&& (3 : Int32)) (2 : Int32))), .val (.int (f1 ((XT.ushr p6 (2 : Int32)) &&& (3 : Int32)) (2 : Int32))), .val (.long (f0_0 q1 q2 q3 q4 q5 p6)), .second, .val (.long (f0_1 q1 q2 q3 q4 q5 p6)), .second, .val (.long (f0_2 q1 q2 q3 q4 q5 p6)), .second, .val (.long (f0_3 q1 q2 q3 q4 q5 p6)), .second, .val (.ref o7), .val (.ref o10), .unset] [(.int (f0_16 q1 q2 q3 q4 q5 p6))])) t → Steps p.tables e below (T12.setTop (mkF m 161 #[.val (.long q1), .second, .val (.long q2), .second, .val (.long q3), .second, .val (.long q4), .second, .val (.long q5), .second, .val (.int p6), .val (.long (q1 &&& (9223372036854775807 : Int64))), .second, .val (.long (q2 &&& (9223372036854775807 : Int64))), .second, .val (.long (q3 &&& (9223372036854775807 : Int64))), .second, .val (.long (q4 &&& (9223372036854775807 : Int64))), .second, .val (.int (f1 (p6 &&& (3 : Int32)) (2 : Int32))), .val (.int (f1 ((XT.ushr p6 (2 : Int32)) &&& (3 : Int32)) (2 : Int32))), .val (.long (f0_0 q1 q2 q3 q4 q5 p6)), .second, .val (.long (f0_1 q1 q2 q3 q4 q5 p6)), .second, .val (.long (f0_2 q1 q2 q3 q4 q5 p6)), .second, .val (.long (f0_3 q1 q2 q3 q4 q5 p6)), .second, .val (.ref o7), .val (.ref o10), .unset] [(.int (f1 ((XT.ushr p6 (2 : Int32)) &&& (3 : Int32)) (2 : Int32))), (.int (f1 (p6 &&& (3 : Int32)) (2 : Int32)))])) t := by
    intro t k
    by_cases h13 : (f1 (p6 &&& (3 : Int32)) (2 : Int32)) = (f1 ((XT.ushr p6 (2 : Int32)) &&& (3 : Int32)) (2 : Int32))
    · have st29 : ∀ t, Steps p.tables e below (T12.setTop (mkF m 213 #[.val (.long q1), .second, .val (.long q2), .second, .val (.long q3), .second, .val (.long q4), .second, .val (.long q5), .second, .val (.int p6), .val (.long (q1 &&& (9223372036854775807 : Int64))), .second, .val (.long (q2 &&& (9223372036854775807 : Int64))), .second, .val (.long (q3 &&& (9223372036854775807 : Int64))), .second, .val (.long (q4 &&& (9223372036854775807 : Int64))), .second, .val (.int (f1 (p6 &&& (3 : Int32)) (2 : Int32))), .val (.int (f1 ((XT.ushr p6 (2 : Int32)) &&& (3 : Int32)) (2 : Int32))), .val (.long (f0_0 q1 q2 q3 q4 q5 p6)), .second, .val (.long (f0_1 q1 q2 q3 q4 q5 p6)), .second, .val (.long (f0_2 q1 q2 q3 q4 q5 p6)), .second, .val (.long (f0_3 q1 q2 q3 q4 q5 p6)), .second, .val (.ref o7), .val (.ref o10), .unset] [(.int (f0_15 q1 q2 q3 q4 q5 p6))])) t → Steps p.tables e below (T12.setTop (mkF m 169 #[.val (.long q1), .second, .val (.long q2), .second, .val (.long q3), .second, .val (.long q4), .second, .val (.long q5), .second, .val (.int p6), .val (.long (q1 &&& (9223372036854775807 : Int64))), .second, .val (.long (q2 &&& (9223372036854775807 : Int64))), .second, .val (.long (q3 &&& (9223372036854775807 : Int64))), .second, .val (.long (q4 &&& (9223372036854775807 : Int64))), .second, .val (.int (f1 (p6 &&& (3 : Int32)) (2 : Int32))), .val (.int (f1 ((XT.ushr p6 (2 : Int32)) &&& (3 : Int32)) (2 : Int32))), .val (.long (f0_0 q1 q2 q3 q4 q5 p6)), .second, .val (.long (f0_1 q1 q2 q3 q4 q5 p6)), .second, .val (.long (f0_2 q1 q2 q3 q4 q5 p6)), .second, .val (.long (f0_3 q1 q2 q3 q4 q5 p6)), .second, .val (.ref o7), .val (.ref o10), .unset] [(.int (XT.cmpL (q1 &&& (9223372036854775807 : Int64)) (q2 &&& (9223372036854775807 : Int64))))])) t := by
        intro t k
        by_cases h14 : (q1 &&& (9223372036854775807 : Int64)) < (q2 &&& (9223372036854775807 : Int64))
        · rw [show (f0_15 q1 q2 q3 q4 q5 p6) = (0 : Int32) from if_pos h14] at k
          show Steps p.tables e below (T12.setTop (mkF m 169 #[.val (.long q1), .second, .val (.long q2), .second, .val (.long q3), .second, .val (.long q4), .second, .val (.long q5), .second, .val (.int p6), .val (.long (q1 &&& (9223372036854775807 : Int64))), .second, .val (.long (q2 &&& (9223372036854775807 : Int64))), .second, .val (.long (q3 &&& (9223372036854775807 : Int64))), .second, .val (.long (q4 &&& (9223372036854775807 : Int64))), .second, .val (.int (f1 (p6 &&& (3 : Int32)) (2 : Int32))), .val (.int (f1 ((XT.ushr p6 (2 : Int32)) &&& (3 : Int32)) (2 : Int32))), .val (.long (f0_0 q1 q2 q3 q4 q5 p6)), .second, .val (.long (f0_1 q1 q2 q3 q4 q5 p6)), .second, .val (.long (f0_2 q1 q2 q3 q4 q5 p6)), .second, .val (.long (f0_3 q1 q2 q3 q4 q5 p6)), .second, .val (.ref o7), .val (.ref o10), .unset] [(.int (XT.cmpL (q1 &&& (9223372036854775807 : Int64)) (q2 &&& (9223372036854775807 : Int64))))])) _
          refine XS.ifYes X12.here hx rfl (pc0 := 169) (pc' := 212) rfl (hb hby at_169) rfl ((if0 _ _).trans (tlt ((own_cl _ _).mpr h14)).1) (by decide) (by decide) ?_
          show Steps p.tables e below (T12.setTop (mkF m 212 #[.val (.long q1), .second, .val (.long q2), .second, .val (.long q3), .second, .val (.long q4), .second, .val (.long q5), .second, .val (.int p6), .val (.long (q1 &&& (9223372036854775807 : Int64))), .second, .val (.long (q2 &&& (9223372036854775807 : Int64))), .second, .val (.long (q3 &&& (9223372036854775807 : Int64))), .second, .val (.long (q4 &&& (9223372036854775807 : Int64))), .second, .val (.int (f1 (p6 &&& (3 : Int32)) (2 : Int32))), .val (.int (f1 ((XT.ushr p6 (2 : Int32)) &&& (3 : Int32)) (2 : Int32))), .val (.long (f0_0 q1 q2 q3 q4 q5 p6)), .second, .val (.long (f0_1 q1 q2 q3 q4 q5 p6)), .second, .val (.long (f0_2 q1 q2 q3 q4 q5 p6)), .second, .val (.long (f0_3 q1 q2 q3 q4 q5 p6)), .second, .val (.ref o7), .val (.ref o10), .unset] [])) _
          refine XS.iconst X12.here hx rfl (hb hby at_212) ?_
          exact k
        · have st28 : ∀ t, Steps p.tables e below (T12.setTop (mkF m 213 #[.val (.long q1), .second, .val (.long q2), .second, .val (.long q3), .second, .val (.long q4), .second, .val (.long q5), .second, .val (.int p6), .val (.long (q1 &&& (9223372036854775807 : Int64))), .second, .val (.long (q2 &&& (9223372036854775807 : Int64))), .second, .val (.long (q3 &&& (9223372036854775807 : Int64))), .second, .val (.long (q4 &&& (9223372036854775807 : Int64))), .second, .val (.int (f1 (p6 &&& (3 : Int32)) (2 : Int32))), .val (.int (f1 ((XT.ushr p6 (2 : Int32)) &&& (3 : Int32)) (2 : Int32))), .val (.long (f0_0 q1 q2 q3 q4 q5 p6)), .second, .val (.long (f0_1 q1 q2 q3 q4 q5 p6)), .second, .val (.long (f0_2 q1 q2 q3 q4 q5 p6)), .second, .val (.long (f0_3 q1 q2 q3 q4 q5 p6)), .second, .val (.ref o7), .val (.ref o10), .unset] [(.int (f0_14 q1 q2 q3 q4 q5 p6))])) t → Steps p.tables e below (T12.setTop (mkF m 177 #[.val (.long q1), .second, .val (.long q2), .second, .val (.long q3), .second, .val (.long q4), .second, .val (.long q5), .second, .val (.int p6), .val (.long (q1 &&& (9223372036854775807 : Int64))), .second, .val (.long (q2 &&& (9223372036854775807 : Int64))), .second, .val (.long (q3 &&& (9223372036854775807 : Int64))), .second, .val (.long (q4 &&& (9223372036854775807 : Int64))), .second, .val (.int (f1 (p6 &&& (3 : Int32)) (2 : Int32))), .val (.int (f1 ((XT.ushr p6 (2 : Int32)) &&& (3 : Int32)) (2 : Int32))), .val (.long (f0_0 q1 q2 q3 q4 q5 p6)), .second, .val (.long (f0_1 q1 q2 q3 q4 q5 p6)), .second, .val (.long (f0_2 q1 q2 q3 q4 q5 p6)), .second, .val (.long (f0_3 q1 q2 q3 q4 q5 p6)), .second, .val (.ref o7), .val (.ref o10), .unset] [(.int (XT.cmpL (q3 &&& (9223372036854775807 : Int64)) (q4 &&& (9223372036854775807 : Int64))))])) t := by
            intro t k
            by_cases h15 : (q3 &&& (9223372036854775807 : Int64)) < (q4 &&& (9223372036854775807 : Int64))
            · rw [show (f0_14 q1 q2 q3 q4 q5 p6) = (0 : Int32) from if_pos h15] at k
              show Steps p.tables e below (T12.setTop (mkF m 177 #[.val (.long q1), .second, .val (.long q2), .second, .val (.long q3), .second, .val (.long q4), .second, .val (.long q5), .second, .val (.int p6), .val (.long (q1 &&& (9223372036854775807 : Int64))), .second, .val (.long (q2 &&& (9223372036854775807 : Int64))), .second, .val (.long (q3 &&& (9223372036854775807 : Int64))), .second, .val (.long (q4 &&& (9223372036854775807 : Int64))), .second, .val (.int (f1 (p6 &&& (3 : Int32)) (2 : Int32))), .val (.int (f1 ((XT.ushr p6 (2 : Int32)) &&& (3 : Int32)) (2 : Int32))), .val (.long (f0_0 q1 q2 q3 q4 q5 p6)), .second, .val (.long (f0_1 q1 q2 q3 q4 q5 p6)), .second, .val (.long (f0_2 q1 q2 q3 q4 q5 p6)), .second, .val (.long (f0_3 q1 q2 q3 q4 q5 p6)), .second, .val (.ref o7), .val (.ref o10), .unset] [(.int (XT.cmpL (q3 &&& (9223372036854775807 : Int64)) (q4 &&& (9223372036854775807 : Int64))))])) _
              refine XS.ifYes X12.here hx rfl (pc0 := 177) (pc' := 212) rfl (hb hby at_177) rfl ((if0 _ _).trans (tlt ((own_cl _ _).mpr h15)).1) (by decide) (by decide) ?_
              show Steps p.tables e below (T12.setTop (mkF m 212 #[.val (.long q1), .second, .val (.long q2), .second, .val (.long q3), .second, .val (.long q4), .second, .val (.long q5), .second, .val (.int p6), .val (.long (q1 &&& (9223372036854775807 : Int64))), .second, .val (.long (q2 &&& (9223372036854775807 : Int64))), .second, .val (.long (q3 &&& (9223372036854775807 : Int64))), .second, .val (.long (q4 &&& (9223372036854775807 : Int64))), .second, .val (.int (f1 (p6 &&& (3 : Int32)) (2 : Int32))), .val (.int (f1 ((XT.ushr p6 (2 : Int32)) &&& (3 : Int32)) (2 : Int32))), .val (.long (f0_0 q1 q2 q3 q4 q5 p6)), .second, .val (.long (f0_1 q1 q2 q3 q4 q5 p6)), .second, .val (.long (f0_2 q1 q2 q3 q4 q5 p6)), .second, .val (.long (f0_3 q1 q2 q3 q4 q5 p6)), .second, .val (.ref o7), .val (.ref o10), .unset] [])) _
              refine XS.iconst X12.here hx rfl (hb hby at_212) ?_
              exact k
            · have st27 : ∀ t, Steps p.tables e below (T12.setTop (mkF m 213 #[.val (.long q1), .second, .val (.long q2), .second, .val (.long q3), .second, .val (.long q4), .second, .val (.long q5), .second, .val (.int p6), .val (.long (q1 &&& (9223372036854775807 : Int64))), .second, .val (.long (q2 &&& (9223372036854775807 : Int64))), .second, .val (.long (q3 &&& (9223372036854775807 : Int64))), .second, .val (.long (q4 &&& (9223372036854775807 : Int64))), .second, .val (.int (f1 (p6 &&& (3 : Int32)) (2 : Int32))), .val (.int (f1 ((XT.ushr p6 (2 : Int32)) &&& (3 : Int32)) (2 : Int32))), .val (.long (f0_0 q1 q2 q3 q4 q5 p6)), .second, .val (.long (f0_1 q1 q2 q3 q4 q5 p6)), .second, .val (.long (f0_2 q1 q2 q3 q4 q5 p6)), .second, .val (.long (f0_3 q1 q2 q3 q4 q5 p6)), .second, .val (.ref o7), .val (.ref o10), .unset] [(.int (f0_13 q1 q2 q3 q4 q5 p6))])) t → Steps p.tables e below (T12.setTop (mkF m 183 #[.val (.long q1), .second, .val (.long q2), .second, .val (.long q3), .second, .val (.long q4), .second, .val (.long q5), .second, .val (.int p6), .val (.long (q1 &&& (9223372036854775807 : Int64))), .second, .val (.long (q2 &&& (9223372036854775807 : Int64))), .second, .val (.long (q3 &&& (9223372036854775807 : Int64))), .second, .val (.long (q4 &&& (9223372036854775807 : Int64))), .second, .val (.int (f1 (p6 &&& (3 : Int32)) (2 : Int32))), .val (.int (f1 ((XT.ushr p6 (2 : Int32)) &&& (3 : Int32)) (2 : Int32))), .val (.long (f0_0 q1 q2 q3 q4 q5 p6)), .second, .val (.long (f0_1 q1 q2 q3 q4 q5 p6)), .second, .val (.long (f0_2 q1 q2 q3 q4 q5 p6)), .second, .val (.long (f0_3 q1 q2 q3 q4 q5 p6)), .second, .val (.ref o7), .val (.ref o10), .unset] [(.int (1 : Int32)), (.int (f1 (p6 &&& (3 : Int32)) (2 : Int32)))])) t := by
                intro t k
                by_cases h16 : (f1 (p6 &&& (3 : Int32)) (2 : Int32)) < (1 : Int32)
                · have st20 : ∀ t, Steps p.tables e below (T12.setTop (mkF m 213 #[.val (.long q1), .second, .val (.long q2), .second, .val (.long q3), .second, .val (.long q4), .second, .val (.long q5), .second, .val (.int p6), .val (.long (q1 &&& (9223372036854775807 : Int64))), .second, .val (.long (q2 &&& (9223372036854775807 : Int64))), .second, .val (.long (q3 &&& (9223372036854775807 : Int64))), .second, .val (.long (q4 &&& (9223372036854775807 : Int64))), .second, .val (.int (f1 (p6 &&& (3 : Int32)) (2 : Int32))), .val (.int (f1 ((XT.ushr p6 (2 : Int32)) &&& (3 : Int32)) (2 : Int32))), .val (.long (f0_0 q1 q2 q3 q4 q5 p6)), .second, .val (.long (f0_1 q1 q2 q3 q4 q5 p6)), .second, .val (.long (f0_2 q1 q2 q3 q4 q5 p6)), .second, .val (.long (f0_3 q1 q2 q3 q4 q5 p6)), .second, .val (.ref o7), .val (.ref o10), .unset] [(.int (f0_11 q1 q2 q3 q4 q5 p6))])) t → Steps p.tables e below (T12.setTop (mkF m 197 #[.val (.long q1), .second, .val (.long q2), .second, .val (.long q3), .second, .val (.long q4), .second, .val (.long q5), .second, .val (.int p6), .val (.long (q1 &&& (9223372036854775807 : Int64))), .second, .val (.long (q2 &&& (9223372036854775807 : Int64))), .second, .val (.long (q3 &&& (9223372036854775807 : Int64))), .second, .val (.long (q4 &&& (9223372036854775807 : Int64))), .second, .val (.int (f1 (p6 &&& (3 : Int32)) (2 : Int32))), .val (.int (f1 ((XT.ushr p6 (2 : Int32)) &&& (3 : Int32)) (2 : Int32))), .val (.long (f0_0 q1 q2 q3 q4 q5 p6)), .second, .val (.long (f0_1 q1 q2 q3 q4 q5 p6)), .second, .val (.long (f0_2 q1 q2 q3 q4 q5 p6)), .second, .val (.long (f0_3 q1 q2 q3 q4 q5 p6)), .second, .val (.ref o7), .val (.ref o10), .unset] [(.int (2 : Int32)), (.int (f1 (p6 &&& (3 : Int32)) (2 : Int32)))])) t := by
                    intro t k
                    by_cases h17 : (f1 (p6 &&& (3 : Int32)) (2 : Int32)) < (2 : Int32)
                    · rw [show (f0_11 q1 q2 q3 q4 q5 p6) = (1 : Int32) from if_pos h17] at k
                      show Steps p.tables e below (T12.setTop (mkF m 197 #[.val (.long q1), .second, .val (.long q2), .second, .val (.long q3), .second, .val (.long q4), .second, .val (.long q5), .second, .val (.int p6), .val (.long (q1 &&& (9223372036854775807 : Int64))), .second, .val (.long (q2 &&& (9223372036854775807 : Int64))), .second, .val (.long (q3 &&& (9223372036854775807 : Int64))), .second, .val (.long (q4 &&& (9223372036854775807 : Int64))), .second, .val (.int (f1 (p6 &&& (3 : Int32)) (2 : Int32))), .val (.int (f1 ((XT.ushr p6 (2 : Int32)) &&& (3 : Int32)) (2 : Int32))), .val (.long (f0_0 q1 q2 q3 q4 q5 p6)), .second, .val (.long (f0_1 q1 q2 q3 q4 q5 p6)), .second, .val (.long (f0_2 q1 q2 q3 q4 q5 p6)), .second, .val (.long (f0_3 q1 q2 q3 q4 q5 p6)), .second, .val (.ref o7), .val (.ref o10), .unset] [(.int (2 : Int32)), (.int (f1 (p6 &&& (3 : Int32)) (2 : Int32)))])) _
                      refine XS.icmpYes X12.here hx rfl (pc0 := 197) (pc' := 208) rfl (hb hby at_197) rfl (tlt h17).1 (by decide) (by decide) ?_
                      show Steps p.tables e below (T12.setTop (mkF m 208 #[.val (.long q1), .second, .val (.long q2), .second, .val (.long q3), .second, .val (.long q4), .second, .val (.long q5), .second, .val (.int p6), .val (.long (q1 &&& (9223372036854775807 : Int64))), .second, .val (.long (q2 &&& (9223372036854775807 : Int64))), .second, .val (.long (q3 &&& (9223372036854775807 : Int64))), .second, .val (.long (q4 &&& (9223372036854775807 : Int64))), .second, .val (.int (f1 (p6 &&& (3 : Int32)) (2 : Int32))), .val (.int (f1 ((XT.ushr p6 (2 : Int32)) &&& (3 : Int32)) (2 : Int32))), .val (.long (f0_0 q1 q2 q3 q4 q5 p6)), .second, .val (.long (f0_1 q1 q2 q3 q4 q5 p6)), .second, .val (.long (f0_2 q1 q2 q3 q4 q5 p6)), .second, .val (.long (f0_3 q1 q2 q3 q4 q5 p6)), .second, .val (.ref o7), .val (.ref o10), .unset] [])) _
                      refine XS.iconst X12.here hx rfl (hb hby at_208) ?_
                      show Steps p.tables e below (T12.setTop (mkF m 209 #[.val (.long q1), .second, .val (.long q2), .second, .val (.long q3), .second, .val (.long q4), .second, .val (.long q5), .second, .val (.int p6), .val (.long (q1 &&& (9223372036854775807 : Int64))), .second, .val (.long (q2 &&& (9223372036854775807 : Int64))), .second, .val (.long (q3 &&& (9223372036854775807 : Int64))), .second, .val (.long (q4 &&& (9223372036854775807 : Int64))), .second, .val (.int (f1 (p6 &&& (3 : Int32)) (2 : Int32))), .val (.int (f1 ((XT.ushr p6 (2 : Int32)) &&& (3 : Int32)) (2 : Int32))), .val (.long (f0_0 q1 q2 q3 q4 q5 p6)), .second, .val (.long (f0_1 q1 q2 q3 q4 q5 p6)), .second, .val (.long (f0_2 q1 q2 q3 q4 q5 p6)), .second, .val (.long (f0_3 q1 q2 q3 q4 q5 p6)), .second, .val (.ref o7), .val (.ref o10), .unset] [(.int (1 : Int32))])) _
                      refine XS.goto X12.here hx rfl (pc0 := 209) (pc' := 213) rfl (hb hby at_209) (by decide) (by decide) ?_
                      exact k
                    · have st19 : ∀ t, Steps p.tables e below (T12.setTop (mkF m 213 #[.val (.long q1), .second, .val (.long q2), .second, .val (.long q3), .second, .val (.long q4), .second, .val (.long q5), .second, .val (.int p6), .val (.long (q1 &&& (9223372036854775807 : Int64))), .second, .val (.long (q2 &&& (9223372036854775807 : Int64))), .second, .val (.long (q3 &&& (9223372036854775807 : Int64))), .second, .val (.long (q4 &&& (9223372036854775807 : Int64))), .second, .val (.int (f1 (p6 &&& (3 : Int32)) (2 : Int32))), .val (.int (f1 ((XT.ushr p6 (2 : Int32)) &&& (3 : Int32)) (2 : Int32))), .val (.long (f0_0 q1 q2 q3 q4 q5 p6)), .second, .val (.long (f0_1 q1 q2 q3 q4 q5 p6)), .second, .val (.long (f0_2 q1 q2 q3 q4 q5 p6)), .second, .val (.long (f0_3 q1 q2 q3 q4 q5 p6)), .second, .val (.ref o7), .val (.ref o10), .unset] [(.int (f0_10 q1 q2 q3 q4 q5 p6))])) t → Steps p.tables e below (T12.setTop (mkF m 205 #[.val (.long q1), .second, .val (.long q2), .second, .val (.long q3), .second, .val (.long q4), .second, .val (.long q5), .second, .val (.int p6), .val (.long (q1 &&& (9223372036854775807 : Int64))), .second, .val (.long (q2 &&& (9223372036854775807 : Int64))), .second, .val (.long (q3 &&& (9223372036854775807 : Int64))), .second, .val (.long (q4 &&& (9223372036854775807 : Int64))), .second, .val (.int (f1 (p6 &&& (3 : Int32)) (2 : Int32))), .val (.int (f1 ((XT.ushr p6 (2 : Int32)) &&& (3 : Int32)) (2 : Int32))), .val (.long (f0_0 q1 q2 q3 q4 q5 p6)), .second, .val (.long (f0_1 q1 q2 q3 q4 q5 p6)), .second, .val (.long (f0_2 q1 q2 q3 q4 q5 p6)), .second, .val (.long (f0_3 q1 q2 q3 q4 q5 p6)), .second, .val (.ref o7), .val (.ref o10), .unset] [(.int (XT.cmpL (f0_1 q1 q2 q3 q4 q5 p6) (f0_3 q1 q2 q3 q4 q5 p6)))])) t := by
                        intro t k
                        by_cases h18 : (f0_1 q1 q2 q3 q4 q5 p6) < (f0_3 q1 q2 q3 q4 q5 p6)
                        · rw [show (f0_10 q1 q2 q3 q4 q5 p6) = (0 : Int32) from if_pos h18] at k
                          show Steps p.tables e below (T12.setTop (mkF m 205 #[.val (.long q1), .second, .val (.long q2), .second, .val (.long q3), .second, .val (.long q4), .second, .val (.long q5), .second, .val (.int p6), .val (.long (q1 &&& (9223372036854775807 : Int64))), .second, .val (.long (q2 &&& (9223372036854775807 : Int64))), .second, .val (.long (q3 &&& (9223372036854775807 : Int64))), .second, .val (.long (q4 &&& (9223372036854775807 : Int64))), .second, .val (.int (f1 (p6 &&& (3 : Int32)) (2 : Int32))), .val (.int (f1 ((XT.ushr p6 (2 : Int32)) &&& (3 : Int32)) (2 : Int32))), .val (.long (f0_0 q1 q2 q3 q4 q5 p6)), .second, .val (.long (f0_1 q1 q2 q3 q4 q5 p6)), .second, .val (.long (f0_2 q1 q2 q3 q4 q5 p6)), .second, .val (.long (f0_3 q1 q2 q3 q4 q5 p6)), .second, .val (.ref o7), .val (.ref o10), .unset] [(.int (XT.cmpL (f0_1 q1 q2 q3 q4 q5 p6) (f0_3 q1 q2 q3 q4 q5 p6)))])) _
                          refine XS.ifYes X12.here hx rfl (pc0 := 205) (pc' := 212) rfl (hb hby at_205) rfl ((if0 _ _).trans (tlt ((own_cl _ _).mpr h18)).1) (by decide) (by decide) ?_
                          show Steps p.tables e below (T12.setTop (mkF m 212 #[.val (.long q1), .second, .val (.long q2), .second, .val (.long q3), .second, .val (.long q4), .second, .val (.long q5), .second, .val (.int p6), .val (.long (q1 &&& (9223372036854775807 : Int64))), .second, .val (.long (q2 &&& (9223372036854775807 : Int64))), .second, .val (.long (q3 &&& (9223372036854775807 : Int64))), .second, .val (.long (q4 &&& (9223372036854775807 : Int64))), .second, .val (.int (f1 (p6 &&& (3 : Int32)) (2 : Int32))), .val (.int (f1 ((XT.ushr p6 (2 : Int32)) &&& (3 : Int32)) (2 : Int32))), .val (.long (f0_0 q1 q2 q3 q4 q5 p6)), .second, .val (.long (f0_1 q1 q2 q3 q4 q5 p6)), .second, .val (.long (f0_2 q1 q2 q3 q4 q5 p6)), .second, .val (.long (f0_3 q1 q2 q3 q4 q5 p6)), .second, .val (.ref o7), .val (.ref o10), .unset] [])) _
                          refine XS.iconst X12.here hx rfl (hb hby at_212) ?_
                          exact k
                        · rw [show (f0_10 q1 q2 q3 q4 q5 p6) = (1 : Int32) from if_neg h18] at k
                          show Steps p.tables e below (T12.setTop (mkF m 205 #[.val (.long q1), .second, .val (.long q2), .second, .val (.long q3), .second, .val (.long q4), .second, .val (.long q5), .second, .val (.int p6), .val (.long (q1 &&& (9223372036854775807 : Int64))), .second, .val (.long (q2 &&& (9223372036854775807 : Int64))), .second, .val (.long (q3 &&& (9223372036854775807 : Int64))), .second, .val (.long (q4 &&& (9223372036854775807 : Int64))), .second, .val (.int (f1 (p6 &&& (3 : Int32)) (2 : Int32))), .val (.int (f1 ((XT.ushr p6 (2 : Int32)) &&& (3 : Int32)) (2 : Int32))), .val (.long (f0_0 q1 q2 q3 q4 q5 p6)), .second, .val (.long (f0_1 q1 q2 q3 q4 q5 p6)), .second, .val (.long (f0_2 q1 q2 q3 q4 q5 p6)), .second, .val (.long (f0_3 q1 q2 q3 q4 q5 p6)), .second, .val (.ref o7), .val (.ref o10), .unset] [(.int (XT.cmpL (f0_1 q1 q2 q3 q4 q5 p6) (f0_3 q1 q2 q3 q4 q5 p6)))])) _
                          refine XS.ifNo X12.here hx rfl (hb hby at_205) rfl ((if0 _ _).trans (flt (mt (own_cl _ _).mp h18)).1) ?_
                          show Steps p.tables e below (T12.setTop (mkF m 208 #[.val (.long q1), .second, .val (.long q2), .second, .val (.long q3), .second, .val (.long q4), .second, .val (.long q5), .second, .val (.int p6), .val (.long (q1 &&& (9223372036854775807 : Int64))), .second, .val (.long (q2 &&& (9223372036854775807 : Int64))), .second, .val (.long (q3 &&& (9223372036854775807 : Int64))), .second, .val (.long (q4 &&& (9223372036854775807 : Int64))), .second, .val (.int (f1 (p6 &&& (3 : Int32)) (2 : Int32))), .val (.int (f1 ((XT.ushr p6 (2 : Int32)) &&& (3 : Int32)) (2 : Int32))), .val (.long (f0_0 q1 q2 q3 q4 q5 p6)), .second, .val (.long (f0_1 q1 q2 q3 q4 q5 p6)), .second, .val (.long (f0_2 q1 q2 q3 q4 q5 p6)), .second, .val (.long (f0_3 q1 q2 q3 q4 q5 p6)), .second, .val (.ref o7), .val (.ref o10), .unset] [])) _
                          refine XS.iconst X12.here hx rfl (hb hby at_208) ?_
                          show Steps p.tables e below (T12.setTop (mkF m 209 #[.val (.long q1), .second, .val (.long q2), .second, .val (.long q3), .second, .val (.long q4), .second, .val (.long q5), .second, .val (.int p6), .val (.long (q1 &&& (9223372036854775807 : Int64))), .second, .val (.long (q2 &&& (9223372036854775807 : Int64))), .second, .val (.long (q3 &&& (9223372036854775807 : Int64))), .second, .val (.long (q4 &&& (9223372036854775807 : Int64))), .second, .val (.int (f1 (p6 &&& (3 : Int32)) (2 : Int32))), .val (.int (f1 ((XT.ushr p6 (2 : Int32)) &&& (3 : Int32)) (2 : Int32))), .val (.long (f0_0 q1 q2 q3 q4 q5 p6)), .second, .val (.long (f0_1 q1 q2 q3 q4 q5 p6)), .second, .val (.long (f0_2 q1 q2 q3 q4 q5 p6)), .second, .val (.long (f0_3 q1 q2 q3 q4 q5 p6)), .second, .val (.ref o7), .val (.ref o10), .unset] [(.int (1 : Int32))])) _
                          refine XS.goto X12.here hx rfl (pc0 := 209) (pc' := 213) rfl (hb hby at_209) (by decide) (by decide) ?_
                          exact k
                      rw [show (f0_11 q1 q2 q3 q4 q5 p6) = (f0_10 q1 q2 q3 q4 q5 p6) from if_neg h17] at k
                      show Steps p.tables e below (T12.setTop (mkF m 197 #[.val (.long q1), .second, .val (.long q2), .second, .val (.long q3), .second, .val (.long q4), .second, .val (.long q5), .second, .val (.int p6), .val (.long (q1 &&& (9223372036854775807 : Int64))), .second, .val (.long (q2 &&& (9223372036854775807 : Int64))), .second, .val (.long (q3 &&& (9223372036854775807 : Int64))), .second, .val (.long (q4 &&& (9223372036854775807 : Int64))), .second, .val (.int (f1 (p6 &&& (3 : Int32)) (2 : Int32))), .val (.int (f1 ((XT.ushr p6 (2 : Int32)) &&& (3 : Int32)) (2 : Int32))), .val (.long (f0_0 q1 q2 q3 q4 q5 p6)), .second, .val (.long (f0_1 q1 q2 q3 q4 q5 p6)), .second, .val (.long (f0_2 q1 q2 q3 q4 q5 p6)), .second, .val (.long (f0_3 q1 q2 q3 q4 q5 p6)), .second, .val (.ref o7), .val (.ref o10), .unset] [(.int (2 : Int32)), (.int (f1 (p6 &&& (3 : Int32)) (2 : Int32)))])) _
                      refine XS.icmpNo X12.here hx rfl (hb hby at_197) rfl (flt h17).1 ?_
                      show Steps p.tables e below (T12.setTop (mkF m 200 #[.val (.long q1), .second, .val (.long q2), .second, .val (.long q3), .second, .val (.long q4), .second, .val (.long q5), .second, .val (.int p6), .val (.long (q1 &&& (9223372036854775807 : Int64))), .second, .val (.long (q2 &&& (9223372036854775807 : Int64))), .second, .val (.long (q3 &&& (9223372036854775807 : Int64))), .second, .val (.long (q4 &&& (9223372036854775807 : Int64))), .second, .val (.int (f1 (p6 &&& (3 : Int32)) (2 : Int32))), .val (.int (f1 ((XT.ushr p6 (2 : Int32)) &&& (3 : Int32)) (2 : Int32))), .val (.long (f0_0 q1 q2 q3 q4 q5 p6)), .second, .val (.long (f0_1 q1 q2 q3 q4 q5 p6)), .second, .val (.long (f0_2 q1 q2 q3 q4 q5 p6)), .second, .val (.long (f0_3 q1 q2 q3 q4 q5 p6)), .second, .val (.ref o7), .val (.ref o10), .unset] [])) _
                      refine XT.lload X12.here hx rfl (hb hby at_200) rfl ?_
                      show Steps p.tables e below (T12.setTop (mkF m 202 #[.val (.long q1), .second, .val (.long q2), .second, .val (.long q3), .second, .val (.long q4), .second, .val (.long q5), .second, .val (.int p6), .val (.long (q1 &&& (9223372036854775807 : Int64))), .second, .val (.long (q2 &&& (9223372036854775807 : Int64))), .second, .val (.long (q3 &&& (9223372036854775807 : Int64))), .second, .val (.long (q4 &&& (9223372036854775807 : Int64))), .second, .val (.int (f1 (p6 &&& (3 : Int32)) (2 : Int32))), .val (.int (f1 ((XT.ushr p6 (2 : Int32)) &&& (3 : Int32)) (2 : Int32))), .val (.long (f0_0 q1 q2 q3 q4 q5 p6)), .second, .val (.long (f0_1 q1 q2 q3 q4 q5 p6)), .second, .val (.long (f0_2 q1 q2 q3 q4 q5 p6)), .second, .val (.long (f0_3 q1 q2 q3 q4 q5 p6)), .second, .val (.ref o7), .val (.ref o10), .unset] [(.long (f0_1 q1 q2 q3 q4 q5 p6))])) _
                      refine XT.lload X12.here hx rfl (hb hby at_202) rfl ?_
                      show Steps p.tables e below (T12.setTop (mkF m 204 #[.val (.long q1), .second, .val (.long q2), .second, .val (.long q3), .second, .val (.long q4), .second, .val (.long q5), .second, .val (.int p6), .val (.long (q1 &&& (9223372036854775807 : Int64))), .second, .val (.long (q2 &&& (9223372036854775807 : Int64))), .second, .val (.long (q3 &&& (9223372036854775807 : Int64))), .second, .val (.long (q4 &&& (9223372036854775807 : Int64))), .second, .val (.int (f1 (p6 &&& (3 : Int32)) (2 : Int32))), .val (.int (f1 ((XT.ushr p6 (2 : Int32)) &&& (3 : Int32)) (2 : Int32))), .val (.long (f0_0 q1 q2 q3 q4 q5 p6)), .second, .val (.long (f0_1 q1 q2 q3 q4 q5 p6)), .second, .val (.long (f0_2 q1 q2 q3 q4 q5 p6)), .second, .val (.long (f0_3 q1 q2 q3 q4 q5 p6)), .second, .val (.ref o7), .val (.ref o10), .unset] [(.long (f0_3 q1 q2 q3 q4 q5 p6)), (.long (f0_1 q1 q2 q3 q4 q5 p6))])) _
                      refine XT.lcmp X12.here hx rfl (hb hby at_204) rfl ?_
                      show Steps p.tables e below (T12.setTop (mkF m 205 #[.val (.long q1), .second, .val (.long q2), .second, .val (.long q3), .second, .val (.long q4), .second, .val (.long q5), .second, .val (.int p6), .val (.long (q1 &&& (9223372036854775807 : Int64))), .second, .val (.long (q2 &&& (9223372036854775807 : Int64))), .second, .val (.long (q3 &&& (9223372036854775807 : Int64))), .second, .val (.long (q4 &&& (9223372036854775807 : Int64))), .second, .val (.int (f1 (p6 &&& (3 : Int32)) (2 : Int32))), .val (.int (f1 ((XT.ushr p6 (2 : Int32)) &&& (3 : Int32)) (2 : Int32))), .val (.long (f0_0 q1 q2 q3 q4 q5 p6)), .second, .val (.long (f0_1 q1 q2 q3 q4 q5 p6)), .second, .val (.long (f0_2 q1 q2 q3 q4 q5 p6)), .second, .val (.long (f0_3 q1 q2 q3 q4 q5 p6)), .second, .val (.ref o7), .val (.ref o10), .unset] [(.int (XT.cmpL (f0_1 q1 q2 q3 q4 q5 p6) (f0_3 q1 q2 q3 q4 q5 p6)))])) _
                      refine st19 _ ?_
                      exact k
                  rw [show (f0_13 q1 q2 q3 q4 q5 p6) = (f0_11 q1 q2 q3 q4 q5 p6) from if_pos h16] at k
                  show Steps p.tables e below (T12.setTop (mkF m 183 #[.val (.long q1), .second, .val (.long q2), .second, .val (.long q3), .second, .val (.long q4), .second, .val (.long q5), .second, .val (.int p6), .val (.long (q1 &&& (9223372036854775807 : Int64))), .second, .val (.long (q2 &&& (9223372036854775807 : Int64))), .second, .val (.long (q3 &&& (9223372036854775807 : Int64))), .second, .val (.long (q4 &&& (9223372036854775807 : Int64))), .second, .val (.int (f1 (p6 &&& (3 : Int32)) (2 : Int32))), .val (.int (f1 ((XT.ushr p6 (2 : Int32)) &&& (3 : Int32)) (2 : Int32))), .val (.long (f0_0 q1 q2 q3 q4 q5 p6)), .second, .val (.long (f0_1 q1 q2 q3 q4 q5 p6)), .second, .val (.long (f0_2 q1 q2 q3 q4 q5 p6)), .second, .val (.long (f0_3 q1 q2 q3 q4 q5 p6)), .second, .val (.ref o7), .val (.ref o10), .unset] [(.int (1 : Int32)), (.int (f1 (p6 &&& (3 : Int32)) (2 : Int32)))])) _
                  refine XS.icmpYes X12.here hx rfl (pc0 := 183) (pc' := 194) rfl (hb hby at_183) rfl (tlt h16).1 (by decide) (by decide) ?_
                  show Steps p.tables e below (T12.setTop (mkF m 194 #[.val (.long q1), .second, .val (.long q2), .second, .val (.long q3), .second, .val (.long q4), .second, .val (.long q5), .second, .val (.int p6), .val (.long (q1 &&& (9223372036854775807 : Int64))), .second, .val (.long (q2 &&& (9223372036854775807 : Int64))), .second, .val (.long (q3 &&& (9223372036854775807 : Int64))), .second, .val (.long (q4 &&& (9223372036854775807 : Int64))), .second, .val (.int (f1 (p6 &&& (3 : Int32)) (2 : Int32))), .val (.int (f1 ((XT.ushr p6 (2 : Int32)) &&& (3 : Int32)) (2 : Int32))), .val (.long (f0_0 q1 q2 q3 q4 q5 p6)), .second, .val (.long (f0_1 q1 q2 q3 q4 q5 p6)), .second, .val (.long (f0_2 q1 q2 q3 q4 q5 p6)), .second, .val (.long (f0_3 q1 q2 q3 q4 q5 p6)), .second, .val (.ref o7), .val (.ref o10), .unset] [])) _
                  refine XS.iload X12.here hx rfl (hb hby at_194) rfl ?_
                  show Steps p.tables e below (T12.setTop (mkF m 196 #[.val (.long q1), .second, .val (.long q2), .second, .val (.long q3), .second, .val (.long q4), .second, .val (.long q5), .second, .val (.int p6), .val (.long (q1 &&& (9223372036854775807 : Int64))), .second, .val (.long (q2 &&& (9223372036854775807 : Int64))), .second, .val (.long (q3 &&& (9223372036854775807 : Int64))), .second, .val (.long (q4 &&& (9223372036854775807 : Int64))), .second, .val (.int (f1 (p6 &&& (3 : Int32)) (2 : Int32))), .val (.int (f1 ((XT.ushr p6 (2 : Int32)) &&& (3 : Int32)) (2 : Int32))), .val (.long (f0_0 q1 q2 q3 q4 q5 p6)), .second, .val (.long (f0_1 q1 q2 q3 q4 q5 p6)), .second, .val (.long (f0_2 q1 q2 q3 q4 q5 p6)), .second, .val (.long (f0_3 q1 q2 q3 q4 q5 p6)), .second, .val (.ref o7), .val (.ref o10), .unset] [(.int (f1 (p6 &&& (3 : Int32)) (2 : Int32)))])) _
                  refine XS.iconst X12.here hx rfl (hb hby at_196) ?_
                  show Steps p.tables e below (T12.setTop (mkF m 197 #[.val (.long q1), .second, .val (.long q2), .second, .val (.long q3), .second, .val (.long q4), .second, .val (.long q5), .second, .val (.int p6), .val (.long (q1 &&& (9223372036854775807 : Int64))), .second, .val (.long (q2 &&& (9223372036854775807 : Int64))), .second, .val (.long (q3 &&& (9223372036854775807 : Int64))), .second, .val (.long (q4 &&& (9223372036854775807 : Int64))), .second, .val (.int (f1 (p6 &&& (3 : Int32)) (2 : Int32))), .val (.int (f1 ((XT.ushr p6 (2 : Int32)) &&& (3 : Int32)) (2 : Int32))), .val (.long (f0_0 q1 q2 q3 q4 q5 p6)), .second, .val (.long (f0_1 q1 q2 q3 q4 q5 p6)), .second, .val (.long (f0_2 q1 q2 q3 q4 q5 p6)), .second, .val (.long (f0_3 q1 q2 q3 q4 q5 p6)), .second, .val (.ref o7), .val (.ref o10), .unset] [(.int (2 : Int32)), (.int (f1 (p6 &&& (3 : Int32)) (2 : Int32)))])) _
                  refine st20 _ ?_
                  exact k
                · have st26 : ∀ t, Steps p.tables e below (T12.setTop (mkF m 213 #[.val (.long q1), .second, .val (.long q2), .second, .val (.long q3), .second, .val (.long q4), .second, .val (.long q5), .second, .val (.int p6), .val (.long (q1 &&& (9223372036854775807 : Int64))), .second, .val (.long (q2 &&& (9223372036854775807 : Int64))), .second, .val (.long (q3 &&& (9223372036854775807 : Int64))), .second, .val (.long (q4 &&& (9223372036854775807 : Int64))), .second, .val (.int (f1 (p6 &&& (3 : Int32)) (2 : Int32))), .val (.int (f1 ((XT.ushr p6 (2 : Int32)) &&& (3 : Int32)) (2 : Int32))), .val (.long (f0_0 q1 q2 q3 q4 q5 p6)), .second, .val (.long (f0_1 q1 q2 q3 q4 q5 p6)), .second, .val (.long (f0_2 q1 q2 q3 q4 q5 p6)), .second, .val (.long (f0_3 q1 q2 q3 q4 q5 p6)), .second, .val (.ref o7), .val (.ref o10), .unset] [(.int (f0_12 q1 q2 q3 q4 q5 p6))])) t → Steps p.tables e below (T12.setTop (mkF m 191 #[.val (.long q1), .second, .val (.long q2), .second, .val (.long q3), .second, .val (.long q4), .second, .val (.long q5), .second, .val (.int p6), .val (.long (q1 &&& (9223372036854775807 : Int64))), .second, .val (.long (q2 &&& (9223372036854775807 : Int64))), .second, .val (.long (q3 &&& (9223372036854775807 : Int64))), .second, .val (.long (q4 &&& (9223372036854775807 : Int64))), .second, .val (.int (f1 (p6 &&& (3 : Int32)) (2 : Int32))), .val (.int (f1 ((XT.ushr p6 (2 : Int32)) &&& (3 : Int32)) (2 : Int32))), .val (.long (f0_0 q1 q2 q3 q4 q5 p6)), .second, .val (.long (f0_1 q1 q2 q3 q4 q5 p6)), .second, .val (.long (f0_2 q1 q2 q3 q4 q5 p6)), .second, .val (.long (f0_3 q1 q2 q3 q4 q5 p6)), .second, .val (.ref o7), .val (.ref o10), .unset] [(.int (XT.cmpL (f0_0 q1 q2 q3 q4 q5 p6) (f0_2 q1 q2 q3 q4 q5 p6)))])) t := by
                    intro t k
                    by_cases h21 : (f0_0 q1 q2 q3 q4 q5 p6) < (f0_2 q1 q2 q3 q4 q5 p6)
                    · rw [show (f0_12 q1 q2 q3 q4 q5 p6) = (0 : Int32) from if_pos h21] at k
                      show Steps p.tables e below (T12.setTop (mkF m 191 #[.val (.long q1), .second, .val (.long q2), .second, .val (.long q3), .second, .val (.long q4), .second, .val (.long q5), .second, .val (.int p6), .val (.long (q1 &&& (9223372036854775807 : Int64))), .second, .val (.long (q2 &&& (9223372036854775807 : Int64))), .second, .val (.long (q3 &&& (9223372036854775807 : Int64))), .second, .val (.long (q4 &&& (9223372036854775807 : Int64))), .second, .val (.int (f1 (p6 &&& (3 : Int32)) (2 : Int32))), .val (.int (f1 ((XT.ushr p6 (2 : Int32)) &&& (3 : Int32)) (2 : Int32))), .val (.long (f0_0 q1 q2 q3 q4 q5 p6)), .second, .val (.long (f0_1 q1 q2 q3 q4 q5 p6)), .second, .val (.long (f0_2 q1 q2 q3 q4 q5 p6)), .second, .val (.long (f0_3 q1 q2 q3 q4 q5 p6)), .second, .val (.ref o7), .val (.ref o10), .unset] [(.int (XT.cmpL (f0_0 q1 q2 q3 q4 q5 p6) (f0_2 q1 q2 q3 q4 q5 p6)))])) _
                      refine XS.ifYes X12.here hx rfl (pc0 := 191) (pc' := 212) rfl (hb hby at_191) rfl ((if0 _ _).trans (tlt ((own_cl _ _).mpr h21)).1) (by decide) (by decide) ?_
                      show Steps p.tables e below (T12.setTop (mkF m 212 #[.val (.long q1), .second, .val (.long q2), .second, .val (.long q3), .second, .val (.long q4), .second, .val (.long q5), .second, .val (.int p6), .val (.long (q1 &&& (9223372036854775807 : Int64))), .second, .val (.long (q2 &&& (9223372036854775807 : Int64))), .second, .val (.long (q3 &&& (9223372036854775807 : Int64))), .second, .val (.long (q4 &&& (9223372036854775807 : Int64))), .second, .val (.int (f1 (p6 &&& (3 : Int32)) (2 : Int32))), .val (.int (f1 ((XT.ushr p6 (2 : Int32)) &&& (3 : Int32)) (2 : Int32))), .val (.long (f0_0 q1 q2 q3 q4 q5 p6)), .second, .val (.long (f0_1 q1 q2 q3 q4 q5 p6)), .second, .val (.long (f0_2 q1 q2 q3 q4 q5 p6)), .second, .val (.long (f0_3 q1 q2 q3 q4 q5 p6)), .second, .val (.ref o7), .val (.ref o10), .unset] [])) _
                      refine XS.iconst X12.here hx rfl (hb hby at_212) ?_
                      exact k
                    · have st25 : ∀ t, Steps p.tables e below (T12.setTop (mkF m 213 #[.val (.long q1), .second, .val (.long q2), .second, .val (.long q3), .second, .val (.long q4), .second, .val (.long q5), .second, .val (.int p6), .val (.long (q1 &&& (9223372036854775807 : Int64))), .second, .val (.long (q2 &&& (9223372036854775807 : Int64))), .second, .val (.long (q3 &&& (9223372036854775807 : Int64))), .second, .val (.long (q4 &&& (9223372036854775807 : Int64))), .second, .val (.int (f1 (p6 &&& (3 : Int32)) (2 : Int32))), .val (.int (f1 ((XT.ushr p6 (2 : Int32)) &&& (3 : Int32)) (2 : Int32))), .val (.long (f0_0 q1 q2 q3 q4 q5 p6)), .second, .val (.long (f0_1 q1 q2 q3 q4 q5 p6)), .second, .val (.long (f0_2 q1 q2 q3 q4 q5 p6)), .second, .val (.long (f0_3 q1 q2 q3 q4 q5 p6)), .second, .val (.ref o7), .val (.ref o10), .unset] [(.int (f0_11 q1 q2 q3 q4 q5 p6))])) t → Steps p.tables e below (T12.setTop (mkF m 197 #[.val (.long q1), .second, .val (.long q2), .second, .val (.long q3), .second, .val (.long q4), .second, .val (.long q5), .second, .val (.int p6), .val (.long (q1 &&& (9223372036854775807 : Int64))), .second, .val (.long (q2 &&& (9223372036854775807 : Int64))), .second, .val (.long (q3 &&& (9223372036854775807 : Int64))), .second, .val (.long (q4 &&& (9223372036854775807 : Int64))), .second, .val (.int (f1 (p6 &&& (3 : Int32)) (2 : Int32))), .val (.int (f1 ((XT.ushr p6 (2 : Int32)) &&& (3 : Int32)) (2 : Int32))), .val (.long (f0_0 q1 q2 q3 q4 q5 p6)), .second, .val (.long (f0_1 q1 q2 q3 q4 q5 p6)), .second, .val (.long (f0_2 q1 q2 q3 q4 q5 p6)), .second, .val (.long (f0_3 q1 q2 q3 q4 q5 p6)), .second, .val (.ref o7), .val (.ref o10), .unset] [(.int (2 : Int32)), (.int (f1 (p6 &&& (3 : Int32)) (2 : Int32)))])) t := by
                        intro t k
                        by_cases h22 : (f1 (p6 &&& (3 : Int32)) (2 : Int32)) < (2 : Int32)
                        · rw [show (f0_11 q1 q2 q3 q4 q5 p6) = (1 : Int32) from if_pos h22] at k
                          show Steps p.tables e below (T12.setTop (mkF m 197 #[.val (.long q1), .second, .val (.long q2), .second, .val (.long q3), .second, .val (.long q4), .second, .val (.long q5), .second, .val (.int p6), .val (.long (q1 &&& (9223372036854775807 : Int64))), .second, .val (.long (q2 &&& (9223372036854775807 : Int64))), .second, .val (.long (q3 &&& (9223372036854775807 : Int64))), .second, .val (.long (q4 &&& (9223372036854775807 : Int64))), .second, .val (.int (f1 (p6 &&& (3 : Int32)) (2 : Int32))), .val (.int (f1 ((XT.ushr p6 (2 : Int32)) &&& (3 : Int32)) (2 : Int32))), .val (.long (f0_0 q1 q2 q3 q4 q5 p6)), .second, .val (.long (f0_1 q1 q2 q3 q4 q5 p6)), .second, .val (.long (f0_2 q1 q2 q3 q4 q5 p6)), .second, .val (.long (f0_3 q1 q2 q3 q4 q5 p6)), .second, .val (.ref o7), .val (.ref o10), .unset] [(.int (2 : Int32)), (.int (f1 (p6 &&& (3 : Int32)) (2 : Int32)))])) _
                          refine XS.icmpYes X12.here hx rfl (pc0 := 197) (pc' := 208) rfl (hb hby at_197) rfl (tlt h22).1 (by decide) (by decide) ?_
                          show Steps p.tables e below (T12.setTop (mkF m 208 #[.val (.long q1), .second, .val (.long q2), .second, .val (.long q3), .second, .val (.long q4), .second, .val (.long q5), .second, .val (.int p6), .val (.long (q1 &&& (9223372036854775807 : Int64))), .second, .val (.long (q2 &&& (9223372036854775807 : Int64))), .second, .val (.long (q3 &&& (9223372036854775807 : Int64))), .second, .val (.long (q4 &&& (9223372036854775807 : Int64))), .second, .val (.int (f1 (p6 &&& (3 : Int32)) (2 : Int32))), .val (.int (f1 ((XT.ushr p6 (2 : Int32)) &&& (3 : Int32)) (2 : Int32))), .val (.long (f0_0 q1 q2 q3 q4 q5 p6)), .second, .val (.long (f0_1 q1 q2 q3 q4 q5 p6)), .second, .val (.long (f0_2 q1 q2 q3 q4 q5 p6)), .second, .val (.long (f0_3 q1 q2 q3 q4 q5 p6)), .second, .val (.ref o7), .val (.ref o10), .unset] [])) _
                          refine XS.iconst X12.here hx rfl (hb hby at_208) ?_
                          show Steps p.tables e below (T12.setTop (mkF m 209 #[.val (.long q1), .second, .val (.long q2), .second, .val (.long q3), .second, .val (.long q4), .second, .val (.long q5), .second, .val (.int p6), .val (.long (q1 &&& (9223372036854775807 : Int64))), .second, .val (.long (q2 &&& (9223372036854775807 : Int64))), .second, .val (.long (q3 &&& (9223372036854775807 : Int64))), .second, .val (.long (q4 &&& (9223372036854775807 : Int64))), .second, .val (.int (f1 (p6 &&& (3 : Int32)) (2 : Int32))), .val (.int (f1 ((XT.ushr p6 (2 : Int32)) &&& (3 : Int32)) (2 : Int32))), .val (.long (f0_0 q1 q2 q3 q4 q5 p6)), .second, .val (.long (f0_1 q1 q2 q3 q4 q5 p6)), .second, .val (.long (f0_2 q1 q2 q3 q4 q5 p6)), .second, .val (.long (f0_3 q1 q2 q3 q4 q5 p6)), .second, .val (.ref o7), .val (.ref o10), .unset] [(.int (1 : Int32))])) _
                          refine XS.goto X12.here hx rfl (pc0 := 209) (pc' := 213) rfl (hb hby at_209) (by decide) (by decide) ?_
                          exact k
                        · have st24 : ∀ t, Steps p.tables e below (T12.setTop (mkF m 213 #[.val (.long q1), .second, .val (.long q2), .second, .val (.long q3), .second, .val (.long q4), .second, .val (.long q5), .second, .val (.int p6), .val (.long (q1 &&& (9223372036854775807 : Int64))), .second, .val (.long (q2 &&& (9223372036854775807 : Int64))), .second, .val (.long (q3 &&& (9223372036854775807 : Int64))), .second, .val (.long (q4 &&& (9223372036854775807 : Int64))), .second, .val (.int (f1 (p6 &&& (3 : Int32)) (2 : Int32))), .val (.int (f1 ((XT.ushr p6 (2 : Int32)) &&& (3 : Int32)) (2 : Int32))), .val (.long (f0_0 q1 q2 q3 q4 q5 p6)), .second, .val (.long (f0_1 q1 q2 q3 q4 q5 p6)), .second, .val (.long (f0_2 q1 q2 q3 q4 q5 p6)), .second, .val (.long (f0_3 q1 q2 q3 q4 q5 p6)), .second, .val (.ref o7), .val (.ref o10), .unset] [(.int (f0_10 q1 q2 q3 q4 q5 p6))])) t → Steps p.tables e below (T12.setTop (mkF m 205 #[.val (.long q1), .second, .val (.long q2), .second, .val (.long q3), .second, .val (.long q4), .second, .val (.long q5), .second, .val (.int p6), .val (.long (q1 &&& (9223372036854775807 : Int64))), .second, .val (.long (q2 &&& (9223372036854775807 : Int64))), .second, .val (.long (q3 &&& (9223372036854775807 : Int64))), .second, .val (.long (q4 &&& (9223372036854775807 : Int64))), .second, .val (.int (f1 (p6 &&& (3 : Int32)) (2 : Int32))), .val (.int (f1 ((XT.ushr p6 (2 : Int32)) &&& (3 : Int32)) (2 : Int32))), .val (.long (f0_0 q1 q2 q3 q4 q5 p6)), .second, .val (.long (f0_1 q1 q2 q3 q4 q5 p6)), .second, .val (.long (f0_2 q1 q2 q3 q4 q5 p6)), .second, .val (.long (f0_3 q1 q2 q3 q4 q5 p6)), .second, .val (.ref o7), .val (.ref o10), .unset] [(.int (XT.cmpL (f0_1 q1 q2 q3 q4 q5 p6) (f0_3 q1 q2 q3 q4 q5 p6)))])) t := by
                            intro t k
                            by_cases h23 : (f0_1 q1 q2 q3 q4 q5 p6) < (f0_3 q1 q2 q3 q4 q5 p6)
                            · rw [show (f0_10 q1 q2 q3 q4 q5 p6) = (0 : Int32) from if_pos h23] at k
                              show Steps p.tables e below (T12.setTop (mkF m 205 #[.val (.long q1), .second, .val (.long q2), .second, .val (.long q3), .second, .val (.long q4), .second, .val (.long q5), .second, .val (.int p6), .val (.long (q1 &&& (9223372036854775807 : Int64))), .second, .val (.long (q2 &&& (9223372036854775807 : Int64))), .second, .val (.long (q3 &&& (9223372036854775807 : Int64))), .second, .val (.long (q4 &&& (9223372036854775807 : Int64))), .second, .val (.int (f1 (p6 &&& (3 : Int32)) (2 : Int32))), .val (.int (f1 ((XT.ushr p6 (2 : Int32)) &&& (3 : Int32)) (2 : Int32))), .val (.long (f0_0 q1 q2 q3 q4 q5 p6)), .second, .val (.long (f0_1 q1 q2 q3 q4 q5 p6)), .second, .val (.long (f0_2 q1 q2 q3 q4 q5 p6)), .second, .val (.long (f0_3 q1 q2 q3 q4 q5 p6)), .second, .val (.ref o7), .val (.ref o10), .unset] [(.int (XT.cmpL (f0_1 q1 q2 q3 q4 q5 p6) (f0_3 q1 q2 q3 q4 q5 p6)))])) _
                              refine XS.ifYes X12.here hx rfl (pc0 := 205) (pc' := 212) rfl (hb hby at_205) rfl ((if0 _ _).trans (tlt ((own_cl _ _).mpr h23)).1) (by decide) (by decide) ?_
                              show Steps p.tables e below (T12.setTop (mkF m 212 #[.val (.long q1), .second, .val (.long q2), .second, .val (.long q3), .second, .val (.long q4), .second, .val (.long q5), .second, .val (.int p6), .val (.long (q1 &&& (9223372036854775807 : Int64))), .second, .val (.long (q2 &&& (9223372036854775807 : Int64))), .second, .val (.long (q3 &&& (9223372036854775807 : Int64))), .second, .val (.long (q4 &&& (9223372036854775807 : Int64))), .second, .val (.int (f1 (p6 &&& (3 : Int32)) (2 : Int32))), .val (.int (f1 ((XT.ushr p6 (2 : Int32)) &&& (3 : Int32)) (2 : Int32))), .val (.long (f0_0 q1 q2 q3 q4 q5 p6)), .second, .val (.long (f0_1 q1 q2 q3 q4 q5 p6)), .second, .val (.long (f0_2 q1 q2 q3 q4 q5 p6)), .second, .val (.long (f0_3 q1 q2 q3 q4 q5 p6)), .second, .val (.ref o7), .val (.ref o10), .unset] [])) _
                              refine XS.iconst X12.here hx rfl (hb hby at_212) ?_
                              exact k
                            · rw [show (f0_10 q1 q2 q3 q4 q5 p6) = (1 : Int32) from if_neg h23] at k
                              show Steps p.tables e below (T12.setTop (mkF m 205 #[.val (.long q1), .second, .val (.long q2), .second, .val (.long q3), .second, .val (.long q4), .second, .val (.long q5), .second, .val (.int p6), .val (.long (q1 &&& (9223372036854775807 : Int64))), .second, .val (.long (q2 &&& (9223372036854775807 : Int64))), .second, .val (.long (q3 &&& (9223372036854775807 : Int64))), .second, .val (.long (q4 &&& (9223372036854775807 : Int64))), .second, .val (.int (f1 (p6 &&& (3 : Int32)) (2 : Int32))), .val (.int (f1 ((XT.ushr p6 (2 : Int32)) &&& (3 : Int32)) (2 : Int32))), .val (.long (f0_0 q1 q2 q3 q4 q5 p6)), .second, .val (.long (f0_1 q1 q2 q3 q4 q5 p6)), .second, .val (.long (f0_2 q1 q2 q3 q4 q5 p6)), .second, .val (.long (f0_3 q1 q2 q3 q4 q5 p6)), .second, .val (.ref o7), .val (.ref o10), .unset] [(.int (XT.cmpL (f0_1 q1 q2 q3 q4 q5 p6) (f0_3 q1 q2 q3 q4 q5 p6)))])) _
                              refine XS.ifNo X12.here hx rfl (hb hby at_205) rfl ((if0 _ _).trans (flt (mt (own_cl _ _).mp h23)).1) ?_
                              show Steps p.tables e below (T12.setTop (mkF m 208 #[.val (.long q1), .second, .val (.long q2), .second, .val (.long q3), .second, .val (.long q4), .second, .val (.long q5), .second, .val (.int p6), .val (.long (q1 &&& (9223372036854775807 : Int64))), .second, .val (.long (q2 &&& (9223372036854775807 : Int64))), .second, .val (.long (q3 &&& (9223372036854775807 : Int64))), .second, .val (.long (q4 &&& (9223372036854775807 : Int64))), .second, .val (.int (f1 (p6 &&& (3 : Int32)) (2 : Int32))), .val (.int (f1 ((XT.ushr p6 (2 : Int32)) &&& (3 : Int32)) (2 : Int32))), .val (.long (f0_0 q1 q2 q3 q4 q5 p6)), .second, .val (.long (f0_1 q1 q2 q3 q4 q5 p6)), .second, .val (.long (f0_2 q1 q2 q3 q4 q5 p6)), .second, .val (.long (f0_3 q1 q2 q3 q4 q5 p6)), .second, .val (.ref o7), .val (.ref o10), .unset] [])) _
                              refine XS.iconst X12.here hx rfl (hb hby at_208) ?_
                              show Steps p.tables e below (T12.setTop (mkF m 209 #[.val (.long q1), .second, .val (.long q2), .second, .val (.long q3), .second, .val (.long q4), .second, .val (.long q5), .second, .val (.int p6), .val (.long (q1 &&& (9223372036854775807 : Int64))), .second, .val (.long (q2 &&& (9223372036854775807 : Int64))), .second, .val (.long (q3 &&& (9223372036854775807 : Int64))), .second, .val (.long (q4 &&& (9223372036854775807 : Int64))), .second, .val (.int (f1 (p6 &&& (3 : Int32)) (2 : Int32))), .val (.int (f1 ((XT.ushr p6 (2 : Int32)) &&& (3 : Int32)) (2 : Int32))), .val (.long (f0_0 q1 q2 q3 q4 q5 p6)), .second, .val (.long (f0_1 q1 q2 q3 q4 q5 p6)), .second, .val (.long (f0_2 q1 q2 q3 q4 q5 p6)), .second, .val (.long (f0_3 q1 q2 q3 q4 q5 p6)), .second, .val (.ref o7), .val (.ref o10), .unset] [(.int (1 : Int32))])) _
                              refine XS.goto X12.here hx rfl (pc0 := 209) (pc' := 213) rfl (hb hby at_209) (by decide) (by decide) ?_
                              exact k
                          rw [show (f0_11 q1 q2 q3 q4 q5 p6) = (f0_10 q1 q2 q3 q4 q5 p6) from if_neg h22] at k
                          show Steps p.tables e below (T12.setTop (mkF m 197 #[.val (.long q1), .second, .val (.long q2), .second, .val (.long q3), .second, .val (.long q4), .second, .val (.long q5), .second, .val (.int p6), .val (.long (q1 &&& (9223372036854775807 : Int64))), .second, .val (.long (q2 &&& (9223372036854775807 : Int64))), .second, .val (.long (q3 &&& (9223372036854775807 : Int64))), .second, .val (.long (q4 &&& (9223372036854775807 : Int64))), .second, .val (.int (f1 (p6 &&& (3 : Int32)) (2 : Int32))), .val (.int (f1 ((XT.ushr p6 (2 : Int32)) &&& (3 : Int32)) (2 : Int32))), .val (.long (f0_0 q1 q2 q3 q4 q5 p6)), .second, .val (.long (f0_1 q1 q2 q3 q4 q5 p6)), .second, .val (.long (f0_2 q1 q2 q3 q4 q5 p6)), .second, .val (.long (f0_3 q1 q2 q3 q4 q5 p6)), .second, .val (.ref o7), .val (.ref o10), .unset] [(.int (2 : Int32)), (.int (f1 (p6 &&& (3 : Int32)) (2 : Int32)))])) _
                          refine XS.icmpNo X12.here hx rfl (hb hby at_197) rfl (flt h22).1 ?_
                          show Steps p.tables e below (T12.setTop (mkF m 200 #[.val (.long q1), .second, .val (.long q2), .second, .val (.long q3), .second, .val (.long q4), .second, .val (.long q5), .second, .val (.int p6), .val (.long (q1 &&& (9223372036854775807 : Int64))), .second, .val (.long (q2 &&& (9223372036854775807 : Int64))), .second, .val (.long (q3 &&& (9223372036854775807 : Int64))), .second, .val (.long (q4 &&& (9223372036854775807 : Int64))), .second, .val (.int (f1 (p6 &&& (3 : Int32)) (2 : Int32))), .val (.int (f1 ((XT.ushr p6 (2 : Int32)) &&& (3 : Int32)) (2 : Int32))), .val (.long (f0_0 q1 q2 q3 q4 q5 p6)), .second, .val (.long (f0_1 q1 q2 q3 q4 q5 p6)), .second, .val (.long (f0_2 q1 q2 q3 q4 q5 p6)), .second, .val (.long (f0_3 q1 q2 q3 q4 q5 p6)), .second, .val (.ref o7), .val (.ref o10), .unset] [])) _
                          refine XT.lload X12.here hx rfl (hb hby at_200) rfl ?_
                          show Steps p.tables e below (T12.setTop (mkF m 202 #[.val (.long q1), .second, .val (.long q2), .second, .val (.long q3), .second, .val (.long q4), .second, .val (.long q5), .second, .val (.int p6), .val (.long (q1 &&& (9223372036854775807 : Int64))), .second, .val (.long (q2 &&& (9223372036854775807 : Int64))), .second, .val (.long (q3 &&& (9223372036854775807 : Int64))), .second, .val (.long (q4 &&& (9223372036854775807 : Int64))), .second, .val (.int (f1 (p6 &&& (3 : Int32)) (2 : Int32))), .val (.int (f1 ((XT.ushr p6 (2 : Int32)) &&& (3 : Int32)) (2 : Int32))), .val (.long (f0_0 q1 q2 q3 q4 q5 p6)), .second, .val (.long (f0_1 q1 q2 q3 q4 q5 p6)), .second, .val (.long (f0_2 q1 q2 q3 q4 q5 p6)), .second, .val (.long (f0_3 q1 q2 q3 q4 q5 p6)), .second, .val (.ref o7), .val (.ref o10), .unset] [(.long (f0_1 q1 q2 q3 q4 q5 p6))])) _
                          refine XT.lload X12.here hx rfl (hb hby at_202) rfl ?_
                          show Steps p.tables e below (T12.setTop (mkF m 204 #[.val (.long q1), .second, .val (.long q2), .second, .val (.long q3), .second, .val (.long q4), .second, .val (.long q5), .second, .val (.int p6), .val (.long (q1 &&& (9223372036854775807 : Int64))), .second, .val (.long (q2 &&& (9223372036854775807 : Int64))), .second, .val (.long (q3 &&& (9223372036854775807 : Int64))), .second, .val (.long (q4 &&& (9223372036854775807 : Int64))), .second, .val (.int (f1 (p6 &&& (3 : Int32)) (2 : Int32))), .val (.int (f1 ((XT.ushr p6 (2 : Int32)) &&& (3 : Int32)) (2 : Int32))), .val (.long (f0_0 q1 q2 q3 q4 q5 p6)), .second, .val (.long (f0_1 q1 q2 q3 q4 q5 p6)), .second, .val (.long (f0_2 q1 q2 q3 q4 q5 p6)), .second, .val (.long (f0_3 q1 q2 q3 q4 q5 p6)), .second, .val (.ref o7), .val (.ref o10), .unset] [(.long (f0_3 q1 q2 q3 q4 q5 p6)), (.long (f0_1 q1 q2 q3 q4 q5 p6))])) _
                          refine XT.lcmp X12.here hx rfl (hb hby at_204) rfl ?_
                          show Steps p.tables e below (T12.setTop (mkF m 205 #[.val (.long q1), .second, .val (.long q2), .second, .val (.long q3), .second, .val (.long q4), .second, .val (.long q5), .second, .val (.int p6), .val (.long (q1 &&& (9223372036854775807 : Int64))), .second, .val (.long (q2 &&& (9223372036854775807 : Int64))), .second, .val (.long (q3 &&& (9223372036854775807 : Int64))), .second, .val (.long (q4 &&& (9223372036854775807 : Int64))), .second, .val (.int (f1 (p6 &&& (3 : Int32)) (2 : Int32))), .val (.int (f1 ((XT.ushr p6 (2 : Int32)) &&& (3 : Int32)) (2 : Int32))), .val (.long (f0_0 q1 q2 q3 q4 q5 p6)), .second, .val (.long (f0_1 q1 q2 q3 q4 q5 p6)), .second, .val (.long (f0_2 q1 q2 q3 q4 q5 p6)), .second, .val (.long (f0_3 q1 q2 q3 q4 q5 p6)), .second, .val (.ref o7), .val (.ref o10), .unset] [(.int (XT.cmpL (f0_1 q1 q2 q3 q4 q5 p6) (f0_3 q1 q2 q3 q4 q5 p6)))])) _
                          refine st24 _ ?_
                          exact k
                      rw [show (f0_12 q1 q2 q3 q4 q5 p6) = (f0_11 q1 q2 q3 q4 q5 p6) from if_neg h21] at k
                      show Steps p.tables e below (T12.setTop (mkF m 191 #[.val (.long q1), .second, .val (.long q2), .second, .val (.long q3), .second, .val (.long q4), .second, .val (.long q5), .second, .val (.int p6), .val (.long (q1 &&& (9223372036854775807 : Int64))), .second, .val (.long (q2 &&& (9223372036854775807 : Int64))), .second, .val (.long (q3 &&& (9223372036854775807 : Int64))), .second, .val (.long (q4 &&& (9223372036854775807 : Int64))), .second, .val (.int (f1 (p6 &&& (3 : Int32)) (2 : Int32))), .val (.int (f1 ((XT.ushr p6 (2 : Int32)) &&& (3 : Int32)) (2 : Int32))), .val (.long (f0_0 q1 q2 q3 q4 q5 p6)), .second, .val (.long (f0_1 q1 q2 q3 q4 q5 p6)), .second, .val (.long (f0_2 q1 q2 q3 q4 q5 p6)), .second, .val (.long (f0_3 q1 q2 q3 q4 q5 p6)), .second, .val (.ref o7), .val (.ref o10), .unset] [(.int (XT.cmpL (f0_0 q1 q2 q3 q4 q5 p6) (f0_2 q1 q2 q3 q4 q5 p6)))])) _
                      refine XS.ifNo X12.here hx rfl (hb hby at_191) rfl ((if0 _ _).trans (flt (mt (own_cl _ _).mp h21)).1) ?_
                      show Steps p.tables e below (T12.setTop (mkF m 194 #[.val (.long q1), .second, .val (.long q2), .second, .val (.long q3), .second, .val (.long q4), .second, .val (.long q5), .second, .val (.int p6), .val (.long (q1 &&& (9223372036854775807 : Int64))), .second, .val (.long (q2 &&& (9223372036854775807 : Int64))), .second, .val (.long (q3 &&& (9223372036854775807 : Int64))), .second, .val (.long (q4 &&& (9223372036854775807 : Int64))), .second, .val (.int (f1 (p6 &&& (3 : Int32)) (2 : Int32))), .val (.int (f1 ((XT.ushr p6 (2 : Int32)) &&& (3 : Int32)) (2 : Int32))), .val (.long (f0_0 q1 q2 q3 q4 q5 p6)), .second, .val (.long (f0_1 q1 q2 q3 q4 q5 p6)), .second, .val (.long (f0_2 q1 q2 q3 q4 q5 p6)), .second, .val (.long (f0_3 q1 q2 q3 q4 q5 p6)), .second, .val (.ref o7), .val (.ref o10), .unset] [])) _
                      refine XS.iload X12.here hx rfl (hb hby at_194) rfl ?_
                      show Steps p.tables e below (T12.setTop (mkF m 196 #[.val (.long q1), .second, .val (.long q2), .second, .val (.long q3), .second, .val (.long q4), .second, .val (.long q5), .second, .val (.int p6), .val (.long (q1 &&& (9223372036854775807 : Int64))), .second, .val (.long (q2 &&& (9223372036854775807 : Int64))), .second, .val (.long (q3 &&& (9223372036854775807 : Int64))), .second, .val (.long (q4 &&& (9223372036854775807 : Int64))), .second, .val (.int (f1 (p6 &&& (3 : Int32)) (2 : Int32))), .val (.int (f1 ((XT.ushr p6 (2 : Int32)) &&& (3 : Int32)) (2 : Int32))), .val (.long (f0_0 q1 q2 q3 q4 q5 p6)), .second, .val (.long (f0_1 q1 q2 q3 q4 q5 p6)), .second, .val (.long (f0_2 q1 q2 q3 q4 q5 p6)), .second, .val (.long (f0_3 q1 q2 q3 q4 q5 p6)), .second, .val (.ref o7), .val (.ref o10), .unset] [(.int (f1 (p6 &&& (3 : Int32)) (2 : Int32)))])) _
                      refine XS.iconst X12.here hx rfl (hb hby at_196) ?_
                      show Steps p.tables e below (T12.setTop (mkF m 197 #[.val (.long q1), .second, .val (.long q2), .second, .val (.long q3), .second, .val (.long q4), .second, .val (.long q5), .second, .val (.int p6), .val (.long (q1 &&& (9223372036854775807 : Int64))), .second, .val (.long (q2 &&& (9223372036854775807 : Int64))), .second, .val (.long (q3 &&& (9223372036854775807 : Int64))), .second, .val (.long (q4 &&& (9223372036854775807 : Int64))), .second, .val (.int (f1 (p6 &&& (3 : Int32)) (2 : Int32))), .val (.int (f1 ((XT.ushr p6 (2 : Int32)) &&& (3 : Int32)) (2 : Int32))), .val (.long (f0_0 q1 q2 q3 q4 q5 p6)), .second, .val (.long (f0_1 q1 q2 q3 q4 q5 p6)), .second, .val (.long (f0_2 q1 q2 q3 q4 q5 p6)), .second, .val (.long (f0_3 q1 q2 q3 q4 q5 p6)), .second, .val (.ref o7), .val (.ref o10), .unset] [(.int (2 : Int32)), (.int (f1 (p6 &&& (3 : Int32)) (2 : Int32)))])) _
                      refine st25 _ ?_
                      exact k
                  rw [show (f0_13 q1 q2 q3 q4 q5 p6) = (f0_12 q1 q2 q3 q4 q5 p6) from if_neg h16] at k
                  show Steps p.tables e below (T12.setTop (mkF m 183 #[.val (.long q1), .second, .val (.long q2), .second, .val (.long q3), .second, .val (.long q4), .second, .val (.long q5), .second, .val (.int p6), .val (.long (q1 &&& (9223372036854775807 : Int64))), .second, .val (.long (q2 &&& (9223372036854775807 : Int64))), .second, .val (.long (q3 &&& (9223372036854775807 : Int64))), .second, .val (.long (q4 &&& (9223372036854775807 : Int64))), .second, .val (.int (f1 (p6 &&& (3 : Int32)) (2 : Int32))), .val (.int (f1 ((XT.ushr p6 (2 : Int32)) &&& (3 : Int32)) (2 : Int32))), .val (.long (f0_0 q1 q2 q3 q4 q5 p6)), .second, .val (.long (f0_1 q1 q2 q3 q4 q5 p6)), .second, .val (.long (f0_2 q1 q2 q3 q4 q5 p6)), .second, .val (.long (f0_3 q1 q2 q3 q4 q5 p6)), .second, .val (.ref o7), .val (.ref o10), .unset] [(.int (1 : Int32)), (.int (f1 (p6 &&& (3 : Int32)) (2 : Int32)))])) _
                  refine XS.icmpNo X12.here hx rfl (hb hby at_183) rfl (flt h16).1 ?_
                  show Steps p.tables e below (T12.setTop (mkF m 186 #[.val (.long q1), .second, .val (.long q2), .second, .val (.long q3), .second, .val (.long q4), .second, .val (.long q5), .second, .val (.int p6), .val (.long (q1 &&& (9223372036854775807 : Int64))), .second, .val (.long (q2 &&& (9223372036854775807 : Int64))), .second, .val (.long (q3 &&& (9223372036854775807 : Int64))), .second, .val (.long (q4 &&& (9223372036854775807 : Int64))), .second, .val (.int (f1 (p6 &&& (3 : Int32)) (2 : Int32))), .val (.int (f1 ((XT.ushr p6 (2 : Int32)) &&& (3 : Int32)) (2 : Int32))), .val (.long (f0_0 q1 q2 q3 q4 q5 p6)), .second, .val (.long (f0_1 q1 q2 q3 q4 q5 p6)), .second, .val (.long (f0_2 q1 q2 q3 q4 q5 p6)), .second, .val (.long (f0_3 q1 q2 q3 q4 q5 p6)), .second, .val (.ref o7), .val (.ref o10), .unset] [])) _
                  refine XT.lload X12.here hx rfl (hb hby at_186) rfl ?_
                  show Steps p.tables e below (T12.setTop (mkF m 188 #[.val (.long q1), .second, .val (.long q2), .second, .val (.long q3), .second, .val (.long q4), .second, .val (.long q5), .second, .val (.int p6), .val (.long (q1 &&& (9223372036854775807 : Int64))), .second, .val (.long (q2 &&& (9223372036854775807 : Int64))), .second, .val (.long (q3 &&& (9223372036854775807 : Int64))), .second, .val (.long (q4 &&& (9223372036854775807 : Int64))), .second, .val (.int (f1 (p6 &&& (3 : Int32)) (2 : Int32))), .val (.int (f1 ((XT.ushr p6 (2 : Int32)) &&& (3 : Int32)) (2 : Int32))), .val (.long (f0_0 q1 q2 q3 q4 q5 p6)), .second, .val (.long (f0_1 q1 q2 q3 q4 q5 p6)), .second, .val (.long (f0_2 q1 q2 q3 q4 q5 p6)), .second, .val (.long (f0_3 q1 q2 q3 q4 q5 p6)), .second, .val (.ref o7), .val (.ref o10), .unset] [(.long (f0_0 q1 q2 q3 q4 q5 p6))])) _
                  refine XT.lload X12.here hx rfl (hb hby at_188) rfl ?_
                  show Steps p.tables e below (T12.setTop (mkF m 190 #[.val (.long q1), .second, .val (.long q2), .second, .val (.long q3), .second, .val (.long q4), .second, .val (.long q5), .second, .val (.int p6), .val (.long (q1 &&& (9223372036854775807 : Int64))), .second, .val (.long (q2 &&& (9223372036854775807 : Int64))), .second, .val (.long (q3 &&& (9223372036854775807 : Int64))), .second, .val (.long (q4 &&& (9223372036854775807 : Int64))), .second, .val (.int (f1 (p6 &&& (3 : Int32)) (2 : Int32))), .val (.int (f1 ((XT.ushr p6 (2 : Int32)) &&& (3 : Int32)) (2 : Int32))), .val (.long (f0_0 q1 q2 q3 q4 q5 p6)), .second, .val (.long (f0_1 q1 q2 q3 q4 q5 p6)), .second, .val (.long (f0_2 q1 q2 q3 q4 q5 p6)), .second, .val (.long (f0_3 q1 q2 q3 q4 q5 p6)), .second, .val (.ref o7), .val (.ref o10), .unset] [(.long (f0_2 q1 q2 q3 q4 q5 p6)), (.long (f0_0 q1 q2 q3 q4 q5 p6))])) _
                  refine XT.lcmp X12.here hx rfl (hb hby at_190) rfl ?_
                  show Steps p.tables e below (T12.setTop (mkF m 191 #[.val (.long q1), .second, .val (.long q2), .second, .val (.long q3), .second, .val (.long q4), .second, .val (.long q5), .second, .val (.int p6), .val (.long (q1 &&& (9223372036854775807 : Int64))), .second, .val (.long (q2 &&& (9223372036854775807 : Int64))), .second, .val (.long (q3 &&& (9223372036854775807 : Int64))), .second, .val (.long (q4 &&& (9223372036854775807 : Int64))), .second, .val (.int (f1 (p6 &&& (3 : Int32)) (2 : Int32))), .val (.int (f1 ((XT.ushr p6 (2 : Int32)) &&& (3 : Int32)) (2 : Int32))), .val (.long (f0_0 q1 q2 q3 q4 q5 p6)), .second, .val (.long (f0_1 q1 q2 q3 q4 q5 p6)), .second, .val (.long (f0_2 q1 q2 q3 q4 q5 p6)), .second, .val (.long (f0_3 q1 q2 q3 q4 q5 p6)), .second, .val (.ref o7), .val (.ref o10), .unset] [(.int (XT.cmpL (f0_0 q1 q2 q3 q4 q5 p6) (f0_2 q1 q2 q3 q4 q5 p6)))])) _
                  refine st26 _ ?_
                  exact k
              rw [show (f0_14 q1 q2 q3 q4 q5 p6) = (f0_13 q1 q2 q3 q4 q5 p6) from if_neg h15] at k
              show Steps p.tables e below (T12.setTop (mkF m 177 #[.val (.long q1), .second, .val (.long q2), .second, .val (.long q3), .second, .val (.long q4), .second, .val (.long q5), .second, .val (.int p6), .val (.long (q1 &&& (9223372036854775807 : Int64))), .second, .val (.long (q2 &&& (9223372036854775807 : Int64))), .second, .val (.long (q3 &&& (9223372036854775807 : Int64))), .second, .val (.long (q4 &&& (9223372036854775807 : Int64))), .second, .val (.int (f1 (p6 &&& (3 : Int32)) (2 : Int32))), .val (.int (f1 ((XT.ushr p6 (2 : Int32)) &&& (3 : Int32)) (2 : Int32))), .val (.long (f0_0 q1 q2 q3 q4 q5 p6)), .second, .val (.long (f0_1 q1 q2 q3 q4 q5 p6)), .second, .val (.long (f0_2 q1 q2 q3 q4 q5 p6)), .second, .val (.long (f0_3 q1 q2 q3 q4 q5 p6)), .second, .val (.ref o7), .val (.ref o10), .unset] [(.int (XT.cmpL (q3 &&& (9223372036854775807 : Int64)) (q4 &&& (9223372036854775807 : Int64))))])) _
              refine XS.ifNo X12.here hx rfl (hb hby at_177) rfl ((if0 _ _).trans (flt (mt (own_cl _ _).mp h15)).1) ?_
              show Steps p.tables e below (T12.setTop (mkF m 180 #[.val (.long q1), .second, .val (.long q2), .second, .val (.long q3), .second, .val (.long q4), .second, .val (.long q5), .second, .val (.int p6), .val (.long (q1 &&& (9223372036854775807 : Int64))), .second, .val (.long (q2 &&& (9223372036854775807 : Int64))), .second, .val (.long (q3 &&& (9223372036854775807 : Int64))), .second, .val (.long (q4 &&& (9223372036854775807 : Int64))), .second, .val (.int (f1 (p6 &&& (3 : Int32)) (2 : Int32))), .val (.int (f1 ((XT.ushr p6 (2 : Int32)) &&& (3 : Int32)) (2 : Int32))), .val (.long (f0_0 q1 q2 q3 q4 q5 p6)), .second, .val (.long (f0_1 q1 q2 q3 q4 q5 p6)), .second, .val (.long (f0_2 q1 q2 q3 q4 q5 p6)), .second, .val (.long (f0_3 q1 q2 q3 q4 q5 p6)), .second, .val (.ref o7), .val (.ref o10), .unset] [])) _
              refine XS.iload X12.here hx rfl (hb hby at_180) rfl ?_
              show Steps p.tables e below (T12.setTop (mkF m 182 #[.val (.long q1), .second, .val (.long q2), .second, .val (.long q3), .second, .val (.long q4), .second, .val (.long q5), .second, .val (.int p6), .val (.long (q1 &&& (9223372036854775807 : Int64))), .second, .val (.long (q2 &&& (9223372036854775807 : Int64))), .second, .val (.long (q3 &&& (9223372036854775807 : Int64))), .second, .val (.long (q4 &&& (9223372036854775807 : Int64))), .second, .val (.int (f1 (p6 &&& (3 : Int32)) (2 : Int32))), .val (.int (f1 ((XT.ushr p6 (2 : Int32)) &&& (3 : Int32)) (2 : Int32))), .val (.long (f0_0 q1 q2 q3 q4 q5 p6)), .second, .val (.long (f0_1 q1 q2 q3 q4 q5 p6)), .second, .val (.long (f0_2 q1 q2 q3 q4 q5 p6)), .second, .val (.long (f0_3 q1 q2 q3 q4 q5 p6)), .second, .val (.ref o7), .val (.ref o10), .unset] [(.int (f1 (p6 &&& (3 : Int32)) (2 : Int32)))])) _
              refine XS.iconst X12.here hx rfl (hb hby at_182) ?_
              show Steps p.tables e below (T12.setTop (mkF m 183 #[.val (.long q1), .second, .val (.long q2), .second, .val (.long q3), .second, .val (.long q4), .second, .val (.long q5), .second, .val (.int p6), .val (.long (q1 &&& (9223372036854775807 : Int64))), .second, .val (.long (q2 &&& (9223372036854775807 : Int64))), .second, .val (.long (q3 &&& (9223372036854775807 : Int64))), .second, .val (.long (q4 &&& (9223372036854775807 : Int64))), .second, .val (.int (f1 (p6 &&& (3 : Int32)) (2 : Int32))), .val (.int (f1 ((XT.ushr p6 (2 : Int32)) &&& (3 : Int32)) (2 : Int32))), .val (.long (f0_0 q1 q2 q3 q4 q5 p6)), .second, .val (.long (f0_1 q1 q2 q3 q4 q5 p6)), .second, .val (.long (f0_2 q1 q2 q3 q4 q5 p6)), .second, .val (.long (f0_3 q1 q2 q3 q4 q5 p6)), .second, .val (.ref o7), .val (.ref o10), .unset] [(.int (1 : Int32)), (.int (f1 (p6 &&& (3 : Int32)) (2 : Int32)))])) _
              refine st27 _ ?_
              exact k
          rw [show (f0_15 q1 q2 q3 q4 q5 p6) = (f0_14 q1 q2 q3 q4 q5 p6) from if_neg h14] at k
          show Steps p.tables e below (T12.setTop (mkF m 169 #[.val (.long q1), .second, .val (.long q2), .second, .val (.long q3), .second, .val (.long q4), .second, .val (.long q5), .second, .val (.int p6), .val (.long (q1 &&& (9223372036854775807 : Int64))), .second, .val (.long (q2 &&& (9223372036854775807 : Int64))), .second, .val (.long (q3 &&& (9223372036854775807 : Int64))), .second, .val (.long (q4 &&& (9223372036854775807 : Int64))), .second, .val (.int (f1 (p6 &&& (3 : Int32)) (2 : Int32))), .val (.int (f1 ((XT.ushr p6 (2 : Int32)) &&& (3 : Int32)) (2 : Int32))), .val (.long (f0_0 q1 q2 q3 q4 q5 p6)), .second, .val (.long (f0_1 q1 q2 q3 q4 q5 p6)), .second, .val (.long (f0_2 q1 q2 q3 q4 q5 p6)), .second, .val (.long (f0_3 q1 q2 q3 q4 q5 p6)), .second, .val (.ref o7), .val (.ref o10), .unset] [(.int (XT.cmpL (q1 &&& (9223372036854775807 : Int64)) (q2 &&& (9223372036854775807 : Int64))))])) _
          refine XS.ifNo X12.here hx rfl (hb hby at_169) rfl ((if0 _ _).trans (flt (mt (own_cl _ _).mp h14)).1) ?_
          show Steps p.tables e below (T12.setTop (mkF m 172 #[.val (.long q1), .second, .val (.long q2), .second, .val (.long q3), .second, .val (.long q4), .second, .val (.long q5), .second, .val (.int p6), .val (.long (q1 &&& (9223372036854775807 : Int64))), .second, .val (.long (q2 &&& (9223372036854775807 : Int64))), .second, .val (.long (q3 &&& (9223372036854775807 : Int64))), .second, .val (.long (q4 &&& (9223372036854775807 : Int64))), .second, .val (.int (f1 (p6 &&& (3 : Int32)) (2 : Int32))), .val (.int (f1 ((XT.ushr p6 (2 : Int32)) &&& (3 : Int32)) (2 : Int32))), .val (.long (f0_0 q1 q2 q3 q4 q5 p6)), .second, .val (.long (f0_1 q1 q2 q3 q4 q5 p6)), .second, .val (.long (f0_2 q1 q2 q3 q4 q5 p6)), .second, .val (.long (f0_3 q1 q2 q3 q4 q5 p6)), .second, .val (.ref o7), .val (.ref o10), .unset] [])) _
          refine XT.lload X12.here hx rfl (hb hby at_172) rfl ?_
          show Steps p.tables e below (T12.setTop (mkF m 174 #[.val (.long q1), .second, .val (.long q2), .second, .val (.long q3), .second, .val (.long q4), .second, .val (.long q5), .second, .val (.int p6), .val (.long (q1 &&& (9223372036854775807 : Int64))), .second, .val (.long (q2 &&& (9223372036854775807 : Int64))), .second, .val (.long (q3 &&& (9223372036854775807 : Int64))), .second, .val (.long (q4 &&& (9223372036854775807 : Int64))), .second, .val (.int (f1 (p6 &&& (3 : Int32)) (2 : Int32))), .val (.int (f1 ((XT.ushr p6 (2 : Int32)) &&& (3 : Int32)) (2 : Int32))), .val (.long (f0_0 q1 q2 q3 q4 q5 p6)), .second, .val (.long (f0_1 q1 q2 q3 q4 q5 p6)), .second, .val (.long (f0_2 q1 q2 q3 q4 q5 p6)), .second, .val (.long (f0_3 q1 q2 q3 q4 q5 p6)), .second, .val (.ref o7), .val (.ref o10), .unset] [(.long (q3 &&& (9223372036854775807 : Int64)))])) _
          refine XT.lload X12.here hx rfl (hb hby at_174) rfl ?_
          show Steps p.tables e below (T12.setTop (mkF m 176 #[.val (.long q1), .second, .val (.long q2), .second, .val (.long q3), .second, .val (.long q4), .second, .val (.long q5), .second, .val (.int p6), .val (.long (q1 &&& (9223372036854775807 : Int64))), .second, .val (.long (q2 &&& (9223372036854775807 : Int64))), .second, .val (.long (q3 &&& (9223372036854775807 : Int64))), .second, .val (.long (q4 &&& (9223372036854775807 : Int64))), .second, .val (.int (f1 (p6 &&& (3 : Int32)) (2 : Int32))), .val (.int (f1 ((XT.ushr p6 (2 : Int32)) &&& (3 : Int32)) (2 : Int32))), .val (.long (f0_0 q1 q2 q3 q4 q5 p6)), .second, .val (.long (f0_1 q1 q2 q3 q4 q5 p6)), .second, .val (.long (f0_2 q1 q2 q3 q4 q5 p6)), .second, .val (.long (f0_3 q1 q2 q3 q4 q5 p6)), .second, .val (.ref o7), .val (.ref o10), .unset] [(.long (q4 &&& (9223372036854775807 : Int64))), (.long (q3 &&& (9223372036854775807 : Int64)))])) _
          refine XT.lcmp X12.here hx rfl (hb hby at_176) rfl ?_
          show Steps p.tables e below (T12.setTop (mkF m 177 #[.val (.long q1), .second, .val (.long q2), .second, .val (.long q3), .second, .val (.long q4), .second, .val (.long q5), .second, .val (.int p6), .val (.long (q1 &&& (9223372036854775807 : Int64))), .second, .val (.long (q2 &&& (9223372036854775807 : Int64))), .second, .val (.long (q3 &&& (9223372036854775807 : Int64))), .second, .val (.long (q4 &&& (9223372036854775807 : Int64))), .second, .val (.int (f1 (p6 &&& (3 : Int32)) (2 : Int32))), .val (.int (f1 ((XT.ushr p6 (2 : Int32)) &&& (3 : Int32)) (2 : Int32))), .val (.long (f0_0 q1 q2 q3 q4 q5 p6)), .second, .val (.long (f0_1 q1 q2 q3 q4 q5 p6)), .second, .val (.long (f0_2 q1 q2 q3 q4 q5 p6)), .second, .val (.long (f0_3 q1 q2 q3 q4 q5 p6)), .second, .val (.ref o7), .val (.ref o10), .unset] [(.int (XT.cmpL (q3 &&& (9223372036854775807 : Int64)) (q4 &&& (9223372036854775807 : Int64))))])) _
          refine st28 _ ?_
          exact k
      rw [show (f0_16 q1 q2 q3 q4 q5 p6) = (f0_15 q1 q2 q3 q4 q5 p6) from if_pos h13] at k
      show Steps p.tables e below (T12.setTop (mkF m 161 #[.val (.long q1), .second, .val (.long q2), .second, .val (.long q3), .second, .val (.long q4), .second, .val (.long q5), .second, .val (.int p6), .val (.long (q1 &&& (9223372036854775807 : Int64))), .second, .val (.long (q2 &&& (9223372036854775807 : Int64))), .second, .val (.long (q3 &&& (9223372036854775807 : Int64))), .second, .val (.long (q4 &&& (9223372036854775807 : Int64))), .second, .val (.int (f1 (p6 &&& (3 : Int32)) (2 : Int32))), .val (.int (f1 ((XT.ushr p6 (2 : Int32)) &&& (3 : Int32)) (2 : Int32))), .val (.long (f0_0 q1 q2 q3 q4 q5 p6)), .second, .val (.long (f0_1 q1 q2 q3 q4 q5 p6)), .second, .val (.long (f0_2 q1 q2 q3 q4 q5 p6)), .second, .val (.long (f0_3 q1 q2 q3 q4 q5 p6)), .second, .val (.ref o7), .val (.ref o10), .unset] [(.int (f1 ((XT.ushr p6 (2 : Int32)) &&& (3 : Int32)) (2 : Int32))), (.int (f1 (p6 &&& (3 : Int32)) (2 : Int32)))])) _
      refine XS.icmpNo X12.here hx rfl (hb hby at_161) rfl (teq h13).2 ?_
      show Steps p.tables e below (T12.setTop (mkF m 164 #[.val (.long q1), .second, .val (.long q2), .second, .val (.long q3), .second, .val (.long q4), .second, .val (.long q5), .second, .val (.int p6), .val (.long (q1 &&& (9223372036854775807 : Int64))), .second, .val (.long (q2 &&& (9223372036854775807 : Int64))), .second, .val (.long (q3 &&& (9223372036854775807 : Int64))), .second, .val (.long (q4 &&& (9223372036854775807 : Int64))), .second, .val (.int (f1 (p6 &&& (3 : Int32)) (2 : Int32))), .val (.int (f1 ((XT.ushr p6 (2 : Int32)) &&& (3 : Int32)) (2 : Int32))), .val (.long (f0_0 q1 q2 q3 q4 q5 p6)), .second, .val (.long (f0_1 q1 q2 q3 q4 q5 p6)), .second, .val (.long (f0_2 q1 q2 q3 q4 q5 p6)), .second, .val (.long (f0_3 q1 q2 q3 q4 q5 p6)), .second, .val (.ref o7), .val (.ref o10), .unset] [])) _
      refine XT.lload X12.here hx rfl (hb hby at_164) rfl ?_
      show Steps p.tables e below (T12.setTop (mkF m 166 #[.val (.long q1), .second, .val (.long q2), .second, .val (.long q3), .second, .val (.long q4), .second, .val (.long q5), .second, .val (.int p6), .val (.long (q1 &&& (9223372036854775807 : Int64))), .second, .val (.long (q2 &&& (9223372036854775807 : Int64))), .second, .val (.long (q3 &&& (9223372036854775807 : Int64))), .second, .val (.long (q4 &&& (9223372036854775807 : Int64))), .second, .val (.int (f1 (p6 &&& (3 : Int32)) (2 : Int32))), .val (.int (f1 ((XT.ushr p6 (2 : Int32)) &&& (3 : Int32)) (2 : Int32))), .val (.long (f0_0 q1 q2 q3 q4 q5 p6)), .second, .val (.long (f0_1 q1 q2 q3 q4 q5 p6)), .second, .val (.long (f0_2 q1 q2 q3 q4 q5 p6)), .second, .val (.long (f0_3 q1 q2 q3 q4 q5 p6)), .second, .val (.ref o7), .val (.ref o10), .unset] [(.long (q1 &&& (9223372036854775807 : Int64)))])) _
      refine XT.lload X12.here hx rfl (hb hby at_166) rfl ?_
      show Steps p.tables e below (T12.setTop (mkF m 168 #[.val (.long q1), .second, .val (.long q2), .second, .val (.long q3), .second, .val (.long q4), .second, .val (.long q5), .second, .val (.int p6), .val (.long (q1 &&& (9223372036854775807 : Int64))), .second, .val (.long (q2 &&& (9223372036854775807 : Int64))), .second, .val (.long (q3 &&& (9223372036854775807 : Int64))), .second, .val (.long (q4 &&& (9223372036854775807 : Int64))), .second, .val (.int (f1 (p6 &&& (3 : Int32)) (2 : Int32))), .val (.int (f1 ((XT.ushr p6 (2 : Int32)) &&& (3 : Int32)) (2 : Int32))), .val (.long (f0_0 q1 q2 q3 q4 q5 p6)), .second, .val (.long (f0_1 q1 q2 q3 q4 q5 p6)), .second, .val (.long (f0_2 q1 q2 q3 q4 q5 p6)), .second, .val (.long (f0_3 q1 q2 q3 q4 q5 p6)), .second, .val (.ref o7), .val (.ref o10), .unset] [(.long (q2 &&& (9223372036854775807 : Int64))), (.long (q1 &&& (9223372036854775807 : Int64)))])) _
      refine XT.lcmp X12.here hx rfl (hb hby at_168) rfl ?_
      show Steps p.tables e below (T12.setTop (mkF m 169 #[.val (.long q1), .second, .val (.long q2), .second, .val (.long q3), .second, .val (.long q4), .second, .val (.long q5), .second, .val (.int p6), .val (.long (q1 &&& (9223372036854775807 : Int64))), .second, .val (.long (q2 &&& (9223372036854775807 : Int64))), .second, .val (.long (q3 &&& (9223372036854775807 : Int64))), .second, .val (.long (q4 &&& (9223372036854775807 : Int64))), .second, .val (.int (f1 (p6 &&& (3 : Int32)) (2 : Int32))), .val (.int (f1 ((XT.ushr p6 (2 : Int32)) &&& (3 : Int32)) (2 : Int32))), .val (.long (f0_0 q1 q2 q3 q4 q5 p6)), .second, .val (.long (f0_1 q1 q2 q3 q4 q5 p6)), .second, .val (.long (f0_2 q1 q2 q3 q4 q5 p6)), .second, .val (.long (f0_3 q1 q2 q3 q4 q5 p6)), .second, .val (.ref o7), .val (.ref o10), .unset] [(.int (XT.cmpL (q1 &&& (9223372036854775807 : Int64)) (q2 &&& (9223372036854775807 : Int64))))])) _
      refine st29 _ ?_
      exact k
    · rw [show (f0_16 q1 q2 q3 q4 q5 p6) = (0 : Int32) from if_neg h13] at k
      show Steps p.tables e below (T12.setTop (mkF m 161 #[.val (.long q1), .second, .val (.long q2), .second, .val (.long q3), .second, .val (.long q4), .second, .val (.long q5), .second, .val (.int p6), .val (.long (q1 &&& (9223372036854775807 : Int64))), .second, .val (.long (q2 &&& (9223372036854775807 : Int64))), .second, .val (.long (q3 &&& (9223372036854775807 : Int64))), .second, .val (.long (q4 &&& (9223372036854775807 : Int64))), .second, .val (.int (f1 (p6 &&& (3 : Int32)) (2 : Int32))), .val (.int (f1 ((XT.ushr p6 (2 : Int32)) &&& (3 : Int32)) (2 : Int32))), .val (.long (f0_0 q1 q2 q3 q4 q5 p6)), .second, .val (.long (f0_1 q1 q2 q3 q4 q5 p6)), .second, .val (.long (f0_2 q1 q2 q3 q4 q5 p6)), .second, .val (.long (f0_3 q1 q2 q3 q4 q5 p6)), .second, .val (.ref o7), .val (.ref o10), .unset] [(.int (f1 ((XT.ushr p6 (2 : Int32)) &&& (3 : Int32)) (2 : Int32))), (.int (f1 (p6 &&& (3 : Int32)) (2 : Int32)))])) _
      refine XS.icmpYes X12.here hx rfl (pc0 := 161) (pc' := 212) rfl (hb hby at_161) rfl (feq h13).2 (by decide) (by decide) ?_
      show Steps p.tables e below (T12.setTop (mkF m 212 #[.val (.long q1), .second, .val (.long q2), .second, .val (.long q3), .second, .val (.long q4), .second, .val (.long q5), .second, .val (.int p6), .val (.long (q1 &&& (9223372036854775807 : Int64))), .second, .val (.long (q2 &&& (9223372036854775807 : Int64))), .second, .val (.long (q3 &&& (9223372036854775807 : Int64))), .second, .val (.long (q4 &&& (9223372036854775807 : Int64))), .second, .val (.int (f1 (p6 &&& (3 : Int32)) (2 : Int32))), .val (.int (f1 ((XT.ushr p6 (2 : Int32)) &&& (3 : Int32)) (2 : Int32))), .val (.long (f0_0 q1 q2 q3 q4 q5 p6)), .second, .val (.long (f0_1 q1 q2 q3 q4 q5 p6)), .second, .val (.long (f0_2 q1 q2 q3 q4 q5 p6)), .second, .val (.long (f0_3 q1 q2 q3 q4 q5 p6)), .second, .val (.ref o7), .val (.ref o10), .unset] [])) _
      refine XS.iconst X12.here hx rfl (hb hby at_212) ?_
      exact k
  obtain ⟨cq31, kq31, q31a, q31b, q31c⟩ := isOf hZ rfl u12_0
  obtain ⟨_, _, ⟨T31, L31, k31, n31⟩, -, X31, ⟨Lc31, hQ31, l31, y31, z31⟩, st31⟩ := X12.virtualBack hx (y := (⟨"com/example/stratum/stratum/search/Statistics", "covers", "(Lcom/example/stratum/stratum/search/Statistics;)Z"⟩ : MethodName)) (z := (⟨"com/example/stratum/stratum/search/Statistics", "covers", "(Lcom/example/stratum/stratum/search/Statistics;)Z"⟩ : MethodName)) hown (mvT hZ (hw _ (List.mem_of_getElem? (i := 38) rfl))) (mvT hZ (hw _ (List.mem_of_getElem? (i := 39) rfl))) (notFace_of_selects (args := #[]) (mvT hZ (hw _ (List.mem_of_getElem? (i := 41) rfl)))) (mvT hZ (hw _ (List.mem_of_getElem? (i := 41) rfl))) (mvT hZ (hw _ (List.mem_of_getElem? (i := 40) rfl))) (by decide) (backOf (W := 0) (rm6 l Z a0 hw [] o7 o10 t19 t112 k_t19 k_t112 (f0_4 q1 q2 q3 q4 q5 p6) (f0_7 q1 q2 q3 q4 q5 p6) (q1 &&& (9223372036854775807 : Int64)) (q3 &&& (9223372036854775807 : Int64)) (q2 &&& (9223372036854775807 : Int64)) (q4 &&& (9223372036854775807 : Int64)) (f0_5 q1 q2 q3 q4 q5 p6) (f0_6 q1 q2 q3 q4 q5 p6) (f0_8 q1 q2 q3 q4 q5 p6) (f0_9 q1 q2 q3 q4 q5 p6) T12.heap n0 Z12 u12_5 u12_6 u12_7 c12_3 c12_4 c12_5 u12_3 c12_0 (own_pk3 _ _ _)) hZ (hw _ (List.mem_of_getElem? (i := 42) rfl)) (hw _ (List.mem_of_getElem? (i := 11) rfl)) (by decide) (by decide)) q31a q31c (g := (mkF m 219 #[.val (.long q1), .second, .val (.long q2), .second, .val (.long q3), .second, .val (.long q4), .second, .val (.long q5), .second, .val (.int p6), .val (.long (q1 &&& (9223372036854775807 : Int64))), .second, .val (.long (q2 &&& (9223372036854775807 : Int64))), .second, .val (.long (q3 &&& (9223372036854775807 : Int64))), .second, .val (.long (q4 &&& (9223372036854775807 : Int64))), .second, .val (.int (f1 (p6 &&& (3 : Int32)) (2 : Int32))), .val (.int (f1 ((XT.ushr p6 (2 : Int32)) &&& (3 : Int32)) (2 : Int32))), .val (.long (f0_0 q1 q2 q3 q4 q5 p6)), .second, .val (.long (f0_1 q1 q2 q3 q4 q5 p6)), .second, .val (.long (f0_2 q1 q2 q3 q4 q5 p6)), .second, .val (.long (f0_3 q1 q2 q3 q4 q5 p6)), .second, .val (.ref o7), .val (.ref o10), .val (.int (f0_16 q1 q2 q3 q4 q5 p6))] [(.ref o10), (.ref o7)])) rfl (by rw [hml]; rfl) (Steps.refl _) (argsL := [(.ref o10)]) (rest := []) (lenOf pd_4 rfl) rfl (by show 2 * 0 + _ ≤ _; exact Nat.le_of_eq rfl) (hb hby at_219) (fun _ _ => ⟨rfl, rfl, (by decide : 6 + 0 ≤ _), (by decide : 14 + 0 ≤ _)⟩)
  dsimp only [Pt.U, Pt.locs, Pt.cells, Pt.slots] at X31 l31 y31 z31 st31 hQ31
  subst l31 y31 z31
  obtain ⟨rfl, N31q, e31⟩ := hQ31
  have N31 := Fr.app N12 N31q
  have st33 : ∀ t, Steps p.tables e below (T31.setTop (mkF m 232 #[.val (.long q1), .second, .val (.long q2), .second, .val (.long q3), .second, .val (.long q4), .second, .val (.long q5), .second, .val (.int p6), .val (.long (q1 &&& (9223372036854775807 : Int64))), .second, .val (.long (q2 &&& (9223372036854775807 : Int64))), .second, .val (.long (q3 &&& (9223372036854775807 : Int64))), .second, .val (.long (q4 &&& (9223372036854775807 : Int64))), .second, .val (.int (f1 (p6 &&& (3 : Int32)) (2 : Int32))), .val (.int (f1 ((XT.ushr p6 (2 : Int32)) &&& (3 : Int32)) (2 : Int32))), .val (.long (f0_0 q1 q2 q3 q4 q5 p6)), .second, .val (.long (f0_1 q1 q2 q3 q4 q5 p6)), .second, .val (.long (f0_2 q1 q2 q3 q4 q5 p6)), .second, .val (.long (f0_3 q1 q2 q3 q4 q5 p6)), .second, .val (.ref o7), .val (.ref o10), .val (.int (f0_16 q1 q2 q3 q4 q5 p6))] [(.int (f0_18 q1 q2 q3 q4 q5 p6))])) t → Steps p.tables e below (T31.setTop (mkF m 224 #[.val (.long q1), .second, .val (.long q2), .second, .val (.long q3), .second, .val (.long q4), .second, .val (.long q5), .second, .val (.int p6), .val (.long (q1 &&& (9223372036854775807 : Int64))), .second, .val (.long (q2 &&& (9223372036854775807 : Int64))), .second, .val (.long (q3 &&& (9223372036854775807 : Int64))), .second, .val (.long (q4 &&& (9223372036854775807 : Int64))), .second, .val (.int (f1 (p6 &&& (3 : Int32)) (2 : Int32))), .val (.int (f1 ((XT.ushr p6 (2 : Int32)) &&& (3 : Int32)) (2 : Int32))), .val (.long (f0_0 q1 q2 q3 q4 q5 p6)), .second, .val (.long (f0_1 q1 q2 q3 q4 q5 p6)), .second, .val (.long (f0_2 q1 q2 q3 q4 q5 p6)), .second, .val (.long (f0_3 q1 q2 q3 q4 q5 p6)), .second, .val (.ref o7), .val (.ref o10), .val (.int (f0_16 q1 q2 q3 q4 q5 p6))] [(.int (f0_16 q1 q2 q3 q4 q5 p6)), (.int (f0_17 q1 q2 q3 q4 q5 p6))])) t := by
    intro t k
    by_cases h32 : (f0_17 q1 q2 q3 q4 q5 p6) = (f0_16 q1 q2 q3 q4 q5 p6)
    · rw [show (f0_18 q1 q2 q3 q4 q5 p6) = (1 : Int32) from if_pos h32] at k
      show Steps p.tables e below (T31.setTop (mkF m 224 #[.val (.long q1), .second, .val (.long q2), .second, .val (.long q3), .second, .val (.long q4), .second, .val (.long q5), .second, .val (.int p6), .val (.long (q1 &&& (9223372036854775807 : Int64))), .second, .val (.long (q2 &&& (9223372036854775807 : Int64))), .second, .val (.long (q3 &&& (9223372036854775807 : Int64))), .second, .val (.long (q4 &&& (9223372036854775807 : Int64))), .second, .val (.int (f1 (p6 &&& (3 : Int32)) (2 : Int32))), .val (.int (f1 ((XT.ushr p6 (2 : Int32)) &&& (3 : Int32)) (2 : Int32))), .val (.long (f0_0 q1 q2 q3 q4 q5 p6)), .second, .val (.long (f0_1 q1 q2 q3 q4 q5 p6)), .second, .val (.long (f0_2 q1 q2 q3 q4 q5 p6)), .second, .val (.long (f0_3 q1 q2 q3 q4 q5 p6)), .second, .val (.ref o7), .val (.ref o10), .val (.int (f0_16 q1 q2 q3 q4 q5 p6))] [(.int (f0_16 q1 q2 q3 q4 q5 p6)), (.int (f0_17 q1 q2 q3 q4 q5 p6))])) _
      refine XS.icmpNo X31.here hx rfl (hb hby at_224) rfl (teq h32).2 ?_
      show Steps p.tables e below (T31.setTop (mkF m 227 #[.val (.long q1), .second, .val (.long q2), .second, .val (.long q3), .second, .val (.long q4), .second, .val (.long q5), .second, .val (.int p6), .val (.long (q1 &&& (9223372036854775807 : Int64))), .second, .val (.long (q2 &&& (9223372036854775807 : Int64))), .second, .val (.long (q3 &&& (9223372036854775807 : Int64))), .second, .val (.long (q4 &&& (9223372036854775807 : Int64))), .second, .val (.int (f1 (p6 &&& (3 : Int32)) (2 : Int32))), .val (.int (f1 ((XT.ushr p6 (2 : Int32)) &&& (3 : Int32)) (2 : Int32))), .val (.long (f0_0 q1 q2 q3 q4 q5 p6)), .second, .val (.long (f0_1 q1 q2 q3 q4 q5 p6)), .second, .val (.long (f0_2 q1 q2 q3 q4 q5 p6)), .second, .val (.long (f0_3 q1 q2 q3 q4 q5 p6)), .second, .val (.ref o7), .val (.ref o10), .val (.int (f0_16 q1 q2 q3 q4 q5 p6))] [])) _
      refine XS.iconst X31.here hx rfl (hb hby at_227) ?_
      show Steps p.tables e below (T31.setTop (mkF m 228 #[.val (.long q1), .second, .val (.long q2), .second, .val (.long q3), .second, .val (.long q4), .second, .val (.long q5), .second, .val (.int p6), .val (.long (q1 &&& (9223372036854775807 : Int64))), .second, .val (.long (q2 &&& (9223372036854775807 : Int64))), .second, .val (.long (q3 &&& (9223372036854775807 : Int64))), .second, .val (.long (q4 &&& (9223372036854775807 : Int64))), .second, .val (.int (f1 (p6 &&& (3 : Int32)) (2 : Int32))), .val (.int (f1 ((XT.ushr p6 (2 : Int32)) &&& (3 : Int32)) (2 : Int32))), .val (.long (f0_0 q1 q2 q3 q4 q5 p6)), .second, .val (.long (f0_1 q1 q2 q3 q4 q5 p6)), .second, .val (.long (f0_2 q1 q2 q3 q4 q5 p6)), .second, .val (.long (f0_3 q1 q2 q3 q4 q5 p6)), .second, .val (.ref o7), .val (.ref o10), .val (.int (f0_16 q1 q2 q3 q4 q5 p6))] [(.int (1 : Int32))])) _
      refine XS.goto X31.here hx rfl (pc0 := 228) (pc' := 232) rfl (hb hby at_228) (by decide) (by decide) ?_
      exact k
    · rw [show (f0_18 q1 q2 q3 q4 q5 p6) = (0 : Int32) from if_neg h32] at k
      show Steps p.tables e below (T31.setTop (mkF m 224 #[.val (.long q1), .second, .val (.long q2), .second, .val (.long q3), .second, .val (.long q4), .second, .val (.long q5), .second, .val (.int p6), .val (.long (q1 &&& (9223372036854775807 : Int64))), .second, .val (.long (q2 &&& (9223372036854775807 : Int64))), .second, .val (.long (q3 &&& (9223372036854775807 : Int64))), .second, .val (.long (q4 &&& (9223372036854775807 : Int64))), .second, .val (.int (f1 (p6 &&& (3 : Int32)) (2 : Int32))), .val (.int (f1 ((XT.ushr p6 (2 : Int32)) &&& (3 : Int32)) (2 : Int32))), .val (.long (f0_0 q1 q2 q3 q4 q5 p6)), .second, .val (.long (f0_1 q1 q2 q3 q4 q5 p6)), .second, .val (.long (f0_2 q1 q2 q3 q4 q5 p6)), .second, .val (.long (f0_3 q1 q2 q3 q4 q5 p6)), .second, .val (.ref o7), .val (.ref o10), .val (.int (f0_16 q1 q2 q3 q4 q5 p6))] [(.int (f0_16 q1 q2 q3 q4 q5 p6)), (.int (f0_17 q1 q2 q3 q4 q5 p6))])) _
      refine XS.icmpYes X31.here hx rfl (pc0 := 224) (pc' := 231) rfl (hb hby at_224) rfl (feq h32).2 (by decide) (by decide) ?_
      show Steps p.tables e below (T31.setTop (mkF m 231 #[.val (.long q1), .second, .val (.long q2), .second, .val (.long q3), .second, .val (.long q4), .second, .val (.long q5), .second, .val (.int p6), .val (.long (q1 &&& (9223372036854775807 : Int64))), .second, .val (.long (q2 &&& (9223372036854775807 : Int64))), .second, .val (.long (q3 &&& (9223372036854775807 : Int64))), .second, .val (.long (q4 &&& (9223372036854775807 : Int64))), .second, .val (.int (f1 (p6 &&& (3 : Int32)) (2 : Int32))), .val (.int (f1 ((XT.ushr p6 (2 : Int32)) &&& (3 : Int32)) (2 : Int32))), .val (.long (f0_0 q1 q2 q3 q4 q5 p6)), .second, .val (.long (f0_1 q1 q2 q3 q4 q5 p6)), .second, .val (.long (f0_2 q1 q2 q3 q4 q5 p6)), .second, .val (.long (f0_3 q1 q2 q3 q4 q5 p6)), .second, .val (.ref o7), .val (.ref o10), .val (.int (f0_16 q1 q2 q3 q4 q5 p6))] [])) _
      refine XS.iconst X31.here hx rfl (hb hby at_231) ?_
      exact k
  obtain ⟨fs, hr, hrun, hended, hW, hsame⟩ := X31.leave (v := some (.int ((f0_18 q1 q2 q3 q4 q5 p6) &&& 1))) (fun h => by rw [Bd.returns] at h; cases h)
  refine ⟨_, _, ?_, hrun, hended, _, _, rfl, ?_, ⟨_, rfl⟩, hW, hsame.mono (by decide) (by decide)⟩
  · show Steps p.tables e below (s₁.setTop (mkF m 0 #[.val (.long q1), .second, .val (.long q2), .second, .val (.long q3), .second, .val (.long q4), .second, .val (.long q5), .second, .val (.int p6), .unset, .unset, .unset, .unset, .unset, .unset, .unset, .unset, .unset, .unset, .unset, .unset, .unset, .unset, .unset, .unset, .unset, .unset, .unset, .unset, .unset] [])) _
    refine XT.lloadN X0.here hx rfl (hb hby at_0) rfl ?_
    show Steps p.tables e below (s₁.setTop (mkF m 1 #[.val (.long q1), .second, .val (.long q2), .second, .val (.long q3), .second, .val (.long q4), .second, .val (.long q5), .second, .val (.int p6), .unset, .unset, .unset, .unset, .unset, .unset, .unset, .unset, .unset, .unset, .unset, .unset, .unset, .unset, .unset, .unset, .unset, .unset, .unset, .unset, .unset] [(.long q1)])) _
    refine X0.ldc2Long hx hown (mvT hZ (hw _ (List.mem_of_getElem? (i := 0) rfl))) (g := (mkF m 1 #[.val (.long q1), .second, .val (.long q2), .second, .val (.long q3), .second, .val (.long q4), .second, .val (.long q5), .second, .val (.int p6), .unset, .unset, .unset, .unset, .unset, .unset, .unset, .unset, .unset, .unset, .unset, .unset, .unset, .unset, .unset, .unset, .unset, .unset, .unset, .unset, .unset] [(.long q1)])) rfl (hb hby at_1) _ ?_
    show Steps p.tables e below (s₁.setTop (mkF m 4 #[.val (.long q1), .second, .val (.long q2), .second, .val (.long q3), .second, .val (.long q4), .second, .val (.long q5), .second, .val (.int p6), .unset, .unset, .unset, .unset, .unset, .unset, .unset, .unset, .unset, .unset, .unset, .unset, .unset, .unset, .unset, .unset, .unset, .unset, .unset, .unset, .unset] [(.long (9223372036854775807 : Int64)), (.long q1)])) _
    refine XT.land X0.here hx rfl (hb hby at_4) rfl ?_
    show Steps p.tables e below (s₁.setTop (mkF m 5 #[.val (.long q1), .second, .val (.long q2), .second, .val (.long q3), .second, .val (.long q4), .second, .val (.long q5), .second, .val (.int p6), .unset, .unset, .unset, .unset, .unset, .unset, .unset, .unset, .unset, .unset, .unset, .unset, .unset, .unset, .unset, .unset, .unset, .unset, .unset, .unset, .unset] [(.long (q1 &&& (9223372036854775807 : Int64)))])) _
    refine XT.lstore X0.here hx rfl (hb hby at_5) rfl (l' := #[.val (.long q1), .second, .val (.long q2), .second, .val (.long q3), .second, .val (.long q4), .second, .val (.long q5), .second, .val (.int p6), .val (.long (q1 &&& (9223372036854775807 : Int64))), .second, .unset, .unset, .unset, .unset, .unset, .unset, .unset, .unset, .unset, .unset, .unset, .unset, .unset, .unset, .unset, .unset, .unset, .unset, .unset]) rfl ?_
    show Steps p.tables e below (s₁.setTop (mkF m 7 #[.val (.long q1), .second, .val (.long q2), .second, .val (.long q3), .second, .val (.long q4), .second, .val (.long q5), .second, .val (.int p6), .val (.long (q1 &&& (9223372036854775807 : Int64))), .second, .unset, .unset, .unset, .unset, .unset, .unset, .unset, .unset, .unset, .unset, .unset, .unset, .unset, .unset, .unset, .unset, .unset, .unset, .unset] [])) _
    refine XT.lloadN X0.here hx rfl (hb hby at_7) rfl ?_
    show Steps p.tables e below (s₁.setTop (mkF m 8 #[.val (.long q1), .second, .val (.long q2), .second, .val (.long q3), .second, .val (.long q4), .second, .val (.long q5), .second, .val (.int p6), .val (.long (q1 &&& (9223372036854775807 : Int64))), .second, .unset, .unset, .unset, .unset, .unset, .unset, .unset, .unset, .unset, .unset, .unset, .unset, .unset, .unset, .unset, .unset, .unset, .unset, .unset] [(.long q2)])) _
    refine X0.ldc2Long hx hown (mvT hZ (hw _ (List.mem_of_getElem? (i := 0) rfl))) (g := (mkF m 8 #[.val (.long q1), .second, .val (.long q2), .second, .val (.long q3), .second, .val (.long q4), .second, .val (.long q5), .second, .val (.int p6), .val (.long (q1 &&& (9223372036854775807 : Int64))), .second, .unset, .unset, .unset, .unset, .unset, .unset, .unset, .unset, .unset, .unset, .unset, .unset, .unset, .unset, .unset, .unset, .unset, .unset, .unset] [(.long q2)])) rfl (hb hby at_8) _ ?_
    show Steps p.tables e below (s₁.setTop (mkF m 11 #[.val (.long q1), .second, .val (.long q2), .second, .val (.long q3), .second, .val (.long q4), .second, .val (.long q5), .second, .val (.int p6), .val (.long (q1 &&& (9223372036854775807 : Int64))), .second, .unset, .unset, .unset, .unset, .unset, .unset, .unset, .unset, .unset, .unset, .unset, .unset, .unset, .unset, .unset, .unset, .unset, .unset, .unset] [(.long (9223372036854775807 : Int64)), (.long q2)])) _
    refine XT.land X0.here hx rfl (hb hby at_11) rfl ?_
    show Steps p.tables e below (s₁.setTop (mkF m 12 #[.val (.long q1), .second, .val (.long q2), .second, .val (.long q3), .second, .val (.long q4), .second, .val (.long q5), .second, .val (.int p6), .val (.long (q1 &&& (9223372036854775807 : Int64))), .second, .unset, .unset, .unset, .unset, .unset, .unset, .unset, .unset, .unset, .unset, .unset, .unset, .unset, .unset, .unset, .unset, .unset, .unset, .unset] [(.long (q2 &&& (9223372036854775807 : Int64)))])) _
    refine XT.lstore X0.here hx rfl (hb hby at_12) rfl (l' := #[.val (.long q1), .second, .val (.long q2), .second, .val (.long q3), .second, .val (.long q4), .second, .val (.long q5), .second, .val (.int p6), .val (.long (q1 &&& (9223372036854775807 : Int64))), .second, .val (.long (q2 &&& (9223372036854775807 : Int64))), .second, .unset, .unset, .unset, .unset, .unset, .unset, .unset, .unset, .unset, .unset, .unset, .unset, .unset, .unset, .unset, .unset, .unset]) rfl ?_
    show Steps p.tables e below (s₁.setTop (mkF m 14 #[.val (.long q1), .second, .val (.long q2), .second, .val (.long q3), .second, .val (.long q4), .second, .val (.long q5), .second, .val (.int p6), .val (.long (q1 &&& (9223372036854775807 : Int64))), .second, .val (.long (q2 &&& (9223372036854775807 : Int64))), .second, .unset, .unset, .unset, .unset, .unset, .unset, .unset, .unset, .unset, .unset, .unset, .unset, .unset, .unset, .unset, .unset, .unset] [])) _
    refine XT.lload X0.here hx rfl (hb hby at_14) rfl ?_
    show Steps p.tables e below (s₁.setTop (mkF m 16 #[.val (.long q1), .second, .val (.long q2), .second, .val (.long q3), .second, .val (.long q4), .second, .val (.long q5), .second, .val (.int p6), .val (.long (q1 &&& (9223372036854775807 : Int64))), .second, .val (.long (q2 &&& (9223372036854775807 : Int64))), .second, .unset, .unset, .unset, .unset, .unset, .unset, .unset, .unset, .unset, .unset, .unset, .unset, .unset, .unset, .unset, .unset, .unset] [(.long q3)])) _
    refine X0.ldc2Long hx hown (mvT hZ (hw _ (List.mem_of_getElem? (i := 0) rfl))) (g := (mkF m 16 #[.val (.long q1), .second, .val (.long q2), .second, .val (.long q3), .second, .val (.long q4), .second, .val (.long q5), .second, .val (.int p6), .val (.long (q1 &&& (9223372036854775807 : Int64))), .second, .val (.long (q2 &&& (9223372036854775807 : Int64))), .second, .unset, .unset, .unset, .unset, .unset, .unset, .unset, .unset, .unset, .unset, .unset, .unset, .unset, .unset, .unset, .unset, .unset] [(.long q3)])) rfl (hb hby at_16) _ ?_
    show Steps p.tables e below (s₁.setTop (mkF m 19 #[.val (.long q1), .second, .val (.long q2), .second, .val (.long q3), .second, .val (.long q4), .second, .val (.long q5), .second, .val (.int p6), .val (.long (q1 &&& (9223372036854775807 : Int64))), .second, .val (.long (q2 &&& (9223372036854775807 : Int64))), .second, .unset, .unset, .unset, .unset, .unset, .unset, .unset, .unset, .unset, .unset, .unset, .unset, .unset, .unset, .unset, .unset, .unset] [(.long (9223372036854775807 : Int64)), (.long q3)])) _
    refine XT.land X0.here hx rfl (hb hby at_19) rfl ?_
    show Steps p.tables e below (s₁.setTop (mkF m 20 #[.val (.long q1), .second, .val (.long q2), .second, .val (.long q3), .second, .val (.long q4), .second, .val (.long q5), .second, .val (.int p6), .val (.long (q1 &&& (9223372036854775807 : Int64))), .second, .val (.long (q2 &&& (9223372036854775807 : Int64))), .second, .unset, .unset, .unset, .unset, .unset, .unset, .unset, .unset, .unset, .unset, .unset, .unset, .unset, .unset, .unset, .unset, .unset] [(.long (q3 &&& (9223372036854775807 : Int64)))])) _
    refine XT.lstore X0.here hx rfl (hb hby at_20) rfl (l' := #[.val (.long q1), .second, .val (.long q2), .second, .val (.long q3), .second, .val (.long q4), .second, .val (.long q5), .second, .val (.int p6), .val (.long (q1 &&& (9223372036854775807 : Int64))), .second, .val (.long (q2 &&& (9223372036854775807 : Int64))), .second, .val (.long (q3 &&& (9223372036854775807 : Int64))), .second, .unset, .unset, .unset, .unset, .unset, .unset, .unset, .unset, .unset, .unset, .unset, .unset, .unset, .unset, .unset]) rfl ?_
    show Steps p.tables e below (s₁.setTop (mkF m 22 #[.val (.long q1), .second, .val (.long q2), .second, .val (.long q3), .second, .val (.long q4), .second, .val (.long q5), .second, .val (.int p6), .val (.long (q1 &&& (9223372036854775807 : Int64))), .second, .val (.long (q2 &&& (9223372036854775807 : Int64))), .second, .val (.long (q3 &&& (9223372036854775807 : Int64))), .second, .unset, .unset, .unset, .unset, .unset, .unset, .unset, .unset, .unset, .unset, .unset, .unset, .unset, .unset, .unset] [])) _
    refine XT.lload X0.here hx rfl (hb hby at_22) rfl ?_
    show Steps p.tables e below (s₁.setTop (mkF m 24 #[.val (.long q1), .second, .val (.long q2), .second, .val (.long q3), .second, .val (.long q4), .second, .val (.long q5), .second, .val (.int p6), .val (.long (q1 &&& (9223372036854775807 : Int64))), .second, .val (.long (q2 &&& (9223372036854775807 : Int64))), .second, .val (.long (q3 &&& (9223372036854775807 : Int64))), .second, .unset, .unset, .unset, .unset, .unset, .unset, .unset, .unset, .unset, .unset, .unset, .unset, .unset, .unset, .unset] [(.long q4)])) _
    refine X0.ldc2Long hx hown (mvT hZ (hw _ (List.mem_of_getElem? (i := 0) rfl))) (g := (mkF m 24 #[.val (.long q1), .second, .val (.long q2), .second, .val (.long q3), .second, .val (.long q4), .second, .val (.long q5), .second, .val (.int p6), .val (.long (q1 &&& (9223372036854775807 : Int64))), .second, .val (.long (q2 &&& (9223372036854775807 : Int64))), .second, .val (.long (q3 &&& (9223372036854775807 : Int64))), .second, .unset, .unset, .unset, .unset, .unset, .unset, .unset, .unset, .unset, .unset, .unset, .unset, .unset, .unset, .unset] [(.long q4)])) rfl (hb hby at_24) _ ?_
    show Steps p.tables e below (s₁.setTop (mkF m 27 #[.val (.long q1), .second, .val (.long q2), .second, .val (.long q3), .second, .val (.long q4), .second, .val (.long q5), .second, .val (.int p6), .val (.long (q1 &&& (9223372036854775807 : Int64))), .second, .val (.long (q2 &&& (9223372036854775807 : Int64))), .second, .val (.long (q3 &&& (9223372036854775807 : Int64))), .second, .unset, .unset, .unset, .unset, .unset, .unset, .unset, .unset, .unset, .unset, .unset, .unset, .unset, .unset, .unset] [(.long (9223372036854775807 : Int64)), (.long q4)])) _
    refine XT.land X0.here hx rfl (hb hby at_27) rfl ?_
    show Steps p.tables e below (s₁.setTop (mkF m 28 #[.val (.long q1), .second, .val (.long q2), .second, .val (.long q3), .second, .val (.long q4), .second, .val (.long q5), .second, .val (.int p6), .val (.long (q1 &&& (9223372036854775807 : Int64))), .second, .val (.long (q2 &&& (9223372036854775807 : Int64))), .second, .val (.long (q3 &&& (9223372036854775807 : Int64))), .second, .unset, .unset, .unset, .unset, .unset, .unset, .unset, .unset, .unset, .unset, .unset, .unset, .unset, .unset, .unset] [(.long (q4 &&& (9223372036854775807 : Int64)))])) _
    refine XT.lstore X0.here hx rfl (hb hby at_28) rfl (l' := #[.val (.long q1), .second, .val (.long q2), .second, .val (.long q3), .second, .val (.long q4), .second, .val (.long q5), .second, .val (.int p6), .val (.long (q1 &&& (9223372036854775807 : Int64))), .second, .val (.long (q2 &&& (9223372036854775807 : Int64))), .second, .val (.long (q3 &&& (9223372036854775807 : Int64))), .second, .val (.long (q4 &&& (9223372036854775807 : Int64))), .second, .unset, .unset, .unset, .unset, .unset, .unset, .unset, .unset, .unset, .unset, .unset, .unset, .unset]) rfl ?_
    show Steps p.tables e below (s₁.setTop (mkF m 30 #[.val (.long q1), .second, .val (.long q2), .second, .val (.long q3), .second, .val (.long q4), .second, .val (.long q5), .second, .val (.int p6), .val (.long (q1 &&& (9223372036854775807 : Int64))), .second, .val (.long (q2 &&& (9223372036854775807 : Int64))), .second, .val (.long (q3 &&& (9223372036854775807 : Int64))), .second, .val (.long (q4 &&& (9223372036854775807 : Int64))), .second, .unset, .unset, .unset, .unset, .unset, .unset, .unset, .unset, .unset, .unset, .unset, .unset, .unset] [])) _
    refine XS.iload X0.here hx rfl (hb hby at_30) rfl ?_
    show Steps p.tables e below (s₁.setTop (mkF m 32 #[.val (.long q1), .second, .val (.long q2), .second, .val (.long q3), .second, .val (.long q4), .second, .val (.long q5), .second, .val (.int p6), .val (.long (q1 &&& (9223372036854775807 : Int64))), .second, .val (.long (q2 &&& (9223372036854775807 : Int64))), .second, .val (.long (q3 &&& (9223372036854775807 : Int64))), .second, .val (.long (q4 &&& (9223372036854775807 : Int64))), .second, .unset, .unset, .unset, .unset, .unset, .unset, .unset, .unset, .unset, .unset, .unset, .unset, .unset] [(.int p6)])) _
    refine XS.iconst X0.here hx rfl (hb hby at_32) ?_
    show Steps p.tables e below (s₁.setTop (mkF m 33 #[.val (.long q1), .second, .val (.long q2), .second, .val (.long q3), .second, .val (.long q4), .second, .val (.long q5), .second, .val (.int p6), .val (.long (q1 &&& (9223372036854775807 : Int64))), .second, .val (.long (q2 &&& (9223372036854775807 : Int64))), .second, .val (.long (q3 &&& (9223372036854775807 : Int64))), .second, .val (.long (q4 &&& (9223372036854775807 : Int64))), .second, .unset, .unset, .unset, .unset, .unset, .unset, .unset, .unset, .unset, .unset, .unset, .unset, .unset] [(.int (3 : Int32)), (.int p6)])) _
    refine XS.iand X0.here hx rfl (hb hby at_33) rfl ?_
    show Steps p.tables e below (s₁.setTop (mkF m 34 #[.val (.long q1), .second, .val (.long q2), .second, .val (.long q3), .second, .val (.long q4), .second, .val (.long q5), .second, .val (.int p6), .val (.long (q1 &&& (9223372036854775807 : Int64))), .second, .val (.long (q2 &&& (9223372036854775807 : Int64))), .second, .val (.long (q3 &&& (9223372036854775807 : Int64))), .second, .val (.long (q4 &&& (9223372036854775807 : Int64))), .second, .unset, .unset, .unset, .unset, .unset, .unset, .unset, .unset, .unset, .unset, .unset, .unset, .unset] [(.int (p6 &&& (3 : Int32)))])) _
    refine XS.iconst X0.here hx rfl (hb hby at_34) ?_
    show Steps p.tables e below (s₁.setTop (mkF m 35 #[.val (.long q1), .second, .val (.long q2), .second, .val (.long q3), .second, .val (.long q4), .second, .val (.long q5), .second, .val (.int p6), .val (.long (q1 &&& (9223372036854775807 : Int64))), .second, .val (.long (q2 &&& (9223372036854775807 : Int64))), .second, .val (.long (q3 &&& (9223372036854775807 : Int64))), .second, .val (.long (q4 &&& (9223372036854775807 : Int64))), .second, .unset, .unset, .unset, .unset, .unset, .unset, .unset, .unset, .unset, .unset, .unset, .unset, .unset] [(.int (2 : Int32)), (.int (p6 &&& (3 : Int32)))])) _
    refine st1 _ ?_
    show Steps p.tables e below (T1.setTop (mkF m 38 #[.val (.long q1), .second, .val (.long q2), .second, .val (.long q3), .second, .val (.long q4), .second, .val (.long q5), .second, .val (.int p6), .val (.long (q1 &&& (9223372036854775807 : Int64))), .second, .val (.long (q2 &&& (9223372036854775807 : Int64))), .second, .val (.long (q3 &&& (9223372036854775807 : Int64))), .second, .val (.long (q4 &&& (9223372036854775807 : Int64))), .second, .unset, .unset, .unset, .unset, .unset, .unset, .unset, .unset, .unset, .unset, .unset, .unset, .unset] [(.int (f1 (p6 &&& (3 : Int32)) (2 : Int32)))])) _
    refine XS.istore X1.here hx rfl (hb hby at_38) rfl (l' := #[.val (.long q1), .second, .val (.long q2), .second, .val (.long q3), .second, .val (.long q4), .second, .val (.long q5), .second, .val (.int p6), .val (.long (q1 &&& (9223372036854775807 : Int64))), .second, .val (.long (q2 &&& (9223372036854775807 : Int64))), .second, .val (.long (q3 &&& (9223372036854775807 : Int64))), .second, .val (.long (q4 &&& (9223372036854775807 : Int64))), .second, .val (.int (f1 (p6 &&& (3 : Int32)) (2 : Int32))), .unset, .unset, .unset, .unset, .unset, .unset, .unset, .unset, .unset, .unset, .unset, .unset]) rfl ?_
    show Steps p.tables e below (T1.setTop (mkF m 40 #[.val (.long q1), .second, .val (.long q2), .second, .val (.long q3), .second, .val (.long q4), .second, .val (.long q5), .second, .val (.int p6), .val (.long (q1 &&& (9223372036854775807 : Int64))), .second, .val (.long (q2 &&& (9223372036854775807 : Int64))), .second, .val (.long (q3 &&& (9223372036854775807 : Int64))), .second, .val (.long (q4 &&& (9223372036854775807 : Int64))), .second, .val (.int (f1 (p6 &&& (3 : Int32)) (2 : Int32))), .unset, .unset, .unset, .unset, .unset, .unset, .unset, .unset, .unset, .unset, .unset, .unset] [])) _
    refine XS.iload X1.here hx rfl (hb hby at_40) rfl ?_
    show Steps p.tables e below (T1.setTop (mkF m 42 #[.val (.long q1), .second, .val (.long q2), .second, .val (.long q3), .second, .val (.long q4), .second, .val (.long q5), .second, .val (.int p6), .val (.long (q1 &&& (9223372036854775807 : Int64))), .second, .val (.long (q2 &&& (9223372036854775807 : Int64))), .second, .val (.long (q3 &&& (9223372036854775807 : Int64))), .second, .val (.long (q4 &&& (9223372036854775807 : Int64))), .second, .val (.int (f1 (p6 &&& (3 : Int32)) (2 : Int32))), .unset, .unset, .unset, .unset, .unset, .unset, .unset, .unset, .unset, .unset, .unset, .unset] [(.int p6)])) _
    refine XS.iconst X1.here hx rfl (hb hby at_42) ?_
    show Steps p.tables e below (T1.setTop (mkF m 43 #[.val (.long q1), .second, .val (.long q2), .second, .val (.long q3), .second, .val (.long q4), .second, .val (.long q5), .second, .val (.int p6), .val (.long (q1 &&& (9223372036854775807 : Int64))), .second, .val (.long (q2 &&& (9223372036854775807 : Int64))), .second, .val (.long (q3 &&& (9223372036854775807 : Int64))), .second, .val (.long (q4 &&& (9223372036854775807 : Int64))), .second, .val (.int (f1 (p6 &&& (3 : Int32)) (2 : Int32))), .unset, .unset, .unset, .unset, .unset, .unset, .unset, .unset, .unset, .unset, .unset, .unset] [(.int (2 : Int32)), (.int p6)])) _
    refine XT.iushr X1.here hx rfl (hb hby at_43) rfl ?_
    show Steps p.tables e below (T1.setTop (mkF m 44 #[.val (.long q1), .second, .val (.long q2), .second, .val (.long q3), .second, .val (.long q4), .second, .val (.long q5), .second, .val (.int p6), .val (.long (q1 &&& (9223372036854775807 : Int64))), .second, .val (.long (q2 &&& (9223372036854775807 : Int64))), .second, .val (.long (q3 &&& (9223372036854775807 : Int64))), .second, .val (.long (q4 &&& (9223372036854775807 : Int64))), .second, .val (.int (f1 (p6 &&& (3 : Int32)) (2 : Int32))), .unset, .unset, .unset, .unset, .unset, .unset, .unset, .unset, .unset, .unset, .unset, .unset] [(.int (XT.ushr p6 (2 : Int32)))])) _
    refine XS.iconst X1.here hx rfl (hb hby at_44) ?_
    show Steps p.tables e below (T1.setTop (mkF m 45 #[.val (.long q1), .second, .val (.long q2), .second, .val (.long q3), .second, .val (.long q4), .second, .val (.long q5), .second, .val (.int p6), .val (.long (q1 &&& (9223372036854775807 : Int64))), .second, .val (.long (q2 &&& (9223372036854775807 : Int64))), .second, .val (.long (q3 &&& (9223372036854775807 : Int64))), .second, .val (.long (q4 &&& (9223372036854775807 : Int64))), .second, .val (.int (f1 (p6 &&& (3 : Int32)) (2 : Int32))), .unset, .unset, .unset, .unset, .unset, .unset, .unset, .unset, .unset, .unset, .unset, .unset] [(.int (3 : Int32)), (.int (XT.ushr p6 (2 : Int32)))])) _
    refine XS.iand X1.here hx rfl (hb hby at_45) rfl ?_
    show Steps p.tables e below (T1.setTop (mkF m 46 #[.val (.long q1), .second, .val (.long q2), .second, .val (.long q3), .second, .val (.long q4), .second, .val (.long q5), .second, .val (.int p6), .val (.long (q1 &&& (9223372036854775807 : Int64))), .second, .val (.long (q2 &&& (9223372036854775807 : Int64))), .second, .val (.long (q3 &&& (9223372036854775807 : Int64))), .second, .val (.long (q4 &&& (9223372036854775807 : Int64))), .second, .val (.int (f1 (p6 &&& (3 : Int32)) (2 : Int32))), .unset, .unset, .unset, .unset, .unset, .unset, .unset, .unset, .unset, .unset, .unset, .unset] [(.int ((XT.ushr p6 (2 : Int32)) &&& (3 : Int32)))])) _
    refine XS.iconst X1.here hx rfl (hb hby at_46) ?_
    show Steps p.tables e below (T1.setTop (mkF m 47 #[.val (.long q1), .second, .val (.long q2), .second, .val (.long q3), .second, .val (.long q4), .second, .val (.long q5), .second, .val (.int p6), .val (.long (q1 &&& (9223372036854775807 : Int64))), .second, .val (.long (q2 &&& (9223372036854775807 : Int64))), .second, .val (.long (q3 &&& (9223372036854775807 : Int64))), .second, .val (.long (q4 &&& (9223372036854775807 : Int64))), .second, .val (.int (f1 (p6 &&& (3 : Int32)) (2 : Int32))), .unset, .unset, .unset, .unset, .unset, .unset, .unset, .unset, .unset, .unset, .unset, .unset] [(.int (2 : Int32)), (.int ((XT.ushr p6 (2 : Int32)) &&& (3 : Int32)))])) _
    refine st2 _ ?_
    show Steps p.tables e below (T2.setTop (mkF m 50 #[.val (.long q1), .second, .val (.long q2), .second, .val (.long q3), .second, .val (.long q4), .second, .val (.long q5), .second, .val (.int p6), .val (.long (q1 &&& (9223372036854775807 : Int64))), .second, .val (.long (q2 &&& (9223372036854775807 : Int64))), .second, .val (.long (q3 &&& (9223372036854775807 : Int64))), .second, .val (.long (q4 &&& (9223372036854775807 : Int64))), .second, .val (.int (f1 (p6 &&& (3 : Int32)) (2 : Int32))), .unset, .unset, .unset, .unset, .unset, .unset, .unset, .unset, .unset, .unset, .unset, .unset] [(.int (f1 ((XT.ushr p6 (2 : Int32)) &&& (3 : Int32)) (2 : Int32)))])) _
    refine XS.istore X2.here hx rfl (hb hby at_50) rfl (l' := #[.val (.long q1), .second, .val (.long q2), .second, .val (.long q3), .second, .val (.long q4), .second, .val (.long q5), .second, .val (.int p6), .val (.long (q1 &&& (9223372036854775807 : Int64))), .second, .val (.long (q2 &&& (9223372036854775807 : Int64))), .second, .val (.long (q3 &&& (9223372036854775807 : Int64))), .second, .val (.long (q4 &&& (9223372036854775807 : Int64))), .second, .val (.int (f1 (p6 &&& (3 : Int32)) (2 : Int32))), .val (.int (f1 ((XT.ushr p6 (2 : Int32)) &&& (3 : Int32)) (2 : Int32))), .unset, .unset, .unset, .unset, .unset, .unset, .unset, .unset, .unset, .unset, .unset]) rfl ?_
    show Steps p.tables e below (T2.setTop (mkF m 52 #[.val (.long q1), .second, .val (.long q2), .second, .val (.long q3), .second, .val (.long q4), .second, .val (.long q5), .second, .val (.int p6), .val (.long (q1 &&& (9223372036854775807 : Int64))), .second, .val (.long (q2 &&& (9223372036854775807 : Int64))), .second, .val (.long (q3 &&& (9223372036854775807 : Int64))), .second, .val (.long (q4 &&& (9223372036854775807 : Int64))), .second, .val (.int (f1 (p6 &&& (3 : Int32)) (2 : Int32))), .val (.int (f1 ((XT.ushr p6 (2 : Int32)) &&& (3 : Int32)) (2 : Int32))), .unset, .unset, .unset, .unset, .unset, .unset, .unset, .unset, .unset, .unset, .unset] [])) _
    refine XT.lload X2.here hx rfl (hb hby at_52) rfl ?_
    show Steps p.tables e below (T2.setTop (mkF m 54 #[.val (.long q1), .second, .val (.long q2), .second, .val (.long q3), .second, .val (.long q4), .second, .val (.long q5), .second, .val (.int p6), .val (.long (q1 &&& (9223372036854775807 : Int64))), .second, .val (.long (q2 &&& (9223372036854775807 : Int64))), .second, .val (.long (q3 &&& (9223372036854775807 : Int64))), .second, .val (.long (q4 &&& (9223372036854775807 : Int64))), .second, .val (.int (f1 (p6 &&& (3 : Int32)) (2 : Int32))), .val (.int (f1 ((XT.ushr p6 (2 : Int32)) &&& (3 : Int32)) (2 : Int32))), .unset, .unset, .unset, .unset, .unset, .unset, .unset, .unset, .unset, .unset, .unset] [(.long q5)])) _
    refine X2.ldc2Long hx hown (mvT hZ (hw _ (List.mem_of_getElem? (i := 5) rfl))) (g := (mkF m 54 #[.val (.long q1), .second, .val (.long q2), .second, .val (.long q3), .second, .val (.long q4), .second, .val (.long q5), .second, .val (.int p6), .val (.long (q1 &&& (9223372036854775807 : Int64))), .second, .val (.long (q2 &&& (9223372036854775807 : Int64))), .second, .val (.long (q3 &&& (9223372036854775807 : Int64))), .second, .val (.long (q4 &&& (9223372036854775807 : Int64))), .second, .val (.int (f1 (p6 &&& (3 : Int32)) (2 : Int32))), .val (.int (f1 ((XT.ushr p6 (2 : Int32)) &&& (3 : Int32)) (2 : Int32))), .unset, .unset, .unset, .unset, .unset, .unset, .unset, .unset, .unset, .unset, .unset] [(.long q5)])) rfl (hb hby at_54) _ ?_
    show Steps p.tables e below (T2.setTop (mkF m 57 #[.val (.long q1), .second, .val (.long q2), .second, .val (.long q3), .second, .val (.long q4), .second, .val (.long q5), .second, .val (.int p6), .val (.long (q1 &&& (9223372036854775807 : Int64))), .second, .val (.long (q2 &&& (9223372036854775807 : Int64))), .second, .val (.long (q3 &&& (9223372036854775807 : Int64))), .second, .val (.long (q4 &&& (9223372036854775807 : Int64))), .second, .val (.int (f1 (p6 &&& (3 : Int32)) (2 : Int32))), .val (.int (f1 ((XT.ushr p6 (2 : Int32)) &&& (3 : Int32)) (2 : Int32))), .unset, .unset, .unset, .unset, .unset, .unset, .unset, .unset, .unset, .unset, .unset] [(.long (65535 : Int64)), (.long q5)])) _
    refine XT.land X2.here hx rfl (hb hby at_57) rfl ?_
    show Steps p.tables e below (T2.setTop (mkF m 58 #[.val (.long q1), .second, .val (.long q2), .second, .val (.long q3), .second, .val (.long q4), .second, .val (.long q5), .second, .val (.int p6), .val (.long (q1 &&& (9223372036854775807 : Int64))), .second, .val (.long (q2 &&& (9223372036854775807 : Int64))), .second, .val (.long (q3 &&& (9223372036854775807 : Int64))), .second, .val (.long (q4 &&& (9223372036854775807 : Int64))), .second, .val (.int (f1 (p6 &&& (3 : Int32)) (2 : Int32))), .val (.int (f1 ((XT.ushr p6 (2 : Int32)) &&& (3 : Int32)) (2 : Int32))), .unset, .unset, .unset, .unset, .unset, .unset, .unset, .unset, .unset, .unset, .unset] [(.long (q5 &&& (65535 : Int64)))])) _
    refine XT.lload X2.here hx rfl (hb hby at_58) rfl ?_
    show Steps p.tables e below (T2.setTop (mkF m 60 #[.val (.long q1), .second, .val (.long q2), .second, .val (.long q3), .second, .val (.long q4), .second, .val (.long q5), .second, .val (.int p6), .val (.long (q1 &&& (9223372036854775807 : Int64))), .second, .val (.long (q2 &&& (9223372036854775807 : Int64))), .second, .val (.long (q3 &&& (9223372036854775807 : Int64))), .second, .val (.long (q4 &&& (9223372036854775807 : Int64))), .second, .val (.int (f1 (p6 &&& (3 : Int32)) (2 : Int32))), .val (.int (f1 ((XT.ushr p6 (2 : Int32)) &&& (3 : Int32)) (2 : Int32))), .unset, .unset, .unset, .unset, .unset, .unset, .unset, .unset, .unset, .unset, .unset] [(.long (q1 &&& (9223372036854775807 : Int64))), (.long (q5 &&& (65535 : Int64)))])) _
    refine st3 _ ?_
    show Steps p.tables e below (T3.setTop (mkF m 63 #[.val (.long q1), .second, .val (.long q2), .second, .val (.long q3), .second, .val (.long q4), .second, .val (.long q5), .second, .val (.int p6), .val (.long (q1 &&& (9223372036854775807 : Int64))), .second, .val (.long (q2 &&& (9223372036854775807 : Int64))), .second, .val (.long (q3 &&& (9223372036854775807 : Int64))), .second, .val (.long (q4 &&& (9223372036854775807 : Int64))), .second, .val (.int (f1 (p6 &&& (3 : Int32)) (2 : Int32))), .val (.int (f1 ((XT.ushr p6 (2 : Int32)) &&& (3 : Int32)) (2 : Int32))), .unset, .unset, .unset, .unset, .unset, .unset, .unset, .unset, .unset, .unset, .unset] [(.long (f0_0 q1 q2 q3 q4 q5 p6))])) _
    refine XT.lstore X3.here hx rfl (hb hby at_63) rfl (l' := #[.val (.long q1), .second, .val (.long q2), .second, .val (.long q3), .second, .val (.long q4), .second, .val (.long q5), .second, .val (.int p6), .val (.long (q1 &&& (9223372036854775807 : Int64))), .second, .val (.long (q2 &&& (9223372036854775807 : Int64))), .second, .val (.long (q3 &&& (9223372036854775807 : Int64))), .second, .val (.long (q4 &&& (9223372036854775807 : Int64))), .second, .val (.int (f1 (p6 &&& (3 : Int32)) (2 : Int32))), .val (.int (f1 ((XT.ushr p6 (2 : Int32)) &&& (3 : Int32)) (2 : Int32))), .val (.long (f0_0 q1 q2 q3 q4 q5 p6)), .second, .unset, .unset, .unset, .unset, .unset, .unset, .unset, .unset, .unset]) rfl ?_
    show Steps p.tables e below (T3.setTop (mkF m 65 #[.val (.long q1), .second, .val (.long q2), .second, .val (.long q3), .second, .val (.long q4), .second, .val (.long q5), .second, .val (.int p6), .val (.long (q1 &&& (9223372036854775807 : Int64))), .second, .val (.long (q2 &&& (9223372036854775807 : Int64))), .second, .val (.long (q3 &&& (9223372036854775807 : Int64))), .second, .val (.long (q4 &&& (9223372036854775807 : Int64))), .second, .val (.int (f1 (p6 &&& (3 : Int32)) (2 : Int32))), .val (.int (f1 ((XT.ushr p6 (2 : Int32)) &&& (3 : Int32)) (2 : Int32))), .val (.long (f0_0 q1 q2 q3 q4 q5 p6)), .second, .unset, .unset, .unset, .unset, .unset, .unset, .unset, .unset, .unset] [])) _
    refine XT.lload X3.here hx rfl (hb hby at_65) rfl ?_
    show Steps p.tables e below (T3.setTop (mkF m 67 #[.val (.long q1), .second, .val (.long q2), .second, .val (.long q3), .second, .val (.long q4), .second, .val (.long q5), .second, .val (.int p6), .val (.long (q1 &&& (9223372036854775807 : Int64))), .second, .val (.long (q2 &&& (9223372036854775807 : Int64))), .second, .val (.long (q3 &&& (9223372036854775807 : Int64))), .second, .val (.long (q4 &&& (9223372036854775807 : Int64))), .second, .val (.int (f1 (p6 &&& (3 : Int32)) (2 : Int32))), .val (.int (f1 ((XT.ushr p6 (2 : Int32)) &&& (3 : Int32)) (2 : Int32))), .val (.long (f0_0 q1 q2 q3 q4 q5 p6)), .second, .unset, .unset, .unset, .unset, .unset, .unset, .unset, .unset, .unset] [(.long q5)])) _
    refine XS.bipush X3.here hx rfl (hb hby at_67) ?_
    show Steps p.tables e below (T3.setTop (mkF m 69 #[.val (.long q1), .second, .val (.long q2), .second, .val (.long q3), .second, .val (.long q4), .second, .val (.long q5), .second, .val (.int p6), .val (.long (q1 &&& (9223372036854775807 : Int64))), .second, .val (.long (q2 &&& (9223372036854775807 : Int64))), .second, .val (.long (q3 &&& (9223372036854775807 : Int64))), .second, .val (.long (q4 &&& (9223372036854775807 : Int64))), .second, .val (.int (f1 (p6 &&& (3 : Int32)) (2 : Int32))), .val (.int (f1 ((XT.ushr p6 (2 : Int32)) &&& (3 : Int32)) (2 : Int32))), .val (.long (f0_0 q1 q2 q3 q4 q5 p6)), .second, .unset, .unset, .unset, .unset, .unset, .unset, .unset, .unset, .unset] [(.int (16 : Int32)), (.long q5)])) _
    refine XT.lushr X3.here hx rfl (hb hby at_69) rfl ?_
    show Steps p.tables e below (T3.setTop (mkF m 70 #[.val (.long q1), .second, .val (.long q2), .second, .val (.long q3), .second, .val (.long q4), .second, .val (.long q5), .second, .val (.int p6), .val (.long (q1 &&& (9223372036854775807 : Int64))), .second, .val (.long (q2 &&& (9223372036854775807 : Int64))), .second, .val (.long (q3 &&& (9223372036854775807 : Int64))), .second, .val (.long (q4 &&& (9223372036854775807 : Int64))), .second, .val (.int (f1 (p6 &&& (3 : Int32)) (2 : Int32))), .val (.int (f1 ((XT.ushr p6 (2 : Int32)) &&& (3 : Int32)) (2 : Int32))), .val (.long (f0_0 q1 q2 q3 q4 q5 p6)), .second, .unset, .unset, .unset, .unset, .unset, .unset, .unset, .unset, .unset] [(.long (XT.ushrL q5 (16 : Int32)))])) _
    refine X3.ldc2Long hx hown (mvT hZ (hw _ (List.mem_of_getElem? (i := 5) rfl))) (g := (mkF m 70 #[.val (.long q1), .second, .val (.long q2), .second, .val (.long q3), .second, .val (.long q4), .second, .val (.long q5), .second, .val (.int p6), .val (.long (q1 &&& (9223372036854775807 : Int64))), .second, .val (.long (q2 &&& (9223372036854775807 : Int64))), .second, .val (.long (q3 &&& (9223372036854775807 : Int64))), .second, .val (.long (q4 &&& (9223372036854775807 : Int64))), .second, .val (.int (f1 (p6 &&& (3 : Int32)) (2 : Int32))), .val (.int (f1 ((XT.ushr p6 (2 : Int32)) &&& (3 : Int32)) (2 : Int32))), .val (.long (f0_0 q1 q2 q3 q4 q5 p6)), .second, .unset, .unset, .unset, .unset, .unset, .unset, .unset, .unset, .unset] [(.long (XT.ushrL q5 (16 : Int32)))])) rfl (hb hby at_70) _ ?_
    show Steps p.tables e below (T3.setTop (mkF m 73 #[.val (.long q1), .second, .val (.long q2), .second, .val (.long q3), .second, .val (.long q4), .second, .val (.long q5), .second, .val (.int p6), .val (.long (q1 &&& (9223372036854775807 : Int64))), .second, .val (.long (q2 &&& (9223372036854775807 : Int64))), .second, .val (.long (q3 &&& (9223372036854775807 : Int64))), .second, .val (.long (q4 &&& (9223372036854775807 : Int64))), .second, .val (.int (f1 (p6 &&& (3 : Int32)) (2 : Int32))), .val (.int (f1 ((XT.ushr p6 (2 : Int32)) &&& (3 : Int32)) (2 : Int32))), .val (.long (f0_0 q1 q2 q3 q4 q5 p6)), .second, .unset, .unset, .unset, .unset, .unset, .unset, .unset, .unset, .unset] [(.long (65535 : Int64)), (.long (XT.ushrL q5 (16 : Int32)))])) _
    refine XT.land X3.here hx rfl (hb hby at_73) rfl ?_
    show Steps p.tables e below (T3.setTop (mkF m 74 #[.val (.long q1), .second, .val (.long q2), .second, .val (.long q3), .second, .val (.long q4), .second, .val (.long q5), .second, .val (.int p6), .val (.long (q1 &&& (9223372036854775807 : Int64))), .second, .val (.long (q2 &&& (9223372036854775807 : Int64))), .second, .val (.long (q3 &&& (9223372036854775807 : Int64))), .second, .val (.long (q4 &&& (9223372036854775807 : Int64))), .second, .val (.int (f1 (p6 &&& (3 : Int32)) (2 : Int32))), .val (.int (f1 ((XT.ushr p6 (2 : Int32)) &&& (3 : Int32)) (2 : Int32))), .val (.long (f0_0 q1 q2 q3 q4 q5 p6)), .second, .unset, .unset, .unset, .unset, .unset, .unset, .unset, .unset, .unset] [(.long ((XT.ushrL q5 (16 : Int32)) &&& (65535 : Int64)))])) _
    refine XT.lload X3.here hx rfl (hb hby at_74) rfl ?_
    show Steps p.tables e below (T3.setTop (mkF m 76 #[.val (.long q1), .second, .val (.long q2), .second, .val (.long q3), .second, .val (.long q4), .second, .val (.long q5), .second, .val (.int p6), .val (.long (q1 &&& (9223372036854775807 : Int64))), .second, .val (.long (q2 &&& (9223372036854775807 : Int64))), .second, .val (.long (q3 &&& (9223372036854775807 : Int64))), .second, .val (.long (q4 &&& (9223372036854775807 : Int64))), .second, .val (.int (f1 (p6 &&& (3 : Int32)) (2 : Int32))), .val (.int (f1 ((XT.ushr p6 (2 : Int32)) &&& (3 : Int32)) (2 : Int32))), .val (.long (f0_0 q1 q2 q3 q4 q5 p6)), .second, .unset, .unset, .unset, .unset, .unset, .unset, .unset, .unset, .unset] [(.long (q1 &&& (9223372036854775807 : Int64))), (.long ((XT.ushrL q5 (16 : Int32)) &&& (65535 : Int64)))])) _
    refine st4 _ ?_
    show Steps p.tables e below (T4.setTop (mkF m 79 #[.val (.long q1), .second, .val (.long q2), .second, .val (.long q3), .second, .val (.long q4), .second, .val (.long q5), .second, .val (.int p6), .val (.long (q1 &&& (9223372036854775807 : Int64))), .second, .val (.long (q2 &&& (9223372036854775807 : Int64))), .second, .val (.long (q3 &&& (9223372036854775807 : Int64))), .second, .val (.long (q4 &&& (9223372036854775807 : Int64))), .second, .val (.int (f1 (p6 &&& (3 : Int32)) (2 : Int32))), .val (.int (f1 ((XT.ushr p6 (2 : Int32)) &&& (3 : Int32)) (2 : Int32))), .val (.long (f0_0 q1 q2 q3 q4 q5 p6)), .second, .unset, .unset, .unset, .unset, .unset, .unset, .unset, .unset, .unset] [(.long (f0_1 q1 q2 q3 q4 q5 p6))])) _
    refine XT.lstore X4.here hx rfl (hb hby at_79) rfl (l' := #[.val (.long q1), .second, .val (.long q2), .second, .val (.long q3), .second, .val (.long q4), .second, .val (.long q5), .second, .val (.int p6), .val (.long (q1 &&& (9223372036854775807 : Int64))), .second, .val (.long (q2 &&& (9223372036854775807 : Int64))), .second, .val (.long (q3 &&& (9223372036854775807 : Int64))), .second, .val (.long (q4 &&& (9223372036854775807 : Int64))), .second, .val (.int (f1 (p6 &&& (3 : Int32)) (2 : Int32))), .val (.int (f1 ((XT.ushr p6 (2 : Int32)) &&& (3 : Int32)) (2 : Int32))), .val (.long (f0_0 q1 q2 q3 q4 q5 p6)), .second, .val (.long (f0_1 q1 q2 q3 q4 q5 p6)), .second, .unset, .unset, .unset, .unset, .unset, .unset, .unset]) rfl ?_
    show Steps p.tables e below (T4.setTop (mkF m 81 #[.val (.long q1), .second, .val (.long q2), .second, .val (.long q3), .second, .val (.long q4), .second, .val (.long q5), .second, .val (.int p6), .val (.long (q1 &&& (9223372036854775807 : Int64))), .second, .val (.long (q2 &&& (9223372036854775807 : Int64))), .second, .val (.long (q3 &&& (9223372036854775807 : Int64))), .second, .val (.long (q4 &&& (9223372036854775807 : Int64))), .second, .val (.int (f1 (p6 &&& (3 : Int32)) (2 : Int32))), .val (.int (f1 ((XT.ushr p6 (2 : Int32)) &&& (3 : Int32)) (2 : Int32))), .val (.long (f0_0 q1 q2 q3 q4 q5 p6)), .second, .val (.long (f0_1 q1 q2 q3 q4 q5 p6)), .second, .unset, .unset, .unset, .unset, .unset, .unset, .unset] [])) _
    refine XT.lload X4.here hx rfl (hb hby at_81) rfl ?_
    show Steps p.tables e below (T4.setTop (mkF m 83 #[.val (.long q1), .second, .val (.long q2), .second, .val (.long q3), .second, .val (.long q4), .second, .val (.long q5), .second, .val (.int p6), .val (.long (q1 &&& (9223372036854775807 : Int64))), .second, .val (.long (q2 &&& (9223372036854775807 : Int64))), .second, .val (.long (q3 &&& (9223372036854775807 : Int64))), .second, .val (.long (q4 &&& (9223372036854775807 : Int64))), .second, .val (.int (f1 (p6 &&& (3 : Int32)) (2 : Int32))), .val (.int (f1 ((XT.ushr p6 (2 : Int32)) &&& (3 : Int32)) (2 : Int32))), .val (.long (f0_0 q1 q2 q3 q4 q5 p6)), .second, .val (.long (f0_1 q1 q2 q3 q4 q5 p6)), .second, .unset, .unset, .unset, .unset, .unset, .unset, .unset] [(.long q5)])) _
    refine XS.bipush X4.here hx rfl (hb hby at_83) ?_
    show Steps p.tables e below (T4.setTop (mkF m 85 #[.val (.long q1), .second, .val (.long q2), .second, .val (.long q3), .second, .val (.long q4), .second, .val (.long q5), .second, .val (.int p6), .val (.long (q1 &&& (9223372036854775807 : Int64))), .second, .val (.long (q2 &&& (9223372036854775807 : Int64))), .second, .val (.long (q3 &&& (9223372036854775807 : Int64))), .second, .val (.long (q4 &&& (9223372036854775807 : Int64))), .second, .val (.int (f1 (p6 &&& (3 : Int32)) (2 : Int32))), .val (.int (f1 ((XT.ushr p6 (2 : Int32)) &&& (3 : Int32)) (2 : Int32))), .val (.long (f0_0 q1 q2 q3 q4 q5 p6)), .second, .val (.long (f0_1 q1 q2 q3 q4 q5 p6)), .second, .unset, .unset, .unset, .unset, .unset, .unset, .unset] [(.int (32 : Int32)), (.long q5)])) _
    refine XT.lushr X4.here hx rfl (hb hby at_85) rfl ?_
    show Steps p.tables e below (T4.setTop (mkF m 86 #[.val (.long q1), .second, .val (.long q2), .second, .val (.long q3), .second, .val (.long q4), .second, .val (.long q5), .second, .val (.int p6), .val (.long (q1 &&& (9223372036854775807 : Int64))), .second, .val (.long (q2 &&& (9223372036854775807 : Int64))), .second, .val (.long (q3 &&& (9223372036854775807 : Int64))), .second, .val (.long (q4 &&& (9223372036854775807 : Int64))), .second, .val (.int (f1 (p6 &&& (3 : Int32)) (2 : Int32))), .val (.int (f1 ((XT.ushr p6 (2 : Int32)) &&& (3 : Int32)) (2 : Int32))), .val (.long (f0_0 q1 q2 q3 q4 q5 p6)), .second, .val (.long (f0_1 q1 q2 q3 q4 q5 p6)), .second, .unset, .unset, .unset, .unset, .unset, .unset, .unset] [(.long (XT.ushrL q5 (32 : Int32)))])) _
    refine X4.ldc2Long hx hown (mvT hZ (hw _ (List.mem_of_getElem? (i := 5) rfl))) (g := (mkF m 86 #[.val (.long q1), .second, .val (.long q2), .second, .val (.long q3), .second, .val (.long q4), .second, .val (.long q5), .second, .val (.int p6), .val (.long (q1 &&& (9223372036854775807 : Int64))), .second, .val (.long (q2 &&& (9223372036854775807 : Int64))), .second, .val (.long (q3 &&& (9223372036854775807 : Int64))), .second, .val (.long (q4 &&& (9223372036854775807 : Int64))), .second, .val (.int (f1 (p6 &&& (3 : Int32)) (2 : Int32))), .val (.int (f1 ((XT.ushr p6 (2 : Int32)) &&& (3 : Int32)) (2 : Int32))), .val (.long (f0_0 q1 q2 q3 q4 q5 p6)), .second, .val (.long (f0_1 q1 q2 q3 q4 q5 p6)), .second, .unset, .unset, .unset, .unset, .unset, .unset, .unset] [(.long (XT.ushrL q5 (32 : Int32)))])) rfl (hb hby at_86) _ ?_
    show Steps p.tables e below (T4.setTop (mkF m 89 #[.val (.long q1), .second, .val (.long q2), .second, .val (.long q3), .second, .val (.long q4), .second, .val (.long q5), .second, .val (.int p6), .val (.long (q1 &&& (9223372036854775807 : Int64))), .second, .val (.long (q2 &&& (9223372036854775807 : Int64))), .second, .val (.long (q3 &&& (9223372036854775807 : Int64))), .second, .val (.long (q4 &&& (9223372036854775807 : Int64))), .second, .val (.int (f1 (p6 &&& (3 : Int32)) (2 : Int32))), .val (.int (f1 ((XT.ushr p6 (2 : Int32)) &&& (3 : Int32)) (2 : Int32))), .val (.long (f0_0 q1 q2 q3 q4 q5 p6)), .second, .val (.long (f0_1 q1 q2 q3 q4 q5 p6)), .second, .unset, .unset, .unset, .unset, .unset, .unset, .unset] [(.long (65535 : Int64)), (.long (XT.ushrL q5 (32 : Int32)))])) _
    refine XT.land X4.here hx rfl (hb hby at_89) rfl ?_
    show Steps p.tables e below (T4.setTop (mkF m 90 #[.val (.long q1), .second, .val (.long q2), .second, .val (.long q3), .second, .val (.long q4), .second, .val (.long q5), .second, .val (.int p6), .val (.long (q1 &&& (9223372036854775807 : Int64))), .second, .val (.long (q2 &&& (9223372036854775807 : Int64))), .second, .val (.long (q3 &&& (9223372036854775807 : Int64))), .second, .val (.long (q4 &&& (9223372036854775807 : Int64))), .second, .val (.int (f1 (p6 &&& (3 : Int32)) (2 : Int32))), .val (.int (f1 ((XT.ushr p6 (2 : Int32)) &&& (3 : Int32)) (2 : Int32))), .val (.long (f0_0 q1 q2 q3 q4 q5 p6)), .second, .val (.long (f0_1 q1 q2 q3 q4 q5 p6)), .second, .unset, .unset, .unset, .unset, .unset, .unset, .unset] [(.long ((XT.ushrL q5 (32 : Int32)) &&& (65535 : Int64)))])) _
    refine XT.lload X4.here hx rfl (hb hby at_90) rfl ?_
    show Steps p.tables e below (T4.setTop (mkF m 92 #[.val (.long q1), .second, .val (.long q2), .second, .val (.long q3), .second, .val (.long q4), .second, .val (.long q5), .second, .val (.int p6), .val (.long (q1 &&& (9223372036854775807 : Int64))), .second, .val (.long (q2 &&& (9223372036854775807 : Int64))), .second, .val (.long (q3 &&& (9223372036854775807 : Int64))), .second, .val (.long (q4 &&& (9223372036854775807 : Int64))), .second, .val (.int (f1 (p6 &&& (3 : Int32)) (2 : Int32))), .val (.int (f1 ((XT.ushr p6 (2 : Int32)) &&& (3 : Int32)) (2 : Int32))), .val (.long (f0_0 q1 q2 q3 q4 q5 p6)), .second, .val (.long (f0_1 q1 q2 q3 q4 q5 p6)), .second, .unset, .unset, .unset, .unset, .unset, .unset, .unset] [(.long (q2 &&& (9223372036854775807 : Int64))), (.long ((XT.ushrL q5 (32 : Int32)) &&& (65535 : Int64)))])) _
    refine st5 _ ?_
    show Steps p.tables e below (T5.setTop (mkF m 95 #[.val (.long q1), .second, .val (.long q2), .second, .val (.long q3), .second, .val (.long q4), .second, .val (.long q5), .second, .val (.int p6), .val (.long (q1 &&& (9223372036854775807 : Int64))), .second, .val (.long (q2 &&& (9223372036854775807 : Int64))), .second, .val (.long (q3 &&& (9223372036854775807 : Int64))), .second, .val (.long (q4 &&& (9223372036854775807 : Int64))), .second, .val (.int (f1 (p6 &&& (3 : Int32)) (2 : Int32))), .val (.int (f1 ((XT.ushr p6 (2 : Int32)) &&& (3 : Int32)) (2 : Int32))), .val (.long (f0_0 q1 q2 q3 q4 q5 p6)), .second, .val (.long (f0_1 q1 q2 q3 q4 q5 p6)), .second, .unset, .unset, .unset, .unset, .unset, .unset, .unset] [(.long (f0_2 q1 q2 q3 q4 q5 p6))])) _
    refine XT.lstore X5.here hx rfl (hb hby at_95) rfl (l' := #[.val (.long q1), .second, .val (.long q2), .second, .val (.long q3), .second, .val (.long q4), .second, .val (.long q5), .second, .val (.int p6), .val (.long (q1 &&& (9223372036854775807 : Int64))), .second, .val (.long (q2 &&& (9223372036854775807 : Int64))), .second, .val (.long (q3 &&& (9223372036854775807 : Int64))), .second, .val (.long (q4 &&& (9223372036854775807 : Int64))), .second, .val (.int (f1 (p6 &&& (3 : Int32)) (2 : Int32))), .val (.int (f1 ((XT.ushr p6 (2 : Int32)) &&& (3 : Int32)) (2 : Int32))), .val (.long (f0_0 q1 q2 q3 q4 q5 p6)), .second, .val (.long (f0_1 q1 q2 q3 q4 q5 p6)), .second, .val (.long (f0_2 q1 q2 q3 q4 q5 p6)), .second, .unset, .unset, .unset, .unset, .unset]) rfl ?_
    show Steps p.tables e below (T5.setTop (mkF m 97 #[.val (.long q1), .second, .val (.long q2), .second, .val (.long q3), .second, .val (.long q4), .second, .val (.long q5), .second, .val (.int p6), .val (.long (q1 &&& (9223372036854775807 : Int64))), .second, .val (.long (q2 &&& (9223372036854775807 : Int64))), .second, .val (.long (q3 &&& (9223372036854775807 : Int64))), .second, .val (.long (q4 &&& (9223372036854775807 : Int64))), .second, .val (.int (f1 (p6 &&& (3 : Int32)) (2 : Int32))), .val (.int (f1 ((XT.ushr p6 (2 : Int32)) &&& (3 : Int32)) (2 : Int32))), .val (.long (f0_0 q1 q2 q3 q4 q5 p6)), .second, .val (.long (f0_1 q1 q2 q3 q4 q5 p6)), .second, .val (.long (f0_2 q1 q2 q3 q4 q5 p6)), .second, .unset, .unset, .unset, .unset, .unset] [])) _
    refine XT.lload X5.here hx rfl (hb hby at_97) rfl ?_
    show Steps p.tables e below (T5.setTop (mkF m 99 #[.val (.long q1), .second, .val (.long q2), .second, .val (.long q3), .second, .val (.long q4), .second, .val (.long q5), .second, .val (.int p6), .val (.long (q1 &&& (9223372036854775807 : Int64))), .second, .val (.long (q2 &&& (9223372036854775807 : Int64))), .second, .val (.long (q3 &&& (9223372036854775807 : Int64))), .second, .val (.long (q4 &&& (9223372036854775807 : Int64))), .second, .val (.int (f1 (p6 &&& (3 : Int32)) (2 : Int32))), .val (.int (f1 ((XT.ushr p6 (2 : Int32)) &&& (3 : Int32)) (2 : Int32))), .val (.long (f0_0 q1 q2 q3 q4 q5 p6)), .second, .val (.long (f0_1 q1 q2 q3 q4 q5 p6)), .second, .val (.long (f0_2 q1 q2 q3 q4 q5 p6)), .second, .unset, .unset, .unset, .unset, .unset] [(.long q5)])) _
    refine XS.bipush X5.here hx rfl (hb hby at_99) ?_
    show Steps p.tables e below (T5.setTop (mkF m 101 #[.val (.long q1), .second, .val (.long q2), .second, .val (.long q3), .second, .val (.long q4), .second, .val (.long q5), .second, .val (.int p6), .val (.long (q1 &&& (9223372036854775807 : Int64))), .second, .val (.long (q2 &&& (9223372036854775807 : Int64))), .second, .val (.long (q3 &&& (9223372036854775807 : Int64))), .second, .val (.long (q4 &&& (9223372036854775807 : Int64))), .second, .val (.int (f1 (p6 &&& (3 : Int32)) (2 : Int32))), .val (.int (f1 ((XT.ushr p6 (2 : Int32)) &&& (3 : Int32)) (2 : Int32))), .val (.long (f0_0 q1 q2 q3 q4 q5 p6)), .second, .val (.long (f0_1 q1 q2 q3 q4 q5 p6)), .second, .val (.long (f0_2 q1 q2 q3 q4 q5 p6)), .second, .unset, .unset, .unset, .unset, .unset] [(.int (48 : Int32)), (.long q5)])) _
    refine XT.lushr X5.here hx rfl (hb hby at_101) rfl ?_
    show Steps p.tables e below (T5.setTop (mkF m 102 #[.val (.long q1), .second, .val (.long q2), .second, .val (.long q3), .second, .val (.long q4), .second, .val (.long q5), .second, .val (.int p6), .val (.long (q1 &&& (9223372036854775807 : Int64))), .second, .val (.long (q2 &&& (9223372036854775807 : Int64))), .second, .val (.long (q3 &&& (9223372036854775807 : Int64))), .second, .val (.long (q4 &&& (9223372036854775807 : Int64))), .second, .val (.int (f1 (p6 &&& (3 : Int32)) (2 : Int32))), .val (.int (f1 ((XT.ushr p6 (2 : Int32)) &&& (3 : Int32)) (2 : Int32))), .val (.long (f0_0 q1 q2 q3 q4 q5 p6)), .second, .val (.long (f0_1 q1 q2 q3 q4 q5 p6)), .second, .val (.long (f0_2 q1 q2 q3 q4 q5 p6)), .second, .unset, .unset, .unset, .unset, .unset] [(.long (XT.ushrL q5 (48 : Int32)))])) _
    refine X5.ldc2Long hx hown (mvT hZ (hw _ (List.mem_of_getElem? (i := 5) rfl))) (g := (mkF m 102 #[.val (.long q1), .second, .val (.long q2), .second, .val (.long q3), .second, .val (.long q4), .second, .val (.long q5), .second, .val (.int p6), .val (.long (q1 &&& (9223372036854775807 : Int64))), .second, .val (.long (q2 &&& (9223372036854775807 : Int64))), .second, .val (.long (q3 &&& (9223372036854775807 : Int64))), .second, .val (.long (q4 &&& (9223372036854775807 : Int64))), .second, .val (.int (f1 (p6 &&& (3 : Int32)) (2 : Int32))), .val (.int (f1 ((XT.ushr p6 (2 : Int32)) &&& (3 : Int32)) (2 : Int32))), .val (.long (f0_0 q1 q2 q3 q4 q5 p6)), .second, .val (.long (f0_1 q1 q2 q3 q4 q5 p6)), .second, .val (.long (f0_2 q1 q2 q3 q4 q5 p6)), .second, .unset, .unset, .unset, .unset, .unset] [(.long (XT.ushrL q5 (48 : Int32)))])) rfl (hb hby at_102) _ ?_
    show Steps p.tables e below (T5.setTop (mkF m 105 #[.val (.long q1), .second, .val (.long q2), .second, .val (.long q3), .second, .val (.long q4), .second, .val (.long q5), .second, .val (.int p6), .val (.long (q1 &&& (9223372036854775807 : Int64))), .second, .val (.long (q2 &&& (9223372036854775807 : Int64))), .second, .val (.long (q3 &&& (9223372036854775807 : Int64))), .second, .val (.long (q4 &&& (9223372036854775807 : Int64))), .second, .val (.int (f1 (p6 &&& (3 : Int32)) (2 : Int32))), .val (.int (f1 ((XT.ushr p6 (2 : Int32)) &&& (3 : Int32)) (2 : Int32))), .val (.long (f0_0 q1 q2 q3 q4 q5 p6)), .second, .val (.long (f0_1 q1 q2 q3 q4 q5 p6)), .second, .val (.long (f0_2 q1 q2 q3 q4 q5 p6)), .second, .unset, .unset, .unset, .unset, .unset] [(.long (65535 : Int64)), (.long (XT.ushrL q5 (48 : Int32)))])) _
    refine XT.land X5.here hx rfl (hb hby at_105) rfl ?_
    show Steps p.tables e below (T5.setTop (mkF m 106 #[.val (.long q1), .second, .val (.long q2), .second, .val (.long q3), .second, .val (.long q4), .second, .val (.long q5), .second, .val (.int p6), .val (.long (q1 &&& (9223372036854775807 : Int64))), .second, .val (.long (q2 &&& (9223372036854775807 : Int64))), .second, .val (.long (q3 &&& (9223372036854775807 : Int64))), .second, .val (.long (q4 &&& (9223372036854775807 : Int64))), .second, .val (.int (f1 (p6 &&& (3 : Int32)) (2 : Int32))), .val (.int (f1 ((XT.ushr p6 (2 : Int32)) &&& (3 : Int32)) (2 : Int32))), .val (.long (f0_0 q1 q2 q3 q4 q5 p6)), .second, .val (.long (f0_1 q1 q2 q3 q4 q5 p6)), .second, .val (.long (f0_2 q1 q2 q3 q4 q5 p6)), .second, .unset, .unset, .unset, .unset, .unset] [(.long ((XT.ushrL q5 (48 : Int32)) &&& (65535 : Int64)))])) _
    refine XT.lload X5.here hx rfl (hb hby at_106) rfl ?_
    show Steps p.tables e below (T5.setTop (mkF m 108 #[.val (.long q1), .second, .val (.long q2), .second, .val (.long q3), .second, .val (.long q4), .second, .val (.long q5), .second, .val (.int p6), .val (.long (q1 &&& (9223372036854775807 : Int64))), .second, .val (.long (q2 &&& (9223372036854775807 : Int64))), .second, .val (.long (q3 &&& (9223372036854775807 : Int64))), .second, .val (.long (q4 &&& (9223372036854775807 : Int64))), .second, .val (.int (f1 (p6 &&& (3 : Int32)) (2 : Int32))), .val (.int (f1 ((XT.ushr p6 (2 : Int32)) &&& (3 : Int32)) (2 : Int32))), .val (.long (f0_0 q1 q2 q3 q4 q5 p6)), .second, .val (.long (f0_1 q1 q2 q3 q4 q5 p6)), .second, .val (.long (f0_2 q1 q2 q3 q4 q5 p6)), .second, .unset, .unset, .unset, .unset, .unset] [(.long (q2 &&& (9223372036854775807 : Int64))), (.long ((XT.ushrL q5 (48 : Int32)) &&& (65535 : Int64)))])) _
    refine st6 _ ?_
    show Steps p.tables e below (T6.setTop (mkF m 111 #[.val (.long q1), .second, .val (.long q2), .second, .val (.long q3), .second, .val (.long q4), .second, .val (.long q5), .second, .val (.int p6), .val (.long (q1 &&& (9223372036854775807 : Int64))), .second, .val (.long (q2 &&& (9223372036854775807 : Int64))), .second, .val (.long (q3 &&& (9223372036854775807 : Int64))), .second, .val (.long (q4 &&& (9223372036854775807 : Int64))), .second, .val (.int (f1 (p6 &&& (3 : Int32)) (2 : Int32))), .val (.int (f1 ((XT.ushr p6 (2 : Int32)) &&& (3 : Int32)) (2 : Int32))), .val (.long (f0_0 q1 q2 q3 q4 q5 p6)), .second, .val (.long (f0_1 q1 q2 q3 q4 q5 p6)), .second, .val (.long (f0_2 q1 q2 q3 q4 q5 p6)), .second, .unset, .unset, .unset, .unset, .unset] [(.long (f0_3 q1 q2 q3 q4 q5 p6))])) _
    refine XT.lstore X6.here hx rfl (hb hby at_111) rfl (l' := #[.val (.long q1), .second, .val (.long q2), .second, .val (.long q3), .second, .val (.long q4), .second, .val (.long q5), .second, .val (.int p6), .val (.long (q1 &&& (9223372036854775807 : Int64))), .second, .val (.long (q2 &&& (9223372036854775807 : Int64))), .second, .val (.long (q3 &&& (9223372036854775807 : Int64))), .second, .val (.long (q4 &&& (9223372036854775807 : Int64))), .second, .val (.int (f1 (p6 &&& (3 : Int32)) (2 : Int32))), .val (.int (f1 ((XT.ushr p6 (2 : Int32)) &&& (3 : Int32)) (2 : Int32))), .val (.long (f0_0 q1 q2 q3 q4 q5 p6)), .second, .val (.long (f0_1 q1 q2 q3 q4 q5 p6)), .second, .val (.long (f0_2 q1 q2 q3 q4 q5 p6)), .second, .val (.long (f0_3 q1 q2 q3 q4 q5 p6)), .second, .unset, .unset, .unset]) rfl ?_
    show Steps p.tables e below (T6.setTop (mkF m 113 #[.val (.long q1), .second, .val (.long q2), .second, .val (.long q3), .second, .val (.long q4), .second, .val (.long q5), .second, .val (.int p6), .val (.long (q1 &&& (9223372036854775807 : Int64))), .second, .val (.long (q2 &&& (9223372036854775807 : Int64))), .second, .val (.long (q3 &&& (9223372036854775807 : Int64))), .second, .val (.long (q4 &&& (9223372036854775807 : Int64))), .second, .val (.int (f1 (p6 &&& (3 : Int32)) (2 : Int32))), .val (.int (f1 ((XT.ushr p6 (2 : Int32)) &&& (3 : Int32)) (2 : Int32))), .val (.long (f0_0 q1 q2 q3 q4 q5 p6)), .second, .val (.long (f0_1 q1 q2 q3 q4 q5 p6)), .second, .val (.long (f0_2 q1 q2 q3 q4 q5 p6)), .second, .val (.long (f0_3 q1 q2 q3 q4 q5 p6)), .second, .unset, .unset, .unset] [])) _
    refine st7 _ ?_
    show Steps p.tables e below (T7.setTop (mkF m 116 #[.val (.long q1), .second, .val (.long q2), .second, .val (.long q3), .second, .val (.long q4), .second, .val (.long q5), .second, .val (.int p6), .val (.long (q1 &&& (9223372036854775807 : Int64))), .second, .val (.long (q2 &&& (9223372036854775807 : Int64))), .second, .val (.long (q3 &&& (9223372036854775807 : Int64))), .second, .val (.long (q4 &&& (9223372036854775807 : Int64))), .second, .val (.int (f1 (p6 &&& (3 : Int32)) (2 : Int32))), .val (.int (f1 ((XT.ushr p6 (2 : Int32)) &&& (3 : Int32)) (2 : Int32))), .val (.long (f0_0 q1 q2 q3 q4 q5 p6)), .second, .val (.long (f0_1 q1 q2 q3 q4 q5 p6)), .second, .val (.long (f0_2 q1 q2 q3 q4 q5 p6)), .second, .val (.long (f0_3 q1 q2 q3 q4 q5 p6)), .second, .unset, .unset, .unset] [(.ref o7)])) _
    refine XS.dup X7.here hx rfl (hb hby at_116) rfl rfl ?_
    show Steps p.tables e below (T7.setTop (mkF m 117 #[.val (.long q1), .second, .val (.long q2), .second, .val (.long q3), .second, .val (.long q4), .second, .val (.long q5), .second, .val (.int p6), .val (.long (q1 &&& (9223372036854775807 : Int64))), .second, .val (.long (q2 &&& (9223372036854775807 : Int64))), .second, .val (.long (q3 &&& (9223372036854775807 : Int64))), .second, .val (.long (q4 &&& (9223372036854775807 : Int64))), .second, .val (.int (f1 (p6 &&& (3 : Int32)) (2 : Int32))), .val (.int (f1 ((XT.ushr p6 (2 : Int32)) &&& (3 : Int32)) (2 : Int32))), .val (.long (f0_0 q1 q2 q3 q4 q5 p6)), .second, .val (.long (f0_1 q1 q2 q3 q4 q5 p6)), .second, .val (.long (f0_2 q1 q2 q3 q4 q5 p6)), .second, .val (.long (f0_3 q1 q2 q3 q4 q5 p6)), .second, .unset, .unset, .unset] [(.ref o7), (.ref o7)])) _
    refine XT.lload X7.here hx rfl (hb hby at_117) rfl ?_
    show Steps p.tables e below (T7.setTop (mkF m 119 #[.val (.long q1), .second, .val (.long q2), .second, .val (.long q3), .second, .val (.long q4), .second, .val (.long q5), .second, .val (.int p6), .val (.long (q1 &&& (9223372036854775807 : Int64))), .second, .val (.long (q2 &&& (9223372036854775807 : Int64))), .second, .val (.long (q3 &&& (9223372036854775807 : Int64))), .second, .val (.long (q4 &&& (9223372036854775807 : Int64))), .second, .val (.int (f1 (p6 &&& (3 : Int32)) (2 : Int32))), .val (.int (f1 ((XT.ushr p6 (2 : Int32)) &&& (3 : Int32)) (2 : Int32))), .val (.long (f0_0 q1 q2 q3 q4 q5 p6)), .second, .val (.long (f0_1 q1 q2 q3 q4 q5 p6)), .second, .val (.long (f0_2 q1 q2 q3 q4 q5 p6)), .second, .val (.long (f0_3 q1 q2 q3 q4 q5 p6)), .second, .unset, .unset, .unset] [(.long (q1 &&& (9223372036854775807 : Int64))), (.ref o7), (.ref o7)])) _
    refine XT.lload X7.here hx rfl (hb hby at_119) rfl ?_
    show Steps p.tables e below (T7.setTop (mkF m 121 #[.val (.long q1), .second, .val (.long q2), .second, .val (.long q3), .second, .val (.long q4), .second, .val (.long q5), .second, .val (.int p6), .val (.long (q1 &&& (9223372036854775807 : Int64))), .second, .val (.long (q2 &&& (9223372036854775807 : Int64))), .second, .val (.long (q3 &&& (9223372036854775807 : Int64))), .second, .val (.long (q4 &&& (9223372036854775807 : Int64))), .second, .val (.int (f1 (p6 &&& (3 : Int32)) (2 : Int32))), .val (.int (f1 ((XT.ushr p6 (2 : Int32)) &&& (3 : Int32)) (2 : Int32))), .val (.long (f0_0 q1 q2 q3 q4 q5 p6)), .second, .val (.long (f0_1 q1 q2 q3 q4 q5 p6)), .second, .val (.long (f0_2 q1 q2 q3 q4 q5 p6)), .second, .val (.long (f0_3 q1 q2 q3 q4 q5 p6)), .second, .unset, .unset, .unset] [(.long (q3 &&& (9223372036854775807 : Int64))), (.long (q1 &&& (9223372036854775807 : Int64))), (.ref o7), (.ref o7)])) _
    refine XS.iload X7.here hx rfl (hb hby at_121) rfl ?_
    show Steps p.tables e below (T7.setTop (mkF m 123 #[.val (.long q1), .second, .val (.long q2), .second, .val (.long q3), .second, .val (.long q4), .second, .val (.long q5), .second, .val (.int p6), .val (.long (q1 &&& (9223372036854775807 : Int64))), .second, .val (.long (q2 &&& (9223372036854775807 : Int64))), .second, .val (.long (q3 &&& (9223372036854775807 : Int64))), .second, .val (.long (q4 &&& (9223372036854775807 : Int64))), .second, .val (.int (f1 (p6 &&& (3 : Int32)) (2 : Int32))), .val (.int (f1 ((XT.ushr p6 (2 : Int32)) &&& (3 : Int32)) (2 : Int32))), .val (.long (f0_0 q1 q2 q3 q4 q5 p6)), .second, .val (.long (f0_1 q1 q2 q3 q4 q5 p6)), .second, .val (.long (f0_2 q1 q2 q3 q4 q5 p6)), .second, .val (.long (f0_3 q1 q2 q3 q4 q5 p6)), .second, .unset, .unset, .unset] [(.int (f1 (p6 &&& (3 : Int32)) (2 : Int32))), (.long (q3 &&& (9223372036854775807 : Int64))), (.long (q1 &&& (9223372036854775807 : Int64))), (.ref o7), (.ref o7)])) _
    refine XT.lload X7.here hx rfl (hb hby at_123) rfl ?_
    show Steps p.tables e below (T7.setTop (mkF m 125 #[.val (.long q1), .second, .val (.long q2), .second, .val (.long q3), .second, .val (.long q4), .second, .val (.long q5), .second, .val (.int p6), .val (.long (q1 &&& (9223372036854775807 : Int64))), .second, .val (.long (q2 &&& (9223372036854775807 : Int64))), .second, .val (.long (q3 &&& (9223372036854775807 : Int64))), .second, .val (.long (q4 &&& (9223372036854775807 : Int64))), .second, .val (.int (f1 (p6 &&& (3 : Int32)) (2 : Int32))), .val (.int (f1 ((XT.ushr p6 (2 : Int32)) &&& (3 : Int32)) (2 : Int32))), .val (.long (f0_0 q1 q2 q3 q4 q5 p6)), .second, .val (.long (f0_1 q1 q2 q3 q4 q5 p6)), .second, .val (.long (f0_2 q1 q2 q3 q4 q5 p6)), .second, .val (.long (f0_3 q1 q2 q3 q4 q5 p6)), .second, .unset, .unset, .unset] [(.long (f0_0 q1 q2 q3 q4 q5 p6)), (.int (f1 (p6 &&& (3 : Int32)) (2 : Int32))), (.long (q3 &&& (9223372036854775807 : Int64))), (.long (q1 &&& (9223372036854775807 : Int64))), (.ref o7), (.ref o7)])) _
    refine XT.lload X7.here hx rfl (hb hby at_125) rfl ?_
    show Steps p.tables e below (T7.setTop (mkF m 127 #[.val (.long q1), .second, .val (.long q2), .second, .val (.long q3), .second, .val (.long q4), .second, .val (.long q5), .second, .val (.int p6), .val (.long (q1 &&& (9223372036854775807 : Int64))), .second, .val (.long (q2 &&& (9223372036854775807 : Int64))), .second, .val (.long (q3 &&& (9223372036854775807 : Int64))), .second, .val (.long (q4 &&& (9223372036854775807 : Int64))), .second, .val (.int (f1 (p6 &&& (3 : Int32)) (2 : Int32))), .val (.int (f1 ((XT.ushr p6 (2 : Int32)) &&& (3 : Int32)) (2 : Int32))), .val (.long (f0_0 q1 q2 q3 q4 q5 p6)), .second, .val (.long (f0_1 q1 q2 q3 q4 q5 p6)), .second, .val (.long (f0_2 q1 q2 q3 q4 q5 p6)), .second, .val (.long (f0_3 q1 q2 q3 q4 q5 p6)), .second, .unset, .unset, .unset] [(.long (f0_1 q1 q2 q3 q4 q5 p6)), (.long (f0_0 q1 q2 q3 q4 q5 p6)), (.int (f1 (p6 &&& (3 : Int32)) (2 : Int32))), (.long (q3 &&& (9223372036854775807 : Int64))), (.long (q1 &&& (9223372036854775807 : Int64))), (.ref o7), (.ref o7)])) _
    refine st8 _ ?_
    show Steps p.tables e below (T8.setTop (mkF m 130 #[.val (.long q1), .second, .val (.long q2), .second, .val (.long q3), .second, .val (.long q4), .second, .val (.long q5), .second, .val (.int p6), .val (.long (q1 &&& (9223372036854775807 : Int64))), .second, .val (.long (q2 &&& (9223372036854775807 : Int64))), .second, .val (.long (q3 &&& (9223372036854775807 : Int64))), .second, .val (.long (q4 &&& (9223372036854775807 : Int64))), .second, .val (.int (f1 (p6 &&& (3 : Int32)) (2 : Int32))), .val (.int (f1 ((XT.ushr p6 (2 : Int32)) &&& (3 : Int32)) (2 : Int32))), .val (.long (f0_0 q1 q2 q3 q4 q5 p6)), .second, .val (.long (f0_1 q1 q2 q3 q4 q5 p6)), .second, .val (.long (f0_2 q1 q2 q3 q4 q5 p6)), .second, .val (.long (f0_3 q1 q2 q3 q4 q5 p6)), .second, .unset, .unset, .unset] [(.ref r8), (.long (q3 &&& (9223372036854775807 : Int64))), (.long (q1 &&& (9223372036854775807 : Int64))), (.ref o7), (.ref o7)])) _
    refine st9.trans ?_
    show Steps p.tables e below (T9.setTop (mkF m 133 #[.val (.long q1), .second, .val (.long q2), .second, .val (.long q3), .second, .val (.long q4), .second, .val (.long q5), .second, .val (.int p6), .val (.long (q1 &&& (9223372036854775807 : Int64))), .second, .val (.long (q2 &&& (9223372036854775807 : Int64))), .second, .val (.long (q3 &&& (9223372036854775807 : Int64))), .second, .val (.long (q4 &&& (9223372036854775807 : Int64))), .second, .val (.int (f1 (p6 &&& (3 : Int32)) (2 : Int32))), .val (.int (f1 ((XT.ushr p6 (2 : Int32)) &&& (3 : Int32)) (2 : Int32))), .val (.long (f0_0 q1 q2 q3 q4 q5 p6)), .second, .val (.long (f0_1 q1 q2 q3 q4 q5 p6)), .second, .val (.long (f0_2 q1 q2 q3 q4 q5 p6)), .second, .val (.long (f0_3 q1 q2 q3 q4 q5 p6)), .second, .unset, .unset, .unset] [(.ref o7)])) _
    refine XS.astore X9.here hx rfl (hb hby at_133) rfl rfl (l' := #[.val (.long q1), .second, .val (.long q2), .second, .val (.long q3), .second, .val (.long q4), .second, .val (.long q5), .second, .val (.int p6), .val (.long (q1 &&& (9223372036854775807 : Int64))), .second, .val (.long (q2 &&& (9223372036854775807 : Int64))), .second, .val (.long (q3 &&& (9223372036854775807 : Int64))), .second, .val (.long (q4 &&& (9223372036854775807 : Int64))), .second, .val (.int (f1 (p6 &&& (3 : Int32)) (2 : Int32))), .val (.int (f1 ((XT.ushr p6 (2 : Int32)) &&& (3 : Int32)) (2 : Int32))), .val (.long (f0_0 q1 q2 q3 q4 q5 p6)), .second, .val (.long (f0_1 q1 q2 q3 q4 q5 p6)), .second, .val (.long (f0_2 q1 q2 q3 q4 q5 p6)), .second, .val (.long (f0_3 q1 q2 q3 q4 q5 p6)), .second, .val (.ref o7), .unset, .unset]) rfl ?_
    show Steps p.tables e below (T9.setTop (mkF m 135 #[.val (.long q1), .second, .val (.long q2), .second, .val (.long q3), .second, .val (.long q4), .second, .val (.long q5), .second, .val (.int p6), .val (.long (q1 &&& (9223372036854775807 : Int64))), .second, .val (.long (q2 &&& (9223372036854775807 : Int64))), .second, .val (.long (q3 &&& (9223372036854775807 : Int64))), .second, .val (.long (q4 &&& (9223372036854775807 : Int64))), .second, .val (.int (f1 (p6 &&& (3 : Int32)) (2 : Int32))), .val (.int (f1 ((XT.ushr p6 (2 : Int32)) &&& (3 : Int32)) (2 : Int32))), .val (.long (f0_0 q1 q2 q3 q4 q5 p6)), .second, .val (.long (f0_1 q1 q2 q3 q4 q5 p6)), .second, .val (.long (f0_2 q1 q2 q3 q4 q5 p6)), .second, .val (.long (f0_3 q1 q2 q3 q4 q5 p6)), .second, .val (.ref o7), .unset, .unset] [])) _
    refine st10 _ ?_
    show Steps p.tables e below (T10.setTop (mkF m 138 #[.val (.long q1), .second, .val (.long q2), .second, .val (.long q3), .second, .val (.long q4), .second, .val (.long q5), .second, .val (.int p6), .val (.long (q1 &&& (9223372036854775807 : Int64))), .second, .val (.long (q2 &&& (9223372036854775807 : Int64))), .second, .val (.long (q3 &&& (9223372036854775807 : Int64))), .second, .val (.long (q4 &&& (9223372036854775807 : Int64))), .second, .val (.int (f1 (p6 &&& (3 : Int32)) (2 : Int32))), .val (.int (f1 ((XT.ushr p6 (2 : Int32)) &&& (3 : Int32)) (2 : Int32))), .val (.long (f0_0 q1 q2 q3 q4 q5 p6)), .second, .val (.long (f0_1 q1 q2 q3 q4 q5 p6)), .second, .val (.long (f0_2 q1 q2 q3 q4 q5 p6)), .second, .val (.long (f0_3 q1 q2 q3 q4 q5 p6)), .second, .val (.ref o7), .unset, .unset] [(.ref o10)])) _
    refine XS.dup X10.here hx rfl (hb hby at_138) rfl rfl ?_
    show Steps p.tables e below (T10.setTop (mkF m 139 #[.val (.long q1), .second, .val (.long q2), .second, .val (.long q3), .second, .val (.long q4), .second, .val (.long q5), .second, .val (.int p6), .val (.long (q1 &&& (9223372036854775807 : Int64))), .second, .val (.long (q2 &&& (9223372036854775807 : Int64))), .second, .val (.long (q3 &&& (9223372036854775807 : Int64))), .second, .val (.long (q4 &&& (9223372036854775807 : Int64))), .second, .val (.int (f1 (p6 &&& (3 : Int32)) (2 : Int32))), .val (.int (f1 ((XT.ushr p6 (2 : Int32)) &&& (3 : Int32)) (2 : Int32))), .val (.long (f0_0 q1 q2 q3 q4 q5 p6)), .second, .val (.long (f0_1 q1 q2 q3 q4 q5 p6)), .second, .val (.long (f0_2 q1 q2 q3 q4 q5 p6)), .second, .val (.long (f0_3 q1 q2 q3 q4 q5 p6)), .second, .val (.ref o7), .unset, .unset] [(.ref o10), (.ref o10)])) _
    refine XT.lload X10.here hx rfl (hb hby at_139) rfl ?_
    show Steps p.tables e below (T10.setTop (mkF m 141 #[.val (.long q1), .second, .val (.long q2), .second, .val (.long q3), .second, .val (.long q4), .second, .val (.long q5), .second, .val (.int p6), .val (.long (q1 &&& (9223372036854775807 : Int64))), .second, .val (.long (q2 &&& (9223372036854775807 : Int64))), .second, .val (.long (q3 &&& (9223372036854775807 : Int64))), .second, .val (.long (q4 &&& (9223372036854775807 : Int64))), .second, .val (.int (f1 (p6 &&& (3 : Int32)) (2 : Int32))), .val (.int (f1 ((XT.ushr p6 (2 : Int32)) &&& (3 : Int32)) (2 : Int32))), .val (.long (f0_0 q1 q2 q3 q4 q5 p6)), .second, .val (.long (f0_1 q1 q2 q3 q4 q5 p6)), .second, .val (.long (f0_2 q1 q2 q3 q4 q5 p6)), .second, .val (.long (f0_3 q1 q2 q3 q4 q5 p6)), .second, .val (.ref o7), .unset, .unset] [(.long (q2 &&& (9223372036854775807 : Int64))), (.ref o10), (.ref o10)])) _
    refine XT.lload X10.here hx rfl (hb hby at_141) rfl ?_
    show Steps p.tables e below (T10.setTop (mkF m 143 #[.val (.long q1), .second, .val (.long q2), .second, .val (.long q3), .second, .val (.long q4), .second, .val (.long q5), .second, .val (.int p6), .val (.long (q1 &&& (9223372036854775807 : Int64))), .second, .val (.long (q2 &&& (9223372036854775807 : Int64))), .second, .val (.long (q3 &&& (9223372036854775807 : Int64))), .second, .val (.long (q4 &&& (9223372036854775807 : Int64))), .second, .val (.int (f1 (p6 &&& (3 : Int32)) (2 : Int32))), .val (.int (f1 ((XT.ushr p6 (2 : Int32)) &&& (3 : Int32)) (2 : Int32))), .val (.long (f0_0 q1 q2 q3 q4 q5 p6)), .second, .val (.long (f0_1 q1 q2 q3 q4 q5 p6)), .second, .val (.long (f0_2 q1 q2 q3 q4 q5 p6)), .second, .val (.long (f0_3 q1 q2 q3 q4 q5 p6)), .second, .val (.ref o7), .unset, .unset] [(.long (q4 &&& (9223372036854775807 : Int64))), (.long (q2 &&& (9223372036854775807 : Int64))), (.ref o10), (.ref o10)])) _
    refine XS.iload X10.here hx rfl (hb hby at_143) rfl ?_
    show Steps p.tables e below (T10.setTop (mkF m 145 #[.val (.long q1), .second, .val (.long q2), .second, .val (.long q3), .second, .val (.long q4), .second, .val (.long q5), .second, .val (.int p6), .val (.long (q1 &&& (9223372036854775807 : Int64))), .second, .val (.long (q2 &&& (9223372036854775807 : Int64))), .second, .val (.long (q3 &&& (9223372036854775807 : Int64))), .second, .val (.long (q4 &&& (9223372036854775807 : Int64))), .second, .val (.int (f1 (p6 &&& (3 : Int32)) (2 : Int32))), .val (.int (f1 ((XT.ushr p6 (2 : Int32)) &&& (3 : Int32)) (2 : Int32))), .val (.long (f0_0 q1 q2 q3 q4 q5 p6)), .second, .val (.long (f0_1 q1 q2 q3 q4 q5 p6)), .second, .val (.long (f0_2 q1 q2 q3 q4 q5 p6)), .second, .val (.long (f0_3 q1 q2 q3 q4 q5 p6)), .second, .val (.ref o7), .unset, .unset] [(.int (f1 ((XT.ushr p6 (2 : Int32)) &&& (3 : Int32)) (2 : Int32))), (.long (q4 &&& (9223372036854775807 : Int64))), (.long (q2 &&& (9223372036854775807 : Int64))), (.ref o10), (.ref o10)])) _
    refine XT.lload X10.here hx rfl (hb hby at_145) rfl ?_
    show Steps p.tables e below (T10.setTop (mkF m 147 #[.val (.long q1), .second, .val (.long q2), .second, .val (.long q3), .second, .val (.long q4), .second, .val (.long q5), .second, .val (.int p6), .val (.long (q1 &&& (9223372036854775807 : Int64))), .second, .val (.long (q2 &&& (9223372036854775807 : Int64))), .second, .val (.long (q3 &&& (9223372036854775807 : Int64))), .second, .val (.long (q4 &&& (9223372036854775807 : Int64))), .second, .val (.int (f1 (p6 &&& (3 : Int32)) (2 : Int32))), .val (.int (f1 ((XT.ushr p6 (2 : Int32)) &&& (3 : Int32)) (2 : Int32))), .val (.long (f0_0 q1 q2 q3 q4 q5 p6)), .second, .val (.long (f0_1 q1 q2 q3 q4 q5 p6)), .second, .val (.long (f0_2 q1 q2 q3 q4 q5 p6)), .second, .val (.long (f0_3 q1 q2 q3 q4 q5 p6)), .second, .val (.ref o7), .unset, .unset] [(.long (f0_2 q1 q2 q3 q4 q5 p6)), (.int (f1 ((XT.ushr p6 (2 : Int32)) &&& (3 : Int32)) (2 : Int32))), (.long (q4 &&& (9223372036854775807 : Int64))), (.long (q2 &&& (9223372036854775807 : Int64))), (.ref o10), (.ref o10)])) _
    refine XT.lload X10.here hx rfl (hb hby at_147) rfl ?_
    show Steps p.tables e below (T10.setTop (mkF m 149 #[.val (.long q1), .second, .val (.long q2), .second, .val (.long q3), .second, .val (.long q4), .second, .val (.long q5), .second, .val (.int p6), .val (.long (q1 &&& (9223372036854775807 : Int64))), .second, .val (.long (q2 &&& (9223372036854775807 : Int64))), .second, .val (.long (q3 &&& (9223372036854775807 : Int64))), .second, .val (.long (q4 &&& (9223372036854775807 : Int64))), .second, .val (.int (f1 (p6 &&& (3 : Int32)) (2 : Int32))), .val (.int (f1 ((XT.ushr p6 (2 : Int32)) &&& (3 : Int32)) (2 : Int32))), .val (.long (f0_0 q1 q2 q3 q4 q5 p6)), .second, .val (.long (f0_1 q1 q2 q3 q4 q5 p6)), .second, .val (.long (f0_2 q1 q2 q3 q4 q5 p6)), .second, .val (.long (f0_3 q1 q2 q3 q4 q5 p6)), .second, .val (.ref o7), .unset, .unset] [(.long (f0_3 q1 q2 q3 q4 q5 p6)), (.long (f0_2 q1 q2 q3 q4 q5 p6)), (.int (f1 ((XT.ushr p6 (2 : Int32)) &&& (3 : Int32)) (2 : Int32))), (.long (q4 &&& (9223372036854775807 : Int64))), (.long (q2 &&& (9223372036854775807 : Int64))), (.ref o10), (.ref o10)])) _
    refine st11 _ ?_
    show Steps p.tables e below (T11.setTop (mkF m 152 #[.val (.long q1), .second, .val (.long q2), .second, .val (.long q3), .second, .val (.long q4), .second, .val (.long q5), .second, .val (.int p6), .val (.long (q1 &&& (9223372036854775807 : Int64))), .second, .val (.long (q2 &&& (9223372036854775807 : Int64))), .second, .val (.long (q3 &&& (9223372036854775807 : Int64))), .second, .val (.long (q4 &&& (9223372036854775807 : Int64))), .second, .val (.int (f1 (p6 &&& (3 : Int32)) (2 : Int32))), .val (.int (f1 ((XT.ushr p6 (2 : Int32)) &&& (3 : Int32)) (2 : Int32))), .val (.long (f0_0 q1 q2 q3 q4 q5 p6)), .second, .val (.long (f0_1 q1 q2 q3 q4 q5 p6)), .second, .val (.long (f0_2 q1 q2 q3 q4 q5 p6)), .second, .val (.long (f0_3 q1 q2 q3 q4 q5 p6)), .second, .val (.ref o7), .unset, .unset] [(.ref r11), (.long (q4 &&& (9223372036854775807 : Int64))), (.long (q2 &&& (9223372036854775807 : Int64))), (.ref o10), (.ref o10)])) _
    refine st12.trans ?_
    show Steps p.tables e below (T12.setTop (mkF m 155 #[.val (.long q1), .second, .val (.long q2), .second, .val (.long q3), .second, .val (.long q4), .second, .val (.long q5), .second, .val (.int p6), .val (.long (q1 &&& (9223372036854775807 : Int64))), .second, .val (.long (q2 &&& (9223372036854775807 : Int64))), .second, .val (.long (q3 &&& (9223372036854775807 : Int64))), .second, .val (.long (q4 &&& (9223372036854775807 : Int64))), .second, .val (.int (f1 (p6 &&& (3 : Int32)) (2 : Int32))), .val (.int (f1 ((XT.ushr p6 (2 : Int32)) &&& (3 : Int32)) (2 : Int32))), .val (.long (f0_0 q1 q2 q3 q4 q5 p6)), .second, .val (.long (f0_1 q1 q2 q3 q4 q5 p6)), .second, .val (.long (f0_2 q1 q2 q3 q4 q5 p6)), .second, .val (.long (f0_3 q1 q2 q3 q4 q5 p6)), .second, .val (.ref o7), .unset, .unset] [(.ref o10)])) _
    refine XS.astore X12.here hx rfl (hb hby at_155) rfl rfl (l' := #[.val (.long q1), .second, .val (.long q2), .second, .val (.long q3), .second, .val (.long q4), .second, .val (.long q5), .second, .val (.int p6), .val (.long (q1 &&& (9223372036854775807 : Int64))), .second, .val (.long (q2 &&& (9223372036854775807 : Int64))), .second, .val (.long (q3 &&& (9223372036854775807 : Int64))), .second, .val (.long (q4 &&& (9223372036854775807 : Int64))), .second, .val (.int (f1 (p6 &&& (3 : Int32)) (2 : Int32))), .val (.int (f1 ((XT.ushr p6 (2 : Int32)) &&& (3 : Int32)) (2 : Int32))), .val (.long (f0_0 q1 q2 q3 q4 q5 p6)), .second, .val (.long (f0_1 q1 q2 q3 q4 q5 p6)), .second, .val (.long (f0_2 q1 q2 q3 q4 q5 p6)), .second, .val (.long (f0_3 q1 q2 q3 q4 q5 p6)), .second, .val (.ref o7), .val (.ref o10), .unset]) rfl ?_
    show Steps p.tables e below (T12.setTop (mkF m 157 #[.val (.long q1), .second, .val (.long q2), .second, .val (.long q3), .second, .val (.long q4), .second, .val (.long q5), .second, .val (.int p6), .val (.long (q1 &&& (9223372036854775807 : Int64))), .second, .val (.long (q2 &&& (9223372036854775807 : Int64))), .second, .val (.long (q3 &&& (9223372036854775807 : Int64))), .second, .val (.long (q4 &&& (9223372036854775807 : Int64))), .second, .val (.int (f1 (p6 &&& (3 : Int32)) (2 : Int32))), .val (.int (f1 ((XT.ushr p6 (2 : Int32)) &&& (3 : Int32)) (2 : Int32))), .val (.long (f0_0 q1 q2 q3 q4 q5 p6)), .second, .val (.long (f0_1 q1 q2 q3 q4 q5 p6)), .second, .val (.long (f0_2 q1 q2 q3 q4 q5 p6)), .second, .val (.long (f0_3 q1 q2 q3 q4 q5 p6)), .second, .val (.ref o7), .val (.ref o10), .unset] [])) _
    refine XS.iload X12.here hx rfl (hb hby at_157) rfl ?_
    show Steps p.tables e below (T12.setTop (mkF m 159 #[.val (.long q1), .second, .val (.long q2), .second, .val (.long q3), .second, .val (.long q4), .second, .val (.long q5), .second, .val (.int p6), .val (.long (q1 &&& (9223372036854775807 : Int64))), .second, .val (.long (q2 &&& (9223372036854775807 : Int64))), .second, .val (.long (q3 &&& (9223372036854775807 : Int64))), .second, .val (.long (q4 &&& (9223372036854775807 : Int64))), .second, .val (.int (f1 (p6 &&& (3 : Int32)) (2 : Int32))), .val (.int (f1 ((XT.ushr p6 (2 : Int32)) &&& (3 : Int32)) (2 : Int32))), .val (.long (f0_0 q1 q2 q3 q4 q5 p6)), .second, .val (.long (f0_1 q1 q2 q3 q4 q5 p6)), .second, .val (.long (f0_2 q1 q2 q3 q4 q5 p6)), .second, .val (.long (f0_3 q1 q2 q3 q4 q5 p6)), .second, .val (.ref o7), .val (.ref o10), .unset] [(.int (f1 (p6 &&& (3 : Int32)) (2 : Int32)))])) _
    refine XS.iload X12.here hx rfl (hb hby at_159) rfl ?_
    show Steps p.tables e below (T12.setTop (mkF m 161 #[.val (.long q1), .second, .val (.long q2), .second, .val (.long q3), .second, .val (.long q4), .second, .val (.long q5), .second, .val (.int p6), .val (.long (q1 &&& (9223372036854775807 : Int64))), .second, .val (.long (q2 &&& (9223372036854775807 : Int64))), .second, .val (.long (q3 &&& (9223372036854775807 : Int64))), .second, .val (.long (q4 &&& (9223372036854775807 : Int64))), .second, .val (.int (f1 (p6 &&& (3 : Int32)) (2 : Int32))), .val (.int (f1 ((XT.ushr p6 (2 : Int32)) &&& (3 : Int32)) (2 : Int32))), .val (.long (f0_0 q1 q2 q3 q4 q5 p6)), .second, .val (.long (f0_1 q1 q2 q3 q4 q5 p6)), .second, .val (.long (f0_2 q1 q2 q3 q4 q5 p6)), .second, .val (.long (f0_3 q1 q2 q3 q4 q5 p6)), .second, .val (.ref o7), .val (.ref o10), .unset] [(.int (f1 ((XT.ushr p6 (2 : Int32)) &&& (3 : Int32)) (2 : Int32))), (.int (f1 (p6 &&& (3 : Int32)) (2 : Int32)))])) _
    refine st30 _ ?_
    show Steps p.tables e below (T12.setTop (mkF m 213 #[.val (.long q1), .second, .val (.long q2), .second, .val (.long q3), .second, .val (.long q4), .second, .val (.long q5), .second, .val (.int p6), .val (.long (q1 &&& (9223372036854775807 : Int64))), .second, .val (.long (q2 &&& (9223372036854775807 : Int64))), .second, .val (.long (q3 &&& (9223372036854775807 : Int64))), .second, .val (.long (q4 &&& (9223372036854775807 : Int64))), .second, .val (.int (f1 (p6 &&& (3 : Int32)) (2 : Int32))), .val (.int (f1 ((XT.ushr p6 (2 : Int32)) &&& (3 : Int32)) (2 : Int32))), .val (.long (f0_0 q1 q2 q3 q4 q5 p6)), .second, .val (.long (f0_1 q1 q2 q3 q4 q5 p6)), .second, .val (.long (f0_2 q1 q2 q3 q4 q5 p6)), .second, .val (.long (f0_3 q1 q2 q3 q4 q5 p6)), .second, .val (.ref o7), .val (.ref o10), .unset] [(.int (f0_16 q1 q2 q3 q4 q5 p6))])) _
    refine XS.istore X12.here hx rfl (hb hby at_213) rfl (l' := #[.val (.long q1), .second, .val (.long q2), .second, .val (.long q3), .second, .val (.long q4), .second, .val (.long q5), .second, .val (.int p6), .val (.long (q1 &&& (9223372036854775807 : Int64))), .second, .val (.long (q2 &&& (9223372036854775807 : Int64))), .second, .val (.long (q3 &&& (9223372036854775807 : Int64))), .second, .val (.long (q4 &&& (9223372036854775807 : Int64))), .second, .val (.int (f1 (p6 &&& (3 : Int32)) (2 : Int32))), .val (.int (f1 ((XT.ushr p6 (2 : Int32)) &&& (3 : Int32)) (2 : Int32))), .val (.long (f0_0 q1 q2 q3 q4 q5 p6)), .second, .val (.long (f0_1 q1 q2 q3 q4 q5 p6)), .second, .val (.long (f0_2 q1 q2 q3 q4 q5 p6)), .second, .val (.long (f0_3 q1 q2 q3 q4 q5 p6)), .second, .val (.ref o7), .val (.ref o10), .val (.int (f0_16 q1 q2 q3 q4 q5 p6))]) rfl ?_
    show Steps p.tables e below (T12.setTop (mkF m 215 #[.val (.long q1), .second, .val (.long q2), .second, .val (.long q3), .second, .val (.long q4), .second, .val (.long q5), .second, .val (.int p6), .val (.long (q1 &&& (9223372036854775807 : Int64))), .second, .val (.long (q2 &&& (9223372036854775807 : Int64))), .second, .val (.long (q3 &&& (9223372036854775807 : Int64))), .second, .val (.long (q4 &&& (9223372036854775807 : Int64))), .second, .val (.int (f1 (p6 &&& (3 : Int32)) (2 : Int32))), .val (.int (f1 ((XT.ushr p6 (2 : Int32)) &&& (3 : Int32)) (2 : Int32))), .val (.long (f0_0 q1 q2 q3 q4 q5 p6)), .second, .val (.long (f0_1 q1 q2 q3 q4 q5 p6)), .second, .val (.long (f0_2 q1 q2 q3 q4 q5 p6)), .second, .val (.long (f0_3 q1 q2 q3 q4 q5 p6)), .second, .val (.ref o7), .val (.ref o10), .val (.int (f0_16 q1 q2 q3 q4 q5 p6))] [])) _
    refine XS.aload X12.here hx rfl (hb hby at_215) rfl rfl ?_
    show Steps p.tables e below (T12.setTop (mkF m 217 #[.val (.long q1), .second, .val (.long q2), .second, .val (.long q3), .second, .val (.long q4), .second, .val (.long q5), .second, .val (.int p6), .val (.long (q1 &&& (9223372036854775807 : Int64))), .second, .val (.long (q2 &&& (9223372036854775807 : Int64))), .second, .val (.long (q3 &&& (9223372036854775807 : Int64))), .second, .val (.long (q4 &&& (9223372036854775807 : Int64))), .second, .val (.int (f1 (p6 &&& (3 : Int32)) (2 : Int32))), .val (.int (f1 ((XT.ushr p6 (2 : Int32)) &&& (3 : Int32)) (2 : Int32))), .val (.long (f0_0 q1 q2 q3 q4 q5 p6)), .second, .val (.long (f0_1 q1 q2 q3 q4 q5 p6)), .second, .val (.long (f0_2 q1 q2 q3 q4 q5 p6)), .second, .val (.long (f0_3 q1 q2 q3 q4 q5 p6)), .second, .val (.ref o7), .val (.ref o10), .val (.int (f0_16 q1 q2 q3 q4 q5 p6))] [(.ref o7)])) _
    refine XS.aload X12.here hx rfl (hb hby at_217) rfl rfl ?_
    show Steps p.tables e below (T12.setTop (mkF m 219 #[.val (.long q1), .second, .val (.long q2), .second, .val (.long q3), .second, .val (.long q4), .second, .val (.long q5), .second, .val (.int p6), .val (.long (q1 &&& (9223372036854775807 : Int64))), .second, .val (.long (q2 &&& (9223372036854775807 : Int64))), .second, .val (.long (q3 &&& (9223372036854775807 : Int64))), .second, .val (.long (q4 &&& (9223372036854775807 : Int64))), .second, .val (.int (f1 (p6 &&& (3 : Int32)) (2 : Int32))), .val (.int (f1 ((XT.ushr p6 (2 : Int32)) &&& (3 : Int32)) (2 : Int32))), .val (.long (f0_0 q1 q2 q3 q4 q5 p6)), .second, .val (.long (f0_1 q1 q2 q3 q4 q5 p6)), .second, .val (.long (f0_2 q1 q2 q3 q4 q5 p6)), .second, .val (.long (f0_3 q1 q2 q3 q4 q5 p6)), .second, .val (.ref o7), .val (.ref o10), .val (.int (f0_16 q1 q2 q3 q4 q5 p6))] [(.ref o10), (.ref o7)])) _
    refine st31.trans ?_
    show Steps p.tables e below (T31.setTop (mkF m 222 #[.val (.long q1), .second, .val (.long q2), .second, .val (.long q3), .second, .val (.long q4), .second, .val (.long q5), .second, .val (.int p6), .val (.long (q1 &&& (9223372036854775807 : Int64))), .second, .val (.long (q2 &&& (9223372036854775807 : Int64))), .second, .val (.long (q3 &&& (9223372036854775807 : Int64))), .second, .val (.long (q4 &&& (9223372036854775807 : Int64))), .second, .val (.int (f1 (p6 &&& (3 : Int32)) (2 : Int32))), .val (.int (f1 ((XT.ushr p6 (2 : Int32)) &&& (3 : Int32)) (2 : Int32))), .val (.long (f0_0 q1 q2 q3 q4 q5 p6)), .second, .val (.long (f0_1 q1 q2 q3 q4 q5 p6)), .second, .val (.long (f0_2 q1 q2 q3 q4 q5 p6)), .second, .val (.long (f0_3 q1 q2 q3 q4 q5 p6)), .second, .val (.ref o7), .val (.ref o10), .val (.int (f0_16 q1 q2 q3 q4 q5 p6))] [(.int (f0_17 q1 q2 q3 q4 q5 p6))])) _
    refine XS.iload X31.here hx rfl (hb hby at_222) rfl ?_
    show Steps p.tables e below (T31.setTop (mkF m 224 #[.val (.long q1), .second, .val (.long q2), .second, .val (.long q3), .second, .val (.long q4), .second, .val (.long q5), .second, .val (.int p6), .val (.long (q1 &&& (9223372036854775807 : Int64))), .second, .val (.long (q2 &&& (9223372036854775807 : Int64))), .second, .val (.long (q3 &&& (9223372036854775807 : Int64))), .second, .val (.long (q4 &&& (9223372036854775807 : Int64))), .second, .val (.int (f1 (p6 &&& (3 : Int32)) (2 : Int32))), .val (.int (f1 ((XT.ushr p6 (2 : Int32)) &&& (3 : Int32)) (2 : Int32))), .val (.long (f0_0 q1 q2 q3 q4 q5 p6)), .second, .val (.long (f0_1 q1 q2 q3 q4 q5 p6)), .second, .val (.long (f0_2 q1 q2 q3 q4 q5 p6)), .second, .val (.long (f0_3 q1 q2 q3 q4 q5 p6)), .second, .val (.ref o7), .val (.ref o10), .val (.int (f0_16 q1 q2 q3 q4 q5 p6))] [(.int (f0_16 q1 q2 q3 q4 q5 p6)), (.int (f0_17 q1 q2 q3 q4 q5 p6))])) _
    refine st33 _ ?_
    show Steps p.tables e below (T31.setTop (mkF m 232 #[.val (.long q1), .second, .val (.long q2), .second, .val (.long q3), .second, .val (.long q4), .second, .val (.long q5), .second, .val (.int p6), .val (.long (q1 &&& (9223372036854775807 : Int64))), .second, .val (.long (q2 &&& (9223372036854775807 : Int64))), .second, .val (.long (q3 &&& (9223372036854775807 : Int64))), .second, .val (.long (q4 &&& (9223372036854775807 : Int64))), .second, .val (.int (f1 (p6 &&& (3 : Int32)) (2 : Int32))), .val (.int (f1 ((XT.ushr p6 (2 : Int32)) &&& (3 : Int32)) (2 : Int32))), .val (.long (f0_0 q1 q2 q3 q4 q5 p6)), .second, .val (.long (f0_1 q1 q2 q3 q4 q5 p6)), .second, .val (.long (f0_2 q1 q2 q3 q4 q5 p6)), .second, .val (.long (f0_3 q1 q2 q3 q4 q5 p6)), .second, .val (.ref o7), .val (.ref o10), .val (.int (f0_16 q1 q2 q3 q4 q5 p6))] [(.int (f0_18 q1 q2 q3 q4 q5 p6))])) _
    exact retN X31 hx (t := .boolean) Bd.returns (by simp) (hb hby at_232) hr
  · show Q0 Z q1 q2 q3 q4 q5 p6 h0 n0 _ T31.heap _
    rw [e31]
    exact ⟨congrArg (fun z => some (Value.int z)) ((show f0 q1 q2 q3 q4 q5 p6 = ((f0_18 q1 q2 q3 q4 q5 p6) &&& 1) from by rfl).symm.trans (own_law q1 q2 q3 q4 q5 p6)), N31⟩
set_option maxRecDepth 65536 in
set_option maxHeartbeats 40000000 in
theorem comes_1 {Post : Tables → Env → Array Value → State → Outcome → State → Prop} (hpost : ∀ tb e args s v u, (limb_1_1.after args s (.returned v) u = true ∧ limb_1_2.after args s (.returned v) u = true ∧ True) → FrameEnd s (.returned v) u (Jvm.fieldLocs frame_1_writes args s ++ Jvm.arrayLocs frame_1_arrays args s ++ Jvm.staticLocs frame_1_statics s) 24 128 → Post tb e args s (.returned v) u) :
    ArmFor flags0 classFile x code maxLocals ret World_1 tables_1 room_1 Calls_1 rest_1 Pre_1 Post := by
  intro l hfl _ _ p e ha hc hk s m args below hf hA hF happ hP
  obtain ⟨hcalls, hrest, hpre⟩ := hP
  obtain ⟨-, -, -, hnamed, -, -, -, hat⟩ := (Spec.applies_iff hf).mp happ
  obtain ⟨hg, hn⟩ := and_e (Cond.before_iff.mp (show (Jvm.Cond.and given_1 narrow_1).before args s = true from hpre))
  obtain ⟨hcnt, hg0⟩ := and_e hg
  obtain ⟨hi0, hg1⟩ := and_e hg0
  obtain ⟨hi1, hg2⟩ := and_e hg1
  obtain ⟨hi2, hg3⟩ := and_e hg2
  obtain ⟨hi3, hg4⟩ := and_e hg3
  obtain ⟨hi4, hg5⟩ := and_e hg4
  obtain ⟨w0, w1, w2, w3, w4, w5, rfl⟩ : ∃ w0 w1 w2 w3 w4 w5 : Value, args = #[w0, w1, w2, w3, w4, w5] := by
    have hs : args.size = 6 := by simpa [Cond.value, given_1] using hcnt
    obtain ⟨L⟩ := args
    match L, hs with
    | [w0, w1, w2, w3, w4, w5], _ => exact ⟨w0, w1, w2, w3, w4, w5, rfl⟩
  have hw := fun d (hd : d ∈ tables_1) => atoms_spec (ws := Jvm.Cond.code x code maxLocals ret :: tables_1) hat d (List.mem_cons_of_mem _ hd)
  have hfit : Fit s := fun {y c} hc i hi => by
    obtain ⟨ha, rfl⟩ := Array.getElem?_eq_some_iff.mp hc
    have q := List.all_eq_true.mp ((Array.all_eq_true_iff_forall_mem.mp hF) _ (Array.getElem_mem ha)) i (List.mem_range.mpr hi)
    simpa [Array.getElem?_eq_getElem hi] using q
  obtain ⟨i0, ei0⟩ := isL_v hi0
  obtain rfl : w0 = (.long i0) := Option.some.inj ei0
  obtain ⟨i1, ei1⟩ := isL_v hi1
  obtain rfl : w1 = (.long i1) := Option.some.inj ei1
  obtain ⟨i2, ei2⟩ := isL_v hi2
  obtain rfl : w2 = (.long i2) := Option.some.inj ei2
  obtain ⟨i3, ei3⟩ := isL_v hi3
  obtain rfl : w3 = (.long i3) := Option.some.inj ei3
  obtain ⟨i4, ei4⟩ := isL_v hi4
  obtain rfl : w4 = (.long i4) := Option.some.inj ei4
  obtain ⟨i5, ei5⟩ := is_v hg5
  obtain rfl : w5 = (.int i5) := Option.some.inj ei5
  obtain ⟨n, o, h1, h2, h3, _, L, rfl, ⟨rfl, N⟩, hq⟩ := rm0 l s _ hw tables_1 i0 i1 i2 i3 i4 i5 s.heap s.heap.size (Nat.le_refl _) p e ha hc hk s m _ below hf ((Spec.applies_iff_loose hf).mp happ).1 ⟨rfl, State.Warmed39.refl s, rfl⟩ trivial
  refine ⟨n, _, h1, h2, h3, hpost _ _ _ _ _ _ ⟨Cond.after_iff.mpr rfl, Cond.after_iff.mpr (eq_i res_at (Term.int_eval (1)) rfl), trivial⟩ ⟨hq.1, hq.2.1, (hq.2.2.sift fun y hy => Or.inr (N y hy)).mono (by decide) (by decide)⟩⟩
theorem main_1_1 : Claimed_1_1 := comes_1 fun _ _ _ _ _ _ h hF => ⟨h.1, hF⟩
theorem main_1_2 : Claimed_1_2 := comes_1 fun _ _ _ _ _ _ h hF => ⟨h.2.1, hF⟩
end Jvm.Pilot.@@N@@
namespace Jvm.Pilot.@@N@@
open Jvm Jvm.ClassFile Sem Op Lib Jvm.Free Jvm.Stand Jvm.Pilot.@@N@@.Jvm.D
/-! MADE BY PROGRAM (witnessworld.py) out of the Statement's table words and the real class files: 12 classes; the members and pool entries that the words name. The judged class is class 1, her method 2. -/
namespace start1
open Jvm.ClassFile
def u (s : String) : CpInfo := .utf8 (stringToUtf16 s)
/-- a pool by its gaps: so many unusable entries, then the entry; so many at the end -/
def gap : Nat → List CpInfo → List CpInfo
  | 0, r => r
  | n + 1, r => .unusable :: gap n r
def poolList (es : List (Nat × CpInfo)) (last : Nat) : List CpInfo := es.foldr (fun e r => gap e.1 (e.2 :: r)) (gap last [])
def pool (es : List (Nat × CpInfo)) (last : Nat) : Array CpInfo := ⟨poolList es last⟩
def fileOf (pool : Array CpInfo) (this : Nat) (attrs : Array Attribute := #[]) (ms : Array MethodInfo := #[]) (fl : Nat := 33) (sup : Nat := 0) (ifs : Array Nat := #[]) (fds : Array FieldInfo := #[]) : ClassFile where
  minorVersion := 0
  majorVersion := 65
  constantPool := pool
  accessFlags := fl
  thisClass := this
  superClass := sup
  interfaces := ifs
  fields := fds
  methods := ms
  attributes := attrs
def plain (name : String) (sup : Option ClassId) : Class where
  name := name
  kind := .ordinary
  loader := none
  accessFlags := 33
  super := sup
  interfaces := #[]
  cf := none
  fields := #[]
  methods := #[]
  instanceTypes := #[]
  staticTypes := #[]
  resolved := #[]
  callSites := []
  init := .initialized
  statics := none
  mirror := none

def pool0 : Array CpInfo := pool [(5, u "<init>"), (0, u "()V"), (1, .class_ 10), (1, u "java/lang/Object"), (85, u "clone"), (0, u "()Ljava/lang/Object;")] 26

def k0c0 : Code := { maxStack := 0, maxLocals := 1, code := object_method_1_code, exceptionTable := #[], attributes := #[] }
def k0m0 : Method := { name := "<init>", desc := "()V", sig := { parameters := [], returnType := none }, accessFlags := 1, code := some k0c0 }
def k0m1 : Method := { name := "clone", desc := "()Ljava/lang/Object;", sig := { parameters := [], returnType := some (.object "java/lang/Object") }, accessFlags := 260, code := none }
/-- java/lang/Object -/
def k0 : Class := { plain "java/lang/Object" none with
  accessFlags := 33
  interfaces := #[]
  cf := some (fileOf pool0 8 #[] #[{ accessFlags := 1, nameIndex := 5, descriptorIndex := 6, attributes := #[] }, { accessFlags := 260, nameIndex := 96, descriptorIndex := 97, attributes := #[] }] 33 0 #[] #[])
  fields := #[]
  methods := #[k0m0, k0m1]
  instanceTypes := #[]
  staticTypes := #[]
  resolved := Array.replicate 124 none
  statics := none }

def pool1 : Array CpInfo := pool [(2, .class_ 4), (1, u "java/lang/Object"), (0, u "<init>"), (0, u "()V"), (2, .long 9223372036854775807), (1, .methodref 12 13), (0, .class_ 14), (0, .nameAndType 15 16), (0, u "java/lang/Math"), (0, u "min"), (0, u "(II)I"), (0, .long 65535), (1, .methodref 12 20), (0, .nameAndType 15 21), (0, u "(JJ)J"), (0, .class_ 23), (0, u "com/example/stratum/stratum/search/Statistics"), (0, .methodref 25 26), (0, .class_ 27), (0, .nameAndType 28 29), (0, u "com/example/stratum/stratum/search/StatisticsCoversPinLaw"), (0, u "pick"), (0, u "(IJJ)[J"), (0, .methodref 22 31), (0, .nameAndType 5 32), (0, u "(JJ[J)V"), (0, .methodref 22 34), (0, .nameAndType 35 36), (0, u "covers"), (0, u "(Lcom/example/stratum/stratum/search/Statistics;)Z"), (3, u "law"), (0, u "(JJJJJI)Z")] 2

def k1m0 : Method := { name := "<init>", desc := "()V", sig := { parameters := [], returnType := none }, accessFlags := 1, code := none }
def k1c1 : Code := { maxStack := 5, maxLocals := 5, code := method_2_code, exceptionTable := #[], attributes := #[] }
def k1m1 : Method := { name := "pick", desc := "(IJJ)[J", sig := { parameters := [.int, .long, .long], returnType := some (.array .long) }, accessFlags := 10, code := some k1c1 }
def k1c2 : Code := { maxStack := 11, maxLocals := 32, code := code, exceptionTable := #[], attributes := #[] }
def k1m2 : Method := { name := "law", desc := "(JJJJJI)Z", sig := { parameters := [.long, .long, .long, .long, .long, .int], returnType := some .boolean }, accessFlags := 9, code := some k1c2 }
/-- com/example/stratum/stratum/search/StatisticsCoversPinLaw -/
def k1 : Class := { plain "com/example/stratum/stratum/search/StatisticsCoversPinLaw" (some 0) with
  accessFlags := 49
  interfaces := #[]
  cf := some (fileOf pool1 25 #[] #[{ accessFlags := 1, nameIndex := 5, descriptorIndex := 6, attributes := #[] }, { accessFlags := 10, nameIndex := 28, descriptorIndex := 29, attributes := #[] }, { accessFlags := 9, nameIndex := 40, descriptorIndex := 41, attributes := #[] }] 49 2 #[] #[])
  fields := #[]
  methods := #[k1m0, k1m1, k1m2]
  instanceTypes := #[]
  staticTypes := #[]
  resolved := Array.replicate 44 none
  statics := none }

def pool2 : Array CpInfo := pool [(1, .class_ 2), (0, u "java/lang/Math"), (1, .class_ 6), (1, u "java/lang/Object"), (0, u "<init>"), (0, u "()V"), (89, .class_ 100), (1, u "java/lang/Math$RandomNumberGeneratorHolder"), (20, u "(JJ)J"), (50, u "negativeZeroFloatBits"), (0, u "J"), (2, u "negativeZeroDoubleBits"), (24, u "min"), (43, u "$assertionsDisabled"), (0, u "Z"), (88, u "(II)I"), (2, u "twoToTheDoubleScaleDown"), (0, u "D"), (4, u "twoToTheDoubleScaleUp"), (9, u "E"), (3, u "PI"), (2, u "TAU"), (2, u "DEGREES_TO_RADIANS"), (0, u "RADIANS_TO_DEGREES")] 94

def k2m0 : Method := { name := "<init>", desc := "()V", sig := { parameters := [], returnType := none }, accessFlags := 2, code := none }
def k2c1 : Code := { maxStack := 2, maxLocals := 2, code := jdk_29_method_69_code, exceptionTable := #[], attributes := #[] }
def k2m1 : Method := { name := "min", desc := "(II)I", sig := { parameters := [.int, .int], returnType := some .int }, accessFlags := 9, code := some k2c1 }
def k2c2 : Code := { maxStack := 4, maxLocals := 4, code := jdk_29_method_70_code, exceptionTable := #[], attributes := #[] }
def k2m2 : Method := { name := "min", desc := "(JJ)J", sig := { parameters := [.long, .long], returnType := some .long }, accessFlags := 9, code := some k2c2 }
/-- java/lang/Math -/
def k2 : Class := { plain "java/lang/Math" (some 0) with
  accessFlags := 49
  interfaces := #[]
  cf := some (fileOf pool2 1 #[.nestMembers #[98]] #[{ accessFlags := 2, nameIndex := 7, descriptorIndex := 8, attributes := #[] }, { accessFlags := 9, nameIndex := 201, descriptorIndex := 335, attributes := #[] }, { accessFlags := 9, nameIndex := 201, descriptorIndex := 121, attributes := #[] }] 49 4 #[] #[{ accessFlags := 25, nameIndex := 354, descriptorIndex := 339, attributes := #[] }, { accessFlags := 25, nameIndex := 358, descriptorIndex := 339, attributes := #[] }, { accessFlags := 25, nameIndex := 361, descriptorIndex := 339, attributes := #[] }, { accessFlags := 26, nameIndex := 364, descriptorIndex := 339, attributes := #[] }, { accessFlags := 26, nameIndex := 365, descriptorIndex := 339, attributes := #[] }, { accessFlags := 26, nameIndex := 172, descriptorIndex := 173, attributes := #[] }, { accessFlags := 26, nameIndex := 176, descriptorIndex := 173, attributes := #[] }, { accessFlags := 8, nameIndex := 344, descriptorIndex := 339, attributes := #[] }, { accessFlags := 8, nameIndex := 338, descriptorIndex := 339, attributes := #[] }, { accessFlags := 4120, nameIndex := 245, descriptorIndex := 246, attributes := #[] }])
  fields := #[{ name := "E", type := .double, accessFlags := 25, slot := 0, constantValue := 0 }, { name := "PI", type := .double, accessFlags := 25, slot := 1, constantValue := 0 }, { name := "TAU", type := .double, accessFlags := 25, slot := 2, constantValue := 0 }, { name := "DEGREES_TO_RADIANS", type := .double, accessFlags := 26, slot := 3, constantValue := 0 }, { name := "RADIANS_TO_DEGREES", type := .double, accessFlags := 26, slot := 4, constantValue := 0 }, { name := "negativeZeroFloatBits", type := .long, accessFlags := 26, slot := 5, constantValue := 0 }, { name := "negativeZeroDoubleBits", type := .long, accessFlags := 26, slot := 6, constantValue := 0 }, { name := "twoToTheDoubleScaleUp", type := .double, accessFlags := 8, slot := 7, constantValue := 0 }, { name := "twoToTheDoubleScaleDown", type := .double, accessFlags := 8, slot := 8, constantValue := 0 }, { name := "$assertionsDisabled", type := .boolean, accessFlags := 4120, slot := 9, constantValue := 0 }]
  methods := #[k2m0, k2m1, k2m2]
  instanceTypes := #[]
  staticTypes := #[.double, .double, .double, .double, .double, .long, .long, .double, .double, .boolean]
  resolved := Array.replicate 460 none
  statics := none }

def pool3 : Array CpInfo := pool [(1, .methodref 2 3), (0, .class_ 4), (0, .nameAndType 5 6), (0, u "java/lang/Object"), (0, u "<init>"), (0, u "()V"), (11, .fieldref 19 20), (0, .class_ 21), (0, .nameAndType 22 23), (0, u "com/example/stratum/stratum/search/Statistics"), (0, u "documents"), (0, u "J"), (0, .fieldref 19 25), (0, .nameAndType 26 23), (0, u "length"), (0, .methodref 28 29), (0, .class_ 30), (0, .nameAndType 31 32), (0, u "[J"), (0, u "clone"), (0, u "()Ljava/lang/Object;"), (0, .fieldref 19 34), (0, .nameAndType 35 30), (0, u "matching"), (26, u "(JJ[J)V"), (36, u "covers"), (0, u "(Lcom/example/stratum/stratum/search/Statistics;)Z")] 33

def k3c0 : Code := { maxStack := 6, maxLocals := 11, code := prog_31_method_1_code, exceptionTable := #[], attributes := #[] }
def k3m0 : Method := { name := "<init>", desc := "(JJ[J)V", sig := { parameters := [.long, .long, (.array .long)], returnType := none }, accessFlags := 1, code := some k3c0 }
def k3c1 : Code := { maxStack := 4, maxLocals := 4, code := prog_31_method_9_code, exceptionTable := #[], attributes := #[] }
def k3m1 : Method := { name := "covers", desc := "(Lcom/example/stratum/stratum/search/Statistics;)Z", sig := { parameters := [(.object "com/example/stratum/stratum/search/Statistics")], returnType := some .boolean }, accessFlags := 0, code := some k3c1 }
/-- com/example/stratum/stratum/search/Statistics -/
def k3 : Class := { plain "com/example/stratum/stratum/search/Statistics" (some 0) with
  accessFlags := 49
  interfaces := #[]
  cf := some (fileOf pool3 19 #[] #[{ accessFlags := 1, nameIndex := 5, descriptorIndex := 62, attributes := #[] }, { accessFlags := 0, nameIndex := 99, descriptorIndex := 100, attributes := #[] }] 49 2 #[] #[{ accessFlags := 18, nameIndex := 22, descriptorIndex := 23, attributes := #[] }, { accessFlags := 18, nameIndex := 26, descriptorIndex := 23, attributes := #[] }, { accessFlags := 18, nameIndex := 35, descriptorIndex := 30, attributes := #[] }])
  fields := #[{ name := "documents", type := .long, accessFlags := 18, slot := 0, constantValue := 0 }, { name := "length", type := .long, accessFlags := 18, slot := 1, constantValue := 0 }, { name := "matching", type := (.array .long), accessFlags := 18, slot := 2, constantValue := 0 }]
  methods := #[k3m0, k3m1]
  instanceTypes := #[.long, .long, (.array .long)]
  staticTypes := #[]
  resolved := Array.replicate 134 none
  statics := none }

def pool4 : Array CpInfo := pool [(1, .class_ 2), (0, u "java/lang/Cloneable"), (0, .class_ 4), (0, u "java/lang/Object")] 2

/-- java/lang/Cloneable -/
def k4 : Class := { plain "java/lang/Cloneable" (some 0) with
  accessFlags := 1537
  interfaces := #[]
  cf := some (fileOf pool4 1 #[] #[] 1537 3 #[] #[])
  fields := #[]
  methods := #[]
  instanceTypes := #[]
  staticTypes := #[]
  resolved := Array.replicate 7 none
  statics := none }

def pool5 : Array CpInfo := pool [(1, u "java/io/Serializable"), (0, .class_ 1), (0, u "java/lang/Object"), (0, .class_ 3)] 3

/-- java/io/Serializable -/
def k5 : Class := { plain "java/io/Serializable" (some 0) with
  accessFlags := 1537
  interfaces := #[]
  cf := some (fileOf pool5 2 #[] #[] 1537 4 #[] #[])
  fields := #[]
  methods := #[]
  instanceTypes := #[]
  staticTypes := #[]
  resolved := Array.replicate 8 none
  statics := none }

/-- the primitive byte -/
def k6 : Class := { plain "byte" none with kind := .primitive 'B', accessFlags := 0x411 }
/-- [B -/
def k7 : Class := { plain "[B" (some 0) with kind := .array 6 .byte, interfaces := #[4, 5], accessFlags := 1041 }

/-- the primitive int -/
def k8 : Class := { plain "int" none with kind := .primitive 'I', accessFlags := 0x411 }
/-- [I -/
def k9 : Class := { plain "[I" (some 0) with kind := .array 8 .int, interfaces := #[4, 5], accessFlags := 1041 }

/-- the primitive long -/
def k10 : Class := { plain "long" none with kind := .primitive 'J', accessFlags := 0x411 }
/-- [J -/
def k11 : Class := { plain "[J" (some 0) with kind := .array 10 .long, interfaces := #[4, 5], accessFlags := 1041 }

def heap : Heap := #[]
def classes : Array Class := #[k0, k1, k2, k3, k4, k5, k6, k7, k8, k9, k10, k11]
def interned : List (Array UInt16 × Addr) := []
def slotsUsed : Nat := 0
def theMethod : MethodId := ⟨1, 2⟩
def args0 : Array Value := #[.long 5, .long 4, .long 3, .long 2, .long 65537, .int 5]
def aboutOver (below : List Frame) : State where
  vm := { classes := classes, interned := interned.toArray }
  heap := heap
  slotsUsed := slotsUsed
  threads := #[{ frames := .invoking theMethod args0 :: below }]
def below0 : List Frame := [.native { method := ⟨0, 0⟩, args := #[] }]
def about1 : State := aboutOver below0
def p0 : Program := .bare "" "" ""
def e0 : Env := launch0.env 0 0 0
theorem w_frames : about1.frames = Frame.invoking theMethod args0 :: below0 := rfl
set_option maxRecDepth 65536 in
theorem w_args : argsFit about1.vm theMethod args0 = true := by decide +kernel
set_option maxRecDepth 65536 in
theorem w_heap : heapFits about1 = true := by decide +kernel
set_option maxRecDepth 65536 in
theorem w_runnable : about1.curStatus? = some .runnable := by decide +kernel
set_option maxRecDepth 65536 in
theorem w_alone : about1.alone = true := by decide +kernel
set_option maxRecDepth 65536 in
theorem w_named : about1.methodNamed? x = some theMethod := by decide +kernel
set_option maxRecDepth 65536 in
theorem w_hears : about1.hears theMethod below0 = true := by decide +kernel
set_option maxRecDepth 65536 in
theorem w_ripe : about1.ripe theMethod args0 below0 = true := by decide +kernel
theorem w_running : about1.status = .running := rfl
set_option maxRecDepth 65536 in
theorem w_room : about1.hasRoom e0.platform room_1 = true :=
  launch0.hasRoom_least _ room_1 (by decide +kernel) (by decide +kernel) (by decide +kernel) (by decide +kernel) (by decide +kernel) (by decide +kernel)
theorem allAtoms_all (ts : List Jvm.Cond) (a : Array Jvm.Value) (st : Jvm.State) : (allAtoms ts).before a st = ts.all (fun c => c.before a st) := by
  induction ts with
  | nil => rfl
  | cons c t ih =>
    show (Jvm.Cond.and c (allAtoms t)).before a st = _
    rw [Jvm.Cond.before_and, ih, List.all_cons]
def words1 : List Jvm.Cond := Jvm.Cond.code x code maxLocals ret :: tables_1
/-- a 'code' word, met by the world's own term for the bytes: nothing is compared byte by byte -/
theorem code_word {y : MethodName} {bytes : ByteArray} {mx : Nat} {rt : Option FieldType} {a : Array Value} {s : State} {m : MethodId} {meth : Method} {c : Code} (h1 : s.methodNamed? y = some m) (h2 : s.vm.method? m = some meth) (h3 : meth.code = some c) (h4 : c.code = bytes)
    (h5 : (c.maxLocals == mx && c.exceptionTable.isEmpty && decide (c.maxStack ≤ mostOperands) && decide (meth.sig.returnType = rt) && !meth.locks && decide (parseMethodDescriptor y.desc = some meth.sig)) = true) : (Jvm.Cond.code y bytes mx rt).before a s = true := by
  simp only [Bool.and_eq_true, beq_iff_eq, Bool.not_eq_true', decide_eq_true_eq] at h5
  obtain ⟨⟨⟨⟨⟨g1, g2⟩, g3⟩, g4⟩, g5⟩, g6⟩ := h5
  simp [Cond.before, Cond.holds, Cond.value, h1, h2, h3, h4, g1, g2, g3, g4, g5, g6]
def isCode : Jvm.Cond → Bool
  | .code _ _ _ _ => true
  | _ => false
theorem all_split {L : List Jvm.Cond} {P : Jvm.Cond → Bool} (h1 : L.all (fun c => isCode c || P c) = true) (h2 : ∀ c ∈ L.filter isCode, P c = true) : L.all P = true := by
  refine List.all_eq_true.mpr fun c hc => ?_
  have h := List.all_eq_true.mp h1 c hc
  rcases Bool.eq_false_or_eq_true (isCode c) with hi | hi
  · exact h2 c (List.mem_filter.mpr ⟨hc, hi⟩)
  · simpa [hi] using h
set_option maxRecDepth 65536 in
theorem w_c0 : (Jvm.Cond.code x code maxLocals ret).before args0 about1 = true := code_word (m := ⟨1, 2⟩) (meth := k1m2) (c := k1c2) (by decide +kernel) rfl rfl rfl (by decide +kernel)
set_option maxRecDepth 65536 in
theorem w_c1 : (Jvm.Cond.code ({ cls := "java/lang/Math", name := "min", desc := "(II)I" } : Jvm.MethodName) jdk_29_method_69_code (2 : Nat) (Option.some Jvm.ClassFile.FieldType.int)).before args0 about1 = true := code_word (m := ⟨2, 1⟩) (meth := k2m1) (c := k2c1) (by decide +kernel) rfl rfl rfl (by decide +kernel)
set_option maxRecDepth 65536 in
theorem w_c2 : (Jvm.Cond.code ({ cls := "java/lang/Math", name := "min", desc := "(JJ)J" } : Jvm.MethodName) jdk_29_method_70_code (4 : Nat) (Option.some Jvm.ClassFile.FieldType.long)).before args0 about1 = true := code_word (m := ⟨2, 2⟩) (meth := k2m2) (c := k2c2) (by decide +kernel) rfl rfl rfl (by decide +kernel)
set_option maxRecDepth 65536 in
theorem w_c3 : (Jvm.Cond.code ({ cls := "com/example/stratum/stratum/search/StatisticsCoversPinLaw", name := "pick", desc := "(IJJ)[J" } : Jvm.MethodName) method_2_code (5 : Nat) (Option.some (Jvm.ClassFile.FieldType.array Jvm.ClassFile.FieldType.long))).before args0 about1 = true := code_word (m := ⟨1, 1⟩) (meth := k1m1) (c := k1c1) (by decide +kernel) rfl rfl rfl (by decide +kernel)
set_option maxRecDepth 65536 in
theorem w_c4 : (Jvm.Cond.code ({ cls := "com/example/stratum/stratum/search/Statistics", name := "<init>", desc := "(JJ[J)V" } : Jvm.MethodName) prog_31_method_1_code (11 : Nat) (Option.none : Option Jvm.ClassFile.FieldType)).before args0 about1 = true := code_word (m := ⟨3, 0⟩) (meth := k3m0) (c := k3c0) (by decide +kernel) rfl rfl rfl (by decide +kernel)
set_option maxRecDepth 65536 in
theorem w_c5 : (Jvm.Cond.code ({ cls := "java/lang/Object", name := "<init>", desc := "()V" } : Jvm.MethodName) object_method_1_code (1 : Nat) (Option.none : Option Jvm.ClassFile.FieldType)).before args0 about1 = true := code_word (m := ⟨0, 0⟩) (meth := k0m0) (c := k0c0) (by decide +kernel) rfl rfl rfl (by decide +kernel)
set_option maxRecDepth 65536 in
theorem w_c6 : (Jvm.Cond.code ({ cls := "com/example/stratum/stratum/search/Statistics", name := "covers", desc := "(Lcom/example/stratum/stratum/search/Statistics;)Z" } : Jvm.MethodName) prog_31_method_9_code (4 : Nat) (Option.some Jvm.ClassFile.FieldType.boolean)).before args0 about1 = true := code_word (m := ⟨3, 1⟩) (meth := k3m1) (c := k3c1) (by decide +kernel) rfl rfl rfl (by decide +kernel)
def codes1 : List Jvm.Cond := [Jvm.Cond.code x code maxLocals ret, Jvm.Cond.code ({ cls := "java/lang/Math", name := "min", desc := "(II)I" } : Jvm.MethodName) jdk_29_method_69_code (2 : Nat) (Option.some Jvm.ClassFile.FieldType.int), Jvm.Cond.code ({ cls := "java/lang/Math", name := "min", desc := "(JJ)J" } : Jvm.MethodName) jdk_29_method_70_code (4 : Nat) (Option.some Jvm.ClassFile.FieldType.long), Jvm.Cond.code ({ cls := "com/example/stratum/stratum/search/StatisticsCoversPinLaw", name := "pick", desc := "(IJJ)[J" } : Jvm.MethodName) method_2_code (5 : Nat) (Option.some (Jvm.ClassFile.FieldType.array Jvm.ClassFile.FieldType.long)), Jvm.Cond.code ({ cls := "com/example/stratum/stratum/search/Statistics", name := "<init>", desc := "(JJ[J)V" } : Jvm.MethodName) prog_31_method_1_code (11 : Nat) (Option.none : Option Jvm.ClassFile.FieldType), Jvm.Cond.code ({ cls := "java/lang/Object", name := "<init>", desc := "()V" } : Jvm.MethodName) object_method_1_code (1 : Nat) (Option.none : Option Jvm.ClassFile.FieldType), Jvm.Cond.code ({ cls := "com/example/stratum/stratum/search/Statistics", name := "covers", desc := "(Lcom/example/stratum/stratum/search/Statistics;)Z" } : Jvm.MethodName) prog_31_method_9_code (4 : Nat) (Option.some Jvm.ClassFile.FieldType.boolean)]
set_option maxRecDepth 65536 in
theorem codes_eq : words1.filter isCode = codes1 := rfl
theorem w_codes : ∀ c ∈ words1.filter isCode, c.before args0 about1 = true := by
  rw [codes_eq]
  intro c hc
  simp only [codes1, List.mem_cons, List.not_mem_nil, or_false] at hc
  rcases hc with rfl | rfl | rfl | rfl | rfl | rfl | rfl
  · exact w_c0
  · exact w_c1
  · exact w_c2
  · exact w_c3
  · exact w_c4
  · exact w_c5
  · exact w_c6
set_option maxRecDepth 65536 in
theorem w_t1 : (words1.take 24).all (fun c => isCode c || c.before args0 about1) = true := by decide +kernel
set_option maxRecDepth 65536 in
theorem w_t2 : (words1.drop 24).all (fun c => isCode c || c.before args0 about1) = true := by decide +kernel
theorem w_tables : (allAtoms (Jvm.Cond.code x code maxLocals ret :: tables_1)).before args0 about1 = true := by
  rw [allAtoms_all]
  show words1.all (fun c => c.before args0 about1) = true
  refine all_split ?_ w_codes
  rw [← List.take_append_drop 24 words1, List.all_append, w_t1, w_t2]
  rfl
set_option maxRecDepth 65536 in
theorem w_case : (Jvm.Cond.and given_1 narrow_1).before args0 about1 = true := by decide +kernel
theorem w_applies : (headSpec (Jvm.Cond.code x code maxLocals ret :: tables_1) room_1).applies x e0.platform about1 = true :=
  (Spec.applies_iff w_frames).mpr ⟨w_running, w_runnable, w_alone, w_named, w_hears, w_ripe, w_room, w_tables⟩
theorem atStart : AtStart classFile x code maxLocals ret World_1 tables_1 room_1 Calls_1 rest_1 Pre_1 launch0 p0 e0 about1 theMethod args0 below0 :=
  ⟨lists_1, trivial, launch0.admits_env _ _ _, launch0.least_env, fairChoices_fair.cas, fairChoices_fair.clock, w_frames, w_args, w_heap, w_applies, trivial, trivial, w_case⟩
end start1
theorem witness_1 : WitnessClaimed_1 := ⟨start1.p0, start1.e0, start1.about1, start1.theMethod, start1.args0, start1.below0, start1.atStart⟩
end Jvm.Pilot.@@N@@
