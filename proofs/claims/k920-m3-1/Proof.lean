import JvmDerived
import JvmDerived.Pilot.@@N@@Statement
import JvmDerived.Pilot.@@N@@Code
set_option linter.unusedVariables false
set_option linter.unusedSimpArgs false
namespace Jvm.RoadKit
open Sem ClassFile Op Lib Jvm.Stand Jvm.Free Jvm.LawKit
section New
variable {p : Program} {l : Launch} {e : Env} {R : Room} {s : State} {m : MethodId} {args : Array Value} {below : List Frame} {meth : Method} {c : Code} {T : State} {locs : List Loc} {cells slots : Nat}
theorem retI (X : Stand p l e R s m args below meth c T locs cells slots) (hx : p.tables.exec = Jvm.exec) {pc : Nat} {Ls : Array Slot} {z : Int32} {rest : List Value} (hret : meth.sig.returnType = some .int) (hd : decode c.code pc = .ok (.ireturn, 1)) {fs : List Frame}
    (hl : ∀ (f : JFrame) (acts : List Action), f.method = m → f.locked = none → f.entered = [] → (doReturn e (T.setTop f) acts (some (.int z))).1 = T.setFrames fs) : Steps p.tables e below (T.setTop (mkF m pc Ls (.int z :: rest))) (T.setFrames fs) := by
  have hm' : T.vm.method? m = some meth := X.method'
  have hn : narrow .int (.int z) = .int z := rfl
  show Steps p.tables e below (T.setTop { method := m, pc := pc, locals := Ls, stack := _ :: rest, locked := none }) _
  jvm_step X.here [X.here.top, hx, hd, hm', hret, hn]
  first | (intro acts; rw [hl _ acts rfl rfl rfl]) | rw [hl _ _ rfl rfl rfl]
  exact Steps.refl _
end New
end Jvm.RoadKit
namespace Jvm.Pilot.@@N@@
section OwnFP
open Jvm.FP.Core
/-- one, and 2^-21, in units of the least double -/
def own_U : Nat := 2 ^ (0 - b64.qmin).toNat
def own_u : Nat := 2 ^ (-21 - b64.qmin).toNat
theorem own_Upos : 0 < own_U := Nat.two_pow_pos _
theorem own_upos : 0 < own_u := Nat.two_pow_pos _
theorem own_Uu : own_U = 2097152 * own_u := by
  have e : (0 - b64.qmin).toNat = 21 + (-21 - b64.qmin).toNat := by decide
  unfold own_U own_u
  calc 2 ^ (0 - b64.qmin).toNat = 2 ^ (21 + (-21 - b64.qmin).toNat) := by rw [e]
    _ = 2 ^ 21 * 2 ^ (-21 - b64.qmin).toNat := Nat.pow_add 2 21 _
    _ = 2097152 * 2 ^ (-21 - b64.qmin).toNat := by rw [show (2 : Nat) ^ 21 = 2097152 from by decide]
theorem own_inU (A : Nat) : inUnits A 0 b64.qmin = A * own_U := rfl
theorem own_inu (k : Nat) : inUnits k (-21) b64.qmin = k * own_u := rfl
theorem own_q0 : b64.qmin ≤ 0 := by decide
theorem own_le {A B : Nat} {V : Datum} (hB : 0 < B) (hV : FP.Core.fits b64 V) (hn : V ≠ .nan) (h : A * own_U ≤ zmag b64 V * B) : zmag b64 (roundRatio b64 false A B 0) ≤ zmag b64 V := by
  refine zmag_roundRatio_le good_b64 hB hV hn (Int.le_refl b64.qmin) own_q0 ?_
  rw [own_inU, Int.sub_self, Int.toNat_zero, Nat.pow_zero, Nat.mul_one]
  exact h
theorem own_ge {A B : Nat} {V : Datum} (hB : 0 < B) (hV : FP.Core.fits b64 V) (h : zmag b64 V * B ≤ A * own_U) : zmag b64 V ≤ zmag b64 (roundRatio b64 false A B 0) := by
  refine zmag_roundRatio_ge good_b64 hB hV (Int.le_refl b64.qmin) own_q0 ?_
  rw [own_inU, Int.sub_self, Int.toNat_zero, Nat.pow_zero, Nat.mul_one]
  exact h
/-- below a finite double, finite -/
theorem own_fin {A B : Nat} (hB : 0 < B) {s : Bool} {c : Nat} {q : Int} (hV : FP.Core.fits b64 (.fin s c q)) (h : A * own_U ≤ zmag b64 (.fin s c q) * B) : ∃ c' q', roundRatio b64 false A B 0 = .fin false c' q' := by
  rcases roundRatio_cases b64 false A B 0 with h1 | h1
  · exact h1
  · exfalso
    have h2 := own_le hB hV (by intro z; cases z) h
    rw [h1] at h2
    exact absurd h2 (Nat.not_le.mpr (zmag_lt_top good_b64 hV))
/-- rounding is monotone -/
theorem own_mono {A A' B : Nat} (hB : 0 < B) (h : A ≤ A') {c1 c2 : Nat} {q1 q2 : Int} (e1 : roundRatio b64 false A B 0 = .fin false c1 q1) (e2 : roundRatio b64 false A' B 0 = .fin false c2 q2) : zmag b64 (.fin false c1 q1) ≤ zmag b64 (.fin false c2 q2) := by
  have fit1 := roundRatio_fits good_b64 false A hB 0
  have fit2 := roundRatio_fits good_b64 false A' hB 0
  have L := own_le (A := A) hB fit2 (roundRatio_ne_nan b64 false A' B 0)
  have G := own_ge (A := A') hB fit1
  rw [e1] at fit1 L G
  rw [e2] at fit2 L G
  have d1 := roundRatio_nearest good_b64 hB e1 fit2.1 fit2.2.1 (Int.le_refl b64.qmin) own_q0
  have d2 := roundRatio_nearest good_b64 hB e2 fit1.1 fit1.2.1 (Int.le_refl b64.qmin) own_q0
  unfold distance at d1 d2
  rw [own_inU, ← Int.natCast_mul, ← Int.natCast_mul] at d1 d2
  have hx : A * own_U ≤ A' * own_U := Nat.mul_le_mul_right _ h
  change (A * own_U ≤ inUnits c2 q2 b64.qmin * B → inUnits c1 q1 b64.qmin ≤ inUnits c2 q2 b64.qmin) at L
  change (inUnits c1 q1 b64.qmin * B ≤ A' * own_U → inUnits c1 q1 b64.qmin ≤ inUnits c2 q2 b64.qmin) at G
  show inUnits c1 q1 b64.qmin ≤ inUnits c2 q2 b64.qmin
  refine Nat.le_of_not_lt fun hlt => ?_
  have n1 : inUnits c2 q2 b64.qmin * B < A * own_U := Nat.lt_of_not_le fun k => absurd (L k) (Nat.not_le.mpr hlt)
  have n2 : A' * own_U < inUnits c1 q1 b64.qmin * B := Nat.lt_of_not_le fun k => absurd (G k) (Nat.not_le.mpr hlt)
  have hxx : A' * own_U ≤ A * own_U := by
    clear L G fit1 fit2 e1 e2
    generalize inUnits c1 q1 b64.qmin * B = XB at *
    generalize inUnits c2 q2 b64.qmin * B = YB at *
    generalize A * own_U = x at *
    generalize A' * own_U = x' at *
    omega
  have hA : A' ≤ A := Nat.le_of_mul_le_mul_right hxx own_Upos
  have hAA : A = A' := Nat.le_antisymm h hA
  subst hAA
  rw [e1] at e2
  cases e2
  exact Nat.lt_irrefl _ hlt
/-- a whole number as a double; k / 2^21 -/
def own_R (n : Nat) : Datum := roundRatio b64 false n 1 0
def own_W (k : Nat) : Datum := roundRatio b64 false k 1 (-21)
theorem own_Rfits (n : Nat) : FP.Core.fits b64 (own_R n) := roundRatio_fits good_b64 false n (by decide) 0
theorem own_Rnan (n : Nat) : own_R n ≠ .nan := roundRatio_ne_nan _ _ _ _ _
theorem own_Wfits (n : Nat) : FP.Core.fits b64 (own_W n) := roundRatio_fits good_b64 false n (by decide) (-21)
theorem own_Wnan (n : Nat) : own_W n ≠ .nan := roundRatio_ne_nan _ _ _ _ _
theorem own_Rfin {n : Nat} (h : n ≤ 9223372036854775808) : ∃ c q, own_R n = .fin false c q := by
  have hV : FP.Core.fits b64 (.fin false 4503599627370496 11) := ⟨by decide, by decide, by decide, .inr (by decide)⟩
  refine own_fin (B := 1) (by decide) hV ?_
  rw [Nat.mul_one]
  show n * own_U ≤ inUnits 4503599627370496 11 b64.qmin
  have e : (11 - b64.qmin).toNat = 11 + (0 - b64.qmin).toNat := by decide
  have e2 : inUnits 4503599627370496 11 b64.qmin = 4503599627370496 * 2 ^ 11 * own_U := by
    show 4503599627370496 * 2 ^ (11 - b64.qmin).toNat = _
    unfold own_U
    rw [e, Nat.pow_add, ← Nat.mul_assoc]
  rw [e2]
  exact Nat.mul_le_mul_right _ (Nat.le_trans h (by decide))
theorem own_Rv {n : Nat} (h : n < 9007199254740992) : zmag b64 (own_R n) = n * own_U := by
  obtain ⟨c', q', e, v⟩ := round_exact good_b64 false (c := n) (q := 0) (Nat.lt_of_lt_of_le h (by decide)) (by decide) (by decide)
  have e2 : own_R n = .fin false c' q' := e
  rw [e2, ← own_inU]; exact v
theorem own_Wv {n : Nat} (h : n < 9007199254740992) : zmag b64 (own_W n) = n * own_u := by
  obtain ⟨c', q', e, v⟩ := round_exact good_b64 false (c := n) (q := -21) (Nat.lt_of_lt_of_le h (by decide)) (by decide) (by decide)
  have e2 : own_W n = .fin false c' q' := e
  rw [e2, ← own_inu]; exact v
theorem own_one {n : Nat} (h : 1 ≤ n) : own_U ≤ zmag b64 (own_R n) := by
  have h1 : zmag b64 (own_R 1) = own_U := by rw [own_Rv (by decide), Nat.one_mul]
  have g := own_ge (A := n) (B := 1) (V := own_R 1) (by decide) (own_Rfits 1) (by rw [h1, Nat.mul_one]; exact Nat.le_mul_of_pos_left _ h)
  rw [h1] at g
  exact g
theorem own_l2d {a : Int64} (h : 0 ≤ a.toInt) : val64 (FP.l2d a) = own_R a.toInt.toNat := by
  rw [show val64 (FP.l2d a) = round b64 (ofInt a.toInt) from val64_l2d a]
  show roundRatio b64 (decide (a.toInt < 0)) a.toInt.natAbs 1 0 = roundRatio b64 false a.toInt.toNat 1 0
  rw [show decide (a.toInt < 0) = false from decide_eq_false (by omega), show a.toInt.natAbs = a.toInt.toNat from by omega]
theorem own_63 {a : Int64} (h : 0 ≤ a.toInt) : a.toInt.toNat ≤ 9223372036854775808 := by
  have := a.toInt_lt
  omega
theorem own_mean {b a : Int64} (ha : 0 ≤ a.toInt) (hb : 1 ≤ b.toInt) : val64 (FP.ddiv (FP.l2d a) (FP.l2d b)) = roundRatio b64 false (zmag b64 (own_R a.toInt.toNat)) (zmag b64 (own_R b.toInt.toNat)) 0 := by
  obtain ⟨c, q, hc⟩ := own_Rfin (own_63 ha)
  obtain ⟨d, r, hd⟩ := own_Rfin (n := b.toInt.toNat) (own_63 (by omega))
  have fc := own_Rfits a.toInt.toNat
  have fd := own_Rfits b.toInt.toNat
  have hu := own_one (n := b.toInt.toNat) (by omega)
  rw [hc] at fc
  rw [hd] at fd hu
  have hpos : 0 < zmag b64 (.fin false d r) := Nat.lt_of_lt_of_le own_Upos hu
  have d0 : d ≠ 0 := by
    rintro rfl
    have z : zmag b64 (.fin false 0 r) = 0 := Nat.zero_mul _
    omega
  rw [show val64 (FP.ddiv (FP.l2d a) (FP.l2d b)) = quotient b64 (val64 (FP.l2d a)) (val64 (FP.l2d b)) from val64_ddiv _ _, own_l2d ha, own_l2d (show 0 ≤ b.toInt by omega), hc, hd]
  show (if d = 0 then (if c = 0 then Datum.nan else Datum.inf (false != false)) else roundRatio b64 (false != false) c d (q - r)) = _
  rw [if_neg d0]
  refine roundRatio_congr (by omega) hpos ?_
  show c * (d * 2 ^ (r - b64.qmin).toNat) * 2 ^ (q - r - 0).toNat = c * 2 ^ (q - b64.qmin).toNat * d * 2 ^ (0 - (q - r)).toNat
  have h1 : b64.qmin ≤ q := fc.2.1
  have h2 : b64.qmin ≤ r := fd.2.1
  have e : (r - b64.qmin).toNat + (q - r - 0).toNat = (q - b64.qmin).toNat + (0 - (q - r)).toNat := by omega
  calc c * (d * 2 ^ (r - b64.qmin).toNat) * 2 ^ (q - r - 0).toNat = c * d * 2 ^ ((r - b64.qmin).toNat + (q - r - 0).toNat) := by rw [Nat.pow_add]; ac_rfl
    _ = c * d * 2 ^ ((q - b64.qmin).toNat + (0 - (q - r)).toNat) := by rw [e]
    _ = c * 2 ^ (q - b64.qmin).toNat * d * 2 ^ (0 - (q - r)).toNat := by rw [Nat.pow_add]; ac_rfl
/-- the double x is A units -/
def own_pos (x : UInt64) (A : Nat) : Prop := val64 x ≠ .nan ∧ zval b64 (val64 x) = (A : Int)
theorem own_zf (c : Nat) (q : Int) : zval b64 (.fin false c q) = (inUnits c q b64.qmin : Int) := by
  first | rfl | simp [zval, sgn, zmag, signed]
theorem own_zv (A B : Nat) (e : Int) : zval b64 (roundRatio b64 false A B e) = (zmag b64 (roundRatio b64 false A B e) : Int) := by
  unfold zval
  rw [sgn_roundRatio]
  first | rfl | simp [signed]
theorem own_cmp {x y : UInt64} {A B : Nat} (hx : own_pos x A) (hy : own_pos y B) (o : Jvm.ClassFile.CmpOp) : Jvm.Op.cmpValue (FP.dcmp x y) o = if A < B then -1 else if A = B then 0 else 1 := by
  obtain ⟨n1, z1⟩ := hx
  obtain ⟨n2, z2⟩ := hy
  have e : FP.dcmp x y = some (compare (A : Int) (B : Int)) := by
    show order (val64 x) (val64 y) = _
    rw [order_zval good_b64 (val64_fits x) (val64_fits y) n1 n2, z1, z2]
  have c : compare (A : Int) (B : Int) = if (A : Int) < B then .lt else if (A : Int) = B then .eq else .gt := rfl
  rw [e, c]
  by_cases h : A < B
  · rw [if_pos h, if_pos (show (A : Int) < B by omega)]; rfl
  · by_cases h2 : A = B
    · rw [if_neg h, if_pos h2, if_neg (show ¬ (A : Int) < B by omega), if_pos (show (A : Int) = B by omega)]; rfl
    · rw [if_neg h, if_neg h2, if_neg (show ¬ (A : Int) < B by omega), if_neg (show ¬ (A : Int) = B by omega)]; rfl
theorem own_vle {A B : Nat} (h : A ≤ B) : ¬ (0 : Int32) < (if A < B then (-1 : Int32) else if A = B then 0 else 1) := by
  by_cases h1 : A < B
  · rw [if_pos h1]; decide
  · rw [if_neg h1, if_pos (show A = B by omega)]; decide
theorem own_vge {A B : Nat} (h : B ≤ A) : ¬ (if A < B then (-1 : Int32) else if A = B then 0 else 1) < (0 : Int32) := by
  rw [if_neg (show ¬ A < B by omega)]
  by_cases h1 : A = B
  · rw [if_pos h1]; decide
  · rw [if_neg h1]; decide
theorem own_vlt {A B : Nat} (h : A < B) : (if A < B then (-1 : Int32) else if A = B then 0 else 1) < (0 : Int32) := by
  rw [if_pos h]; decide
theorem own_vgt {A B : Nat} (h : B < A) : (0 : Int32) < (if A < B then (-1 : Int32) else if A = B then 0 else 1) := by
  rw [if_neg (show ¬ A < B by omega), if_neg (show ¬ A = B by omega)]; decide
theorem own_veq {A B : Nat} (h : A = B) : (if A < B then (-1 : Int32) else if A = B then 0 else 1) = (0 : Int32) := by
  rw [if_neg (show ¬ A < B by omega), if_pos h]
theorem own_pl {a : Int64} (h : 0 ≤ a.toInt) : own_pos (FP.l2d a) (zmag b64 (own_R a.toInt.toNat)) := by
  unfold own_pos
  rw [own_l2d h]
  exact ⟨own_Rnan _, own_zv _ _ _⟩
theorem own_pm {b a : Int64} (ha : 0 ≤ a.toInt) (hb : 1 ≤ b.toInt) : own_pos (FP.ddiv (FP.l2d a) (FP.l2d b)) (zmag b64 (roundRatio b64 false (zmag b64 (own_R a.toInt.toNat)) (zmag b64 (own_R b.toInt.toNat)) 0)) := by
  unfold own_pos
  rw [own_mean ha hb]
  exact ⟨roundRatio_ne_nan _ _ _ _ _, own_zv _ _ _⟩
theorem own_p0 : own_pos FP.dconst0 0 := by
  unfold own_pos
  rw [show val64 FP.dconst0 = .fin false 0 b64.qmin from by decide +kernel, own_zf]
  exact ⟨(by intro h; cases h), by show ((0 * _ : Nat) : Int) = _; rw [Nat.zero_mul]⟩
theorem own_v1 : val64 FP.dconst1 = .fin false 4503599627370496 (-52) := by decide +kernel
theorem own_vh : val64 (4602678819172646912 : UInt64) = .fin false 4503599627370496 (-53) := by decide +kernel
theorem own_p1 : own_pos FP.dconst1 own_U := by
  unfold own_pos
  rw [own_v1, own_zf]
  refine ⟨(by intro h; cases h), ?_⟩
  have e : (0 - b64.qmin).toNat = 52 + (-52 - b64.qmin).toNat := by decide
  have e2 : inUnits 4503599627370496 (-52) b64.qmin = own_U := by
    show 4503599627370496 * 2 ^ (-52 - b64.qmin).toNat = 2 ^ (0 - b64.qmin).toNat
    rw [e, Nat.pow_add, show (2 : Nat) ^ 52 = 4503599627370496 from by decide]
  rw [e2]
theorem own_ph : own_pos (4602678819172646912 : UInt64) (1048576 * own_u) := by
  unfold own_pos
  rw [own_vh, own_zf]
  refine ⟨(by intro h; cases h), ?_⟩
  have e : (-21 - b64.qmin).toNat = 32 + (-53 - b64.qmin).toNat := by decide
  have e3 : own_u = 2 ^ 32 * 2 ^ (-53 - b64.qmin).toNat := by unfold own_u; rw [e, Nat.pow_add]
  have e2 : inUnits 4503599627370496 (-53) b64.qmin = 1048576 * own_u := by
    rw [e3, ← Nat.mul_assoc, show 1048576 * (2 : Nat) ^ 32 = 4503599627370496 from by decide]; rfl
  rw [e2]
theorem own_sum {x y : UInt64} {A B : Nat} {V : Datum} (px : own_pos x A) (py : own_pos y B) (fx : ∃ s c q, val64 x = .fin s c q) (fy : ∃ s c q, val64 y = .fin s c q) (hV : FP.Core.fits b64 V) (hn : V ≠ .nan) (hW : zval b64 V = ((A + B : Nat) : Int)) : own_pos (FP.dadd x y) (A + B) := by
  obtain ⟨s, c, q, ex⟩ := fx
  obtain ⟨t, d, r, ey⟩ := fy
  have hx := val64_fits x
  have hy := val64_fits y
  obtain ⟨-, zx⟩ := px
  obtain ⟨-, zy⟩ := py
  rw [ex] at hx zx
  rw [ey] at hy zy
  obtain ⟨sg, n, e, hs, he, hv⟩ := sum_units hx hy
  have hval : val64 (FP.dadd x y) = round b64 (.fin sg n e) := by
    rw [show val64 (FP.dadd x y) = round b64 (exactSum (val64 x) (val64 y)) from val64_dadd _ _, ex, ey, hs]
  have hsum : signed sg (inUnits n e b64.qmin) = ((A + B : Nat) : Int) := by
    rw [hv, zx, zy]
    exact (Int.natCast_add A B).symm
  have one : ((2 ^ (b64.qmin - b64.qmin).toNat : Nat) : Int) = 1 := by rw [Int.sub_self]; rfl
  have l := zval_round_le good_b64 (s := sg) (c := n) (q := e) hV hn (Int.le_refl b64.qmin) he (by rw [one, Int.mul_one, hsum, hW]; exact Int.le_refl _)
  have g := zval_round_ge good_b64 (s := sg) (c := n) (q := e) hV hn (Int.le_refl b64.qmin) he (by rw [one, Int.mul_one, hsum, hW]; exact Int.le_refl _)
  rw [hW] at l g
  refine ⟨?_, ?_⟩
  · rw [hval]; exact roundRatio_ne_nan b64 sg n 1 e
  · rw [hval]; exact Int.le_antisymm l g
theorem own_zR {n : Nat} (h : n < 9007199254740992) : zval b64 (own_R n) = ((n * own_U : Nat) : Int) := by
  rw [show zval b64 (own_R n) = (zmag b64 (own_R n) : Int) from own_zv n 1 0, own_Rv h]
theorem own_zW {n : Nat} (h : n < 9007199254740992) : zval b64 (own_W n) = ((n * own_u : Nat) : Int) := by
  rw [show zval b64 (own_W n) = (zmag b64 (own_W n) : Int) from own_zv n 1 (-21), own_Wv h]
/-- the first two means -/
theorem own_c137 {b a : Int64} (ha : 0 ≤ a.toInt) (hb : 1 ≤ b.toInt) : ¬ Jvm.Op.cmpValue (FP.dcmp (FP.ddiv (FP.l2d a) (FP.l2d b)) FP.dconst0) Jvm.ClassFile.CmpOp.l < (0 : Int32) := by
  rw [own_cmp (own_pm ha hb) own_p0]
  exact own_vge (Nat.zero_le _)
theorem own_bp {b : Int64} (hb : 1 ≤ b.toInt) : own_U ≤ zmag b64 (own_R b.toInt.toNat) := own_one (by omega)
theorem own_mle {b a : Int64} (ha : 0 ≤ a.toInt) (hb : 1 ≤ b.toInt) : zmag b64 (own_R a.toInt.toNat) * own_U ≤ zmag b64 (own_R a.toInt.toNat) * zmag b64 (own_R b.toInt.toNat) := Nat.mul_le_mul_left _ (own_bp hb)
theorem own_c148 {b a : Int64} (ha : 0 ≤ a.toInt) (hb : 1 ≤ b.toInt) : ¬ (0 : Int32) < Jvm.Op.cmpValue (FP.dcmp (FP.ddiv (FP.l2d a) (FP.l2d b)) (FP.l2d a)) Jvm.ClassFile.CmpOp.g := by
  rw [own_cmp (own_pm ha hb) (own_pl ha)]
  exact own_vle (own_le (Nat.lt_of_lt_of_le own_Upos (own_bp hb)) (own_Rfits _) (own_Rnan _) (own_mle ha hb))
theorem own_c166 {b a : Int64} (ha : 0 ≤ a.toInt) (hb : b = 1) : Jvm.Op.cmpValue (FP.dcmp (FP.ddiv (FP.l2d a) (FP.l2d b)) (FP.l2d a)) Jvm.ClassFile.CmpOp.l = (0 : Int32) := by
  subst hb
  have h1 : (1 : Int64).toInt.toNat = 1 := by decide
  have hu : zmag b64 (own_R (1 : Int64).toInt.toNat) = own_U := by rw [h1, own_Rv (by decide), Nat.one_mul]
  rw [own_cmp (own_pm ha (by decide)) (own_pl ha), hu]
  exact own_veq (Nat.le_antisymm (own_le own_Upos (own_Rfits _) (own_Rnan _) (Nat.le_refl _)) (own_ge own_Upos (own_Rfits _) (Nat.le_refl _)))
theorem own_c184 {b a a' : Int64} (ha : 0 ≤ a.toInt) (ha' : 0 ≤ a'.toInt) (hb : 1 ≤ b.toInt) (h : ¬ a' < a) : ¬ (0 : Int32) < Jvm.Op.cmpValue (FP.dcmp (FP.ddiv (FP.l2d a) (FP.l2d b)) (FP.ddiv (FP.l2d a') (FP.l2d b))) Jvm.ClassFile.CmpOp.g := by
  rw [own_cmp (own_pm ha hb) (own_pm ha' hb)]
  have hle : a.toInt.toNat ≤ a'.toInt.toNat := by
    rw [Int64.lt_iff_toInt_lt] at h
    omega
  have hB := Nat.lt_of_lt_of_le own_Upos (own_bp hb)
  have m1 := own_mle ha hb
  have m2 := own_mle ha' hb
  have f1 := own_Rfits a.toInt.toNat
  have f2 := own_Rfits a'.toInt.toNat
  obtain ⟨c1, q1, e1⟩ := own_Rfin (own_63 ha)
  obtain ⟨c2, q2, e2⟩ := own_Rfin (own_63 ha')
  rw [e1] at m1 f1 ⊢
  rw [e2] at m2 f2 ⊢
  have hm := own_mono (by decide) hle e1 e2
  obtain ⟨c3, q3, e3⟩ := own_fin hB f1 m1
  obtain ⟨c4, q4, e4⟩ := own_fin hB f2 m2
  rw [e3, e4]
  exact own_vle (own_mono hB hm e3 e4)
/-- the third mean: s documents, length q * s + r -/
def own_T (s r q l : Int64) : Prop := (1 ≤ s.toInt ∧ s.toInt ≤ 1048576) ∧ (0 ≤ r.toInt ∧ r.toInt < s.toInt) ∧ (0 ≤ q.toInt ∧ q.toInt < 4294967296) ∧ l.toInt = q.toInt * s.toInt + r.toInt
theorem own_ac1 (L u U : Nat) : L * (2097152 * u) * U = L * 2097152 * (u * U) := by
  rw [← Nat.mul_assoc L, Nat.mul_assoc (L * 2097152)]
theorem own_third {s r q l : Int64} (h : own_T s r q l) : ∃ S R Q X : Nat, s.toInt = S ∧ r.toInt = R ∧ 1 ≤ S ∧ S ≤ 1048576 ∧ R < S ∧ Q < 4294967296 ∧
    own_pos (FP.ddiv (FP.l2d l) (FP.l2d s)) X ∧ own_pos (FP.l2d q) (Q * 2097152 * own_u) ∧ own_pos (FP.dadd (FP.l2d q) FP.dconst1) ((Q * 2097152 + 2097152) * own_u) ∧ own_pos (FP.dadd (FP.l2d q) (4602678819172646912 : UInt64)) ((Q * 2097152 + 1048576) * own_u) ∧
    (∀ k, k < 9007199254740992 → Q * S * 2097152 + R * 2097152 ≤ k * S → X ≤ k * own_u) ∧ (∀ k, k < 9007199254740992 → k * S ≤ Q * S * 2097152 + R * 2097152 → k * own_u ≤ X) := by
  obtain ⟨⟨s1, s2⟩, ⟨r1, r2⟩, ⟨q1, q2⟩, hl⟩ := h
  obtain ⟨S, hS⟩ : ∃ S : Nat, s.toInt = S := ⟨s.toInt.toNat, by omega⟩
  obtain ⟨R, hR⟩ : ∃ R : Nat, r.toInt = R := ⟨r.toInt.toNat, by omega⟩
  obtain ⟨Q, hQ⟩ : ∃ Q : Nat, q.toInt = Q := ⟨q.toInt.toNat, by omega⟩
  rw [hS] at s1 s2
  rw [hR, hS] at r2
  have hQ2 : Q < 4294967296 := by omega
  have hS2 : S ≤ 1048576 := by omega
  have hS1 : 1 ≤ S := by omega
  have hR2 : R < S := by omega
  have hL : l.toInt = ((Q * S + R : Nat) : Int) := by rw [hl, hQ, hS, hR, Int.natCast_add, Int.natCast_mul]
  have hb : Q * S + R < 9007199254740992 := by
    have : Q * S ≤ 4294967295 * 1048576 := Nat.mul_le_mul (by omega) hS2
    omega
  have nS : s.toInt.toNat = S := by omega
  have nQ : q.toInt.toNat = Q := by omega
  have nL : l.toInt.toNat = Q * S + R := by rw [hL]; exact Int.toNat_natCast _
  have pm := own_pm (b := s) (a := l) (by rw [hL]; exact Int.natCast_nonneg _) (by omega)
  rw [nS, nL, own_Rv hb, own_Rv (show S < 9007199254740992 by omega)] at pm
  have pq := own_pl (a := q) (by omega)
  rw [nQ, own_Rv (show Q < 9007199254740992 by omega)] at pq
  have eQ : Q * own_U = Q * 2097152 * own_u := by rw [own_Uu, Nat.mul_assoc]
  rw [eQ] at pq
  have fq : ∃ s c q', val64 (FP.l2d q) = .fin s c q' := by
    obtain ⟨c, q', e⟩ := own_Rfin (own_63 (a := q) (by omega))
    exact ⟨false, c, q', by rw [own_l2d (by omega), e]⟩
  have hB : 0 < S * own_U := Nat.mul_pos hS1 own_Upos
  have a1 : Q * 2097152 * own_u + own_U = (Q + 1) * own_U := by rw [← eQ, Nat.add_mul, Nat.one_mul]
  have a2 : (Q + 1) * own_U = (Q * 2097152 + 2097152) * own_u := by rw [own_Uu, ← Nat.mul_assoc, Nat.add_mul Q 1 2097152, Nat.one_mul 2097152]
  have a3 : Q * 2097152 * own_u + 1048576 * own_u = (Q * 2097152 + 1048576) * own_u := by rw [← Nat.add_mul]
  have p1 := own_sum (V := own_R (Q + 1)) pq own_p1 fq ⟨_, _, _, own_v1⟩ (own_Rfits _) (own_Rnan _) (by rw [own_zR (show Q + 1 < 9007199254740992 by omega), a1])
  have ph := own_sum (V := own_W (Q * 2097152 + 1048576)) pq own_ph fq ⟨_, _, _, own_vh⟩ (own_Wfits _) (own_Wnan _) (by rw [own_zW (show Q * 2097152 + 1048576 < 9007199254740992 by omega), a3])
  rw [a1, a2] at p1
  rw [a3] at ph
  refine ⟨S, R, Q, _, hS, hR, hS1, hS2, hR2, hQ2, pm, pq, p1, ph, ?_, ?_⟩
  · intro k hk hh
    have g := own_le (A := (Q * S + R) * own_U) hB (own_Wfits k) (own_Wnan k) (by
      rw [own_Wv hk]
      have m := Nat.mul_le_mul_right (own_u * own_U) hh
      rw [← Nat.add_mul] at m
      calc (Q * S + R) * own_U * own_U = (Q * S + R) * (2097152 * own_u) * own_U := by rw [← own_Uu]
        _ = (Q * S + R) * 2097152 * (own_u * own_U) := own_ac1 _ _ _
        _ ≤ k * S * (own_u * own_U) := m
        _ = k * own_u * (S * own_U) := Nat.mul_mul_mul_comm _ _ _ _)
    rw [own_Wv hk] at g
    exact g
  · intro k hk hh
    have g := own_ge (A := (Q * S + R) * own_U) hB (own_Wfits k) (by
      rw [own_Wv hk]
      have m := Nat.mul_le_mul_right (own_u * own_U) hh
      rw [← Nat.add_mul] at m
      calc k * own_u * (S * own_U) = k * S * (own_u * own_U) := Nat.mul_mul_mul_comm _ _ _ _
        _ ≤ (Q * S + R) * 2097152 * (own_u * own_U) := m
        _ = (Q * S + R) * (2097152 * own_u) * own_U := (own_ac1 _ _ _).symm
        _ = (Q * S + R) * own_U * own_U := by rw [← own_Uu])
    rw [own_Wv hk] at g
    exact g
theorem own_ex (Q S k : Nat) : (Q * 2097152 + k) * S = Q * S * 2097152 + k * S := by
  rw [Nat.add_mul]
  congr 1
  ac_rfl
theorem own_two {s r : Int64} {S R : Nat} (hs : s.toInt = S) (hr : r.toInt = R) (h : S ≤ 1048576) (h2 : R < S) : ((2 : Int64) * r).toInt = (2 * R : Nat) := by
  rw [Int64.toInt_mul, hr, show (2 : Int64).toInt = 2 from by decide, Int.bmod_def]
  omega
theorem own_c214 {s r q l : Int64} (h : own_T s r q l) (hr : r = 0) : Jvm.Op.cmpValue (FP.dcmp (FP.ddiv (FP.l2d l) (FP.l2d s)) (FP.l2d q)) Jvm.ClassFile.CmpOp.l = (0 : Int32) := by
  obtain ⟨S, R, Q, X, hS, hR, h1, h2, h3, h4, pm, pq, -, -, L, G⟩ := own_third h
  have r0 : R = 0 := by
    rw [hr, show (0 : Int64).toInt = 0 from by decide] at hR
    omega
  rw [own_cmp pm pq]
  refine own_veq (Nat.le_antisymm (L _ (by omega) ?_) (G _ (by omega) ?_))
  · rw [show Q * 2097152 * S = Q * S * 2097152 by ac_rfl]; omega
  · rw [show Q * 2097152 * S = Q * S * 2097152 by ac_rfl]; omega
theorem own_c228 {s r q l : Int64} (h : own_T s r q l) (hr : ¬ r = 0) : Jvm.Op.cmpValue (FP.dcmp (FP.l2d q) (FP.ddiv (FP.l2d l) (FP.l2d s))) Jvm.ClassFile.CmpOp.g < (0 : Int32) := by
  obtain ⟨S, R, Q, X, hS, hR, h1, h2, h3, h4, pm, pq, -, -, L, G⟩ := own_third h
  have r0 : 1 ≤ R := by
    rw [← Int64.toInt_inj, show (0 : Int64).toInt = 0 from by decide] at hr
    omega
  rw [own_cmp pq pm]
  refine own_vlt (Nat.lt_of_lt_of_le (Nat.mul_lt_mul_of_pos_right (show Q * 2097152 < Q * 2097152 + 2 by omega) own_upos) (G _ (by omega) ?_))
  rw [own_ex]
  omega
theorem own_c238 {s r q l : Int64} (h : own_T s r q l) : Jvm.Op.cmpValue (FP.dcmp (FP.ddiv (FP.l2d l) (FP.l2d s)) (FP.dadd (FP.l2d q) FP.dconst1)) Jvm.ClassFile.CmpOp.g < (0 : Int32) := by
  obtain ⟨S, R, Q, X, hS, hR, h1, h2, h3, h4, pm, pq, p1, ph, L, G⟩ := own_third h
  rw [own_cmp pm p1]
  refine own_vlt (Nat.lt_of_le_of_lt (L (Q * 2097152 + 2097150) (by omega) ?_) (Nat.mul_lt_mul_of_pos_right (by omega) own_upos))
  rw [own_ex]
  omega
theorem own_c264 {s r q l : Int64} (h : own_T s r q l) (hr : (2 : Int64) * r = s) : Jvm.Op.cmpValue (FP.dcmp (FP.ddiv (FP.l2d l) (FP.l2d s)) (FP.dadd (FP.l2d q) (4602678819172646912 : UInt64))) Jvm.ClassFile.CmpOp.l = (0 : Int32) := by
  obtain ⟨S, R, Q, X, hS, hR, h1, h2, h3, h4, pm, pq, p1, ph, L, G⟩ := own_third h
  have e : 2 * R = S := by
    have q := own_two hS hR h2 h3
    rw [hr, hS] at q
    omega
  rw [own_cmp pm ph]
  refine own_veq (Nat.le_antisymm (L _ (by omega) ?_) (G _ (by omega) ?_))
  · rw [own_ex]
    omega
  · rw [own_ex]
    omega
theorem own_c286 {s r q l : Int64} (h : own_T s r q l) (hr : (2 : Int64) * r < s) : Jvm.Op.cmpValue (FP.dcmp (FP.ddiv (FP.l2d l) (FP.l2d s)) (FP.dadd (FP.l2d q) (4602678819172646912 : UInt64))) Jvm.ClassFile.CmpOp.g < (0 : Int32) := by
  obtain ⟨S, R, Q, X, hS, hR, h1, h2, h3, h4, pm, pq, p1, ph, L, G⟩ := own_third h
  have e : 2 * R < S := by
    rw [Int64.lt_iff_toInt_lt, own_two hS hR h2 h3, hS] at hr
    omega
  rw [own_cmp pm ph]
  refine own_vlt (Nat.lt_of_le_of_lt (L (Q * 2097152 + 1048575) (by omega) ?_) (Nat.mul_lt_mul_of_pos_right (by omega) own_upos))
  rw [own_ex]
  omega
theorem own_c300 {s r q l : Int64} (h : own_T s r q l) (hr : ¬ (2 : Int64) * r = s) (hr2 : ¬ (2 : Int64) * r < s) : (0 : Int32) < Jvm.Op.cmpValue (FP.dcmp (FP.ddiv (FP.l2d l) (FP.l2d s)) (FP.dadd (FP.l2d q) (4602678819172646912 : UInt64))) Jvm.ClassFile.CmpOp.l := by
  obtain ⟨S, R, Q, X, hS, hR, h1, h2, h3, h4, pm, pq, p1, ph, L, G⟩ := own_third h
  have e : S < 2 * R := by
    rw [Int64.lt_iff_toInt_lt, own_two hS hR h2 h3, hS] at hr2
    rw [← Int64.toInt_inj, own_two hS hR h2 h3, hS] at hr
    omega
  rw [own_cmp pm ph]
  refine own_vgt (Nat.lt_of_lt_of_le (Nat.mul_lt_mul_of_pos_right (show Q * 2097152 + 1048576 < Q * 2097152 + 1048577 by omega) own_upos) (G _ (by omega) ?_))
  rw [own_ex]
  omega
end OwnFP
end Jvm.Pilot.@@N@@
namespace Jvm.Pilot.@@N@@
open Jvm Jvm.ClassFile Sem Op Lib Jvm.Free Jvm.Stand Jvm.LawKit Jvm.RoadKit Bundle Jvm.Pilot.@@N@@.Jvm.D
def fmax (q1 : Int64) (q2 : Int64) : Int64 := (if q1 < q2 then q2 else q1)
def fmean (d1 : Int64) (l1 : Int64) : UInt64 := (FP.ddiv (FP.l2d l1) (FP.l2d d1))
def f0_0 (q1 : Int64) (q2 : Int64) (q3 : Int64) (q4 : Int64) (q5 : Int64) : Int64 := ((XT.ushrL q4 (20 : Int32)) - ((XT.ushrL q4 (20 : Int32)) / ((q4 &&& (1048575 : Int64)) + (1 : Int64))) * ((q4 &&& (1048575 : Int64)) + (1 : Int64)))
def f0_1 (q1 : Int64) (q2 : Int64) (q3 : Int64) (q4 : Int64) (q5 : Int64) : Int64 := ((q5 &&& (4294967295 : Int64)) * ((q4 &&& (1048575 : Int64)) + (1 : Int64)))
def f0_2 (q1 : Int64) (q2 : Int64) (q3 : Int64) (q4 : Int64) (q5 : Int64) : UInt64 := (fmean (fmax (1 : Int64) (q1 &&& (9223372036854775807 : Int64))) (q2 &&& (9223372036854775807 : Int64)))
def f0_3 (q1 : Int64) (q2 : Int64) (q3 : Int64) (q4 : Int64) (q5 : Int64) : UInt64 := (fmean (fmax (1 : Int64) (q1 &&& (9223372036854775807 : Int64))) (q3 &&& (9223372036854775807 : Int64)))
def f0_4 (q1 : Int64) (q2 : Int64) (q3 : Int64) (q4 : Int64) (q5 : Int64) : UInt64 := (fmean ((q4 &&& (1048575 : Int64)) + (1 : Int64)) ((f0_1 q1 q2 q3 q4 q5) + (f0_0 q1 q2 q3 q4 q5)))
def f0_5 (q1 : Int64) (q2 : Int64) (q3 : Int64) (q4 : Int64) (q5 : Int64) : UInt64 := (FP.dadd (FP.l2d (q5 &&& (4294967295 : Int64))) (4602678819172646912 : UInt64))
theorem own_shr (z : Int64) (y : Int32) (k : Nat) (hk : (y.toInt64.toUInt64 &&& Int64.toUInt64 63).toBitVec.toNat % 64 = k) : (XT.ushrL z y).toBitVec = z.toBitVec >>> k := by
  subst hk
  show (z.toUInt64 >>> (y.toInt64.toUInt64 &&& Int64.toUInt64 63)).toBitVec = _
  rw [UInt64.toBitVec_shiftRight]
  show z.toBitVec >>> ((y.toInt64.toUInt64 &&& Int64.toUInt64 63).toBitVec % 64) = _
  rw [BitVec.ushiftRight_eq', BitVec.toNat_umod]
  rfl
theorem own_and (z m : Int64) (k : Nat) (hk : k ≤ 63) (hm : m.toBitVec.toNat = 2 ^ k - 1) : (z &&& m).toInt = ((z.toBitVec.toNat % 2 ^ k : Nat) : Int) := by
  have h1 : (z &&& m).toBitVec.toNat = z.toBitVec.toNat % 2 ^ k := by
    show (z.toBitVec &&& m.toBitVec).toNat = _
    rw [BitVec.toNat_and, hm, Nat.and_two_pow_sub_one_eq_mod]
  have h3 : z.toBitVec.toNat % 2 ^ k < 2 ^ k := Nat.mod_lt _ (Nat.two_pow_pos k)
  have h4 : 2 ^ k ≤ 2 ^ 63 := Nat.pow_le_pow_right (by decide) hk
  show (z &&& m).toBitVec.toInt = _
  rw [BitVec.toInt_eq_toNat_cond, h1, if_pos (by omega)]
theorem own_n63 (z : Int64) : 0 ≤ (z &&& (9223372036854775807 : Int64)).toInt := by
  rw [own_and z _ 63 (by decide) (by decide)]
  exact Int.natCast_nonneg _
theorem own_nl (z : Int64) : ¬ (z &&& (9223372036854775807 : Int64)) < 0 := by
  have h := own_n63 z
  rw [Int64.lt_iff_toInt_lt, show (0 : Int64).toInt = 0 from by decide]
  omega
theorem own_b1 (z : Int64) : 1 ≤ (fmax (1 : Int64) (z &&& (9223372036854775807 : Int64))).toInt := by
  unfold fmax
  split
  · rename_i h
    rw [Int64.lt_iff_toInt_lt, show (1 : Int64).toInt = 1 from by decide] at h
    omega
  · decide
theorem own_nb (z : Int64) : ¬ (fmax (1 : Int64) (z &&& (9223372036854775807 : Int64))) < 0 := by
  have h := own_b1 z
  rw [Int64.lt_iff_toInt_lt, show (0 : Int64).toInt = 0 from by decide]
  omega
theorem own_bz (z : Int64) : (fmax (1 : Int64) (z &&& (9223372036854775807 : Int64))) ≠ 0 := by
  have h := own_b1 z
  intro q
  rw [q] at h
  exact absurd h (by decide)
theorem own_s (z : Int64) : 1 ≤ ((z &&& (1048575 : Int64)) + (1 : Int64)).toInt ∧ ((z &&& (1048575 : Int64)) + (1 : Int64)).toInt ≤ 1048576 := by
  have h3 : z.toBitVec.toNat % 2 ^ 20 < 2 ^ 20 := Nat.mod_lt _ (Nat.two_pow_pos 20)
  rw [Int64.toInt_add, own_and z _ 20 (by decide) (by decide), show (1 : Int64).toInt = 1 from by decide, Int.bmod_def]
  omega
theorem own_sz (z : Int64) : ((z &&& (1048575 : Int64)) + (1 : Int64)) ≠ 0 := by
  have h := (own_s z).1
  intro q
  rw [q] at h
  exact absurd h (by decide)
theorem own_x (z : Int64) : 0 ≤ (XT.ushrL z (20 : Int32)).toInt := by
  have h : (XT.ushrL z (20 : Int32)).toBitVec = z.toBitVec >>> 20 := own_shr z 20 20 (by decide)
  have h2 : (XT.ushrL z (20 : Int32)).toInt = ((z.toBitVec.toNat / 2 ^ 20 : Nat) : Int) := by
    show (XT.ushrL z (20 : Int32)).toBitVec.toInt = _
    rw [h, BitVec.toInt_eq_toNat_cond, BitVec.toNat_ushiftRight, Nat.shiftRight_eq_div_pow, if_pos (by have := z.toBitVec.isLt; omega)]
  rw [h2]
  exact Int.natCast_nonneg _
theorem own_rr {x s : Int64} (hx : 0 ≤ x.toInt) (hs : 1 ≤ s.toInt) : 0 ≤ (x - (x / s) * s).toInt ∧ (x - (x / s) * s).toInt < s.toInt := by
  have ne : s ≠ -1 := by
    rintro rfl
    exact absurd hs (by decide)
  have d : (x / s).toInt = x.toInt / s.toInt := by rw [Int64.toInt_div_of_ne_right x s ne, Int.tdiv_eq_ediv_of_nonneg hx]
  have hx2 := x.toInt_lt
  have p1 : 0 ≤ x.toInt / s.toInt * s.toInt := Int.mul_nonneg (Int.ediv_nonneg hx (by omega)) (by omega)
  have p3 : x.toInt - x.toInt / s.toInt * s.toInt = x.toInt % s.toInt := by rw [Int.emod_def, Int.mul_comm s.toInt]
  have p4 := Int.emod_nonneg x.toInt (show s.toInt ≠ 0 by omega)
  have p5 := Int.emod_lt_of_pos x.toInt (show 0 < s.toInt by omega)
  rw [← p3] at p4 p5
  rw [Int64.toInt_sub, Int64.toInt_mul, d]
  generalize x.toInt / s.toInt * s.toInt = w at *
  rw [show w.bmod (2 ^ 64) = w from by rw [Int.bmod_def]; omega, show (x.toInt - w).bmod (2 ^ 64) = x.toInt - w from by rw [Int.bmod_def]; omega]
  exact ⟨p4, p5⟩
theorem own_q (z : Int64) : 0 ≤ (z &&& (4294967295 : Int64)).toInt ∧ (z &&& (4294967295 : Int64)).toInt < 4294967296 := by
  have h3 : z.toBitVec.toNat % 2 ^ 32 < 2 ^ 32 := Nat.mod_lt _ (Nat.two_pow_pos 32)
  rw [own_and z _ 32 (by decide) (by decide)]
  omega
theorem own_TT (q1 q2 q3 q4 q5 : Int64) : own_T ((q4 &&& (1048575 : Int64)) + (1 : Int64)) (f0_0 q1 q2 q3 q4 q5) (q5 &&& (4294967295 : Int64)) ((f0_1 q1 q2 q3 q4 q5) + (f0_0 q1 q2 q3 q4 q5)) := by
  unfold f0_0 f0_1
  have hs := own_s q4
  have hq := own_q q5
  have hr := own_rr (own_x q4) hs.1
  generalize (XT.ushrL q4 (20 : Int32)) - ((XT.ushrL q4 (20 : Int32)) / ((q4 &&& (1048575 : Int64)) + (1 : Int64))) * ((q4 &&& (1048575 : Int64)) + (1 : Int64)) = r at *
  generalize (q4 &&& (1048575 : Int64)) + (1 : Int64) = s at *
  generalize q5 &&& (4294967295 : Int64) = q at *
  refine ⟨hs, hr, hq, ?_⟩
  have p0 : 0 ≤ q.toInt * s.toInt := Int.mul_nonneg hq.1 (by omega)
  have p1 : q.toInt * s.toInt ≤ 4294967295 * 1048576 := Int.mul_le_mul (by omega) hs.2 (by omega) (by decide)
  rw [Int64.toInt_add, Int64.toInt_mul]
  generalize q.toInt * s.toInt = w at *
  rw [show w.bmod (2 ^ 64) = w from by rw [Int.bmod_def]; omega, Int.bmod_def]
  omega
theorem own_ns (q1 q2 q3 q4 q5 : Int64) : ¬ ((q4 &&& (1048575 : Int64)) + (1 : Int64)) < 0 := by
  have h := own_s q4
  rw [Int64.lt_iff_toInt_lt, show (0 : Int64).toInt = 0 from by decide]
  omega
theorem own_nq (q1 q2 q3 q4 q5 : Int64) : ¬ ((f0_1 q1 q2 q3 q4 q5) + (f0_0 q1 q2 q3 q4 q5)) < 0 := by
  obtain ⟨h1, h2, h3, h4⟩ := own_TT q1 q2 q3 q4 q5
  rw [Int64.lt_iff_toInt_lt, show (0 : Int64).toInt = 0 from by decide, h4]
  have p0 := Int.mul_nonneg h3.1 (show (0 : Int) ≤ ((q4 &&& (1048575 : Int64)) + (1 : Int64)).toInt by omega)
  omega

abbrev own_G (tb : Tables) (e : Env) (below : List Frame) (Q : Outcome → State → Prop) (A : State) : Prop := ∃ s₂ o, Steps tb e below A s₂ ∧ s₂.status = .running ∧ Ended s₂ below o ∧ Q o s₂
theorem own_step {tb : Tables} {e : Env} {below : List Frame} {Q : Outcome → State → Prop} {A B : State} (h : ∀ t, Steps tb e below B t → Steps tb e below A t) (g : own_G tb e below Q B) : own_G tb e below Q A := by
  obtain ⟨s2, o, h1, h2⟩ := g
  exact ⟨s2, o, h _ h1, h2⟩
theorem own_aN {x : Addr} : XT.acmp .eq (.ref x) .null = false ∧ XT.acmp .ne (.ref x) .null = true := by simp [XT.acmp]
theorem own_aT {x y : Addr} (h : x = y) : XT.acmp .eq (.ref x) (.ref y) = true ∧ XT.acmp .ne (.ref x) (.ref y) = false := by subst h; exact ⟨by simp [XT.acmp], by simp [XT.acmp]⟩
theorem own_aF {x y : Addr} (h : ¬ x = y) : XT.acmp .eq (.ref x) (.ref y) = false ∧ XT.acmp .ne (.ref x) (.ref y) = true := by simp [XT.acmp, h]
theorem own_cl (x y : Int64) : XT.cmpL x y < 0 ↔ x < y := lw_lt x y
theorem own_cg (x y : Int64) : 0 < XT.cmpL x y ↔ y < x := lw_gt x y
theorem own_ce (x y : Int64) : XT.cmpL x y = 0 ↔ x = y := lw_eq x y
theorem pd_0 : parseMethodDescriptor "(JJ)J" = some ⟨[.long, .long], some .long⟩ := by decide +kernel
theorem pd_1 : parseMethodDescriptor "(JJ[J)V" = some ⟨[.long, .long, (.array .long)], none⟩ := by decide +kernel
theorem pd_2 : parseMethodDescriptor "()D" = some ⟨[], some .double⟩ := by decide +kernel
theorem d1_0 : decode jdk_29_method_66_code 0 = .ok (.lload_n 0, 1) := by decide +kernel
theorem d1_1 : decode jdk_29_method_66_code 1 = .ok (.lload_n 2, 1) := by decide +kernel
theorem d1_2 : decode jdk_29_method_66_code 2 = .ok (.lcmp, 1) := by decide +kernel
theorem d1_3 : decode jdk_29_method_66_code 3 = .ok (.ifCond .lt 7, 3) := by decide +kernel
theorem d1_6 : decode jdk_29_method_66_code 6 = .ok (.lload_n 0, 1) := by decide +kernel
theorem d1_7 : decode jdk_29_method_66_code 7 = .ok (.goto 4, 3) := by decide +kernel
theorem d1_10 : decode jdk_29_method_66_code 10 = .ok (.lload_n 2, 1) := by decide +kernel
theorem d1_11 : decode jdk_29_method_66_code 11 = .ok (.lreturn, 1) := by decide +kernel
theorem ef_max (m : MethodId) (q1 : Int64) (q2 : Int64) : entryFrame m #[(.long q1), (.long q2)] 4 = mkF m 0 #[.val (.long q1), .second, .val (.long q2), .second] [] := by first | (simp [entryFrame, mkF, argsToLocals, Value.category]; done) | rfl
def Qmax (Z : State) (q1 : Int64) (q2 : Int64) (h0 : Heap) (n0 : Nat) (v : Option Value) (h : Heap) (L : List Loc) : Prop := v = some (.long (fmax q1 q2)) ∧ Fr n0 L ∧ h = h0
set_option maxRecDepth 65536 in
set_option maxHeartbeats 40000000 in
theorem rmmax (l : Launch) (Z : State) (a0 : Array Value) (hw : ∀ d ∈ tables_1, d.before a0 Z = true) (ws : List Jvm.Cond) (q1 : Int64) (q2 : Int64) (h0 : Heap) (n0 : Nat) (Z0 : n0 ≤ h0.size) :
    MetFree l (⟨"java/lang/Math", "max", "(JJ)J"⟩ : MethodName) (head1 (Jvm.Cond.code (⟨"java/lang/Math", "max", "(JJ)J"⟩ : MethodName) jdk_29_method_66_code 4 (some .long) :: ws) ({ frames := 0, cells := 0, slots := 0, locals := 0 } : Room)) (fun a U => a = #[(.long q1), (.long q2)] ∧ Z.Warmed39 U.vm ∧ U.heap = h0) (fun _ _ _ _ _ => True) (fun _ U o U' => ∃ v L, o = .returned v ∧ Qmax Z q1 q2 h0 n0 v U'.heap L ∧ FrameEnd U o U' L ({ frames := 0, cells := 0, slots := 0, locals := 0 } : Room).cells ({ frames := 0, cells := 0, slots := 0, locals := 0 } : Room).slots) := by
  refine MetFree.of_bodySF (by decide +kernel) hisR ?_
  intro p e s m args below meth c s₁ Bd hml0 hP hK
  obtain ⟨rfl, hZ, hh⟩ := hP
  have hx := Bd.exec
  have hby := Bd.bytes
  have hml : c.maxLocals = 4 := hml0
  have hown : s.vm.findClass "java/lang/Math" = some m.cls := findClass_of_methodNamed Bd.named
  have hnm := (name_of_methodNamed Bd.named Bd.method).1
  have X0 : Stand p l e ({ frames := 0, cells := 0, slots := 0, locals := 0 } : Room) s m #[(.long q1), (.long q2)] below meth c s₁ [] 0 0 := Stand.of_body Bd
  have e0 : s₁.heap = h0 := by rw [← hh, Bd.state]; rfl
  have N0 := Fr.nil n0
  have pre0 : ∀ t, Steps p.tables e below (s₁.setTop (mkF m 0 #[.val (.long q1), .second, .val (.long q2), .second] [])) t → Steps p.tables e below (s₁.setTop (entryFrame m #[(.long q1), (.long q2)] 4)) t := fun t k => castTop (ef_max m q1 q2) k
  refine own_step (Q := fun o U' => ∃ v L, o = .returned v ∧ Qmax Z q1 q2 h0 n0 v U'.heap L ∧ FrameEnd s o U' L ({ frames := 0, cells := 0, slots := 0, locals := 0 } : Room).cells ({ frames := 0, cells := 0, slots := 0, locals := 0 } : Room).slots) pre0 ?_
  have st2 : ∀ t, Steps p.tables e below (s₁.setTop (mkF m 11 #[.val (.long q1), .second, .val (.long q2), .second] [(.long (if q1 < q2 then q2 else q1))])) t → Steps p.tables e below (s₁.setTop (mkF m 3 #[.val (.long q1), .second, .val (.long q2), .second] [(.int (XT.cmpL q1 q2))])) t := by
    intro t k
    by_cases h1 : q1 < q2
    · rw [show (if q1 < q2 then q2 else q1) = q2 from if_pos h1] at k
      show Steps p.tables e below (s₁.setTop (mkF m 3 #[.val (.long q1), .second, .val (.long q2), .second] [(.int (XT.cmpL q1 q2))])) _
      refine XS.ifYes X0.here hx rfl (pc0 := 3) (pc' := 10) rfl (hb hby d1_3) rfl ((if0 _ _).trans (tlt ((own_cl _ _).mpr h1)).1) (by decide) (by decide) ?_
      show Steps p.tables e below (s₁.setTop (mkF m 10 #[.val (.long q1), .second, .val (.long q2), .second] [])) _
      refine XT.lloadN X0.here hx rfl (hb hby d1_10) rfl ?_
      exact k
    · rw [show (if q1 < q2 then q2 else q1) = q1 from if_neg h1] at k
      show Steps p.tables e below (s₁.setTop (mkF m 3 #[.val (.long q1), .second, .val (.long q2), .second] [(.int (XT.cmpL q1 q2))])) _
      refine XS.ifNo X0.here hx rfl (hb hby d1_3) rfl ((if0 _ _).trans (flt (mt (own_cl _ _).mp h1)).1) ?_
      show Steps p.tables e below (s₁.setTop (mkF m 6 #[.val (.long q1), .second, .val (.long q2), .second] [])) _
      refine XT.lloadN X0.here hx rfl (hb hby d1_6) rfl ?_
      show Steps p.tables e below (s₁.setTop (mkF m 7 #[.val (.long q1), .second, .val (.long q2), .second] [(.long q1)])) _
      refine XS.goto X0.here hx rfl (pc0 := 7) (pc' := 11) rfl (hb hby d1_7) (by decide) (by decide) ?_
      exact k
  obtain ⟨fs, hr, hrun, hended, hW, hsame⟩ := X0.leave (v := some (.long (if q1 < q2 then q2 else q1))) (fun h => by rw [Bd.returns] at h; cases h)
  refine ⟨_, _, ?_, hrun, hended, _, _, rfl, ?_, ⟨_, rfl⟩, hW, hsame.mono (by decide) (by decide)⟩
  · show Steps p.tables e below (s₁.setTop (mkF m 0 #[.val (.long q1), .second, .val (.long q2), .second] [])) _
    refine XT.lloadN X0.here hx rfl (hb hby d1_0) rfl ?_
    show Steps p.tables e below (s₁.setTop (mkF m 1 #[.val (.long q1), .second, .val (.long q2), .second] [(.long q1)])) _
    refine XT.lloadN X0.here hx rfl (hb hby d1_1) rfl ?_
    show Steps p.tables e below (s₁.setTop (mkF m 2 #[.val (.long q1), .second, .val (.long q2), .second] [(.long q2), (.long q1)])) _
    refine XT.lcmp X0.here hx rfl (hb hby d1_2) rfl ?_
    show Steps p.tables e below (s₁.setTop (mkF m 3 #[.val (.long q1), .second, .val (.long q2), .second] [(.int (XT.cmpL q1 q2))])) _
    refine st2 _ ?_
    show Steps p.tables e below (s₁.setTop (mkF m 11 #[.val (.long q1), .second, .val (.long q2), .second] [(.long (if q1 < q2 then q2 else q1))])) _
    jvm_step X0.here [X0.here.top, hx, (hb hby d1_11), X0.method', Bd.returns, narrow]
    first | (intro acts; rw [hr _ acts rfl rfl rfl]) | rw [hr _ _ rfl rfl rfl]
    exact Steps.refl _
  · show Qmax Z q1 q2 h0 n0 _ s₁.heap _
    rw [e0]
    have hf : fmax q1 q2 = (if q1 < q2 then q2 else q1) := rfl
    exact ⟨by rw [hf], N0, rfl⟩
theorem d2_0 : decode prog_31_method_1_code 0 = .ok (.aload_n 0, 1) := by decide +kernel
theorem d2_1 : decode prog_31_method_1_code 1 = .ok (.invokespecial 1, 3) := by decide +kernel
theorem d2_4 : decode prog_31_method_1_code 4 = .ok (.lload_n 1, 1) := by decide +kernel
theorem d2_5 : decode prog_31_method_1_code 5 = .ok (.lconst 0, 1) := by decide +kernel
theorem d2_6 : decode prog_31_method_1_code 6 = .ok (.lcmp, 1) := by decide +kernel
theorem d2_7 : decode prog_31_method_1_code 7 = .ok (.ifCond .lt 9, 3) := by decide +kernel
theorem d2_10 : decode prog_31_method_1_code 10 = .ok (.lload_n 3, 1) := by decide +kernel
theorem d2_11 : decode prog_31_method_1_code 11 = .ok (.lconst 0, 1) := by decide +kernel
theorem d2_12 : decode prog_31_method_1_code 12 = .ok (.lcmp, 1) := by decide +kernel
theorem d2_13 : decode prog_31_method_1_code 13 = .ok (.ifCond .ge 13, 3) := by decide +kernel
theorem d2_26 : decode prog_31_method_1_code 26 = .ok (.aload 5, 2) := by decide +kernel
theorem d2_28 : decode prog_31_method_1_code 28 = .ok (.astore 6, 2) := by decide +kernel
theorem d2_30 : decode prog_31_method_1_code 30 = .ok (.aload 6, 2) := by decide +kernel
theorem d2_32 : decode prog_31_method_1_code 32 = .ok (.arraylength, 1) := by decide +kernel
theorem d2_33 : decode prog_31_method_1_code 33 = .ok (.istore 7, 2) := by decide +kernel
theorem d2_35 : decode prog_31_method_1_code 35 = .ok (.iconst 0, 1) := by decide +kernel
theorem d2_36 : decode prog_31_method_1_code 36 = .ok (.istore 8, 2) := by decide +kernel
theorem d2_38 : decode prog_31_method_1_code 38 = .ok (.iload 8, 2) := by decide +kernel
theorem d2_40 : decode prog_31_method_1_code 40 = .ok (.iload 7, 2) := by decide +kernel
theorem d2_42 : decode prog_31_method_1_code 42 = .ok (.if_icmp .ge 46, 3) := by decide +kernel
theorem d2_88 : decode prog_31_method_1_code 88 = .ok (.aload_n 0, 1) := by decide +kernel
theorem d2_89 : decode prog_31_method_1_code 89 = .ok (.lload_n 1, 1) := by decide +kernel
theorem d2_90 : decode prog_31_method_1_code 90 = .ok (.putfield 18, 3) := by decide +kernel
theorem d2_93 : decode prog_31_method_1_code 93 = .ok (.aload_n 0, 1) := by decide +kernel
theorem d2_94 : decode prog_31_method_1_code 94 = .ok (.lload_n 3, 1) := by decide +kernel
theorem d2_95 : decode prog_31_method_1_code 95 = .ok (.putfield 24, 3) := by decide +kernel
theorem d2_98 : decode prog_31_method_1_code 98 = .ok (.aload_n 0, 1) := by decide +kernel
theorem d2_99 : decode prog_31_method_1_code 99 = .ok (.aload 5, 2) := by decide +kernel
theorem d2_101 : decode prog_31_method_1_code 101 = .ok (.invokevirtual 27, 3) := by decide +kernel
theorem d2_104 : decode prog_31_method_1_code 104 = .ok (.checkcast 28, 3) := by decide +kernel
theorem d2_107 : decode prog_31_method_1_code 107 = .ok (.putfield 33, 3) := by decide +kernel
theorem d2_110 : decode prog_31_method_1_code 110 = .ok (.return_, 1) := by decide +kernel
theorem pn_ini : plainName "com/example/stratum/stratum/search/Statistics" = true := by first | (simp [plainName, overriddenIn]; done) | decide +kernel
theorem ef_ini (m : MethodId) (a1 : Addr) (q2 : Int64) (q3 : Int64) (a4 : Addr) : entryFrame m #[(.ref a1), (.long q2), (.long q3), (.ref a4)] 11 = mkF m 0 #[.val (.ref a1), .val (.long q2), .second, .val (.long q3), .second, .val (.ref a4), .unset, .unset, .unset, .unset, .unset] [] := by first | (simp [entryFrame, mkF, argsToLocals, Value.category]; done) | rfl
def Qini (Z : State) (a1 : Addr) (q2 : Int64) (q3 : Int64) (a4 : Addr) (k1 : ClassId) (h0 : Heap) (n0 : Nat) (v : Option Value) (h : Heap) (L : List Loc) : Prop := v = none ∧ Fr n0 L ∧ Keep h0 h [a1] ∧ (Exa Z h a1 "com/example/stratum/stratum/search/Statistics") ∧ (Fld Z h a1 "com/example/stratum/stratum/search/Statistics" "documents" "J" (.long q2)) ∧ (Fld Z h a1 "com/example/stratum/stratum/search/Statistics" "length" "J" (.long q3))
set_option maxRecDepth 65536 in
set_option maxHeartbeats 40000000 in
theorem rmini (l : Launch) (Z : State) (a0 : Array Value) (hw : ∀ d ∈ tables_1, d.before a0 Z = true) (ws : List Jvm.Cond) (a1 : Addr) (q2 : Int64) (q3 : Int64) (a4 : Addr) (k1 : ClassId) (h0 : Heap) (n0 : Nat) (Z0 : n0 ≤ h0.size) (E_a1 : Exa Z h0 a1 "com/example/stratum/stratum/search/Statistics") (G_a1 : n0 ≤ a1) (F_a1_documents : Fld Z h0 a1 "com/example/stratum/stratum/search/Statistics" "documents" "J" (.long (0 : Int64))) (F_a1_length : Fld Z h0 a1 "com/example/stratum/stratum/search/Statistics" "length" "J" (.long (0 : Int64))) (F_a1_matching : Fld Z h0 a1 "com/example/stratum/stratum/search/Statistics" "matching" "[J" .null) (A_a4 : Arv Z h0 a4 k1 .long (0 : Int32) [] (.long (0 : Int64))) (E_a4 : Exa Z h0 a4 "[J") (hd : ¬ q2 < 0) (hl : ¬ q3 < 0) :
    MetFree l (⟨"com/example/stratum/stratum/search/Statistics", "<init>", "(JJ[J)V"⟩ : MethodName) (head1 (Jvm.Cond.code (⟨"com/example/stratum/stratum/search/Statistics", "<init>", "(JJ[J)V"⟩ : MethodName) prog_31_method_1_code 11 none :: ws) ({ frames := 1, cells := 1, slots := 0, locals := 15 } : Room)) (fun a U => a = #[(.ref a1), (.long q2), (.long q3), (.ref a4)] ∧ Z.Warmed39 U.vm ∧ U.heap = h0) (fun _ _ _ _ _ => True) (fun _ U o U' => ∃ v L, o = .returned v ∧ Qini Z a1 q2 q3 a4 k1 h0 n0 v U'.heap L ∧ FrameEnd U o U' L ({ frames := 1, cells := 1, slots := 0, locals := 15 } : Room).cells ({ frames := 1, cells := 1, slots := 0, locals := 15 } : Room).slots) := by
  refine MetFree.of_bodySF (plainFor_of_name pn_ini) hisR ?_
  intro p e s m args below meth c s₁ Bd hml0 hP hK
  obtain ⟨rfl, hZ, hh⟩ := hP
  have hx := Bd.exec
  have hby := Bd.bytes
  have hml : c.maxLocals = 11 := hml0
  have hown : s.vm.findClass "com/example/stratum/stratum/search/Statistics" = some m.cls := findClass_of_methodNamed Bd.named
  have hnm := (name_of_methodNamed Bd.named Bd.method).1
  have X0 : Stand p l e ({ frames := 1, cells := 1, slots := 0, locals := 15 } : Room) s m #[(.ref a1), (.long q2), (.long q3), (.ref a4)] below meth c s₁ [] 0 0 := Stand.of_body Bd
  have e0 : s₁.heap = h0 := by rw [← hh, Bd.state]; rfl
  have N0 := Fr.nil n0
  have pre0 : ∀ t, Steps p.tables e below (s₁.setTop (mkF m 0 #[.val (.ref a1), .val (.long q2), .second, .val (.long q3), .second, .val (.ref a4), .unset, .unset, .unset, .unset, .unset] [])) t → Steps p.tables e below (s₁.setTop (entryFrame m #[(.ref a1), (.long q2), (.long q3), (.ref a4)] 11)) t := fun t k => castTop (ef_ini m a1 q2 q3 a4) k
  refine own_step (Q := fun o U' => ∃ v L, o = .returned v ∧ Qini Z a1 q2 q3 a4 k1 h0 n0 v U'.heap L ∧ FrameEnd s o U' L ({ frames := 1, cells := 1, slots := 0, locals := 15 } : Room).cells ({ frames := 1, cells := 1, slots := 0, locals := 15 } : Room).slots) pre0 ?_
  have K0 : Keep h0 h0 [a1] := Keep.refl h0 [a1]
  obtain ⟨T1, X1, e1, st1⟩ := initO X0 hx hZ hown (hw _ (List.mem_of_getElem? (i := 14) rfl)) (hw _ (List.mem_of_getElem? (i := 15) rfl)) (hw _ (List.mem_of_getElem? (i := 16) rfl)) e0 (g := (mkF m 1 #[.val (.ref a1), .val (.long q2), .second, .val (.long q3), .second, .val (.ref a4), .unset, .unset, .unset, .unset, .unset] [(.ref a1)])) rfl (by rw [hml]; rfl) rfl (hb hby d2_1) (by decide) (W := 0) (by show 2 * 0 + _ ≤ _; exact Nat.le_of_eq rfl) (by decide)
  have h2 : ¬ (q2 < (0 : Int64)) := hd
  have h3 : ¬ (q3 < (0 : Int64)) := hl
  obtain ⟨cl4, Ar4, -, S4, M4, -, -⟩ := id A_a4
  have h5 : ¬ ((0 : Int32) < (0 : Int32)) := by decide
  obtain ⟨T6, h6, X6, e6, W6, st6⟩ := putF X1 hx hZ hown (host := "") (Or.inl (hw _ (List.mem_of_getElem? (i := 17) rfl))) Via.refl e1 F_a1_documents E_a1 (Or.inr ⟨(hw _ (List.mem_of_getElem? (i := 18) rfl)), rfl, hnm⟩) (hw _ (List.mem_of_getElem? (i := 8) rfl)) (ty := .long) (by decide) rfl rfl (g := (mkF m 90 #[.val (.ref a1), .val (.long q2), .second, .val (.long q3), .second, .val (.ref a4), .val (.ref a4), .val (.int (0 : Int32)), .val (.int (0 : Int32)), .unset, .unset] [(.long q2), (.ref a1)])) rfl rfl (hb hby d2_90)
  have u6_0 := E_a1.wr W6
  have u6_1 := F_a1_documents.same W6
  have u6_2 := F_a1_length.other W6 (Or.inr (slot_ne (Or.inr (hw _ (List.mem_of_getElem? (i := 20) rfl))) (Or.inr (hw _ (List.mem_of_getElem? (i := 18) rfl))) (by decide) (t := .long) (t' := .long) (by decide) (by decide)))
  have u6_3 := F_a1_matching.other W6 (Or.inr (slot_ne (Or.inr (hw _ (List.mem_of_getElem? (i := 31) rfl))) (Or.inr (hw _ (List.mem_of_getElem? (i := 18) rfl))) (by decide) (t := (.array .long)) (t' := .long) (by decide) (by decide)))
  have u6_4 := A_a4.other W6 (ne_exa E_a4 E_a1 (by decide))
  have u6_5 := E_a4.wr W6
  have K6 := K0.wr W6 (Or.inl (List.mem_of_getElem? (i := 0) rfl))
  have Z6 : n0 ≤ h6.size := Nat.le_trans Z0 (Keep.of_wr W6).1
  have N6 := Fr.snoc X6 N0 G_a1
  obtain ⟨T7, h7, X7, e7, W7, st7⟩ := putF X6 hx hZ hown (host := "") (Or.inl (hw _ (List.mem_of_getElem? (i := 19) rfl))) Via.refl e6 u6_2 u6_0 (Or.inr ⟨(hw _ (List.mem_of_getElem? (i := 20) rfl)), rfl, hnm⟩) (hw _ (List.mem_of_getElem? (i := 8) rfl)) (ty := .long) (by decide) rfl rfl (g := (mkF m 95 #[.val (.ref a1), .val (.long q2), .second, .val (.long q3), .second, .val (.ref a4), .val (.ref a4), .val (.int (0 : Int32)), .val (.int (0 : Int32)), .unset, .unset] [(.long q3), (.ref a1)])) rfl rfl (hb hby d2_95)
  have u7_0 := u6_0.wr W7
  have u7_1 := u6_1.other W7 (Or.inr (slot_ne (Or.inr (hw _ (List.mem_of_getElem? (i := 18) rfl))) (Or.inr (hw _ (List.mem_of_getElem? (i := 20) rfl))) (by decide) (t := .long) (t' := .long) (by decide) (by decide)))
  have u7_2 := u6_2.same W7
  have u7_3 := u6_3.other W7 (Or.inr (slot_ne (Or.inr (hw _ (List.mem_of_getElem? (i := 31) rfl))) (Or.inr (hw _ (List.mem_of_getElem? (i := 20) rfl))) (by decide) (t := (.array .long)) (t' := .long) (by decide) (by decide)))
  have u7_4 := u6_4.other W7 (ne_exa u6_5 u6_0 (by decide))
  have u7_5 := u6_5.wr W7
  have K7 := K6.wr W7 (Or.inl (List.mem_of_getElem? (i := 0) rfl))
  have Z7 : n0 ≤ h7.size := Nat.le_trans Z6 (Keep.of_wr W7).1
  have N7 := Fr.snoc X7 N6 G_a1
  obtain ⟨T8, h8, X8, e8, E8, A8, Ex8, st8⟩ := cloneH X7 hx hZ hown (hw _ (List.mem_of_getElem? (i := 21) rfl)) (hw _ (List.mem_of_getElem? (i := 22) rfl)) (hw _ (List.mem_of_getElem? (i := 26) rfl)) (hw _ (List.mem_of_getElem? (i := 24) rfl)) (hw _ (List.mem_of_getElem? (i := 25) rfl)) (hw _ (List.mem_of_getElem? (i := 27) rfl)) e7 (Arv.arh u7_4) u7_5 (g := (mkF m 101 #[.val (.ref a1), .val (.long q2), .second, .val (.long q3), .second, .val (.ref a4), .val (.ref a4), .val (.int (0 : Int32)), .val (.int (0 : Int32)), .unset, .unset] [(.ref a4), (.ref a1)])) rfl (by rw [hml]; rfl) rfl (hb hby d2_101) (by decide) (W := 1) (cap := 0) (by show 2 * 0 + _ ≤ _; exact Nat.le_of_eq rfl) (by decide) (by decide) (by decide) (by decide)
  obtain ⟨o8, g8⟩ : ∃ z, z = h7.size := ⟨_, rfl⟩
  rw [← g8] at A8 Ex8 st8
  have ne8_1 : a1 ≠ o8 := Nat.ne_of_lt (Nat.lt_of_lt_of_le u7_0.lt (Nat.le_of_eq g8.symm))
  have ne8_2 : a4 ≠ o8 := Nat.ne_of_lt (Nat.lt_of_lt_of_le u7_4.lt (Nat.le_of_eq g8.symm))
  have u8_0 := u7_0.ext E8
  have u8_1 := u7_1.ext E8
  have u8_2 := u7_2.ext E8
  have u8_3 := u7_3.ext E8
  have u8_4 := u7_4.ext E8
  have u8_5 := u7_5.ext E8
  have ge8 : n0 ≤ o8 := Nat.le_trans Z7 (Nat.le_of_eq g8.symm)
  have Z8 : n0 ≤ h8.size := Nat.le_trans Z7 E8.1
  have sz8 : h0.size ≤ o8 := Nat.le_trans K7.1 (Nat.le_of_eq g8.symm)
  have K8 := K7.ext E8
  have V8 : Arv Z h8 o8 k1 .long (0 : Int32) [] (.long (0 : Int64)) := A8
  obtain ⟨T9, X9, e9, st9⟩ := castY X8 hx hZ hown (hw _ (List.mem_of_getElem? (i := 28) rfl)) e8 (Ins.self Ex8) (g := (mkF m 104 #[.val (.ref a1), .val (.long q2), .second, .val (.long q3), .second, .val (.ref a4), .val (.ref a4), .val (.int (0 : Int32)), .val (.int (0 : Int32)), .unset, .unset] [(.ref o8), (.ref a1)])) rfl rfl (hb hby d2_104)
  obtain ⟨T10, h10, X10, e10, W10, st10⟩ := putF X9 hx hZ hown (host := "") (Or.inl (hw _ (List.mem_of_getElem? (i := 30) rfl))) Via.refl e9 u8_3 u8_0 (Or.inr ⟨(hw _ (List.mem_of_getElem? (i := 31) rfl)), rfl, hnm⟩) (hw _ (List.mem_of_getElem? (i := 8) rfl)) (ty := (.array .long)) (by decide) rfl rfl (g := (mkF m 107 #[.val (.ref a1), .val (.long q2), .second, .val (.long q3), .second, .val (.ref a4), .val (.ref a4), .val (.int (0 : Int32)), .val (.int (0 : Int32)), .unset, .unset] [(.ref o8), (.ref a1)])) rfl rfl (hb hby d2_107)
  have u10_0 := u8_0.wr W10
  have u10_1 := u8_1.other W10 (Or.inr (slot_ne (Or.inr (hw _ (List.mem_of_getElem? (i := 18) rfl))) (Or.inr (hw _ (List.mem_of_getElem? (i := 31) rfl))) (by decide) (t := .long) (t' := (.array .long)) (by decide) (by decide)))
  have u10_2 := u8_2.other W10 (Or.inr (slot_ne (Or.inr (hw _ (List.mem_of_getElem? (i := 20) rfl))) (Or.inr (hw _ (List.mem_of_getElem? (i := 31) rfl))) (by decide) (t := .long) (t' := (.array .long)) (by decide) (by decide)))
  have u10_3 := u8_3.same W10
  have u10_4 := u8_4.other W10 (ne_exa u8_5 u8_0 (by decide))
  have u10_5 := u8_5.wr W10
  have u10_6 := V8.other W10 (Ne.symm ne8_1)
  have u10_7 := Ex8.wr W10
  have K10 := K8.wr W10 (Or.inl (List.mem_of_getElem? (i := 0) rfl))
  have Z10 : n0 ≤ h10.size := Nat.le_trans Z8 (Keep.of_wr W10).1
  have N10 := Fr.snoc X10 N7 G_a1
  obtain ⟨fs, hr, hrun, hended, hW, hsame⟩ := X10.leave (v := none) (fun _ => rfl)
  refine ⟨_, _, ?_, hrun, hended, _, _, rfl, ?_, ⟨_, rfl⟩, hW, hsame.mono (by decide) (by decide)⟩
  · show Steps p.tables e below (s₁.setTop (mkF m 0 #[.val (.ref a1), .val (.long q2), .second, .val (.long q3), .second, .val (.ref a4), .unset, .unset, .unset, .unset, .unset] [])) _
    refine XS.aloadN X0.here hx rfl (hb hby d2_0) rfl rfl ?_
    show Steps p.tables e below (s₁.setTop (mkF m 1 #[.val (.ref a1), .val (.long q2), .second, .val (.long q3), .second, .val (.ref a4), .unset, .unset, .unset, .unset, .unset] [(.ref a1)])) _
    refine st1 _ ?_
    show Steps p.tables e below (T1.setTop (mkF m 4 #[.val (.ref a1), .val (.long q2), .second, .val (.long q3), .second, .val (.ref a4), .unset, .unset, .unset, .unset, .unset] [])) _
    refine XT.lloadN X1.here hx rfl (hb hby d2_4) rfl ?_
    show Steps p.tables e below (T1.setTop (mkF m 5 #[.val (.ref a1), .val (.long q2), .second, .val (.long q3), .second, .val (.ref a4), .unset, .unset, .unset, .unset, .unset] [(.long q2)])) _
    refine XT.lconst X1.here hx rfl (hb hby d2_5) ?_
    show Steps p.tables e below (T1.setTop (mkF m 6 #[.val (.ref a1), .val (.long q2), .second, .val (.long q3), .second, .val (.ref a4), .unset, .unset, .unset, .unset, .unset] [(.long (0 : Int64)), (.long q2)])) _
    refine XT.lcmp X1.here hx rfl (hb hby d2_6) rfl ?_
    show Steps p.tables e below (T1.setTop (mkF m 7 #[.val (.ref a1), .val (.long q2), .second, .val (.long q3), .second, .val (.ref a4), .unset, .unset, .unset, .unset, .unset] [(.int (XT.cmpL q2 (0 : Int64)))])) _
    refine XS.ifNo X1.here hx rfl (hb hby d2_7) rfl ((if0 _ _).trans (flt (mt (own_cl _ _).mp h2)).1) ?_
    show Steps p.tables e below (T1.setTop (mkF m 10 #[.val (.ref a1), .val (.long q2), .second, .val (.long q3), .second, .val (.ref a4), .unset, .unset, .unset, .unset, .unset] [])) _
    refine XT.lloadN X1.here hx rfl (hb hby d2_10) rfl ?_
    show Steps p.tables e below (T1.setTop (mkF m 11 #[.val (.ref a1), .val (.long q2), .second, .val (.long q3), .second, .val (.ref a4), .unset, .unset, .unset, .unset, .unset] [(.long q3)])) _
    refine XT.lconst X1.here hx rfl (hb hby d2_11) ?_
    show Steps p.tables e below (T1.setTop (mkF m 12 #[.val (.ref a1), .val (.long q2), .second, .val (.long q3), .second, .val (.ref a4), .unset, .unset, .unset, .unset, .unset] [(.long (0 : Int64)), (.long q3)])) _
    refine XT.lcmp X1.here hx rfl (hb hby d2_12) rfl ?_
    show Steps p.tables e below (T1.setTop (mkF m 13 #[.val (.ref a1), .val (.long q2), .second, .val (.long q3), .second, .val (.ref a4), .unset, .unset, .unset, .unset, .unset] [(.int (XT.cmpL q3 (0 : Int64)))])) _
    refine XS.ifYes X1.here hx rfl (pc0 := 13) (pc' := 26) rfl (hb hby d2_13) rfl ((if0 _ _).trans (flt (mt (own_cl _ _).mp h3)).2.1) (by decide) (by decide) ?_
    show Steps p.tables e below (T1.setTop (mkF m 26 #[.val (.ref a1), .val (.long q2), .second, .val (.long q3), .second, .val (.ref a4), .unset, .unset, .unset, .unset, .unset] [])) _
    refine XS.aload X1.here hx rfl (hb hby d2_26) rfl rfl ?_
    show Steps p.tables e below (T1.setTop (mkF m 28 #[.val (.ref a1), .val (.long q2), .second, .val (.long q3), .second, .val (.ref a4), .unset, .unset, .unset, .unset, .unset] [(.ref a4)])) _
    refine XS.astore X1.here hx rfl (hb hby d2_28) rfl rfl (l' := #[.val (.ref a1), .val (.long q2), .second, .val (.long q3), .second, .val (.ref a4), .val (.ref a4), .unset, .unset, .unset, .unset]) rfl ?_
    show Steps p.tables e below (T1.setTop (mkF m 30 #[.val (.ref a1), .val (.long q2), .second, .val (.long q3), .second, .val (.ref a4), .val (.ref a4), .unset, .unset, .unset, .unset] [])) _
    refine XS.aload X1.here hx rfl (hb hby d2_30) rfl rfl ?_
    show Steps p.tables e below (T1.setTop (mkF m 32 #[.val (.ref a1), .val (.long q2), .second, .val (.long q3), .second, .val (.ref a4), .val (.ref a4), .unset, .unset, .unset, .unset] [(.ref a4)])) _
    refine X1.arraylength hx (by rw [e1]; exact Ar4.1) (State.isArrayOf_alike hZ.alike Ar4.2.1) (g := (mkF m 32 #[.val (.ref a1), .val (.long q2), .second, .val (.long q3), .second, .val (.ref a4), .val (.ref a4), .unset, .unset, .unset, .unset] [(.ref a4)])) rfl rfl (hb hby d2_32) _ ?_
    rw [len_of S4 M4]
    show Steps p.tables e below (T1.setTop (mkF m 33 #[.val (.ref a1), .val (.long q2), .second, .val (.long q3), .second, .val (.ref a4), .val (.ref a4), .unset, .unset, .unset, .unset] [(.int (0 : Int32))])) _
    refine XS.istore X1.here hx rfl (hb hby d2_33) rfl (l' := #[.val (.ref a1), .val (.long q2), .second, .val (.long q3), .second, .val (.ref a4), .val (.ref a4), .val (.int (0 : Int32)), .unset, .unset, .unset]) rfl ?_
    show Steps p.tables e below (T1.setTop (mkF m 35 #[.val (.ref a1), .val (.long q2), .second, .val (.long q3), .second, .val (.ref a4), .val (.ref a4), .val (.int (0 : Int32)), .unset, .unset, .unset] [])) _
    refine XS.iconst X1.here hx rfl (hb hby d2_35) ?_
    show Steps p.tables e below (T1.setTop (mkF m 36 #[.val (.ref a1), .val (.long q2), .second, .val (.long q3), .second, .val (.ref a4), .val (.ref a4), .val (.int (0 : Int32)), .unset, .unset, .unset] [(.int (0 : Int32))])) _
    refine XS.istore X1.here hx rfl (hb hby d2_36) rfl (l' := #[.val (.ref a1), .val (.long q2), .second, .val (.long q3), .second, .val (.ref a4), .val (.ref a4), .val (.int (0 : Int32)), .val (.int (0 : Int32)), .unset, .unset]) rfl ?_
    show Steps p.tables e below (T1.setTop (mkF m 38 #[.val (.ref a1), .val (.long q2), .second, .val (.long q3), .second, .val (.ref a4), .val (.ref a4), .val (.int (0 : Int32)), .val (.int (0 : Int32)), .unset, .unset] [])) _
    refine XS.iload X1.here hx rfl (hb hby d2_38) rfl ?_
    show Steps p.tables e below (T1.setTop (mkF m 40 #[.val (.ref a1), .val (.long q2), .second, .val (.long q3), .second, .val (.ref a4), .val (.ref a4), .val (.int (0 : Int32)), .val (.int (0 : Int32)), .unset, .unset] [(.int (0 : Int32))])) _
    refine XS.iload X1.here hx rfl (hb hby d2_40) rfl ?_
    show Steps p.tables e below (T1.setTop (mkF m 42 #[.val (.ref a1), .val (.long q2), .second, .val (.long q3), .second, .val (.ref a4), .val (.ref a4), .val (.int (0 : Int32)), .val (.int (0 : Int32)), .unset, .unset] [(.int (0 : Int32)), (.int (0 : Int32))])) _
    refine XS.icmpYes X1.here hx rfl (pc0 := 42) (pc' := 88) rfl (hb hby d2_42) rfl (flt h5).2.1 (by decide) (by decide) ?_
    show Steps p.tables e below (T1.setTop (mkF m 88 #[.val (.ref a1), .val (.long q2), .second, .val (.long q3), .second, .val (.ref a4), .val (.ref a4), .val (.int (0 : Int32)), .val (.int (0 : Int32)), .unset, .unset] [])) _
    refine XS.aloadN X1.here hx rfl (hb hby d2_88) rfl rfl ?_
    show Steps p.tables e below (T1.setTop (mkF m 89 #[.val (.ref a1), .val (.long q2), .second, .val (.long q3), .second, .val (.ref a4), .val (.ref a4), .val (.int (0 : Int32)), .val (.int (0 : Int32)), .unset, .unset] [(.ref a1)])) _
    refine XT.lloadN X1.here hx rfl (hb hby d2_89) rfl ?_
    show Steps p.tables e below (T1.setTop (mkF m 90 #[.val (.ref a1), .val (.long q2), .second, .val (.long q3), .second, .val (.ref a4), .val (.ref a4), .val (.int (0 : Int32)), .val (.int (0 : Int32)), .unset, .unset] [(.long q2), (.ref a1)])) _
    refine st6 _ ?_
    show Steps p.tables e below (T6.setTop (mkF m 93 #[.val (.ref a1), .val (.long q2), .second, .val (.long q3), .second, .val (.ref a4), .val (.ref a4), .val (.int (0 : Int32)), .val (.int (0 : Int32)), .unset, .unset] [])) _
    refine XS.aloadN X6.here hx rfl (hb hby d2_93) rfl rfl ?_
    show Steps p.tables e below (T6.setTop (mkF m 94 #[.val (.ref a1), .val (.long q2), .second, .val (.long q3), .second, .val (.ref a4), .val (.ref a4), .val (.int (0 : Int32)), .val (.int (0 : Int32)), .unset, .unset] [(.ref a1)])) _
    refine XT.lloadN X6.here hx rfl (hb hby d2_94) rfl ?_
    show Steps p.tables e below (T6.setTop (mkF m 95 #[.val (.ref a1), .val (.long q2), .second, .val (.long q3), .second, .val (.ref a4), .val (.ref a4), .val (.int (0 : Int32)), .val (.int (0 : Int32)), .unset, .unset] [(.long q3), (.ref a1)])) _
    refine st7 _ ?_
    show Steps p.tables e below (T7.setTop (mkF m 98 #[.val (.ref a1), .val (.long q2), .second, .val (.long q3), .second, .val (.ref a4), .val (.ref a4), .val (.int (0 : Int32)), .val (.int (0 : Int32)), .unset, .unset] [])) _
    refine XS.aloadN X7.here hx rfl (hb hby d2_98) rfl rfl ?_
    show Steps p.tables e below (T7.setTop (mkF m 99 #[.val (.ref a1), .val (.long q2), .second, .val (.long q3), .second, .val (.ref a4), .val (.ref a4), .val (.int (0 : Int32)), .val (.int (0 : Int32)), .unset, .unset] [(.ref a1)])) _
    refine XS.aload X7.here hx rfl (hb hby d2_99) rfl rfl ?_
    show Steps p.tables e below (T7.setTop (mkF m 101 #[.val (.ref a1), .val (.long q2), .second, .val (.long q3), .second, .val (.ref a4), .val (.ref a4), .val (.int (0 : Int32)), .val (.int (0 : Int32)), .unset, .unset] [(.ref a4), (.ref a1)])) _
    refine st8 _ ?_
    show Steps p.tables e below (T8.setTop (mkF m 104 #[.val (.ref a1), .val (.long q2), .second, .val (.long q3), .second, .val (.ref a4), .val (.ref a4), .val (.int (0 : Int32)), .val (.int (0 : Int32)), .unset, .unset] [(.ref o8), (.ref a1)])) _
    refine st9 _ ?_
    show Steps p.tables e below (T9.setTop (mkF m 107 #[.val (.ref a1), .val (.long q2), .second, .val (.long q3), .second, .val (.ref a4), .val (.ref a4), .val (.int (0 : Int32)), .val (.int (0 : Int32)), .unset, .unset] [(.ref o8), (.ref a1)])) _
    refine st10 _ ?_
    show Steps p.tables e below (T10.setTop (mkF m 110 #[.val (.ref a1), .val (.long q2), .second, .val (.long q3), .second, .val (.ref a4), .val (.ref a4), .val (.int (0 : Int32)), .val (.int (0 : Int32)), .unset, .unset] [])) _
    exact X10.returnOut hx Bd.returns (hb hby d2_110) hr
  · show Qini Z a1 q2 q3 a4 k1 h0 n0 _ T10.heap _
    rw [e10]
    exact ⟨rfl, N10, K10, u10_0, u10_1, u10_2⟩
theorem d4_0 : decode prog_31_method_7_code 0 = .ok (.aload_n 0, 1) := by decide +kernel
theorem d4_1 : decode prog_31_method_7_code 1 = .ok (.getfield 24, 3) := by decide +kernel
theorem d4_4 : decode prog_31_method_7_code 4 = .ok (.l2d, 1) := by decide +kernel
theorem d4_5 : decode prog_31_method_7_code 5 = .ok (.aload_n 0, 1) := by decide +kernel
theorem d4_6 : decode prog_31_method_7_code 6 = .ok (.getfield 18, 3) := by decide +kernel
theorem d4_9 : decode prog_31_method_7_code 9 = .ok (.l2d, 1) := by decide +kernel
theorem d4_10 : decode prog_31_method_7_code 10 = .ok (.ddiv, 1) := by decide +kernel
theorem d4_11 : decode prog_31_method_7_code 11 = .ok (.dreturn, 1) := by decide +kernel
theorem pn_mean : plainName "com/example/stratum/stratum/search/Statistics" = true := by first | (simp [plainName, overriddenIn]; done) | decide +kernel
theorem ef_mean (m : MethodId) (a1 : Addr) : entryFrame m #[(.ref a1)] 1 = mkF m 0 #[.val (.ref a1)] [] := by first | (simp [entryFrame, mkF, argsToLocals, Value.category]; done) | rfl
def Qmean (Z : State) (a1 : Addr) (d1 : Int64) (l1 : Int64) (h0 : Heap) (n0 : Nat) (v : Option Value) (h : Heap) (L : List Loc) : Prop := v = some (.double (fmean d1 l1)) ∧ Fr n0 L ∧ h = h0
set_option maxRecDepth 65536 in
set_option maxHeartbeats 40000000 in
theorem rmmean (l : Launch) (Z : State) (a0 : Array Value) (hw : ∀ d ∈ tables_1, d.before a0 Z = true) (ws : List Jvm.Cond) (a1 : Addr) (d1 : Int64) (l1 : Int64) (h0 : Heap) (n0 : Nat) (Z0 : n0 ≤ h0.size) (F_a1_documents : Fld Z h0 a1 "com/example/stratum/stratum/search/Statistics" "documents" "J" (.long d1)) (F_a1_length : Fld Z h0 a1 "com/example/stratum/stratum/search/Statistics" "length" "J" (.long l1)) (hz : d1 ≠ 0) :
    MetFree l (⟨"com/example/stratum/stratum/search/Statistics", "meanLength", "()D"⟩ : MethodName) (head1 (Jvm.Cond.code (⟨"com/example/stratum/stratum/search/Statistics", "meanLength", "()D"⟩ : MethodName) prog_31_method_7_code 1 (some .double) :: ws) ({ frames := 0, cells := 0, slots := 0, locals := 0 } : Room)) (fun a U => a = #[(.ref a1)] ∧ Z.Warmed39 U.vm ∧ U.heap = h0) (fun _ _ _ _ _ => True) (fun _ U o U' => ∃ v L, o = .returned v ∧ Qmean Z a1 d1 l1 h0 n0 v U'.heap L ∧ FrameEnd U o U' L ({ frames := 0, cells := 0, slots := 0, locals := 0 } : Room).cells ({ frames := 0, cells := 0, slots := 0, locals := 0 } : Room).slots) := by
  refine MetFree.of_bodySF (plainFor_of_name pn_mean) hisR ?_
  intro p e s m args below meth c s₁ Bd hml0 hP hK
  obtain ⟨rfl, hZ, hh⟩ := hP
  have hx := Bd.exec
  have hby := Bd.bytes
  have hml : c.maxLocals = 1 := hml0
  have hown : s.vm.findClass "com/example/stratum/stratum/search/Statistics" = some m.cls := findClass_of_methodNamed Bd.named
  have hnm := (name_of_methodNamed Bd.named Bd.method).1
  have X0 : Stand p l e ({ frames := 0, cells := 0, slots := 0, locals := 0 } : Room) s m #[(.ref a1)] below meth c s₁ [] 0 0 := Stand.of_body Bd
  have e0 : s₁.heap = h0 := by rw [← hh, Bd.state]; rfl
  have N0 := Fr.nil n0
  have pre0 : ∀ t, Steps p.tables e below (s₁.setTop (mkF m 0 #[.val (.ref a1)] [])) t → Steps p.tables e below (s₁.setTop (entryFrame m #[(.ref a1)] 1)) t := fun t k => castTop (ef_mean m a1) k
  refine own_step (Q := fun o U' => ∃ v L, o = .returned v ∧ Qmean Z a1 d1 l1 h0 n0 v U'.heap L ∧ FrameEnd s o U' L ({ frames := 0, cells := 0, slots := 0, locals := 0 } : Room).cells ({ frames := 0, cells := 0, slots := 0, locals := 0 } : Room).slots) pre0 ?_
  obtain ⟨T1, X1, e1, st1⟩ := getF X0 hx hZ hown (host := "") (Or.inl (hw _ (List.mem_of_getElem? (i := 19) rfl))) Via.refl e0 F_a1_length (g := (mkF m 1 #[.val (.ref a1)] [(.ref a1)])) rfl rfl (hb hby d4_1)
  obtain ⟨T2, X2, e2, st2⟩ := getF X1 hx hZ hown (host := "") (Or.inl (hw _ (List.mem_of_getElem? (i := 17) rfl))) Via.refl e1 F_a1_documents (g := (mkF m 6 #[.val (.ref a1)] [(.ref a1), (.double (FP.l2d l1))])) rfl rfl (hb hby d4_6)
  obtain ⟨fs, hr, hrun, hended, hW, hsame⟩ := X2.leave (v := some (.double (FP.ddiv (FP.l2d l1) (FP.l2d d1)))) (fun h => by rw [Bd.returns] at h; cases h)
  refine ⟨_, _, ?_, hrun, hended, _, _, rfl, ?_, ⟨_, rfl⟩, hW, hsame.mono (by decide) (by decide)⟩
  · show Steps p.tables e below (s₁.setTop (mkF m 0 #[.val (.ref a1)] [])) _
    refine XS.aloadN X0.here hx rfl (hb hby d4_0) rfl rfl ?_
    show Steps p.tables e below (s₁.setTop (mkF m 1 #[.val (.ref a1)] [(.ref a1)])) _
    refine st1 _ ?_
    show Steps p.tables e below (T1.setTop (mkF m 4 #[.val (.ref a1)] [(.long l1)])) _
    refine XS.l2dS X1.here hx rfl (hb hby d4_4) rfl rfl ?_
    show Steps p.tables e below (T1.setTop (mkF m 5 #[.val (.ref a1)] [(.double (FP.l2d l1))])) _
    refine XS.aloadN X1.here hx rfl (hb hby d4_5) rfl rfl ?_
    show Steps p.tables e below (T1.setTop (mkF m 6 #[.val (.ref a1)] [(.ref a1), (.double (FP.l2d l1))])) _
    refine st2 _ ?_
    show Steps p.tables e below (T2.setTop (mkF m 9 #[.val (.ref a1)] [(.long d1), (.double (FP.l2d l1))])) _
    refine XS.l2dS X2.here hx rfl (hb hby d4_9) rfl rfl ?_
    show Steps p.tables e below (T2.setTop (mkF m 10 #[.val (.ref a1)] [(.double (FP.l2d d1)), (.double (FP.l2d l1))])) _
    refine XS.ddivS X2.here hx rfl (hb hby d4_10) rfl (Jvm.Free.Fl.ddiv_out (Jvm.Free.Fl.l2d_fin _).noNaN (Jvm.Free.Fl.l2d_fin _) (Jvm.Free.Fl.l2d_nz hz)) rfl ?_
    show Steps p.tables e below (T2.setTop (mkF m 11 #[.val (.ref a1)] [(.double (FP.ddiv (FP.l2d l1) (FP.l2d d1)))])) _
    jvm_step X2.here [X2.here.top, hx, (hb hby d4_11), X2.method', Bd.returns, narrow]
    first | (intro acts; rw [hr _ acts rfl rfl rfl]) | rw [hr _ _ rfl rfl rfl]
    exact Steps.refl _
  · show Qmean Z a1 d1 l1 h0 n0 _ T2.heap _
    rw [e2]
    have hf : fmean d1 l1 = (FP.ddiv (FP.l2d l1) (FP.l2d d1)) := rfl
    exact ⟨by rw [hf], N0, rfl⟩
theorem pn_0 : plainName "com/example/stratum/stratum/search/StatisticsMeanLengthPinLaw" = true := by first | (simp [plainName, overriddenIn]; done) | decide +kernel
theorem ef_0 (m : MethodId) (q1 : Int64) (q2 : Int64) (q3 : Int64) (q4 : Int64) (q5 : Int64) : entryFrame m #[(.long q1), (.long q2), (.long q3), (.long q4), (.long q5)] maxLocals = mkF m 0 #[.val (.long q1), .second, .val (.long q2), .second, .val (.long q3), .second, .val (.long q4), .second, .val (.long q5), .second, .unset, .unset, .unset, .unset, .unset, .unset, .unset, .unset, .unset, .unset, .unset, .unset, .unset, .unset, .unset, .unset, .unset, .unset, .unset, .unset, .unset, .unset, .unset, .unset, .unset, .unset, .unset, .unset, .unset] [] := by first | (simp [entryFrame, mkF, argsToLocals, Value.category, maxLocals]; done) | rfl
def Q0 (Z : State) (q1 : Int64) (q2 : Int64) (q3 : Int64) (q4 : Int64) (q5 : Int64) (h0 : Heap) (n0 : Nat) (v : Option Value) (h : Heap) (L : List Loc) : Prop := v = some (.int (1 : Int32)) ∧ Fr n0 L
set_option maxRecDepth 65536 in
set_option maxHeartbeats 40000000 in
theorem rm0 (l : Launch) (Z : State) (a0 : Array Value) (hw : ∀ d ∈ tables_1, d.before a0 Z = true) (ws : List Jvm.Cond) (q1 : Int64) (q2 : Int64) (q3 : Int64) (q4 : Int64) (q5 : Int64) (h0 : Heap) (n0 : Nat) (Z0 : n0 ≤ h0.size) :
    MetFree l x (head1 (Jvm.Cond.code x code maxLocals ret :: ws) room_1) (fun a U => a = #[(.long q1), (.long q2), (.long q3), (.long q4), (.long q5)] ∧ Z.Warmed39 U.vm ∧ U.heap = h0) (fun _ _ _ _ _ => True) (fun _ U o U' => ∃ v L, o = .returned v ∧ Q0 Z q1 q2 q3 q4 q5 h0 n0 v U'.heap L ∧ FrameEnd U o U' L room_1.cells room_1.slots) := by
  refine MetFree.of_bodySF (plainFor_of_name pn_0) hisR ?_
  intro p e s m args below meth c s₁ Bd hml0 hP hK
  obtain ⟨rfl, hZ, hh⟩ := hP
  have hx := Bd.exec
  have hby := Bd.bytes
  have hml : c.maxLocals = 39 := hml0
  have hown : s.vm.findClass "com/example/stratum/stratum/search/StatisticsMeanLengthPinLaw" = some m.cls := findClass_of_methodNamed Bd.named
  have hnm := (name_of_methodNamed Bd.named Bd.method).1
  have X0 : Stand p l e room_1 s m #[(.long q1), (.long q2), (.long q3), (.long q4), (.long q5)] below meth c s₁ [] 0 0 := Stand.of_body Bd
  have e0 : s₁.heap = h0 := by rw [← hh, Bd.state]; rfl
  have N0 := Fr.nil n0
  have pre0 : ∀ t, Steps p.tables e below (s₁.setTop (mkF m 0 #[.val (.long q1), .second, .val (.long q2), .second, .val (.long q3), .second, .val (.long q4), .second, .val (.long q5), .second, .unset, .unset, .unset, .unset, .unset, .unset, .unset, .unset, .unset, .unset, .unset, .unset, .unset, .unset, .unset, .unset, .unset, .unset, .unset, .unset, .unset, .unset, .unset, .unset, .unset, .unset, .unset, .unset, .unset] [])) t → Steps p.tables e below (s₁.setTop (entryFrame m #[(.long q1), (.long q2), (.long q3), (.long q4), (.long q5)] maxLocals)) t := fun t k => castTop (ef_0 m q1 q2 q3 q4 q5) k
  refine own_step (Q := fun o U' => ∃ v L, o = .returned v ∧ Q0 Z q1 q2 q3 q4 q5 h0 n0 v U'.heap L ∧ FrameEnd s o U' L room_1.cells room_1.slots) pre0 ?_
  have K0 : Keep h0 h0 [] := Keep.refl h0 []
  obtain ⟨_, _, ⟨T1, L1, k1, n1⟩, -, X1, ⟨Lc1, hQ1, l1, y1, z1⟩, st1⟩ := Jvm.LawKit.callS X0 hx (y := (⟨"java/lang/Math", "max", "(JJ)J"⟩ : MethodName)) hown (mvT hZ (hw _ (List.mem_of_getElem? (i := 1) rfl))) (mvT hZ (hw _ (List.mem_of_getElem? (i := 2) rfl))) (mvT hZ (hw _ (List.mem_of_getElem? (i := 3) rfl))) (mvT hZ (hw _ (List.mem_of_getElem? (i := 4) rfl))) (by decide) (backOf (W := 0) (rmmax l Z a0 hw [] (1 : Int64) (q1 &&& (9223372036854775807 : Int64)) h0 n0 Z0) hZ (hw _ (List.mem_of_getElem? (i := 4) rfl)) (hw _ (List.mem_of_getElem? (i := 3) rfl)) (by decide) (by decide)) (g := (mkF m 6 #[.val (.long q1), .second, .val (.long q2), .second, .val (.long q3), .second, .val (.long q4), .second, .val (.long q5), .second, .unset, .unset, .unset, .unset, .unset, .unset, .unset, .unset, .unset, .unset, .unset, .unset, .unset, .unset, .unset, .unset, .unset, .unset, .unset, .unset, .unset, .unset, .unset, .unset, .unset, .unset, .unset, .unset, .unset] [(.long (q1 &&& (9223372036854775807 : Int64))), (.long (1 : Int64))])) rfl (by rw [hml]; rfl) (argsL := [(.long (1 : Int64)), (.long (q1 &&& (9223372036854775807 : Int64)))]) (rest := []) (lenOf pd_0 rfl) rfl (by show 2 * 0 + _ ≤ _; exact Nat.le_of_eq rfl) (hb hby at_6) (fun _ _ => ⟨rfl, e0, (by decide : 0 + 0 ≤ _), (by decide : 0 + 0 ≤ _)⟩)
  dsimp only [Pt.U, Pt.locs, Pt.cells, Pt.slots] at X1 l1 y1 z1 st1 hQ1
  subst l1 y1 z1
  obtain ⟨rfl, N1q, e1⟩ := hQ1
  have N1 := Fr.app N0 N1q
  obtain ⟨T2, h2, X2, e2, E2, A2, D2, -, st2⟩ := newO X1 hx hZ hown (hw _ (List.mem_of_getElem? (i := 7) rfl)) (hw _ (List.mem_of_getElem? (i := 8) rfl)) (hw _ (List.mem_of_getElem? (i := 9) rfl)) e1 (g := (mkF m 64 #[.val (.long q1), .second, .val (.long q2), .second, .val (.long q3), .second, .val (.long q4), .second, .val (.long q5), .second, .val (.long (fmax (1 : Int64) (q1 &&& (9223372036854775807 : Int64)))), .second, .val (.long (q2 &&& (9223372036854775807 : Int64))), .second, .val (.long (q3 &&& (9223372036854775807 : Int64))), .second, .val (.long ((q4 &&& (1048575 : Int64)) + (1 : Int64))), .second, .val (.long (f0_0 q1 q2 q3 q4 q5)), .second, .val (.long (q5 &&& (4294967295 : Int64))), .second, .val (.long ((f0_1 q1 q2 q3 q4 q5) + (f0_0 q1 q2 q3 q4 q5))), .second, .unset, .unset, .unset, .unset, .unset, .unset, .unset, .unset, .unset, .unset, .unset, .unset, .unset, .unset, .unset] [])) rfl (hb hby at_64) (by decide) (by decide)
  obtain ⟨o2, g2⟩ : ∃ z, z = h0.size := ⟨_, rfl⟩
  rw [← g2] at A2 D2 st2
  have ge2 : n0 ≤ o2 := Nat.le_trans Z0 (Nat.le_of_eq g2.symm)
  have Z2 : n0 ≤ h2.size := Nat.le_trans Z0 E2.1
  have sz2 : h0.size ≤ o2 := Nat.le_trans K0.1 (Nat.le_of_eq g2.symm)
  have K2 := K0.ext E2
  have D2_18 : Fld Z h2 o2 "com/example/stratum/stratum/search/Statistics" "documents" "J" (.long (0 : Int64)) := D2 (Or.inr (hw _ (List.mem_of_getElem? (i := 18) rfl))) (ty := .long) (by decide)
  have D2_20 : Fld Z h2 o2 "com/example/stratum/stratum/search/Statistics" "length" "J" (.long (0 : Int64)) := D2 (Or.inr (hw _ (List.mem_of_getElem? (i := 20) rfl))) (ty := .long) (by decide)
  have D2_31 : Fld Z h2 o2 "com/example/stratum/stratum/search/Statistics" "matching" "[J" .null := D2 (Or.inr (hw _ (List.mem_of_getElem? (i := 31) rfl))) (ty := (.array .long)) (by decide)
  obtain ⟨T3, h3, kc3, X3, e3, E3, A3, Ex3, st3⟩ := newPE X2 hx hZ (hw _ (List.mem_of_getElem? (i := 10) rfl)) e2 (g := (mkF m 73 #[.val (.long q1), .second, .val (.long q2), .second, .val (.long q3), .second, .val (.long q4), .second, .val (.long q5), .second, .val (.long (fmax (1 : Int64) (q1 &&& (9223372036854775807 : Int64)))), .second, .val (.long (q2 &&& (9223372036854775807 : Int64))), .second, .val (.long (q3 &&& (9223372036854775807 : Int64))), .second, .val (.long ((q4 &&& (1048575 : Int64)) + (1 : Int64))), .second, .val (.long (f0_0 q1 q2 q3 q4 q5)), .second, .val (.long (q5 &&& (4294967295 : Int64))), .second, .val (.long ((f0_1 q1 q2 q3 q4 q5) + (f0_0 q1 q2 q3 q4 q5))), .second, .unset, .unset, .unset, .unset, .unset, .unset, .unset, .unset, .unset, .unset, .unset, .unset, .unset, .unset, .unset] [(.int (0 : Int32)), (.long (q2 &&& (9223372036854775807 : Int64))), (.long (fmax (1 : Int64) (q1 &&& (9223372036854775807 : Int64)))), (.ref o2), (.ref o2)])) rfl (hb hby at_73) (n := (0 : Int32)) (rest := [(.long (q2 &&& (9223372036854775807 : Int64))), (.long (fmax (1 : Int64) (q1 &&& (9223372036854775807 : Int64)))), (.ref o2), (.ref o2)]) rfl (by decide) (cap := 0) (by decide) (by decide) (by decide) (by decide) (ad := "[J") (by decide)
  obtain ⟨o3, g3⟩ : ∃ z, z = h2.size := ⟨_, rfl⟩
  rw [← g3] at A3 Ex3 st3
  have ne3_1 : o2 ≠ o3 := Nat.ne_of_lt (Nat.lt_of_lt_of_le A2.lt (Nat.le_of_eq g3.symm))
  have u3_0 := A2.ext E3
  have u3_1 := D2_18.ext E3
  have u3_2 := D2_20.ext E3
  have u3_3 := D2_31.ext E3
  have ge3 : n0 ≤ o3 := Nat.le_trans Z2 (Nat.le_of_eq g3.symm)
  have Z3 : n0 ≤ h3.size := Nat.le_trans Z2 E3.1
  have sz3 : h0.size ≤ o3 := Nat.le_trans K2.1 (Nat.le_of_eq g3.symm)
  have K3 := K2.ext E3
  have V3 : Arv Z h3 o3 kc3 .long (0 : Int32) [] (.long (0 : Int64)) := Arv.new A3 (by decide)
  obtain ⟨_, _, ⟨T4, L4, k4, n4⟩, -, X4, ⟨Lc4, hQ4, l4, y4, z4⟩, st4⟩ := X3.specialBack hx (y := (⟨"com/example/stratum/stratum/search/Statistics", "<init>", "(JJ[J)V"⟩ : MethodName)) rfl hown (mvT hZ (hw _ (List.mem_of_getElem? (i := 11) rfl))) (mvT hZ (hw _ (List.mem_of_getElem? (i := 12) rfl))) (mvT hZ (hw _ (List.mem_of_getElem? (i := 13) rfl))) (by decide) (backOf (W := 1) (rmini l Z a0 hw [] o2 (fmax (1 : Int64) (q1 &&& (9223372036854775807 : Int64))) (q2 &&& (9223372036854775807 : Int64)) o3 kc3 h3 n0 Z3 u3_0 ge2 u3_1 u3_2 u3_3 V3 Ex3 (own_nb _) (own_nl _)) hZ (hw _ (List.mem_of_getElem? (i := 13) rfl)) (hw _ (List.mem_of_getElem? (i := 9) rfl)) (by decide) (by decide)) (g := (mkF m 75 #[.val (.long q1), .second, .val (.long q2), .second, .val (.long q3), .second, .val (.long q4), .second, .val (.long q5), .second, .val (.long (fmax (1 : Int64) (q1 &&& (9223372036854775807 : Int64)))), .second, .val (.long (q2 &&& (9223372036854775807 : Int64))), .second, .val (.long (q3 &&& (9223372036854775807 : Int64))), .second, .val (.long ((q4 &&& (1048575 : Int64)) + (1 : Int64))), .second, .val (.long (f0_0 q1 q2 q3 q4 q5)), .second, .val (.long (q5 &&& (4294967295 : Int64))), .second, .val (.long ((f0_1 q1 q2 q3 q4 q5) + (f0_0 q1 q2 q3 q4 q5))), .second, .unset, .unset, .unset, .unset, .unset, .unset, .unset, .unset, .unset, .unset, .unset, .unset, .unset, .unset, .unset] [(.ref o3), (.long (q2 &&& (9223372036854775807 : Int64))), (.long (fmax (1 : Int64) (q1 &&& (9223372036854775807 : Int64)))), (.ref o2), (.ref o2)])) rfl (by rw [hml]; rfl) (Steps.refl _) (a := o2) (argsL := [(.long (fmax (1 : Int64) (q1 &&& (9223372036854775807 : Int64)))), (.long (q2 &&& (9223372036854775807 : Int64))), (.ref o3)]) (rest := [(.ref o2)]) (lenOf pd_1 rfl) rfl (by show 2 * 0 + _ ≤ _; exact Nat.le_of_eq rfl) (hb hby at_75) (fun _ _ => ⟨rfl, e3, (by decide : 2 + 1 ≤ _), (by decide : 3 + 0 ≤ _)⟩)
  dsimp only [Pt.U, Pt.locs, Pt.cells, Pt.slots] at X4 l4 y4 z4 st4 hQ4
  subst l4 y4 z4
  obtain ⟨rfl, N4q, Kc4, c4_0, c4_1, c4_2⟩ := hQ4
  have N4 := Fr.app N1 N4q
  have u4_0 := u3_0.keep Kc4
  have u4_4 := Ex3.keep Kc4
  have u4_5 := V3.keep Kc4 (by simp only [List.mem_cons, List.not_mem_nil, or_false, not_or]; exact (Ne.symm ne3_1))
  have K4 := K3.trans Kc4 (fun x hx => by cases List.mem_singleton.mp hx; exact Or.inr sz2)
  have Z4 : n0 ≤ T4.heap.size := Nat.le_trans Z3 Kc4.1
  obtain ⟨T5, h5, X5, e5, E5, A5, D5, -, st5⟩ := newO X4 hx hZ hown (hw _ (List.mem_of_getElem? (i := 7) rfl)) (hw _ (List.mem_of_getElem? (i := 8) rfl)) (hw _ (List.mem_of_getElem? (i := 9) rfl)) rfl (g := (mkF m 80 #[.val (.long q1), .second, .val (.long q2), .second, .val (.long q3), .second, .val (.long q4), .second, .val (.long q5), .second, .val (.long (fmax (1 : Int64) (q1 &&& (9223372036854775807 : Int64)))), .second, .val (.long (q2 &&& (9223372036854775807 : Int64))), .second, .val (.long (q3 &&& (9223372036854775807 : Int64))), .second, .val (.long ((q4 &&& (1048575 : Int64)) + (1 : Int64))), .second, .val (.long (f0_0 q1 q2 q3 q4 q5)), .second, .val (.long (q5 &&& (4294967295 : Int64))), .second, .val (.long ((f0_1 q1 q2 q3 q4 q5) + (f0_0 q1 q2 q3 q4 q5))), .second, .val (.ref o2), .unset, .unset, .unset, .unset, .unset, .unset, .unset, .unset, .unset, .unset, .unset, .unset, .unset, .unset] [])) rfl (hb hby at_80) (by decide) (by decide)
  obtain ⟨o5, g5⟩ : ∃ z, z = T4.heap.size := ⟨_, rfl⟩
  rw [← g5] at A5 D5 st5
  have ne5_1 : o2 ≠ o5 := Nat.ne_of_lt (Nat.lt_of_lt_of_le c4_0.lt (Nat.le_of_eq g5.symm))
  have ne5_2 : o3 ≠ o5 := Nat.ne_of_lt (Nat.lt_of_lt_of_le u4_4.lt (Nat.le_of_eq g5.symm))
  have u5_0 := c4_0.ext E5
  have u5_1 := u4_4.ext E5
  have u5_2 := u4_5.ext E5
  have u5_3 := c4_1.ext E5
  have u5_4 := c4_2.ext E5
  have ge5 : n0 ≤ o5 := Nat.le_trans Z4 (Nat.le_of_eq g5.symm)
  have Z5 : n0 ≤ h5.size := Nat.le_trans Z4 E5.1
  have sz5 : h0.size ≤ o5 := Nat.le_trans K4.1 (Nat.le_of_eq g5.symm)
  have K5 := K4.ext E5
  have D5_18 : Fld Z h5 o5 "com/example/stratum/stratum/search/Statistics" "documents" "J" (.long (0 : Int64)) := D5 (Or.inr (hw _ (List.mem_of_getElem? (i := 18) rfl))) (ty := .long) (by decide)
  have D5_20 : Fld Z h5 o5 "com/example/stratum/stratum/search/Statistics" "length" "J" (.long (0 : Int64)) := D5 (Or.inr (hw _ (List.mem_of_getElem? (i := 20) rfl))) (ty := .long) (by decide)
  have D5_31 : Fld Z h5 o5 "com/example/stratum/stratum/search/Statistics" "matching" "[J" .null := D5 (Or.inr (hw _ (List.mem_of_getElem? (i := 31) rfl))) (ty := (.array .long)) (by decide)
  obtain ⟨T6, h6, kc6, X6, e6, E6, A6, Ex6, st6⟩ := newPE X5 hx hZ (hw _ (List.mem_of_getElem? (i := 10) rfl)) e5 (g := (mkF m 89 #[.val (.long q1), .second, .val (.long q2), .second, .val (.long q3), .second, .val (.long q4), .second, .val (.long q5), .second, .val (.long (fmax (1 : Int64) (q1 &&& (9223372036854775807 : Int64)))), .second, .val (.long (q2 &&& (9223372036854775807 : Int64))), .second, .val (.long (q3 &&& (9223372036854775807 : Int64))), .second, .val (.long ((q4 &&& (1048575 : Int64)) + (1 : Int64))), .second, .val (.long (f0_0 q1 q2 q3 q4 q5)), .second, .val (.long (q5 &&& (4294967295 : Int64))), .second, .val (.long ((f0_1 q1 q2 q3 q4 q5) + (f0_0 q1 q2 q3 q4 q5))), .second, .val (.ref o2), .unset, .unset, .unset, .unset, .unset, .unset, .unset, .unset, .unset, .unset, .unset, .unset, .unset, .unset] [(.int (0 : Int32)), (.long (q3 &&& (9223372036854775807 : Int64))), (.long (fmax (1 : Int64) (q1 &&& (9223372036854775807 : Int64)))), (.ref o5), (.ref o5)])) rfl (hb hby at_89) (n := (0 : Int32)) (rest := [(.long (q3 &&& (9223372036854775807 : Int64))), (.long (fmax (1 : Int64) (q1 &&& (9223372036854775807 : Int64)))), (.ref o5), (.ref o5)]) rfl (by decide) (cap := 0) (by decide) (by decide) (by decide) (by decide) (ad := "[J") (by decide)
  obtain ⟨o6, g6⟩ : ∃ z, z = h5.size := ⟨_, rfl⟩
  rw [← g6] at A6 Ex6 st6
  have ne6_1 : o2 ≠ o6 := Nat.ne_of_lt (Nat.lt_of_lt_of_le u5_0.lt (Nat.le_of_eq g6.symm))
  have ne6_2 : o3 ≠ o6 := Nat.ne_of_lt (Nat.lt_of_lt_of_le u5_1.lt (Nat.le_of_eq g6.symm))
  have ne6_3 : o5 ≠ o6 := Nat.ne_of_lt (Nat.lt_of_lt_of_le A5.lt (Nat.le_of_eq g6.symm))
  have u6_0 := u5_0.ext E6
  have u6_1 := u5_1.ext E6
  have u6_2 := u5_2.ext E6
  have u6_3 := u5_3.ext E6
  have u6_4 := u5_4.ext E6
  have u6_5 := A5.ext E6
  have u6_6 := D5_18.ext E6
  have u6_7 := D5_20.ext E6
  have u6_8 := D5_31.ext E6
  have ge6 : n0 ≤ o6 := Nat.le_trans Z5 (Nat.le_of_eq g6.symm)
  have Z6 : n0 ≤ h6.size := Nat.le_trans Z5 E6.1
  have sz6 : h0.size ≤ o6 := Nat.le_trans K5.1 (Nat.le_of_eq g6.symm)
  have K6 := K5.ext E6
  have V6 : Arv Z h6 o6 kc6 .long (0 : Int32) [] (.long (0 : Int64)) := Arv.new A6 (by decide)
  obtain ⟨_, _, ⟨T7, L7, k7, n7⟩, -, X7, ⟨Lc7, hQ7, l7, y7, z7⟩, st7⟩ := X6.specialBack hx (y := (⟨"com/example/stratum/stratum/search/Statistics", "<init>", "(JJ[J)V"⟩ : MethodName)) rfl hown (mvT hZ (hw _ (List.mem_of_getElem? (i := 11) rfl))) (mvT hZ (hw _ (List.mem_of_getElem? (i := 12) rfl))) (mvT hZ (hw _ (List.mem_of_getElem? (i := 13) rfl))) (by decide) (backOf (W := 1) (rmini l Z a0 hw [] o5 (fmax (1 : Int64) (q1 &&& (9223372036854775807 : Int64))) (q3 &&& (9223372036854775807 : Int64)) o6 kc6 h6 n0 Z6 u6_5 ge5 u6_6 u6_7 u6_8 V6 Ex6 (own_nb _) (own_nl _)) hZ (hw _ (List.mem_of_getElem? (i := 13) rfl)) (hw _ (List.mem_of_getElem? (i := 9) rfl)) (by decide) (by decide)) (g := (mkF m 91 #[.val (.long q1), .second, .val (.long q2), .second, .val (.long q3), .second, .val (.long q4), .second, .val (.long q5), .second, .val (.long (fmax (1 : Int64) (q1 &&& (9223372036854775807 : Int64)))), .second, .val (.long (q2 &&& (9223372036854775807 : Int64))), .second, .val (.long (q3 &&& (9223372036854775807 : Int64))), .second, .val (.long ((q4 &&& (1048575 : Int64)) + (1 : Int64))), .second, .val (.long (f0_0 q1 q2 q3 q4 q5)), .second, .val (.long (q5 &&& (4294967295 : Int64))), .second, .val (.long ((f0_1 q1 q2 q3 q4 q5) + (f0_0 q1 q2 q3 q4 q5))), .second, .val (.ref o2), .unset, .unset, .unset, .unset, .unset, .unset, .unset, .unset, .unset, .unset, .unset, .unset, .unset, .unset] [(.ref o6), (.long (q3 &&& (9223372036854775807 : Int64))), (.long (fmax (1 : Int64) (q1 &&& (9223372036854775807 : Int64)))), (.ref o5), (.ref o5)])) rfl (by rw [hml]; rfl) (Steps.refl _) (a := o5) (argsL := [(.long (fmax (1 : Int64) (q1 &&& (9223372036854775807 : Int64)))), (.long (q3 &&& (9223372036854775807 : Int64))), (.ref o6)]) (rest := [(.ref o5)]) (lenOf pd_1 rfl) rfl (by show 2 * 0 + _ ≤ _; exact Nat.le_of_eq rfl) (hb hby at_91) (fun _ _ => ⟨rfl, e6, (by decide : 5 + 1 ≤ _), (by decide : 6 + 0 ≤ _)⟩)
  dsimp only [Pt.U, Pt.locs, Pt.cells, Pt.slots] at X7 l7 y7 z7 st7 hQ7
  subst l7 y7 z7
  obtain ⟨rfl, N7q, Kc7, c7_0, c7_1, c7_2⟩ := hQ7
  have N7 := Fr.app N4 N7q
  have u7_0 := u6_0.keep Kc7
  have u7_1 := u6_1.keep Kc7
  have u7_2 := u6_2.keep Kc7 (by simp only [List.mem_cons, List.not_mem_nil, or_false, not_or]; exact ne5_2)
  have u7_3 := u6_3.keep Kc7 (by simp only [List.mem_cons, List.not_mem_nil, or_false, not_or]; exact ne5_1)
  have u7_4 := u6_4.keep Kc7 (by simp only [List.mem_cons, List.not_mem_nil, or_false, not_or]; exact ne5_1)
  have u7_5 := u6_5.keep Kc7
  have u7_9 := Ex6.keep Kc7
  have u7_10 := V6.keep Kc7 (by simp only [List.mem_cons, List.not_mem_nil, or_false, not_or]; exact (Ne.symm ne6_3))
  have K7 := K6.trans Kc7 (fun x hx => by cases List.mem_singleton.mp hx; exact Or.inr sz5)
  have Z7 : n0 ≤ T7.heap.size := Nat.le_trans Z6 Kc7.1
  obtain ⟨T8, h8, X8, e8, E8, A8, D8, -, st8⟩ := newO X7 hx hZ hown (hw _ (List.mem_of_getElem? (i := 7) rfl)) (hw _ (List.mem_of_getElem? (i := 8) rfl)) (hw _ (List.mem_of_getElem? (i := 9) rfl)) rfl (g := (mkF m 96 #[.val (.long q1), .second, .val (.long q2), .second, .val (.long q3), .second, .val (.long q4), .second, .val (.long q5), .second, .val (.long (fmax (1 : Int64) (q1 &&& (9223372036854775807 : Int64)))), .second, .val (.long (q2 &&& (9223372036854775807 : Int64))), .second, .val (.long (q3 &&& (9223372036854775807 : Int64))), .second, .val (.long ((q4 &&& (1048575 : Int64)) + (1 : Int64))), .second, .val (.long (f0_0 q1 q2 q3 q4 q5)), .second, .val (.long (q5 &&& (4294967295 : Int64))), .second, .val (.long ((f0_1 q1 q2 q3 q4 q5) + (f0_0 q1 q2 q3 q4 q5))), .second, .val (.ref o2), .val (.ref o5), .unset, .unset, .unset, .unset, .unset, .unset, .unset, .unset, .unset, .unset, .unset, .unset, .unset] [])) rfl (hb hby at_96) (by decide) (by decide)
  obtain ⟨o8, g8⟩ : ∃ z, z = T7.heap.size := ⟨_, rfl⟩
  rw [← g8] at A8 D8 st8
  have ne8_1 : o2 ≠ o8 := Nat.ne_of_lt (Nat.lt_of_lt_of_le u7_0.lt (Nat.le_of_eq g8.symm))
  have ne8_2 : o3 ≠ o8 := Nat.ne_of_lt (Nat.lt_of_lt_of_le u7_1.lt (Nat.le_of_eq g8.symm))
  have ne8_3 : o5 ≠ o8 := Nat.ne_of_lt (Nat.lt_of_lt_of_le c7_0.lt (Nat.le_of_eq g8.symm))
  have ne8_4 : o6 ≠ o8 := Nat.ne_of_lt (Nat.lt_of_lt_of_le u7_9.lt (Nat.le_of_eq g8.symm))
  have u8_0 := u7_0.ext E8
  have u8_1 := u7_1.ext E8
  have u8_2 := u7_2.ext E8
  have u8_3 := u7_3.ext E8
  have u8_4 := u7_4.ext E8
  have u8_5 := c7_0.ext E8
  have u8_6 := u7_9.ext E8
  have u8_7 := u7_10.ext E8
  have u8_8 := c7_1.ext E8
  have u8_9 := c7_2.ext E8
  have ge8 : n0 ≤ o8 := Nat.le_trans Z7 (Nat.le_of_eq g8.symm)
  have Z8 : n0 ≤ h8.size := Nat.le_trans Z7 E8.1
  have sz8 : h0.size ≤ o8 := Nat.le_trans K7.1 (Nat.le_of_eq g8.symm)
  have K8 := K7.ext E8
  have D8_18 : Fld Z h8 o8 "com/example/stratum/stratum/search/Statistics" "documents" "J" (.long (0 : Int64)) := D8 (Or.inr (hw _ (List.mem_of_getElem? (i := 18) rfl))) (ty := .long) (by decide)
  have D8_20 : Fld Z h8 o8 "com/example/stratum/stratum/search/Statistics" "length" "J" (.long (0 : Int64)) := D8 (Or.inr (hw _ (List.mem_of_getElem? (i := 20) rfl))) (ty := .long) (by decide)
  have D8_31 : Fld Z h8 o8 "com/example/stratum/stratum/search/Statistics" "matching" "[J" .null := D8 (Or.inr (hw _ (List.mem_of_getElem? (i := 31) rfl))) (ty := (.array .long)) (by decide)
  obtain ⟨T9, h9, kc9, X9, e9, E9, A9, Ex9, st9⟩ := newPE X8 hx hZ (hw _ (List.mem_of_getElem? (i := 10) rfl)) e8 (g := (mkF m 105 #[.val (.long q1), .second, .val (.long q2), .second, .val (.long q3), .second, .val (.long q4), .second, .val (.long q5), .second, .val (.long (fmax (1 : Int64) (q1 &&& (9223372036854775807 : Int64)))), .second, .val (.long (q2 &&& (9223372036854775807 : Int64))), .second, .val (.long (q3 &&& (9223372036854775807 : Int64))), .second, .val (.long ((q4 &&& (1048575 : Int64)) + (1 : Int64))), .second, .val (.long (f0_0 q1 q2 q3 q4 q5)), .second, .val (.long (q5 &&& (4294967295 : Int64))), .second, .val (.long ((f0_1 q1 q2 q3 q4 q5) + (f0_0 q1 q2 q3 q4 q5))), .second, .val (.ref o2), .val (.ref o5), .unset, .unset, .unset, .unset, .unset, .unset, .unset, .unset, .unset, .unset, .unset, .unset, .unset] [(.int (0 : Int32)), (.long ((f0_1 q1 q2 q3 q4 q5) + (f0_0 q1 q2 q3 q4 q5))), (.long ((q4 &&& (1048575 : Int64)) + (1 : Int64))), (.ref o8), (.ref o8)])) rfl (hb hby at_105) (n := (0 : Int32)) (rest := [(.long ((f0_1 q1 q2 q3 q4 q5) + (f0_0 q1 q2 q3 q4 q5))), (.long ((q4 &&& (1048575 : Int64)) + (1 : Int64))), (.ref o8), (.ref o8)]) rfl (by decide) (cap := 0) (by decide) (by decide) (by decide) (by decide) (ad := "[J") (by decide)
  obtain ⟨o9, g9⟩ : ∃ z, z = h8.size := ⟨_, rfl⟩
  rw [← g9] at A9 Ex9 st9
  have ne9_1 : o2 ≠ o9 := Nat.ne_of_lt (Nat.lt_of_lt_of_le u8_0.lt (Nat.le_of_eq g9.symm))
  have ne9_2 : o3 ≠ o9 := Nat.ne_of_lt (Nat.lt_of_lt_of_le u8_1.lt (Nat.le_of_eq g9.symm))
  have ne9_3 : o5 ≠ o9 := Nat.ne_of_lt (Nat.lt_of_lt_of_le u8_5.lt (Nat.le_of_eq g9.symm))
  have ne9_4 : o6 ≠ o9 := Nat.ne_of_lt (Nat.lt_of_lt_of_le u8_6.lt (Nat.le_of_eq g9.symm))
  have ne9_5 : o8 ≠ o9 := Nat.ne_of_lt (Nat.lt_of_lt_of_le A8.lt (Nat.le_of_eq g9.symm))
  have u9_0 := u8_0.ext E9
  have u9_1 := u8_1.ext E9
  have u9_2 := u8_2.ext E9
  have u9_3 := u8_3.ext E9
  have u9_4 := u8_4.ext E9
  have u9_5 := u8_5.ext E9
  have u9_6 := u8_6.ext E9
  have u9_7 := u8_7.ext E9
  have u9_8 := u8_8.ext E9
  have u9_9 := u8_9.ext E9
  have u9_10 := A8.ext E9
  have u9_11 := D8_18.ext E9
  have u9_12 := D8_20.ext E9
  have u9_13 := D8_31.ext E9
  have ge9 : n0 ≤ o9 := Nat.le_trans Z8 (Nat.le_of_eq g9.symm)
  have Z9 : n0 ≤ h9.size := Nat.le_trans Z8 E9.1
  have sz9 : h0.size ≤ o9 := Nat.le_trans K8.1 (Nat.le_of_eq g9.symm)
  have K9 := K8.ext E9
  have V9 : Arv Z h9 o9 kc9 .long (0 : Int32) [] (.long (0 : Int64)) := Arv.new A9 (by decide)
  obtain ⟨_, _, ⟨T10, L10, k10, n10⟩, -, X10, ⟨Lc10, hQ10, l10, y10, z10⟩, st10⟩ := X9.specialBack hx (y := (⟨"com/example/stratum/stratum/search/Statistics", "<init>", "(JJ[J)V"⟩ : MethodName)) rfl hown (mvT hZ (hw _ (List.mem_of_getElem? (i := 11) rfl))) (mvT hZ (hw _ (List.mem_of_getElem? (i := 12) rfl))) (mvT hZ (hw _ (List.mem_of_getElem? (i := 13) rfl))) (by decide) (backOf (W := 1) (rmini l Z a0 hw [] o8 ((q4 &&& (1048575 : Int64)) + (1 : Int64)) ((f0_1 q1 q2 q3 q4 q5) + (f0_0 q1 q2 q3 q4 q5)) o9 kc9 h9 n0 Z9 u9_10 ge8 u9_11 u9_12 u9_13 V9 Ex9 (own_ns q1 q2 q3 q4 q5) (own_nq q1 q2 q3 q4 q5)) hZ (hw _ (List.mem_of_getElem? (i := 13) rfl)) (hw _ (List.mem_of_getElem? (i := 9) rfl)) (by decide) (by decide)) (g := (mkF m 107 #[.val (.long q1), .second, .val (.long q2), .second, .val (.long q3), .second, .val (.long q4), .second, .val (.long q5), .second, .val (.long (fmax (1 : Int64) (q1 &&& (9223372036854775807 : Int64)))), .second, .val (.long (q2 &&& (9223372036854775807 : Int64))), .second, .val (.long (q3 &&& (9223372036854775807 : Int64))), .second, .val (.long ((q4 &&& (1048575 : Int64)) + (1 : Int64))), .second, .val (.long (f0_0 q1 q2 q3 q4 q5)), .second, .val (.long (q5 &&& (4294967295 : Int64))), .second, .val (.long ((f0_1 q1 q2 q3 q4 q5) + (f0_0 q1 q2 q3 q4 q5))), .second, .val (.ref o2), .val (.ref o5), .unset, .unset, .unset, .unset, .unset, .unset, .unset, .unset, .unset, .unset, .unset, .unset, .unset] [(.ref o9), (.long ((f0_1 q1 q2 q3 q4 q5) + (f0_0 q1 q2 q3 q4 q5))), (.long ((q4 &&& (1048575 : Int64)) + (1 : Int64))), (.ref o8), (.ref o8)])) rfl (by rw [hml]; rfl) (Steps.refl _) (a := o8) (argsL := [(.long ((q4 &&& (1048575 : Int64)) + (1 : Int64))), (.long ((f0_1 q1 q2 q3 q4 q5) + (f0_0 q1 q2 q3 q4 q5))), (.ref o9)]) (rest := [(.ref o8)]) (lenOf pd_1 rfl) rfl (by show 2 * 0 + _ ≤ _; exact Nat.le_of_eq rfl) (hb hby at_107) (fun _ _ => ⟨rfl, e9, (by decide : 8 + 1 ≤ _), (by decide : 9 + 0 ≤ _)⟩)
  dsimp only [Pt.U, Pt.locs, Pt.cells, Pt.slots] at X10 l10 y10 z10 st10 hQ10
  subst l10 y10 z10
  obtain ⟨rfl, N10q, Kc10, c10_0, c10_1, c10_2⟩ := hQ10
  have N10 := Fr.app N7 N10q
  have u10_0 := u9_0.keep Kc10
  have u10_1 := u9_1.keep Kc10
  have u10_2 := u9_2.keep Kc10 (by simp only [List.mem_cons, List.not_mem_nil, or_false, not_or]; exact ne8_2)
  have u10_3 := u9_3.keep Kc10 (by simp only [List.mem_cons, List.not_mem_nil, or_false, not_or]; exact ne8_1)
  have u10_4 := u9_4.keep Kc10 (by simp only [List.mem_cons, List.not_mem_nil, or_false, not_or]; exact ne8_1)
  have u10_5 := u9_5.keep Kc10
  have u10_6 := u9_6.keep Kc10
  have u10_7 := u9_7.keep Kc10 (by simp only [List.mem_cons, List.not_mem_nil, or_false, not_or]; exact ne8_4)
  have u10_8 := u9_8.keep Kc10 (by simp only [List.mem_cons, List.not_mem_nil, or_false, not_or]; exact ne8_3)
  have u10_9 := u9_9.keep Kc10 (by simp only [List.mem_cons, List.not_mem_nil, or_false, not_or]; exact ne8_3)
  have u10_10 := u9_10.keep Kc10
  have u10_14 := Ex9.keep Kc10
  have u10_15 := V9.keep Kc10 (by simp only [List.mem_cons, List.not_mem_nil, or_false, not_or]; exact (Ne.symm ne9_5))
  have K10 := K9.trans Kc10 (fun x hx => by cases List.mem_singleton.mp hx; exact Or.inr sz8)
  have Z10 : n0 ≤ T10.heap.size := Nat.le_trans Z9 Kc10.1
  obtain ⟨cq11, kq11, q11a, q11b, q11c⟩ := isOf hZ rfl u10_0
  obtain ⟨_, _, ⟨T11, L11, k11, n11⟩, -, X11, ⟨Lc11, hQ11, l11, y11, z11⟩, st11⟩ := X10.virtualBack hx (y := (⟨"com/example/stratum/stratum/search/Statistics", "meanLength", "()D"⟩ : MethodName)) (z := (⟨"com/example/stratum/stratum/search/Statistics", "meanLength", "()D"⟩ : MethodName)) hown (mvT hZ (hw _ (List.mem_of_getElem? (i := 32) rfl))) (mvT hZ (hw _ (List.mem_of_getElem? (i := 33) rfl))) (notFace_of_selects (args := #[]) (mvT hZ (hw _ (List.mem_of_getElem? (i := 35) rfl)))) (mvT hZ (hw _ (List.mem_of_getElem? (i := 35) rfl))) (mvT hZ (hw _ (List.mem_of_getElem? (i := 34) rfl))) (by decide) (backOf (W := 0) (rmmean l Z a0 hw [] o2 (fmax (1 : Int64) (q1 &&& (9223372036854775807 : Int64))) (q2 &&& (9223372036854775807 : Int64)) T10.heap n0 Z10 u10_3 u10_4 (own_bz _)) hZ (hw _ (List.mem_of_getElem? (i := 36) rfl)) (hw _ (List.mem_of_getElem? (i := 9) rfl)) (by decide) (by decide)) q11a q11c (g := (mkF m 114 #[.val (.long q1), .second, .val (.long q2), .second, .val (.long q3), .second, .val (.long q4), .second, .val (.long q5), .second, .val (.long (fmax (1 : Int64) (q1 &&& (9223372036854775807 : Int64)))), .second, .val (.long (q2 &&& (9223372036854775807 : Int64))), .second, .val (.long (q3 &&& (9223372036854775807 : Int64))), .second, .val (.long ((q4 &&& (1048575 : Int64)) + (1 : Int64))), .second, .val (.long (f0_0 q1 q2 q3 q4 q5)), .second, .val (.long (q5 &&& (4294967295 : Int64))), .second, .val (.long ((f0_1 q1 q2 q3 q4 q5) + (f0_0 q1 q2 q3 q4 q5))), .second, .val (.ref o2), .val (.ref o5), .val (.ref o8), .unset, .unset, .unset, .unset, .unset, .unset, .unset, .unset, .unset, .unset, .unset, .unset] [(.ref o2)])) rfl (by rw [hml]; rfl) (Steps.refl _) (argsL := []) (rest := []) (lenOf pd_2 rfl) rfl (by show 2 * 0 + _ ≤ _; exact Nat.le_of_eq rfl) (hb hby at_114) (fun _ _ => ⟨rfl, rfl, (by decide : 9 + 0 ≤ _), (by decide : 9 + 0 ≤ _)⟩)
  dsimp only [Pt.U, Pt.locs, Pt.cells, Pt.slots] at X11 l11 y11 z11 st11 hQ11
  subst l11 y11 z11
  obtain ⟨rfl, N11q, e11⟩ := hQ11
  have N11 := Fr.app N10 N11q
  obtain ⟨cq12, kq12, q12a, q12b, q12c⟩ := isOf hZ e11 u10_5
  obtain ⟨_, _, ⟨T12, L12, k12, n12⟩, -, X12, ⟨Lc12, hQ12, l12, y12, z12⟩, st12⟩ := X11.virtualBack hx (y := (⟨"com/example/stratum/stratum/search/Statistics", "meanLength", "()D"⟩ : MethodName)) (z := (⟨"com/example/stratum/stratum/search/Statistics", "meanLength", "()D"⟩ : MethodName)) hown (mvT hZ (hw _ (List.mem_of_getElem? (i := 32) rfl))) (mvT hZ (hw _ (List.mem_of_getElem? (i := 33) rfl))) (notFace_of_selects (args := #[]) (mvT hZ (hw _ (List.mem_of_getElem? (i := 35) rfl)))) (mvT hZ (hw _ (List.mem_of_getElem? (i := 35) rfl))) (mvT hZ (hw _ (List.mem_of_getElem? (i := 34) rfl))) (by decide) (backOf (W := 0) (rmmean l Z a0 hw [] o5 (fmax (1 : Int64) (q1 &&& (9223372036854775807 : Int64))) (q3 &&& (9223372036854775807 : Int64)) T10.heap n0 Z10 u10_8 u10_9 (own_bz _)) hZ (hw _ (List.mem_of_getElem? (i := 36) rfl)) (hw _ (List.mem_of_getElem? (i := 9) rfl)) (by decide) (by decide)) q12a q12c (g := (mkF m 121 #[.val (.long q1), .second, .val (.long q2), .second, .val (.long q3), .second, .val (.long q4), .second, .val (.long q5), .second, .val (.long (fmax (1 : Int64) (q1 &&& (9223372036854775807 : Int64)))), .second, .val (.long (q2 &&& (9223372036854775807 : Int64))), .second, .val (.long (q3 &&& (9223372036854775807 : Int64))), .second, .val (.long ((q4 &&& (1048575 : Int64)) + (1 : Int64))), .second, .val (.long (f0_0 q1 q2 q3 q4 q5)), .second, .val (.long (q5 &&& (4294967295 : Int64))), .second, .val (.long ((f0_1 q1 q2 q3 q4 q5) + (f0_0 q1 q2 q3 q4 q5))), .second, .val (.ref o2), .val (.ref o5), .val (.ref o8), .val (.double (f0_2 q1 q2 q3 q4 q5)), .second, .unset, .unset, .unset, .unset, .unset, .unset, .unset, .unset, .unset, .unset] [(.ref o5)])) rfl (by rw [hml]; rfl) (Steps.refl _) (argsL := []) (rest := []) (lenOf pd_2 rfl) rfl (by show 2 * 0 + _ ≤ _; exact Nat.le_of_eq rfl) (hb hby at_121) (fun _ _ => ⟨rfl, e11, (by decide : 9 + 0 ≤ _), (by decide : 9 + 0 ≤ _)⟩)
  dsimp only [Pt.U, Pt.locs, Pt.cells, Pt.slots] at X12 l12 y12 z12 st12 hQ12
  subst l12 y12 z12
  obtain ⟨rfl, N12q, e12⟩ := hQ12
  have N12 := Fr.app N11 N12q
  obtain ⟨cq13, kq13, q13a, q13b, q13c⟩ := isOf hZ e12 c10_0
  obtain ⟨_, _, ⟨T13, L13, k13, n13⟩, -, X13, ⟨Lc13, hQ13, l13, y13, z13⟩, st13⟩ := X12.virtualBack hx (y := (⟨"com/example/stratum/stratum/search/Statistics", "meanLength", "()D"⟩ : MethodName)) (z := (⟨"com/example/stratum/stratum/search/Statistics", "meanLength", "()D"⟩ : MethodName)) hown (mvT hZ (hw _ (List.mem_of_getElem? (i := 32) rfl))) (mvT hZ (hw _ (List.mem_of_getElem? (i := 33) rfl))) (notFace_of_selects (args := #[]) (mvT hZ (hw _ (List.mem_of_getElem? (i := 35) rfl)))) (mvT hZ (hw _ (List.mem_of_getElem? (i := 35) rfl))) (mvT hZ (hw _ (List.mem_of_getElem? (i := 34) rfl))) (by decide) (backOf (W := 0) (rmmean l Z a0 hw [] o8 ((q4 &&& (1048575 : Int64)) + (1 : Int64)) ((f0_1 q1 q2 q3 q4 q5) + (f0_0 q1 q2 q3 q4 q5)) T10.heap n0 Z10 c10_1 c10_2 (own_sz _)) hZ (hw _ (List.mem_of_getElem? (i := 36) rfl)) (hw _ (List.mem_of_getElem? (i := 9) rfl)) (by decide) (by decide)) q13a q13c (g := (mkF m 128 #[.val (.long q1), .second, .val (.long q2), .second, .val (.long q3), .second, .val (.long q4), .second, .val (.long q5), .second, .val (.long (fmax (1 : Int64) (q1 &&& (9223372036854775807 : Int64)))), .second, .val (.long (q2 &&& (9223372036854775807 : Int64))), .second, .val (.long (q3 &&& (9223372036854775807 : Int64))), .second, .val (.long ((q4 &&& (1048575 : Int64)) + (1 : Int64))), .second, .val (.long (f0_0 q1 q2 q3 q4 q5)), .second, .val (.long (q5 &&& (4294967295 : Int64))), .second, .val (.long ((f0_1 q1 q2 q3 q4 q5) + (f0_0 q1 q2 q3 q4 q5))), .second, .val (.ref o2), .val (.ref o5), .val (.ref o8), .val (.double (f0_2 q1 q2 q3 q4 q5)), .second, .val (.double (f0_3 q1 q2 q3 q4 q5)), .second, .unset, .unset, .unset, .unset, .unset, .unset, .unset, .unset] [(.ref o8)])) rfl (by rw [hml]; rfl) (Steps.refl _) (argsL := []) (rest := []) (lenOf pd_2 rfl) rfl (by show 2 * 0 + _ ≤ _; exact Nat.le_of_eq rfl) (hb hby at_128) (fun _ _ => ⟨rfl, e12, (by decide : 9 + 0 ≤ _), (by decide : 9 + 0 ≤ _)⟩)
  dsimp only [Pt.U, Pt.locs, Pt.cells, Pt.slots] at X13 l13 y13 z13 st13 hQ13
  subst l13 y13 z13
  obtain ⟨rfl, N13q, e13⟩ := hQ13
  have N13 := Fr.app N12 N13q
  have h14 : ¬ ((Jvm.Op.cmpValue (FP.dcmp (f0_2 q1 q2 q3 q4 q5) FP.dconst0) Jvm.ClassFile.CmpOp.l) < (0 : Int32)) := (by unfold f0_2 fmean; exact own_c137 (own_n63 _) (own_b1 _))
  have h15 : ¬ ((0 : Int32) < (Jvm.Op.cmpValue (FP.dcmp (f0_2 q1 q2 q3 q4 q5) (FP.l2d (q2 &&& (9223372036854775807 : Int64)))) Jvm.ClassFile.CmpOp.g)) := (by unfold f0_2 fmean; exact own_c148 (own_n63 _) (own_b1 _))
  have st18 : ∀ t, Steps p.tables e below (T13.setTop (mkF m 171 #[.val (.long q1), .second, .val (.long q2), .second, .val (.long q3), .second, .val (.long q4), .second, .val (.long q5), .second, .val (.long (fmax (1 : Int64) (q1 &&& (9223372036854775807 : Int64)))), .second, .val (.long (q2 &&& (9223372036854775807 : Int64))), .second, .val (.long (q3 &&& (9223372036854775807 : Int64))), .second, .val (.long ((q4 &&& (1048575 : Int64)) + (1 : Int64))), .second, .val (.long (f0_0 q1 q2 q3 q4 q5)), .second, .val (.long (q5 &&& (4294967295 : Int64))), .second, .val (.long ((f0_1 q1 q2 q3 q4 q5) + (f0_0 q1 q2 q3 q4 q5))), .second, .val (.ref o2), .val (.ref o5), .val (.ref o8), .val (.double (f0_2 q1 q2 q3 q4 q5)), .second, .val (.double (f0_3 q1 q2 q3 q4 q5)), .second, .val (.double (f0_4 q1 q2 q3 q4 q5)), .second, .unset, .unset, .unset, .unset, .unset, .unset] [])) t → Steps p.tables e below (T13.setTop (mkF m 157 #[.val (.long q1), .second, .val (.long q2), .second, .val (.long q3), .second, .val (.long q4), .second, .val (.long q5), .second, .val (.long (fmax (1 : Int64) (q1 &&& (9223372036854775807 : Int64)))), .second, .val (.long (q2 &&& (9223372036854775807 : Int64))), .second, .val (.long (q3 &&& (9223372036854775807 : Int64))), .second, .val (.long ((q4 &&& (1048575 : Int64)) + (1 : Int64))), .second, .val (.long (f0_0 q1 q2 q3 q4 q5)), .second, .val (.long (q5 &&& (4294967295 : Int64))), .second, .val (.long ((f0_1 q1 q2 q3 q4 q5) + (f0_0 q1 q2 q3 q4 q5))), .second, .val (.ref o2), .val (.ref o5), .val (.ref o8), .val (.double (f0_2 q1 q2 q3 q4 q5)), .second, .val (.double (f0_3 q1 q2 q3 q4 q5)), .second, .val (.double (f0_4 q1 q2 q3 q4 q5)), .second, .unset, .unset, .unset, .unset, .unset, .unset] [(.int (XT.cmpL (fmax (1 : Int64) (q1 &&& (9223372036854775807 : Int64))) (1 : Int64)))])) t := by
    intro t k
    by_cases h16 : (fmax (1 : Int64) (q1 &&& (9223372036854775807 : Int64))) = (1 : Int64)
    · have h17 : (Jvm.Op.cmpValue (FP.dcmp (f0_2 q1 q2 q3 q4 q5) (FP.l2d (q2 &&& (9223372036854775807 : Int64)))) Jvm.ClassFile.CmpOp.l) = (0 : Int32) := (by unfold f0_2 fmean; exact own_c166 (own_n63 _) h16)
      show Steps p.tables e below (T13.setTop (mkF m 157 #[.val (.long q1), .second, .val (.long q2), .second, .val (.long q3), .second, .val (.long q4), .second, .val (.long q5), .second, .val (.long (fmax (1 : Int64) (q1 &&& (9223372036854775807 : Int64)))), .second, .val (.long (q2 &&& (9223372036854775807 : Int64))), .second, .val (.long (q3 &&& (9223372036854775807 : Int64))), .second, .val (.long ((q4 &&& (1048575 : Int64)) + (1 : Int64))), .second, .val (.long (f0_0 q1 q2 q3 q4 q5)), .second, .val (.long (q5 &&& (4294967295 : Int64))), .second, .val (.long ((f0_1 q1 q2 q3 q4 q5) + (f0_0 q1 q2 q3 q4 q5))), .second, .val (.ref o2), .val (.ref o5), .val (.ref o8), .val (.double (f0_2 q1 q2 q3 q4 q5)), .second, .val (.double (f0_3 q1 q2 q3 q4 q5)), .second, .val (.double (f0_4 q1 q2 q3 q4 q5)), .second, .unset, .unset, .unset, .unset, .unset, .unset] [(.int (XT.cmpL (fmax (1 : Int64) (q1 &&& (9223372036854775807 : Int64))) (1 : Int64)))])) _
      refine XS.ifNo X13.here hx rfl (hb hby at_157) rfl ((if0 _ _).trans (teq ((own_ce _ _).mpr h16)).2) ?_
      show Steps p.tables e below (T13.setTop (mkF m 160 #[.val (.long q1), .second, .val (.long q2), .second, .val (.long q3), .second, .val (.long q4), .second, .val (.long q5), .second, .val (.long (fmax (1 : Int64) (q1 &&& (9223372036854775807 : Int64)))), .second, .val (.long (q2 &&& (9223372036854775807 : Int64))), .second, .val (.long (q3 &&& (9223372036854775807 : Int64))), .second, .val (.long ((q4 &&& (1048575 : Int64)) + (1 : Int64))), .second, .val (.long (f0_0 q1 q2 q3 q4 q5)), .second, .val (.long (q5 &&& (4294967295 : Int64))), .second, .val (.long ((f0_1 q1 q2 q3 q4 q5) + (f0_0 q1 q2 q3 q4 q5))), .second, .val (.ref o2), .val (.ref o5), .val (.ref o8), .val (.double (f0_2 q1 q2 q3 q4 q5)), .second, .val (.double (f0_3 q1 q2 q3 q4 q5)), .second, .val (.double (f0_4 q1 q2 q3 q4 q5)), .second, .unset, .unset, .unset, .unset, .unset, .unset] [])) _
      refine XS.dload X13.here hx rfl (hb hby at_160) rfl ?_
      show Steps p.tables e below (T13.setTop (mkF m 162 #[.val (.long q1), .second, .val (.long q2), .second, .val (.long q3), .second, .val (.long q4), .second, .val (.long q5), .second, .val (.long (fmax (1 : Int64) (q1 &&& (9223372036854775807 : Int64)))), .second, .val (.long (q2 &&& (9223372036854775807 : Int64))), .second, .val (.long (q3 &&& (9223372036854775807 : Int64))), .second, .val (.long ((q4 &&& (1048575 : Int64)) + (1 : Int64))), .second, .val (.long (f0_0 q1 q2 q3 q4 q5)), .second, .val (.long (q5 &&& (4294967295 : Int64))), .second, .val (.long ((f0_1 q1 q2 q3 q4 q5) + (f0_0 q1 q2 q3 q4 q5))), .second, .val (.ref o2), .val (.ref o5), .val (.ref o8), .val (.double (f0_2 q1 q2 q3 q4 q5)), .second, .val (.double (f0_3 q1 q2 q3 q4 q5)), .second, .val (.double (f0_4 q1 q2 q3 q4 q5)), .second, .unset, .unset, .unset, .unset, .unset, .unset] [(.double (f0_2 q1 q2 q3 q4 q5))])) _
      refine XT.lload X13.here hx rfl (hb hby at_162) rfl ?_
      show Steps p.tables e below (T13.setTop (mkF m 164 #[.val (.long q1), .second, .val (.long q2), .second, .val (.long q3), .second, .val (.long q4), .second, .val (.long q5), .second, .val (.long (fmax (1 : Int64) (q1 &&& (9223372036854775807 : Int64)))), .second, .val (.long (q2 &&& (9223372036854775807 : Int64))), .second, .val (.long (q3 &&& (9223372036854775807 : Int64))), .second, .val (.long ((q4 &&& (1048575 : Int64)) + (1 : Int64))), .second, .val (.long (f0_0 q1 q2 q3 q4 q5)), .second, .val (.long (q5 &&& (4294967295 : Int64))), .second, .val (.long ((f0_1 q1 q2 q3 q4 q5) + (f0_0 q1 q2 q3 q4 q5))), .second, .val (.ref o2), .val (.ref o5), .val (.ref o8), .val (.double (f0_2 q1 q2 q3 q4 q5)), .second, .val (.double (f0_3 q1 q2 q3 q4 q5)), .second, .val (.double (f0_4 q1 q2 q3 q4 q5)), .second, .unset, .unset, .unset, .unset, .unset, .unset] [(.long (q2 &&& (9223372036854775807 : Int64))), (.double (f0_2 q1 q2 q3 q4 q5))])) _
      refine XS.l2dS X13.here hx rfl (hb hby at_164) rfl rfl ?_
      show Steps p.tables e below (T13.setTop (mkF m 165 #[.val (.long q1), .second, .val (.long q2), .second, .val (.long q3), .second, .val (.long q4), .second, .val (.long q5), .second, .val (.long (fmax (1 : Int64) (q1 &&& (9223372036854775807 : Int64)))), .second, .val (.long (q2 &&& (9223372036854775807 : Int64))), .second, .val (.long (q3 &&& (9223372036854775807 : Int64))), .second, .val (.long ((q4 &&& (1048575 : Int64)) + (1 : Int64))), .second, .val (.long (f0_0 q1 q2 q3 q4 q5)), .second, .val (.long (q5 &&& (4294967295 : Int64))), .second, .val (.long ((f0_1 q1 q2 q3 q4 q5) + (f0_0 q1 q2 q3 q4 q5))), .second, .val (.ref o2), .val (.ref o5), .val (.ref o8), .val (.double (f0_2 q1 q2 q3 q4 q5)), .second, .val (.double (f0_3 q1 q2 q3 q4 q5)), .second, .val (.double (f0_4 q1 q2 q3 q4 q5)), .second, .unset, .unset, .unset, .unset, .unset, .unset] [(.double (FP.l2d (q2 &&& (9223372036854775807 : Int64)))), (.double (f0_2 q1 q2 q3 q4 q5))])) _
      refine XS.dcmpS X13.here hx rfl (hb hby at_165) rfl rfl ?_
      show Steps p.tables e below (T13.setTop (mkF m 166 #[.val (.long q1), .second, .val (.long q2), .second, .val (.long q3), .second, .val (.long q4), .second, .val (.long q5), .second, .val (.long (fmax (1 : Int64) (q1 &&& (9223372036854775807 : Int64)))), .second, .val (.long (q2 &&& (9223372036854775807 : Int64))), .second, .val (.long (q3 &&& (9223372036854775807 : Int64))), .second, .val (.long ((q4 &&& (1048575 : Int64)) + (1 : Int64))), .second, .val (.long (f0_0 q1 q2 q3 q4 q5)), .second, .val (.long (q5 &&& (4294967295 : Int64))), .second, .val (.long ((f0_1 q1 q2 q3 q4 q5) + (f0_0 q1 q2 q3 q4 q5))), .second, .val (.ref o2), .val (.ref o5), .val (.ref o8), .val (.double (f0_2 q1 q2 q3 q4 q5)), .second, .val (.double (f0_3 q1 q2 q3 q4 q5)), .second, .val (.double (f0_4 q1 q2 q3 q4 q5)), .second, .unset, .unset, .unset, .unset, .unset, .unset] [(.int (Jvm.Op.cmpValue (FP.dcmp (f0_2 q1 q2 q3 q4 q5) (FP.l2d (q2 &&& (9223372036854775807 : Int64)))) Jvm.ClassFile.CmpOp.l))])) _
      refine XS.ifYes X13.here hx rfl (pc0 := 166) (pc' := 171) rfl (hb hby at_166) rfl ((if0 _ _).trans (teq h17).1) (by decide) (by decide) ?_
      exact k
    · show Steps p.tables e below (T13.setTop (mkF m 157 #[.val (.long q1), .second, .val (.long q2), .second, .val (.long q3), .second, .val (.long q4), .second, .val (.long q5), .second, .val (.long (fmax (1 : Int64) (q1 &&& (9223372036854775807 : Int64)))), .second, .val (.long (q2 &&& (9223372036854775807 : Int64))), .second, .val (.long (q3 &&& (9223372036854775807 : Int64))), .second, .val (.long ((q4 &&& (1048575 : Int64)) + (1 : Int64))), .second, .val (.long (f0_0 q1 q2 q3 q4 q5)), .second, .val (.long (q5 &&& (4294967295 : Int64))), .second, .val (.long ((f0_1 q1 q2 q3 q4 q5) + (f0_0 q1 q2 q3 q4 q5))), .second, .val (.ref o2), .val (.ref o5), .val (.ref o8), .val (.double (f0_2 q1 q2 q3 q4 q5)), .second, .val (.double (f0_3 q1 q2 q3 q4 q5)), .second, .val (.double (f0_4 q1 q2 q3 q4 q5)), .second, .unset, .unset, .unset, .unset, .unset, .unset] [(.int (XT.cmpL (fmax (1 : Int64) (q1 &&& (9223372036854775807 : Int64))) (1 : Int64)))])) _
      refine XS.ifYes X13.here hx rfl (pc0 := 157) (pc' := 171) rfl (hb hby at_157) rfl ((if0 _ _).trans (feq (mt (own_ce _ _).mp h16)).2) (by decide) (by decide) ?_
      exact k
  have st21 : ∀ t, Steps p.tables e below (T13.setTop (mkF m 189 #[.val (.long q1), .second, .val (.long q2), .second, .val (.long q3), .second, .val (.long q4), .second, .val (.long q5), .second, .val (.long (fmax (1 : Int64) (q1 &&& (9223372036854775807 : Int64)))), .second, .val (.long (q2 &&& (9223372036854775807 : Int64))), .second, .val (.long (q3 &&& (9223372036854775807 : Int64))), .second, .val (.long ((q4 &&& (1048575 : Int64)) + (1 : Int64))), .second, .val (.long (f0_0 q1 q2 q3 q4 q5)), .second, .val (.long (q5 &&& (4294967295 : Int64))), .second, .val (.long ((f0_1 q1 q2 q3 q4 q5) + (f0_0 q1 q2 q3 q4 q5))), .second, .val (.ref o2), .val (.ref o5), .val (.ref o8), .val (.double (f0_2 q1 q2 q3 q4 q5)), .second, .val (.double (f0_3 q1 q2 q3 q4 q5)), .second, .val (.double (f0_4 q1 q2 q3 q4 q5)), .second, .unset, .unset, .unset, .unset, .unset, .unset] [])) t → Steps p.tables e below (T13.setTop (mkF m 176 #[.val (.long q1), .second, .val (.long q2), .second, .val (.long q3), .second, .val (.long q4), .second, .val (.long q5), .second, .val (.long (fmax (1 : Int64) (q1 &&& (9223372036854775807 : Int64)))), .second, .val (.long (q2 &&& (9223372036854775807 : Int64))), .second, .val (.long (q3 &&& (9223372036854775807 : Int64))), .second, .val (.long ((q4 &&& (1048575 : Int64)) + (1 : Int64))), .second, .val (.long (f0_0 q1 q2 q3 q4 q5)), .second, .val (.long (q5 &&& (4294967295 : Int64))), .second, .val (.long ((f0_1 q1 q2 q3 q4 q5) + (f0_0 q1 q2 q3 q4 q5))), .second, .val (.ref o2), .val (.ref o5), .val (.ref o8), .val (.double (f0_2 q1 q2 q3 q4 q5)), .second, .val (.double (f0_3 q1 q2 q3 q4 q5)), .second, .val (.double (f0_4 q1 q2 q3 q4 q5)), .second, .unset, .unset, .unset, .unset, .unset, .unset] [(.int (XT.cmpL (q2 &&& (9223372036854775807 : Int64)) (q3 &&& (9223372036854775807 : Int64))))])) t := by
    intro t k
    by_cases h19 : (q3 &&& (9223372036854775807 : Int64)) < (q2 &&& (9223372036854775807 : Int64))
    · show Steps p.tables e below (T13.setTop (mkF m 176 #[.val (.long q1), .second, .val (.long q2), .second, .val (.long q3), .second, .val (.long q4), .second, .val (.long q5), .second, .val (.long (fmax (1 : Int64) (q1 &&& (9223372036854775807 : Int64)))), .second, .val (.long (q2 &&& (9223372036854775807 : Int64))), .second, .val (.long (q3 &&& (9223372036854775807 : Int64))), .second, .val (.long ((q4 &&& (1048575 : Int64)) + (1 : Int64))), .second, .val (.long (f0_0 q1 q2 q3 q4 q5)), .second, .val (.long (q5 &&& (4294967295 : Int64))), .second, .val (.long ((f0_1 q1 q2 q3 q4 q5) + (f0_0 q1 q2 q3 q4 q5))), .second, .val (.ref o2), .val (.ref o5), .val (.ref o8), .val (.double (f0_2 q1 q2 q3 q4 q5)), .second, .val (.double (f0_3 q1 q2 q3 q4 q5)), .second, .val (.double (f0_4 q1 q2 q3 q4 q5)), .second, .unset, .unset, .unset, .unset, .unset, .unset] [(.int (XT.cmpL (q2 &&& (9223372036854775807 : Int64)) (q3 &&& (9223372036854775807 : Int64))))])) _
      refine XS.ifYes X13.here hx rfl (pc0 := 176) (pc' := 189) rfl (hb hby at_176) rfl ((if0 _ _).trans (tlt ((own_cg _ _).mpr h19)).2.2.1) (by decide) (by decide) ?_
      exact k
    · have h20 : ¬ ((0 : Int32) < (Jvm.Op.cmpValue (FP.dcmp (f0_2 q1 q2 q3 q4 q5) (f0_3 q1 q2 q3 q4 q5)) Jvm.ClassFile.CmpOp.g)) := (by unfold f0_2 f0_3 fmean; exact own_c184 (own_n63 _) (own_n63 _) (own_b1 _) h19)
      show Steps p.tables e below (T13.setTop (mkF m 176 #[.val (.long q1), .second, .val (.long q2), .second, .val (.long q3), .second, .val (.long q4), .second, .val (.long q5), .second, .val (.long (fmax (1 : Int64) (q1 &&& (9223372036854775807 : Int64)))), .second, .val (.long (q2 &&& (9223372036854775807 : Int64))), .second, .val (.long (q3 &&& (9223372036854775807 : Int64))), .second, .val (.long ((q4 &&& (1048575 : Int64)) + (1 : Int64))), .second, .val (.long (f0_0 q1 q2 q3 q4 q5)), .second, .val (.long (q5 &&& (4294967295 : Int64))), .second, .val (.long ((f0_1 q1 q2 q3 q4 q5) + (f0_0 q1 q2 q3 q4 q5))), .second, .val (.ref o2), .val (.ref o5), .val (.ref o8), .val (.double (f0_2 q1 q2 q3 q4 q5)), .second, .val (.double (f0_3 q1 q2 q3 q4 q5)), .second, .val (.double (f0_4 q1 q2 q3 q4 q5)), .second, .unset, .unset, .unset, .unset, .unset, .unset] [(.int (XT.cmpL (q2 &&& (9223372036854775807 : Int64)) (q3 &&& (9223372036854775807 : Int64))))])) _
      refine XS.ifNo X13.here hx rfl (hb hby at_176) rfl ((if0 _ _).trans (flt (mt (own_cg _ _).mp h19)).2.2.1) ?_
      show Steps p.tables e below (T13.setTop (mkF m 179 #[.val (.long q1), .second, .val (.long q2), .second, .val (.long q3), .second, .val (.long q4), .second, .val (.long q5), .second, .val (.long (fmax (1 : Int64) (q1 &&& (9223372036854775807 : Int64)))), .second, .val (.long (q2 &&& (9223372036854775807 : Int64))), .second, .val (.long (q3 &&& (9223372036854775807 : Int64))), .second, .val (.long ((q4 &&& (1048575 : Int64)) + (1 : Int64))), .second, .val (.long (f0_0 q1 q2 q3 q4 q5)), .second, .val (.long (q5 &&& (4294967295 : Int64))), .second, .val (.long ((f0_1 q1 q2 q3 q4 q5) + (f0_0 q1 q2 q3 q4 q5))), .second, .val (.ref o2), .val (.ref o5), .val (.ref o8), .val (.double (f0_2 q1 q2 q3 q4 q5)), .second, .val (.double (f0_3 q1 q2 q3 q4 q5)), .second, .val (.double (f0_4 q1 q2 q3 q4 q5)), .second, .unset, .unset, .unset, .unset, .unset, .unset] [])) _
      refine XS.dload X13.here hx rfl (hb hby at_179) rfl ?_
      show Steps p.tables e below (T13.setTop (mkF m 181 #[.val (.long q1), .second, .val (.long q2), .second, .val (.long q3), .second, .val (.long q4), .second, .val (.long q5), .second, .val (.long (fmax (1 : Int64) (q1 &&& (9223372036854775807 : Int64)))), .second, .val (.long (q2 &&& (9223372036854775807 : Int64))), .second, .val (.long (q3 &&& (9223372036854775807 : Int64))), .second, .val (.long ((q4 &&& (1048575 : Int64)) + (1 : Int64))), .second, .val (.long (f0_0 q1 q2 q3 q4 q5)), .second, .val (.long (q5 &&& (4294967295 : Int64))), .second, .val (.long ((f0_1 q1 q2 q3 q4 q5) + (f0_0 q1 q2 q3 q4 q5))), .second, .val (.ref o2), .val (.ref o5), .val (.ref o8), .val (.double (f0_2 q1 q2 q3 q4 q5)), .second, .val (.double (f0_3 q1 q2 q3 q4 q5)), .second, .val (.double (f0_4 q1 q2 q3 q4 q5)), .second, .unset, .unset, .unset, .unset, .unset, .unset] [(.double (f0_2 q1 q2 q3 q4 q5))])) _
      refine XS.dload X13.here hx rfl (hb hby at_181) rfl ?_
      show Steps p.tables e below (T13.setTop (mkF m 183 #[.val (.long q1), .second, .val (.long q2), .second, .val (.long q3), .second, .val (.long q4), .second, .val (.long q5), .second, .val (.long (fmax (1 : Int64) (q1 &&& (9223372036854775807 : Int64)))), .second, .val (.long (q2 &&& (9223372036854775807 : Int64))), .second, .val (.long (q3 &&& (9223372036854775807 : Int64))), .second, .val (.long ((q4 &&& (1048575 : Int64)) + (1 : Int64))), .second, .val (.long (f0_0 q1 q2 q3 q4 q5)), .second, .val (.long (q5 &&& (4294967295 : Int64))), .second, .val (.long ((f0_1 q1 q2 q3 q4 q5) + (f0_0 q1 q2 q3 q4 q5))), .second, .val (.ref o2), .val (.ref o5), .val (.ref o8), .val (.double (f0_2 q1 q2 q3 q4 q5)), .second, .val (.double (f0_3 q1 q2 q3 q4 q5)), .second, .val (.double (f0_4 q1 q2 q3 q4 q5)), .second, .unset, .unset, .unset, .unset, .unset, .unset] [(.double (f0_3 q1 q2 q3 q4 q5)), (.double (f0_2 q1 q2 q3 q4 q5))])) _
      refine XS.dcmpS X13.here hx rfl (hb hby at_183) rfl rfl ?_
      show Steps p.tables e below (T13.setTop (mkF m 184 #[.val (.long q1), .second, .val (.long q2), .second, .val (.long q3), .second, .val (.long q4), .second, .val (.long q5), .second, .val (.long (fmax (1 : Int64) (q1 &&& (9223372036854775807 : Int64)))), .second, .val (.long (q2 &&& (9223372036854775807 : Int64))), .second, .val (.long (q3 &&& (9223372036854775807 : Int64))), .second, .val (.long ((q4 &&& (1048575 : Int64)) + (1 : Int64))), .second, .val (.long (f0_0 q1 q2 q3 q4 q5)), .second, .val (.long (q5 &&& (4294967295 : Int64))), .second, .val (.long ((f0_1 q1 q2 q3 q4 q5) + (f0_0 q1 q2 q3 q4 q5))), .second, .val (.ref o2), .val (.ref o5), .val (.ref o8), .val (.double (f0_2 q1 q2 q3 q4 q5)), .second, .val (.double (f0_3 q1 q2 q3 q4 q5)), .second, .val (.double (f0_4 q1 q2 q3 q4 q5)), .second, .unset, .unset, .unset, .unset, .unset, .unset] [(.int (Jvm.Op.cmpValue (FP.dcmp (f0_2 q1 q2 q3 q4 q5) (f0_3 q1 q2 q3 q4 q5)) Jvm.ClassFile.CmpOp.g))])) _
      refine XS.ifYes X13.here hx rfl (pc0 := 184) (pc' := 189) rfl (hb hby at_184) rfl ((if0 _ _).trans (flt h20).2.2.2) (by decide) (by decide) ?_
      exact k
  refine own_step (B := T13.setTop (mkF m 206 #[.val (.long q1), .second, .val (.long q2), .second, .val (.long q3), .second, .val (.long q4), .second, .val (.long q5), .second, .val (.long (fmax (1 : Int64) (q1 &&& (9223372036854775807 : Int64)))), .second, .val (.long (q2 &&& (9223372036854775807 : Int64))), .second, .val (.long (q3 &&& (9223372036854775807 : Int64))), .second, .val (.long ((q4 &&& (1048575 : Int64)) + (1 : Int64))), .second, .val (.long (f0_0 q1 q2 q3 q4 q5)), .second, .val (.long (q5 &&& (4294967295 : Int64))), .second, .val (.long ((f0_1 q1 q2 q3 q4 q5) + (f0_0 q1 q2 q3 q4 q5))), .second, .val (.ref o2), .val (.ref o5), .val (.ref o8), .val (.double (f0_2 q1 q2 q3 q4 q5)), .second, .val (.double (f0_3 q1 q2 q3 q4 q5)), .second, .val (.double (f0_4 q1 q2 q3 q4 q5)), .second, .val (.double (FP.l2d (q5 &&& (4294967295 : Int64)))), .second, .val (.double (f0_5 q1 q2 q3 q4 q5)), .second, .unset, .unset] [(.int (XT.cmpL (f0_0 q1 q2 q3 q4 q5) (0 : Int64)))])) (fun t k => ?_) ?_
  · show Steps p.tables e below (s₁.setTop (mkF m 0 #[.val (.long q1), .second, .val (.long q2), .second, .val (.long q3), .second, .val (.long q4), .second, .val (.long q5), .second, .unset, .unset, .unset, .unset, .unset, .unset, .unset, .unset, .unset, .unset, .unset, .unset, .unset, .unset, .unset, .unset, .unset, .unset, .unset, .unset, .unset, .unset, .unset, .unset, .unset, .unset, .unset, .unset, .unset] [])) _
    refine XT.lconst X0.here hx rfl (hb hby at_0) ?_
    show Steps p.tables e below (s₁.setTop (mkF m 1 #[.val (.long q1), .second, .val (.long q2), .second, .val (.long q3), .second, .val (.long q4), .second, .val (.long q5), .second, .unset, .unset, .unset, .unset, .unset, .unset, .unset, .unset, .unset, .unset, .unset, .unset, .unset, .unset, .unset, .unset, .unset, .unset, .unset, .unset, .unset, .unset, .unset, .unset, .unset, .unset, .unset, .unset, .unset] [(.long (1 : Int64))])) _
    refine XT.lloadN X0.here hx rfl (hb hby at_1) rfl ?_
    show Steps p.tables e below (s₁.setTop (mkF m 2 #[.val (.long q1), .second, .val (.long q2), .second, .val (.long q3), .second, .val (.long q4), .second, .val (.long q5), .second, .unset, .unset, .unset, .unset, .unset, .unset, .unset, .unset, .unset, .unset, .unset, .unset, .unset, .unset, .unset, .unset, .unset, .unset, .unset, .unset, .unset, .unset, .unset, .unset, .unset, .unset, .unset, .unset, .unset] [(.long q1), (.long (1 : Int64))])) _
    refine X0.ldc2Long hx hown (mvT hZ (hw _ (List.mem_of_getElem? (i := 0) rfl))) (g := (mkF m 2 #[.val (.long q1), .second, .val (.long q2), .second, .val (.long q3), .second, .val (.long q4), .second, .val (.long q5), .second, .unset, .unset, .unset, .unset, .unset, .unset, .unset, .unset, .unset, .unset, .unset, .unset, .unset, .unset, .unset, .unset, .unset, .unset, .unset, .unset, .unset, .unset, .unset, .unset, .unset, .unset, .unset, .unset, .unset] [(.long q1), (.long (1 : Int64))])) rfl (hb hby at_2) _ ?_
    show Steps p.tables e below (s₁.setTop (mkF m 5 #[.val (.long q1), .second, .val (.long q2), .second, .val (.long q3), .second, .val (.long q4), .second, .val (.long q5), .second, .unset, .unset, .unset, .unset, .unset, .unset, .unset, .unset, .unset, .unset, .unset, .unset, .unset, .unset, .unset, .unset, .unset, .unset, .unset, .unset, .unset, .unset, .unset, .unset, .unset, .unset, .unset, .unset, .unset] [(.long (9223372036854775807 : Int64)), (.long q1), (.long (1 : Int64))])) _
    refine XT.land X0.here hx rfl (hb hby at_5) rfl ?_
    show Steps p.tables e below (s₁.setTop (mkF m 6 #[.val (.long q1), .second, .val (.long q2), .second, .val (.long q3), .second, .val (.long q4), .second, .val (.long q5), .second, .unset, .unset, .unset, .unset, .unset, .unset, .unset, .unset, .unset, .unset, .unset, .unset, .unset, .unset, .unset, .unset, .unset, .unset, .unset, .unset, .unset, .unset, .unset, .unset, .unset, .unset, .unset, .unset, .unset] [(.long (q1 &&& (9223372036854775807 : Int64))), (.long (1 : Int64))])) _
    refine st1 _ ?_
    show Steps p.tables e below (T1.setTop (mkF m 9 #[.val (.long q1), .second, .val (.long q2), .second, .val (.long q3), .second, .val (.long q4), .second, .val (.long q5), .second, .unset, .unset, .unset, .unset, .unset, .unset, .unset, .unset, .unset, .unset, .unset, .unset, .unset, .unset, .unset, .unset, .unset, .unset, .unset, .unset, .unset, .unset, .unset, .unset, .unset, .unset, .unset, .unset, .unset] [(.long (fmax (1 : Int64) (q1 &&& (9223372036854775807 : Int64))))])) _
    refine XT.lstore X1.here hx rfl (hb hby at_9) rfl (l' := #[.val (.long q1), .second, .val (.long q2), .second, .val (.long q3), .second, .val (.long q4), .second, .val (.long q5), .second, .val (.long (fmax (1 : Int64) (q1 &&& (9223372036854775807 : Int64)))), .second, .unset, .unset, .unset, .unset, .unset, .unset, .unset, .unset, .unset, .unset, .unset, .unset, .unset, .unset, .unset, .unset, .unset, .unset, .unset, .unset, .unset, .unset, .unset, .unset, .unset, .unset, .unset]) rfl ?_
    show Steps p.tables e below (T1.setTop (mkF m 11 #[.val (.long q1), .second, .val (.long q2), .second, .val (.long q3), .second, .val (.long q4), .second, .val (.long q5), .second, .val (.long (fmax (1 : Int64) (q1 &&& (9223372036854775807 : Int64)))), .second, .unset, .unset, .unset, .unset, .unset, .unset, .unset, .unset, .unset, .unset, .unset, .unset, .unset, .unset, .unset, .unset, .unset, .unset, .unset, .unset, .unset, .unset, .unset, .unset, .unset, .unset, .unset] [])) _
    refine XT.lloadN X1.here hx rfl (hb hby at_11) rfl ?_
    show Steps p.tables e below (T1.setTop (mkF m 12 #[.val (.long q1), .second, .val (.long q2), .second, .val (.long q3), .second, .val (.long q4), .second, .val (.long q5), .second, .val (.long (fmax (1 : Int64) (q1 &&& (9223372036854775807 : Int64)))), .second, .unset, .unset, .unset, .unset, .unset, .unset, .unset, .unset, .unset, .unset, .unset, .unset, .unset, .unset, .unset, .unset, .unset, .unset, .unset, .unset, .unset, .unset, .unset, .unset, .unset, .unset, .unset] [(.long q2)])) _
    refine X1.ldc2Long hx hown (mvT hZ (hw _ (List.mem_of_getElem? (i := 0) rfl))) (g := (mkF m 12 #[.val (.long q1), .second, .val (.long q2), .second, .val (.long q3), .second, .val (.long q4), .second, .val (.long q5), .second, .val (.long (fmax (1 : Int64) (q1 &&& (9223372036854775807 : Int64)))), .second, .unset, .unset, .unset, .unset, .unset, .unset, .unset, .unset, .unset, .unset, .unset, .unset, .unset, .unset, .unset, .unset, .unset, .unset, .unset, .unset, .unset, .unset, .unset, .unset, .unset, .unset, .unset] [(.long q2)])) rfl (hb hby at_12) _ ?_
    show Steps p.tables e below (T1.setTop (mkF m 15 #[.val (.long q1), .second, .val (.long q2), .second, .val (.long q3), .second, .val (.long q4), .second, .val (.long q5), .second, .val (.long (fmax (1 : Int64) (q1 &&& (9223372036854775807 : Int64)))), .second, .unset, .unset, .unset, .unset, .unset, .unset, .unset, .unset, .unset, .unset, .unset, .unset, .unset, .unset, .unset, .unset, .unset, .unset, .unset, .unset, .unset, .unset, .unset, .unset, .unset, .unset, .unset] [(.long (9223372036854775807 : Int64)), (.long q2)])) _
    refine XT.land X1.here hx rfl (hb hby at_15) rfl ?_
    show Steps p.tables e below (T1.setTop (mkF m 16 #[.val (.long q1), .second, .val (.long q2), .second, .val (.long q3), .second, .val (.long q4), .second, .val (.long q5), .second, .val (.long (fmax (1 : Int64) (q1 &&& (9223372036854775807 : Int64)))), .second, .unset, .unset, .unset, .unset, .unset, .unset, .unset, .unset, .unset, .unset, .unset, .unset, .unset, .unset, .unset, .unset, .unset, .unset, .unset, .unset, .unset, .unset, .unset, .unset, .unset, .unset, .unset] [(.long (q2 &&& (9223372036854775807 : Int64)))])) _
    refine XT.lstore X1.here hx rfl (hb hby at_16) rfl (l' := #[.val (.long q1), .second, .val (.long q2), .second, .val (.long q3), .second, .val (.long q4), .second, .val (.long q5), .second, .val (.long (fmax (1 : Int64) (q1 &&& (9223372036854775807 : Int64)))), .second, .val (.long (q2 &&& (9223372036854775807 : Int64))), .second, .unset, .unset, .unset, .unset, .unset, .unset, .unset, .unset, .unset, .unset, .unset, .unset, .unset, .unset, .unset, .unset, .unset, .unset, .unset, .unset, .unset, .unset, .unset, .unset, .unset]) rfl ?_
    show Steps p.tables e below (T1.setTop (mkF m 18 #[.val (.long q1), .second, .val (.long q2), .second, .val (.long q3), .second, .val (.long q4), .second, .val (.long q5), .second, .val (.long (fmax (1 : Int64) (q1 &&& (9223372036854775807 : Int64)))), .second, .val (.long (q2 &&& (9223372036854775807 : Int64))), .second, .unset, .unset, .unset, .unset, .unset, .unset, .unset, .unset, .unset, .unset, .unset, .unset, .unset, .unset, .unset, .unset, .unset, .unset, .unset, .unset, .unset, .unset, .unset, .unset, .unset] [])) _
    refine XT.lload X1.here hx rfl (hb hby at_18) rfl ?_
    show Steps p.tables e below (T1.setTop (mkF m 20 #[.val (.long q1), .second, .val (.long q2), .second, .val (.long q3), .second, .val (.long q4), .second, .val (.long q5), .second, .val (.long (fmax (1 : Int64) (q1 &&& (9223372036854775807 : Int64)))), .second, .val (.long (q2 &&& (9223372036854775807 : Int64))), .second, .unset, .unset, .unset, .unset, .unset, .unset, .unset, .unset, .unset, .unset, .unset, .unset, .unset, .unset, .unset, .unset, .unset, .unset, .unset, .unset, .unset, .unset, .unset, .unset, .unset] [(.long q3)])) _
    refine X1.ldc2Long hx hown (mvT hZ (hw _ (List.mem_of_getElem? (i := 0) rfl))) (g := (mkF m 20 #[.val (.long q1), .second, .val (.long q2), .second, .val (.long q3), .second, .val (.long q4), .second, .val (.long q5), .second, .val (.long (fmax (1 : Int64) (q1 &&& (9223372036854775807 : Int64)))), .second, .val (.long (q2 &&& (9223372036854775807 : Int64))), .second, .unset, .unset, .unset, .unset, .unset, .unset, .unset, .unset, .unset, .unset, .unset, .unset, .unset, .unset, .unset, .unset, .unset, .unset, .unset, .unset, .unset, .unset, .unset, .unset, .unset] [(.long q3)])) rfl (hb hby at_20) _ ?_
    show Steps p.tables e below (T1.setTop (mkF m 23 #[.val (.long q1), .second, .val (.long q2), .second, .val (.long q3), .second, .val (.long q4), .second, .val (.long q5), .second, .val (.long (fmax (1 : Int64) (q1 &&& (9223372036854775807 : Int64)))), .second, .val (.long (q2 &&& (9223372036854775807 : Int64))), .second, .unset, .unset, .unset, .unset, .unset, .unset, .unset, .unset, .unset, .unset, .unset, .unset, .unset, .unset, .unset, .unset, .unset, .unset, .unset, .unset, .unset, .unset, .unset, .unset, .unset] [(.long (9223372036854775807 : Int64)), (.long q3)])) _
    refine XT.land X1.here hx rfl (hb hby at_23) rfl ?_
    show Steps p.tables e below (T1.setTop (mkF m 24 #[.val (.long q1), .second, .val (.long q2), .second, .val (.long q3), .second, .val (.long q4), .second, .val (.long q5), .second, .val (.long (fmax (1 : Int64) (q1 &&& (9223372036854775807 : Int64)))), .second, .val (.long (q2 &&& (9223372036854775807 : Int64))), .second, .unset, .unset, .unset, .unset, .unset, .unset, .unset, .unset, .unset, .unset, .unset, .unset, .unset, .unset, .unset, .unset, .unset, .unset, .unset, .unset, .unset, .unset, .unset, .unset, .unset] [(.long (q3 &&& (9223372036854775807 : Int64)))])) _
    refine XT.lstore X1.here hx rfl (hb hby at_24) rfl (l' := #[.val (.long q1), .second, .val (.long q2), .second, .val (.long q3), .second, .val (.long q4), .second, .val (.long q5), .second, .val (.long (fmax (1 : Int64) (q1 &&& (9223372036854775807 : Int64)))), .second, .val (.long (q2 &&& (9223372036854775807 : Int64))), .second, .val (.long (q3 &&& (9223372036854775807 : Int64))), .second, .unset, .unset, .unset, .unset, .unset, .unset, .unset, .unset, .unset, .unset, .unset, .unset, .unset, .unset, .unset, .unset, .unset, .unset, .unset, .unset, .unset, .unset, .unset]) rfl ?_
    show Steps p.tables e below (T1.setTop (mkF m 26 #[.val (.long q1), .second, .val (.long q2), .second, .val (.long q3), .second, .val (.long q4), .second, .val (.long q5), .second, .val (.long (fmax (1 : Int64) (q1 &&& (9223372036854775807 : Int64)))), .second, .val (.long (q2 &&& (9223372036854775807 : Int64))), .second, .val (.long (q3 &&& (9223372036854775807 : Int64))), .second, .unset, .unset, .unset, .unset, .unset, .unset, .unset, .unset, .unset, .unset, .unset, .unset, .unset, .unset, .unset, .unset, .unset, .unset, .unset, .unset, .unset, .unset, .unset] [])) _
    refine XT.lload X1.here hx rfl (hb hby at_26) rfl ?_
    show Steps p.tables e below (T1.setTop (mkF m 28 #[.val (.long q1), .second, .val (.long q2), .second, .val (.long q3), .second, .val (.long q4), .second, .val (.long q5), .second, .val (.long (fmax (1 : Int64) (q1 &&& (9223372036854775807 : Int64)))), .second, .val (.long (q2 &&& (9223372036854775807 : Int64))), .second, .val (.long (q3 &&& (9223372036854775807 : Int64))), .second, .unset, .unset, .unset, .unset, .unset, .unset, .unset, .unset, .unset, .unset, .unset, .unset, .unset, .unset, .unset, .unset, .unset, .unset, .unset, .unset, .unset, .unset, .unset] [(.long q4)])) _
    refine X1.ldc2Long hx hown (mvT hZ (hw _ (List.mem_of_getElem? (i := 5) rfl))) (g := (mkF m 28 #[.val (.long q1), .second, .val (.long q2), .second, .val (.long q3), .second, .val (.long q4), .second, .val (.long q5), .second, .val (.long (fmax (1 : Int64) (q1 &&& (9223372036854775807 : Int64)))), .second, .val (.long (q2 &&& (9223372036854775807 : Int64))), .second, .val (.long (q3 &&& (9223372036854775807 : Int64))), .second, .unset, .unset, .unset, .unset, .unset, .unset, .unset, .unset, .unset, .unset, .unset, .unset, .unset, .unset, .unset, .unset, .unset, .unset, .unset, .unset, .unset, .unset, .unset] [(.long q4)])) rfl (hb hby at_28) _ ?_
    show Steps p.tables e below (T1.setTop (mkF m 31 #[.val (.long q1), .second, .val (.long q2), .second, .val (.long q3), .second, .val (.long q4), .second, .val (.long q5), .second, .val (.long (fmax (1 : Int64) (q1 &&& (9223372036854775807 : Int64)))), .second, .val (.long (q2 &&& (9223372036854775807 : Int64))), .second, .val (.long (q3 &&& (9223372036854775807 : Int64))), .second, .unset, .unset, .unset, .unset, .unset, .unset, .unset, .unset, .unset, .unset, .unset, .unset, .unset, .unset, .unset, .unset, .unset, .unset, .unset, .unset, .unset, .unset, .unset] [(.long (1048575 : Int64)), (.long q4)])) _
    refine XT.land X1.here hx rfl (hb hby at_31) rfl ?_
    show Steps p.tables e below (T1.setTop (mkF m 32 #[.val (.long q1), .second, .val (.long q2), .second, .val (.long q3), .second, .val (.long q4), .second, .val (.long q5), .second, .val (.long (fmax (1 : Int64) (q1 &&& (9223372036854775807 : Int64)))), .second, .val (.long (q2 &&& (9223372036854775807 : Int64))), .second, .val (.long (q3 &&& (9223372036854775807 : Int64))), .second, .unset, .unset, .unset, .unset, .unset, .unset, .unset, .unset, .unset, .unset, .unset, .unset, .unset, .unset, .unset, .unset, .unset, .unset, .unset, .unset, .unset, .unset, .unset] [(.long (q4 &&& (1048575 : Int64)))])) _
    refine XT.lconst X1.here hx rfl (hb hby at_32) ?_
    show Steps p.tables e below (T1.setTop (mkF m 33 #[.val (.long q1), .second, .val (.long q2), .second, .val (.long q3), .second, .val (.long q4), .second, .val (.long q5), .second, .val (.long (fmax (1 : Int64) (q1 &&& (9223372036854775807 : Int64)))), .second, .val (.long (q2 &&& (9223372036854775807 : Int64))), .second, .val (.long (q3 &&& (9223372036854775807 : Int64))), .second, .unset, .unset, .unset, .unset, .unset, .unset, .unset, .unset, .unset, .unset, .unset, .unset, .unset, .unset, .unset, .unset, .unset, .unset, .unset, .unset, .unset, .unset, .unset] [(.long (1 : Int64)), (.long (q4 &&& (1048575 : Int64)))])) _
    refine XT.ladd X1.here hx rfl (hb hby at_33) rfl ?_
    show Steps p.tables e below (T1.setTop (mkF m 34 #[.val (.long q1), .second, .val (.long q2), .second, .val (.long q3), .second, .val (.long q4), .second, .val (.long q5), .second, .val (.long (fmax (1 : Int64) (q1 &&& (9223372036854775807 : Int64)))), .second, .val (.long (q2 &&& (9223372036854775807 : Int64))), .second, .val (.long (q3 &&& (9223372036854775807 : Int64))), .second, .unset, .unset, .unset, .unset, .unset, .unset, .unset, .unset, .unset, .unset, .unset, .unset, .unset, .unset, .unset, .unset, .unset, .unset, .unset, .unset, .unset, .unset, .unset] [(.long ((q4 &&& (1048575 : Int64)) + (1 : Int64)))])) _
    refine XT.lstore X1.here hx rfl (hb hby at_34) rfl (l' := #[.val (.long q1), .second, .val (.long q2), .second, .val (.long q3), .second, .val (.long q4), .second, .val (.long q5), .second, .val (.long (fmax (1 : Int64) (q1 &&& (9223372036854775807 : Int64)))), .second, .val (.long (q2 &&& (9223372036854775807 : Int64))), .second, .val (.long (q3 &&& (9223372036854775807 : Int64))), .second, .val (.long ((q4 &&& (1048575 : Int64)) + (1 : Int64))), .second, .unset, .unset, .unset, .unset, .unset, .unset, .unset, .unset, .unset, .unset, .unset, .unset, .unset, .unset, .unset, .unset, .unset, .unset, .unset, .unset, .unset]) rfl ?_
    show Steps p.tables e below (T1.setTop (mkF m 36 #[.val (.long q1), .second, .val (.long q2), .second, .val (.long q3), .second, .val (.long q4), .second, .val (.long q5), .second, .val (.long (fmax (1 : Int64) (q1 &&& (9223372036854775807 : Int64)))), .second, .val (.long (q2 &&& (9223372036854775807 : Int64))), .second, .val (.long (q3 &&& (9223372036854775807 : Int64))), .second, .val (.long ((q4 &&& (1048575 : Int64)) + (1 : Int64))), .second, .unset, .unset, .unset, .unset, .unset, .unset, .unset, .unset, .unset, .unset, .unset, .unset, .unset, .unset, .unset, .unset, .unset, .unset, .unset, .unset, .unset] [])) _
    refine XT.lload X1.here hx rfl (hb hby at_36) rfl ?_
    show Steps p.tables e below (T1.setTop (mkF m 38 #[.val (.long q1), .second, .val (.long q2), .second, .val (.long q3), .second, .val (.long q4), .second, .val (.long q5), .second, .val (.long (fmax (1 : Int64) (q1 &&& (9223372036854775807 : Int64)))), .second, .val (.long (q2 &&& (9223372036854775807 : Int64))), .second, .val (.long (q3 &&& (9223372036854775807 : Int64))), .second, .val (.long ((q4 &&& (1048575 : Int64)) + (1 : Int64))), .second, .unset, .unset, .unset, .unset, .unset, .unset, .unset, .unset, .unset, .unset, .unset, .unset, .unset, .unset, .unset, .unset, .unset, .unset, .unset, .unset, .unset] [(.long q4)])) _
    refine XS.bipush X1.here hx rfl (hb hby at_38) ?_
    show Steps p.tables e below (T1.setTop (mkF m 40 #[.val (.long q1), .second, .val (.long q2), .second, .val (.long q3), .second, .val (.long q4), .second, .val (.long q5), .second, .val (.long (fmax (1 : Int64) (q1 &&& (9223372036854775807 : Int64)))), .second, .val (.long (q2 &&& (9223372036854775807 : Int64))), .second, .val (.long (q3 &&& (9223372036854775807 : Int64))), .second, .val (.long ((q4 &&& (1048575 : Int64)) + (1 : Int64))), .second, .unset, .unset, .unset, .unset, .unset, .unset, .unset, .unset, .unset, .unset, .unset, .unset, .unset, .unset, .unset, .unset, .unset, .unset, .unset, .unset, .unset] [(.int (20 : Int32)), (.long q4)])) _
    refine XT.lushr X1.here hx rfl (hb hby at_40) rfl ?_
    show Steps p.tables e below (T1.setTop (mkF m 41 #[.val (.long q1), .second, .val (.long q2), .second, .val (.long q3), .second, .val (.long q4), .second, .val (.long q5), .second, .val (.long (fmax (1 : Int64) (q1 &&& (9223372036854775807 : Int64)))), .second, .val (.long (q2 &&& (9223372036854775807 : Int64))), .second, .val (.long (q3 &&& (9223372036854775807 : Int64))), .second, .val (.long ((q4 &&& (1048575 : Int64)) + (1 : Int64))), .second, .unset, .unset, .unset, .unset, .unset, .unset, .unset, .unset, .unset, .unset, .unset, .unset, .unset, .unset, .unset, .unset, .unset, .unset, .unset, .unset, .unset] [(.long (XT.ushrL q4 (20 : Int32)))])) _
    refine XT.lload X1.here hx rfl (hb hby at_41) rfl ?_
    show Steps p.tables e below (T1.setTop (mkF m 43 #[.val (.long q1), .second, .val (.long q2), .second, .val (.long q3), .second, .val (.long q4), .second, .val (.long q5), .second, .val (.long (fmax (1 : Int64) (q1 &&& (9223372036854775807 : Int64)))), .second, .val (.long (q2 &&& (9223372036854775807 : Int64))), .second, .val (.long (q3 &&& (9223372036854775807 : Int64))), .second, .val (.long ((q4 &&& (1048575 : Int64)) + (1 : Int64))), .second, .unset, .unset, .unset, .unset, .unset, .unset, .unset, .unset, .unset, .unset, .unset, .unset, .unset, .unset, .unset, .unset, .unset, .unset, .unset, .unset, .unset] [(.long ((q4 &&& (1048575 : Int64)) + (1 : Int64))), (.long (XT.ushrL q4 (20 : Int32)))])) _
    refine XT.lrem X1.here hx rfl (hb hby at_43) rfl (own_sz _) ?_
    show Steps p.tables e below (T1.setTop (mkF m 44 #[.val (.long q1), .second, .val (.long q2), .second, .val (.long q3), .second, .val (.long q4), .second, .val (.long q5), .second, .val (.long (fmax (1 : Int64) (q1 &&& (9223372036854775807 : Int64)))), .second, .val (.long (q2 &&& (9223372036854775807 : Int64))), .second, .val (.long (q3 &&& (9223372036854775807 : Int64))), .second, .val (.long ((q4 &&& (1048575 : Int64)) + (1 : Int64))), .second, .unset, .unset, .unset, .unset, .unset, .unset, .unset, .unset, .unset, .unset, .unset, .unset, .unset, .unset, .unset, .unset, .unset, .unset, .unset, .unset, .unset] [(.long (f0_0 q1 q2 q3 q4 q5))])) _
    refine XT.lstore X1.here hx rfl (hb hby at_44) rfl (l' := #[.val (.long q1), .second, .val (.long q2), .second, .val (.long q3), .second, .val (.long q4), .second, .val (.long q5), .second, .val (.long (fmax (1 : Int64) (q1 &&& (9223372036854775807 : Int64)))), .second, .val (.long (q2 &&& (9223372036854775807 : Int64))), .second, .val (.long (q3 &&& (9223372036854775807 : Int64))), .second, .val (.long ((q4 &&& (1048575 : Int64)) + (1 : Int64))), .second, .val (.long (f0_0 q1 q2 q3 q4 q5)), .second, .unset, .unset, .unset, .unset, .unset, .unset, .unset, .unset, .unset, .unset, .unset, .unset, .unset, .unset, .unset, .unset, .unset, .unset, .unset]) rfl ?_
    show Steps p.tables e below (T1.setTop (mkF m 46 #[.val (.long q1), .second, .val (.long q2), .second, .val (.long q3), .second, .val (.long q4), .second, .val (.long q5), .second, .val (.long (fmax (1 : Int64) (q1 &&& (9223372036854775807 : Int64)))), .second, .val (.long (q2 &&& (9223372036854775807 : Int64))), .second, .val (.long (q3 &&& (9223372036854775807 : Int64))), .second, .val (.long ((q4 &&& (1048575 : Int64)) + (1 : Int64))), .second, .val (.long (f0_0 q1 q2 q3 q4 q5)), .second, .unset, .unset, .unset, .unset, .unset, .unset, .unset, .unset, .unset, .unset, .unset, .unset, .unset, .unset, .unset, .unset, .unset, .unset, .unset] [])) _
    refine XT.lload X1.here hx rfl (hb hby at_46) rfl ?_
    show Steps p.tables e below (T1.setTop (mkF m 48 #[.val (.long q1), .second, .val (.long q2), .second, .val (.long q3), .second, .val (.long q4), .second, .val (.long q5), .second, .val (.long (fmax (1 : Int64) (q1 &&& (9223372036854775807 : Int64)))), .second, .val (.long (q2 &&& (9223372036854775807 : Int64))), .second, .val (.long (q3 &&& (9223372036854775807 : Int64))), .second, .val (.long ((q4 &&& (1048575 : Int64)) + (1 : Int64))), .second, .val (.long (f0_0 q1 q2 q3 q4 q5)), .second, .unset, .unset, .unset, .unset, .unset, .unset, .unset, .unset, .unset, .unset, .unset, .unset, .unset, .unset, .unset, .unset, .unset, .unset, .unset] [(.long q5)])) _
    refine X1.ldc2Long hx hown (mvT hZ (hw _ (List.mem_of_getElem? (i := 6) rfl))) (g := (mkF m 48 #[.val (.long q1), .second, .val (.long q2), .second, .val (.long q3), .second, .val (.long q4), .second, .val (.long q5), .second, .val (.long (fmax (1 : Int64) (q1 &&& (9223372036854775807 : Int64)))), .second, .val (.long (q2 &&& (9223372036854775807 : Int64))), .second, .val (.long (q3 &&& (9223372036854775807 : Int64))), .second, .val (.long ((q4 &&& (1048575 : Int64)) + (1 : Int64))), .second, .val (.long (f0_0 q1 q2 q3 q4 q5)), .second, .unset, .unset, .unset, .unset, .unset, .unset, .unset, .unset, .unset, .unset, .unset, .unset, .unset, .unset, .unset, .unset, .unset, .unset, .unset] [(.long q5)])) rfl (hb hby at_48) _ ?_
    show Steps p.tables e below (T1.setTop (mkF m 51 #[.val (.long q1), .second, .val (.long q2), .second, .val (.long q3), .second, .val (.long q4), .second, .val (.long q5), .second, .val (.long (fmax (1 : Int64) (q1 &&& (9223372036854775807 : Int64)))), .second, .val (.long (q2 &&& (9223372036854775807 : Int64))), .second, .val (.long (q3 &&& (9223372036854775807 : Int64))), .second, .val (.long ((q4 &&& (1048575 : Int64)) + (1 : Int64))), .second, .val (.long (f0_0 q1 q2 q3 q4 q5)), .second, .unset, .unset, .unset, .unset, .unset, .unset, .unset, .unset, .unset, .unset, .unset, .unset, .unset, .unset, .unset, .unset, .unset, .unset, .unset] [(.long (4294967295 : Int64)), (.long q5)])) _
    refine XT.land X1.here hx rfl (hb hby at_51) rfl ?_
    show Steps p.tables e below (T1.setTop (mkF m 52 #[.val (.long q1), .second, .val (.long q2), .second, .val (.long q3), .second, .val (.long q4), .second, .val (.long q5), .second, .val (.long (fmax (1 : Int64) (q1 &&& (9223372036854775807 : Int64)))), .second, .val (.long (q2 &&& (9223372036854775807 : Int64))), .second, .val (.long (q3 &&& (9223372036854775807 : Int64))), .second, .val (.long ((q4 &&& (1048575 : Int64)) + (1 : Int64))), .second, .val (.long (f0_0 q1 q2 q3 q4 q5)), .second, .unset, .unset, .unset, .unset, .unset, .unset, .unset, .unset, .unset, .unset, .unset, .unset, .unset, .unset, .unset, .unset, .unset, .unset, .unset] [(.long (q5 &&& (4294967295 : Int64)))])) _
    refine XT.lstore X1.here hx rfl (hb hby at_52) rfl (l' := #[.val (.long q1), .second, .val (.long q2), .second, .val (.long q3), .second, .val (.long q4), .second, .val (.long q5), .second, .val (.long (fmax (1 : Int64) (q1 &&& (9223372036854775807 : Int64)))), .second, .val (.long (q2 &&& (9223372036854775807 : Int64))), .second, .val (.long (q3 &&& (9223372036854775807 : Int64))), .second, .val (.long ((q4 &&& (1048575 : Int64)) + (1 : Int64))), .second, .val (.long (f0_0 q1 q2 q3 q4 q5)), .second, .val (.long (q5 &&& (4294967295 : Int64))), .second, .unset, .unset, .unset, .unset, .unset, .unset, .unset, .unset, .unset, .unset, .unset, .unset, .unset, .unset, .unset, .unset, .unset]) rfl ?_
    show Steps p.tables e below (T1.setTop (mkF m 54 #[.val (.long q1), .second, .val (.long q2), .second, .val (.long q3), .second, .val (.long q4), .second, .val (.long q5), .second, .val (.long (fmax (1 : Int64) (q1 &&& (9223372036854775807 : Int64)))), .second, .val (.long (q2 &&& (9223372036854775807 : Int64))), .second, .val (.long (q3 &&& (9223372036854775807 : Int64))), .second, .val (.long ((q4 &&& (1048575 : Int64)) + (1 : Int64))), .second, .val (.long (f0_0 q1 q2 q3 q4 q5)), .second, .val (.long (q5 &&& (4294967295 : Int64))), .second, .unset, .unset, .unset, .unset, .unset, .unset, .unset, .unset, .unset, .unset, .unset, .unset, .unset, .unset, .unset, .unset, .unset] [])) _
    refine XT.lload X1.here hx rfl (hb hby at_54) rfl ?_
    show Steps p.tables e below (T1.setTop (mkF m 56 #[.val (.long q1), .second, .val (.long q2), .second, .val (.long q3), .second, .val (.long q4), .second, .val (.long q5), .second, .val (.long (fmax (1 : Int64) (q1 &&& (9223372036854775807 : Int64)))), .second, .val (.long (q2 &&& (9223372036854775807 : Int64))), .second, .val (.long (q3 &&& (9223372036854775807 : Int64))), .second, .val (.long ((q4 &&& (1048575 : Int64)) + (1 : Int64))), .second, .val (.long (f0_0 q1 q2 q3 q4 q5)), .second, .val (.long (q5 &&& (4294967295 : Int64))), .second, .unset, .unset, .unset, .unset, .unset, .unset, .unset, .unset, .unset, .unset, .unset, .unset, .unset, .unset, .unset, .unset, .unset] [(.long (q5 &&& (4294967295 : Int64)))])) _
    refine XT.lload X1.here hx rfl (hb hby at_56) rfl ?_
    show Steps p.tables e below (T1.setTop (mkF m 58 #[.val (.long q1), .second, .val (.long q2), .second, .val (.long q3), .second, .val (.long q4), .second, .val (.long q5), .second, .val (.long (fmax (1 : Int64) (q1 &&& (9223372036854775807 : Int64)))), .second, .val (.long (q2 &&& (9223372036854775807 : Int64))), .second, .val (.long (q3 &&& (9223372036854775807 : Int64))), .second, .val (.long ((q4 &&& (1048575 : Int64)) + (1 : Int64))), .second, .val (.long (f0_0 q1 q2 q3 q4 q5)), .second, .val (.long (q5 &&& (4294967295 : Int64))), .second, .unset, .unset, .unset, .unset, .unset, .unset, .unset, .unset, .unset, .unset, .unset, .unset, .unset, .unset, .unset, .unset, .unset] [(.long ((q4 &&& (1048575 : Int64)) + (1 : Int64))), (.long (q5 &&& (4294967295 : Int64)))])) _
    refine XT.lmul X1.here hx rfl (hb hby at_58) rfl ?_
    show Steps p.tables e below (T1.setTop (mkF m 59 #[.val (.long q1), .second, .val (.long q2), .second, .val (.long q3), .second, .val (.long q4), .second, .val (.long q5), .second, .val (.long (fmax (1 : Int64) (q1 &&& (9223372036854775807 : Int64)))), .second, .val (.long (q2 &&& (9223372036854775807 : Int64))), .second, .val (.long (q3 &&& (9223372036854775807 : Int64))), .second, .val (.long ((q4 &&& (1048575 : Int64)) + (1 : Int64))), .second, .val (.long (f0_0 q1 q2 q3 q4 q5)), .second, .val (.long (q5 &&& (4294967295 : Int64))), .second, .unset, .unset, .unset, .unset, .unset, .unset, .unset, .unset, .unset, .unset, .unset, .unset, .unset, .unset, .unset, .unset, .unset] [(.long (f0_1 q1 q2 q3 q4 q5))])) _
    refine XT.lload X1.here hx rfl (hb hby at_59) rfl ?_
    show Steps p.tables e below (T1.setTop (mkF m 61 #[.val (.long q1), .second, .val (.long q2), .second, .val (.long q3), .second, .val (.long q4), .second, .val (.long q5), .second, .val (.long (fmax (1 : Int64) (q1 &&& (9223372036854775807 : Int64)))), .second, .val (.long (q2 &&& (9223372036854775807 : Int64))), .second, .val (.long (q3 &&& (9223372036854775807 : Int64))), .second, .val (.long ((q4 &&& (1048575 : Int64)) + (1 : Int64))), .second, .val (.long (f0_0 q1 q2 q3 q4 q5)), .second, .val (.long (q5 &&& (4294967295 : Int64))), .second, .unset, .unset, .unset, .unset, .unset, .unset, .unset, .unset, .unset, .unset, .unset, .unset, .unset, .unset, .unset, .unset, .unset] [(.long (f0_0 q1 q2 q3 q4 q5)), (.long (f0_1 q1 q2 q3 q4 q5))])) _
    refine XT.ladd X1.here hx rfl (hb hby at_61) rfl ?_
    show Steps p.tables e below (T1.setTop (mkF m 62 #[.val (.long q1), .second, .val (.long q2), .second, .val (.long q3), .second, .val (.long q4), .second, .val (.long q5), .second, .val (.long (fmax (1 : Int64) (q1 &&& (9223372036854775807 : Int64)))), .second, .val (.long (q2 &&& (9223372036854775807 : Int64))), .second, .val (.long (q3 &&& (9223372036854775807 : Int64))), .second, .val (.long ((q4 &&& (1048575 : Int64)) + (1 : Int64))), .second, .val (.long (f0_0 q1 q2 q3 q4 q5)), .second, .val (.long (q5 &&& (4294967295 : Int64))), .second, .unset, .unset, .unset, .unset, .unset, .unset, .unset, .unset, .unset, .unset, .unset, .unset, .unset, .unset, .unset, .unset, .unset] [(.long ((f0_1 q1 q2 q3 q4 q5) + (f0_0 q1 q2 q3 q4 q5)))])) _
    refine XT.lstore X1.here hx rfl (hb hby at_62) rfl (l' := #[.val (.long q1), .second, .val (.long q2), .second, .val (.long q3), .second, .val (.long q4), .second, .val (.long q5), .second, .val (.long (fmax (1 : Int64) (q1 &&& (9223372036854775807 : Int64)))), .second, .val (.long (q2 &&& (9223372036854775807 : Int64))), .second, .val (.long (q3 &&& (9223372036854775807 : Int64))), .second, .val (.long ((q4 &&& (1048575 : Int64)) + (1 : Int64))), .second, .val (.long (f0_0 q1 q2 q3 q4 q5)), .second, .val (.long (q5 &&& (4294967295 : Int64))), .second, .val (.long ((f0_1 q1 q2 q3 q4 q5) + (f0_0 q1 q2 q3 q4 q5))), .second, .unset, .unset, .unset, .unset, .unset, .unset, .unset, .unset, .unset, .unset, .unset, .unset, .unset, .unset, .unset]) rfl ?_
    show Steps p.tables e below (T1.setTop (mkF m 64 #[.val (.long q1), .second, .val (.long q2), .second, .val (.long q3), .second, .val (.long q4), .second, .val (.long q5), .second, .val (.long (fmax (1 : Int64) (q1 &&& (9223372036854775807 : Int64)))), .second, .val (.long (q2 &&& (9223372036854775807 : Int64))), .second, .val (.long (q3 &&& (9223372036854775807 : Int64))), .second, .val (.long ((q4 &&& (1048575 : Int64)) + (1 : Int64))), .second, .val (.long (f0_0 q1 q2 q3 q4 q5)), .second, .val (.long (q5 &&& (4294967295 : Int64))), .second, .val (.long ((f0_1 q1 q2 q3 q4 q5) + (f0_0 q1 q2 q3 q4 q5))), .second, .unset, .unset, .unset, .unset, .unset, .unset, .unset, .unset, .unset, .unset, .unset, .unset, .unset, .unset, .unset] [])) _
    refine st2 _ ?_
    show Steps p.tables e below (T2.setTop (mkF m 67 #[.val (.long q1), .second, .val (.long q2), .second, .val (.long q3), .second, .val (.long q4), .second, .val (.long q5), .second, .val (.long (fmax (1 : Int64) (q1 &&& (9223372036854775807 : Int64)))), .second, .val (.long (q2 &&& (9223372036854775807 : Int64))), .second, .val (.long (q3 &&& (9223372036854775807 : Int64))), .second, .val (.long ((q4 &&& (1048575 : Int64)) + (1 : Int64))), .second, .val (.long (f0_0 q1 q2 q3 q4 q5)), .second, .val (.long (q5 &&& (4294967295 : Int64))), .second, .val (.long ((f0_1 q1 q2 q3 q4 q5) + (f0_0 q1 q2 q3 q4 q5))), .second, .unset, .unset, .unset, .unset, .unset, .unset, .unset, .unset, .unset, .unset, .unset, .unset, .unset, .unset, .unset] [(.ref o2)])) _
    refine XS.dup X2.here hx rfl (hb hby at_67) rfl rfl ?_
    show Steps p.tables e below (T2.setTop (mkF m 68 #[.val (.long q1), .second, .val (.long q2), .second, .val (.long q3), .second, .val (.long q4), .second, .val (.long q5), .second, .val (.long (fmax (1 : Int64) (q1 &&& (9223372036854775807 : Int64)))), .second, .val (.long (q2 &&& (9223372036854775807 : Int64))), .second, .val (.long (q3 &&& (9223372036854775807 : Int64))), .second, .val (.long ((q4 &&& (1048575 : Int64)) + (1 : Int64))), .second, .val (.long (f0_0 q1 q2 q3 q4 q5)), .second, .val (.long (q5 &&& (4294967295 : Int64))), .second, .val (.long ((f0_1 q1 q2 q3 q4 q5) + (f0_0 q1 q2 q3 q4 q5))), .second, .unset, .unset, .unset, .unset, .unset, .unset, .unset, .unset, .unset, .unset, .unset, .unset, .unset, .unset, .unset] [(.ref o2), (.ref o2)])) _
    refine XT.lload X2.here hx rfl (hb hby at_68) rfl ?_
    show Steps p.tables e below (T2.setTop (mkF m 70 #[.val (.long q1), .second, .val (.long q2), .second, .val (.long q3), .second, .val (.long q4), .second, .val (.long q5), .second, .val (.long (fmax (1 : Int64) (q1 &&& (9223372036854775807 : Int64)))), .second, .val (.long (q2 &&& (9223372036854775807 : Int64))), .second, .val (.long (q3 &&& (9223372036854775807 : Int64))), .second, .val (.long ((q4 &&& (1048575 : Int64)) + (1 : Int64))), .second, .val (.long (f0_0 q1 q2 q3 q4 q5)), .second, .val (.long (q5 &&& (4294967295 : Int64))), .second, .val (.long ((f0_1 q1 q2 q3 q4 q5) + (f0_0 q1 q2 q3 q4 q5))), .second, .unset, .unset, .unset, .unset, .unset, .unset, .unset, .unset, .unset, .unset, .unset, .unset, .unset, .unset, .unset] [(.long (fmax (1 : Int64) (q1 &&& (9223372036854775807 : Int64)))), (.ref o2), (.ref o2)])) _
    refine XT.lload X2.here hx rfl (hb hby at_70) rfl ?_
    show Steps p.tables e below (T2.setTop (mkF m 72 #[.val (.long q1), .second, .val (.long q2), .second, .val (.long q3), .second, .val (.long q4), .second, .val (.long q5), .second, .val (.long (fmax (1 : Int64) (q1 &&& (9223372036854775807 : Int64)))), .second, .val (.long (q2 &&& (9223372036854775807 : Int64))), .second, .val (.long (q3 &&& (9223372036854775807 : Int64))), .second, .val (.long ((q4 &&& (1048575 : Int64)) + (1 : Int64))), .second, .val (.long (f0_0 q1 q2 q3 q4 q5)), .second, .val (.long (q5 &&& (4294967295 : Int64))), .second, .val (.long ((f0_1 q1 q2 q3 q4 q5) + (f0_0 q1 q2 q3 q4 q5))), .second, .unset, .unset, .unset, .unset, .unset, .unset, .unset, .unset, .unset, .unset, .unset, .unset, .unset, .unset, .unset] [(.long (q2 &&& (9223372036854775807 : Int64))), (.long (fmax (1 : Int64) (q1 &&& (9223372036854775807 : Int64)))), (.ref o2), (.ref o2)])) _
    refine XS.iconst X2.here hx rfl (hb hby at_72) ?_
    show Steps p.tables e below (T2.setTop (mkF m 73 #[.val (.long q1), .second, .val (.long q2), .second, .val (.long q3), .second, .val (.long q4), .second, .val (.long q5), .second, .val (.long (fmax (1 : Int64) (q1 &&& (9223372036854775807 : Int64)))), .second, .val (.long (q2 &&& (9223372036854775807 : Int64))), .second, .val (.long (q3 &&& (9223372036854775807 : Int64))), .second, .val (.long ((q4 &&& (1048575 : Int64)) + (1 : Int64))), .second, .val (.long (f0_0 q1 q2 q3 q4 q5)), .second, .val (.long (q5 &&& (4294967295 : Int64))), .second, .val (.long ((f0_1 q1 q2 q3 q4 q5) + (f0_0 q1 q2 q3 q4 q5))), .second, .unset, .unset, .unset, .unset, .unset, .unset, .unset, .unset, .unset, .unset, .unset, .unset, .unset, .unset, .unset] [(.int (0 : Int32)), (.long (q2 &&& (9223372036854775807 : Int64))), (.long (fmax (1 : Int64) (q1 &&& (9223372036854775807 : Int64)))), (.ref o2), (.ref o2)])) _
    refine st3 _ ?_
    show Steps p.tables e below (T3.setTop (mkF m 75 #[.val (.long q1), .second, .val (.long q2), .second, .val (.long q3), .second, .val (.long q4), .second, .val (.long q5), .second, .val (.long (fmax (1 : Int64) (q1 &&& (9223372036854775807 : Int64)))), .second, .val (.long (q2 &&& (9223372036854775807 : Int64))), .second, .val (.long (q3 &&& (9223372036854775807 : Int64))), .second, .val (.long ((q4 &&& (1048575 : Int64)) + (1 : Int64))), .second, .val (.long (f0_0 q1 q2 q3 q4 q5)), .second, .val (.long (q5 &&& (4294967295 : Int64))), .second, .val (.long ((f0_1 q1 q2 q3 q4 q5) + (f0_0 q1 q2 q3 q4 q5))), .second, .unset, .unset, .unset, .unset, .unset, .unset, .unset, .unset, .unset, .unset, .unset, .unset, .unset, .unset, .unset] [(.ref o3), (.long (q2 &&& (9223372036854775807 : Int64))), (.long (fmax (1 : Int64) (q1 &&& (9223372036854775807 : Int64)))), (.ref o2), (.ref o2)])) _
    refine st4.trans ?_
    show Steps p.tables e below (T4.setTop (mkF m 78 #[.val (.long q1), .second, .val (.long q2), .second, .val (.long q3), .second, .val (.long q4), .second, .val (.long q5), .second, .val (.long (fmax (1 : Int64) (q1 &&& (9223372036854775807 : Int64)))), .second, .val (.long (q2 &&& (9223372036854775807 : Int64))), .second, .val (.long (q3 &&& (9223372036854775807 : Int64))), .second, .val (.long ((q4 &&& (1048575 : Int64)) + (1 : Int64))), .second, .val (.long (f0_0 q1 q2 q3 q4 q5)), .second, .val (.long (q5 &&& (4294967295 : Int64))), .second, .val (.long ((f0_1 q1 q2 q3 q4 q5) + (f0_0 q1 q2 q3 q4 q5))), .second, .unset, .unset, .unset, .unset, .unset, .unset, .unset, .unset, .unset, .unset, .unset, .unset, .unset, .unset, .unset] [(.ref o2)])) _
    refine XS.astore X4.here hx rfl (hb hby at_78) rfl rfl (l' := #[.val (.long q1), .second, .val (.long q2), .second, .val (.long q3), .second, .val (.long q4), .second, .val (.long q5), .second, .val (.long (fmax (1 : Int64) (q1 &&& (9223372036854775807 : Int64)))), .second, .val (.long (q2 &&& (9223372036854775807 : Int64))), .second, .val (.long (q3 &&& (9223372036854775807 : Int64))), .second, .val (.long ((q4 &&& (1048575 : Int64)) + (1 : Int64))), .second, .val (.long (f0_0 q1 q2 q3 q4 q5)), .second, .val (.long (q5 &&& (4294967295 : Int64))), .second, .val (.long ((f0_1 q1 q2 q3 q4 q5) + (f0_0 q1 q2 q3 q4 q5))), .second, .val (.ref o2), .unset, .unset, .unset, .unset, .unset, .unset, .unset, .unset, .unset, .unset, .unset, .unset, .unset, .unset]) rfl ?_
    show Steps p.tables e below (T4.setTop (mkF m 80 #[.val (.long q1), .second, .val (.long q2), .second, .val (.long q3), .second, .val (.long q4), .second, .val (.long q5), .second, .val (.long (fmax (1 : Int64) (q1 &&& (9223372036854775807 : Int64)))), .second, .val (.long (q2 &&& (9223372036854775807 : Int64))), .second, .val (.long (q3 &&& (9223372036854775807 : Int64))), .second, .val (.long ((q4 &&& (1048575 : Int64)) + (1 : Int64))), .second, .val (.long (f0_0 q1 q2 q3 q4 q5)), .second, .val (.long (q5 &&& (4294967295 : Int64))), .second, .val (.long ((f0_1 q1 q2 q3 q4 q5) + (f0_0 q1 q2 q3 q4 q5))), .second, .val (.ref o2), .unset, .unset, .unset, .unset, .unset, .unset, .unset, .unset, .unset, .unset, .unset, .unset, .unset, .unset] [])) _
    refine st5 _ ?_
    show Steps p.tables e below (T5.setTop (mkF m 83 #[.val (.long q1), .second, .val (.long q2), .second, .val (.long q3), .second, .val (.long q4), .second, .val (.long q5), .second, .val (.long (fmax (1 : Int64) (q1 &&& (9223372036854775807 : Int64)))), .second, .val (.long (q2 &&& (9223372036854775807 : Int64))), .second, .val (.long (q3 &&& (9223372036854775807 : Int64))), .second, .val (.long ((q4 &&& (1048575 : Int64)) + (1 : Int64))), .second, .val (.long (f0_0 q1 q2 q3 q4 q5)), .second, .val (.long (q5 &&& (4294967295 : Int64))), .second, .val (.long ((f0_1 q1 q2 q3 q4 q5) + (f0_0 q1 q2 q3 q4 q5))), .second, .val (.ref o2), .unset, .unset, .unset, .unset, .unset, .unset, .unset, .unset, .unset, .unset, .unset, .unset, .unset, .unset] [(.ref o5)])) _
    refine XS.dup X5.here hx rfl (hb hby at_83) rfl rfl ?_
    show Steps p.tables e below (T5.setTop (mkF m 84 #[.val (.long q1), .second, .val (.long q2), .second, .val (.long q3), .second, .val (.long q4), .second, .val (.long q5), .second, .val (.long (fmax (1 : Int64) (q1 &&& (9223372036854775807 : Int64)))), .second, .val (.long (q2 &&& (9223372036854775807 : Int64))), .second, .val (.long (q3 &&& (9223372036854775807 : Int64))), .second, .val (.long ((q4 &&& (1048575 : Int64)) + (1 : Int64))), .second, .val (.long (f0_0 q1 q2 q3 q4 q5)), .second, .val (.long (q5 &&& (4294967295 : Int64))), .second, .val (.long ((f0_1 q1 q2 q3 q4 q5) + (f0_0 q1 q2 q3 q4 q5))), .second, .val (.ref o2), .unset, .unset, .unset, .unset, .unset, .unset, .unset, .unset, .unset, .unset, .unset, .unset, .unset, .unset] [(.ref o5), (.ref o5)])) _
    refine XT.lload X5.here hx rfl (hb hby at_84) rfl ?_
    show Steps p.tables e below (T5.setTop (mkF m 86 #[.val (.long q1), .second, .val (.long q2), .second, .val (.long q3), .second, .val (.long q4), .second, .val (.long q5), .second, .val (.long (fmax (1 : Int64) (q1 &&& (9223372036854775807 : Int64)))), .second, .val (.long (q2 &&& (9223372036854775807 : Int64))), .second, .val (.long (q3 &&& (9223372036854775807 : Int64))), .second, .val (.long ((q4 &&& (1048575 : Int64)) + (1 : Int64))), .second, .val (.long (f0_0 q1 q2 q3 q4 q5)), .second, .val (.long (q5 &&& (4294967295 : Int64))), .second, .val (.long ((f0_1 q1 q2 q3 q4 q5) + (f0_0 q1 q2 q3 q4 q5))), .second, .val (.ref o2), .unset, .unset, .unset, .unset, .unset, .unset, .unset, .unset, .unset, .unset, .unset, .unset, .unset, .unset] [(.long (fmax (1 : Int64) (q1 &&& (9223372036854775807 : Int64)))), (.ref o5), (.ref o5)])) _
    refine XT.lload X5.here hx rfl (hb hby at_86) rfl ?_
    show Steps p.tables e below (T5.setTop (mkF m 88 #[.val (.long q1), .second, .val (.long q2), .second, .val (.long q3), .second, .val (.long q4), .second, .val (.long q5), .second, .val (.long (fmax (1 : Int64) (q1 &&& (9223372036854775807 : Int64)))), .second, .val (.long (q2 &&& (9223372036854775807 : Int64))), .second, .val (.long (q3 &&& (9223372036854775807 : Int64))), .second, .val (.long ((q4 &&& (1048575 : Int64)) + (1 : Int64))), .second, .val (.long (f0_0 q1 q2 q3 q4 q5)), .second, .val (.long (q5 &&& (4294967295 : Int64))), .second, .val (.long ((f0_1 q1 q2 q3 q4 q5) + (f0_0 q1 q2 q3 q4 q5))), .second, .val (.ref o2), .unset, .unset, .unset, .unset, .unset, .unset, .unset, .unset, .unset, .unset, .unset, .unset, .unset, .unset] [(.long (q3 &&& (9223372036854775807 : Int64))), (.long (fmax (1 : Int64) (q1 &&& (9223372036854775807 : Int64)))), (.ref o5), (.ref o5)])) _
    refine XS.iconst X5.here hx rfl (hb hby at_88) ?_
    show Steps p.tables e below (T5.setTop (mkF m 89 #[.val (.long q1), .second, .val (.long q2), .second, .val (.long q3), .second, .val (.long q4), .second, .val (.long q5), .second, .val (.long (fmax (1 : Int64) (q1 &&& (9223372036854775807 : Int64)))), .second, .val (.long (q2 &&& (9223372036854775807 : Int64))), .second, .val (.long (q3 &&& (9223372036854775807 : Int64))), .second, .val (.long ((q4 &&& (1048575 : Int64)) + (1 : Int64))), .second, .val (.long (f0_0 q1 q2 q3 q4 q5)), .second, .val (.long (q5 &&& (4294967295 : Int64))), .second, .val (.long ((f0_1 q1 q2 q3 q4 q5) + (f0_0 q1 q2 q3 q4 q5))), .second, .val (.ref o2), .unset, .unset, .unset, .unset, .unset, .unset, .unset, .unset, .unset, .unset, .unset, .unset, .unset, .unset] [(.int (0 : Int32)), (.long (q3 &&& (9223372036854775807 : Int64))), (.long (fmax (1 : Int64) (q1 &&& (9223372036854775807 : Int64)))), (.ref o5), (.ref o5)])) _
    refine st6 _ ?_
    show Steps p.tables e below (T6.setTop (mkF m 91 #[.val (.long q1), .second, .val (.long q2), .second, .val (.long q3), .second, .val (.long q4), .second, .val (.long q5), .second, .val (.long (fmax (1 : Int64) (q1 &&& (9223372036854775807 : Int64)))), .second, .val (.long (q2 &&& (9223372036854775807 : Int64))), .second, .val (.long (q3 &&& (9223372036854775807 : Int64))), .second, .val (.long ((q4 &&& (1048575 : Int64)) + (1 : Int64))), .second, .val (.long (f0_0 q1 q2 q3 q4 q5)), .second, .val (.long (q5 &&& (4294967295 : Int64))), .second, .val (.long ((f0_1 q1 q2 q3 q4 q5) + (f0_0 q1 q2 q3 q4 q5))), .second, .val (.ref o2), .unset, .unset, .unset, .unset, .unset, .unset, .unset, .unset, .unset, .unset, .unset, .unset, .unset, .unset] [(.ref o6), (.long (q3 &&& (9223372036854775807 : Int64))), (.long (fmax (1 : Int64) (q1 &&& (9223372036854775807 : Int64)))), (.ref o5), (.ref o5)])) _
    refine st7.trans ?_
    show Steps p.tables e below (T7.setTop (mkF m 94 #[.val (.long q1), .second, .val (.long q2), .second, .val (.long q3), .second, .val (.long q4), .second, .val (.long q5), .second, .val (.long (fmax (1 : Int64) (q1 &&& (9223372036854775807 : Int64)))), .second, .val (.long (q2 &&& (9223372036854775807 : Int64))), .second, .val (.long (q3 &&& (9223372036854775807 : Int64))), .second, .val (.long ((q4 &&& (1048575 : Int64)) + (1 : Int64))), .second, .val (.long (f0_0 q1 q2 q3 q4 q5)), .second, .val (.long (q5 &&& (4294967295 : Int64))), .second, .val (.long ((f0_1 q1 q2 q3 q4 q5) + (f0_0 q1 q2 q3 q4 q5))), .second, .val (.ref o2), .unset, .unset, .unset, .unset, .unset, .unset, .unset, .unset, .unset, .unset, .unset, .unset, .unset, .unset] [(.ref o5)])) _
    refine XS.astore X7.here hx rfl (hb hby at_94) rfl rfl (l' := #[.val (.long q1), .second, .val (.long q2), .second, .val (.long q3), .second, .val (.long q4), .second, .val (.long q5), .second, .val (.long (fmax (1 : Int64) (q1 &&& (9223372036854775807 : Int64)))), .second, .val (.long (q2 &&& (9223372036854775807 : Int64))), .second, .val (.long (q3 &&& (9223372036854775807 : Int64))), .second, .val (.long ((q4 &&& (1048575 : Int64)) + (1 : Int64))), .second, .val (.long (f0_0 q1 q2 q3 q4 q5)), .second, .val (.long (q5 &&& (4294967295 : Int64))), .second, .val (.long ((f0_1 q1 q2 q3 q4 q5) + (f0_0 q1 q2 q3 q4 q5))), .second, .val (.ref o2), .val (.ref o5), .unset, .unset, .unset, .unset, .unset, .unset, .unset, .unset, .unset, .unset, .unset, .unset, .unset]) rfl ?_
    show Steps p.tables e below (T7.setTop (mkF m 96 #[.val (.long q1), .second, .val (.long q2), .second, .val (.long q3), .second, .val (.long q4), .second, .val (.long q5), .second, .val (.long (fmax (1 : Int64) (q1 &&& (9223372036854775807 : Int64)))), .second, .val (.long (q2 &&& (9223372036854775807 : Int64))), .second, .val (.long (q3 &&& (9223372036854775807 : Int64))), .second, .val (.long ((q4 &&& (1048575 : Int64)) + (1 : Int64))), .second, .val (.long (f0_0 q1 q2 q3 q4 q5)), .second, .val (.long (q5 &&& (4294967295 : Int64))), .second, .val (.long ((f0_1 q1 q2 q3 q4 q5) + (f0_0 q1 q2 q3 q4 q5))), .second, .val (.ref o2), .val (.ref o5), .unset, .unset, .unset, .unset, .unset, .unset, .unset, .unset, .unset, .unset, .unset, .unset, .unset] [])) _
    refine st8 _ ?_
    show Steps p.tables e below (T8.setTop (mkF m 99 #[.val (.long q1), .second, .val (.long q2), .second, .val (.long q3), .second, .val (.long q4), .second, .val (.long q5), .second, .val (.long (fmax (1 : Int64) (q1 &&& (9223372036854775807 : Int64)))), .second, .val (.long (q2 &&& (9223372036854775807 : Int64))), .second, .val (.long (q3 &&& (9223372036854775807 : Int64))), .second, .val (.long ((q4 &&& (1048575 : Int64)) + (1 : Int64))), .second, .val (.long (f0_0 q1 q2 q3 q4 q5)), .second, .val (.long (q5 &&& (4294967295 : Int64))), .second, .val (.long ((f0_1 q1 q2 q3 q4 q5) + (f0_0 q1 q2 q3 q4 q5))), .second, .val (.ref o2), .val (.ref o5), .unset, .unset, .unset, .unset, .unset, .unset, .unset, .unset, .unset, .unset, .unset, .unset, .unset] [(.ref o8)])) _
    refine XS.dup X8.here hx rfl (hb hby at_99) rfl rfl ?_
    show Steps p.tables e below (T8.setTop (mkF m 100 #[.val (.long q1), .second, .val (.long q2), .second, .val (.long q3), .second, .val (.long q4), .second, .val (.long q5), .second, .val (.long (fmax (1 : Int64) (q1 &&& (9223372036854775807 : Int64)))), .second, .val (.long (q2 &&& (9223372036854775807 : Int64))), .second, .val (.long (q3 &&& (9223372036854775807 : Int64))), .second, .val (.long ((q4 &&& (1048575 : Int64)) + (1 : Int64))), .second, .val (.long (f0_0 q1 q2 q3 q4 q5)), .second, .val (.long (q5 &&& (4294967295 : Int64))), .second, .val (.long ((f0_1 q1 q2 q3 q4 q5) + (f0_0 q1 q2 q3 q4 q5))), .second, .val (.ref o2), .val (.ref o5), .unset, .unset, .unset, .unset, .unset, .unset, .unset, .unset, .unset, .unset, .unset, .unset, .unset] [(.ref o8), (.ref o8)])) _
    refine XT.lload X8.here hx rfl (hb hby at_100) rfl ?_
    show Steps p.tables e below (T8.setTop (mkF m 102 #[.val (.long q1), .second, .val (.long q2), .second, .val (.long q3), .second, .val (.long q4), .second, .val (.long q5), .second, .val (.long (fmax (1 : Int64) (q1 &&& (9223372036854775807 : Int64)))), .second, .val (.long (q2 &&& (9223372036854775807 : Int64))), .second, .val (.long (q3 &&& (9223372036854775807 : Int64))), .second, .val (.long ((q4 &&& (1048575 : Int64)) + (1 : Int64))), .second, .val (.long (f0_0 q1 q2 q3 q4 q5)), .second, .val (.long (q5 &&& (4294967295 : Int64))), .second, .val (.long ((f0_1 q1 q2 q3 q4 q5) + (f0_0 q1 q2 q3 q4 q5))), .second, .val (.ref o2), .val (.ref o5), .unset, .unset, .unset, .unset, .unset, .unset, .unset, .unset, .unset, .unset, .unset, .unset, .unset] [(.long ((q4 &&& (1048575 : Int64)) + (1 : Int64))), (.ref o8), (.ref o8)])) _
    refine XT.lload X8.here hx rfl (hb hby at_102) rfl ?_
    show Steps p.tables e below (T8.setTop (mkF m 104 #[.val (.long q1), .second, .val (.long q2), .second, .val (.long q3), .second, .val (.long q4), .second, .val (.long q5), .second, .val (.long (fmax (1 : Int64) (q1 &&& (9223372036854775807 : Int64)))), .second, .val (.long (q2 &&& (9223372036854775807 : Int64))), .second, .val (.long (q3 &&& (9223372036854775807 : Int64))), .second, .val (.long ((q4 &&& (1048575 : Int64)) + (1 : Int64))), .second, .val (.long (f0_0 q1 q2 q3 q4 q5)), .second, .val (.long (q5 &&& (4294967295 : Int64))), .second, .val (.long ((f0_1 q1 q2 q3 q4 q5) + (f0_0 q1 q2 q3 q4 q5))), .second, .val (.ref o2), .val (.ref o5), .unset, .unset, .unset, .unset, .unset, .unset, .unset, .unset, .unset, .unset, .unset, .unset, .unset] [(.long ((f0_1 q1 q2 q3 q4 q5) + (f0_0 q1 q2 q3 q4 q5))), (.long ((q4 &&& (1048575 : Int64)) + (1 : Int64))), (.ref o8), (.ref o8)])) _
    refine XS.iconst X8.here hx rfl (hb hby at_104) ?_
    show Steps p.tables e below (T8.setTop (mkF m 105 #[.val (.long q1), .second, .val (.long q2), .second, .val (.long q3), .second, .val (.long q4), .second, .val (.long q5), .second, .val (.long (fmax (1 : Int64) (q1 &&& (9223372036854775807 : Int64)))), .second, .val (.long (q2 &&& (9223372036854775807 : Int64))), .second, .val (.long (q3 &&& (9223372036854775807 : Int64))), .second, .val (.long ((q4 &&& (1048575 : Int64)) + (1 : Int64))), .second, .val (.long (f0_0 q1 q2 q3 q4 q5)), .second, .val (.long (q5 &&& (4294967295 : Int64))), .second, .val (.long ((f0_1 q1 q2 q3 q4 q5) + (f0_0 q1 q2 q3 q4 q5))), .second, .val (.ref o2), .val (.ref o5), .unset, .unset, .unset, .unset, .unset, .unset, .unset, .unset, .unset, .unset, .unset, .unset, .unset] [(.int (0 : Int32)), (.long ((f0_1 q1 q2 q3 q4 q5) + (f0_0 q1 q2 q3 q4 q5))), (.long ((q4 &&& (1048575 : Int64)) + (1 : Int64))), (.ref o8), (.ref o8)])) _
    refine st9 _ ?_
    show Steps p.tables e below (T9.setTop (mkF m 107 #[.val (.long q1), .second, .val (.long q2), .second, .val (.long q3), .second, .val (.long q4), .second, .val (.long q5), .second, .val (.long (fmax (1 : Int64) (q1 &&& (9223372036854775807 : Int64)))), .second, .val (.long (q2 &&& (9223372036854775807 : Int64))), .second, .val (.long (q3 &&& (9223372036854775807 : Int64))), .second, .val (.long ((q4 &&& (1048575 : Int64)) + (1 : Int64))), .second, .val (.long (f0_0 q1 q2 q3 q4 q5)), .second, .val (.long (q5 &&& (4294967295 : Int64))), .second, .val (.long ((f0_1 q1 q2 q3 q4 q5) + (f0_0 q1 q2 q3 q4 q5))), .second, .val (.ref o2), .val (.ref o5), .unset, .unset, .unset, .unset, .unset, .unset, .unset, .unset, .unset, .unset, .unset, .unset, .unset] [(.ref o9), (.long ((f0_1 q1 q2 q3 q4 q5) + (f0_0 q1 q2 q3 q4 q5))), (.long ((q4 &&& (1048575 : Int64)) + (1 : Int64))), (.ref o8), (.ref o8)])) _
    refine st10.trans ?_
    show Steps p.tables e below (T10.setTop (mkF m 110 #[.val (.long q1), .second, .val (.long q2), .second, .val (.long q3), .second, .val (.long q4), .second, .val (.long q5), .second, .val (.long (fmax (1 : Int64) (q1 &&& (9223372036854775807 : Int64)))), .second, .val (.long (q2 &&& (9223372036854775807 : Int64))), .second, .val (.long (q3 &&& (9223372036854775807 : Int64))), .second, .val (.long ((q4 &&& (1048575 : Int64)) + (1 : Int64))), .second, .val (.long (f0_0 q1 q2 q3 q4 q5)), .second, .val (.long (q5 &&& (4294967295 : Int64))), .second, .val (.long ((f0_1 q1 q2 q3 q4 q5) + (f0_0 q1 q2 q3 q4 q5))), .second, .val (.ref o2), .val (.ref o5), .unset, .unset, .unset, .unset, .unset, .unset, .unset, .unset, .unset, .unset, .unset, .unset, .unset] [(.ref o8)])) _
    refine XS.astore X10.here hx rfl (hb hby at_110) rfl rfl (l' := #[.val (.long q1), .second, .val (.long q2), .second, .val (.long q3), .second, .val (.long q4), .second, .val (.long q5), .second, .val (.long (fmax (1 : Int64) (q1 &&& (9223372036854775807 : Int64)))), .second, .val (.long (q2 &&& (9223372036854775807 : Int64))), .second, .val (.long (q3 &&& (9223372036854775807 : Int64))), .second, .val (.long ((q4 &&& (1048575 : Int64)) + (1 : Int64))), .second, .val (.long (f0_0 q1 q2 q3 q4 q5)), .second, .val (.long (q5 &&& (4294967295 : Int64))), .second, .val (.long ((f0_1 q1 q2 q3 q4 q5) + (f0_0 q1 q2 q3 q4 q5))), .second, .val (.ref o2), .val (.ref o5), .val (.ref o8), .unset, .unset, .unset, .unset, .unset, .unset, .unset, .unset, .unset, .unset, .unset, .unset]) rfl ?_
    show Steps p.tables e below (T10.setTop (mkF m 112 #[.val (.long q1), .second, .val (.long q2), .second, .val (.long q3), .second, .val (.long q4), .second, .val (.long q5), .second, .val (.long (fmax (1 : Int64) (q1 &&& (9223372036854775807 : Int64)))), .second, .val (.long (q2 &&& (9223372036854775807 : Int64))), .second, .val (.long (q3 &&& (9223372036854775807 : Int64))), .second, .val (.long ((q4 &&& (1048575 : Int64)) + (1 : Int64))), .second, .val (.long (f0_0 q1 q2 q3 q4 q5)), .second, .val (.long (q5 &&& (4294967295 : Int64))), .second, .val (.long ((f0_1 q1 q2 q3 q4 q5) + (f0_0 q1 q2 q3 q4 q5))), .second, .val (.ref o2), .val (.ref o5), .val (.ref o8), .unset, .unset, .unset, .unset, .unset, .unset, .unset, .unset, .unset, .unset, .unset, .unset] [])) _
    refine XS.aload X10.here hx rfl (hb hby at_112) rfl rfl ?_
    show Steps p.tables e below (T10.setTop (mkF m 114 #[.val (.long q1), .second, .val (.long q2), .second, .val (.long q3), .second, .val (.long q4), .second, .val (.long q5), .second, .val (.long (fmax (1 : Int64) (q1 &&& (9223372036854775807 : Int64)))), .second, .val (.long (q2 &&& (9223372036854775807 : Int64))), .second, .val (.long (q3 &&& (9223372036854775807 : Int64))), .second, .val (.long ((q4 &&& (1048575 : Int64)) + (1 : Int64))), .second, .val (.long (f0_0 q1 q2 q3 q4 q5)), .second, .val (.long (q5 &&& (4294967295 : Int64))), .second, .val (.long ((f0_1 q1 q2 q3 q4 q5) + (f0_0 q1 q2 q3 q4 q5))), .second, .val (.ref o2), .val (.ref o5), .val (.ref o8), .unset, .unset, .unset, .unset, .unset, .unset, .unset, .unset, .unset, .unset, .unset, .unset] [(.ref o2)])) _
    refine st11.trans ?_
    show Steps p.tables e below (T11.setTop (mkF m 117 #[.val (.long q1), .second, .val (.long q2), .second, .val (.long q3), .second, .val (.long q4), .second, .val (.long q5), .second, .val (.long (fmax (1 : Int64) (q1 &&& (9223372036854775807 : Int64)))), .second, .val (.long (q2 &&& (9223372036854775807 : Int64))), .second, .val (.long (q3 &&& (9223372036854775807 : Int64))), .second, .val (.long ((q4 &&& (1048575 : Int64)) + (1 : Int64))), .second, .val (.long (f0_0 q1 q2 q3 q4 q5)), .second, .val (.long (q5 &&& (4294967295 : Int64))), .second, .val (.long ((f0_1 q1 q2 q3 q4 q5) + (f0_0 q1 q2 q3 q4 q5))), .second, .val (.ref o2), .val (.ref o5), .val (.ref o8), .unset, .unset, .unset, .unset, .unset, .unset, .unset, .unset, .unset, .unset, .unset, .unset] [(.double (f0_2 q1 q2 q3 q4 q5))])) _
    refine XS.dstore X11.here hx rfl (hb hby at_117) rfl (l' := #[.val (.long q1), .second, .val (.long q2), .second, .val (.long q3), .second, .val (.long q4), .second, .val (.long q5), .second, .val (.long (fmax (1 : Int64) (q1 &&& (9223372036854775807 : Int64)))), .second, .val (.long (q2 &&& (9223372036854775807 : Int64))), .second, .val (.long (q3 &&& (9223372036854775807 : Int64))), .second, .val (.long ((q4 &&& (1048575 : Int64)) + (1 : Int64))), .second, .val (.long (f0_0 q1 q2 q3 q4 q5)), .second, .val (.long (q5 &&& (4294967295 : Int64))), .second, .val (.long ((f0_1 q1 q2 q3 q4 q5) + (f0_0 q1 q2 q3 q4 q5))), .second, .val (.ref o2), .val (.ref o5), .val (.ref o8), .val (.double (f0_2 q1 q2 q3 q4 q5)), .second, .unset, .unset, .unset, .unset, .unset, .unset, .unset, .unset, .unset, .unset]) rfl ?_
    show Steps p.tables e below (T11.setTop (mkF m 119 #[.val (.long q1), .second, .val (.long q2), .second, .val (.long q3), .second, .val (.long q4), .second, .val (.long q5), .second, .val (.long (fmax (1 : Int64) (q1 &&& (9223372036854775807 : Int64)))), .second, .val (.long (q2 &&& (9223372036854775807 : Int64))), .second, .val (.long (q3 &&& (9223372036854775807 : Int64))), .second, .val (.long ((q4 &&& (1048575 : Int64)) + (1 : Int64))), .second, .val (.long (f0_0 q1 q2 q3 q4 q5)), .second, .val (.long (q5 &&& (4294967295 : Int64))), .second, .val (.long ((f0_1 q1 q2 q3 q4 q5) + (f0_0 q1 q2 q3 q4 q5))), .second, .val (.ref o2), .val (.ref o5), .val (.ref o8), .val (.double (f0_2 q1 q2 q3 q4 q5)), .second, .unset, .unset, .unset, .unset, .unset, .unset, .unset, .unset, .unset, .unset] [])) _
    refine XS.aload X11.here hx rfl (hb hby at_119) rfl rfl ?_
    show Steps p.tables e below (T11.setTop (mkF m 121 #[.val (.long q1), .second, .val (.long q2), .second, .val (.long q3), .second, .val (.long q4), .second, .val (.long q5), .second, .val (.long (fmax (1 : Int64) (q1 &&& (9223372036854775807 : Int64)))), .second, .val (.long (q2 &&& (9223372036854775807 : Int64))), .second, .val (.long (q3 &&& (9223372036854775807 : Int64))), .second, .val (.long ((q4 &&& (1048575 : Int64)) + (1 : Int64))), .second, .val (.long (f0_0 q1 q2 q3 q4 q5)), .second, .val (.long (q5 &&& (4294967295 : Int64))), .second, .val (.long ((f0_1 q1 q2 q3 q4 q5) + (f0_0 q1 q2 q3 q4 q5))), .second, .val (.ref o2), .val (.ref o5), .val (.ref o8), .val (.double (f0_2 q1 q2 q3 q4 q5)), .second, .unset, .unset, .unset, .unset, .unset, .unset, .unset, .unset, .unset, .unset] [(.ref o5)])) _
    refine st12.trans ?_
    show Steps p.tables e below (T12.setTop (mkF m 124 #[.val (.long q1), .second, .val (.long q2), .second, .val (.long q3), .second, .val (.long q4), .second, .val (.long q5), .second, .val (.long (fmax (1 : Int64) (q1 &&& (9223372036854775807 : Int64)))), .second, .val (.long (q2 &&& (9223372036854775807 : Int64))), .second, .val (.long (q3 &&& (9223372036854775807 : Int64))), .second, .val (.long ((q4 &&& (1048575 : Int64)) + (1 : Int64))), .second, .val (.long (f0_0 q1 q2 q3 q4 q5)), .second, .val (.long (q5 &&& (4294967295 : Int64))), .second, .val (.long ((f0_1 q1 q2 q3 q4 q5) + (f0_0 q1 q2 q3 q4 q5))), .second, .val (.ref o2), .val (.ref o5), .val (.ref o8), .val (.double (f0_2 q1 q2 q3 q4 q5)), .second, .unset, .unset, .unset, .unset, .unset, .unset, .unset, .unset, .unset, .unset] [(.double (f0_3 q1 q2 q3 q4 q5))])) _
    refine XS.dstore X12.here hx rfl (hb hby at_124) rfl (l' := #[.val (.long q1), .second, .val (.long q2), .second, .val (.long q3), .second, .val (.long q4), .second, .val (.long q5), .second, .val (.long (fmax (1 : Int64) (q1 &&& (9223372036854775807 : Int64)))), .second, .val (.long (q2 &&& (9223372036854775807 : Int64))), .second, .val (.long (q3 &&& (9223372036854775807 : Int64))), .second, .val (.long ((q4 &&& (1048575 : Int64)) + (1 : Int64))), .second, .val (.long (f0_0 q1 q2 q3 q4 q5)), .second, .val (.long (q5 &&& (4294967295 : Int64))), .second, .val (.long ((f0_1 q1 q2 q3 q4 q5) + (f0_0 q1 q2 q3 q4 q5))), .second, .val (.ref o2), .val (.ref o5), .val (.ref o8), .val (.double (f0_2 q1 q2 q3 q4 q5)), .second, .val (.double (f0_3 q1 q2 q3 q4 q5)), .second, .unset, .unset, .unset, .unset, .unset, .unset, .unset, .unset]) rfl ?_
    show Steps p.tables e below (T12.setTop (mkF m 126 #[.val (.long q1), .second, .val (.long q2), .second, .val (.long q3), .second, .val (.long q4), .second, .val (.long q5), .second, .val (.long (fmax (1 : Int64) (q1 &&& (9223372036854775807 : Int64)))), .second, .val (.long (q2 &&& (9223372036854775807 : Int64))), .second, .val (.long (q3 &&& (9223372036854775807 : Int64))), .second, .val (.long ((q4 &&& (1048575 : Int64)) + (1 : Int64))), .second, .val (.long (f0_0 q1 q2 q3 q4 q5)), .second, .val (.long (q5 &&& (4294967295 : Int64))), .second, .val (.long ((f0_1 q1 q2 q3 q4 q5) + (f0_0 q1 q2 q3 q4 q5))), .second, .val (.ref o2), .val (.ref o5), .val (.ref o8), .val (.double (f0_2 q1 q2 q3 q4 q5)), .second, .val (.double (f0_3 q1 q2 q3 q4 q5)), .second, .unset, .unset, .unset, .unset, .unset, .unset, .unset, .unset] [])) _
    refine XS.aload X12.here hx rfl (hb hby at_126) rfl rfl ?_
    show Steps p.tables e below (T12.setTop (mkF m 128 #[.val (.long q1), .second, .val (.long q2), .second, .val (.long q3), .second, .val (.long q4), .second, .val (.long q5), .second, .val (.long (fmax (1 : Int64) (q1 &&& (9223372036854775807 : Int64)))), .second, .val (.long (q2 &&& (9223372036854775807 : Int64))), .second, .val (.long (q3 &&& (9223372036854775807 : Int64))), .second, .val (.long ((q4 &&& (1048575 : Int64)) + (1 : Int64))), .second, .val (.long (f0_0 q1 q2 q3 q4 q5)), .second, .val (.long (q5 &&& (4294967295 : Int64))), .second, .val (.long ((f0_1 q1 q2 q3 q4 q5) + (f0_0 q1 q2 q3 q4 q5))), .second, .val (.ref o2), .val (.ref o5), .val (.ref o8), .val (.double (f0_2 q1 q2 q3 q4 q5)), .second, .val (.double (f0_3 q1 q2 q3 q4 q5)), .second, .unset, .unset, .unset, .unset, .unset, .unset, .unset, .unset] [(.ref o8)])) _
    refine st13.trans ?_
    show Steps p.tables e below (T13.setTop (mkF m 131 #[.val (.long q1), .second, .val (.long q2), .second, .val (.long q3), .second, .val (.long q4), .second, .val (.long q5), .second, .val (.long (fmax (1 : Int64) (q1 &&& (9223372036854775807 : Int64)))), .second, .val (.long (q2 &&& (9223372036854775807 : Int64))), .second, .val (.long (q3 &&& (9223372036854775807 : Int64))), .second, .val (.long ((q4 &&& (1048575 : Int64)) + (1 : Int64))), .second, .val (.long (f0_0 q1 q2 q3 q4 q5)), .second, .val (.long (q5 &&& (4294967295 : Int64))), .second, .val (.long ((f0_1 q1 q2 q3 q4 q5) + (f0_0 q1 q2 q3 q4 q5))), .second, .val (.ref o2), .val (.ref o5), .val (.ref o8), .val (.double (f0_2 q1 q2 q3 q4 q5)), .second, .val (.double (f0_3 q1 q2 q3 q4 q5)), .second, .unset, .unset, .unset, .unset, .unset, .unset, .unset, .unset] [(.double (f0_4 q1 q2 q3 q4 q5))])) _
    refine XS.dstore X13.here hx rfl (hb hby at_131) rfl (l' := #[.val (.long q1), .second, .val (.long q2), .second, .val (.long q3), .second, .val (.long q4), .second, .val (.long q5), .second, .val (.long (fmax (1 : Int64) (q1 &&& (9223372036854775807 : Int64)))), .second, .val (.long (q2 &&& (9223372036854775807 : Int64))), .second, .val (.long (q3 &&& (9223372036854775807 : Int64))), .second, .val (.long ((q4 &&& (1048575 : Int64)) + (1 : Int64))), .second, .val (.long (f0_0 q1 q2 q3 q4 q5)), .second, .val (.long (q5 &&& (4294967295 : Int64))), .second, .val (.long ((f0_1 q1 q2 q3 q4 q5) + (f0_0 q1 q2 q3 q4 q5))), .second, .val (.ref o2), .val (.ref o5), .val (.ref o8), .val (.double (f0_2 q1 q2 q3 q4 q5)), .second, .val (.double (f0_3 q1 q2 q3 q4 q5)), .second, .val (.double (f0_4 q1 q2 q3 q4 q5)), .second, .unset, .unset, .unset, .unset, .unset, .unset]) rfl ?_
    show Steps p.tables e below (T13.setTop (mkF m 133 #[.val (.long q1), .second, .val (.long q2), .second, .val (.long q3), .second, .val (.long q4), .second, .val (.long q5), .second, .val (.long (fmax (1 : Int64) (q1 &&& (9223372036854775807 : Int64)))), .second, .val (.long (q2 &&& (9223372036854775807 : Int64))), .second, .val (.long (q3 &&& (9223372036854775807 : Int64))), .second, .val (.long ((q4 &&& (1048575 : Int64)) + (1 : Int64))), .second, .val (.long (f0_0 q1 q2 q3 q4 q5)), .second, .val (.long (q5 &&& (4294967295 : Int64))), .second, .val (.long ((f0_1 q1 q2 q3 q4 q5) + (f0_0 q1 q2 q3 q4 q5))), .second, .val (.ref o2), .val (.ref o5), .val (.ref o8), .val (.double (f0_2 q1 q2 q3 q4 q5)), .second, .val (.double (f0_3 q1 q2 q3 q4 q5)), .second, .val (.double (f0_4 q1 q2 q3 q4 q5)), .second, .unset, .unset, .unset, .unset, .unset, .unset] [])) _
    refine XS.dload X13.here hx rfl (hb hby at_133) rfl ?_
    show Steps p.tables e below (T13.setTop (mkF m 135 #[.val (.long q1), .second, .val (.long q2), .second, .val (.long q3), .second, .val (.long q4), .second, .val (.long q5), .second, .val (.long (fmax (1 : Int64) (q1 &&& (9223372036854775807 : Int64)))), .second, .val (.long (q2 &&& (9223372036854775807 : Int64))), .second, .val (.long (q3 &&& (9223372036854775807 : Int64))), .second, .val (.long ((q4 &&& (1048575 : Int64)) + (1 : Int64))), .second, .val (.long (f0_0 q1 q2 q3 q4 q5)), .second, .val (.long (q5 &&& (4294967295 : Int64))), .second, .val (.long ((f0_1 q1 q2 q3 q4 q5) + (f0_0 q1 q2 q3 q4 q5))), .second, .val (.ref o2), .val (.ref o5), .val (.ref o8), .val (.double (f0_2 q1 q2 q3 q4 q5)), .second, .val (.double (f0_3 q1 q2 q3 q4 q5)), .second, .val (.double (f0_4 q1 q2 q3 q4 q5)), .second, .unset, .unset, .unset, .unset, .unset, .unset] [(.double (f0_2 q1 q2 q3 q4 q5))])) _
    refine XS.dconst0 X13.here hx rfl (hb hby at_135) rfl ?_
    show Steps p.tables e below (T13.setTop (mkF m 136 #[.val (.long q1), .second, .val (.long q2), .second, .val (.long q3), .second, .val (.long q4), .second, .val (.long q5), .second, .val (.long (fmax (1 : Int64) (q1 &&& (9223372036854775807 : Int64)))), .second, .val (.long (q2 &&& (9223372036854775807 : Int64))), .second, .val (.long (q3 &&& (9223372036854775807 : Int64))), .second, .val (.long ((q4 &&& (1048575 : Int64)) + (1 : Int64))), .second, .val (.long (f0_0 q1 q2 q3 q4 q5)), .second, .val (.long (q5 &&& (4294967295 : Int64))), .second, .val (.long ((f0_1 q1 q2 q3 q4 q5) + (f0_0 q1 q2 q3 q4 q5))), .second, .val (.ref o2), .val (.ref o5), .val (.ref o8), .val (.double (f0_2 q1 q2 q3 q4 q5)), .second, .val (.double (f0_3 q1 q2 q3 q4 q5)), .second, .val (.double (f0_4 q1 q2 q3 q4 q5)), .second, .unset, .unset, .unset, .unset, .unset, .unset] [(.double FP.dconst0), (.double (f0_2 q1 q2 q3 q4 q5))])) _
    refine XS.dcmpS X13.here hx rfl (hb hby at_136) rfl rfl ?_
    show Steps p.tables e below (T13.setTop (mkF m 137 #[.val (.long q1), .second, .val (.long q2), .second, .val (.long q3), .second, .val (.long q4), .second, .val (.long q5), .second, .val (.long (fmax (1 : Int64) (q1 &&& (9223372036854775807 : Int64)))), .second, .val (.long (q2 &&& (9223372036854775807 : Int64))), .second, .val (.long (q3 &&& (9223372036854775807 : Int64))), .second, .val (.long ((q4 &&& (1048575 : Int64)) + (1 : Int64))), .second, .val (.long (f0_0 q1 q2 q3 q4 q5)), .second, .val (.long (q5 &&& (4294967295 : Int64))), .second, .val (.long ((f0_1 q1 q2 q3 q4 q5) + (f0_0 q1 q2 q3 q4 q5))), .second, .val (.ref o2), .val (.ref o5), .val (.ref o8), .val (.double (f0_2 q1 q2 q3 q4 q5)), .second, .val (.double (f0_3 q1 q2 q3 q4 q5)), .second, .val (.double (f0_4 q1 q2 q3 q4 q5)), .second, .unset, .unset, .unset, .unset, .unset, .unset] [(.int (Jvm.Op.cmpValue (FP.dcmp (f0_2 q1 q2 q3 q4 q5) FP.dconst0) Jvm.ClassFile.CmpOp.l))])) _
    refine XS.ifYes X13.here hx rfl (pc0 := 137) (pc' := 142) rfl (hb hby at_137) rfl ((if0 _ _).trans (flt h14).2.1) (by decide) (by decide) ?_
    show Steps p.tables e below (T13.setTop (mkF m 142 #[.val (.long q1), .second, .val (.long q2), .second, .val (.long q3), .second, .val (.long q4), .second, .val (.long q5), .second, .val (.long (fmax (1 : Int64) (q1 &&& (9223372036854775807 : Int64)))), .second, .val (.long (q2 &&& (9223372036854775807 : Int64))), .second, .val (.long (q3 &&& (9223372036854775807 : Int64))), .second, .val (.long ((q4 &&& (1048575 : Int64)) + (1 : Int64))), .second, .val (.long (f0_0 q1 q2 q3 q4 q5)), .second, .val (.long (q5 &&& (4294967295 : Int64))), .second, .val (.long ((f0_1 q1 q2 q3 q4 q5) + (f0_0 q1 q2 q3 q4 q5))), .second, .val (.ref o2), .val (.ref o5), .val (.ref o8), .val (.double (f0_2 q1 q2 q3 q4 q5)), .second, .val (.double (f0_3 q1 q2 q3 q4 q5)), .second, .val (.double (f0_4 q1 q2 q3 q4 q5)), .second, .unset, .unset, .unset, .unset, .unset, .unset] [])) _
    refine XS.dload X13.here hx rfl (hb hby at_142) rfl ?_
    show Steps p.tables e below (T13.setTop (mkF m 144 #[.val (.long q1), .second, .val (.long q2), .second, .val (.long q3), .second, .val (.long q4), .second, .val (.long q5), .second, .val (.long (fmax (1 : Int64) (q1 &&& (9223372036854775807 : Int64)))), .second, .val (.long (q2 &&& (9223372036854775807 : Int64))), .second, .val (.long (q3 &&& (9223372036854775807 : Int64))), .second, .val (.long ((q4 &&& (1048575 : Int64)) + (1 : Int64))), .second, .val (.long (f0_0 q1 q2 q3 q4 q5)), .second, .val (.long (q5 &&& (4294967295 : Int64))), .second, .val (.long ((f0_1 q1 q2 q3 q4 q5) + (f0_0 q1 q2 q3 q4 q5))), .second, .val (.ref o2), .val (.ref o5), .val (.ref o8), .val (.double (f0_2 q1 q2 q3 q4 q5)), .second, .val (.double (f0_3 q1 q2 q3 q4 q5)), .second, .val (.double (f0_4 q1 q2 q3 q4 q5)), .second, .unset, .unset, .unset, .unset, .unset, .unset] [(.double (f0_2 q1 q2 q3 q4 q5))])) _
    refine XT.lload X13.here hx rfl (hb hby at_144) rfl ?_
    show Steps p.tables e below (T13.setTop (mkF m 146 #[.val (.long q1), .second, .val (.long q2), .second, .val (.long q3), .second, .val (.long q4), .second, .val (.long q5), .second, .val (.long (fmax (1 : Int64) (q1 &&& (9223372036854775807 : Int64)))), .second, .val (.long (q2 &&& (9223372036854775807 : Int64))), .second, .val (.long (q3 &&& (9223372036854775807 : Int64))), .second, .val (.long ((q4 &&& (1048575 : Int64)) + (1 : Int64))), .second, .val (.long (f0_0 q1 q2 q3 q4 q5)), .second, .val (.long (q5 &&& (4294967295 : Int64))), .second, .val (.long ((f0_1 q1 q2 q3 q4 q5) + (f0_0 q1 q2 q3 q4 q5))), .second, .val (.ref o2), .val (.ref o5), .val (.ref o8), .val (.double (f0_2 q1 q2 q3 q4 q5)), .second, .val (.double (f0_3 q1 q2 q3 q4 q5)), .second, .val (.double (f0_4 q1 q2 q3 q4 q5)), .second, .unset, .unset, .unset, .unset, .unset, .unset] [(.long (q2 &&& (9223372036854775807 : Int64))), (.double (f0_2 q1 q2 q3 q4 q5))])) _
    refine XS.l2dS X13.here hx rfl (hb hby at_146) rfl rfl ?_
    show Steps p.tables e below (T13.setTop (mkF m 147 #[.val (.long q1), .second, .val (.long q2), .second, .val (.long q3), .second, .val (.long q4), .second, .val (.long q5), .second, .val (.long (fmax (1 : Int64) (q1 &&& (9223372036854775807 : Int64)))), .second, .val (.long (q2 &&& (9223372036854775807 : Int64))), .second, .val (.long (q3 &&& (9223372036854775807 : Int64))), .second, .val (.long ((q4 &&& (1048575 : Int64)) + (1 : Int64))), .second, .val (.long (f0_0 q1 q2 q3 q4 q5)), .second, .val (.long (q5 &&& (4294967295 : Int64))), .second, .val (.long ((f0_1 q1 q2 q3 q4 q5) + (f0_0 q1 q2 q3 q4 q5))), .second, .val (.ref o2), .val (.ref o5), .val (.ref o8), .val (.double (f0_2 q1 q2 q3 q4 q5)), .second, .val (.double (f0_3 q1 q2 q3 q4 q5)), .second, .val (.double (f0_4 q1 q2 q3 q4 q5)), .second, .unset, .unset, .unset, .unset, .unset, .unset] [(.double (FP.l2d (q2 &&& (9223372036854775807 : Int64)))), (.double (f0_2 q1 q2 q3 q4 q5))])) _
    refine XS.dcmpS X13.here hx rfl (hb hby at_147) rfl rfl ?_
    show Steps p.tables e below (T13.setTop (mkF m 148 #[.val (.long q1), .second, .val (.long q2), .second, .val (.long q3), .second, .val (.long q4), .second, .val (.long q5), .second, .val (.long (fmax (1 : Int64) (q1 &&& (9223372036854775807 : Int64)))), .second, .val (.long (q2 &&& (9223372036854775807 : Int64))), .second, .val (.long (q3 &&& (9223372036854775807 : Int64))), .second, .val (.long ((q4 &&& (1048575 : Int64)) + (1 : Int64))), .second, .val (.long (f0_0 q1 q2 q3 q4 q5)), .second, .val (.long (q5 &&& (4294967295 : Int64))), .second, .val (.long ((f0_1 q1 q2 q3 q4 q5) + (f0_0 q1 q2 q3 q4 q5))), .second, .val (.ref o2), .val (.ref o5), .val (.ref o8), .val (.double (f0_2 q1 q2 q3 q4 q5)), .second, .val (.double (f0_3 q1 q2 q3 q4 q5)), .second, .val (.double (f0_4 q1 q2 q3 q4 q5)), .second, .unset, .unset, .unset, .unset, .unset, .unset] [(.int (Jvm.Op.cmpValue (FP.dcmp (f0_2 q1 q2 q3 q4 q5) (FP.l2d (q2 &&& (9223372036854775807 : Int64)))) Jvm.ClassFile.CmpOp.g))])) _
    refine XS.ifYes X13.here hx rfl (pc0 := 148) (pc' := 153) rfl (hb hby at_148) rfl ((if0 _ _).trans (flt h15).2.2.2) (by decide) (by decide) ?_
    show Steps p.tables e below (T13.setTop (mkF m 153 #[.val (.long q1), .second, .val (.long q2), .second, .val (.long q3), .second, .val (.long q4), .second, .val (.long q5), .second, .val (.long (fmax (1 : Int64) (q1 &&& (9223372036854775807 : Int64)))), .second, .val (.long (q2 &&& (9223372036854775807 : Int64))), .second, .val (.long (q3 &&& (9223372036854775807 : Int64))), .second, .val (.long ((q4 &&& (1048575 : Int64)) + (1 : Int64))), .second, .val (.long (f0_0 q1 q2 q3 q4 q5)), .second, .val (.long (q5 &&& (4294967295 : Int64))), .second, .val (.long ((f0_1 q1 q2 q3 q4 q5) + (f0_0 q1 q2 q3 q4 q5))), .second, .val (.ref o2), .val (.ref o5), .val (.ref o8), .val (.double (f0_2 q1 q2 q3 q4 q5)), .second, .val (.double (f0_3 q1 q2 q3 q4 q5)), .second, .val (.double (f0_4 q1 q2 q3 q4 q5)), .second, .unset, .unset, .unset, .unset, .unset, .unset] [])) _
    refine XT.lload X13.here hx rfl (hb hby at_153) rfl ?_
    show Steps p.tables e below (T13.setTop (mkF m 155 #[.val (.long q1), .second, .val (.long q2), .second, .val (.long q3), .second, .val (.long q4), .second, .val (.long q5), .second, .val (.long (fmax (1 : Int64) (q1 &&& (9223372036854775807 : Int64)))), .second, .val (.long (q2 &&& (9223372036854775807 : Int64))), .second, .val (.long (q3 &&& (9223372036854775807 : Int64))), .second, .val (.long ((q4 &&& (1048575 : Int64)) + (1 : Int64))), .second, .val (.long (f0_0 q1 q2 q3 q4 q5)), .second, .val (.long (q5 &&& (4294967295 : Int64))), .second, .val (.long ((f0_1 q1 q2 q3 q4 q5) + (f0_0 q1 q2 q3 q4 q5))), .second, .val (.ref o2), .val (.ref o5), .val (.ref o8), .val (.double (f0_2 q1 q2 q3 q4 q5)), .second, .val (.double (f0_3 q1 q2 q3 q4 q5)), .second, .val (.double (f0_4 q1 q2 q3 q4 q5)), .second, .unset, .unset, .unset, .unset, .unset, .unset] [(.long (fmax (1 : Int64) (q1 &&& (9223372036854775807 : Int64))))])) _
    refine XT.lconst X13.here hx rfl (hb hby at_155) ?_
    show Steps p.tables e below (T13.setTop (mkF m 156 #[.val (.long q1), .second, .val (.long q2), .second, .val (.long q3), .second, .val (.long q4), .second, .val (.long q5), .second, .val (.long (fmax (1 : Int64) (q1 &&& (9223372036854775807 : Int64)))), .second, .val (.long (q2 &&& (9223372036854775807 : Int64))), .second, .val (.long (q3 &&& (9223372036854775807 : Int64))), .second, .val (.long ((q4 &&& (1048575 : Int64)) + (1 : Int64))), .second, .val (.long (f0_0 q1 q2 q3 q4 q5)), .second, .val (.long (q5 &&& (4294967295 : Int64))), .second, .val (.long ((f0_1 q1 q2 q3 q4 q5) + (f0_0 q1 q2 q3 q4 q5))), .second, .val (.ref o2), .val (.ref o5), .val (.ref o8), .val (.double (f0_2 q1 q2 q3 q4 q5)), .second, .val (.double (f0_3 q1 q2 q3 q4 q5)), .second, .val (.double (f0_4 q1 q2 q3 q4 q5)), .second, .unset, .unset, .unset, .unset, .unset, .unset] [(.long (1 : Int64)), (.long (fmax (1 : Int64) (q1 &&& (9223372036854775807 : Int64))))])) _
    refine XT.lcmp X13.here hx rfl (hb hby at_156) rfl ?_
    show Steps p.tables e below (T13.setTop (mkF m 157 #[.val (.long q1), .second, .val (.long q2), .second, .val (.long q3), .second, .val (.long q4), .second, .val (.long q5), .second, .val (.long (fmax (1 : Int64) (q1 &&& (9223372036854775807 : Int64)))), .second, .val (.long (q2 &&& (9223372036854775807 : Int64))), .second, .val (.long (q3 &&& (9223372036854775807 : Int64))), .second, .val (.long ((q4 &&& (1048575 : Int64)) + (1 : Int64))), .second, .val (.long (f0_0 q1 q2 q3 q4 q5)), .second, .val (.long (q5 &&& (4294967295 : Int64))), .second, .val (.long ((f0_1 q1 q2 q3 q4 q5) + (f0_0 q1 q2 q3 q4 q5))), .second, .val (.ref o2), .val (.ref o5), .val (.ref o8), .val (.double (f0_2 q1 q2 q3 q4 q5)), .second, .val (.double (f0_3 q1 q2 q3 q4 q5)), .second, .val (.double (f0_4 q1 q2 q3 q4 q5)), .second, .unset, .unset, .unset, .unset, .unset, .unset] [(.int (XT.cmpL (fmax (1 : Int64) (q1 &&& (9223372036854775807 : Int64))) (1 : Int64)))])) _
    refine st18 _ ?_
    show Steps p.tables e below (T13.setTop (mkF m 171 #[.val (.long q1), .second, .val (.long q2), .second, .val (.long q3), .second, .val (.long q4), .second, .val (.long q5), .second, .val (.long (fmax (1 : Int64) (q1 &&& (9223372036854775807 : Int64)))), .second, .val (.long (q2 &&& (9223372036854775807 : Int64))), .second, .val (.long (q3 &&& (9223372036854775807 : Int64))), .second, .val (.long ((q4 &&& (1048575 : Int64)) + (1 : Int64))), .second, .val (.long (f0_0 q1 q2 q3 q4 q5)), .second, .val (.long (q5 &&& (4294967295 : Int64))), .second, .val (.long ((f0_1 q1 q2 q3 q4 q5) + (f0_0 q1 q2 q3 q4 q5))), .second, .val (.ref o2), .val (.ref o5), .val (.ref o8), .val (.double (f0_2 q1 q2 q3 q4 q5)), .second, .val (.double (f0_3 q1 q2 q3 q4 q5)), .second, .val (.double (f0_4 q1 q2 q3 q4 q5)), .second, .unset, .unset, .unset, .unset, .unset, .unset] [])) _
    refine XT.lload X13.here hx rfl (hb hby at_171) rfl ?_
    show Steps p.tables e below (T13.setTop (mkF m 173 #[.val (.long q1), .second, .val (.long q2), .second, .val (.long q3), .second, .val (.long q4), .second, .val (.long q5), .second, .val (.long (fmax (1 : Int64) (q1 &&& (9223372036854775807 : Int64)))), .second, .val (.long (q2 &&& (9223372036854775807 : Int64))), .second, .val (.long (q3 &&& (9223372036854775807 : Int64))), .second, .val (.long ((q4 &&& (1048575 : Int64)) + (1 : Int64))), .second, .val (.long (f0_0 q1 q2 q3 q4 q5)), .second, .val (.long (q5 &&& (4294967295 : Int64))), .second, .val (.long ((f0_1 q1 q2 q3 q4 q5) + (f0_0 q1 q2 q3 q4 q5))), .second, .val (.ref o2), .val (.ref o5), .val (.ref o8), .val (.double (f0_2 q1 q2 q3 q4 q5)), .second, .val (.double (f0_3 q1 q2 q3 q4 q5)), .second, .val (.double (f0_4 q1 q2 q3 q4 q5)), .second, .unset, .unset, .unset, .unset, .unset, .unset] [(.long (q2 &&& (9223372036854775807 : Int64)))])) _
    refine XT.lload X13.here hx rfl (hb hby at_173) rfl ?_
    show Steps p.tables e below (T13.setTop (mkF m 175 #[.val (.long q1), .second, .val (.long q2), .second, .val (.long q3), .second, .val (.long q4), .second, .val (.long q5), .second, .val (.long (fmax (1 : Int64) (q1 &&& (9223372036854775807 : Int64)))), .second, .val (.long (q2 &&& (9223372036854775807 : Int64))), .second, .val (.long (q3 &&& (9223372036854775807 : Int64))), .second, .val (.long ((q4 &&& (1048575 : Int64)) + (1 : Int64))), .second, .val (.long (f0_0 q1 q2 q3 q4 q5)), .second, .val (.long (q5 &&& (4294967295 : Int64))), .second, .val (.long ((f0_1 q1 q2 q3 q4 q5) + (f0_0 q1 q2 q3 q4 q5))), .second, .val (.ref o2), .val (.ref o5), .val (.ref o8), .val (.double (f0_2 q1 q2 q3 q4 q5)), .second, .val (.double (f0_3 q1 q2 q3 q4 q5)), .second, .val (.double (f0_4 q1 q2 q3 q4 q5)), .second, .unset, .unset, .unset, .unset, .unset, .unset] [(.long (q3 &&& (9223372036854775807 : Int64))), (.long (q2 &&& (9223372036854775807 : Int64)))])) _
    refine XT.lcmp X13.here hx rfl (hb hby at_175) rfl ?_
    show Steps p.tables e below (T13.setTop (mkF m 176 #[.val (.long q1), .second, .val (.long q2), .second, .val (.long q3), .second, .val (.long q4), .second, .val (.long q5), .second, .val (.long (fmax (1 : Int64) (q1 &&& (9223372036854775807 : Int64)))), .second, .val (.long (q2 &&& (9223372036854775807 : Int64))), .second, .val (.long (q3 &&& (9223372036854775807 : Int64))), .second, .val (.long ((q4 &&& (1048575 : Int64)) + (1 : Int64))), .second, .val (.long (f0_0 q1 q2 q3 q4 q5)), .second, .val (.long (q5 &&& (4294967295 : Int64))), .second, .val (.long ((f0_1 q1 q2 q3 q4 q5) + (f0_0 q1 q2 q3 q4 q5))), .second, .val (.ref o2), .val (.ref o5), .val (.ref o8), .val (.double (f0_2 q1 q2 q3 q4 q5)), .second, .val (.double (f0_3 q1 q2 q3 q4 q5)), .second, .val (.double (f0_4 q1 q2 q3 q4 q5)), .second, .unset, .unset, .unset, .unset, .unset, .unset] [(.int (XT.cmpL (q2 &&& (9223372036854775807 : Int64)) (q3 &&& (9223372036854775807 : Int64))))])) _
    refine st21 _ ?_
    show Steps p.tables e below (T13.setTop (mkF m 189 #[.val (.long q1), .second, .val (.long q2), .second, .val (.long q3), .second, .val (.long q4), .second, .val (.long q5), .second, .val (.long (fmax (1 : Int64) (q1 &&& (9223372036854775807 : Int64)))), .second, .val (.long (q2 &&& (9223372036854775807 : Int64))), .second, .val (.long (q3 &&& (9223372036854775807 : Int64))), .second, .val (.long ((q4 &&& (1048575 : Int64)) + (1 : Int64))), .second, .val (.long (f0_0 q1 q2 q3 q4 q5)), .second, .val (.long (q5 &&& (4294967295 : Int64))), .second, .val (.long ((f0_1 q1 q2 q3 q4 q5) + (f0_0 q1 q2 q3 q4 q5))), .second, .val (.ref o2), .val (.ref o5), .val (.ref o8), .val (.double (f0_2 q1 q2 q3 q4 q5)), .second, .val (.double (f0_3 q1 q2 q3 q4 q5)), .second, .val (.double (f0_4 q1 q2 q3 q4 q5)), .second, .unset, .unset, .unset, .unset, .unset, .unset] [])) _
    refine XT.lload X13.here hx rfl (hb hby at_189) rfl ?_
    show Steps p.tables e below (T13.setTop (mkF m 191 #[.val (.long q1), .second, .val (.long q2), .second, .val (.long q3), .second, .val (.long q4), .second, .val (.long q5), .second, .val (.long (fmax (1 : Int64) (q1 &&& (9223372036854775807 : Int64)))), .second, .val (.long (q2 &&& (9223372036854775807 : Int64))), .second, .val (.long (q3 &&& (9223372036854775807 : Int64))), .second, .val (.long ((q4 &&& (1048575 : Int64)) + (1 : Int64))), .second, .val (.long (f0_0 q1 q2 q3 q4 q5)), .second, .val (.long (q5 &&& (4294967295 : Int64))), .second, .val (.long ((f0_1 q1 q2 q3 q4 q5) + (f0_0 q1 q2 q3 q4 q5))), .second, .val (.ref o2), .val (.ref o5), .val (.ref o8), .val (.double (f0_2 q1 q2 q3 q4 q5)), .second, .val (.double (f0_3 q1 q2 q3 q4 q5)), .second, .val (.double (f0_4 q1 q2 q3 q4 q5)), .second, .unset, .unset, .unset, .unset, .unset, .unset] [(.long (q5 &&& (4294967295 : Int64)))])) _
    refine XS.l2dS X13.here hx rfl (hb hby at_191) rfl rfl ?_
    show Steps p.tables e below (T13.setTop (mkF m 192 #[.val (.long q1), .second, .val (.long q2), .second, .val (.long q3), .second, .val (.long q4), .second, .val (.long q5), .second, .val (.long (fmax (1 : Int64) (q1 &&& (9223372036854775807 : Int64)))), .second, .val (.long (q2 &&& (9223372036854775807 : Int64))), .second, .val (.long (q3 &&& (9223372036854775807 : Int64))), .second, .val (.long ((q4 &&& (1048575 : Int64)) + (1 : Int64))), .second, .val (.long (f0_0 q1 q2 q3 q4 q5)), .second, .val (.long (q5 &&& (4294967295 : Int64))), .second, .val (.long ((f0_1 q1 q2 q3 q4 q5) + (f0_0 q1 q2 q3 q4 q5))), .second, .val (.ref o2), .val (.ref o5), .val (.ref o8), .val (.double (f0_2 q1 q2 q3 q4 q5)), .second, .val (.double (f0_3 q1 q2 q3 q4 q5)), .second, .val (.double (f0_4 q1 q2 q3 q4 q5)), .second, .unset, .unset, .unset, .unset, .unset, .unset] [(.double (FP.l2d (q5 &&& (4294967295 : Int64))))])) _
    refine XS.dstore X13.here hx rfl (hb hby at_192) rfl (l' := #[.val (.long q1), .second, .val (.long q2), .second, .val (.long q3), .second, .val (.long q4), .second, .val (.long q5), .second, .val (.long (fmax (1 : Int64) (q1 &&& (9223372036854775807 : Int64)))), .second, .val (.long (q2 &&& (9223372036854775807 : Int64))), .second, .val (.long (q3 &&& (9223372036854775807 : Int64))), .second, .val (.long ((q4 &&& (1048575 : Int64)) + (1 : Int64))), .second, .val (.long (f0_0 q1 q2 q3 q4 q5)), .second, .val (.long (q5 &&& (4294967295 : Int64))), .second, .val (.long ((f0_1 q1 q2 q3 q4 q5) + (f0_0 q1 q2 q3 q4 q5))), .second, .val (.ref o2), .val (.ref o5), .val (.ref o8), .val (.double (f0_2 q1 q2 q3 q4 q5)), .second, .val (.double (f0_3 q1 q2 q3 q4 q5)), .second, .val (.double (f0_4 q1 q2 q3 q4 q5)), .second, .val (.double (FP.l2d (q5 &&& (4294967295 : Int64)))), .second, .unset, .unset, .unset, .unset]) rfl ?_
    show Steps p.tables e below (T13.setTop (mkF m 194 #[.val (.long q1), .second, .val (.long q2), .second, .val (.long q3), .second, .val (.long q4), .second, .val (.long q5), .second, .val (.long (fmax (1 : Int64) (q1 &&& (9223372036854775807 : Int64)))), .second, .val (.long (q2 &&& (9223372036854775807 : Int64))), .second, .val (.long (q3 &&& (9223372036854775807 : Int64))), .second, .val (.long ((q4 &&& (1048575 : Int64)) + (1 : Int64))), .second, .val (.long (f0_0 q1 q2 q3 q4 q5)), .second, .val (.long (q5 &&& (4294967295 : Int64))), .second, .val (.long ((f0_1 q1 q2 q3 q4 q5) + (f0_0 q1 q2 q3 q4 q5))), .second, .val (.ref o2), .val (.ref o5), .val (.ref o8), .val (.double (f0_2 q1 q2 q3 q4 q5)), .second, .val (.double (f0_3 q1 q2 q3 q4 q5)), .second, .val (.double (f0_4 q1 q2 q3 q4 q5)), .second, .val (.double (FP.l2d (q5 &&& (4294967295 : Int64)))), .second, .unset, .unset, .unset, .unset] [])) _
    refine XS.dload X13.here hx rfl (hb hby at_194) rfl ?_
    show Steps p.tables e below (T13.setTop (mkF m 196 #[.val (.long q1), .second, .val (.long q2), .second, .val (.long q3), .second, .val (.long q4), .second, .val (.long q5), .second, .val (.long (fmax (1 : Int64) (q1 &&& (9223372036854775807 : Int64)))), .second, .val (.long (q2 &&& (9223372036854775807 : Int64))), .second, .val (.long (q3 &&& (9223372036854775807 : Int64))), .second, .val (.long ((q4 &&& (1048575 : Int64)) + (1 : Int64))), .second, .val (.long (f0_0 q1 q2 q3 q4 q5)), .second, .val (.long (q5 &&& (4294967295 : Int64))), .second, .val (.long ((f0_1 q1 q2 q3 q4 q5) + (f0_0 q1 q2 q3 q4 q5))), .second, .val (.ref o2), .val (.ref o5), .val (.ref o8), .val (.double (f0_2 q1 q2 q3 q4 q5)), .second, .val (.double (f0_3 q1 q2 q3 q4 q5)), .second, .val (.double (f0_4 q1 q2 q3 q4 q5)), .second, .val (.double (FP.l2d (q5 &&& (4294967295 : Int64)))), .second, .unset, .unset, .unset, .unset] [(.double (FP.l2d (q5 &&& (4294967295 : Int64))))])) _
    refine X13.ldc2DoubleC hx hown (mvT hZ (hw _ (List.mem_of_getElem? (i := 37) rfl))) (g := (mkF m 196 #[.val (.long q1), .second, .val (.long q2), .second, .val (.long q3), .second, .val (.long q4), .second, .val (.long q5), .second, .val (.long (fmax (1 : Int64) (q1 &&& (9223372036854775807 : Int64)))), .second, .val (.long (q2 &&& (9223372036854775807 : Int64))), .second, .val (.long (q3 &&& (9223372036854775807 : Int64))), .second, .val (.long ((q4 &&& (1048575 : Int64)) + (1 : Int64))), .second, .val (.long (f0_0 q1 q2 q3 q4 q5)), .second, .val (.long (q5 &&& (4294967295 : Int64))), .second, .val (.long ((f0_1 q1 q2 q3 q4 q5) + (f0_0 q1 q2 q3 q4 q5))), .second, .val (.ref o2), .val (.ref o5), .val (.ref o8), .val (.double (f0_2 q1 q2 q3 q4 q5)), .second, .val (.double (f0_3 q1 q2 q3 q4 q5)), .second, .val (.double (f0_4 q1 q2 q3 q4 q5)), .second, .val (.double (FP.l2d (q5 &&& (4294967295 : Int64)))), .second, .unset, .unset, .unset, .unset] [(.double (FP.l2d (q5 &&& (4294967295 : Int64))))])) rfl (hb hby at_196) _ ?_
    show Steps p.tables e below (T13.setTop (mkF m 199 #[.val (.long q1), .second, .val (.long q2), .second, .val (.long q3), .second, .val (.long q4), .second, .val (.long q5), .second, .val (.long (fmax (1 : Int64) (q1 &&& (9223372036854775807 : Int64)))), .second, .val (.long (q2 &&& (9223372036854775807 : Int64))), .second, .val (.long (q3 &&& (9223372036854775807 : Int64))), .second, .val (.long ((q4 &&& (1048575 : Int64)) + (1 : Int64))), .second, .val (.long (f0_0 q1 q2 q3 q4 q5)), .second, .val (.long (q5 &&& (4294967295 : Int64))), .second, .val (.long ((f0_1 q1 q2 q3 q4 q5) + (f0_0 q1 q2 q3 q4 q5))), .second, .val (.ref o2), .val (.ref o5), .val (.ref o8), .val (.double (f0_2 q1 q2 q3 q4 q5)), .second, .val (.double (f0_3 q1 q2 q3 q4 q5)), .second, .val (.double (f0_4 q1 q2 q3 q4 q5)), .second, .val (.double (FP.l2d (q5 &&& (4294967295 : Int64)))), .second, .unset, .unset, .unset, .unset] [(.double (4602678819172646912 : UInt64)), (.double (FP.l2d (q5 &&& (4294967295 : Int64))))])) _
    refine XS.daddS X13.here hx rfl (hb hby at_199) rfl (Jvm.Free.Fl.dadd_out (Jvm.Free.Fl.l2d_fin _).noNaN (show ((4602678819172646912 : UInt64) &&& (0x7fffffffffffffff : UInt64)) < (0x7ff0000000000000 : UInt64) by decide)) rfl ?_
    show Steps p.tables e below (T13.setTop (mkF m 200 #[.val (.long q1), .second, .val (.long q2), .second, .val (.long q3), .second, .val (.long q4), .second, .val (.long q5), .second, .val (.long (fmax (1 : Int64) (q1 &&& (9223372036854775807 : Int64)))), .second, .val (.long (q2 &&& (9223372036854775807 : Int64))), .second, .val (.long (q3 &&& (9223372036854775807 : Int64))), .second, .val (.long ((q4 &&& (1048575 : Int64)) + (1 : Int64))), .second, .val (.long (f0_0 q1 q2 q3 q4 q5)), .second, .val (.long (q5 &&& (4294967295 : Int64))), .second, .val (.long ((f0_1 q1 q2 q3 q4 q5) + (f0_0 q1 q2 q3 q4 q5))), .second, .val (.ref o2), .val (.ref o5), .val (.ref o8), .val (.double (f0_2 q1 q2 q3 q4 q5)), .second, .val (.double (f0_3 q1 q2 q3 q4 q5)), .second, .val (.double (f0_4 q1 q2 q3 q4 q5)), .second, .val (.double (FP.l2d (q5 &&& (4294967295 : Int64)))), .second, .unset, .unset, .unset, .unset] [(.double (f0_5 q1 q2 q3 q4 q5))])) _
    refine XS.dstore X13.here hx rfl (hb hby at_200) rfl (l' := #[.val (.long q1), .second, .val (.long q2), .second, .val (.long q3), .second, .val (.long q4), .second, .val (.long q5), .second, .val (.long (fmax (1 : Int64) (q1 &&& (9223372036854775807 : Int64)))), .second, .val (.long (q2 &&& (9223372036854775807 : Int64))), .second, .val (.long (q3 &&& (9223372036854775807 : Int64))), .second, .val (.long ((q4 &&& (1048575 : Int64)) + (1 : Int64))), .second, .val (.long (f0_0 q1 q2 q3 q4 q5)), .second, .val (.long (q5 &&& (4294967295 : Int64))), .second, .val (.long ((f0_1 q1 q2 q3 q4 q5) + (f0_0 q1 q2 q3 q4 q5))), .second, .val (.ref o2), .val (.ref o5), .val (.ref o8), .val (.double (f0_2 q1 q2 q3 q4 q5)), .second, .val (.double (f0_3 q1 q2 q3 q4 q5)), .second, .val (.double (f0_4 q1 q2 q3 q4 q5)), .second, .val (.double (FP.l2d (q5 &&& (4294967295 : Int64)))), .second, .val (.double (f0_5 q1 q2 q3 q4 q5)), .second, .unset, .unset]) rfl ?_
    show Steps p.tables e below (T13.setTop (mkF m 202 #[.val (.long q1), .second, .val (.long q2), .second, .val (.long q3), .second, .val (.long q4), .second, .val (.long q5), .second, .val (.long (fmax (1 : Int64) (q1 &&& (9223372036854775807 : Int64)))), .second, .val (.long (q2 &&& (9223372036854775807 : Int64))), .second, .val (.long (q3 &&& (9223372036854775807 : Int64))), .second, .val (.long ((q4 &&& (1048575 : Int64)) + (1 : Int64))), .second, .val (.long (f0_0 q1 q2 q3 q4 q5)), .second, .val (.long (q5 &&& (4294967295 : Int64))), .second, .val (.long ((f0_1 q1 q2 q3 q4 q5) + (f0_0 q1 q2 q3 q4 q5))), .second, .val (.ref o2), .val (.ref o5), .val (.ref o8), .val (.double (f0_2 q1 q2 q3 q4 q5)), .second, .val (.double (f0_3 q1 q2 q3 q4 q5)), .second, .val (.double (f0_4 q1 q2 q3 q4 q5)), .second, .val (.double (FP.l2d (q5 &&& (4294967295 : Int64)))), .second, .val (.double (f0_5 q1 q2 q3 q4 q5)), .second, .unset, .unset] [])) _
    refine XT.lload X13.here hx rfl (hb hby at_202) rfl ?_
    show Steps p.tables e below (T13.setTop (mkF m 204 #[.val (.long q1), .second, .val (.long q2), .second, .val (.long q3), .second, .val (.long q4), .second, .val (.long q5), .second, .val (.long (fmax (1 : Int64) (q1 &&& (9223372036854775807 : Int64)))), .second, .val (.long (q2 &&& (9223372036854775807 : Int64))), .second, .val (.long (q3 &&& (9223372036854775807 : Int64))), .second, .val (.long ((q4 &&& (1048575 : Int64)) + (1 : Int64))), .second, .val (.long (f0_0 q1 q2 q3 q4 q5)), .second, .val (.long (q5 &&& (4294967295 : Int64))), .second, .val (.long ((f0_1 q1 q2 q3 q4 q5) + (f0_0 q1 q2 q3 q4 q5))), .second, .val (.ref o2), .val (.ref o5), .val (.ref o8), .val (.double (f0_2 q1 q2 q3 q4 q5)), .second, .val (.double (f0_3 q1 q2 q3 q4 q5)), .second, .val (.double (f0_4 q1 q2 q3 q4 q5)), .second, .val (.double (FP.l2d (q5 &&& (4294967295 : Int64)))), .second, .val (.double (f0_5 q1 q2 q3 q4 q5)), .second, .unset, .unset] [(.long (f0_0 q1 q2 q3 q4 q5))])) _
    refine XT.lconst X13.here hx rfl (hb hby at_204) ?_
    show Steps p.tables e below (T13.setTop (mkF m 205 #[.val (.long q1), .second, .val (.long q2), .second, .val (.long q3), .second, .val (.long q4), .second, .val (.long q5), .second, .val (.long (fmax (1 : Int64) (q1 &&& (9223372036854775807 : Int64)))), .second, .val (.long (q2 &&& (9223372036854775807 : Int64))), .second, .val (.long (q3 &&& (9223372036854775807 : Int64))), .second, .val (.long ((q4 &&& (1048575 : Int64)) + (1 : Int64))), .second, .val (.long (f0_0 q1 q2 q3 q4 q5)), .second, .val (.long (q5 &&& (4294967295 : Int64))), .second, .val (.long ((f0_1 q1 q2 q3 q4 q5) + (f0_0 q1 q2 q3 q4 q5))), .second, .val (.ref o2), .val (.ref o5), .val (.ref o8), .val (.double (f0_2 q1 q2 q3 q4 q5)), .second, .val (.double (f0_3 q1 q2 q3 q4 q5)), .second, .val (.double (f0_4 q1 q2 q3 q4 q5)), .second, .val (.double (FP.l2d (q5 &&& (4294967295 : Int64)))), .second, .val (.double (f0_5 q1 q2 q3 q4 q5)), .second, .unset, .unset] [(.long (0 : Int64)), (.long (f0_0 q1 q2 q3 q4 q5))])) _
    refine XT.lcmp X13.here hx rfl (hb hby at_205) rfl ?_
    exact k
  by_cases h22 : (f0_0 q1 q2 q3 q4 q5) = (0 : Int64)
  · have h23 : (Jvm.Op.cmpValue (FP.dcmp (f0_4 q1 q2 q3 q4 q5) (FP.l2d (q5 &&& (4294967295 : Int64)))) Jvm.ClassFile.CmpOp.l) = (0 : Int32) := (by unfold f0_4 fmean; exact own_c214 (own_TT q1 q2 q3 q4 q5) h22)
    obtain ⟨fs, hr, hrun, hended, hW, hsame⟩ := X13.leave (v := some (.int (1 : Int32))) (fun h => by rw [Bd.returns] at h; cases h)
    refine ⟨_, _, ?_, hrun, hended, _, _, rfl, ?_, ⟨_, rfl⟩, hW, hsame.mono (by decide) (by decide)⟩
    · show Steps p.tables e below (T13.setTop (mkF m 206 #[.val (.long q1), .second, .val (.long q2), .second, .val (.long q3), .second, .val (.long q4), .second, .val (.long q5), .second, .val (.long (fmax (1 : Int64) (q1 &&& (9223372036854775807 : Int64)))), .second, .val (.long (q2 &&& (9223372036854775807 : Int64))), .second, .val (.long (q3 &&& (9223372036854775807 : Int64))), .second, .val (.long ((q4 &&& (1048575 : Int64)) + (1 : Int64))), .second, .val (.long (f0_0 q1 q2 q3 q4 q5)), .second, .val (.long (q5 &&& (4294967295 : Int64))), .second, .val (.long ((f0_1 q1 q2 q3 q4 q5) + (f0_0 q1 q2 q3 q4 q5))), .second, .val (.ref o2), .val (.ref o5), .val (.ref o8), .val (.double (f0_2 q1 q2 q3 q4 q5)), .second, .val (.double (f0_3 q1 q2 q3 q4 q5)), .second, .val (.double (f0_4 q1 q2 q3 q4 q5)), .second, .val (.double (FP.l2d (q5 &&& (4294967295 : Int64)))), .second, .val (.double (f0_5 q1 q2 q3 q4 q5)), .second, .unset, .unset] [(.int (XT.cmpL (f0_0 q1 q2 q3 q4 q5) (0 : Int64)))])) _
      refine XS.ifNo X13.here hx rfl (hb hby at_206) rfl ((if0 _ _).trans (teq ((own_ce _ _).mpr h22)).2) ?_
      show Steps p.tables e below (T13.setTop (mkF m 209 #[.val (.long q1), .second, .val (.long q2), .second, .val (.long q3), .second, .val (.long q4), .second, .val (.long q5), .second, .val (.long (fmax (1 : Int64) (q1 &&& (9223372036854775807 : Int64)))), .second, .val (.long (q2 &&& (9223372036854775807 : Int64))), .second, .val (.long (q3 &&& (9223372036854775807 : Int64))), .second, .val (.long ((q4 &&& (1048575 : Int64)) + (1 : Int64))), .second, .val (.long (f0_0 q1 q2 q3 q4 q5)), .second, .val (.long (q5 &&& (4294967295 : Int64))), .second, .val (.long ((f0_1 q1 q2 q3 q4 q5) + (f0_0 q1 q2 q3 q4 q5))), .second, .val (.ref o2), .val (.ref o5), .val (.ref o8), .val (.double (f0_2 q1 q2 q3 q4 q5)), .second, .val (.double (f0_3 q1 q2 q3 q4 q5)), .second, .val (.double (f0_4 q1 q2 q3 q4 q5)), .second, .val (.double (FP.l2d (q5 &&& (4294967295 : Int64)))), .second, .val (.double (f0_5 q1 q2 q3 q4 q5)), .second, .unset, .unset] [])) _
      refine XS.dload X13.here hx rfl (hb hby at_209) rfl ?_
      show Steps p.tables e below (T13.setTop (mkF m 211 #[.val (.long q1), .second, .val (.long q2), .second, .val (.long q3), .second, .val (.long q4), .second, .val (.long q5), .second, .val (.long (fmax (1 : Int64) (q1 &&& (9223372036854775807 : Int64)))), .second, .val (.long (q2 &&& (9223372036854775807 : Int64))), .second, .val (.long (q3 &&& (9223372036854775807 : Int64))), .second, .val (.long ((q4 &&& (1048575 : Int64)) + (1 : Int64))), .second, .val (.long (f0_0 q1 q2 q3 q4 q5)), .second, .val (.long (q5 &&& (4294967295 : Int64))), .second, .val (.long ((f0_1 q1 q2 q3 q4 q5) + (f0_0 q1 q2 q3 q4 q5))), .second, .val (.ref o2), .val (.ref o5), .val (.ref o8), .val (.double (f0_2 q1 q2 q3 q4 q5)), .second, .val (.double (f0_3 q1 q2 q3 q4 q5)), .second, .val (.double (f0_4 q1 q2 q3 q4 q5)), .second, .val (.double (FP.l2d (q5 &&& (4294967295 : Int64)))), .second, .val (.double (f0_5 q1 q2 q3 q4 q5)), .second, .unset, .unset] [(.double (f0_4 q1 q2 q3 q4 q5))])) _
      refine XS.dload X13.here hx rfl (hb hby at_211) rfl ?_
      show Steps p.tables e below (T13.setTop (mkF m 213 #[.val (.long q1), .second, .val (.long q2), .second, .val (.long q3), .second, .val (.long q4), .second, .val (.long q5), .second, .val (.long (fmax (1 : Int64) (q1 &&& (9223372036854775807 : Int64)))), .second, .val (.long (q2 &&& (9223372036854775807 : Int64))), .second, .val (.long (q3 &&& (9223372036854775807 : Int64))), .second, .val (.long ((q4 &&& (1048575 : Int64)) + (1 : Int64))), .second, .val (.long (f0_0 q1 q2 q3 q4 q5)), .second, .val (.long (q5 &&& (4294967295 : Int64))), .second, .val (.long ((f0_1 q1 q2 q3 q4 q5) + (f0_0 q1 q2 q3 q4 q5))), .second, .val (.ref o2), .val (.ref o5), .val (.ref o8), .val (.double (f0_2 q1 q2 q3 q4 q5)), .second, .val (.double (f0_3 q1 q2 q3 q4 q5)), .second, .val (.double (f0_4 q1 q2 q3 q4 q5)), .second, .val (.double (FP.l2d (q5 &&& (4294967295 : Int64)))), .second, .val (.double (f0_5 q1 q2 q3 q4 q5)), .second, .unset, .unset] [(.double (FP.l2d (q5 &&& (4294967295 : Int64)))), (.double (f0_4 q1 q2 q3 q4 q5))])) _
      refine XS.dcmpS X13.here hx rfl (hb hby at_213) rfl rfl ?_
      show Steps p.tables e below (T13.setTop (mkF m 214 #[.val (.long q1), .second, .val (.long q2), .second, .val (.long q3), .second, .val (.long q4), .second, .val (.long q5), .second, .val (.long (fmax (1 : Int64) (q1 &&& (9223372036854775807 : Int64)))), .second, .val (.long (q2 &&& (9223372036854775807 : Int64))), .second, .val (.long (q3 &&& (9223372036854775807 : Int64))), .second, .val (.long ((q4 &&& (1048575 : Int64)) + (1 : Int64))), .second, .val (.long (f0_0 q1 q2 q3 q4 q5)), .second, .val (.long (q5 &&& (4294967295 : Int64))), .second, .val (.long ((f0_1 q1 q2 q3 q4 q5) + (f0_0 q1 q2 q3 q4 q5))), .second, .val (.ref o2), .val (.ref o5), .val (.ref o8), .val (.double (f0_2 q1 q2 q3 q4 q5)), .second, .val (.double (f0_3 q1 q2 q3 q4 q5)), .second, .val (.double (f0_4 q1 q2 q3 q4 q5)), .second, .val (.double (FP.l2d (q5 &&& (4294967295 : Int64)))), .second, .val (.double (f0_5 q1 q2 q3 q4 q5)), .second, .unset, .unset] [(.int (Jvm.Op.cmpValue (FP.dcmp (f0_4 q1 q2 q3 q4 q5) (FP.l2d (q5 &&& (4294967295 : Int64)))) Jvm.ClassFile.CmpOp.l))])) _
      refine XS.ifNo X13.here hx rfl (hb hby at_214) rfl ((if0 _ _).trans (teq h23).2) ?_
      show Steps p.tables e below (T13.setTop (mkF m 217 #[.val (.long q1), .second, .val (.long q2), .second, .val (.long q3), .second, .val (.long q4), .second, .val (.long q5), .second, .val (.long (fmax (1 : Int64) (q1 &&& (9223372036854775807 : Int64)))), .second, .val (.long (q2 &&& (9223372036854775807 : Int64))), .second, .val (.long (q3 &&& (9223372036854775807 : Int64))), .second, .val (.long ((q4 &&& (1048575 : Int64)) + (1 : Int64))), .second, .val (.long (f0_0 q1 q2 q3 q4 q5)), .second, .val (.long (q5 &&& (4294967295 : Int64))), .second, .val (.long ((f0_1 q1 q2 q3 q4 q5) + (f0_0 q1 q2 q3 q4 q5))), .second, .val (.ref o2), .val (.ref o5), .val (.ref o8), .val (.double (f0_2 q1 q2 q3 q4 q5)), .second, .val (.double (f0_3 q1 q2 q3 q4 q5)), .second, .val (.double (f0_4 q1 q2 q3 q4 q5)), .second, .val (.double (FP.l2d (q5 &&& (4294967295 : Int64)))), .second, .val (.double (f0_5 q1 q2 q3 q4 q5)), .second, .unset, .unset] [])) _
      refine XS.iconst X13.here hx rfl (hb hby at_217) ?_
      show Steps p.tables e below (T13.setTop (mkF m 218 #[.val (.long q1), .second, .val (.long q2), .second, .val (.long q3), .second, .val (.long q4), .second, .val (.long q5), .second, .val (.long (fmax (1 : Int64) (q1 &&& (9223372036854775807 : Int64)))), .second, .val (.long (q2 &&& (9223372036854775807 : Int64))), .second, .val (.long (q3 &&& (9223372036854775807 : Int64))), .second, .val (.long ((q4 &&& (1048575 : Int64)) + (1 : Int64))), .second, .val (.long (f0_0 q1 q2 q3 q4 q5)), .second, .val (.long (q5 &&& (4294967295 : Int64))), .second, .val (.long ((f0_1 q1 q2 q3 q4 q5) + (f0_0 q1 q2 q3 q4 q5))), .second, .val (.ref o2), .val (.ref o5), .val (.ref o8), .val (.double (f0_2 q1 q2 q3 q4 q5)), .second, .val (.double (f0_3 q1 q2 q3 q4 q5)), .second, .val (.double (f0_4 q1 q2 q3 q4 q5)), .second, .val (.double (FP.l2d (q5 &&& (4294967295 : Int64)))), .second, .val (.double (f0_5 q1 q2 q3 q4 q5)), .second, .unset, .unset] [(.int (1 : Int32))])) _
      refine XS.goto X13.here hx rfl (pc0 := 218) (pc' := 222) rfl (hb hby at_218) (by decide) (by decide) ?_
      show Steps p.tables e below (T13.setTop (mkF m 222 #[.val (.long q1), .second, .val (.long q2), .second, .val (.long q3), .second, .val (.long q4), .second, .val (.long q5), .second, .val (.long (fmax (1 : Int64) (q1 &&& (9223372036854775807 : Int64)))), .second, .val (.long (q2 &&& (9223372036854775807 : Int64))), .second, .val (.long (q3 &&& (9223372036854775807 : Int64))), .second, .val (.long ((q4 &&& (1048575 : Int64)) + (1 : Int64))), .second, .val (.long (f0_0 q1 q2 q3 q4 q5)), .second, .val (.long (q5 &&& (4294967295 : Int64))), .second, .val (.long ((f0_1 q1 q2 q3 q4 q5) + (f0_0 q1 q2 q3 q4 q5))), .second, .val (.ref o2), .val (.ref o5), .val (.ref o8), .val (.double (f0_2 q1 q2 q3 q4 q5)), .second, .val (.double (f0_3 q1 q2 q3 q4 q5)), .second, .val (.double (f0_4 q1 q2 q3 q4 q5)), .second, .val (.double (FP.l2d (q5 &&& (4294967295 : Int64)))), .second, .val (.double (f0_5 q1 q2 q3 q4 q5)), .second, .unset, .unset] [(.int (1 : Int32))])) _
      exact retN X13 hx (t := .boolean) Bd.returns (by simp) (hb hby at_222) hr
    · show Q0 Z q1 q2 q3 q4 q5 h0 n0 _ T13.heap _
      rw [e13]
      exact ⟨rfl, N13⟩
  · have h24 : (Jvm.Op.cmpValue (FP.dcmp (FP.l2d (q5 &&& (4294967295 : Int64))) (f0_4 q1 q2 q3 q4 q5)) Jvm.ClassFile.CmpOp.g) < (0 : Int32) := (by unfold f0_4 fmean; exact own_c228 (own_TT q1 q2 q3 q4 q5) h22)
    have h25 : (Jvm.Op.cmpValue (FP.dcmp (f0_4 q1 q2 q3 q4 q5) (FP.dadd (FP.l2d (q5 &&& (4294967295 : Int64))) FP.dconst1)) Jvm.ClassFile.CmpOp.g) < (0 : Int32) := (by unfold f0_4 fmean; exact own_c238 (own_TT q1 q2 q3 q4 q5))
    refine own_step (B := T13.setTop (mkF m 256 #[.val (.long q1), .second, .val (.long q2), .second, .val (.long q3), .second, .val (.long q4), .second, .val (.long q5), .second, .val (.long (fmax (1 : Int64) (q1 &&& (9223372036854775807 : Int64)))), .second, .val (.long (q2 &&& (9223372036854775807 : Int64))), .second, .val (.long (q3 &&& (9223372036854775807 : Int64))), .second, .val (.long ((q4 &&& (1048575 : Int64)) + (1 : Int64))), .second, .val (.long (f0_0 q1 q2 q3 q4 q5)), .second, .val (.long (q5 &&& (4294967295 : Int64))), .second, .val (.long ((f0_1 q1 q2 q3 q4 q5) + (f0_0 q1 q2 q3 q4 q5))), .second, .val (.ref o2), .val (.ref o5), .val (.ref o8), .val (.double (f0_2 q1 q2 q3 q4 q5)), .second, .val (.double (f0_3 q1 q2 q3 q4 q5)), .second, .val (.double (f0_4 q1 q2 q3 q4 q5)), .second, .val (.double (FP.l2d (q5 &&& (4294967295 : Int64)))), .second, .val (.double (f0_5 q1 q2 q3 q4 q5)), .second, .val (.long ((2 : Int64) * (f0_0 q1 q2 q3 q4 q5))), .second] [(.int (XT.cmpL ((2 : Int64) * (f0_0 q1 q2 q3 q4 q5)) ((q4 &&& (1048575 : Int64)) + (1 : Int64))))])) (fun t k => ?_) ?_
    · show Steps p.tables e below (T13.setTop (mkF m 206 #[.val (.long q1), .second, .val (.long q2), .second, .val (.long q3), .second, .val (.long q4), .second, .val (.long q5), .second, .val (.long (fmax (1 : Int64) (q1 &&& (9223372036854775807 : Int64)))), .second, .val (.long (q2 &&& (9223372036854775807 : Int64))), .second, .val (.long (q3 &&& (9223372036854775807 : Int64))), .second, .val (.long ((q4 &&& (1048575 : Int64)) + (1 : Int64))), .second, .val (.long (f0_0 q1 q2 q3 q4 q5)), .second, .val (.long (q5 &&& (4294967295 : Int64))), .second, .val (.long ((f0_1 q1 q2 q3 q4 q5) + (f0_0 q1 q2 q3 q4 q5))), .second, .val (.ref o2), .val (.ref o5), .val (.ref o8), .val (.double (f0_2 q1 q2 q3 q4 q5)), .second, .val (.double (f0_3 q1 q2 q3 q4 q5)), .second, .val (.double (f0_4 q1 q2 q3 q4 q5)), .second, .val (.double (FP.l2d (q5 &&& (4294967295 : Int64)))), .second, .val (.double (f0_5 q1 q2 q3 q4 q5)), .second, .unset, .unset] [(.int (XT.cmpL (f0_0 q1 q2 q3 q4 q5) (0 : Int64)))])) _
      refine XS.ifYes X13.here hx rfl (pc0 := 206) (pc' := 223) rfl (hb hby at_206) rfl ((if0 _ _).trans (feq (mt (own_ce _ _).mp h22)).2) (by decide) (by decide) ?_
      show Steps p.tables e below (T13.setTop (mkF m 223 #[.val (.long q1), .second, .val (.long q2), .second, .val (.long q3), .second, .val (.long q4), .second, .val (.long q5), .second, .val (.long (fmax (1 : Int64) (q1 &&& (9223372036854775807 : Int64)))), .second, .val (.long (q2 &&& (9223372036854775807 : Int64))), .second, .val (.long (q3 &&& (9223372036854775807 : Int64))), .second, .val (.long ((q4 &&& (1048575 : Int64)) + (1 : Int64))), .second, .val (.long (f0_0 q1 q2 q3 q4 q5)), .second, .val (.long (q5 &&& (4294967295 : Int64))), .second, .val (.long ((f0_1 q1 q2 q3 q4 q5) + (f0_0 q1 q2 q3 q4 q5))), .second, .val (.ref o2), .val (.ref o5), .val (.ref o8), .val (.double (f0_2 q1 q2 q3 q4 q5)), .second, .val (.double (f0_3 q1 q2 q3 q4 q5)), .second, .val (.double (f0_4 q1 q2 q3 q4 q5)), .second, .val (.double (FP.l2d (q5 &&& (4294967295 : Int64)))), .second, .val (.double (f0_5 q1 q2 q3 q4 q5)), .second, .unset, .unset] [])) _
      refine XS.dload X13.here hx rfl (hb hby at_223) rfl ?_
      show Steps p.tables e below (T13.setTop (mkF m 225 #[.val (.long q1), .second, .val (.long q2), .second, .val (.long q3), .second, .val (.long q4), .second, .val (.long q5), .second, .val (.long (fmax (1 : Int64) (q1 &&& (9223372036854775807 : Int64)))), .second, .val (.long (q2 &&& (9223372036854775807 : Int64))), .second, .val (.long (q3 &&& (9223372036854775807 : Int64))), .second, .val (.long ((q4 &&& (1048575 : Int64)) + (1 : Int64))), .second, .val (.long (f0_0 q1 q2 q3 q4 q5)), .second, .val (.long (q5 &&& (4294967295 : Int64))), .second, .val (.long ((f0_1 q1 q2 q3 q4 q5) + (f0_0 q1 q2 q3 q4 q5))), .second, .val (.ref o2), .val (.ref o5), .val (.ref o8), .val (.double (f0_2 q1 q2 q3 q4 q5)), .second, .val (.double (f0_3 q1 q2 q3 q4 q5)), .second, .val (.double (f0_4 q1 q2 q3 q4 q5)), .second, .val (.double (FP.l2d (q5 &&& (4294967295 : Int64)))), .second, .val (.double (f0_5 q1 q2 q3 q4 q5)), .second, .unset, .unset] [(.double (FP.l2d (q5 &&& (4294967295 : Int64))))])) _
      refine XS.dload X13.here hx rfl (hb hby at_225) rfl ?_
      show Steps p.tables e below (T13.setTop (mkF m 227 #[.val (.long q1), .second, .val (.long q2), .second, .val (.long q3), .second, .val (.long q4), .second, .val (.long q5), .second, .val (.long (fmax (1 : Int64) (q1 &&& (9223372036854775807 : Int64)))), .second, .val (.long (q2 &&& (9223372036854775807 : Int64))), .second, .val (.long (q3 &&& (9223372036854775807 : Int64))), .second, .val (.long ((q4 &&& (1048575 : Int64)) + (1 : Int64))), .second, .val (.long (f0_0 q1 q2 q3 q4 q5)), .second, .val (.long (q5 &&& (4294967295 : Int64))), .second, .val (.long ((f0_1 q1 q2 q3 q4 q5) + (f0_0 q1 q2 q3 q4 q5))), .second, .val (.ref o2), .val (.ref o5), .val (.ref o8), .val (.double (f0_2 q1 q2 q3 q4 q5)), .second, .val (.double (f0_3 q1 q2 q3 q4 q5)), .second, .val (.double (f0_4 q1 q2 q3 q4 q5)), .second, .val (.double (FP.l2d (q5 &&& (4294967295 : Int64)))), .second, .val (.double (f0_5 q1 q2 q3 q4 q5)), .second, .unset, .unset] [(.double (f0_4 q1 q2 q3 q4 q5)), (.double (FP.l2d (q5 &&& (4294967295 : Int64))))])) _
      refine XS.dcmpS X13.here hx rfl (hb hby at_227) rfl rfl ?_
      show Steps p.tables e below (T13.setTop (mkF m 228 #[.val (.long q1), .second, .val (.long q2), .second, .val (.long q3), .second, .val (.long q4), .second, .val (.long q5), .second, .val (.long (fmax (1 : Int64) (q1 &&& (9223372036854775807 : Int64)))), .second, .val (.long (q2 &&& (9223372036854775807 : Int64))), .second, .val (.long (q3 &&& (9223372036854775807 : Int64))), .second, .val (.long ((q4 &&& (1048575 : Int64)) + (1 : Int64))), .second, .val (.long (f0_0 q1 q2 q3 q4 q5)), .second, .val (.long (q5 &&& (4294967295 : Int64))), .second, .val (.long ((f0_1 q1 q2 q3 q4 q5) + (f0_0 q1 q2 q3 q4 q5))), .second, .val (.ref o2), .val (.ref o5), .val (.ref o8), .val (.double (f0_2 q1 q2 q3 q4 q5)), .second, .val (.double (f0_3 q1 q2 q3 q4 q5)), .second, .val (.double (f0_4 q1 q2 q3 q4 q5)), .second, .val (.double (FP.l2d (q5 &&& (4294967295 : Int64)))), .second, .val (.double (f0_5 q1 q2 q3 q4 q5)), .second, .unset, .unset] [(.int (Jvm.Op.cmpValue (FP.dcmp (FP.l2d (q5 &&& (4294967295 : Int64))) (f0_4 q1 q2 q3 q4 q5)) Jvm.ClassFile.CmpOp.g))])) _
      refine XS.ifNo X13.here hx rfl (hb hby at_228) rfl ((if0 _ _).trans (tlt h24).2.1) ?_
      show Steps p.tables e below (T13.setTop (mkF m 231 #[.val (.long q1), .second, .val (.long q2), .second, .val (.long q3), .second, .val (.long q4), .second, .val (.long q5), .second, .val (.long (fmax (1 : Int64) (q1 &&& (9223372036854775807 : Int64)))), .second, .val (.long (q2 &&& (9223372036854775807 : Int64))), .second, .val (.long (q3 &&& (9223372036854775807 : Int64))), .second, .val (.long ((q4 &&& (1048575 : Int64)) + (1 : Int64))), .second, .val (.long (f0_0 q1 q2 q3 q4 q5)), .second, .val (.long (q5 &&& (4294967295 : Int64))), .second, .val (.long ((f0_1 q1 q2 q3 q4 q5) + (f0_0 q1 q2 q3 q4 q5))), .second, .val (.ref o2), .val (.ref o5), .val (.ref o8), .val (.double (f0_2 q1 q2 q3 q4 q5)), .second, .val (.double (f0_3 q1 q2 q3 q4 q5)), .second, .val (.double (f0_4 q1 q2 q3 q4 q5)), .second, .val (.double (FP.l2d (q5 &&& (4294967295 : Int64)))), .second, .val (.double (f0_5 q1 q2 q3 q4 q5)), .second, .unset, .unset] [])) _
      refine XS.dload X13.here hx rfl (hb hby at_231) rfl ?_
      show Steps p.tables e below (T13.setTop (mkF m 233 #[.val (.long q1), .second, .val (.long q2), .second, .val (.long q3), .second, .val (.long q4), .second, .val (.long q5), .second, .val (.long (fmax (1 : Int64) (q1 &&& (9223372036854775807 : Int64)))), .second, .val (.long (q2 &&& (9223372036854775807 : Int64))), .second, .val (.long (q3 &&& (9223372036854775807 : Int64))), .second, .val (.long ((q4 &&& (1048575 : Int64)) + (1 : Int64))), .second, .val (.long (f0_0 q1 q2 q3 q4 q5)), .second, .val (.long (q5 &&& (4294967295 : Int64))), .second, .val (.long ((f0_1 q1 q2 q3 q4 q5) + (f0_0 q1 q2 q3 q4 q5))), .second, .val (.ref o2), .val (.ref o5), .val (.ref o8), .val (.double (f0_2 q1 q2 q3 q4 q5)), .second, .val (.double (f0_3 q1 q2 q3 q4 q5)), .second, .val (.double (f0_4 q1 q2 q3 q4 q5)), .second, .val (.double (FP.l2d (q5 &&& (4294967295 : Int64)))), .second, .val (.double (f0_5 q1 q2 q3 q4 q5)), .second, .unset, .unset] [(.double (f0_4 q1 q2 q3 q4 q5))])) _
      refine XS.dload X13.here hx rfl (hb hby at_233) rfl ?_
      show Steps p.tables e below (T13.setTop (mkF m 235 #[.val (.long q1), .second, .val (.long q2), .second, .val (.long q3), .second, .val (.long q4), .second, .val (.long q5), .second, .val (.long (fmax (1 : Int64) (q1 &&& (9223372036854775807 : Int64)))), .second, .val (.long (q2 &&& (9223372036854775807 : Int64))), .second, .val (.long (q3 &&& (9223372036854775807 : Int64))), .second, .val (.long ((q4 &&& (1048575 : Int64)) + (1 : Int64))), .second, .val (.long (f0_0 q1 q2 q3 q4 q5)), .second, .val (.long (q5 &&& (4294967295 : Int64))), .second, .val (.long ((f0_1 q1 q2 q3 q4 q5) + (f0_0 q1 q2 q3 q4 q5))), .second, .val (.ref o2), .val (.ref o5), .val (.ref o8), .val (.double (f0_2 q1 q2 q3 q4 q5)), .second, .val (.double (f0_3 q1 q2 q3 q4 q5)), .second, .val (.double (f0_4 q1 q2 q3 q4 q5)), .second, .val (.double (FP.l2d (q5 &&& (4294967295 : Int64)))), .second, .val (.double (f0_5 q1 q2 q3 q4 q5)), .second, .unset, .unset] [(.double (FP.l2d (q5 &&& (4294967295 : Int64)))), (.double (f0_4 q1 q2 q3 q4 q5))])) _
      refine XS.dconst1 X13.here hx rfl (hb hby at_235) rfl ?_
      show Steps p.tables e below (T13.setTop (mkF m 236 #[.val (.long q1), .second, .val (.long q2), .second, .val (.long q3), .second, .val (.long q4), .second, .val (.long q5), .second, .val (.long (fmax (1 : Int64) (q1 &&& (9223372036854775807 : Int64)))), .second, .val (.long (q2 &&& (9223372036854775807 : Int64))), .second, .val (.long (q3 &&& (9223372036854775807 : Int64))), .second, .val (.long ((q4 &&& (1048575 : Int64)) + (1 : Int64))), .second, .val (.long (f0_0 q1 q2 q3 q4 q5)), .second, .val (.long (q5 &&& (4294967295 : Int64))), .second, .val (.long ((f0_1 q1 q2 q3 q4 q5) + (f0_0 q1 q2 q3 q4 q5))), .second, .val (.ref o2), .val (.ref o5), .val (.ref o8), .val (.double (f0_2 q1 q2 q3 q4 q5)), .second, .val (.double (f0_3 q1 q2 q3 q4 q5)), .second, .val (.double (f0_4 q1 q2 q3 q4 q5)), .second, .val (.double (FP.l2d (q5 &&& (4294967295 : Int64)))), .second, .val (.double (f0_5 q1 q2 q3 q4 q5)), .second, .unset, .unset] [(.double FP.dconst1), (.double (FP.l2d (q5 &&& (4294967295 : Int64)))), (.double (f0_4 q1 q2 q3 q4 q5))])) _
      refine XS.daddS X13.here hx rfl (hb hby at_236) rfl (Jvm.Free.Fl.dadd_out (Jvm.Free.Fl.l2d_fin _).noNaN (show (FP.dconst1 &&& (0x7fffffffffffffff : UInt64)) < (0x7ff0000000000000 : UInt64) by decide)) rfl ?_
      show Steps p.tables e below (T13.setTop (mkF m 237 #[.val (.long q1), .second, .val (.long q2), .second, .val (.long q3), .second, .val (.long q4), .second, .val (.long q5), .second, .val (.long (fmax (1 : Int64) (q1 &&& (9223372036854775807 : Int64)))), .second, .val (.long (q2 &&& (9223372036854775807 : Int64))), .second, .val (.long (q3 &&& (9223372036854775807 : Int64))), .second, .val (.long ((q4 &&& (1048575 : Int64)) + (1 : Int64))), .second, .val (.long (f0_0 q1 q2 q3 q4 q5)), .second, .val (.long (q5 &&& (4294967295 : Int64))), .second, .val (.long ((f0_1 q1 q2 q3 q4 q5) + (f0_0 q1 q2 q3 q4 q5))), .second, .val (.ref o2), .val (.ref o5), .val (.ref o8), .val (.double (f0_2 q1 q2 q3 q4 q5)), .second, .val (.double (f0_3 q1 q2 q3 q4 q5)), .second, .val (.double (f0_4 q1 q2 q3 q4 q5)), .second, .val (.double (FP.l2d (q5 &&& (4294967295 : Int64)))), .second, .val (.double (f0_5 q1 q2 q3 q4 q5)), .second, .unset, .unset] [(.double (FP.dadd (FP.l2d (q5 &&& (4294967295 : Int64))) FP.dconst1)), (.double (f0_4 q1 q2 q3 q4 q5))])) _
      refine XS.dcmpS X13.here hx rfl (hb hby at_237) rfl rfl ?_
      show Steps p.tables e below (T13.setTop (mkF m 238 #[.val (.long q1), .second, .val (.long q2), .second, .val (.long q3), .second, .val (.long q4), .second, .val (.long q5), .second, .val (.long (fmax (1 : Int64) (q1 &&& (9223372036854775807 : Int64)))), .second, .val (.long (q2 &&& (9223372036854775807 : Int64))), .second, .val (.long (q3 &&& (9223372036854775807 : Int64))), .second, .val (.long ((q4 &&& (1048575 : Int64)) + (1 : Int64))), .second, .val (.long (f0_0 q1 q2 q3 q4 q5)), .second, .val (.long (q5 &&& (4294967295 : Int64))), .second, .val (.long ((f0_1 q1 q2 q3 q4 q5) + (f0_0 q1 q2 q3 q4 q5))), .second, .val (.ref o2), .val (.ref o5), .val (.ref o8), .val (.double (f0_2 q1 q2 q3 q4 q5)), .second, .val (.double (f0_3 q1 q2 q3 q4 q5)), .second, .val (.double (f0_4 q1 q2 q3 q4 q5)), .second, .val (.double (FP.l2d (q5 &&& (4294967295 : Int64)))), .second, .val (.double (f0_5 q1 q2 q3 q4 q5)), .second, .unset, .unset] [(.int (Jvm.Op.cmpValue (FP.dcmp (f0_4 q1 q2 q3 q4 q5) (FP.dadd (FP.l2d (q5 &&& (4294967295 : Int64))) FP.dconst1)) Jvm.ClassFile.CmpOp.g))])) _
      refine XS.ifYes X13.here hx rfl (pc0 := 238) (pc' := 243) rfl (hb hby at_238) rfl ((if0 _ _).trans (tlt h25).1) (by decide) (by decide) ?_
      show Steps p.tables e below (T13.setTop (mkF m 243 #[.val (.long q1), .second, .val (.long q2), .second, .val (.long q3), .second, .val (.long q4), .second, .val (.long q5), .second, .val (.long (fmax (1 : Int64) (q1 &&& (9223372036854775807 : Int64)))), .second, .val (.long (q2 &&& (9223372036854775807 : Int64))), .second, .val (.long (q3 &&& (9223372036854775807 : Int64))), .second, .val (.long ((q4 &&& (1048575 : Int64)) + (1 : Int64))), .second, .val (.long (f0_0 q1 q2 q3 q4 q5)), .second, .val (.long (q5 &&& (4294967295 : Int64))), .second, .val (.long ((f0_1 q1 q2 q3 q4 q5) + (f0_0 q1 q2 q3 q4 q5))), .second, .val (.ref o2), .val (.ref o5), .val (.ref o8), .val (.double (f0_2 q1 q2 q3 q4 q5)), .second, .val (.double (f0_3 q1 q2 q3 q4 q5)), .second, .val (.double (f0_4 q1 q2 q3 q4 q5)), .second, .val (.double (FP.l2d (q5 &&& (4294967295 : Int64)))), .second, .val (.double (f0_5 q1 q2 q3 q4 q5)), .second, .unset, .unset] [])) _
      refine X13.ldc2Long hx hown (mvT hZ (hw _ (List.mem_of_getElem? (i := 38) rfl))) (g := (mkF m 243 #[.val (.long q1), .second, .val (.long q2), .second, .val (.long q3), .second, .val (.long q4), .second, .val (.long q5), .second, .val (.long (fmax (1 : Int64) (q1 &&& (9223372036854775807 : Int64)))), .second, .val (.long (q2 &&& (9223372036854775807 : Int64))), .second, .val (.long (q3 &&& (9223372036854775807 : Int64))), .second, .val (.long ((q4 &&& (1048575 : Int64)) + (1 : Int64))), .second, .val (.long (f0_0 q1 q2 q3 q4 q5)), .second, .val (.long (q5 &&& (4294967295 : Int64))), .second, .val (.long ((f0_1 q1 q2 q3 q4 q5) + (f0_0 q1 q2 q3 q4 q5))), .second, .val (.ref o2), .val (.ref o5), .val (.ref o8), .val (.double (f0_2 q1 q2 q3 q4 q5)), .second, .val (.double (f0_3 q1 q2 q3 q4 q5)), .second, .val (.double (f0_4 q1 q2 q3 q4 q5)), .second, .val (.double (FP.l2d (q5 &&& (4294967295 : Int64)))), .second, .val (.double (f0_5 q1 q2 q3 q4 q5)), .second, .unset, .unset] [])) rfl (hb hby at_243) _ ?_
      show Steps p.tables e below (T13.setTop (mkF m 246 #[.val (.long q1), .second, .val (.long q2), .second, .val (.long q3), .second, .val (.long q4), .second, .val (.long q5), .second, .val (.long (fmax (1 : Int64) (q1 &&& (9223372036854775807 : Int64)))), .second, .val (.long (q2 &&& (9223372036854775807 : Int64))), .second, .val (.long (q3 &&& (9223372036854775807 : Int64))), .second, .val (.long ((q4 &&& (1048575 : Int64)) + (1 : Int64))), .second, .val (.long (f0_0 q1 q2 q3 q4 q5)), .second, .val (.long (q5 &&& (4294967295 : Int64))), .second, .val (.long ((f0_1 q1 q2 q3 q4 q5) + (f0_0 q1 q2 q3 q4 q5))), .second, .val (.ref o2), .val (.ref o5), .val (.ref o8), .val (.double (f0_2 q1 q2 q3 q4 q5)), .second, .val (.double (f0_3 q1 q2 q3 q4 q5)), .second, .val (.double (f0_4 q1 q2 q3 q4 q5)), .second, .val (.double (FP.l2d (q5 &&& (4294967295 : Int64)))), .second, .val (.double (f0_5 q1 q2 q3 q4 q5)), .second, .unset, .unset] [(.long (2 : Int64))])) _
      refine XT.lload X13.here hx rfl (hb hby at_246) rfl ?_
      show Steps p.tables e below (T13.setTop (mkF m 248 #[.val (.long q1), .second, .val (.long q2), .second, .val (.long q3), .second, .val (.long q4), .second, .val (.long q5), .second, .val (.long (fmax (1 : Int64) (q1 &&& (9223372036854775807 : Int64)))), .second, .val (.long (q2 &&& (9223372036854775807 : Int64))), .second, .val (.long (q3 &&& (9223372036854775807 : Int64))), .second, .val (.long ((q4 &&& (1048575 : Int64)) + (1 : Int64))), .second, .val (.long (f0_0 q1 q2 q3 q4 q5)), .second, .val (.long (q5 &&& (4294967295 : Int64))), .second, .val (.long ((f0_1 q1 q2 q3 q4 q5) + (f0_0 q1 q2 q3 q4 q5))), .second, .val (.ref o2), .val (.ref o5), .val (.ref o8), .val (.double (f0_2 q1 q2 q3 q4 q5)), .second, .val (.double (f0_3 q1 q2 q3 q4 q5)), .second, .val (.double (f0_4 q1 q2 q3 q4 q5)), .second, .val (.double (FP.l2d (q5 &&& (4294967295 : Int64)))), .second, .val (.double (f0_5 q1 q2 q3 q4 q5)), .second, .unset, .unset] [(.long (f0_0 q1 q2 q3 q4 q5)), (.long (2 : Int64))])) _
      refine XT.lmul X13.here hx rfl (hb hby at_248) rfl ?_
      show Steps p.tables e below (T13.setTop (mkF m 249 #[.val (.long q1), .second, .val (.long q2), .second, .val (.long q3), .second, .val (.long q4), .second, .val (.long q5), .second, .val (.long (fmax (1 : Int64) (q1 &&& (9223372036854775807 : Int64)))), .second, .val (.long (q2 &&& (9223372036854775807 : Int64))), .second, .val (.long (q3 &&& (9223372036854775807 : Int64))), .second, .val (.long ((q4 &&& (1048575 : Int64)) + (1 : Int64))), .second, .val (.long (f0_0 q1 q2 q3 q4 q5)), .second, .val (.long (q5 &&& (4294967295 : Int64))), .second, .val (.long ((f0_1 q1 q2 q3 q4 q5) + (f0_0 q1 q2 q3 q4 q5))), .second, .val (.ref o2), .val (.ref o5), .val (.ref o8), .val (.double (f0_2 q1 q2 q3 q4 q5)), .second, .val (.double (f0_3 q1 q2 q3 q4 q5)), .second, .val (.double (f0_4 q1 q2 q3 q4 q5)), .second, .val (.double (FP.l2d (q5 &&& (4294967295 : Int64)))), .second, .val (.double (f0_5 q1 q2 q3 q4 q5)), .second, .unset, .unset] [(.long ((2 : Int64) * (f0_0 q1 q2 q3 q4 q5)))])) _
      refine XT.lstore X13.here hx rfl (hb hby at_249) rfl (l' := #[.val (.long q1), .second, .val (.long q2), .second, .val (.long q3), .second, .val (.long q4), .second, .val (.long q5), .second, .val (.long (fmax (1 : Int64) (q1 &&& (9223372036854775807 : Int64)))), .second, .val (.long (q2 &&& (9223372036854775807 : Int64))), .second, .val (.long (q3 &&& (9223372036854775807 : Int64))), .second, .val (.long ((q4 &&& (1048575 : Int64)) + (1 : Int64))), .second, .val (.long (f0_0 q1 q2 q3 q4 q5)), .second, .val (.long (q5 &&& (4294967295 : Int64))), .second, .val (.long ((f0_1 q1 q2 q3 q4 q5) + (f0_0 q1 q2 q3 q4 q5))), .second, .val (.ref o2), .val (.ref o5), .val (.ref o8), .val (.double (f0_2 q1 q2 q3 q4 q5)), .second, .val (.double (f0_3 q1 q2 q3 q4 q5)), .second, .val (.double (f0_4 q1 q2 q3 q4 q5)), .second, .val (.double (FP.l2d (q5 &&& (4294967295 : Int64)))), .second, .val (.double (f0_5 q1 q2 q3 q4 q5)), .second, .val (.long ((2 : Int64) * (f0_0 q1 q2 q3 q4 q5))), .second]) rfl ?_
      show Steps p.tables e below (T13.setTop (mkF m 251 #[.val (.long q1), .second, .val (.long q2), .second, .val (.long q3), .second, .val (.long q4), .second, .val (.long q5), .second, .val (.long (fmax (1 : Int64) (q1 &&& (9223372036854775807 : Int64)))), .second, .val (.long (q2 &&& (9223372036854775807 : Int64))), .second, .val (.long (q3 &&& (9223372036854775807 : Int64))), .second, .val (.long ((q4 &&& (1048575 : Int64)) + (1 : Int64))), .second, .val (.long (f0_0 q1 q2 q3 q4 q5)), .second, .val (.long (q5 &&& (4294967295 : Int64))), .second, .val (.long ((f0_1 q1 q2 q3 q4 q5) + (f0_0 q1 q2 q3 q4 q5))), .second, .val (.ref o2), .val (.ref o5), .val (.ref o8), .val (.double (f0_2 q1 q2 q3 q4 q5)), .second, .val (.double (f0_3 q1 q2 q3 q4 q5)), .second, .val (.double (f0_4 q1 q2 q3 q4 q5)), .second, .val (.double (FP.l2d (q5 &&& (4294967295 : Int64)))), .second, .val (.double (f0_5 q1 q2 q3 q4 q5)), .second, .val (.long ((2 : Int64) * (f0_0 q1 q2 q3 q4 q5))), .second] [])) _
      refine XT.lload X13.here hx rfl (hb hby at_251) rfl ?_
      show Steps p.tables e below (T13.setTop (mkF m 253 #[.val (.long q1), .second, .val (.long q2), .second, .val (.long q3), .second, .val (.long q4), .second, .val (.long q5), .second, .val (.long (fmax (1 : Int64) (q1 &&& (9223372036854775807 : Int64)))), .second, .val (.long (q2 &&& (9223372036854775807 : Int64))), .second, .val (.long (q3 &&& (9223372036854775807 : Int64))), .second, .val (.long ((q4 &&& (1048575 : Int64)) + (1 : Int64))), .second, .val (.long (f0_0 q1 q2 q3 q4 q5)), .second, .val (.long (q5 &&& (4294967295 : Int64))), .second, .val (.long ((f0_1 q1 q2 q3 q4 q5) + (f0_0 q1 q2 q3 q4 q5))), .second, .val (.ref o2), .val (.ref o5), .val (.ref o8), .val (.double (f0_2 q1 q2 q3 q4 q5)), .second, .val (.double (f0_3 q1 q2 q3 q4 q5)), .second, .val (.double (f0_4 q1 q2 q3 q4 q5)), .second, .val (.double (FP.l2d (q5 &&& (4294967295 : Int64)))), .second, .val (.double (f0_5 q1 q2 q3 q4 q5)), .second, .val (.long ((2 : Int64) * (f0_0 q1 q2 q3 q4 q5))), .second] [(.long ((2 : Int64) * (f0_0 q1 q2 q3 q4 q5)))])) _
      refine XT.lload X13.here hx rfl (hb hby at_253) rfl ?_
      show Steps p.tables e below (T13.setTop (mkF m 255 #[.val (.long q1), .second, .val (.long q2), .second, .val (.long q3), .second, .val (.long q4), .second, .val (.long q5), .second, .val (.long (fmax (1 : Int64) (q1 &&& (9223372036854775807 : Int64)))), .second, .val (.long (q2 &&& (9223372036854775807 : Int64))), .second, .val (.long (q3 &&& (9223372036854775807 : Int64))), .second, .val (.long ((q4 &&& (1048575 : Int64)) + (1 : Int64))), .second, .val (.long (f0_0 q1 q2 q3 q4 q5)), .second, .val (.long (q5 &&& (4294967295 : Int64))), .second, .val (.long ((f0_1 q1 q2 q3 q4 q5) + (f0_0 q1 q2 q3 q4 q5))), .second, .val (.ref o2), .val (.ref o5), .val (.ref o8), .val (.double (f0_2 q1 q2 q3 q4 q5)), .second, .val (.double (f0_3 q1 q2 q3 q4 q5)), .second, .val (.double (f0_4 q1 q2 q3 q4 q5)), .second, .val (.double (FP.l2d (q5 &&& (4294967295 : Int64)))), .second, .val (.double (f0_5 q1 q2 q3 q4 q5)), .second, .val (.long ((2 : Int64) * (f0_0 q1 q2 q3 q4 q5))), .second] [(.long ((q4 &&& (1048575 : Int64)) + (1 : Int64))), (.long ((2 : Int64) * (f0_0 q1 q2 q3 q4 q5)))])) _
      refine XT.lcmp X13.here hx rfl (hb hby at_255) rfl ?_
      exact k
    by_cases h26 : ((2 : Int64) * (f0_0 q1 q2 q3 q4 q5)) = ((q4 &&& (1048575 : Int64)) + (1 : Int64))
    · have h27 : (Jvm.Op.cmpValue (FP.dcmp (f0_4 q1 q2 q3 q4 q5) (f0_5 q1 q2 q3 q4 q5)) Jvm.ClassFile.CmpOp.l) = (0 : Int32) := (by unfold f0_4 f0_5 fmean; exact own_c264 (own_TT q1 q2 q3 q4 q5) h26)
      obtain ⟨fs, hr, hrun, hended, hW, hsame⟩ := X13.leave (v := some (.int (1 : Int32))) (fun h => by rw [Bd.returns] at h; cases h)
      refine ⟨_, _, ?_, hrun, hended, _, _, rfl, ?_, ⟨_, rfl⟩, hW, hsame.mono (by decide) (by decide)⟩
      · show Steps p.tables e below (T13.setTop (mkF m 256 #[.val (.long q1), .second, .val (.long q2), .second, .val (.long q3), .second, .val (.long q4), .second, .val (.long q5), .second, .val (.long (fmax (1 : Int64) (q1 &&& (9223372036854775807 : Int64)))), .second, .val (.long (q2 &&& (9223372036854775807 : Int64))), .second, .val (.long (q3 &&& (9223372036854775807 : Int64))), .second, .val (.long ((q4 &&& (1048575 : Int64)) + (1 : Int64))), .second, .val (.long (f0_0 q1 q2 q3 q4 q5)), .second, .val (.long (q5 &&& (4294967295 : Int64))), .second, .val (.long ((f0_1 q1 q2 q3 q4 q5) + (f0_0 q1 q2 q3 q4 q5))), .second, .val (.ref o2), .val (.ref o5), .val (.ref o8), .val (.double (f0_2 q1 q2 q3 q4 q5)), .second, .val (.double (f0_3 q1 q2 q3 q4 q5)), .second, .val (.double (f0_4 q1 q2 q3 q4 q5)), .second, .val (.double (FP.l2d (q5 &&& (4294967295 : Int64)))), .second, .val (.double (f0_5 q1 q2 q3 q4 q5)), .second, .val (.long ((2 : Int64) * (f0_0 q1 q2 q3 q4 q5))), .second] [(.int (XT.cmpL ((2 : Int64) * (f0_0 q1 q2 q3 q4 q5)) ((q4 &&& (1048575 : Int64)) + (1 : Int64))))])) _
        refine XS.ifNo X13.here hx rfl (hb hby at_256) rfl ((if0 _ _).trans (teq ((own_ce _ _).mpr h26)).2) ?_
        show Steps p.tables e below (T13.setTop (mkF m 259 #[.val (.long q1), .second, .val (.long q2), .second, .val (.long q3), .second, .val (.long q4), .second, .val (.long q5), .second, .val (.long (fmax (1 : Int64) (q1 &&& (9223372036854775807 : Int64)))), .second, .val (.long (q2 &&& (9223372036854775807 : Int64))), .second, .val (.long (q3 &&& (9223372036854775807 : Int64))), .second, .val (.long ((q4 &&& (1048575 : Int64)) + (1 : Int64))), .second, .val (.long (f0_0 q1 q2 q3 q4 q5)), .second, .val (.long (q5 &&& (4294967295 : Int64))), .second, .val (.long ((f0_1 q1 q2 q3 q4 q5) + (f0_0 q1 q2 q3 q4 q5))), .second, .val (.ref o2), .val (.ref o5), .val (.ref o8), .val (.double (f0_2 q1 q2 q3 q4 q5)), .second, .val (.double (f0_3 q1 q2 q3 q4 q5)), .second, .val (.double (f0_4 q1 q2 q3 q4 q5)), .second, .val (.double (FP.l2d (q5 &&& (4294967295 : Int64)))), .second, .val (.double (f0_5 q1 q2 q3 q4 q5)), .second, .val (.long ((2 : Int64) * (f0_0 q1 q2 q3 q4 q5))), .second] [])) _
        refine XS.dload X13.here hx rfl (hb hby at_259) rfl ?_
        show Steps p.tables e below (T13.setTop (mkF m 261 #[.val (.long q1), .second, .val (.long q2), .second, .val (.long q3), .second, .val (.long q4), .second, .val (.long q5), .second, .val (.long (fmax (1 : Int64) (q1 &&& (9223372036854775807 : Int64)))), .second, .val (.long (q2 &&& (9223372036854775807 : Int64))), .second, .val (.long (q3 &&& (9223372036854775807 : Int64))), .second, .val (.long ((q4 &&& (1048575 : Int64)) + (1 : Int64))), .second, .val (.long (f0_0 q1 q2 q3 q4 q5)), .second, .val (.long (q5 &&& (4294967295 : Int64))), .second, .val (.long ((f0_1 q1 q2 q3 q4 q5) + (f0_0 q1 q2 q3 q4 q5))), .second, .val (.ref o2), .val (.ref o5), .val (.ref o8), .val (.double (f0_2 q1 q2 q3 q4 q5)), .second, .val (.double (f0_3 q1 q2 q3 q4 q5)), .second, .val (.double (f0_4 q1 q2 q3 q4 q5)), .second, .val (.double (FP.l2d (q5 &&& (4294967295 : Int64)))), .second, .val (.double (f0_5 q1 q2 q3 q4 q5)), .second, .val (.long ((2 : Int64) * (f0_0 q1 q2 q3 q4 q5))), .second] [(.double (f0_4 q1 q2 q3 q4 q5))])) _
        refine XS.dload X13.here hx rfl (hb hby at_261) rfl ?_
        show Steps p.tables e below (T13.setTop (mkF m 263 #[.val (.long q1), .second, .val (.long q2), .second, .val (.long q3), .second, .val (.long q4), .second, .val (.long q5), .second, .val (.long (fmax (1 : Int64) (q1 &&& (9223372036854775807 : Int64)))), .second, .val (.long (q2 &&& (9223372036854775807 : Int64))), .second, .val (.long (q3 &&& (9223372036854775807 : Int64))), .second, .val (.long ((q4 &&& (1048575 : Int64)) + (1 : Int64))), .second, .val (.long (f0_0 q1 q2 q3 q4 q5)), .second, .val (.long (q5 &&& (4294967295 : Int64))), .second, .val (.long ((f0_1 q1 q2 q3 q4 q5) + (f0_0 q1 q2 q3 q4 q5))), .second, .val (.ref o2), .val (.ref o5), .val (.ref o8), .val (.double (f0_2 q1 q2 q3 q4 q5)), .second, .val (.double (f0_3 q1 q2 q3 q4 q5)), .second, .val (.double (f0_4 q1 q2 q3 q4 q5)), .second, .val (.double (FP.l2d (q5 &&& (4294967295 : Int64)))), .second, .val (.double (f0_5 q1 q2 q3 q4 q5)), .second, .val (.long ((2 : Int64) * (f0_0 q1 q2 q3 q4 q5))), .second] [(.double (f0_5 q1 q2 q3 q4 q5)), (.double (f0_4 q1 q2 q3 q4 q5))])) _
        refine XS.dcmpS X13.here hx rfl (hb hby at_263) rfl rfl ?_
        show Steps p.tables e below (T13.setTop (mkF m 264 #[.val (.long q1), .second, .val (.long q2), .second, .val (.long q3), .second, .val (.long q4), .second, .val (.long q5), .second, .val (.long (fmax (1 : Int64) (q1 &&& (9223372036854775807 : Int64)))), .second, .val (.long (q2 &&& (9223372036854775807 : Int64))), .second, .val (.long (q3 &&& (9223372036854775807 : Int64))), .second, .val (.long ((q4 &&& (1048575 : Int64)) + (1 : Int64))), .second, .val (.long (f0_0 q1 q2 q3 q4 q5)), .second, .val (.long (q5 &&& (4294967295 : Int64))), .second, .val (.long ((f0_1 q1 q2 q3 q4 q5) + (f0_0 q1 q2 q3 q4 q5))), .second, .val (.ref o2), .val (.ref o5), .val (.ref o8), .val (.double (f0_2 q1 q2 q3 q4 q5)), .second, .val (.double (f0_3 q1 q2 q3 q4 q5)), .second, .val (.double (f0_4 q1 q2 q3 q4 q5)), .second, .val (.double (FP.l2d (q5 &&& (4294967295 : Int64)))), .second, .val (.double (f0_5 q1 q2 q3 q4 q5)), .second, .val (.long ((2 : Int64) * (f0_0 q1 q2 q3 q4 q5))), .second] [(.int (Jvm.Op.cmpValue (FP.dcmp (f0_4 q1 q2 q3 q4 q5) (f0_5 q1 q2 q3 q4 q5)) Jvm.ClassFile.CmpOp.l))])) _
        refine XS.ifNo X13.here hx rfl (hb hby at_264) rfl ((if0 _ _).trans (teq h27).2) ?_
        show Steps p.tables e below (T13.setTop (mkF m 267 #[.val (.long q1), .second, .val (.long q2), .second, .val (.long q3), .second, .val (.long q4), .second, .val (.long q5), .second, .val (.long (fmax (1 : Int64) (q1 &&& (9223372036854775807 : Int64)))), .second, .val (.long (q2 &&& (9223372036854775807 : Int64))), .second, .val (.long (q3 &&& (9223372036854775807 : Int64))), .second, .val (.long ((q4 &&& (1048575 : Int64)) + (1 : Int64))), .second, .val (.long (f0_0 q1 q2 q3 q4 q5)), .second, .val (.long (q5 &&& (4294967295 : Int64))), .second, .val (.long ((f0_1 q1 q2 q3 q4 q5) + (f0_0 q1 q2 q3 q4 q5))), .second, .val (.ref o2), .val (.ref o5), .val (.ref o8), .val (.double (f0_2 q1 q2 q3 q4 q5)), .second, .val (.double (f0_3 q1 q2 q3 q4 q5)), .second, .val (.double (f0_4 q1 q2 q3 q4 q5)), .second, .val (.double (FP.l2d (q5 &&& (4294967295 : Int64)))), .second, .val (.double (f0_5 q1 q2 q3 q4 q5)), .second, .val (.long ((2 : Int64) * (f0_0 q1 q2 q3 q4 q5))), .second] [])) _
        refine XS.iconst X13.here hx rfl (hb hby at_267) ?_
        show Steps p.tables e below (T13.setTop (mkF m 268 #[.val (.long q1), .second, .val (.long q2), .second, .val (.long q3), .second, .val (.long q4), .second, .val (.long q5), .second, .val (.long (fmax (1 : Int64) (q1 &&& (9223372036854775807 : Int64)))), .second, .val (.long (q2 &&& (9223372036854775807 : Int64))), .second, .val (.long (q3 &&& (9223372036854775807 : Int64))), .second, .val (.long ((q4 &&& (1048575 : Int64)) + (1 : Int64))), .second, .val (.long (f0_0 q1 q2 q3 q4 q5)), .second, .val (.long (q5 &&& (4294967295 : Int64))), .second, .val (.long ((f0_1 q1 q2 q3 q4 q5) + (f0_0 q1 q2 q3 q4 q5))), .second, .val (.ref o2), .val (.ref o5), .val (.ref o8), .val (.double (f0_2 q1 q2 q3 q4 q5)), .second, .val (.double (f0_3 q1 q2 q3 q4 q5)), .second, .val (.double (f0_4 q1 q2 q3 q4 q5)), .second, .val (.double (FP.l2d (q5 &&& (4294967295 : Int64)))), .second, .val (.double (f0_5 q1 q2 q3 q4 q5)), .second, .val (.long ((2 : Int64) * (f0_0 q1 q2 q3 q4 q5))), .second] [(.int (1 : Int32))])) _
        refine XS.goto X13.here hx rfl (pc0 := 268) (pc' := 272) rfl (hb hby at_268) (by decide) (by decide) ?_
        show Steps p.tables e below (T13.setTop (mkF m 272 #[.val (.long q1), .second, .val (.long q2), .second, .val (.long q3), .second, .val (.long q4), .second, .val (.long q5), .second, .val (.long (fmax (1 : Int64) (q1 &&& (9223372036854775807 : Int64)))), .second, .val (.long (q2 &&& (9223372036854775807 : Int64))), .second, .val (.long (q3 &&& (9223372036854775807 : Int64))), .second, .val (.long ((q4 &&& (1048575 : Int64)) + (1 : Int64))), .second, .val (.long (f0_0 q1 q2 q3 q4 q5)), .second, .val (.long (q5 &&& (4294967295 : Int64))), .second, .val (.long ((f0_1 q1 q2 q3 q4 q5) + (f0_0 q1 q2 q3 q4 q5))), .second, .val (.ref o2), .val (.ref o5), .val (.ref o8), .val (.double (f0_2 q1 q2 q3 q4 q5)), .second, .val (.double (f0_3 q1 q2 q3 q4 q5)), .second, .val (.double (f0_4 q1 q2 q3 q4 q5)), .second, .val (.double (FP.l2d (q5 &&& (4294967295 : Int64)))), .second, .val (.double (f0_5 q1 q2 q3 q4 q5)), .second, .val (.long ((2 : Int64) * (f0_0 q1 q2 q3 q4 q5))), .second] [(.int (1 : Int32))])) _
        exact retN X13 hx (t := .boolean) Bd.returns (by simp) (hb hby at_272) hr
      · show Q0 Z q1 q2 q3 q4 q5 h0 n0 _ T13.heap _
        rw [e13]
        exact ⟨rfl, N13⟩
    · refine own_step (B := T13.setTop (mkF m 278 #[.val (.long q1), .second, .val (.long q2), .second, .val (.long q3), .second, .val (.long q4), .second, .val (.long q5), .second, .val (.long (fmax (1 : Int64) (q1 &&& (9223372036854775807 : Int64)))), .second, .val (.long (q2 &&& (9223372036854775807 : Int64))), .second, .val (.long (q3 &&& (9223372036854775807 : Int64))), .second, .val (.long ((q4 &&& (1048575 : Int64)) + (1 : Int64))), .second, .val (.long (f0_0 q1 q2 q3 q4 q5)), .second, .val (.long (q5 &&& (4294967295 : Int64))), .second, .val (.long ((f0_1 q1 q2 q3 q4 q5) + (f0_0 q1 q2 q3 q4 q5))), .second, .val (.ref o2), .val (.ref o5), .val (.ref o8), .val (.double (f0_2 q1 q2 q3 q4 q5)), .second, .val (.double (f0_3 q1 q2 q3 q4 q5)), .second, .val (.double (f0_4 q1 q2 q3 q4 q5)), .second, .val (.double (FP.l2d (q5 &&& (4294967295 : Int64)))), .second, .val (.double (f0_5 q1 q2 q3 q4 q5)), .second, .val (.long ((2 : Int64) * (f0_0 q1 q2 q3 q4 q5))), .second] [(.int (XT.cmpL ((2 : Int64) * (f0_0 q1 q2 q3 q4 q5)) ((q4 &&& (1048575 : Int64)) + (1 : Int64))))])) (fun t k => ?_) ?_
      · show Steps p.tables e below (T13.setTop (mkF m 256 #[.val (.long q1), .second, .val (.long q2), .second, .val (.long q3), .second, .val (.long q4), .second, .val (.long q5), .second, .val (.long (fmax (1 : Int64) (q1 &&& (9223372036854775807 : Int64)))), .second, .val (.long (q2 &&& (9223372036854775807 : Int64))), .second, .val (.long (q3 &&& (9223372036854775807 : Int64))), .second, .val (.long ((q4 &&& (1048575 : Int64)) + (1 : Int64))), .second, .val (.long (f0_0 q1 q2 q3 q4 q5)), .second, .val (.long (q5 &&& (4294967295 : Int64))), .second, .val (.long ((f0_1 q1 q2 q3 q4 q5) + (f0_0 q1 q2 q3 q4 q5))), .second, .val (.ref o2), .val (.ref o5), .val (.ref o8), .val (.double (f0_2 q1 q2 q3 q4 q5)), .second, .val (.double (f0_3 q1 q2 q3 q4 q5)), .second, .val (.double (f0_4 q1 q2 q3 q4 q5)), .second, .val (.double (FP.l2d (q5 &&& (4294967295 : Int64)))), .second, .val (.double (f0_5 q1 q2 q3 q4 q5)), .second, .val (.long ((2 : Int64) * (f0_0 q1 q2 q3 q4 q5))), .second] [(.int (XT.cmpL ((2 : Int64) * (f0_0 q1 q2 q3 q4 q5)) ((q4 &&& (1048575 : Int64)) + (1 : Int64))))])) _
        refine XS.ifYes X13.here hx rfl (pc0 := 256) (pc' := 273) rfl (hb hby at_256) rfl ((if0 _ _).trans (feq (mt (own_ce _ _).mp h26)).2) (by decide) (by decide) ?_
        show Steps p.tables e below (T13.setTop (mkF m 273 #[.val (.long q1), .second, .val (.long q2), .second, .val (.long q3), .second, .val (.long q4), .second, .val (.long q5), .second, .val (.long (fmax (1 : Int64) (q1 &&& (9223372036854775807 : Int64)))), .second, .val (.long (q2 &&& (9223372036854775807 : Int64))), .second, .val (.long (q3 &&& (9223372036854775807 : Int64))), .second, .val (.long ((q4 &&& (1048575 : Int64)) + (1 : Int64))), .second, .val (.long (f0_0 q1 q2 q3 q4 q5)), .second, .val (.long (q5 &&& (4294967295 : Int64))), .second, .val (.long ((f0_1 q1 q2 q3 q4 q5) + (f0_0 q1 q2 q3 q4 q5))), .second, .val (.ref o2), .val (.ref o5), .val (.ref o8), .val (.double (f0_2 q1 q2 q3 q4 q5)), .second, .val (.double (f0_3 q1 q2 q3 q4 q5)), .second, .val (.double (f0_4 q1 q2 q3 q4 q5)), .second, .val (.double (FP.l2d (q5 &&& (4294967295 : Int64)))), .second, .val (.double (f0_5 q1 q2 q3 q4 q5)), .second, .val (.long ((2 : Int64) * (f0_0 q1 q2 q3 q4 q5))), .second] [])) _
        refine XT.lload X13.here hx rfl (hb hby at_273) rfl ?_
        show Steps p.tables e below (T13.setTop (mkF m 275 #[.val (.long q1), .second, .val (.long q2), .second, .val (.long q3), .second, .val (.long q4), .second, .val (.long q5), .second, .val (.long (fmax (1 : Int64) (q1 &&& (9223372036854775807 : Int64)))), .second, .val (.long (q2 &&& (9223372036854775807 : Int64))), .second, .val (.long (q3 &&& (9223372036854775807 : Int64))), .second, .val (.long ((q4 &&& (1048575 : Int64)) + (1 : Int64))), .second, .val (.long (f0_0 q1 q2 q3 q4 q5)), .second, .val (.long (q5 &&& (4294967295 : Int64))), .second, .val (.long ((f0_1 q1 q2 q3 q4 q5) + (f0_0 q1 q2 q3 q4 q5))), .second, .val (.ref o2), .val (.ref o5), .val (.ref o8), .val (.double (f0_2 q1 q2 q3 q4 q5)), .second, .val (.double (f0_3 q1 q2 q3 q4 q5)), .second, .val (.double (f0_4 q1 q2 q3 q4 q5)), .second, .val (.double (FP.l2d (q5 &&& (4294967295 : Int64)))), .second, .val (.double (f0_5 q1 q2 q3 q4 q5)), .second, .val (.long ((2 : Int64) * (f0_0 q1 q2 q3 q4 q5))), .second] [(.long ((2 : Int64) * (f0_0 q1 q2 q3 q4 q5)))])) _
        refine XT.lload X13.here hx rfl (hb hby at_275) rfl ?_
        show Steps p.tables e below (T13.setTop (mkF m 277 #[.val (.long q1), .second, .val (.long q2), .second, .val (.long q3), .second, .val (.long q4), .second, .val (.long q5), .second, .val (.long (fmax (1 : Int64) (q1 &&& (9223372036854775807 : Int64)))), .second, .val (.long (q2 &&& (9223372036854775807 : Int64))), .second, .val (.long (q3 &&& (9223372036854775807 : Int64))), .second, .val (.long ((q4 &&& (1048575 : Int64)) + (1 : Int64))), .second, .val (.long (f0_0 q1 q2 q3 q4 q5)), .second, .val (.long (q5 &&& (4294967295 : Int64))), .second, .val (.long ((f0_1 q1 q2 q3 q4 q5) + (f0_0 q1 q2 q3 q4 q5))), .second, .val (.ref o2), .val (.ref o5), .val (.ref o8), .val (.double (f0_2 q1 q2 q3 q4 q5)), .second, .val (.double (f0_3 q1 q2 q3 q4 q5)), .second, .val (.double (f0_4 q1 q2 q3 q4 q5)), .second, .val (.double (FP.l2d (q5 &&& (4294967295 : Int64)))), .second, .val (.double (f0_5 q1 q2 q3 q4 q5)), .second, .val (.long ((2 : Int64) * (f0_0 q1 q2 q3 q4 q5))), .second] [(.long ((q4 &&& (1048575 : Int64)) + (1 : Int64))), (.long ((2 : Int64) * (f0_0 q1 q2 q3 q4 q5)))])) _
        refine XT.lcmp X13.here hx rfl (hb hby at_277) rfl ?_
        exact k
      by_cases h28 : ((2 : Int64) * (f0_0 q1 q2 q3 q4 q5)) < ((q4 &&& (1048575 : Int64)) + (1 : Int64))
      · have h29 : (Jvm.Op.cmpValue (FP.dcmp (f0_4 q1 q2 q3 q4 q5) (f0_5 q1 q2 q3 q4 q5)) Jvm.ClassFile.CmpOp.g) < (0 : Int32) := (by unfold f0_4 f0_5 fmean; exact own_c286 (own_TT q1 q2 q3 q4 q5) h28)
        obtain ⟨fs, hr, hrun, hended, hW, hsame⟩ := X13.leave (v := some (.int (1 : Int32))) (fun h => by rw [Bd.returns] at h; cases h)
        refine ⟨_, _, ?_, hrun, hended, _, _, rfl, ?_, ⟨_, rfl⟩, hW, hsame.mono (by decide) (by decide)⟩
        · show Steps p.tables e below (T13.setTop (mkF m 278 #[.val (.long q1), .second, .val (.long q2), .second, .val (.long q3), .second, .val (.long q4), .second, .val (.long q5), .second, .val (.long (fmax (1 : Int64) (q1 &&& (9223372036854775807 : Int64)))), .second, .val (.long (q2 &&& (9223372036854775807 : Int64))), .second, .val (.long (q3 &&& (9223372036854775807 : Int64))), .second, .val (.long ((q4 &&& (1048575 : Int64)) + (1 : Int64))), .second, .val (.long (f0_0 q1 q2 q3 q4 q5)), .second, .val (.long (q5 &&& (4294967295 : Int64))), .second, .val (.long ((f0_1 q1 q2 q3 q4 q5) + (f0_0 q1 q2 q3 q4 q5))), .second, .val (.ref o2), .val (.ref o5), .val (.ref o8), .val (.double (f0_2 q1 q2 q3 q4 q5)), .second, .val (.double (f0_3 q1 q2 q3 q4 q5)), .second, .val (.double (f0_4 q1 q2 q3 q4 q5)), .second, .val (.double (FP.l2d (q5 &&& (4294967295 : Int64)))), .second, .val (.double (f0_5 q1 q2 q3 q4 q5)), .second, .val (.long ((2 : Int64) * (f0_0 q1 q2 q3 q4 q5))), .second] [(.int (XT.cmpL ((2 : Int64) * (f0_0 q1 q2 q3 q4 q5)) ((q4 &&& (1048575 : Int64)) + (1 : Int64))))])) _
          refine XS.ifNo X13.here hx rfl (hb hby at_278) rfl ((if0 _ _).trans (tlt ((own_cl _ _).mpr h28)).2.1) ?_
          show Steps p.tables e below (T13.setTop (mkF m 281 #[.val (.long q1), .second, .val (.long q2), .second, .val (.long q3), .second, .val (.long q4), .second, .val (.long q5), .second, .val (.long (fmax (1 : Int64) (q1 &&& (9223372036854775807 : Int64)))), .second, .val (.long (q2 &&& (9223372036854775807 : Int64))), .second, .val (.long (q3 &&& (9223372036854775807 : Int64))), .second, .val (.long ((q4 &&& (1048575 : Int64)) + (1 : Int64))), .second, .val (.long (f0_0 q1 q2 q3 q4 q5)), .second, .val (.long (q5 &&& (4294967295 : Int64))), .second, .val (.long ((f0_1 q1 q2 q3 q4 q5) + (f0_0 q1 q2 q3 q4 q5))), .second, .val (.ref o2), .val (.ref o5), .val (.ref o8), .val (.double (f0_2 q1 q2 q3 q4 q5)), .second, .val (.double (f0_3 q1 q2 q3 q4 q5)), .second, .val (.double (f0_4 q1 q2 q3 q4 q5)), .second, .val (.double (FP.l2d (q5 &&& (4294967295 : Int64)))), .second, .val (.double (f0_5 q1 q2 q3 q4 q5)), .second, .val (.long ((2 : Int64) * (f0_0 q1 q2 q3 q4 q5))), .second] [])) _
          refine XS.dload X13.here hx rfl (hb hby at_281) rfl ?_
          show Steps p.tables e below (T13.setTop (mkF m 283 #[.val (.long q1), .second, .val (.long q2), .second, .val (.long q3), .second, .val (.long q4), .second, .val (.long q5), .second, .val (.long (fmax (1 : Int64) (q1 &&& (9223372036854775807 : Int64)))), .second, .val (.long (q2 &&& (9223372036854775807 : Int64))), .second, .val (.long (q3 &&& (9223372036854775807 : Int64))), .second, .val (.long ((q4 &&& (1048575 : Int64)) + (1 : Int64))), .second, .val (.long (f0_0 q1 q2 q3 q4 q5)), .second, .val (.long (q5 &&& (4294967295 : Int64))), .second, .val (.long ((f0_1 q1 q2 q3 q4 q5) + (f0_0 q1 q2 q3 q4 q5))), .second, .val (.ref o2), .val (.ref o5), .val (.ref o8), .val (.double (f0_2 q1 q2 q3 q4 q5)), .second, .val (.double (f0_3 q1 q2 q3 q4 q5)), .second, .val (.double (f0_4 q1 q2 q3 q4 q5)), .second, .val (.double (FP.l2d (q5 &&& (4294967295 : Int64)))), .second, .val (.double (f0_5 q1 q2 q3 q4 q5)), .second, .val (.long ((2 : Int64) * (f0_0 q1 q2 q3 q4 q5))), .second] [(.double (f0_4 q1 q2 q3 q4 q5))])) _
          refine XS.dload X13.here hx rfl (hb hby at_283) rfl ?_
          show Steps p.tables e below (T13.setTop (mkF m 285 #[.val (.long q1), .second, .val (.long q2), .second, .val (.long q3), .second, .val (.long q4), .second, .val (.long q5), .second, .val (.long (fmax (1 : Int64) (q1 &&& (9223372036854775807 : Int64)))), .second, .val (.long (q2 &&& (9223372036854775807 : Int64))), .second, .val (.long (q3 &&& (9223372036854775807 : Int64))), .second, .val (.long ((q4 &&& (1048575 : Int64)) + (1 : Int64))), .second, .val (.long (f0_0 q1 q2 q3 q4 q5)), .second, .val (.long (q5 &&& (4294967295 : Int64))), .second, .val (.long ((f0_1 q1 q2 q3 q4 q5) + (f0_0 q1 q2 q3 q4 q5))), .second, .val (.ref o2), .val (.ref o5), .val (.ref o8), .val (.double (f0_2 q1 q2 q3 q4 q5)), .second, .val (.double (f0_3 q1 q2 q3 q4 q5)), .second, .val (.double (f0_4 q1 q2 q3 q4 q5)), .second, .val (.double (FP.l2d (q5 &&& (4294967295 : Int64)))), .second, .val (.double (f0_5 q1 q2 q3 q4 q5)), .second, .val (.long ((2 : Int64) * (f0_0 q1 q2 q3 q4 q5))), .second] [(.double (f0_5 q1 q2 q3 q4 q5)), (.double (f0_4 q1 q2 q3 q4 q5))])) _
          refine XS.dcmpS X13.here hx rfl (hb hby at_285) rfl rfl ?_
          show Steps p.tables e below (T13.setTop (mkF m 286 #[.val (.long q1), .second, .val (.long q2), .second, .val (.long q3), .second, .val (.long q4), .second, .val (.long q5), .second, .val (.long (fmax (1 : Int64) (q1 &&& (9223372036854775807 : Int64)))), .second, .val (.long (q2 &&& (9223372036854775807 : Int64))), .second, .val (.long (q3 &&& (9223372036854775807 : Int64))), .second, .val (.long ((q4 &&& (1048575 : Int64)) + (1 : Int64))), .second, .val (.long (f0_0 q1 q2 q3 q4 q5)), .second, .val (.long (q5 &&& (4294967295 : Int64))), .second, .val (.long ((f0_1 q1 q2 q3 q4 q5) + (f0_0 q1 q2 q3 q4 q5))), .second, .val (.ref o2), .val (.ref o5), .val (.ref o8), .val (.double (f0_2 q1 q2 q3 q4 q5)), .second, .val (.double (f0_3 q1 q2 q3 q4 q5)), .second, .val (.double (f0_4 q1 q2 q3 q4 q5)), .second, .val (.double (FP.l2d (q5 &&& (4294967295 : Int64)))), .second, .val (.double (f0_5 q1 q2 q3 q4 q5)), .second, .val (.long ((2 : Int64) * (f0_0 q1 q2 q3 q4 q5))), .second] [(.int (Jvm.Op.cmpValue (FP.dcmp (f0_4 q1 q2 q3 q4 q5) (f0_5 q1 q2 q3 q4 q5)) Jvm.ClassFile.CmpOp.g))])) _
          refine XS.ifNo X13.here hx rfl (hb hby at_286) rfl ((if0 _ _).trans (tlt h29).2.1) ?_
          show Steps p.tables e below (T13.setTop (mkF m 289 #[.val (.long q1), .second, .val (.long q2), .second, .val (.long q3), .second, .val (.long q4), .second, .val (.long q5), .second, .val (.long (fmax (1 : Int64) (q1 &&& (9223372036854775807 : Int64)))), .second, .val (.long (q2 &&& (9223372036854775807 : Int64))), .second, .val (.long (q3 &&& (9223372036854775807 : Int64))), .second, .val (.long ((q4 &&& (1048575 : Int64)) + (1 : Int64))), .second, .val (.long (f0_0 q1 q2 q3 q4 q5)), .second, .val (.long (q5 &&& (4294967295 : Int64))), .second, .val (.long ((f0_1 q1 q2 q3 q4 q5) + (f0_0 q1 q2 q3 q4 q5))), .second, .val (.ref o2), .val (.ref o5), .val (.ref o8), .val (.double (f0_2 q1 q2 q3 q4 q5)), .second, .val (.double (f0_3 q1 q2 q3 q4 q5)), .second, .val (.double (f0_4 q1 q2 q3 q4 q5)), .second, .val (.double (FP.l2d (q5 &&& (4294967295 : Int64)))), .second, .val (.double (f0_5 q1 q2 q3 q4 q5)), .second, .val (.long ((2 : Int64) * (f0_0 q1 q2 q3 q4 q5))), .second] [])) _
          refine XS.iconst X13.here hx rfl (hb hby at_289) ?_
          show Steps p.tables e below (T13.setTop (mkF m 290 #[.val (.long q1), .second, .val (.long q2), .second, .val (.long q3), .second, .val (.long q4), .second, .val (.long q5), .second, .val (.long (fmax (1 : Int64) (q1 &&& (9223372036854775807 : Int64)))), .second, .val (.long (q2 &&& (9223372036854775807 : Int64))), .second, .val (.long (q3 &&& (9223372036854775807 : Int64))), .second, .val (.long ((q4 &&& (1048575 : Int64)) + (1 : Int64))), .second, .val (.long (f0_0 q1 q2 q3 q4 q5)), .second, .val (.long (q5 &&& (4294967295 : Int64))), .second, .val (.long ((f0_1 q1 q2 q3 q4 q5) + (f0_0 q1 q2 q3 q4 q5))), .second, .val (.ref o2), .val (.ref o5), .val (.ref o8), .val (.double (f0_2 q1 q2 q3 q4 q5)), .second, .val (.double (f0_3 q1 q2 q3 q4 q5)), .second, .val (.double (f0_4 q1 q2 q3 q4 q5)), .second, .val (.double (FP.l2d (q5 &&& (4294967295 : Int64)))), .second, .val (.double (f0_5 q1 q2 q3 q4 q5)), .second, .val (.long ((2 : Int64) * (f0_0 q1 q2 q3 q4 q5))), .second] [(.int (1 : Int32))])) _
          refine XS.goto X13.here hx rfl (pc0 := 290) (pc' := 294) rfl (hb hby at_290) (by decide) (by decide) ?_
          show Steps p.tables e below (T13.setTop (mkF m 294 #[.val (.long q1), .second, .val (.long q2), .second, .val (.long q3), .second, .val (.long q4), .second, .val (.long q5), .second, .val (.long (fmax (1 : Int64) (q1 &&& (9223372036854775807 : Int64)))), .second, .val (.long (q2 &&& (9223372036854775807 : Int64))), .second, .val (.long (q3 &&& (9223372036854775807 : Int64))), .second, .val (.long ((q4 &&& (1048575 : Int64)) + (1 : Int64))), .second, .val (.long (f0_0 q1 q2 q3 q4 q5)), .second, .val (.long (q5 &&& (4294967295 : Int64))), .second, .val (.long ((f0_1 q1 q2 q3 q4 q5) + (f0_0 q1 q2 q3 q4 q5))), .second, .val (.ref o2), .val (.ref o5), .val (.ref o8), .val (.double (f0_2 q1 q2 q3 q4 q5)), .second, .val (.double (f0_3 q1 q2 q3 q4 q5)), .second, .val (.double (f0_4 q1 q2 q3 q4 q5)), .second, .val (.double (FP.l2d (q5 &&& (4294967295 : Int64)))), .second, .val (.double (f0_5 q1 q2 q3 q4 q5)), .second, .val (.long ((2 : Int64) * (f0_0 q1 q2 q3 q4 q5))), .second] [(.int (1 : Int32))])) _
          exact retN X13 hx (t := .boolean) Bd.returns (by simp) (hb hby at_294) hr
        · show Q0 Z q1 q2 q3 q4 q5 h0 n0 _ T13.heap _
          rw [e13]
          exact ⟨rfl, N13⟩
      · have h30 : (0 : Int32) < (Jvm.Op.cmpValue (FP.dcmp (f0_4 q1 q2 q3 q4 q5) (f0_5 q1 q2 q3 q4 q5)) Jvm.ClassFile.CmpOp.l) := (by unfold f0_4 f0_5 fmean; exact own_c300 (own_TT q1 q2 q3 q4 q5) h26 h28)
        obtain ⟨fs, hr, hrun, hended, hW, hsame⟩ := X13.leave (v := some (.int (1 : Int32))) (fun h => by rw [Bd.returns] at h; cases h)
        refine ⟨_, _, ?_, hrun, hended, _, _, rfl, ?_, ⟨_, rfl⟩, hW, hsame.mono (by decide) (by decide)⟩
        · show Steps p.tables e below (T13.setTop (mkF m 278 #[.val (.long q1), .second, .val (.long q2), .second, .val (.long q3), .second, .val (.long q4), .second, .val (.long q5), .second, .val (.long (fmax (1 : Int64) (q1 &&& (9223372036854775807 : Int64)))), .second, .val (.long (q2 &&& (9223372036854775807 : Int64))), .second, .val (.long (q3 &&& (9223372036854775807 : Int64))), .second, .val (.long ((q4 &&& (1048575 : Int64)) + (1 : Int64))), .second, .val (.long (f0_0 q1 q2 q3 q4 q5)), .second, .val (.long (q5 &&& (4294967295 : Int64))), .second, .val (.long ((f0_1 q1 q2 q3 q4 q5) + (f0_0 q1 q2 q3 q4 q5))), .second, .val (.ref o2), .val (.ref o5), .val (.ref o8), .val (.double (f0_2 q1 q2 q3 q4 q5)), .second, .val (.double (f0_3 q1 q2 q3 q4 q5)), .second, .val (.double (f0_4 q1 q2 q3 q4 q5)), .second, .val (.double (FP.l2d (q5 &&& (4294967295 : Int64)))), .second, .val (.double (f0_5 q1 q2 q3 q4 q5)), .second, .val (.long ((2 : Int64) * (f0_0 q1 q2 q3 q4 q5))), .second] [(.int (XT.cmpL ((2 : Int64) * (f0_0 q1 q2 q3 q4 q5)) ((q4 &&& (1048575 : Int64)) + (1 : Int64))))])) _
          refine XS.ifYes X13.here hx rfl (pc0 := 278) (pc' := 295) rfl (hb hby at_278) rfl ((if0 _ _).trans (flt (mt (own_cl _ _).mp h28)).2.1) (by decide) (by decide) ?_
          show Steps p.tables e below (T13.setTop (mkF m 295 #[.val (.long q1), .second, .val (.long q2), .second, .val (.long q3), .second, .val (.long q4), .second, .val (.long q5), .second, .val (.long (fmax (1 : Int64) (q1 &&& (9223372036854775807 : Int64)))), .second, .val (.long (q2 &&& (9223372036854775807 : Int64))), .second, .val (.long (q3 &&& (9223372036854775807 : Int64))), .second, .val (.long ((q4 &&& (1048575 : Int64)) + (1 : Int64))), .second, .val (.long (f0_0 q1 q2 q3 q4 q5)), .second, .val (.long (q5 &&& (4294967295 : Int64))), .second, .val (.long ((f0_1 q1 q2 q3 q4 q5) + (f0_0 q1 q2 q3 q4 q5))), .second, .val (.ref o2), .val (.ref o5), .val (.ref o8), .val (.double (f0_2 q1 q2 q3 q4 q5)), .second, .val (.double (f0_3 q1 q2 q3 q4 q5)), .second, .val (.double (f0_4 q1 q2 q3 q4 q5)), .second, .val (.double (FP.l2d (q5 &&& (4294967295 : Int64)))), .second, .val (.double (f0_5 q1 q2 q3 q4 q5)), .second, .val (.long ((2 : Int64) * (f0_0 q1 q2 q3 q4 q5))), .second] [])) _
          refine XS.dload X13.here hx rfl (hb hby at_295) rfl ?_
          show Steps p.tables e below (T13.setTop (mkF m 297 #[.val (.long q1), .second, .val (.long q2), .second, .val (.long q3), .second, .val (.long q4), .second, .val (.long q5), .second, .val (.long (fmax (1 : Int64) (q1 &&& (9223372036854775807 : Int64)))), .second, .val (.long (q2 &&& (9223372036854775807 : Int64))), .second, .val (.long (q3 &&& (9223372036854775807 : Int64))), .second, .val (.long ((q4 &&& (1048575 : Int64)) + (1 : Int64))), .second, .val (.long (f0_0 q1 q2 q3 q4 q5)), .second, .val (.long (q5 &&& (4294967295 : Int64))), .second, .val (.long ((f0_1 q1 q2 q3 q4 q5) + (f0_0 q1 q2 q3 q4 q5))), .second, .val (.ref o2), .val (.ref o5), .val (.ref o8), .val (.double (f0_2 q1 q2 q3 q4 q5)), .second, .val (.double (f0_3 q1 q2 q3 q4 q5)), .second, .val (.double (f0_4 q1 q2 q3 q4 q5)), .second, .val (.double (FP.l2d (q5 &&& (4294967295 : Int64)))), .second, .val (.double (f0_5 q1 q2 q3 q4 q5)), .second, .val (.long ((2 : Int64) * (f0_0 q1 q2 q3 q4 q5))), .second] [(.double (f0_4 q1 q2 q3 q4 q5))])) _
          refine XS.dload X13.here hx rfl (hb hby at_297) rfl ?_
          show Steps p.tables e below (T13.setTop (mkF m 299 #[.val (.long q1), .second, .val (.long q2), .second, .val (.long q3), .second, .val (.long q4), .second, .val (.long q5), .second, .val (.long (fmax (1 : Int64) (q1 &&& (9223372036854775807 : Int64)))), .second, .val (.long (q2 &&& (9223372036854775807 : Int64))), .second, .val (.long (q3 &&& (9223372036854775807 : Int64))), .second, .val (.long ((q4 &&& (1048575 : Int64)) + (1 : Int64))), .second, .val (.long (f0_0 q1 q2 q3 q4 q5)), .second, .val (.long (q5 &&& (4294967295 : Int64))), .second, .val (.long ((f0_1 q1 q2 q3 q4 q5) + (f0_0 q1 q2 q3 q4 q5))), .second, .val (.ref o2), .val (.ref o5), .val (.ref o8), .val (.double (f0_2 q1 q2 q3 q4 q5)), .second, .val (.double (f0_3 q1 q2 q3 q4 q5)), .second, .val (.double (f0_4 q1 q2 q3 q4 q5)), .second, .val (.double (FP.l2d (q5 &&& (4294967295 : Int64)))), .second, .val (.double (f0_5 q1 q2 q3 q4 q5)), .second, .val (.long ((2 : Int64) * (f0_0 q1 q2 q3 q4 q5))), .second] [(.double (f0_5 q1 q2 q3 q4 q5)), (.double (f0_4 q1 q2 q3 q4 q5))])) _
          refine XS.dcmpS X13.here hx rfl (hb hby at_299) rfl rfl ?_
          show Steps p.tables e below (T13.setTop (mkF m 300 #[.val (.long q1), .second, .val (.long q2), .second, .val (.long q3), .second, .val (.long q4), .second, .val (.long q5), .second, .val (.long (fmax (1 : Int64) (q1 &&& (9223372036854775807 : Int64)))), .second, .val (.long (q2 &&& (9223372036854775807 : Int64))), .second, .val (.long (q3 &&& (9223372036854775807 : Int64))), .second, .val (.long ((q4 &&& (1048575 : Int64)) + (1 : Int64))), .second, .val (.long (f0_0 q1 q2 q3 q4 q5)), .second, .val (.long (q5 &&& (4294967295 : Int64))), .second, .val (.long ((f0_1 q1 q2 q3 q4 q5) + (f0_0 q1 q2 q3 q4 q5))), .second, .val (.ref o2), .val (.ref o5), .val (.ref o8), .val (.double (f0_2 q1 q2 q3 q4 q5)), .second, .val (.double (f0_3 q1 q2 q3 q4 q5)), .second, .val (.double (f0_4 q1 q2 q3 q4 q5)), .second, .val (.double (FP.l2d (q5 &&& (4294967295 : Int64)))), .second, .val (.double (f0_5 q1 q2 q3 q4 q5)), .second, .val (.long ((2 : Int64) * (f0_0 q1 q2 q3 q4 q5))), .second] [(.int (Jvm.Op.cmpValue (FP.dcmp (f0_4 q1 q2 q3 q4 q5) (f0_5 q1 q2 q3 q4 q5)) Jvm.ClassFile.CmpOp.l))])) _
          refine XS.ifNo X13.here hx rfl (hb hby at_300) rfl ((if0 _ _).trans (tlt h30).2.2.2) ?_
          show Steps p.tables e below (T13.setTop (mkF m 303 #[.val (.long q1), .second, .val (.long q2), .second, .val (.long q3), .second, .val (.long q4), .second, .val (.long q5), .second, .val (.long (fmax (1 : Int64) (q1 &&& (9223372036854775807 : Int64)))), .second, .val (.long (q2 &&& (9223372036854775807 : Int64))), .second, .val (.long (q3 &&& (9223372036854775807 : Int64))), .second, .val (.long ((q4 &&& (1048575 : Int64)) + (1 : Int64))), .second, .val (.long (f0_0 q1 q2 q3 q4 q5)), .second, .val (.long (q5 &&& (4294967295 : Int64))), .second, .val (.long ((f0_1 q1 q2 q3 q4 q5) + (f0_0 q1 q2 q3 q4 q5))), .second, .val (.ref o2), .val (.ref o5), .val (.ref o8), .val (.double (f0_2 q1 q2 q3 q4 q5)), .second, .val (.double (f0_3 q1 q2 q3 q4 q5)), .second, .val (.double (f0_4 q1 q2 q3 q4 q5)), .second, .val (.double (FP.l2d (q5 &&& (4294967295 : Int64)))), .second, .val (.double (f0_5 q1 q2 q3 q4 q5)), .second, .val (.long ((2 : Int64) * (f0_0 q1 q2 q3 q4 q5))), .second] [])) _
          refine XS.iconst X13.here hx rfl (hb hby at_303) ?_
          show Steps p.tables e below (T13.setTop (mkF m 304 #[.val (.long q1), .second, .val (.long q2), .second, .val (.long q3), .second, .val (.long q4), .second, .val (.long q5), .second, .val (.long (fmax (1 : Int64) (q1 &&& (9223372036854775807 : Int64)))), .second, .val (.long (q2 &&& (9223372036854775807 : Int64))), .second, .val (.long (q3 &&& (9223372036854775807 : Int64))), .second, .val (.long ((q4 &&& (1048575 : Int64)) + (1 : Int64))), .second, .val (.long (f0_0 q1 q2 q3 q4 q5)), .second, .val (.long (q5 &&& (4294967295 : Int64))), .second, .val (.long ((f0_1 q1 q2 q3 q4 q5) + (f0_0 q1 q2 q3 q4 q5))), .second, .val (.ref o2), .val (.ref o5), .val (.ref o8), .val (.double (f0_2 q1 q2 q3 q4 q5)), .second, .val (.double (f0_3 q1 q2 q3 q4 q5)), .second, .val (.double (f0_4 q1 q2 q3 q4 q5)), .second, .val (.double (FP.l2d (q5 &&& (4294967295 : Int64)))), .second, .val (.double (f0_5 q1 q2 q3 q4 q5)), .second, .val (.long ((2 : Int64) * (f0_0 q1 q2 q3 q4 q5))), .second] [(.int (1 : Int32))])) _
          refine XS.goto X13.here hx rfl (pc0 := 304) (pc' := 308) rfl (hb hby at_304) (by decide) (by decide) ?_
          show Steps p.tables e below (T13.setTop (mkF m 308 #[.val (.long q1), .second, .val (.long q2), .second, .val (.long q3), .second, .val (.long q4), .second, .val (.long q5), .second, .val (.long (fmax (1 : Int64) (q1 &&& (9223372036854775807 : Int64)))), .second, .val (.long (q2 &&& (9223372036854775807 : Int64))), .second, .val (.long (q3 &&& (9223372036854775807 : Int64))), .second, .val (.long ((q4 &&& (1048575 : Int64)) + (1 : Int64))), .second, .val (.long (f0_0 q1 q2 q3 q4 q5)), .second, .val (.long (q5 &&& (4294967295 : Int64))), .second, .val (.long ((f0_1 q1 q2 q3 q4 q5) + (f0_0 q1 q2 q3 q4 q5))), .second, .val (.ref o2), .val (.ref o5), .val (.ref o8), .val (.double (f0_2 q1 q2 q3 q4 q5)), .second, .val (.double (f0_3 q1 q2 q3 q4 q5)), .second, .val (.double (f0_4 q1 q2 q3 q4 q5)), .second, .val (.double (FP.l2d (q5 &&& (4294967295 : Int64)))), .second, .val (.double (f0_5 q1 q2 q3 q4 q5)), .second, .val (.long ((2 : Int64) * (f0_0 q1 q2 q3 q4 q5))), .second] [(.int (1 : Int32))])) _
          exact retN X13 hx (t := .boolean) Bd.returns (by simp) (hb hby at_308) hr
        · show Q0 Z q1 q2 q3 q4 q5 h0 n0 _ T13.heap _
          rw [e13]
          exact ⟨rfl, N13⟩
set_option maxRecDepth 65536 in
set_option maxHeartbeats 40000000 in
theorem comes_1 {Post : Tables → Env → Array Value → State → Outcome → State → Prop} (hpost : ∀ tb e args s v u, (limb_1_1.after args s (.returned v) u = true ∧ limb_1_2.after args s (.returned v) u = true ∧ True) → FrameEnd s (.returned v) u (Jvm.fieldLocs frame_1_writes args s ++ Jvm.arrayLocs frame_1_arrays args s ++ Jvm.staticLocs frame_1_statics s) 32 128 → Post tb e args s (.returned v) u) :
    ArmFor flags0 classFile x code maxLocals ret World_1 tables_1 room_1 Calls_1 rest_1 Pre_1 Post := by
  intro l hfl _ _ p e ha hc hk s m args below hf hA hF happ hP
  obtain ⟨hcalls, hrest, hpre⟩ := hP
  obtain ⟨-, -, -, hnamed, -, -, -, hat⟩ := (Spec.applies_iff hf).mp happ
  obtain ⟨hg, hn⟩ := and_e (Cond.before_iff.mp (show (Jvm.Cond.and given_1 narrow_1).before args s = true from hpre))
  obtain ⟨hcnt, hg0⟩ := and_e hg
  obtain ⟨hi0, hg1⟩ := and_e hg0
  obtain ⟨hi1, hg2⟩ := and_e hg1
  obtain ⟨hi2, hg3⟩ := and_e hg2
  obtain ⟨hi3, hg4⟩ := and_e hg3
  obtain ⟨w0, w1, w2, w3, w4, rfl⟩ : ∃ w0 w1 w2 w3 w4 : Value, args = #[w0, w1, w2, w3, w4] := by
    have hs : args.size = 5 := by simpa [Cond.value, given_1] using hcnt
    obtain ⟨L⟩ := args
    match L, hs with
    | [w0, w1, w2, w3, w4], _ => exact ⟨w0, w1, w2, w3, w4, rfl⟩
  have hw := fun d (hd : d ∈ tables_1) => atoms_spec (ws := Jvm.Cond.code x code maxLocals ret :: tables_1) hat d (List.mem_cons_of_mem _ hd)
  have hfit : Fit s := fun {y c} hc i hi => by
    obtain ⟨ha, rfl⟩ := Array.getElem?_eq_some_iff.mp hc
    have q := List.all_eq_true.mp ((Array.all_eq_true_iff_forall_mem.mp hF) _ (Array.getElem_mem ha)) i (List.mem_range.mpr hi)
    simpa [Array.getElem?_eq_getElem hi] using q
  obtain ⟨i0, ei0⟩ := isL_v hi0
  obtain rfl : w0 = (.long i0) := Option.some.inj ei0
  obtain ⟨i1, ei1⟩ := isL_v hi1
  obtain rfl : w1 = (.long i1) := Option.some.inj ei1
  obtain ⟨i2, ei2⟩ := isL_v hi2
  obtain rfl : w2 = (.long i2) := Option.some.inj ei2
  obtain ⟨i3, ei3⟩ := isL_v hi3
  obtain rfl : w3 = (.long i3) := Option.some.inj ei3
  obtain ⟨i4, ei4⟩ := isL_v hg4
  obtain rfl : w4 = (.long i4) := Option.some.inj ei4
  obtain ⟨n, o, h1, h2, h3, _, L, rfl, ⟨rfl, N⟩, hq⟩ := rm0 l s _ hw tables_1 i0 i1 i2 i3 i4 s.heap s.heap.size (Nat.le_refl _) p e ha hc hk s m _ below hf ((Spec.applies_iff_loose hf).mp happ).1 ⟨rfl, State.Warmed39.refl s, rfl⟩ trivial
  refine ⟨n, _, h1, h2, h3, hpost _ _ _ _ _ _ ⟨Cond.after_iff.mpr rfl, Cond.after_iff.mpr (eq_i res_at (Term.int_eval (1)) rfl), trivial⟩ ⟨hq.1, hq.2.1, (hq.2.2.sift fun y hy => Or.inr (N y hy)).mono (by decide) (by decide)⟩⟩
theorem main_1_1 : Claimed_1_1 := comes_1 fun _ _ _ _ _ _ h hF => ⟨h.1, hF⟩
theorem main_1_2 : Claimed_1_2 := comes_1 fun _ _ _ _ _ _ h hF => ⟨h.2.1, hF⟩
end Jvm.Pilot.@@N@@
namespace Jvm.Pilot.@@N@@
open Jvm Jvm.ClassFile Sem Op Lib Jvm.Free Jvm.Stand Jvm.Pilot.@@N@@.Jvm.D
/-! MADE BY PROGRAM (witnessworld.py) out of the Statement's table words and the real class files: 12 classes; the members and pool entries that the words name. The judged class is class 1, her method 1. -/
namespace start1
open Jvm.ClassFile
def u (s : String) : CpInfo := .utf8 (stringToUtf16 s)
/-- a pool by its gaps: so many unusable entries, then the entry; so many at the end -/
def gap : Nat → List CpInfo → List CpInfo
  | 0, r => r
  | n + 1, r => .unusable :: gap n r
def poolList (es : List (Nat × CpInfo)) (last : Nat) : List CpInfo := es.foldr (fun e r => gap e.1 (e.2 :: r)) (gap last [])
def pool (es : List (Nat × CpInfo)) (last : Nat) : Array CpInfo := ⟨poolList es last⟩
def fileOf (pool : Array CpInfo) (this : Nat) (attrs : Array Attribute := #[]) (ms : Array MethodInfo := #[]) (fl : Nat := 33) (sup : Nat := 0) (ifs : Array Nat := #[]) (fds : Array FieldInfo := #[]) : ClassFile where
  minorVersion := 0
  majorVersion := 65
  constantPool := pool
  accessFlags := fl
  thisClass := this
  superClass := sup
  interfaces := ifs
  fields := fds
  methods := ms
  attributes := attrs
def plain (name : String) (sup : Option ClassId) : Class where
  name := name
  kind := .ordinary
  loader := none
  accessFlags := 33
  super := sup
  interfaces := #[]
  cf := none
  fields := #[]
  methods := #[]
  instanceTypes := #[]
  staticTypes := #[]
  resolved := #[]
  callSites := []
  init := .initialized
  statics := none
  mirror := none

def pool0 : Array CpInfo := pool [(5, u "<init>"), (0, u "()V"), (1, .class_ 10), (1, u "java/lang/Object"), (85, u "clone"), (0, u "()Ljava/lang/Object;")] 26

def k0c0 : Code := { maxStack := 0, maxLocals := 1, code := object_method_1_code, exceptionTable := #[], attributes := #[] }
def k0m0 : Method := { name := "<init>", desc := "()V", sig := { parameters := [], returnType := none }, accessFlags := 1, code := some k0c0 }
def k0m1 : Method := { name := "clone", desc := "()Ljava/lang/Object;", sig := { parameters := [], returnType := some (.object "java/lang/Object") }, accessFlags := 260, code := none }
/-- java/lang/Object -/
def k0 : Class := { plain "java/lang/Object" none with
  accessFlags := 33
  interfaces := #[]
  cf := some (fileOf pool0 8 #[] #[{ accessFlags := 1, nameIndex := 5, descriptorIndex := 6, attributes := #[] }, { accessFlags := 260, nameIndex := 96, descriptorIndex := 97, attributes := #[] }] 33 0 #[] #[])
  fields := #[]
  methods := #[k0m0, k0m1]
  instanceTypes := #[]
  staticTypes := #[]
  resolved := Array.replicate 124 none
  statics := none }

def pool1 : Array CpInfo := pool [(2, .class_ 4), (1, u "java/lang/Object"), (0, u "<init>"), (0, u "()V"), (2, .long 9223372036854775807), (1, .methodref 12 13), (0, .class_ 14), (0, .nameAndType 15 16), (0, u "java/lang/Math"), (0, u "max"), (0, u "(JJ)J"), (0, .long 1048575), (1, .long 4294967295), (1, .class_ 22), (0, u "com/example/stratum/stratum/search/Statistics"), (0, .methodref 21 24), (0, .nameAndType 5 25), (0, u "(JJ[J)V"), (0, .methodref 21 27), (0, .nameAndType 28 29), (0, u "meanLength"), (0, u "()D"), (0, .double 4602678819172646912), (1, .long 2), (1, .class_ 35), (0, u "com/example/stratum/stratum/search/StatisticsMeanLengthPinLaw"), (2, u "law"), (0, u "(JJJJJ)Z")] 3

def k1m0 : Method := { name := "<init>", desc := "()V", sig := { parameters := [], returnType := none }, accessFlags := 1, code := none }
def k1c1 : Code := { maxStack := 7, maxLocals := 39, code := code, exceptionTable := #[], attributes := #[] }
def k1m1 : Method := { name := "law", desc := "(JJJJJ)Z", sig := { parameters := [.long, .long, .long, .long, .long], returnType := some .boolean }, accessFlags := 9, code := some k1c1 }
/-- com/example/stratum/stratum/search/StatisticsMeanLengthPinLaw -/
def k1 : Class := { plain "com/example/stratum/stratum/search/StatisticsMeanLengthPinLaw" (some 0) with
  accessFlags := 49
  interfaces := #[]
  cf := some (fileOf pool1 34 #[] #[{ accessFlags := 1, nameIndex := 5, descriptorIndex := 6, attributes := #[] }, { accessFlags := 9, nameIndex := 38, descriptorIndex := 39, attributes := #[] }] 49 2 #[] #[])
  fields := #[]
  methods := #[k1m0, k1m1]
  instanceTypes := #[]
  staticTypes := #[]
  resolved := Array.replicate 43 none
  statics := none }

def pool2 : Array CpInfo := pool [(1, .class_ 2), (0, u "java/lang/Math"), (1, .class_ 6), (1, u "java/lang/Object"), (0, u "<init>"), (0, u "()V"), (89, .class_ 100), (1, u "java/lang/Math$RandomNumberGeneratorHolder"), (20, u "(JJ)J"), (50, u "negativeZeroFloatBits"), (0, u "J"), (2, u "negativeZeroDoubleBits"), (21, u "max"), (46, u "$assertionsDisabled"), (0, u "Z"), (91, u "twoToTheDoubleScaleDown"), (0, u "D"), (4, u "twoToTheDoubleScaleUp"), (9, u "E"), (3, u "PI"), (2, u "TAU"), (2, u "DEGREES_TO_RADIANS"), (0, u "RADIANS_TO_DEGREES")] 94

def k2m0 : Method := { name := "<init>", desc := "()V", sig := { parameters := [], returnType := none }, accessFlags := 2, code := none }
def k2c1 : Code := { maxStack := 4, maxLocals := 4, code := jdk_29_method_66_code, exceptionTable := #[], attributes := #[] }
def k2m1 : Method := { name := "max", desc := "(JJ)J", sig := { parameters := [.long, .long], returnType := some .long }, accessFlags := 9, code := some k2c1 }
/-- java/lang/Math -/
def k2 : Class := { plain "java/lang/Math" (some 0) with
  accessFlags := 49
  interfaces := #[]
  cf := some (fileOf pool2 1 #[.nestMembers #[98]] #[{ accessFlags := 2, nameIndex := 7, descriptorIndex := 8, attributes := #[] }, { accessFlags := 9, nameIndex := 198, descriptorIndex := 121, attributes := #[] }] 49 4 #[] #[{ accessFlags := 25, nameIndex := 354, descriptorIndex := 339, attributes := #[] }, { accessFlags := 25, nameIndex := 358, descriptorIndex := 339, attributes := #[] }, { accessFlags := 25, nameIndex := 361, descriptorIndex := 339, attributes := #[] }, { accessFlags := 26, nameIndex := 364, descriptorIndex := 339, attributes := #[] }, { accessFlags := 26, nameIndex := 365, descriptorIndex := 339, attributes := #[] }, { accessFlags := 26, nameIndex := 172, descriptorIndex := 173, attributes := #[] }, { accessFlags := 26, nameIndex := 176, descriptorIndex := 173, attributes := #[] }, { accessFlags := 8, nameIndex := 344, descriptorIndex := 339, attributes := #[] }, { accessFlags := 8, nameIndex := 338, descriptorIndex := 339, attributes := #[] }, { accessFlags := 4120, nameIndex := 245, descriptorIndex := 246, attributes := #[] }])
  fields := #[{ name := "E", type := .double, accessFlags := 25, slot := 0, constantValue := 0 }, { name := "PI", type := .double, accessFlags := 25, slot := 1, constantValue := 0 }, { name := "TAU", type := .double, accessFlags := 25, slot := 2, constantValue := 0 }, { name := "DEGREES_TO_RADIANS", type := .double, accessFlags := 26, slot := 3, constantValue := 0 }, { name := "RADIANS_TO_DEGREES", type := .double, accessFlags := 26, slot := 4, constantValue := 0 }, { name := "negativeZeroFloatBits", type := .long, accessFlags := 26, slot := 5, constantValue := 0 }, { name := "negativeZeroDoubleBits", type := .long, accessFlags := 26, slot := 6, constantValue := 0 }, { name := "twoToTheDoubleScaleUp", type := .double, accessFlags := 8, slot := 7, constantValue := 0 }, { name := "twoToTheDoubleScaleDown", type := .double, accessFlags := 8, slot := 8, constantValue := 0 }, { name := "$assertionsDisabled", type := .boolean, accessFlags := 4120, slot := 9, constantValue := 0 }]
  methods := #[k2m0, k2m1]
  instanceTypes := #[]
  staticTypes := #[.double, .double, .double, .double, .double, .long, .long, .double, .double, .boolean]
  resolved := Array.replicate 460 none
  statics := none }

def pool3 : Array CpInfo := pool [(1, .methodref 2 3), (0, .class_ 4), (0, .nameAndType 5 6), (0, u "java/lang/Object"), (0, u "<init>"), (0, u "()V"), (11, .fieldref 19 20), (0, .class_ 21), (0, .nameAndType 22 23), (0, u "com/example/stratum/stratum/search/Statistics"), (0, u "documents"), (0, u "J"), (0, .fieldref 19 25), (0, .nameAndType 26 23), (0, u "length"), (0, .methodref 28 29), (0, .class_ 30), (0, .nameAndType 31 32), (0, u "[J"), (0, u "clone"), (0, u "()Ljava/lang/Object;"), (0, .fieldref 19 34), (0, .nameAndType 35 30), (0, u "matching"), (26, u "(JJ[J)V"), (33, u "meanLength"), (0, u "()D")] 36

def k3c0 : Code := { maxStack := 6, maxLocals := 11, code := prog_31_method_1_code, exceptionTable := #[], attributes := #[] }
def k3m0 : Method := { name := "<init>", desc := "(JJ[J)V", sig := { parameters := [.long, .long, (.array .long)], returnType := none }, accessFlags := 1, code := some k3c0 }
def k3c1 : Code := { maxStack := 4, maxLocals := 1, code := prog_31_method_7_code, exceptionTable := #[], attributes := #[] }
def k3m1 : Method := { name := "meanLength", desc := "()D", sig := { parameters := [], returnType := some .double }, accessFlags := 0, code := some k3c1 }
/-- com/example/stratum/stratum/search/Statistics -/
def k3 : Class := { plain "com/example/stratum/stratum/search/Statistics" (some 0) with
  accessFlags := 49
  interfaces := #[]
  cf := some (fileOf pool3 19 #[] #[{ accessFlags := 1, nameIndex := 5, descriptorIndex := 62, attributes := #[] }, { accessFlags := 0, nameIndex := 96, descriptorIndex := 97, attributes := #[] }] 49 2 #[] #[{ accessFlags := 18, nameIndex := 22, descriptorIndex := 23, attributes := #[] }, { accessFlags := 18, nameIndex := 26, descriptorIndex := 23, attributes := #[] }, { accessFlags := 18, nameIndex := 35, descriptorIndex := 30, attributes := #[] }])
  fields := #[{ name := "documents", type := .long, accessFlags := 18, slot := 0, constantValue := 0 }, { name := "length", type := .long, accessFlags := 18, slot := 1, constantValue := 0 }, { name := "matching", type := (.array .long), accessFlags := 18, slot := 2, constantValue := 0 }]
  methods := #[k3m0, k3m1]
  instanceTypes := #[.long, .long, (.array .long)]
  staticTypes := #[]
  resolved := Array.replicate 134 none
  statics := none }

def pool4 : Array CpInfo := pool [(1, .class_ 2), (0, u "java/lang/Cloneable"), (0, .class_ 4), (0, u "java/lang/Object")] 2

/-- java/lang/Cloneable -/
def k4 : Class := { plain "java/lang/Cloneable" (some 0) with
  accessFlags := 1537
  interfaces := #[]
  cf := some (fileOf pool4 1 #[] #[] 1537 3 #[] #[])
  fields := #[]
  methods := #[]
  instanceTypes := #[]
  staticTypes := #[]
  resolved := Array.replicate 7 none
  statics := none }

def pool5 : Array CpInfo := pool [(1, u "java/io/Serializable"), (0, .class_ 1), (0, u "java/lang/Object"), (0, .class_ 3)] 3

/-- java/io/Serializable -/
def k5 : Class := { plain "java/io/Serializable" (some 0) with
  accessFlags := 1537
  interfaces := #[]
  cf := some (fileOf pool5 2 #[] #[] 1537 4 #[] #[])
  fields := #[]
  methods := #[]
  instanceTypes := #[]
  staticTypes := #[]
  resolved := Array.replicate 8 none
  statics := none }

/-- the primitive byte -/
def k6 : Class := { plain "byte" none with kind := .primitive 'B', accessFlags := 0x411 }
/-- [B -/
def k7 : Class := { plain "[B" (some 0) with kind := .array 6 .byte, interfaces := #[4, 5], accessFlags := 1041 }

/-- the primitive int -/
def k8 : Class := { plain "int" none with kind := .primitive 'I', accessFlags := 0x411 }
/-- [I -/
def k9 : Class := { plain "[I" (some 0) with kind := .array 8 .int, interfaces := #[4, 5], accessFlags := 1041 }

/-- the primitive long -/
def k10 : Class := { plain "long" none with kind := .primitive 'J', accessFlags := 0x411 }
/-- [J -/
def k11 : Class := { plain "[J" (some 0) with kind := .array 10 .long, interfaces := #[4, 5], accessFlags := 1041 }

def heap : Heap := #[]
def classes : Array Class := #[k0, k1, k2, k3, k4, k5, k6, k7, k8, k9, k10, k11]
def interned : List (Array UInt16 × Addr) := []
def slotsUsed : Nat := 0
def theMethod : MethodId := ⟨1, 1⟩
def args0 : Array Value := #[.long 5, .long 40, .long 41, .long 7, .long 9]
def aboutOver (below : List Frame) : State where
  vm := { classes := classes, interned := interned.toArray }
  heap := heap
  slotsUsed := slotsUsed
  threads := #[{ frames := .invoking theMethod args0 :: below }]
def below0 : List Frame := [.native { method := ⟨0, 0⟩, args := #[] }]
def about1 : State := aboutOver below0
def p0 : Program := .bare "" "" ""
def e0 : Env := launch0.env 0 0 0
theorem w_frames : about1.frames = Frame.invoking theMethod args0 :: below0 := rfl
set_option maxRecDepth 65536 in
theorem w_args : argsFit about1.vm theMethod args0 = true := by decide +kernel
set_option maxRecDepth 65536 in
theorem w_heap : heapFits about1 = true := by decide +kernel
set_option maxRecDepth 65536 in
theorem w_runnable : about1.curStatus? = some .runnable := by decide +kernel
set_option maxRecDepth 65536 in
theorem w_alone : about1.alone = true := by decide +kernel
set_option maxRecDepth 65536 in
theorem w_named : about1.methodNamed? x = some theMethod := by decide +kernel
set_option maxRecDepth 65536 in
theorem w_hears : about1.hears theMethod below0 = true := by decide +kernel
set_option maxRecDepth 65536 in
theorem w_ripe : about1.ripe theMethod args0 below0 = true := by decide +kernel
theorem w_running : about1.status = .running := rfl
set_option maxRecDepth 65536 in
theorem w_room : about1.hasRoom e0.platform room_1 = true :=
  launch0.hasRoom_least _ room_1 (by decide +kernel) (by decide +kernel) (by decide +kernel) (by decide +kernel) (by decide +kernel) (by decide +kernel)
theorem allAtoms_all (ts : List Jvm.Cond) (a : Array Jvm.Value) (st : Jvm.State) : (allAtoms ts).before a st = ts.all (fun c => c.before a st) := by
  induction ts with
  | nil => rfl
  | cons c t ih =>
    show (Jvm.Cond.and c (allAtoms t)).before a st = _
    rw [Jvm.Cond.before_and, ih, List.all_cons]
def words1 : List Jvm.Cond := Jvm.Cond.code x code maxLocals ret :: tables_1
/-- a 'code' word, met by the world's own term for the bytes: nothing is compared byte by byte -/
theorem code_word {y : MethodName} {bytes : ByteArray} {mx : Nat} {rt : Option FieldType} {a : Array Value} {s : State} {m : MethodId} {meth : Method} {c : Code} (h1 : s.methodNamed? y = some m) (h2 : s.vm.method? m = some meth) (h3 : meth.code = some c) (h4 : c.code = bytes)
    (h5 : (c.maxLocals == mx && c.exceptionTable.isEmpty && decide (c.maxStack ≤ mostOperands) && decide (meth.sig.returnType = rt) && !meth.locks && decide (parseMethodDescriptor y.desc = some meth.sig)) = true) : (Jvm.Cond.code y bytes mx rt).before a s = true := by
  simp only [Bool.and_eq_true, beq_iff_eq, Bool.not_eq_true', decide_eq_true_eq] at h5
  obtain ⟨⟨⟨⟨⟨g1, g2⟩, g3⟩, g4⟩, g5⟩, g6⟩ := h5
  simp [Cond.before, Cond.holds, Cond.value, h1, h2, h3, h4, g1, g2, g3, g4, g5, g6]
def isCode : Jvm.Cond → Bool
  | .code _ _ _ _ => true
  | _ => false
theorem all_split {L : List Jvm.Cond} {P : Jvm.Cond → Bool} (h1 : L.all (fun c => isCode c || P c) = true) (h2 : ∀ c ∈ L.filter isCode, P c = true) : L.all P = true := by
  refine List.all_eq_true.mpr fun c hc => ?_
  have h := List.all_eq_true.mp h1 c hc
  rcases Bool.eq_false_or_eq_true (isCode c) with hi | hi
  · exact h2 c (List.mem_filter.mpr ⟨hc, hi⟩)
  · simpa [hi] using h
set_option maxRecDepth 65536 in
theorem w_c0 : (Jvm.Cond.code x code maxLocals ret).before args0 about1 = true := code_word (m := ⟨1, 1⟩) (meth := k1m1) (c := k1c1) (by decide +kernel) rfl rfl rfl (by decide +kernel)
set_option maxRecDepth 65536 in
theorem w_c1 : (Jvm.Cond.code ({ cls := "java/lang/Math", name := "max", desc := "(JJ)J" } : Jvm.MethodName) jdk_29_method_66_code (4 : Nat) (Option.some Jvm.ClassFile.FieldType.long)).before args0 about1 = true := code_word (m := ⟨2, 1⟩) (meth := k2m1) (c := k2c1) (by decide +kernel) rfl rfl rfl (by decide +kernel)
set_option maxRecDepth 65536 in
theorem w_c2 : (Jvm.Cond.code ({ cls := "com/example/stratum/stratum/search/Statistics", name := "<init>", desc := "(JJ[J)V" } : Jvm.MethodName) prog_31_method_1_code (11 : Nat) (Option.none : Option Jvm.ClassFile.FieldType)).before args0 about1 = true := code_word (m := ⟨3, 0⟩) (meth := k3m0) (c := k3c0) (by decide +kernel) rfl rfl rfl (by decide +kernel)
set_option maxRecDepth 65536 in
theorem w_c3 : (Jvm.Cond.code ({ cls := "java/lang/Object", name := "<init>", desc := "()V" } : Jvm.MethodName) object_method_1_code (1 : Nat) (Option.none : Option Jvm.ClassFile.FieldType)).before args0 about1 = true := code_word (m := ⟨0, 0⟩) (meth := k0m0) (c := k0c0) (by decide +kernel) rfl rfl rfl (by decide +kernel)
set_option maxRecDepth 65536 in
theorem w_c4 : (Jvm.Cond.code ({ cls := "com/example/stratum/stratum/search/Statistics", name := "meanLength", desc := "()D" } : Jvm.MethodName) prog_31_method_7_code (1 : Nat) (Option.some Jvm.ClassFile.FieldType.double)).before args0 about1 = true := code_word (m := ⟨3, 1⟩) (meth := k3m1) (c := k3c1) (by decide +kernel) rfl rfl rfl (by decide +kernel)
def codes1 : List Jvm.Cond := [Jvm.Cond.code x code maxLocals ret, Jvm.Cond.code ({ cls := "java/lang/Math", name := "max", desc := "(JJ)J" } : Jvm.MethodName) jdk_29_method_66_code (4 : Nat) (Option.some Jvm.ClassFile.FieldType.long), Jvm.Cond.code ({ cls := "com/example/stratum/stratum/search/Statistics", name := "<init>", desc := "(JJ[J)V" } : Jvm.MethodName) prog_31_method_1_code (11 : Nat) (Option.none : Option Jvm.ClassFile.FieldType), Jvm.Cond.code ({ cls := "java/lang/Object", name := "<init>", desc := "()V" } : Jvm.MethodName) object_method_1_code (1 : Nat) (Option.none : Option Jvm.ClassFile.FieldType), Jvm.Cond.code ({ cls := "com/example/stratum/stratum/search/Statistics", name := "meanLength", desc := "()D" } : Jvm.MethodName) prog_31_method_7_code (1 : Nat) (Option.some Jvm.ClassFile.FieldType.double)]
set_option maxRecDepth 65536 in
theorem codes_eq : words1.filter isCode = codes1 := rfl
theorem w_codes : ∀ c ∈ words1.filter isCode, c.before args0 about1 = true := by
  rw [codes_eq]
  intro c hc
  simp only [codes1, List.mem_cons, List.not_mem_nil, or_false] at hc
  rcases hc with rfl | rfl | rfl | rfl | rfl
  · exact w_c0
  · exact w_c1
  · exact w_c2
  · exact w_c3
  · exact w_c4
set_option maxRecDepth 65536 in
theorem w_t1 : (words1.take 24).all (fun c => isCode c || c.before args0 about1) = true := by decide +kernel
set_option maxRecDepth 65536 in
theorem w_t2 : (words1.drop 24).all (fun c => isCode c || c.before args0 about1) = true := by decide +kernel
theorem w_tables : (allAtoms (Jvm.Cond.code x code maxLocals ret :: tables_1)).before args0 about1 = true := by
  rw [allAtoms_all]
  show words1.all (fun c => c.before args0 about1) = true
  refine all_split ?_ w_codes
  rw [← List.take_append_drop 24 words1, List.all_append, w_t1, w_t2]
  rfl
set_option maxRecDepth 65536 in
theorem w_case : (Jvm.Cond.and given_1 narrow_1).before args0 about1 = true := by decide +kernel
theorem w_applies : (headSpec (Jvm.Cond.code x code maxLocals ret :: tables_1) room_1).applies x e0.platform about1 = true :=
  (Spec.applies_iff w_frames).mpr ⟨w_running, w_runnable, w_alone, w_named, w_hears, w_ripe, w_room, w_tables⟩
theorem atStart : AtStart classFile x code maxLocals ret World_1 tables_1 room_1 Calls_1 rest_1 Pre_1 launch0 p0 e0 about1 theMethod args0 below0 :=
  ⟨lists_1, trivial, launch0.admits_env _ _ _, launch0.least_env, fairChoices_fair.cas, fairChoices_fair.clock, w_frames, w_args, w_heap, w_applies, trivial, trivial, w_case⟩
end start1
theorem witness_1 : WitnessClaimed_1 := ⟨start1.p0, start1.e0, start1.about1, start1.theMethod, start1.args0, start1.below0, start1.atStart⟩
end Jvm.Pilot.@@N@@
